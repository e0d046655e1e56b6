/- thrown: whether a function panics. -/
import Derived.Test.YtjlaclgikmmmlaaLSlice
import Derived.Tactics
import Derived.Tactics2
import Derived.Defers
import Derived.Recover
import Derived.Laws.Pointers
set_option maxRecDepth 100000
set_option linter.unusedSimpArgs false
set_option linter.unusedVariables false
namespace Go.Proofs.Ytjlaclgikmmmlaa
open Go.Vc Go.Proofs

theorem catch_panicking (p : Addr) (x : Bool) (u : TypeId) (pv : Value) (older : List PanicEntry) (w : World) (hc : w.cell? p = some (.bool x)) (hz : w.frozen? p = false) :
    CallsD Try.prog 59 #[.pointer (some p)] (.panicking ({ v := .iface u pv, recovered := false } :: older)) w fun e u' w' =>
      e = .returned (.tuple #[]) ∧ u' = .panicking ({ v := .iface u pv, recovered := true } :: older) ∧ w' = w.setCell p (.bool true) := by
  refine callsD_of_wpS Try.func59 rfl fun c₀ cs hu => ?_
  apply wpS_region
  simp [wpOpsS, go_sem, recoverD, hu, Try.ntmps59, Exit.thenS, hc, hz, bodyPostS, results, Try.results59]

theorem catch_idle (p : Addr) (x : Bool) (w : World) (hc : w.cell? p = some (.bool x)) (hz : w.frozen? p = false) :
    CallsD Try.prog 59 #[.pointer (some p)] .returning w fun e u' w' => e = .returned (.tuple #[]) ∧ u' = .returning ∧ w' = w.setCell p (.bool false) := by
  refine callsD_of_wpS Try.func59 rfl fun c₀ cs hu => ?_
  apply wpS_region
  simp [wpOpsS, go_sem, recoverD, hu, Try.ntmps59, Exit.thenS, hc, hz, bodyPostS, results, Try.results59]
  cases c₀
  simp_all

theorem cell_at {w : World} {b : Nat} {v : Value} (h : w.heap[b]? = some (.cells #[v] 4 (0, 0))) : w.cell? ⟨b, 0, none⟩ = some v := by simp [World.cell?, h]
theorem frozen_at {w : World} {b : Nat} {v : Value} (h : w.heap[b]? = some (.cells #[v] 4 (0, 0))) : w.frozen? ⟨b, 0, none⟩ = false := by simp [World.frozen?, h]
theorem set_at {w : World} {b : Nat} {v u : Value} (h : w.heap[b]? = some (.cells #[v] 4 (0, 0))) : w.setCell ⟨b, 0, none⟩ u = w.upd b (.cells #[u] 4 (0, 0)) := by
  rw [setCell_upd (p := ⟨b, 0, none⟩) h rfl]; rfl

theorem thrown_ok {f : FuncId} {x y : Array Value} {w : World} {K : Value → World → Prop} {Kp : KP} (hf : callFn Try.prog f = true)
    (hcall : Calls Try.prog f (x ++ y) (w.alloc (.cells #[.bool false] 4)) (ret (fun _ w' => w'.heap[w.heap.size]? = some (.cells #[.bool false] 4 (0, 0)) ∧ K (.bool false) w')
      (fun ch w' => ∃ u pv, ch = [{ v := .iface u pv, recovered := false }] ∧ w'.heap[w.heap.size]? = some (.cells #[.bool false] 4 (0, 0)) ∧ K (.bool true) (w'.upd w.heap.size (.cells #[.bool true] 4 (0, 0)))))) :
    Calls Try.prog 29 #[.func (.func f) x y] w (ret K Kp) := by
  have hmf : ∀ (fn : Fn) (first cap : Array Value) (w : World), (Instr.makeFunc fn first cap).run Try.prog w = .ok (.func fn first cap) w := fun _ _ _ _ => rfl
  go_enter_defers Try.func29, Try.ntmps29
  go_wp2
  rw [callFunc_run hf, Oper.upon_enter]
  refine hcall.mono ?_
  intro e w' he
  cases e with
  | returned v =>
    obtain ⟨hh, hK⟩ := he
    have hc := cell_at hh
    have hz := frozen_at hh
    have hs := fun u => set_at (u := u) hh
    dsimp only
    go_wp2
    have hid : w'.upd w.heap.size (.cells #[.bool false] 4) = w' := upd_id hh
    rw [hid]
    refine leaves_cons (f := 59) (args := #[.pointer (some ⟨w.heap.size, 0, none⟩)]) (by simp) (by simp [go_sem]) ?_
    refine (catch_idle ⟨w.heap.size, 0, none⟩ false w' hc hz).mono ?_
    rintro e u' w'' ⟨rfl, rfl, rfl⟩
    rw [hs, hid]
    simp [Leaves, settle, results, Try.results29, go_sem, hc]
    exact hK
  | panicked ch =>
    obtain ⟨u, pv, rfl, hh, hK⟩ := he
    have hc := cell_at hh
    have hz := frozen_at hh
    have hs := fun u => set_at (u := u) hh
    have hc2 := cell_at (heap_upd_same (o := .cells #[.bool true] 4 (0, 0)) hh)
    refine leaves_cons (f := 59) (args := #[.pointer (some ⟨w.heap.size, 0, none⟩)]) (by simp) (by simp [go_sem]) ?_
    refine (catch_panicking ⟨w.heap.size, 0, none⟩ false u pv [] w' hc hz).mono ?_
    rintro e u' w'' ⟨rfl, rfl, rfl⟩
    rw [hs]
    simp [Leaves, settle, results, Try.results29, go_sem, hc2]
    exact hK
  | outgrown => exact he.elim
end Go.Proofs.Ytjlaclgikmmmlaa
