/- laws.listTo, listFits. -/
import Derived.Test.YtjlaclgikmmmlaaLFits
set_option maxRecDepth 100000
set_option linter.unusedSimpArgs false
set_option linter.unusedVariables false
set_option maxHeartbeats 8000000
namespace Go.Proofs.Ytjlaclgikmmmlaa
open Go.Vc Go.Proofs
variable {w w' w0 : World} {F F' G : Nat → Prop} {K : Value → World → Prop} {Kp : KP}
theorem ap27 : apOf Try.prog 27 = some (26, 5, 40) := by kernel_rfl
theorem steps_len (steps : List Step) : (steps.flatMap Step.cells).length = steps.length * 5 := flatMap_len cells_len steps
theorem to_ok {a1 : Option Addr} {c1 : Nat} {steps : List Step} (h1 : Row w a1 (steps.flatMap Step.cells)) (hn : steps.length < 2 ^ 19)
    (hK : ∀ v w', (∀ {M}, Frm M w w') → w'.ownsRow w.heap.size 26 5 v steps.length (steps.flatMap Step.cells) → K v w') : Calls Try.prog 15 #[.slice a1 steps.length c1] w (ret K Kp) := by
  refine vc15_calls ?_
  simp [-getElem?_pos, -Array.getElem?_eq_getElem, List.getElem?_cons_zero, vc15]
  obtain ⟨I, hI⟩ : ∃ I : Value → Value → World → Prop, ∀ l v w', I l v w' ↔ ∃ (i : Nat), v = .int .i64 i ∧ i ≤ steps.length ∧ (∀ {M}, Frm M w w') ∧ w'.ownsRow w.heap.size 26 5 l i ((steps.take i).flatMap Step.cells) := ⟨_, fun _ _ _ => Iff.rfl⟩
  obtain ⟨μ, hμ⟩ : ∃ μ : Value → Value → World → Nat, ∀ l (j : Nat) w, μ l (.int .i64 j) w = steps.length - j := ⟨fun _ v _ => steps.length - (match v with | .int _ j => j.toNat | _ => 0), fun _ _ _ => rfl⟩
  refine Lp.intro I μ ⟨(hI _ _ _).2 ⟨0, rfl, by omega, Frm.refl, own_nil⟩, ?_⟩
  intro wl l v hIl
  obtain ⟨i, rfl, hi, hfr, hown⟩ := (hI _ _ _).1 hIl
  simp only [op_lss, Br_dec]
  refine ⟨fun hlt => ?_, fun hnl => ?_⟩
  · have hi' : i < steps.length := by omega
    obtain ⟨bp, o, cs, e, ⟨fa, fb⟩, rfl, hcs, hsz, hext⟩ := (h1.frame (hfr (M := fun _ => False)) (by simp)).part cells_len (by decide) hi'
    have hls : List.take 5 (List.drop (o + i * 5) cs.toList) = steps[i].cells := by
      have := congrArg Array.toList hext
      simpa using this
    have how : ow #[Value.int IntKind.u8 0, Value.int IntKind.i64 0, Value.int IntKind.i64 0, Value.int IntKind.i64 0, Value.int IntKind.i64 0] 0 steps[i].cells = steps[i].cells.toArray := ow_all rfl
    have hone : ∀ u, u ∈ steps[i].cells → u.oneCell' = true := by intro u hu; simp [Step.cells] at hu; rcases hu with rfl | rfl | rfl | rfl | rfl <;> rfl
    have hks : steps[i].cells.toArray = #[.int .u8 steps[i].kind, .int .i64 steps[i].fro, .int .i64 steps[i].index, .int .i64 steps[i].fin, .int .i64 steps[i].value] := rfl
    simp [-getElem?_pos, -Array.getElem?_eq_getElem, List.getElem?_cons_zero, add_spot, hcs, hsz, and_assoc, hp_alloc_eq, alloc_upd, hls, how, hks]
    refine ⟨hi', hone, ?_⟩
    rw [← hks]
    have hob := own_lt hown
    have hsw : w.heap.size ≤ wl.heap.size := (hfr (M := fun _ => False)).size
    have hfb : ∀ {M}, Frm M wl ((wl.alloc (.cells steps[i].cells.toArray 59)).alloc (.cells steps[i].cells.toArray 26)) := (Frm.alloc _ _).trans (Frm.alloc _ _) fun _ h _ => h
    have hr1 : Row ((wl.alloc (.cells steps[i].cells.toArray 59)).alloc (.cells steps[i].cells.toArray 26)) (some ⟨wl.heap.size + 1, 0, none⟩) steps[i].cells := .inr ⟨_, _, _, _, _, rfl, hp_alloc_eq (by simp), fun j v hj => by simpa using hj⟩
    refine op_append (base := w.heap.size) (size := 5) (n := i) (m := 1) (xs := (steps.take i).flatMap Step.cells) (news := steps[i].cells) ap27 (own_frame hown (hfb (M := fun _ => False)) (by simp)) hr1 rfl hone (by simp) (by omega) (by simp; omega) fun l4 w4 hl4 hf4 hbl4 => ?_
    rw [wrap_small _ rfl (by omega) (by omega)]
    refine ⟨(hI _ _ _).2 ⟨i + 1, rfl, by omega, fun {M} => ((hfr (M := M)).trans (hfb (M := M)) fun _ h _ => h).trans hf4 fun k hk hlt => by have := hob k hk.symm; omega, ?_⟩, ?_⟩
    · rw [List.take_succ_eq_append_getElem hi', List.flatMap_append]
      simpa using hl4
    · have e : (i : Int) + 1 = ((i + 1 : Nat) : Int) := rfl
      rw [e, hμ, hμ]; omega
  · have : i = steps.length := by omega
    subst this
    rw [List.take_length] at hown
    exact hK _ _ hfr hown

theorem lfits_ok {u0 : Value} {a1 : Option Addr} {c1 : Nat} {xs : List Int} {steps : List Step} (h0 : IsInts w u0 xs) (h1 : Row w a1 (steps.flatMap Step.cells)) (hxs : xs.length < 2 ^ 31) (hn : steps.length < 2 ^ 31)
    (hf : ∀ w', (∀ {M}, Frm M w w') → K (.bool false) w') (ht : Fit xs steps → steps.length ≤ 12 → ∀ w', (∀ {M}, Frm M w w') → K (.bool true) w') :
    Calls Try.prog 12 #[u0, .slice a1 steps.length c1] w (ret K Kp) := by
  refine vc12_calls ?_
  simp [-getElem?_pos, -Array.getElem?_eq_getElem, List.getElem?_cons_zero, vc12, Br_dec]
  refine ⟨fun h12 => ?_, fun _ => hf w Frm.refl⟩
  exact fits_ok h0 h1 hxs (by omega) hf fun h => ht h (by omega)
end Go.Proofs.Ytjlaclgikmmmlaa
