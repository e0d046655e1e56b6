/- NewList, and rows of values. -/
import Derived.Test.YtjlaclgikmmmlaaLPrep
set_option maxRecDepth 100000
set_option linter.unusedSimpArgs false
set_option linter.unusedVariables false
namespace Go.Proofs.Ytjlaclgikmmmlaa
open Go.Vc Go.Proofs
variable {m : Bool} {w w' w0 : World} {d : Nat} {v rv : Value} {g g' : Int → Option Int} {F F' : Nat → Prop} {K : Value → World → Prop} {Kp : KP}

theorem Rep.weak : ∀ {d : Nat} {v : Value} {g : Int → Option Int} {F : Nat → Prop}, Rep m w d v g F → Rep false w d v g F
  | 0, v, g, F, h => h
  | d + 1, v, g, F, h => by
    obtain ⟨b, cs, vs, Fs, h1, h2, h3, h4, h5, h6⟩ := h
    exact ⟨b, cs, vs, Fs, h1, h2, h3, h4, fun i hi => (h5 i hi).imp id Rep.weak, fun i hi b' hb => ⟨(h6 i hi b' hb).1, fun h => nomatch h⟩⟩
theorem IsList.weak {b : Nat} {xs : List Int} {N : Nat} (h : IsList m w b xs N F) : IsList false w b xs N F := by
  obtain ⟨rv, d, o, Ft, h1, h2, h3, h4, h5⟩ := h
  exact ⟨rv, d, o, Ft, h1, h2.weak, h3, fun k hk => ⟨(h4 k hk).1, fun h => nomatch h⟩, h5⟩
theorem Dp.le {d o n N N' : Nat} (h : Dp d o n N) (hN : N ≤ N') : Dp d o n N' := by
  obtain ⟨h1, h2, h3, h4, h5⟩ := h
  exact ⟨h1, h2, by omega, by omega, fun h => by have := h5 h; omega⟩
theorem IsList.le {b : Nat} {xs : List Int} {N N' : Nat} (h : IsList m w b xs N F) (hN : N ≤ N') : IsList m w b xs N' F := by
  obtain ⟨rv, d, o, Ft, h1, h2, h3, h4, h5⟩ := h
  exact ⟨rv, d, o, Ft, h1, h2, h3, h4, h5.le hN⟩

def i64s (xs : List Int) : List Value := xs.map (.int .i64)
theorem i64s_get {xs : List Int} {j : Nat} (h : j < xs.length) : (i64s xs)[j]? = some (.int .i64 xs[j]) := by simp [i64s, h]

theorem new_list_ok {a : Option Addr} {c : Nat} {xs : List Int} (ha : Row w a (i64s xs)) (hn : xs.length < 2 ^ 19)
    (hK : ∀ b w' F', (∀ {M}, Frm M w w') → IsList true w' b xs xs.length F' → (∀ k, F' k → w.heap.size ≤ k) → K (ptr b) w') :
    Calls Try.prog 51 #[.slice a xs.length c] w (ret K Kp) := by
  refine vc51_calls ?_
  have hz : (Value.agg zero_103).cells = zero_103 := rfl
  simp [-getElem?_pos, -Array.getElem?_eq_getElem, List.getElem?_cons_zero, vc51]
  obtain ⟨I, hI⟩ : ∃ I : Value → World → Prop, ∀ v w', I v w' ↔ ∃ (j : Nat) (F' : Nat → Prop), v = .int .i64 j ∧ j ≤ xs.length ∧ (∀ {M}, Frm M w w') ∧ IsList true w' (w.heap.size + 1) (xs.take j) j F' ∧ (∀ k, F' k → w.heap.size ≤ k) := ⟨_, fun _ _ => Iff.rfl⟩
  refine Lp.intro I (fun v _ => xs.length - (match v with | .int _ j => j.toNat | _ => 0)) ⟨(hI _ _).2 ⟨0, fun b => b = w.heap.size ∨ b = w.heap.size + 1, rfl, by omega, ?_, ?_, ?_⟩, ?_⟩
  · exact (Frm.alloc w _).trans (Frm.alloc _ _) fun _ h _ => h
  · refine ⟨.iface 104 (ptr w.heap.size), 0, 0, fun b => b = w.heap.size, hp_alloc_eq (by simp), ⟨w.heap.size, zero_103, rfl, rfl, ?_, rfl, ⟨0, rfl, by decide⟩, fun j hj => ⟨0, zero103 j hj, fun y hy => ?_⟩⟩, .inr rfl, fun k hk => ⟨.inl hk, fun _ => by omega⟩, by simp [Dp]⟩
    · rw [hp_alloc_ne (by simp)]; exact hp_alloc_eq rfl
    · simp [win] at hy
  · omega
  · intro wl s hs
    obtain ⟨j, F', rfl, hj, hf, hl, hF⟩ := (hI _ _).1 hs
    simp only [op_lss, Br_dec]
    refine ⟨fun hlt => ?_, fun hnl => ?_⟩
    · have hj' : j < xs.length := by omega
      rcases ha.frame (hf (M := fun _ => False)) (by simp) with h | ⟨b, o, cs, e, fz, rfl, h2, h3⟩
      · simp [i64s] at h; subst h; simp at hj'
      · have hv := h3 j _ (i64s_get hj')
        simp [-getElem?_pos, -Array.getElem?_eq_getElem, add_spot, h2, hv]
        refine ⟨by omega, ?_⟩
        refine append_ok hl (by omega) fun b' w' F2 hf2 hl2 hF2 hb' => ?_
        rw [wrap_small _ rfl (by omega) (by omega)]
        refine ⟨(hI _ _).2 ⟨j + 1, F2, rfl, by omega, fun {M} => (hf (M := M)).trans hf2 fun k hk hlt => by have := hF k hk.2; omega, ?_, fun k hk => ?_⟩, by simp; omega⟩
        · rw [hb' rfl] at hl2
          rw [List.take_succ_eq_append_getElem hj']; exact hl2
        · rcases hF2 k hk with h | h
          · exact hF k h
          · exact Nat.le_trans (hf (M := fun _ => False)).size h
    · have : j = xs.length := by omega
      subst this
      rw [List.take_length] at hl
      exact hK _ _ _ hf hl hF
end Go.Proofs.Ytjlaclgikmmmlaa
