/- laws.FnListRun. -/
import Derived.Test.YtjlaclgikmmmlaaLOne
set_option maxRecDepth 100000
set_option linter.unusedSimpArgs false
set_option linter.unusedVariables false
set_option maxHeartbeats 8000000
namespace Go.Proofs.Ytjlaclgikmmmlaa
open Go.Vc Go.Proofs
variable {w w' w0 : World} {F F' G : Nat → Prop} {K : Value → World → Prop} {Kp : KP}
theorem vers_len1 (xs : List Int) (steps : List Step) : (vers xs steps).1.length = steps.length + 1 := by
  have := (vers_len steps ([xs], [])).1
  simp only [vers]; simp at this; omega
theorem vers_len2 (xs : List Int) (steps : List Step) : (vers xs steps).2.length = steps.length := by
  have := (vers_len steps ([xs], [])).2
  simp only [vers]; simp at this; omega
theorem Fit.le {xs : List Int} {steps : List Step} (h : Fit xs steps) (j : Nat) (ys : List Int) (hj : (vers xs steps).1[j]? = some ys) : ys.length ≤ 6000 :=
  h.len steps.length j ys (by rw [List.take_length]; exact hj)
theorem vers_zero (xs : List Int) (steps : List Step) : (vers xs steps).1[0]? = some xs := by
  unfold vers
  have : ∀ (st : List (List Int) × List Bool), st.1[0]? = some xs → (steps.foldl adv st).1[0]? = some xs := by
    induction steps with
    | nil => intro st h; exact h
    | cons s r ih =>
      intro st h
      refine ih _ ?_
      simp only [adv]
      rw [List.getElem?_append_left (List.getElem?_eq_some_iff.1 h).1]; exact h
  exact this _ rfl
theorem Fit.base {xs : List Int} {steps : List Step} (h : Fit xs steps) : xs.length ≤ 6000 := h.le 0 xs (vers_zero xs steps)

theorem law_run {a0 a1 : Option Addr} {c0 c1 : Nat} {xs : List Int} {steps : List Step} (hG : Gl w) (h0 : IsInts w (.slice a0 xs.length c0) xs) (h0b : ∀ p, a0 = some p → p.block < w.heap.size) (h1 : Row w a1 (steps.flatMap Step.cells))
    (hK : ∀ w', (∀ {M}, Frm M w w') → K (.bool true) w') : Calls Try.prog 5 #[.slice a0 xs.length c0, .slice a1 steps.length c1] w (ret K Kp) := by
  refine vc5_calls ?_
  simp [-getElem?_pos, -Array.getElem?_eq_getElem, List.getElem?_cons_zero, vc5, Br_dec]
  refine ⟨fun _ => hK w Frm.refl, fun hx31 => ⟨fun _ => hK w Frm.refl, fun hn31 => ?_⟩⟩
  have hfr0 : ∀ {w'}, (∀ {M}, Frm M w w') → Gl w' := fun hf => hG.frame (hf (M := fun _ => False)) (by simp)
  have hro : Row w a0 (i64s xs) := by obtain ⟨a, c, e, _, hr, _⟩ := h0; cases e; exact hr
  refine lfits_ok h0 h1 (by omega) (by omega) (fun w1 hf1 => ?_) (fun hfit h12 w1 hf1 => ?_)
  · simp [-getElem?_pos, -Array.getElem?_eq_getElem, List.getElem?_cons_zero]
    exact awake_ok (hfr0 hf1) fun w2 hf2 => hK w2 fun {M} => (hf1 (M := M)).trans (hf2 (M := M)) fun _ h _ => h
  simp [-getElem?_pos, -Array.getElem?_eq_getElem, List.getElem?_cons_zero]
  have hs1 : w.heap.size ≤ w1.heap.size := (hf1 (M := fun _ => False)).size
  have hxl := hfit.base
  have hcost := hfit.cost
  refine spec_versions_ok (h0.frame (hf1 (M := fun _ => False)) (by simp)) (fun b hb => ?_) (h1.frame (hf1 (M := fun _ => False)) (by simp)) hfit.all (by omega) (fun i j ys hj => by have := hfit.len i j ys hj; omega) fun l p w2 hr2 => ?_
  · cases a0 with
    | none => cases hb
    | some q => cases hb; exact Nat.lt_of_lt_of_le (h0b q rfl) hs1
  obtain ⟨b, o, c, cs, e, fa, fb, rfl, hb, hu⟩ := hr2.laid
  have hfl := own_bools hr2.flags
  have hf2 : ∀ {M}, Frm M w w2 := fun {M} => (hf1 (M := M)).trans (hr2.frm (M := M)) fun _ h _ => h
  simp [-getElem?_pos, -Array.getElem?_eq_getElem, List.getElem?_cons_zero]
  refine to_ok (h1.frame (hf2 (M := fun _ => False)) (by simp)) (by omega) fun v w3 hf3 hv => ?_
  obtain ⟨a3, c3, rfl, _, hr3, _⟩ := own_slice hv
  have hf03 : ∀ {M}, Frm M w w3 := fun {M} => (hf2 (M := M)).trans (hf3 (M := M)) fun _ h _ => h
  refine run_ok (hro.frame (hf03 (M := fun _ => False)) (by simp)) hr3 (hfr0 hf03) hfit.all (by omega) (by omega) (fun j ys hj => by have := hfit.le j ys hj; omega) fun l4 p4 w4 hr4 => ?_
  obtain ⟨b4, o4, c4, cs4, e4, fa4, fb4, rfl, hb4, hu4⟩ := hr4.laid
  have hfl4 := own_bools hr4.flags
  have hf34 : ∀ {M}, Frm M w2 w4 := fun {M} => (hf3 (M := M)).trans (hr4.frm (M := M)) fun _ h _ => h
  have hf4 : ∀ {M}, Frm M w w4 := fun {M} => (hf2 (M := M)).trans (hf34 (M := M)) fun _ h _ => h
  simp [-getElem?_pos, -Array.getElem?_eq_getElem, List.getElem?_cons_zero]
  refine equalB_ok hfl4 (hfl.frame (hf34 (M := fun _ => False)) (by simp)) (by rw [vers_len2]; omega) fun w5 hd5 => ?_
  simp [-getElem?_pos, -Array.getElem?_eq_getElem, List.getElem?_cons_zero]
  have hf45 : ∀ {M}, Frm M w4 w5 := hd5.frm
  obtain ⟨I, hI⟩ : ∃ I : Value → World → Prop, ∀ v w', I v w' ↔ ∃ (i : Nat), v = .int .i64 i ∧ i ≤ steps.length + 1 ∧ ∀ {M}, Frm M w4 w' := ⟨_, fun _ _ => Iff.rfl⟩
  obtain ⟨μ, hμ⟩ : ∃ μ : Value → World → Nat, ∀ (j : Nat) w, μ (.int .i64 j) w = steps.length + 1 - j := ⟨fun v _ => steps.length + 1 - (match v with | .int _ j => j.toNat | _ => 0), fun _ _ => rfl⟩
  refine Lp.intro I μ ⟨(hI _ _).2 ⟨0, rfl, by omega, hf45⟩, ?_⟩
  intro wl v hIl
  obtain ⟨i, rfl, hi, hfr⟩ := (hI _ _).1 hIl
  simp only [op_lss, Br_dec]
  have hfl0 : ∀ {M}, Frm M w wl := fun {M} => (hf4 (M := M)).trans (hfr (M := M)) fun _ h _ => h
  refine ⟨fun hlt => ?_, fun hnl => ?_⟩
  · have hi' : i < steps.length + 1 := by omega
    obtain ⟨ys, hys⟩ : ∃ ys, (vers xs steps).1[i]? = some ys := ⟨_, List.getElem?_eq_getElem (by rw [vers_len1]; exact hi')⟩
    obtain ⟨u1, g1, g2, g3⟩ := hu i ys hys
    obtain ⟨u2, k1, k2, k3⟩ := hu4 i ys hys
    have hf2l : ∀ {M}, Frm M w2 wl := fun {M} => (hf34 (M := M)).trans (hfr (M := M)) fun _ h _ => h
    have hbl := (hf2l (M := fun _ => False)).get hb (by simp)
    have hbl4 := (hfr (M := fun _ => False)).get hb4 (by simp)
    simp [-getElem?_pos, -Array.getElem?_eq_getElem, List.getElem?_cons_zero, add_spot, hbl, hbl4, g1, k1]
    refine ⟨by omega, ?_⟩
    refine equal_ok (k2.frame (hfr (M := fun _ => False)) (by simp)) (g2.frame (hf2l (M := fun _ => False)) (by simp)) (by have := hfit.le i ys hys; omega) fun w6 hd6 => ?_
    simp [-getElem?_pos, -Array.getElem?_eq_getElem, List.getElem?_cons_zero]
    rw [wrap_small _ rfl (by omega) (by omega)]
    refine ⟨(hI _ _).2 ⟨i + 1, rfl, by omega, fun {M} => (hfr (M := M)).trans hd6.frm fun _ h _ => h⟩, ?_⟩
    have e : (i : Int) + 1 = ((i + 1 : Nat) : Int) := rfl
    rw [e, hμ, hμ]; omega
  · exact awake_ok (hfr0 hfl0) fun w6 hf6 => hK w6 fun {M} => (hfl0 (M := M)).trans (hf6 (M := M)) fun _ h _ => h
end Go.Proofs.Ytjlaclgikmmmlaa
