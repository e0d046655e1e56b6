/- laws.listAwake, listOne. -/
import Derived.Test.YtjlaclgikmmmlaaLTo
set_option maxRecDepth 100000
set_option linter.unusedSimpArgs false
set_option linter.unusedVariables false
set_option maxHeartbeats 8000000
namespace Go.Proofs.Ytjlaclgikmmmlaa
open Go.Vc Go.Proofs
variable {w w' w0 : World} {F F' G : Nat → Prop} {K : Value → World → Prop} {Kp : KP}
theorem Runs.laid {xs : List Int} {steps : List Step} {l p : Value} (h : Runs w0 w xs steps l p) :
    ∃ b o c cs e fa fb, l = .slice (some ⟨b, o, none⟩) (steps.length + 1) c ∧ w.heap[b]? = some (.cells cs e (fa, fb)) ∧ ∀ (j : Nat) (ys : List Int), (vers xs steps).1[j]? = some ys → ∃ u, cs[o + j]? = some u ∧ IsInts w u ys ∧ u.oneCell' = true := by
  obtain ⟨hf, ⟨us, hown, hus⟩, _⟩ := h
  obtain ⟨a, c, rfl, hc, hr, ha, _⟩ := own_slice hown
  have hl : us.length = steps.length + 1 := by have := hown.1; simpa using this
  rcases hr with rfl | ⟨b, o, cs, e, fz, rfl, h2, h3⟩
  · simp at hl
  · obtain ⟨fa, fb⟩ := fz
    refine ⟨b, o, c, cs, e, fa, fb, rfl, h2, fun j ys hj => ?_⟩
    obtain ⟨u, hu, hi⟩ := hus j ys hj
    exact ⟨u, h3 j u hu, hi, by obtain ⟨a, c, rfl, _⟩ := hi; rfl⟩
theorem new_ints {ys : List Int} {cs : Array Value} {e : TypeId} {n : Nat} (h : w.heap[n]? = some (.cells cs e (0, 0))) (hc : cs.toList = i64s ys) : IsInts w (.slice (some ⟨n, 0, none⟩) ys.length ys.length) ys :=
  ⟨_, _, rfl, Nat.le_refl _, .inr ⟨n, 0, cs, e, _, rfl, h, fun j v hj => by rw [← hc] at hj; simpa using hj⟩, fun h => nomatch h⟩

theorem awake_ok (hG : Gl w) (hK : ∀ w', (∀ {M}, Frm M w w') → K (.bool true) w') : Calls Try.prog 9 #[] w (ret K Kp) := by
  refine vc9_calls ?_
  simp [-getElem?_pos, -Array.getElem?_eq_getElem, List.getElem?_cons_zero, vc9]
  have hfa : ∀ {M}, Frm M w ((w.alloc (.cells #[.int .i64 7, .int .i64 8] 2)).alloc (.cells #[.int .u8 0, .int .i64 0, .int .i64 0, .int .i64 0, .int .i64 9] 26)) := (Frm.alloc _ _).trans (Frm.alloc _ _) fun _ h _ => h
  have hst : ∀ (ys : List Int) (j : Nat), (vers [7, 8] [⟨0, 0, 0, 0, 9⟩]).1[j]? = some ys → ys.length < 2 ^ 19 := fun ys j hj => by
    have e : (vers [7, 8] [⟨0, 0, 0, 0, 9⟩]).1 = [[7, 8], [7, 8, 9]] := rfl
    rw [e] at hj
    match j, hj with
    | 0, h => simp at h; subst h; simp
    | 1, h => simp at h; subst h; simp
  refine run_ok (xs := [7, 8]) (steps := [⟨0, 0, 0, 0, 9⟩]) (.inr ⟨w.heap.size, 0, _, _, _, rfl, hp_alloc_lt hp_alloc_new, ?_⟩) (.inr ⟨w.heap.size + 1, 0, _, _, _, rfl, hp_alloc_eq (by simp), ?_⟩) (hG.frame (hfa (M := fun _ => False)) (by simp)) ?_ (by decide) (by decide) (fun j ys => hst ys j) fun l p w1 hr => ?_
  · intro j v hj
    match j, hj with
    | 0, h => simpa [i64s] using h
    | 1, h => simpa [i64s] using h
  · intro j v hj
    simpa [Step.cells] using hj
  · intro i hi
    have : i = 0 := by simpa using hi
    subst this
    exact ⟨⟨by simp, by simp⟩, by simp⟩
  · obtain ⟨b, o, c, cs, e, fa, fb, rfl, hb, hu⟩ := hr.laid
    obtain ⟨u0, hu0, hi0, ho0⟩ := hu 0 [7, 8] rfl
    obtain ⟨u1, hu1, hi1, ho1⟩ := hu 1 [7, 8, 9] rfl
    have hfl := own_bools hr.flags
    have hf1 : ∀ {M}, Frm M _ w1 := fun {M} => hr.frm (M := M)
    have hnb : b ≠ w1.heap.size := Nat.ne_of_lt (lt_of_get hb)
    simp [-getElem?_pos, -Array.getElem?_eq_getElem, List.getElem?_cons_zero, add_spot, hb, Br_dec] at hu0 hu1 ⊢
    refine ⟨u0, hu0, ?_⟩
    refine equal_ok (xs := [7, 8]) (ys := [7, 8]) (hi0.frame (Frm.alloc (M := fun _ => False) _ _) (by simp)) (new_ints (ys := [7, 8]) hp_alloc_new rfl) (by decide) fun w2 hd2 => ?_
    have hf2 : ∀ {M}, Frm M w1 w2 := (Frm.alloc _ _).trans hd2.frm fun _ h _ => h
    have hb2 := hf2.get (M := fun _ => False) hb (by simp)
    simp [-getElem?_pos, -Array.getElem?_eq_getElem, List.getElem?_cons_zero, add_spot, hb2, hu1]
    refine equal_ok (xs := [7, 8, 9]) (ys := [7, 8, 9]) (hi1.frame (hf2.trans (Frm.alloc (M := fun _ => False) _ _) fun _ h _ => h) (by simp)) (new_ints (ys := [7, 8, 9]) hp_alloc_new rfl) (by decide) fun w3 hd3 => ?_
    have hf3 : ∀ {M}, Frm M w1 w3 := fun {M} => (hf2 (M := M)).trans ((Frm.alloc _ _).trans hd3.frm fun _ h _ => h) fun _ h _ => h
    simp [-getElem?_pos, -Array.getElem?_eq_getElem, List.getElem?_cons_zero]
    have e1 : (vers [7, 8] [⟨0, 0, 0, 0, 9⟩]).2 = [false] := rfl
    rw [e1] at hfl
    refine equalB_ok (xs := [false]) (ys := [false]) (hfl.frame (hf3.trans (Frm.alloc (M := fun _ => False) _ _) fun _ h _ => h) (by simp)) ⟨_, 1, rfl, .inr ⟨_, _, _, _, _, rfl, hp_alloc_new, fun j v hj => by simpa [bools] using hj⟩⟩ (by decide) fun w4 hd4 => ?_
    exact hK w4 fun {M} => (((hfa (M := M)).trans (hf1 (M := M)) fun _ h _ => h).trans (hf3 (M := M)) fun _ h _ => h).trans ((Frm.alloc _ _).trans hd4.frm fun _ h _ => h) fun _ h _ => h

/-- What listOne tells. -/
theorem one_ok {a0 a1 : Option Addr} {c0 c1 : Nat} {xs : List Int} {steps : List Step} (h0 : Row w a0 (i64s xs)) (h1 : Row w a1 (steps.flatMap Step.cells)) (hG : Gl w)
    (hfit : AllFit steps) (hN : xs.length + cost steps < 2 ^ 19) (hn : steps.length < 2 ^ 19) (hxl : ∀ (j : Nat) (ys : List Int), (vers xs steps).1[j]? = some ys → ys.length < 2 ^ 19)
    (hno : ¬ true ∈ (vers xs steps).2) {ys : List Int} (hys : (vers xs steps).1[steps.length]? = some ys)
    (hK : ∀ u w', (∀ {M}, Frm M w w') → IsInts w' u ys → K (.tuple #[u, .bool true]) w') :
    Calls Try.prog 10 #[.slice a0 xs.length c0, .slice a1 steps.length c1] w (ret K Kp) := by
  refine vc10_calls ?_
  simp only [vc10, call_14]
  refine run_ok h0 h1 hG hfit hN hn hxl fun l p w1 hr => ?_
  obtain ⟨b, o, c, cs, e, fa, fb, rfl, hb, hu⟩ := hr.laid
  obtain ⟨u, hu1, hi1, ho1⟩ := hu _ ys hys
  have hfl := own_bools hr.flags
  simp [-getElem?_pos, -Array.getElem?_eq_getElem, List.getElem?_cons_zero, add_spot, hb]
  have e1 : IntKind.i64.wrap ((steps.length : Int) + 1) = ((steps.length + 1 : Nat) : Int) := wrap_small _ rfl (by omega) (by omega)
  refine ⟨fun hne => absurd (by rw [e1]; rfl) hne, fun _ => ?_⟩
  have hpl : (vers xs steps).2.length < 2 ^ 31 := by
    have := (vers_len steps ([xs], [])).2
    simp only [vers]; simp at this; omega
  refine contains_ok hfl hpl fun w2 hd2 => ?_
  have hb2 := (hd2.frm (M := fun _ => False)).get hb (by simp)
  simp [-getElem?_pos, -Array.getElem?_eq_getElem, List.getElem?_cons_zero, add_spot, hb2, hno, hu1]
  exact ⟨by omega, hK u w2 (fun {M} => (hr.frm (M := M)).trans hd2.frm fun _ h _ => h) (hi1.frame (hd2.frm (M := fun _ => False)) (by simp))⟩
end Go.Proofs.Ytjlaclgikmmmlaa
