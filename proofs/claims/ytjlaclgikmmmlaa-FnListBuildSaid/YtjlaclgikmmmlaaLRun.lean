/- got, ListRun. -/
import Derived.Test.YtjlaclgikmmmlaaLVers
set_option maxRecDepth 100000
set_option linter.unusedSimpArgs false
set_option linter.unusedVariables false
set_option maxHeartbeats 4000000
namespace Go.Proofs.Ytjlaclgikmmmlaa
open Go.Vc Go.Proofs
variable {w w' w0 : World} {F F' G : Nat → Prop} {K : Value → World → Prop} {Kp : KP}
theorem ap22 : apOf Try.prog 22 = some (2, 1, 8) := by kernel_rfl
theorem ap35 : apOf Try.prog 35 = some (22, 1, 24) := by kernel_rfl
/-- A slice of whole numbers. -/
def IsInts (w : World) (u : Value) (ys : List Int) : Prop := ∃ a c, u = .slice a ys.length c ∧ ys.length ≤ c ∧ Row w a (i64s ys) ∧ (a = none → ys = [])
theorem IsInts.frame {M : Nat → Prop} {u : Value} {ys : List Int} (h : IsInts w u ys) (hf : Frm M w w') (hM : ∀ b, u.ownBlock = some b → ¬ M b) : IsInts w' u ys := by
  obtain ⟨a, c, rfl, hc, hr, ha⟩ := h
  exact ⟨a, c, rfl, hc, hr.frame hf fun p hp => hM _ (by subst hp; rfl), ha⟩
theorem own_ints {base : Nat} {v : Value} {ys : List Int} (h : w.ownsRow base 2 1 v ys.length (i64s ys)) : IsInts w v ys := by
  obtain ⟨a, c, rfl, hc, hr, ha, _⟩ := own_slice h
  exact ⟨a, c, rfl, hc, hr, fun e => List.eq_nil_of_length_eq_zero (ha e)⟩

theorem got_ok {b N : Nat} {xs : List Int} (hl : IsList false w b xs N G) (hG : ∀ k, G k → k < w.heap.size) (hN : N < 2 ^ 19) (hx : xs.length < 2 ^ 19)
    (hK : ∀ v w', (∀ {M}, Frm M w w') → w'.ownsRow w.heap.size 2 1 v xs.length (i64s xs) → K v w') : Calls Try.prog 26 #[ptr b] w (ret K Kp) := by
  refine vc26_calls ?_
  obtain ⟨I, hI⟩ : ∃ I : Value → Value → World → Prop, ∀ l v w', I l v w' ↔ ∃ (i : Nat), v = .int .i64 i ∧ i ≤ xs.length ∧ (∀ {M}, Frm M w w') ∧ w'.ownsRow w.heap.size 2 1 l i (i64s (xs.take i)) := ⟨_, fun _ _ _ => Iff.rfl⟩
  obtain ⟨μ, hμ⟩ : ∃ μ : Value → Value → World → Nat, ∀ l (j : Nat) w, μ l (.int .i64 j) w = xs.length - j := ⟨fun _ v _ => xs.length - (match v with | .int _ j => j.toNat | _ => 0), fun _ _ _ => rfl⟩
  refine Lp.intro I μ ⟨(hI _ _ _).2 ⟨0, rfl, by omega, Frm.refl, own_nil⟩, ?_⟩
  intro wl _ l v hIl
  obtain ⟨i, rfl, hi, hf, hown⟩ := (hI _ _ _).1 hIl
  have hl' := hl.frame (hf (M := fun _ => False)) (by simp)
  simp only [call_57]
  refine len_ok hl' ?_
  simp only [op_lss, Br_dec]
  refine ⟨fun hlt => ?_, fun hnl => ?_⟩
  · have hi' : i < xs.length := by omega
    simp only [call_58]
    refine lget_ok hl' hN (List.getElem?_eq_getElem hi') ?_
    simp [-getElem?_pos, -Array.getElem?_eq_getElem, List.getElem?_cons_zero]
    have hfa : ∀ {M}, Frm M wl (wl.drew.alloc (.cells #[.int .i64 xs[i]] 2)) := (Frm.drew wl).trans (Frm.alloc _ _) fun _ h _ => h
    have hr1 : Row (wl.drew.alloc (.cells #[.int .i64 xs[i]] 2)) (some ⟨wl.heap.size, 0, none⟩) (i64s [xs[i]]) := .inr ⟨_, _, _, _, _, rfl, hp_alloc_eq rfl, fun j v hj => by simpa [i64s] using hj⟩
    have hsw : w.heap.size ≤ wl.heap.size := (hf (M := fun _ => False)).size
    refine op_append (base := w.heap.size) (size := 1) (n := i) (m := 1) (xs := i64s (xs.take i)) (news := i64s [xs[i]]) ap22 (own_frame hown (hfa (M := fun _ => False)) (by simp)) hr1 rfl (by simp [i64s]) (by simp) (by omega) (by simp; omega) fun l4 w4 hl4 hf4 hbl4 => ?_
    have hob := own_lt hown
    rw [wrap_small _ rfl (by omega) (by omega)]
    refine ⟨(hI _ _ _).2 ⟨i + 1, rfl, by omega, fun {M} => ((hf (M := M)).trans (hfa (M := M)) fun _ h _ => h).trans hf4 fun k hk hlt => by have := hob k hk.symm; omega, ?_⟩, ?_⟩
    · rw [List.take_succ_eq_append_getElem hi']
      simp only [i64s, List.map_append] at hl4 ⊢
      exact hl4
    · have e : (i : Int) + 1 = ((i + 1 : Nat) : Int) := rfl
      rw [e, hμ, hμ]; omega
  · have : i = xs.length := by omega
    subst this
    rw [List.take_length] at hown
    exact hK _ _ hf hown

/-- What ListRun gives. -/
structure Runs (w0 w : World) (xs : List Int) (steps : List Step) (l p : Value) : Prop where
  frm : ∀ {M}, Frm M w0 w
  rows : ∃ us : List Value, w.ownsRow w0.heap.size 22 1 l (steps.length + 1) us ∧ ∀ (j : Nat) (ys : List Int), (vers xs steps).1[j]? = some ys → ∃ u, us[j]? = some u ∧ IsInts w u ys
  flags : w.ownsRow w0.heap.size 4 1 p steps.length (bools (vers xs steps).2)

theorem run_ok {a0 a1 : Option Addr} {c0 c1 : Nat} {xs : List Int} {steps : List Step} (h0 : Row w a0 (i64s xs)) (h1 : Row w a1 (steps.flatMap Step.cells)) (hG : Gl w)
    (hfit : AllFit steps) (hN : xs.length + cost steps < 2 ^ 19) (hn : steps.length < 2 ^ 19) (hxl : ∀ (j : Nat) (ys : List Int), (vers xs steps).1[j]? = some ys → ys.length < 2 ^ 19)
    (hK : ∀ l p w', Runs w w' xs steps l p → K (.tuple #[l, p]) w') :
    Calls Try.prog 14 #[.slice a0 xs.length c0, .slice a1 steps.length c1] w (ret K Kp) := by
  refine vc14_calls ?_
  simp only [vc14, call_25]
  refine versions_ok h0 h1 hG hfit hN hn fun l0 p w1 bs G hV => ?_
  obtain ⟨al, cl, rfl, hcl, hrl, hal, hol⟩ := own_slice hV.rowl
  simp [-getElem?_pos, -Array.getElem?_eq_getElem, List.getElem?_cons_zero]
  have hvl : (vers xs steps).1.length = steps.length + 1 := by
    have := (vers_len steps ([xs], [])).1
    simp only [vers]; simp at this; omega
  have hlists := hV.lists
  rw [List.take_length] at hlists
  have hsw : w.heap.size ≤ w1.heap.size := (hV.frm (M := fun _ => False)).size
  obtain ⟨I, hI⟩ : ∃ I : Value → Value → World → Prop, ∀ l v w', I l v w' ↔ ∃ (i : Nat) (us : List Value), v = .int .i64 i ∧ i ≤ steps.length + 1 ∧ (∀ {M}, Frm M w1 w') ∧ w'.ownsRow w1.heap.size 22 1 l i us ∧
      (∀ (j : Nat) (ys : List Int), j < i → (vers xs steps).1[j]? = some ys → ∃ u, us[j]? = some u ∧ IsInts w' u ys ∧ ∀ b, u.ownBlock = some b → l.ownBlock ≠ some b ∧ b < w'.heap.size) := ⟨_, fun _ _ _ => Iff.rfl⟩
  obtain ⟨μ, hμ⟩ : ∃ μ : Value → Value → World → Nat, ∀ l (j : Nat) w, μ l (.int .i64 j) w = steps.length + 1 - j := ⟨fun _ v _ => steps.length + 1 - (match v with | .int _ j => j.toNat | _ => 0), fun _ _ _ => rfl⟩
  refine Lp.intro I μ ⟨(hI _ _ _).2 ⟨0, [], rfl, by omega, Frm.refl, own_nil, fun j ys hj => by omega⟩, ?_⟩
  intro wl l v hIl
  obtain ⟨i, us, rfl, hi, hf, hown, hus⟩ := (hI _ _ _).1 hIl
  simp only [op_lss, Br_dec]
  refine ⟨fun hlt => ?_, fun hnl => ?_⟩
  · have hi' : i < steps.length + 1 := by omega
    have hib : i < bs.length := by rw [hV.len]; exact hi'
    obtain ⟨bl, ol, csl, el, fzl, rfl, hcl1, hcl2⟩ := (hrl.frame (hf (M := fun _ => False)) (by simp)).get (j := i) (by simp [ptrs]; omega)
    have hget : (ptrs bs)[i]'(by simp [ptrs]; omega) = ptr bs[i] := by simp [ptrs]
    rw [hget] at hcl2
    simp [-getElem?_pos, -Array.getElem?_eq_getElem, List.getElem?_cons_zero, add_spot, hcl1, hcl2]
    refine ⟨by omega, ?_⟩
    obtain ⟨ys, hys⟩ : ∃ ys, (vers xs steps).1[i]? = some ys := ⟨_, List.getElem?_eq_getElem (by omega)⟩
    have hswl : w1.heap.size ≤ wl.heap.size := (hf (M := fun _ => False)).size
    refine got_ok ((hlists i hib ys hys).frame (hf (M := fun _ => False)) (by simp)) (fun k hk => by have := (hV.gl k hk).2; omega) hN (hxl i ys hys) fun u w2 hf2 hu => ?_
    have hub := own_lt hu
    have hsw2 : wl.heap.size ≤ w2.heap.size := (hf2 (M := fun _ => False)).size
    have hu1 : u.oneCell' = true := by obtain ⟨a, c, rfl, _⟩ := own_slice hu; rfl
    simp [-getElem?_pos, -Array.getElem?_eq_getElem, List.getElem?_cons_zero, hu1]
    have hfa : ∀ {M}, Frm M wl (w2.alloc (.cells #[u] 22)) := (hf2).trans (Frm.alloc _ _) fun _ h _ => h
    have hr1 : Row (w2.alloc (.cells #[u] 22)) (some ⟨w2.heap.size, 0, none⟩) [u] := .inr ⟨_, _, _, _, _, rfl, hp_alloc_new, fun j v hj => by simpa using hj⟩
    refine op_append (base := w1.heap.size) (size := 1) (n := i) (m := 1) (xs := us) (news := [u]) ap35 (own_frame hown (hfa (M := fun _ => False)) (by simp)) hr1 rfl (by simp [hu1]) (by simp) (by omega) (by simp; omega) fun l4 w4 hl4 hf4 hbl4 => ?_
    have hob := own_lt hown
    have hsw4 : w2.heap.size + 1 ≤ w4.heap.size := by have := hf4.size; simpa using this
    have hbl4 : l4.ownBlock = l.ownBlock ∨ l4.ownBlock = some (w2.heap.size + 1) := by simpa using hbl4
    have husl : us.length = i := by have := hown.1; simpa using this
    rw [wrap_small _ rfl (by omega) (by omega)]
    refine ⟨(hI _ _ _).2 ⟨i + 1, us ++ [u], rfl, by omega, fun {M} => ((hf (M := M)).trans (hfa (M := M)) fun _ h _ => h).trans hf4 fun k hk hlt => by have := hob k hk.symm; omega, hl4, fun j zs hj hzs => ?_⟩, ?_⟩
    · by_cases hji : j < i
      · obtain ⟨u', hu', hi2, hne⟩ := hus j zs hji hzs
        refine ⟨u', by rw [List.getElem?_append_left (by omega)]; exact hu', (hi2.frame (hfa (M := fun _ => False)) (by simp)).frame hf4 fun b hb he => (hne b hb).1 he.symm, fun b hb => ?_⟩
        have := hne b hb
        refine ⟨?_, by omega⟩
        rcases hbl4 with h | h
        · rw [h]; exact this.1
        · rw [h]; intro e; have := Option.some.inj e; omega
      · have : j = i := by omega
        subst this
        rw [hys] at hzs
        obtain rfl := Option.some.inj hzs
        refine ⟨u, by rw [List.getElem?_append_right (by omega), husl]; simp, (((own_ints hu).frame (Frm.alloc (M := fun _ => False) _ _) (by simp))).frame hf4 fun b hb he => ?_, fun b hb => ?_⟩
        · have h1 := hub b hb; have h2 := hob b he.symm; omega
        · have h1 := hub b hb
          refine ⟨?_, by omega⟩
          rcases hbl4 with h | h
          · rw [h]; intro e; have := hob b e; omega
          · rw [h]; intro e; have := Option.some.inj e; omega
    · have e : (i : Int) + 1 = ((i + 1 : Nat) : Int) := rfl
      rw [e, hμ, hμ]; omega
  · have : i = steps.length + 1 := by omega
    subst this
    have hrp := hV.rowp
    rw [List.take_length] at hrp
    refine hK _ _ _ ⟨fun {M} => (hV.frm (M := M)).trans (hf (M := M)) fun _ h _ => h, ⟨us, own_base hown hsw, fun j ys hys => ?_⟩, own_frame hrp (hf (M := fun _ => False)) (by simp)⟩
    obtain ⟨u, h1, h2, _⟩ := hus j ys (by have := (List.getElem?_eq_some_iff.1 hys).1; omega) hys
    exact ⟨u, h1, h2⟩
end Go.Proofs.Ytjlaclgikmmmlaa
