/- laws.FnListSlices, FnListParts. -/
import Derived.Test.YtjlaclgikmmmlaaLLawR
set_option maxRecDepth 100000
set_option linter.unusedSimpArgs false
set_option linter.unusedVariables false
set_option maxHeartbeats 8000000
namespace Go.Proofs.Ytjlaclgikmmmlaa
open Go.Vc Go.Proofs
variable {w w' w0 : World} {F F' G : Nat → Prop} {K : Value → World → Prop} {Kp : KP}

theorem cut_cut {xs : List Int} {i j k m : Nat} (hj : i + m ≤ j) : cut (cut xs i j) k m = cut xs (i + k) (i + m) := by
  apply List.ext_getElem?
  intro r
  simp only [cut, List.getElem?_drop, List.getElem?_take]
  by_cases h : k + r < m
  · rw [if_pos h, if_pos (by omega), if_pos (by omega)]; congr 1; omega
  · rw [if_neg h, if_neg (by omega)]
theorem cut_all (xs : List Int) : cut xs 0 xs.length = xs := by simp [cut]
theorem cast_tmod (a m : Nat) : ((a : Int)).tmod (m : Int) = ((a % m : Nat) : Int) := by
  rw [Int.natCast_emod, Int.tmod_eq_emod_of_nonneg (by omega)]
def slc (fro i j : Nat) : Step := ⟨3, fro, i, j, 0⟩
theorem after_slc {l : List Int} {f i j : Nat} (hi : i ≤ j) (hj : j ≤ l.length) : after l (slc f i j) = (cut l i j, true) := by
  have e : after l (slc f i j) = if (0 : Int) ≤ i ∧ (i : Int) ≤ j ∧ (j : Int) ≤ l.length then (cut l (i : Int).toNat (j : Int).toNat, true) else (l, false) := rfl
  rw [e, if_pos ⟨by omega, by omega, by omega⟩]; simp
theorem slc_fits (f i j q : Nat) (hf : f ≤ q) : (slc f i j).Fits ∧ 0 ≤ (slc f i j).fro ∧ (slc f i j).fro ≤ q ∧ (4 ≤ (slc f i j).kind → (slc f i j).index ≤ 100000) := by
  simp [slc, Step.Fits, hf]
theorem vers_slc {xs : List Int} {i j : Nat} (hi : i ≤ j) (hj : j ≤ xs.length) : vers xs [slc 0 i j] = ([xs, cut xs i j], [false]) := by
  have e : adv ([xs], []) (slc 0 i j) = ([xs, cut xs i j], [false]) := by
    unfold adv
    have : ([xs] : List (List Int))[(slc 0 i j).fro.toNat]?.getD [] = xs := rfl
    rw [this, after_slc hi hj]; rfl
  simp only [vers, List.foldl_cons, List.foldl_nil, e]
theorem vers_slc2 {xs : List Int} {i j k m : Nat} (hi : i ≤ j) (hj : j ≤ xs.length) (hk : k ≤ m) (hm : i + m ≤ j) : vers xs [slc 0 i j, slc 1 k m] = ([xs, cut xs i j, cut (cut xs i j) k m], [false, false]) := by
  have e := vers_snoc xs [slc 0 i j] (slc 1 k m)
  simp only [List.singleton_append] at e
  rw [e, vers_slc hi hj]
  unfold adv
  have : ([xs, cut xs i j] : List (List Int))[(slc 1 k m).fro.toNat]?.getD [] = cut xs i j := rfl
  rw [this, after_slc hk (by rw [cut_length hi hj]; omega)]; rfl
theorem cut_len_le (xs : List Int) (i j : Nat) : (cut xs i j).length ≤ xs.length := by simp [cut]; omega

theorem law_slices {a0 : Option Addr} {c0 : Nat} {xs : List Int} {a b c d : Nat} (hG : Gl w) (h0 : IsInts w (.slice a0 xs.length c0) xs) (ha : a < 65536) (hb : b < 65536) (hc : c < 65536) (hd : d < 65536)
    (hK : ∀ w', (∀ {M}, Frm M w w') → K (.bool true) w') : Calls Try.prog 4 #[.slice a0 xs.length c0, .int .u16 a, .int .u16 b, .int .u16 c, .int .u16 d] w (ret K Kp) := by
  refine vc4_calls ?_
  simp only [vc4, op_len_22, op_gtr, Br_dec, call_9]
  have hfr0 : ∀ {w'}, (∀ {M}, Frm M w w') → Gl w' := fun hf => hG.frame (hf (M := fun _ => False)) (by simp)
  have hro : Row w a0 (i64s xs) := by obtain ⟨_, _, e, _, hr, _⟩ := h0; cases e; exact hr
  refine ⟨fun _ => hK w Frm.refl, fun h31 => ⟨fun _ => awake_ok hG fun w2 hf2 => hK w2 hf2, fun h6 => ?_⟩⟩
  generalize hn : xs.length = n at *
  obtain ⟨i, hi⟩ : ∃ i, i = a % (n + 1) := ⟨_, rfl⟩
  have hil : i < n + 1 := by rw [hi]; exact Nat.mod_lt _ (by omega)
  obtain ⟨jb, hjb⟩ : ∃ jb, jb = b % (n - i + 1) := ⟨_, rfl⟩
  have hjl : jb < n - i + 1 := by rw [hjb]; exact Nat.mod_lt _ (by omega)
  obtain ⟨k, hk⟩ : ∃ k, k = c % (jb + 1) := ⟨_, rfl⟩
  have hkl : k < jb + 1 := by rw [hk]; exact Nat.mod_lt _ (by omega)
  obtain ⟨md, hmd⟩ : ∃ md, md = d % (jb - k + 1) := ⟨_, rfl⟩
  have hml : md < jb - k + 1 := by rw [hmd]; exact Nat.mod_lt _ (by omega)
  have wr : ∀ q : Nat, q < 2 ^ 62 → IntKind.i64.wrap (q : Int) = q := fun q hq => wrap_small _ rfl (by omega) (by omega)
  have ea := wr a (by omega)
  have eb := wr b (by omega)
  have ec := wr c (by omega)
  have ed := wr d (by omega)
  have e1 : IntKind.i64.wrap ((n : Int) + 1) = ((n + 1 : Nat) : Int) := wr (n + 1) (by omega)
  have e2 : IntKind.i64.wrap ((n : Int) - (i : Int)) = ((n - i : Nat) : Int) := by rw [wrap_small _ rfl (by omega) (by omega)]; omega
  have e3 : IntKind.i64.wrap (((n - i : Nat) : Int) + 1) = ((n - i + 1 : Nat) : Int) := wr (n - i + 1) (by omega)
  have e4 : IntKind.i64.wrap ((i : Int) + (jb : Int)) = ((i + jb : Nat) : Int) := wr (i + jb) (by omega)
  have e5 : IntKind.i64.wrap (((i + jb : Nat) : Int) - (i : Int)) = (jb : Int) := by rw [wrap_small _ rfl (by omega) (by omega)]; omega
  have e6 : IntKind.i64.wrap ((jb : Int) + 1) = ((jb + 1 : Nat) : Int) := wr (jb + 1) (by omega)
  have e7 : IntKind.i64.wrap ((jb : Int) - (k : Int)) = ((jb - k : Nat) : Int) := by rw [wrap_small _ rfl (by omega) (by omega)]; omega
  have e8 : IntKind.i64.wrap (((jb - k : Nat) : Int) + 1) = ((jb - k + 1 : Nat) : Int) := wr (jb - k + 1) (by omega)
  have e9 : IntKind.i64.wrap ((k : Int) + (md : Int)) = ((k + md : Nat) : Int) := wr (k + md) (by omega)
  have e10 : IntKind.i64.wrap ((i : Int) + (k : Int)) = ((i + k : Nat) : Int) := wr (i + k) (by omega)
  have e11 : IntKind.i64.wrap ((i : Int) + ((k + md : Nat) : Int)) = ((i + (k + md) : Nat) : Int) := wr (i + (k + md)) (by omega)
  have n0 : ∀ q : Nat, ((q + 1 : Nat) : Int) ≠ 0 := fun q => by omega
  simp only [op_conv_23_3, op_add, op_rem, op_sub, ea, eb, ec, ed, e1, n0, ne_eq, not_false_eq_true, true_and, cast_tmod, ← hi, e2, e3, ← hjb, e4, e5, e6, ← hk, e7, e8, ← hmd, e9]
  rw [op_build_26_0_2_3 rfl rfl rfl, op_build_26_0_1_2_3 rfl rfl rfl rfl]
  simp only [op_lit_27_2, call_10]
  have hfa : ∀ {M} {w : World} {o : Obj}, Frm M w (w.alloc o) := fun {M} {w} {o} => Frm.alloc (M := M) w o
  have hvl : ∀ {steps : List Step} {l : List (List Int)} {q : List Bool}, vers xs steps = (l, q) → (∀ ys ∈ l, ys.length ≤ n) → ∀ (j : Nat) (ys : List Int), (vers xs steps).1[j]? = some ys → ys.length < 2 ^ 19 := fun e h j ys hj => by
    rw [e] at hj
    have := h ys (List.mem_of_getElem? hj)
    omega
  subst hn
  have c1 := cut_len_le xs i (i + jb)
  have c2 := cut_len_le (cut xs i (i + jb)) k (k + md)
  have c3 := cut_len_le xs (i + k) (i + (k + md))
  have c4 := cut_len_le xs 0 xs.length
  have v2 : vers xs [slc 0 i (i + jb), slc 1 k (k + md)] = _ := vers_slc2 (by omega) (by omega) (by omega) (by omega)
  have v1 : vers xs [slc 0 (i + k) (i + (k + md))] = _ := vers_slc (by omega) (by omega)
  have v0 : vers xs [slc 0 0 xs.length] = _ := vers_slc (by omega) (by omega)
  refine one_ok (steps := [slc 0 i (i + jb), slc 1 k (k + md)]) (ys := cut (cut xs i (i + jb)) k (k + md)) (hro.frame (hfa (M := fun _ => False)) (by simp)) (.inr ⟨w.heap.size, 0, _, _, _, rfl, hp_alloc_new, fun j v hj => ?_⟩) (hfr0 hfa) ?_ (by show xs.length + 0 < _; omega) (by simp)
    (hvl v2 (by simp; omega)) (by rw [v2]; simp) (by rw [v2]; rfl) fun u w1 hf1 hu => ?_
  · simpa [Step.cells, slc] using hj
  · intro q hq
    match q, hq with
    | 0, _ => exact slc_fits _ _ _ _ (by omega)
    | 1, _ => exact slc_fits _ _ _ _ (by omega)
  have hfw1 : ∀ {M}, Frm M w w1 := fun {M} => (hfa (M := M)).trans (hf1 (M := M)) fun _ h _ => h
  rw [cut_cut (by omega)] at hu
  simp only [op_ext2_0, op_ext2_1, op_add, e10, e11]
  rw [op_build_26_0_2_3 rfl rfl rfl]
  simp only [op_lit_27_1, call_10]
  have hfw1a : ∀ {M} {o}, Frm M w (w1.alloc o) := fun {M} {o} => (hfw1 (M := M)).trans (hfa (M := M)) fun _ h _ => h
  refine one_ok (steps := [slc 0 (i + k) (i + (k + md))]) (ys := cut xs (i + k) (i + (k + md))) (hro.frame (hfw1a (M := fun _ => False)) (by simp)) (.inr ⟨w1.heap.size, 0, _, _, _, rfl, hp_alloc_new, fun j v hj => ?_⟩) (hfr0 hfw1a) ?_ (by show xs.length + 0 < _; omega) (by simp)
    (hvl v1 (by simp; omega)) (by rw [v1]; simp) (by rw [v1]; rfl) fun u2 w2 hf2 hu2 => ?_
  · simpa [Step.cells, slc] using hj
  · intro q hq
    match q, hq with
    | 0, _ => exact slc_fits _ _ _ _ (by omega)
  have hfw2 : ∀ {M}, Frm M w w2 := fun {M} => (hfw1a (M := M)).trans (hf2 (M := M)) fun _ h _ => h
  simp only [op_ext2_0, op_ext2_1]
  rw [op_build_26_0_3 rfl rfl]
  simp only [op_lit_27_1, call_10]
  have hfw2a : ∀ {M} {o}, Frm M w (w2.alloc o) := fun {M} {o} => (hfw2 (M := M)).trans (hfa (M := M)) fun _ h _ => h
  refine one_ok (steps := [slc 0 0 xs.length]) (ys := cut xs 0 xs.length) (hro.frame (hfw2a (M := fun _ => False)) (by simp)) (.inr ⟨w2.heap.size, 0, _, _, _, rfl, hp_alloc_new, fun j v hj => ?_⟩) (hfr0 hfw2a) ?_ (by show xs.length + 0 < _; omega) (by simp)
    (hvl v0 (by simp; omega)) (by rw [v0]; simp) (by rw [v0]; rfl) fun u3 w3 hf3 hu3 => ?_
  · simpa [Step.cells, slc] using hj
  · intro q hq
    match q, hq with
    | 0, _ => exact slc_fits _ _ _ _ (by omega)
  rw [cut_all] at hu3
  have hfw3 : ∀ {M}, Frm M w w3 := fun {M} => (hfw2a (M := M)).trans (hf3 (M := M)) fun _ h _ => h
  have hf13 : ∀ {M}, Frm M w1 w3 := fun {M} => (((hfa (M := M)).trans (hf2 (M := M)) fun _ h _ => h).trans (hfa (M := M)) fun _ h _ => h).trans (hf3 (M := M)) fun _ h _ => h
  have hf23 : ∀ {M}, Frm M w2 w3 := fun {M} => (hfa (M := M)).trans (hf3 (M := M)) fun _ h _ => h
  simp only [op_ext2_0, op_ext2_1, Br_bool, true_implies, call_11, reduceCtorEq, false_implies, and_true]
  refine equal_ok (hu.frame (hf13 (M := fun _ => False)) (by simp)) (hu2.frame (hf23 (M := fun _ => False)) (by simp)) (by have := cut_len_le xs (i + k) (i + (k + md)); omega) fun w4 hd4 => ?_
  have hfw4 : ∀ {M}, Frm M w w4 := fun {M} => (hfw3 (M := M)).trans hd4.frm fun _ h _ => h
  simp only [decide_true, Br_bool, true_implies, call_11, reduceCtorEq, false_implies, and_true]
  refine equal_ok (hu3.frame (hd4.frm (M := fun _ => False)) (by simp)) (h0.frame (hfw4 (M := fun _ => False)) (by simp)) (by omega) fun w5 hd5 => ?_
  simp only [decide_true, Br_bool, true_implies, call_9, reduceCtorEq, false_implies, and_true]
  have hfw5 : ∀ {M}, Frm M w w5 := fun {M} => (hfw4 (M := M)).trans hd5.frm fun _ h _ => h
  exact awake_ok (hfr0 hfw5) fun w6 hf6 => hK w6 fun {M} => (hfw5 (M := M)).trans (hf6 (M := M)) fun _ h _ => h

/-! ### FnListParts -/
def beh (xs : List Int) (k t : Nat) : List Step := slc 0 0 k :: (List.range t).map fun (r : Nat) => ⟨0, ((r + 1 : Nat) : Int), 0, 0, xs.getD (k + r) 0⟩
def ahd (xs : List Int) (k t : Nat) : List Step := slc 0 k xs.length :: (List.range t).map fun (r : Nat) => ⟨1, ((r + 1 : Nat) : Int), 0, 0, xs.getD (k - 1 - r) 0⟩
theorem beh_succ (xs : List Int) (k t : Nat) : beh xs k (t + 1) = beh xs k t ++ [⟨0, ((t + 1 : Nat) : Int), 0, 0, xs.getD (k + t) 0⟩] := by simp [beh, List.range_succ]
theorem ahd_succ (xs : List Int) (k t : Nat) : ahd xs k (t + 1) = ahd xs k t ++ [⟨1, ((t + 1 : Nat) : Int), 0, 0, xs.getD (k - 1 - t) 0⟩] := by simp [ahd, List.range_succ]
theorem beh_len (xs : List Int) (k t : Nat) : (beh xs k t).length = t + 1 := by simp [beh]
theorem ahd_len (xs : List Int) (k t : Nat) : (ahd xs k t).length = t + 1 := by simp [ahd]
theorem vers_beh {xs : List Int} {k : Nat} : ∀ t, k + t ≤ xs.length → vers xs (beh xs k t) = (xs :: (List.range (t + 1)).map fun r => xs.take (k + r), List.replicate (t + 1) false)
  | 0, h => by
    have : beh xs k 0 = [slc 0 0 k] := rfl
    rw [this, vers_slc (by omega) (by omega)]; simp [cut]
  | t + 1, h => by
    rw [beh_succ, vers_snoc, vers_beh t (by omega)]
    unfold adv
    have e : (xs :: (List.range (t + 1)).map fun r => xs.take (k + r))[((t + 1 : Nat) : Int).toNat]?.getD [] = xs.take (k + t) := by
      rw [Int.toNat_natCast, List.getElem?_cons_succ]; simp
    simp only
    rw [e]
    simp only [after]
    have e2 : xs.take (k + t) ++ [xs.getD (k + t) 0] = xs.take (k + (t + 1)) := by
      have hl : k + t < xs.length := by omega
      rw [← Nat.add_assoc, List.take_succ_eq_append_getElem hl]; simp [List.getD, hl]
    rw [e2, List.range_succ (n := t + 1), List.replicate_succ' (n := t + 1)]; simp
theorem vers_ahd {xs : List Int} {k : Nat} (hk : k ≤ xs.length) : ∀ t, t ≤ k → vers xs (ahd xs k t) = (xs :: (List.range (t + 1)).map fun r => xs.drop (k - r), List.replicate (t + 1) false)
  | 0, h => by
    have : ahd xs k 0 = [slc 0 k xs.length] := rfl
    rw [this, vers_slc (by omega) (by omega)]; simp [cut]
  | t + 1, h => by
    rw [ahd_succ, vers_snoc, vers_ahd hk t (by omega)]
    unfold adv
    have e : (xs :: (List.range (t + 1)).map fun r => xs.drop (k - r))[((t + 1 : Nat) : Int).toNat]?.getD [] = xs.drop (k - t) := by
      rw [Int.toNat_natCast, List.getElem?_cons_succ]; simp
    simp only
    rw [e]
    simp only [after]
    have e2 : xs.getD (k - 1 - t) 0 :: xs.drop (k - t) = xs.drop (k - (t + 1)) := by
      have hl : k - (t + 1) < xs.length := by omega
      rw [List.drop_eq_getElem_cons hl, show k - (t + 1) + 1 = k - t from by omega, show k - 1 - t = k - (t + 1) from by omega]; simp [List.getD, hl]
    rw [e2, List.range_succ (n := t + 1), List.replicate_succ' (n := t + 1)]; simp
theorem cost_beh (xs : List Int) (k : Nat) : ∀ t, cost (beh xs k t) = t
  | 0 => rfl
  | t + 1 => by rw [beh_succ, cost_snoc, cost_beh xs k t]; rfl
theorem cost_ahd (xs : List Int) (k : Nat) : ∀ t, cost (ahd xs k t) = t
  | 0 => rfl
  | t + 1 => by rw [ahd_succ, cost_snoc, cost_ahd xs k t]; rfl
theorem fits_snoc {r : List Step} {s : Step} (h : AllFit r) (hs : s.Fits ∧ 0 ≤ s.fro ∧ s.fro ≤ r.length ∧ (4 ≤ s.kind → s.index ≤ 100000)) : AllFit (r ++ [s]) := by
  intro i hi
  simp only [List.length_append, List.length_singleton] at hi
  by_cases hr : i < r.length
  · rw [List.getElem_append_left hr]; exact h i hr
  · have : i = r.length := by omega
    subst this
    simp only [List.getElem_append_right (Nat.le_refl _), Nat.sub_self, List.getElem_cons_zero]; exact hs
theorem fits_beh (xs : List Int) (k : Nat) : ∀ t, AllFit (beh xs k t)
  | 0 => fun i hi => by have : i = 0 := by simpa [beh] using hi
                        subst this; exact slc_fits 0 0 k 0 (by omega)
  | t + 1 => by rw [beh_succ]; exact fits_snoc (fits_beh xs k t) ⟨⟨by simp, by simp⟩, by simp; omega, by rw [beh_len]; simp, by simp⟩
theorem fits_ahd (xs : List Int) (k : Nat) : ∀ t, AllFit (ahd xs k t)
  | 0 => fun i hi => by have : i = 0 := by simpa [ahd] using hi
                        subst this; exact slc_fits 0 k xs.length 0 (by omega)
  | t + 1 => by rw [ahd_succ]; exact fits_snoc (fits_ahd xs k t) ⟨⟨by simp, by simp⟩, by simp; omega, by rw [ahd_len]; simp, by simp⟩
end Go.Proofs.Ytjlaclgikmmmlaa
