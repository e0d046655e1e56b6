/- laws.FnListParts. -/
import Derived.Test.YtjlaclgikmmmlaaLLawP
set_option maxRecDepth 100000
set_option linter.unusedSimpArgs false
set_option linter.unusedVariables false
set_option maxHeartbeats 8000000
namespace Go.Proofs.Ytjlaclgikmmmlaa
open Go.Vc Go.Proofs
variable {w w' w0 : World} {F F' G : Nat → Prop} {K : Value → World → Prop} {Kp : KP}

theorem law_parts {a0 : Option Addr} {c0 : Nat} {xs : List Int} {a : Nat} (hG : Gl w) (h0 : IsInts w (.slice a0 xs.length c0) xs) (ha : a < 65536)
    (hK : ∀ w', (∀ {M}, Frm M w w') → K (.bool true) w') : Calls Try.prog 3 #[.slice a0 xs.length c0, .int .u16 a] w (ret K Kp) := by
  refine vc3_calls ?_
  simp only [vc3, op_len_22, op_gtr, Br_dec, call_9]
  have hfr0 : ∀ {w'}, (∀ {M}, Frm M w w') → Gl w' := fun hf => hG.frame (hf (M := fun _ => False)) (by simp)
  have hro : Row w a0 (i64s xs) := by obtain ⟨_, _, e, _, hr, _⟩ := h0; cases e; exact hr
  refine ⟨fun _ => hK w Frm.refl, fun h31 => ⟨fun _ => awake_ok hG fun w2 hf2 => hK w2 hf2, fun h6 => ?_⟩⟩
  obtain ⟨k, hk⟩ : ∃ k, k = a % (xs.length + 1) := ⟨_, rfl⟩
  have hkl : k < xs.length + 1 := by rw [hk]; exact Nat.mod_lt _ (by omega)
  have wr : ∀ q : Nat, q < 2 ^ 62 → IntKind.i64.wrap (q : Int) = q := fun q hq => wrap_small _ rfl (by omega) (by omega)
  have ea := wr a (by omega)
  have e1 : IntKind.i64.wrap ((xs.length : Int) + 1) = ((xs.length + 1 : Nat) : Int) := wr (xs.length + 1) (by omega)
  have n0 : ∀ q : Nat, ((q + 1 : Nat) : Int) ≠ 0 := fun q => by omega
  simp only [op_conv_23_3, op_add, op_rem, op_sub, ea, e1, n0, ne_eq, not_false_eq_true, true_and, cast_tmod, ← hk]
  rw [op_build_26_0_3 rfl rfl]
  simp only [op_lit_27_1]
  have hfa : ∀ {M} {w : World} {o : Obj}, Frm M w (w.alloc o) := fun {M} {w} {o} => Frm.alloc (M := M) w o
  obtain ⟨I, hI⟩ : ∃ I : Value → Value → World → Prop, ∀ l v w', I l v w' ↔ ∃ (t : Nat), v = .int .i64 ((k + t : Nat) : Int) ∧ k + t ≤ xs.length ∧ (∀ {M}, Frm M w w') ∧ w'.ownsRow w.heap.size 26 5 l (t + 1) ((beh xs k t).flatMap Step.cells) := ⟨_, fun _ _ _ => Iff.rfl⟩
  obtain ⟨μ, hμ⟩ : ∃ μ : Value → Value → World → Nat, ∀ l (j : Nat) w, μ l (.int .i64 j) w = xs.length - j := ⟨fun _ v _ => xs.length - (match v with | .int _ j => j.toNat | _ => 0), fun _ _ _ => rfl⟩
  refine Lp.intro I μ ⟨(hI _ _ _).2 ⟨0, rfl, by omega, hfa, ⟨rfl, .inr ⟨_, 1, _, rfl, Nat.le_refl _, hp_alloc_new, Nat.le_refl _, by decide, rfl, rfl⟩⟩⟩, ?_⟩
  intro wl _ l v hIl
  obtain ⟨t, rfl, hi, hfr, hown⟩ := (hI _ _ _).1 hIl
  simp only [op_len_22, op_lss, Br_dec]
  obtain ⟨al, cl, hl, hcl, hrl, hal, hol⟩ := own_slice hown
  have hob := own_lt hown
  have hsw : w.heap.size ≤ wl.heap.size := (hfr (M := fun _ => False)).size
  refine ⟨fun hlt => ?_, fun hnl => ?_⟩
  · have hi' : k + t < xs.length := by omega
    obtain ⟨b, o, cs, e, ⟨fa, fb⟩, rfl, hcs, hv⟩ := (hro.frame (hfr (M := fun _ => False)) (by simp)).get (j := k + t) (by simpa [i64s] using hi')
    have hg : (i64s xs)[k + t]'(by simpa [i64s] using hi') = .int .i64 xs[k + t] := by simp [i64s]
    rw [hg] at hv
    rw [hl]
    simp [-getElem?_pos, -Array.getElem?_eq_getElem, List.getElem?_cons_zero, -Int.natCast_add, add_spot, hcs, hv]
    rw [← hl]
    refine ⟨by omega, ?_⟩
    have hc : [Value.int .u8 0, .int .i64 ((t : Int) + 1), .int .i64 0, .int .i64 0, .int .i64 xs[k + t]] = Step.cells ⟨0, ((t + 1 : Nat) : Int), 0, 0, xs.getD (k + t) 0⟩ := by
      simp [Step.cells, List.getD, hi']
    have hr1 : Row (wl.alloc (.cells #[.int .u8 0, .int .i64 ((t : Int) + 1), .int .i64 0, .int .i64 0, .int .i64 xs[k + t]] 26)) (some ⟨wl.heap.size, 0, none⟩) [.int .u8 0, .int .i64 ((t : Int) + 1), .int .i64 0, .int .i64 0, .int .i64 xs[k + t]] :=
      .inr ⟨_, _, _, _, _, rfl, hp_alloc_eq rfl, fun j v hj => by simpa using hj⟩
    refine op_append (base := w.heap.size) (size := 5) (n := t + 1) (m := 1) (xs := (beh xs k t).flatMap Step.cells) ap27 (own_frame hown (hfa (M := fun _ => False)) (by simp)) hr1 rfl (by simp) (by simp) (by omega) (by simp; omega) fun l4 w4 hl4 hf4 hbl4 => ?_
    rw [wrap_small _ rfl (by omega) (by omega)]
    have e4 : (((k + t : Nat) : Int) + 1) = ((k + (t + 1) : Nat) : Int) := by omega
    refine ⟨(hI _ _ _).2 ⟨t + 1, by rw [← e4], by omega, fun {M} => ((hfr (M := M)).trans (hfa (M := M)) fun _ h _ => h).trans hf4 fun k hk hlt => by have := hob k hk.symm; omega, ?_⟩, ?_⟩
    · rw [beh_succ, List.flatMap_append, List.flatMap_singleton, ← hc]
      exact hl4
    · rw [e4, hμ, hμ]; omega
  have hkt : k + t = xs.length := by omega
  have eb1 : IntKind.i64.wrap ((k : Int) - 1) = (k : Int) - 1 := by rw [IntKind.wrap_i64]; omega
  simp only [op_sub, eb1]
  rw [op_build_26_0_2_3 rfl rfl rfl]
  simp only [op_lit_27_1, op_sub, eb1]
  obtain ⟨I2, hI2⟩ : ∃ I : Value → Value → World → Prop, ∀ l v w', I l v w' ↔ ∃ (t : Nat), v = .int .i64 ((k : Int) - 1 - t) ∧ t ≤ k ∧ (∀ {M}, Frm M wl w') ∧ w'.ownsRow wl.heap.size 26 5 l (t + 1) ((ahd xs k t).flatMap Step.cells) := ⟨_, fun _ _ _ => Iff.rfl⟩
  obtain ⟨μ2, hμ2⟩ : ∃ μ : Value → Value → World → Nat, ∀ l (j : Int) w, μ l (.int .i64 j) w = (j + 1).toNat := ⟨fun _ v _ => (match v with | .int _ j => (j + 1).toNat | _ => 0), fun _ _ _ => rfl⟩
  refine Lp.intro I2 μ2 ⟨(hI2 _ _ _).2 ⟨0, by simp, by omega, hfa, ⟨rfl, .inr ⟨_, 1, _, rfl, Nat.le_refl _, hp_alloc_new, Nat.le_refl _, by decide, rfl, rfl⟩⟩⟩, ?_⟩
  intro w2 _ l2 v2 hIl2
  obtain ⟨t2, rfl, hi2, hfr2, hown2⟩ := (hI2 _ _ _).1 hIl2
  simp only [op_geq, Br_dec]
  obtain ⟨al2, cl2, hl2, hcl2, hrl2, hal2, hol2⟩ := own_slice hown2
  have hob2 := own_lt hown2
  have hsw2 : wl.heap.size ≤ w2.heap.size := (hfr2 (M := fun _ => False)).size
  have hfw2 : ∀ {M}, Frm M w w2 := fun {M} => (hfr (M := M)).trans (hfr2 (M := M)) fun _ h _ => h
  refine ⟨fun hlt => ?_, fun hnl => ?_⟩
  · obtain ⟨q, hq⟩ : ∃ q : Nat, (k : Int) - 1 - t2 = q := ⟨((k : Int) - 1 - t2).toNat, by omega⟩
    have hqe : q = k - 1 - t2 := by omega
    have hi' : q < xs.length := by omega
    obtain ⟨b, o, cs, e, ⟨fa, fb⟩, rfl, hcs, hv⟩ := (hro.frame (hfw2 (M := fun _ => False)) (by simp)).get (j := q) (by simpa [i64s] using hi')
    have hg : (i64s xs)[q]'(by simpa [i64s] using hi') = .int .i64 xs[q] := by simp [i64s]
    rw [hg] at hv
    rw [hl2, hq]
    simp [-getElem?_pos, -Array.getElem?_eq_getElem, List.getElem?_cons_zero, -Int.natCast_add, add_spot, hcs, hv]
    rw [← hl2]
    refine ⟨by omega, ?_⟩
    have hc : [Value.int .u8 1, .int .i64 ((t2 : Int) + 1), .int .i64 0, .int .i64 0, .int .i64 xs[q]] = Step.cells ⟨1, ((t2 + 1 : Nat) : Int), 0, 0, xs.getD (k - 1 - t2) 0⟩ := by
      rw [← hqe]; simp [Step.cells, List.getD, hi']
    have hr1 : Row (w2.alloc (.cells #[.int .u8 1, .int .i64 ((t2 : Int) + 1), .int .i64 0, .int .i64 0, .int .i64 xs[q]] 26)) (some ⟨w2.heap.size, 0, none⟩) [.int .u8 1, .int .i64 ((t2 : Int) + 1), .int .i64 0, .int .i64 0, .int .i64 xs[q]] :=
      .inr ⟨_, _, _, _, _, rfl, hp_alloc_eq rfl, fun j v hj => by simpa using hj⟩
    refine op_append (base := wl.heap.size) (size := 5) (n := t2 + 1) (m := 1) (xs := (ahd xs k t2).flatMap Step.cells) ap27 (own_frame hown2 (hfa (M := fun _ => False)) (by simp)) hr1 rfl (by simp) (by simp) (by omega) (by simp; omega) fun l4 w4 hl4 hf4 hbl4 => ?_
    have ew : IntKind.i64.wrap ((q : Int) - 1) = (k : Int) - 1 - ((t2 + 1 : Nat) : Int) := by rw [IntKind.wrap_i64]; omega
    rw [ew]
    refine ⟨(hI2 _ _ _).2 ⟨t2 + 1, rfl, by omega, fun {M} => ((hfr2 (M := M)).trans (hfa (M := M)) fun _ h _ => h).trans hf4 fun k hk hlt => by have := hob2 k hk.symm; omega, ?_⟩, ?_⟩
    · rw [ahd_succ, List.flatMap_append, List.flatMap_singleton, ← hc]
      exact hl4
    · rw [hμ2, hμ2]; omega
  have ht2 : t2 = k := by omega
  subst ht2
  have e0 : xs.take (t2 + t) = xs := by rw [hkt, List.take_length]
  have hown' := own_frame hown (hfr2 (M := fun _ => False)) (by simp)
  obtain ⟨al, cl, hl, hcl, hrl, hal, hol⟩ := own_slice hown'
  subst hl
  subst hl2
  simp only [call_10]
  have hvl : ∀ {steps : List Step} {l : List (List Int)} {q : List Bool}, vers xs steps = (l, q) → (∀ ys ∈ l, ys.length ≤ xs.length) → ∀ (j : Nat) (ys : List Int), (vers xs steps).1[j]? = some ys → ys.length < 2 ^ 19 := fun e h j ys hj => by
    rw [e] at hj
    have := h ys (List.mem_of_getElem? hj)
    omega
  have vb := vers_beh (xs := xs) (k := t2) t (by omega)
  have va := vers_ahd (xs := xs) (k := t2) (by omega) t2 (Nat.le_refl _)
  have lb := beh_len xs t2 t
  have la := ahd_len xs t2 t2
  have hno : ∀ n : Nat, ¬ true ∈ List.replicate n false := fun n h => by simpa using (List.mem_replicate.1 h).2
  have e2 : ∀ (a : Option Addr) (n c : Nat), n = t + 1 → (Value.slice a n c) = .slice a (beh xs t2 t).length c := fun a n c h => by rw [lb, h]
  rw [e2 al _ cl rfl]
  refine one_ok (steps := beh xs t2 t) (ys := xs) (hro.frame (hfw2 (M := fun _ => False)) (by simp)) hrl (hfr0 hfw2) (fits_beh _ _ _) (by rw [cost_beh]; omega) (by rw [lb]; omega)
    (hvl vb (by first | (simp; done) | (simp; intro a ha; omega))) (by rw [vb]; exact hno _) (by rw [vb, lb]; simp [e0]) fun u w3 hf3 hu => ?_
  have hfw3 : ∀ {M}, Frm M w w3 := fun {M} => (hfw2 (M := M)).trans (hf3 (M := M)) fun _ h _ => h
  simp only [op_ext2_0, op_ext2_1, call_10]
  have e3 : ∀ (a : Option Addr) (n c : Nat), n = t2 + 1 → (Value.slice a n c) = .slice a (ahd xs t2 t2).length c := fun a n c h => by rw [la, h]
  rw [e3 al2 _ cl2 rfl]
  refine one_ok (steps := ahd xs t2 t2) (ys := xs) (hro.frame (hfw3 (M := fun _ => False)) (by simp)) (hrl2.frame (hf3 (M := fun _ => False)) (by simp)) (hfr0 hfw3) (fits_ahd _ _ _) (by rw [cost_ahd]; omega) (by rw [la]; omega)
    (hvl va (by first | (simp; done) | (simp; intro a ha; omega))) (by rw [va]; exact hno _) (by rw [va, la]; simp) fun u2 w4 hf4 hu2 => ?_
  have hfw4 : ∀ {M}, Frm M w w4 := fun {M} => (hfw3 (M := M)).trans (hf4 (M := M)) fun _ h _ => h
  simp only [op_ext2_0, op_ext2_1, Br_bool, true_implies, call_11, reduceCtorEq, false_implies, and_true]
  refine equal_ok (hu.frame (hf4 (M := fun _ => False)) (by simp)) (h0.frame (hfw4 (M := fun _ => False)) (by simp)) (by omega) fun w5 hd5 => ?_
  have hfw5 : ∀ {M}, Frm M w w5 := fun {M} => (hfw4 (M := M)).trans hd5.frm fun _ h _ => h
  simp only [decide_true, Br_bool, true_implies, call_11, reduceCtorEq, false_implies, and_true]
  refine equal_ok (hu2.frame (hd5.frm (M := fun _ => False)) (by simp)) (h0.frame (hfw5 (M := fun _ => False)) (by simp)) (by omega) fun w6 hd6 => ?_
  have hfw6 : ∀ {M}, Frm M w w6 := fun {M} => (hfw5 (M := M)).trans hd6.frm fun _ h _ => h
  simp only [decide_true, Br_bool, true_implies, call_9, reduceCtorEq, false_implies, and_true]
  exact awake_ok (hfr0 hfw6) fun w7 hf7 => hK w7 fun {M} => (hfw6 (M := M)).trans (hf7 (M := M)) fun _ h _ => h
end Go.Proofs.Ytjlaclgikmmmlaa
