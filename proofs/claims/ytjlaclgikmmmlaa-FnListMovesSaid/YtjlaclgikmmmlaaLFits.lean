/- spec.ListFits. -/
import Derived.Test.YtjlaclgikmmmlaaLSpecV
set_option maxRecDepth 100000
set_option linter.unusedSimpArgs false
set_option linter.unusedVariables false
set_option maxHeartbeats 8000000
namespace Go.Proofs.Ytjlaclgikmmmlaa
open Go.Vc Go.Proofs
variable {w w' w0 : World} {F F' G : Nat → Prop} {K : Value → World → Prop} {Kp : KP}
theorem ap85 : apOf Try.prog 85 = some (3, 1, 8) := by kernel_rfl
theorem many_len (v : Int) (n : Nat) : (many v n).length = n := by simp [many]
/-- What a law asks for of its steps. -/
structure Fit (xs : List Int) (steps : List Step) : Prop where
  all : AllFit steps
  idx : ∀ i (h : i < steps.length), 4 ≤ steps[i].kind → steps[i].index ≤ 6000
  len : ∀ i (j : Nat) (ys : List Int), (vers xs (steps.take i)).1[j]? = some ys → ys.length ≤ 6000
theorem Fit.cost {xs : List Int} {steps : List Step} (h : Fit xs steps) : cost steps ≤ 6000 * steps.length := by
  have h1 : ∀ s ∈ steps, s.cost ≤ 6000 := fun s hs => by
    obtain ⟨i, hi, rfl⟩ := List.mem_iff_getElem.1 hs
    have h2 := h.idx i hi
    unfold Step.cost
    split <;> first | omega | (have := h2 (by omega); omega)
  unfold Ytjlaclgikmmmlaa.cost
  clear h
  induction steps with
  | nil => simp
  | cons s r ih =>
    have := h1 s (by simp)
    have := ih fun s hs => h1 s (by simp [hs])
    simp only [List.map_cons, List.sum_cons, List.length_cons]
    omega

theorem fits_ok {u0 : Value} {a1 : Option Addr} {c1 : Nat} {xs : List Int} {steps : List Step} (h0 : IsInts w u0 xs) (h1 : Row w a1 (steps.flatMap Step.cells)) (hxs : xs.length < 2 ^ 31) (hn : steps.length < 2 ^ 19)
    (hf : ∀ w', (∀ {M}, Frm M w w') → K (.bool false) w') (ht : Fit xs steps → ∀ w', (∀ {M}, Frm M w w') → K (.bool true) w') :
    Calls Try.prog 23 #[u0, .slice a1 steps.length c1] w (ret K Kp) := by
  refine vc23_calls ?_
  obtain ⟨a0, c0, rfl, hc0, hr0, ha0⟩ := h0
  simp [-getElem?_pos, -Array.getElem?_eq_getElem, List.getElem?_cons_zero, vc23, Br_dec]
  refine ⟨fun _ => hf w Frm.refl, fun hle => ?_⟩
  obtain ⟨I, hI⟩ : ∃ I : Value → Value → World → Prop, ∀ l v w', I l v w' ↔ ∃ (i : Nat), v = .int .i64 i ∧ i ≤ steps.length ∧ (∀ {M}, Frm M w w') ∧ w'.ownsRow w.heap.size 3 1 l (i + 1) (i64s ((vers xs (steps.take i)).1.map fun ys => (ys.length : Int))) ∧ Fit xs (steps.take i) := ⟨_, fun _ _ _ => Iff.rfl⟩
  obtain ⟨μ, hμ⟩ : ∃ μ : Value → Value → World → Nat, ∀ l (j : Nat) w, μ l (.int .i64 j) w = steps.length - j := ⟨fun _ v _ => steps.length - (match v with | .int _ j => j.toNat | _ => 0), fun _ _ _ => rfl⟩
  refine Lp.intro I μ ⟨(hI _ _ _).2 ⟨0, rfl, by omega, Frm.alloc _ _, ⟨by simp [i64s, vers], .inr ⟨_, 1, #[.int .i64 xs.length], rfl, Nat.le_refl _, hp_alloc_new, Nat.le_refl _, by decide, rfl, rfl⟩⟩, ?_⟩, ?_⟩
  · refine ⟨fun i h => by simp at h, fun i h => by simp at h, fun i j ys hys => ?_⟩
    simp [vers] at hys
    have hj : j = 0 := by have := (List.getElem?_eq_some_iff.1 hys).1; simpa using this
    subst hj
    simp at hys
    subst hys
    omega
  intro wl l v hIl
  obtain ⟨i, rfl, hi, hfr, hown, hfit⟩ := (hI _ _ _).1 hIl
  simp only [op_lss, Br_dec]
  refine ⟨fun hlt => ?_, fun hnl => ?_⟩
  · have hi' : i < steps.length := by omega
    obtain ⟨bp, o, cs, e, ⟨fa, fb⟩, rfl, hcs, hsz, hext⟩ := (h1.frame (hfr (M := fun _ => False)) (by simp)).part cells_len (by decide) hi'
    have hls : List.take 5 (List.drop (o + i * 5) cs.toList) = steps[i].cells := by
      have := congrArg Array.toList hext
      simpa using this
    have how : ow #[Value.int IntKind.u8 0, Value.int IntKind.i64 0, Value.int IntKind.i64 0, Value.int IntKind.i64 0, Value.int IntKind.i64 0] 0 steps[i].cells = steps[i].cells.toArray := ow_all rfl
    have hone : ∀ u, u ∈ steps[i].cells → u.oneCell' = true := by intro u hu; simp [Step.cells] at hu; rcases hu with rfl | rfl | rfl | rfl | rfl <;> rfl
    have htk : steps.take (i + 1) = steps.take i ++ [steps[i]] := List.take_succ_eq_append_getElem hi'
    have hvl : (vers xs (steps.take i)).1.length = i + 1 := by
      have := (vers_len (steps.take i) ([xs], [])).1
      simp only [List.length_take] at this
      simp only [vers]; simp at this; omega
    obtain ⟨al, cl, rfl, hcl, hrl, hal, hol⟩ := own_slice hown
    have hrow : (i64s ((vers xs (steps.take i)).1.map fun ys => (ys.length : Int))).length = i + 1 := by simp [i64s, hvl]
    obtain ⟨bl, ol, csl, el, ⟨fc, fd⟩, rfl, hcl1, _⟩ := hrl.get (j := 0) (by omega)
    have hcl2 : ∀ (q : Nat) (ys : List Int), (vers xs (steps.take i)).1[q]? = some ys → csl[ol + q]? = some (.int .i64 ys.length) := fun q ys hq => by
      have hql := (List.getElem?_eq_some_iff.1 hq).1
      obtain ⟨bl', ol', csl', el', fz', h3, h4, h5⟩ := hrl.get (j := q) (by omega)
      obtain ⟨rfl, rfl⟩ : bl = bl' ∧ ol = ol' := by simpa using h3
      rw [hcl1] at h4
      obtain ⟨rfl, rfl, rfl⟩ := Obj.cells.inj (Option.some.inj h4)
      rw [h5]
      simp only [i64s, List.getElem_map]
      rw [(List.getElem?_eq_some_iff.1 hq).2]
    have hnel : bl ≠ wl.heap.size := Nat.ne_of_lt (lt_of_get hcl1)
    have hks : steps[i].cells.toArray = #[.int .u8 steps[i].kind, .int .i64 steps[i].fro, .int .i64 steps[i].index, .int .i64 steps[i].fin, .int .i64 steps[i].value] := rfl
    have hfa : ∀ {M}, Frm M wl (wl.alloc (.cells steps[i].cells.toArray 59)) := Frm.alloc _ _
    have hF : ∀ {w'}, (∀ {M}, Frm M wl w') → K (.bool false) w' := fun h => hf _ fun {M} => (hfr (M := M)).trans (h (M := M)) fun _ h _ => h
    simp [-getElem?_pos, -Array.getElem?_eq_getElem, List.getElem?_cons_zero, add_spot, hcs, hsz, and_assoc, hp_alloc_eq, alloc_upd, hls, how, hks, Br_dec, hcl1, hnel, hp_alloc_ne]
    refine ⟨hi', hone, fun _ => ?_, fun hk5 => ⟨fun _ => ?_, fun hf0 => ⟨fun _ => ?_, fun hf1 => ⟨hf0, hf1, ?_⟩⟩⟩⟩
    · rw [← hks]; exact hF hfa
    · rw [← hks]; exact hF hfa
    · rw [← hks]; exact hF hfa
    obtain ⟨q, hq⟩ : ∃ q : Nat, (steps[i]).fro = q := ⟨(steps[i]).fro.toNat, by omega⟩
    obtain ⟨ys, hys⟩ : ∃ ys, (vers xs (steps.take i)).1[q]? = some ys := ⟨_, List.getElem?_eq_getElem (by omega)⟩
    have hadv : vers xs (steps.take (i + 1)) = ((vers xs (steps.take i)).1 ++ [(after ys steps[i]).1], (vers xs (steps.take i)).2 ++ [!(after ys steps[i]).2]) := by
      rw [htk, vers_snoc, adv, hq]; simp [hys]
    have hyl := hfit.len i q ys (by rw [List.take_take, Nat.min_self]; exact hys)
    rw [← hks]
    have hal0 : (wl.alloc (.cells steps[i].cells.toArray 59)).heap[wl.heap.size]? = some (.cells steps[i].cells.toArray 59 (0, 0)) := hp_alloc_eq rfl
    obtain ⟨J, hJ⟩ : ∃ J : Value → World → Prop, ∀ v w', J v w' ↔ w' = wl.alloc (.cells steps[i].cells.toArray 59) ∧ (4 ≤ steps[i].kind → 0 ≤ steps[i].index ∧ steps[i].index ≤ 6000) ∧ v = .int .i64 ((after ys steps[i]).1.length : Int) := ⟨_, fun _ _ => Iff.rfl⟩
    obtain ⟨J1, hJ1⟩ : ∃ J : Value → World → Prop, ∀ v w', J v w' ↔ w' = wl.alloc (.cells steps[i].cells.toArray 59) ∧ v = .bool (decide (steps[i].kind = 0 ∨ steps[i].kind = 1)) := ⟨_, fun _ _ => Iff.rfl⟩
    obtain ⟨J2, hJ2⟩ : ∃ J : Value → World → Prop, ∀ v w', J v w' ↔ w' = wl.alloc (.cells steps[i].cells.toArray 59) ∧ v = .bool (decide (steps[i].kind = 4 ∨ steps[i].kind = 5)) := ⟨_, fun _ _ => Iff.rfl⟩
    refine ⟨.int .i64 ys.length, by rw [hq]; exact hcl2 q ys hys, Jn.intro J ⟨Jn.intro J1 ⟨fun h => (hJ1 _ _).2 ⟨rfl, by simp [h]⟩, fun h => (hJ1 _ _).2 ⟨rfl, ?_⟩, ?_⟩, ?_⟩⟩
    · congr 1; simp [h]; omega
    · intro w' pv hpv
      obtain ⟨rfl, rfl⟩ := (hJ1 _ _).1 hpv
      simp only [Br_dec]
      generalize hst : steps[i] = s at *
      obtain ⟨kind, fro, index, fin, value⟩ := s
      simp only at *
      refine ⟨fun h => ?_, fun h => Jn.intro J2 ⟨fun h4 => (hJ2 _ _).2 ⟨rfl, ?_⟩, fun h4 => (hJ2 _ _).2 ⟨rfl, ?_⟩, ?_⟩⟩
      · simp only [op_add]
        rw [wrap_small _ rfl (by omega) (by omega)]
        refine (hJ _ _).2 ⟨rfl, fun h4 => by omega, ?_⟩
        rcases h with rfl | rfl <;> simp [after]
      · congr 1; exact decide_eq_decide.2 (by omega)
      · congr 1; exact decide_eq_decide.2 (by omega)
      · intro w2 pv2 hpv2
        obtain ⟨rfl, rfl⟩ := (hJ2 _ _).1 hpv2
        simp only [Br_dec]
        simp [-getElem?_pos, -Array.getElem?_eq_getElem, List.getElem?_cons_zero, hp_alloc_eq, Step.cells, add_spot, Br_dec]
        have hFw := hF hfa
        simp only [Step.cells] at hFw
        refine ⟨fun hk => ⟨fun _ => hFw, fun h0 => ⟨fun _ => hFw, fun h6 => ?_⟩⟩, fun hk hk' => ⟨fun hk3 => ?_, fun hk3 => ?_⟩⟩
        · rw [wrap_small _ rfl (by omega) (by omega)]
          refine (hJ _ _).2 ⟨rfl, fun _ => ⟨h0, h6⟩, ?_⟩
          congr 1
          rcases hk with rfl | rfl <;> simp [after, many_len] <;> omega
        · have hk3' : kind = 3 := by omega
          subst hk3'
          have hin : 0 ≤ index → index ≤ fin → fin ≤ ys.length → ((after ys ⟨3, fro, index, fin, value⟩).1.length : Int) = fin - index := fun g1 g2 g3 => by
            simp only [after]
            rw [if_pos ⟨g1, g2, g3⟩, cut_length (by omega) (by omega)]
            omega
          have hout : ¬ (0 ≤ index ∧ index ≤ fin ∧ fin ≤ ys.length) → ((after ys ⟨3, fro, index, fin, value⟩).1.length : Int) = ys.length := fun g => by
            simp only [after]
            rw [if_neg g]
          refine ⟨fun g1 => ⟨fun g2 => ⟨fun g3 => ?_, fun g3 => ?_⟩, fun g2 => ?_⟩, fun g1 => ?_⟩
          · rw [wrap_small _ rfl (by omega) (by omega)]
            exact (hJ _ _).2 ⟨rfl, fun h => by omega, by rw [hin g1 g2 g3]⟩
          · exact (hJ _ _).2 ⟨rfl, fun h => by omega, by rw [hout (by omega)]⟩
          · exact (hJ _ _).2 ⟨rfl, fun h => by omega, by rw [hout (by omega)]⟩
          · exact (hJ _ _).2 ⟨rfl, fun h => by omega, by rw [hout (by omega)]⟩
        · refine (hJ _ _).2 ⟨rfl, fun h => by omega, ?_⟩
          have : kind = 2 := by omega
          subst this
          simp only [after]
          split <;> simp
    · intro w' pv hpv
      obtain ⟨rfl, hidx, rfl⟩ := (hJ _ _).1 hpv
      simp only [op_gtr, Br_dec]
      refine ⟨fun _ => hF hfa, fun h6 => ?_⟩
      have hal3 : ((after ys steps[i]).1.length : Int) ≤ 6000 := by omega
      simp [-getElem?_pos, -Array.getElem?_eq_getElem, List.getElem?_cons_zero]
      generalize hlg : (Value.slice (some ⟨bl, ol, none⟩) (i + 1) cl) = l at *
      have hob := own_lt hown
      have hsw : w.heap.size ≤ wl.heap.size := (hfr (M := fun _ => False)).size
      have hfb : ∀ {M}, Frm M wl ((wl.alloc (.cells steps[i].cells.toArray 59)).alloc (.cells #[.int .i64 (after ys steps[i]).1.length] 3)) := fun {M} => (hfa (M := M)).trans (Frm.alloc _ _) fun _ h _ => h
      have hr1 : Row ((wl.alloc (.cells steps[i].cells.toArray 59)).alloc (.cells #[.int .i64 (after ys steps[i]).1.length] 3)) (some ⟨wl.heap.size + 1, 0, none⟩) (i64s [((after ys steps[i]).1.length : Int)]) :=
        .inr ⟨_, _, _, _, _, rfl, hp_alloc_eq (by simp), fun j v hj => by simpa [i64s] using hj⟩
      refine op_append (base := w.heap.size) (size := 1) (n := i + 1) (m := 1) (xs := i64s ((vers xs (steps.take i)).1.map fun ys => (ys.length : Int))) (news := i64s [((after ys steps[i]).1.length : Int)]) ap85 (own_frame hown (hfb (M := fun _ => False)) (by simp)) hr1 rfl (by simp [i64s]) (by simp) (by omega) (by simp; omega) fun l4 w4 hl4 hf4 hbl4 => ?_
      rw [wrap_small _ rfl (by omega) (by omega)]
      refine ⟨(hI _ _ _).2 ⟨i + 1, rfl, by omega, fun {M} => ((hfr (M := M)).trans (hfb (M := M)) fun _ h _ => h).trans hf4 fun k hk hlt => by have := hob k hk.symm; omega, ?_, ?_⟩, ?_⟩
      · rw [hadv]
        simpa [i64s] using hl4
      · have hgt : ∀ k (hk : k < (steps.take (i + 1)).length), k < i ∧ (∀ h, (steps.take (i + 1))[k] = (steps.take i)[k]'h) ∨ k = i ∧ (steps.take (i + 1))[k] = steps[i] := fun k hk => by
          have hk2 : k < i + 1 := by simp at hk; omega
          by_cases hki : k < i
          · exact .inl ⟨hki, fun h => by simp⟩
          · have : k = i := by omega
            subst this
            exact .inr ⟨rfl, by simp⟩
        refine ⟨fun k hk => ?_, fun k hk => ?_, fun k j zs hzs => ?_⟩
        · rcases hgt k hk with ⟨hki, he⟩ | ⟨rfl, he⟩
          · rw [he (by simp; omega)]; exact hfit.all k (by simp; omega)
          · rw [he]; exact ⟨⟨by omega, fun h => (hidx h).1⟩, by omega, by omega, fun h => by have := (hidx h).2; omega⟩
        · rcases hgt k hk with ⟨hki, he⟩ | ⟨rfl, he⟩
          · rw [he (by simp; omega)]; exact hfit.idx k (by simp; omega)
          · rw [he]; exact fun h => (hidx h).2
        · by_cases hki : k < i + 1
          · have := hfit.len k j zs (by rw [List.take_take] at hzs ⊢; rw [Nat.min_eq_left (by omega)] at hzs ⊢; exact hzs)
            exact this
          · rw [List.take_take, Nat.min_eq_right (by omega), hadv] at hzs
            by_cases hji : j < i + 1
            · rw [List.getElem?_append_left (by omega)] at hzs
              exact hfit.len i j zs (by rw [List.take_take, Nat.min_self]; exact hzs)
            · have hj2 : j = i + 1 := by
                have := (List.getElem?_eq_some_iff.1 hzs).1
                simp at this; omega
              subst hj2
              rw [List.getElem?_append_right (by omega), hvl] at hzs
              simp at hzs
              subst hzs
              omega
      · have e : (i : Int) + 1 = ((i + 1 : Nat) : Int) := rfl
        rw [e, hμ, hμ]; omega
  · have : i = steps.length := by omega
    subst this
    rw [List.take_length] at hfit
    exact ht hfit wl hfr
end Go.Proofs.Ytjlaclgikmmmlaa
