import Derived.Test.YtbghmbbhkoniiaaO6
section
/- slices.Reverse of a row of one's own. -/
set_option linter.unusedSimpArgs false
set_option linter.unusedVariables false
namespace Go.Vc
/-- Turning a row round, step by step. -/
def swapped {α : Type} (l : List α) (i : Nat) : List α := l.mapIdx fun j x => if j < i ∨ l.length - 1 - j < i then (l[l.length - 1 - j]?).getD x else x
theorem swapped_len {α : Type} (l : List α) (i : Nat) : (swapped l i).length = l.length := by simp [swapped]
theorem swapped_get {α : Type} (l : List α) (i j : Nat) (hj : j < l.length) : (swapped l i)[j]? = some (if j < i ∨ l.length - 1 - j < i then l[l.length - 1 - j]'(by omega) else l[j]) := by
  simp only [swapped, List.getElem?_mapIdx, List.getElem?_eq_getElem hj, Option.map_some]
  congr 1
  split
  · rw [List.getElem?_eq_getElem (by omega)]; rfl
  · rfl
theorem swapped_zero {α : Type} (l : List α) : swapped l 0 = l := by
  apply List.ext_getElem?
  intro j
  by_cases hj : j < l.length
  · rw [swapped_get l 0 j hj, if_neg (by omega), List.getElem?_eq_getElem hj]
  · rw [List.getElem?_eq_none (by rw [swapped_len]; omega), List.getElem?_eq_none (by omega)]
theorem swapped_all {α : Type} (l : List α) {i : Nat} (h : l.length ≤ 2 * i + 1) : swapped l i = l.reverse := by
  apply List.ext_getElem?
  intro j
  by_cases hj : j < l.length
  · rw [swapped_get l i j hj, List.getElem?_reverse hj, List.getElem?_eq_getElem (by omega)]
    split
    · rfl
    · have : l.length - 1 - j = j := by omega
      simp only [this]
  · rw [List.getElem?_eq_none (by rw [swapped_len]; omega), List.getElem?_eq_none (by simp; omega)]
theorem swapped_succ {α : Type} (l : List α) {i : Nat} (h : 2 * i + 1 < l.length) : swapped l (i + 1) = ((swapped l i).set i (l[l.length - 1 - i]'(by omega))).set (l.length - 1 - i) (l[i]'(by omega)) := by
  apply List.ext_getElem?
  intro j
  by_cases hj : j < l.length
  · rw [swapped_get l (i + 1) j hj, List.getElem?_set, List.getElem?_set]
    simp only [List.length_set, swapped_len]
    by_cases h1 : l.length - 1 - i = j
    · rw [if_pos h1, if_pos (by omega), if_pos (by omega)]
      have : l.length - 1 - j = i := by omega
      simp only [this]
    · rw [if_neg h1]
      by_cases h2 : i = j
      · subst h2
        rw [if_pos rfl, if_pos (by omega), if_pos (by omega)]
      · rw [if_neg h2, swapped_get l i j hj]
        congr 1
        by_cases h3 : j < i ∨ l.length - 1 - j < i
        · rw [if_pos h3, if_pos (by omega)]
        · rw [if_neg h3, if_neg (by omega)]
  · rw [List.getElem?_eq_none (by rw [swapped_len]; omega), List.getElem?_eq_none (by simp [swapped_len]; omega)]

variable {P : Program} {w w' : World} {K : Value → World → Prop} {Kp : KP} {t e tin tel : TypeId} {s base g c : Nat} {α : Type} {f : α → List Value} {ys : List α} {l : Value}
theorem lw_flat (hf : ∀ x, (f x).length = s) : ∀ (ys : List α) (j : Nat) (y : α), j < ys.length → lw (ys.map f).flatten (j * s) (f y) = ((ys.set j y).map f).flatten
  | [], j, y, h => by simp at h
  | x :: ys, 0, y, _ => by
    simp only [List.map_cons, List.flatten_cons, List.set_cons_zero, Nat.zero_mul, lw, List.take_zero, List.nil_append, Nat.zero_add]
    rw [hf y, ← hf x, List.drop_left]
  | x :: ys, j + 1, y, h => by
    have ih := lw_flat hf ys j y (by simpa using h)
    simp only [lw] at ih ⊢
    have e1 : (j + 1) * s = (f x).length + j * s := by rw [hf, Nat.add_mul]; omega
    simp only [List.map_cons, List.flatten_cons, List.set_cons_succ]
    rw [e1, List.take_length_add_append, Nat.add_assoc, List.drop_length_add_append, ← ih]
    simp
/-- An element of a row of one's own is written. -/
theorem op_store_frow {j : Nat} {y : α} (hel : ldk P tel = some (.agg s)) (hf : ∀ x, (f x).length = s) (hone : ∀ x, ∀ u ∈ f x, u.oneCell' = true) (hR : FRow f w base e s (.slice (some ⟨g, 0, none⟩) ys.length c) ys) (hj : j < ys.length)
    (hK : ∀ w', Frm (· = g) w w' → w'.heap.size = w.heap.size → FRow f w' base e s (.slice (some ⟨g, 0, none⟩) ys.length c) (ys.set j y) → K undef w') : (nice P).op (.store tel (.pointer (some ⟨g, j * s, none⟩)) (.agg (f y).toArray)) w K Kp := by
  obtain ⟨⟨us, h1, h3, h4, h5⟩, h6, h7⟩ := hR
  have hus : us = ys.map f := by
    apply List.ext_getElem?
    intro i
    by_cases hi : i < us.length
    · rw [List.getElem?_eq_getElem hi, List.getElem?_map, List.getElem?_eq_getElem (by omega)]
      have := h5 i us[i] (ys[i]'(by omega)) (List.getElem?_eq_getElem _) (List.getElem?_eq_getElem _)
      rw [this]; rfl
    · rw [List.getElem?_eq_none (by omega), List.getElem?_eq_none (by simp; omega)]
  subst hus
  obtain ⟨g', cap', hv, hc, hrw, hb⟩ := Rw.of_own (n := ys.length) (own_base h4 (Nat.zero_le _)) (by omega)
  cases hv
  have hlow := Go.Vc.own_lt h4 g rfl
  have hle : (j + 1) * s ≤ ys.length * s := Nat.mul_le_mul_right _ hj
  rw [Nat.add_mul, Nat.one_mul] at hle
  have hfl := h4.1
  refine op_storeRN (n := s) hel (by simp [hf]) hrw (by omega) (fun u hu => hone y u (by simpa using hu)) fun w' k' z' hrw' => ?_
  have e1 := lw_flat hf ys j y hj
  rw [List.toList_toArray, e1] at hrw'
  refine hK w' k' z' ⟨⟨(ys.set j y).map f, by simp, fun u hu => by obtain ⟨x, _, rfl⟩ := List.mem_map.1 hu; exact hf x, ?_, fun i u y' hu hy => ?_⟩, fun _ h => h.elim, fun _ _ h => h⟩
  · rw [List.length_set]
    have hn : ((ys.set j y).map f).flatten.length = ys.length * s := by
      rw [flatten_len (k := s) fun u hu => by obtain ⟨x, _, rfl⟩ := List.mem_map.1 hu; exact hf x]; simp
    obtain ⟨q1, ⟨_, q2⟩ | ⟨g2, cap2, cur2, q2, q3, q4⟩⟩ := hrw'.own hn hc
    · omega
    · cases q2
      exact ⟨q1, .inr ⟨g, c, cur2, rfl, hlow.1, q4⟩⟩
  · rw [List.getElem?_map, hy] at hu
    exact (Option.some.inj hu).symm
/-- The chain of slices.Reverse. -/
def revChain (S : Sig) (tin tel : TypeId) (a0 : Value) (w : World) (K : Value → World → Prop) (Kp : KP) : Prop :=
  S.op (.blt Builtin.len [tin] 3 [a0]) w (fun v5 w =>
  S.op (.bin BinOp.sub 3 false true v5 (Value.int IntKind.i64 1)) w (fun v6 w =>
  Lp fun (I1 : Value → Value → World → Prop) (μ1 : Value → Value → World → Nat) => I1 (Value.int IntKind.i64 0) v6 w ∧
  ∀ (wl1 : World) (junk : Nat → Value) (s2_i : Value) (s3_j : Value), I1 s2_i s3_j wl1 →
    S.op (.bin BinOp.lss 3 false false s2_i s3_j) wl1 (fun v9 w =>
    Br v9 (
      S.pur (.indexAddr tin a0 s3_j) (fun v20 =>
      S.ld (.load tel v20) w.drew (fun v21 =>
      S.pur (.indexAddr tin a0 s2_i) (fun v24 =>
      S.ld (.load tel v24) w.drew (fun v25 =>
      S.pur (.indexAddr tin a0 s2_i) (fun v26 =>
      S.op (.store tel v26 v21) w.drew (fun _ w =>
      S.pur (.indexAddr tin a0 s3_j) (fun v27 =>
      S.op (.store tel v27 v25) w (fun _ w =>
      S.op (.bin BinOp.add 3 false true s2_i (Value.int IntKind.i64 1)) w (fun v11 w =>
      S.op (.bin BinOp.sub 3 false true s3_j (Value.int IntKind.i64 1)) w (fun v13 w =>
      I1 v11 v13 w ∧ μ1 v11 v13 w < μ1 s2_i s3_j wl1) Kp) Kp) Kp)) Kp)))))) (
      K (Value.tuple #[]) w)) Kp) Kp) Kp
theorem revChain_ok (hin : sliceOf P tin = some (e, s)) (hkd : kd P tin = .slice) (hel : ldk P tel = some (.agg s)) (hf : ∀ x, (f x).length = s) (hone : ∀ x, ∀ u ∈ f x, u.oneCell' = true) (hR : FRow f w base e s l ys) (hn : ys.length < 2 ^ 31)
    (hK : ∀ w', Frm (fun b => some b = l.ownBlock) w w' → FRow f w' base e s l ys.reverse → K (.tuple #[]) w') : revChain (nice P) tin tel l w K Kp := by
  obtain ⟨a, c, hl, hc, hm, ha⟩ := hR.slice
  unfold revChain
  rw [hl, op_len_slice hkd, op_sub]
  by_cases h0 : ys.length = 0
  · have hy : ys = [] := List.eq_nil_of_length_eq_zero h0
    subst hy
    refine Lp.intro (fun u v wl => wl = w ∧ u = .int .i64 0 ∧ v = .int .i64 (IntKind.i64.wrap (((0 : Nat) : Int) - 1))) (fun _ _ _ => 0) ⟨⟨rfl, rfl, rfl⟩, ?_⟩
    rintro wl _ u v ⟨rfl, rfl, rfl⟩
    rw [op_lss]
    have : ¬ ((0 : Int) < IntKind.i64.wrap (((0 : Nat) : Int) - 1)) := by rw [IntKind.wrap_i64]; omega
    simp only [Br_dec, this, false_implies, true_and, not_false_eq_true, true_implies]
    exact hK wl Frm.refl hR
  obtain ⟨p, rfl⟩ : ∃ p, a = some p := by
    cases a with
    | none => exact absurd (ha rfl) h0
    | some p => exact ⟨p, rfl⟩
  obtain ⟨u0, g, c', cs0, he0, _⟩ := hR.get (j := 0) (by omega)
  rw [hl] at he0
  cases he0
  subst hl
  have hlow := hR.own_lt g rfl
  obtain ⟨I, hI⟩ : ∃ I : Value → Value → World → Prop, ∀ u v wl, I u v wl ↔ ∃ i : Nat, u = .int .i64 i ∧ v = .int .i64 ((ys.length : Int) - 1 - i) ∧ 2 * i ≤ ys.length ∧ Frm (· = g) w wl ∧ FRow f wl base e s (.slice (some ⟨g, 0, none⟩) ys.length c) (swapped ys i) := ⟨_, fun _ _ _ => Iff.rfl⟩
  have w1 : IntKind.i64.wrap ((ys.length : Int) - 1) = (ys.length : Int) - 1 - (0 : Nat) := by rw [IntKind.wrap_i64]; omega
  rw [w1]
  refine Lp.intro I (fun u _ _ => ys.length - (match u with | .int _ j => j.toNat | _ => 0)) ⟨(hI _ _ _).2 ⟨0, rfl, rfl, by omega, Frm.refl, by rw [swapped_zero]; exact hR⟩, ?_⟩
  intro wl _ u v hu
  obtain ⟨i, rfl, rfl, hi, kl, hRl⟩ := (hI _ _ _).1 hu
  have hsl := swapped_len ys i
  rw [op_lss]
  simp only [Br_dec]
  refine ⟨fun hlt => ?_, fun hge => ?_⟩
  · have h2 : 2 * i + 1 < ys.length := by omega
    obtain ⟨j, hj⟩ : ∃ j : Nat, (ys.length : Int) - 1 - i = j := ⟨ys.length - 1 - i, by omega⟩
    have hjn : j = ys.length - 1 - i := by omega
    rw [hj]
    have hRl' : FRow f wl.drew base e s (.slice (some ⟨g, 0, none⟩) (swapped ys i).length c) (swapped ys i) := by rw [hsl]; exact frow_still hRl (Frm.drew _)
    have rd : ∀ (m : Nat) (hm : m < ys.length) (K1 : Value → Prop), K1 (.agg (f ((swapped ys i)[m]'(by omega))).toArray) → (nice P).ld (.load tel (.pointer (some ⟨g, m * s, none⟩))) wl.drew K1 := fun m hm K1 h => by
      obtain ⟨g', c', cs, he, hcs, _, hsz, hext⟩ := frow_get hRl' (j := m) (by omega)
      cases he
      rw [ld_ldn hel]
      refine ⟨cs, _, _, hcs, rfl, hsz, ?_⟩
      show K1 (.agg (cs.extract (m * s) (m * s + s)))
      rw [hext]; exact h
    have ix : ∀ (m : Nat) (hm : m < ys.length) (K1 : Value → Prop), K1 (.pointer (some ⟨g, m * s, none⟩)) → (nice P).pur (.indexAddr tin (.slice (some ⟨g, 0, none⟩) ys.length c) (.int .i64 (m : Int))) K1 := fun m hm K1 h => by
      rw [pur_ix_slice hin]
      refine ⟨⟨by omega, by omega⟩, ?_⟩
      rw [add_spot rfl]
      simpa using h
    have g1 := swapped_get ys i i (by omega)
    have g2 := swapped_get ys i j (by omega)
    rw [if_neg (by omega)] at g1 g2
    have g1' : (swapped ys i)[i]'(by omega) = ys[i] := by have := List.getElem?_eq_getElem (l := swapped ys i) (i := i) (by omega); rw [g1] at this; exact (Option.some.inj this).symm
    have g2' : (swapped ys i)[j]'(by omega) = ys[j]'(by omega) := by have := List.getElem?_eq_getElem (l := swapped ys i) (i := j) (by omega); rw [g2] at this; exact (Option.some.inj this).symm
    refine ix j (by omega) _ (rd j (by omega) _ (ix i (by omega) _ (rd i (by omega) _ (ix i (by omega) _ ?_))))
    rw [g1', g2']
    refine op_store_frow (y := ys[j]'(by omega)) hel hf hone hRl' (by omega) fun w2 k2 z2 hR2 => ?_
    refine ix j (by omega) _ ?_
    have hR2' : FRow f w2 base e s (.slice (some ⟨g, 0, none⟩) ((swapped ys i).set i (ys[j]'(by omega))).length c) ((swapped ys i).set i (ys[j]'(by omega))) := by rw [List.length_set]; exact hR2
    refine op_store_frow (y := ys[i]) hel hf hone hR2' (by rw [List.length_set]; omega) fun w3 k3 z3 hR3 => ?_
    rw [op_add, op_sub, wrap_small64 (by omega) (by omega), wrap_small64 (by omega) (by omega)]
    have hsw := swapped_succ ys (i := i) (by omega)
    subst hjn
    refine ⟨(hI _ _ _).2 ⟨i + 1, by simp, by congr 1; omega, by omega, (kl.trans (Frm.dr k2) fun _ h _ => h).trans k3 fun _ h _ => h, ?_⟩, ?_⟩
    · rw [hsw]
      rw [List.length_set, hsl] at hR3
      exact hR3
    · have : ((i : Int) + 1).toNat = i + 1 := by omega
      simp only [Int.toNat_natCast, this]; omega
  · have := hK wl (kl.to fun b hb => by rw [hb]; rfl)
    rw [swapped_all ys (by omega)] at hRl
    exact this hRl
end Go.Vc
namespace Go.Vc
variable {P : Program} {w w' : World} {K : Value → World → Prop} {K1 : Value → Prop} {Kp : KP} {t e : TypeId} {s base : Nat} {α : Type} {f : α → List Value} {xs : List α} {v : Value}
theorem row_none {vs : List Value} (h : Row w none vs) : vs = [] := by
  rcases h with h | ⟨b, o, cs, e, fz, h1, _⟩
  · exact h
  · cases h1
theorem row_off {w : World} {b o : Nat} {A B : List Value} (h : Row w (some ⟨b, o, none⟩) (A ++ B)) : Row w (some ⟨b, o + A.length, none⟩) B := by
  rcases h with h | ⟨b', o', cs, e, fz, h1, h2, h3⟩
  · exact .inl (List.append_eq_nil_iff.1 h).2
  · cases h1
    refine .inr ⟨b, o + A.length, cs, e, fz, rfl, h2, fun j u hj => ?_⟩
    have := h3 (A.length + j) u (by rw [List.getElem?_append_right (by omega)]; simpa using hj)
    rw [Nat.add_assoc]; exact this
theorem row_pre {w : World} {a : Option Addr} {A B : List Value} (h : Row w a (A ++ B)) : Row w a A := by
  rcases h with h | ⟨b', o', cs, e, fz, h1, h2, h3⟩
  · exact .inl (List.append_eq_nil_iff.1 h).1
  · refine .inr ⟨b', o', cs, e, fz, h1, h2, fun j u hj => h3 j u ?_⟩
    rw [List.getElem?_append_left (List.getElem?_eq_some_iff.1 hj).1]; exact hj
/-- What is behind a place of a slice. -/
theorem cut_lo {k : IntKind} {i : Nat} (h : sliceOf P t = some (e, s)) (hf : ∀ x, (f x).length = s) (hi : i ≤ xs.length) (hs : IsSl w v xs.length (xs.flatMap f)) (h0s : 0 < s)
    (hK : ∀ v', IsSl w v' (xs.drop i).length ((xs.drop i).flatMap f) → K1 v') : (nice P).pur (.slice t v (some (.int k (i : Int))) none none) K1 := by
  obtain ⟨a, c, rfl, hc, hm, hr, hn⟩ := hs
  have hx : xs.flatMap f = (xs.take i).flatMap f ++ (xs.drop i).flatMap f := by rw [← List.flatMap_append, List.take_append_drop]
  have hlen : ((xs.take i).flatMap f).length = i * s := by rw [flatMap_len hf, List.length_take, Nat.min_eq_left hi]
  by_cases hx0 : xs = []
  · subst hx0
    have hi0 : i = 0 := by simpa using hi
    subst hi0
    rw [pur_of (c := (0 : Int) ≤ 0 ∧ (0 : Int) ≤ 0 ∧ (0 : Int) ≤ (c : Int)) (v := .slice (if c = 0 then a else a.map (·.add (0 * s))) 0 c)]
    · exact ⟨by omega, hK _ ⟨_, c, rfl, by simp, hm, .inl rfl, fun _ => rfl⟩⟩
    · simp only [pv, h, cutV, lowV, upV]
      simp
  · have hx1 : xs.flatMap f ≠ [] := fun h0 => by
      have := congrArg List.length h0
      rw [flatMap_len hf] at this
      have h3 : 0 < xs.length := List.length_pos_iff.2 hx0
      have := Nat.mul_pos h3 h0s
      simp_all
    obtain ⟨b, o, rfl⟩ : ∃ b o, a = some ⟨b, o, none⟩ := by
      rcases hr with h | ⟨b, o, _, _, _, h, _⟩
      · exact absurd h hx1
      · exact ⟨b, o, h⟩
    rw [pur_cut_lo h]
    refine ⟨⟨by omega, by omega, by omega⟩, hK _ ?_⟩
    simp only [Int.toNat_natCast, List.length_drop]
    rw [hx] at hr
    refine ⟨_, _, rfl, Nat.sub_le_sub_right hc i, Nat.le_trans (Nat.sub_le c i) hm, ?_, fun hz => by split at hz <;> cases hz⟩
    by_cases he : c = i
    · rw [if_pos he]
      have : xs.drop i = [] := by rw [List.drop_eq_nil_iff]; omega
      rw [this]; exact .inl rfl
    · rw [if_neg he]
      have := row_off hr
      rwa [hlen] at this
/-- What is ahead of a place of a slice. -/
theorem cut_hi {k : IntKind} {i : Nat} (h : sliceOf P t = some (e, s)) (hf : ∀ x, (f x).length = s) (hi : i ≤ xs.length) (hs : IsSl w v xs.length (xs.flatMap f)) (h0s : 0 < s)
    (hK : ∀ v', IsSl w v' (xs.take i).length ((xs.take i).flatMap f) → K1 v') : (nice P).pur (.slice t v none (some (.int k (i : Int))) none) K1 := by
  obtain ⟨a, c, rfl, hc, hm, hr, hn⟩ := hs
  have hx : xs.flatMap f = (xs.take i).flatMap f ++ (xs.drop i).flatMap f := by rw [← List.flatMap_append, List.take_append_drop]
  have htl : (xs.take i).length = i := by rw [List.length_take, Nat.min_eq_left hi]
  by_cases hx0 : xs = []
  · subst hx0
    have hi0 : i = 0 := by simpa using hi
    subst hi0
    rw [pur_of (c := (0 : Int) ≤ 0 ∧ (0 : Int) ≤ 0 ∧ (0 : Int) ≤ (c : Int)) (v := .slice (if c = 0 then a else a.map (·.add (0 * s))) 0 c)]
    · exact ⟨by omega, hK _ ⟨_, c, rfl, by simp, hm, .inl rfl, fun _ => rfl⟩⟩
    · simp only [pv, h, cutV, lowV, upV]
      simp
  · have hx1 : xs.flatMap f ≠ [] := fun h0 => by
      have := congrArg List.length h0
      rw [flatMap_len hf] at this
      have h3 : 0 < xs.length := List.length_pos_iff.2 hx0
      have := Nat.mul_pos h3 h0s
      simp_all
    obtain ⟨b, o, rfl⟩ : ∃ b o, a = some ⟨b, o, none⟩ := by
      rcases hr with h | ⟨b, o, _, _, _, h, _⟩
      · exact absurd h hx1
      · exact ⟨b, o, h⟩
    rw [pur_cut_hi h]
    refine ⟨⟨by omega, by omega⟩, hK _ ?_⟩
    simp only [Int.toNat_natCast]
    rw [hx] at hr
    exact ⟨_, _, by rw [htl], by omega, hm, row_pre hr, fun hz => nomatch hz⟩
theorem IsSl.old {M : Nat → Prop} {n : Nat} {vs : List Value} (h : IsSl w v n vs) (hf : Frm M w w') (hM : ∀ b, M b → w.heap.size ≤ b) : IsSl w' v n vs := by
  obtain ⟨a, c, rfl, hc, hm, hr, hn⟩ := h
  exact ⟨a, c, rfl, hc, hm, hr.old hf hM, hn⟩
/-- A row of nothing. -/
theorem op_row0 {bytes : Nat} (ha : apOf P t = some (e, s, bytes)) (hl : sliceLit P t 0 [] = some (e, #[])) (hbase : base ≤ w.heap.size) (hK : ∀ l' w', Frm (fun _ => False) w w' → FRow f w' base e s l' [] → l'.ownBlock = some w.heap.size → K l' w') : (nice P).op (.buildSlice t 0 []) w K Kp := by
  refine op_lit_ok hl fun w1 k1 z1 b1 => ?_
  have hr : Rw w1 e s w.heap.size 0 [] := ⟨_, b1, by simp, by simp, by simp, by simp [maxLen]⟩
  refine hK _ w1 k1 ⟨⟨[], rfl, by simp, ?_, fun j u y hu => by simp at hu⟩, fun _ h => h.elim, fun _ _ h => h⟩ rfl
  obtain ⟨h1, ⟨h2, _⟩ | ⟨g, cap, cur, h2, h3, h4⟩⟩ := hr.own (n := 0) (by simp) (Nat.le_refl _)
  · cases h2
  · cases h2
    exact ⟨h1, .inr ⟨_, _, cur, rfl, hbase, h4⟩⟩
end Go.Vc
end
section
/- slices.Reverse of pairs, laws.FnMapOrder. -/
set_option maxRecDepth 100000
set_option maxHeartbeats 4000000
set_option linter.unusedSimpArgs false
set_option linter.unusedVariables false
set_option linter.unusedSectionVars false
namespace Go.Proofs.Ytbghmbbhkoniiaa.I
open Go.Vc Go.Proofs Go.Proofs.Ytbghmbbhkoniiaa Go.Vc.Nd
variable {w w' : World} {v hv : Value} {t : Tr} {F F' G : Nat → Prop} {K : Value → World → Prop} {Kp : KP} {hash : Ky → Nat} {k : Ky} {x : Vl} {l s rb md ml sh : Nat} {r0 mu nl : Bool}
theorem apSPair : apOf Try.prog 43 = some (45, 2, 16) := by kernel_rfl
theorem apStep : apOf Try.prog 32 = some (35, 5, 40) := by kernel_rfl
theorem reverse_ok {ys : List (Ky × Vl)} {base : Nat} {lv : Value} (hR : FRow ent w base 45 2 lv ys) (hn : ys.length < 2 ^ 31)
    (hK : ∀ w', Frm (fun b => some b = lv.ownBlock) w w' → FRow ent w' base 45 2 lv ys.reverse → K (.tuple #[]) w') : Calls Try.prog 24 #[lv] w (ret K Kp) :=
  vc24_calls (revChain_ok (f := ent) (s := 2) (e := 45) (by kernel_rfl) (by kernel_rfl) (by kernel_rfl) ent_len ent_one hR hn hK)
theorem eqInts_ok {v1 v2 : Value} {L L' : List Int} (h1 : IsSl w v1 L.length (L.flatMap i1)) (h2 : IsSl w v2 L'.length (L'.flatMap i1)) (hn : L.length < 2 ^ 31) (hK : ∀ w', Frm (fun _ => False) w w' → K (.bool (decide (L = L'))) w') :
    Calls Try.prog 25 #[v1, v2] w (ret K Kp) :=
  vc25_calls (eqChain_ok (f := i1) (k := 1) (e := 2) (ev := fun x => .int .i64 x) (by kernel_rfl) (by kernel_rfl) i1_len (by decide) (.inr ⟨rfl, by kernel_rfl⟩) (fun x => .inr ⟨by kernel_rfl, rfl⟩) (fun x y K1 h => by rw [pur_neq]; exact h) h1 h2 (by omega) hK)
theorem bool_ne (x y : Bool) (K1 : Value → Prop) (h : K1 (.bool (!decide (x = y)))) : (nice Try.prog).pur (.bin .neq 4 false false (.bool x) (.bool y)) K1 := by
  rw [pur_of (c := True) (v := .bool (!decide (x = y)))]
  · exact ⟨trivial, h⟩
  · cases x <;> cases y <;> kernel_rfl
theorem eqBools_ok {v1 v2 : Value} {L L' : List Bool} (h1 : IsSl w v1 L.length (L.flatMap b1)) (h2 : IsSl w v2 L'.length (L'.flatMap b1)) (hn : L.length < 2 ^ 31) (hK : ∀ w', Frm (fun _ => False) w w' → K (.bool (decide (L = L'))) w') :
    Calls Try.prog 26 #[v1, v2] w (ret K Kp) :=
  vc26_calls (eqChain_ok (f := b1) (k := 1) (e := 4) (ev := fun x => .bool x) (by kernel_rfl) (by kernel_rfl) b1_len (by decide) (.inr ⟨rfl, by kernel_rfl⟩) (fun x => .inr ⟨by kernel_rfl, rfl⟩) bool_ne h1 h2 (by omega) hK)
/-- laws.FnMapOrder. -/
theorem law_order {a1 : Option Addr} {c1 turn : Nat} {ps : List (Int × Int)} (h1 : IsSl w (.slice a1 ps.length c1) ps.length (ps.flatMap ent)) (hturn : turn < 256) (hK : ∀ w', Frm (fun _ => False) w w' → K (.bool true) w') :
    Calls Try.prog 9 #[hval md ml sh, .slice a1 ps.length c1, .int .u8 turn] w (ret K Kp) := by
  have hrow : Row w a1 (ps.flatMap ent) := by obtain ⟨a, c, he, _, _, hr, _⟩ := h1; cases he; exact hr
  refine vc9_calls ?_
  simp only [vc9]
  refine op_box_ok fun w1 k1 z1 b1' => ?_
  simp only [hval, cells_agg] at b1'
  have hx3 : (#[Value.int .u32 (md : Int), .int .u32 (ml : Int), .int .u8 (sh : Int)] : Array Value).extract 0 3 = #[.int .u32 md, .int .u32 ml, .int .u8 sh] := rfl
  have hawake : ∀ {wz}, Frm (fun _ => False) w wz → Calls Try.prog 13 #[] wz (ret K Kp) := fun {wz} kz => mapAwake_ok fun w3 k3 => hK w3 (kz.no k3)
  try simp [-getElem?_pos, -Array.getElem?_eq_getElem, List.getElem?_cons_zero, List.getElem?_cons_succ, -Int.natCast_add, add_spot, and_assoc, Br_dec, -op_box, -op_lit_32_1, -op_lit_65_1, -op_alloc_45, -op_st_45, -op_lit_43_0, b1']
  refine ⟨fun _ => hK w1 k1, fun hle => ⟨fun _ => hawake k1, fun h200 => ⟨fun _ => hawake k1, fun h32 => ?_⟩⟩⟩
  refine op_mkMap ?_
  have k2 : Frm (fun _ => False) w1 (w1.alloc (.map #[] 0)) := Frm.alloc _ _
  have hm2 : HasMap (w1.alloc (.map #[] 0)) kE.enc ev w1.heap.size ([] : List (Int × Int)) := hasMap_new w1 _ _
  generalize hw2 : w1.alloc (.map #[] 0) = w2 at *
  have n1 := k1.size
  have n2 := k2.size
  have hmlt := hm2.lt
  have k02 := k1.no k2
  have b2 := k2.get b1' fun h => h
  try simp [-getElem?_pos, -Array.getElem?_eq_getElem, List.getElem?_cons_zero, List.getElem?_cons_succ, -Int.natCast_add, add_spot, and_assoc, Br_dec, -op_box, -op_lit_32_1, -op_lit_65_1, -op_alloc_45, -op_st_45, -op_lit_43_0, ]
  obtain ⟨I, hI⟩ : ∃ I : Value → Value → Value → World → Prop, ∀ l1 l2 v wl, I l1 l2 v wl ↔ ∃ (i : Nat) (D : List (Int × Int)), v = .int .i64 i ∧ i ≤ ps.length ∧ Frm (fun _ => False) w wl ∧ w2.heap.size ≤ wl.heap.size ∧ HasMap wl kE.enc ev w1.heap.size D ∧ Tells D (mOf (ps.take i)) ∧ D.length ≤ i ∧ (D.length = i → ((ps.take i).map (·.1)).Nodup) ∧
      wl.heap[w.heap.size]? = some (.cells #[.int .u32 md, .int .u32 ml, .int .u8 sh] 24 (0, 0)) ∧ FRow MStep.cells wl w2.heap.size 35 5 l1 (setSteps (ps.take i)) ∧ FRow i1 wl w2.heap.size 2 1 l2 ((ps.take i).map (·.1)) ∧ ∀ b, l1.ownBlock = some b → l2.ownBlock ≠ some b := ⟨_, fun _ _ _ _ => Iff.rfl⟩
  refine Lp.intro I (fun _ _ v _ => ps.length - natOf v) ⟨(hI _ _ _ _).2 ⟨0, [], rfl, by omega, k02, Nat.le_refl _, hm2, tells_nil, Nat.le_refl _, fun _ => by simp, b2, rows_nil, rows_nil, fun _ h => nomatch h⟩, ?_⟩
  intro wl l1 l2 v hl
  obtain ⟨i, D, rfl, hi, kl, zl, hm, ht, hD, hDn, bl, hR1, hR2, hne⟩ := (hI _ _ _ _).1 hl
  have lo1 := hR1.own_lt
  have lo2 := hR2.own_lt
  simp only [op_lss, Br_dec]
  refine ⟨fun hlt' => ?_, fun hge => ?_⟩
  · have hi' : i < ps.length := by omega
    have htk : ps.take (i + 1) = ps.take i ++ [ps[i]] := List.take_succ_eq_append_getElem hi'
    have htl : (ps.take i).length = i := by simp; omega
    obtain ⟨bp, o, cs, e, fz, rfl, hcs, hsz, hext⟩ := (hrow.frame kl (fun _ _ h => h)).part ent_len (by decide) hi'
    generalize hp : ps[i] = p at *
    try simp [-getElem?_pos, -Array.getElem?_eq_getElem, List.getElem?_cons_zero, List.getElem?_cons_succ, -Int.natCast_add, add_spot, and_assoc, Br_dec, -op_box, -op_lit_32_1, -op_lit_65_1, -op_alloc_45, -op_st_45, -op_lit_43_0, hcs, hsz, hext]
    refine ⟨hi', ?_⟩
    refine op_alloc_ok (z := .agg #[.int .i64 0, .int .i64 0]) (by kernel_rfl) fun w5 k5 z5 b5 => ?_
    simp only [cells_agg] at b5
    refine op_storeN_ok (n := 2) (by kernel_rfl) b5 rfl (by decide) (by simp [ent, ek, ev]) fun w6 k6 z6 b6 => ?_
    have b6 : w6.heap[wl.heap.size]? = some (.cells #[.int .i64 p.1, .int .i64 p.2] 45 (0, 0)) := by
      rw [ow_all (by simp [ent])] at b6; simpa [ent, ek, ev] using b6
    have n5 := k5.size
    have n6 := k6.size
    have k56 : Frm (fun _ => False) wl w6 := k5.old k6 fun c hc => .inr (by omega)
    try simp [-getElem?_pos, -Array.getElem?_eq_getElem, List.getElem?_cons_zero, List.getElem?_cons_succ, -Int.natCast_add, add_spot, and_assoc, Br_dec, -op_box, -op_lit_32_1, -op_lit_65_1, -op_alloc_45, -op_st_45, -op_lit_43_0, b6]
    refine op_update (E := kE) (ev := ev) (k := p.1) (v := p.2) Try.underlying30 (hm.frame k56 fun h => h) fun w7 k7 z7 hm7 => ?_
    have b7 := k7.get b6 (by omega)
    have n7 := k7.size
    try simp [-getElem?_pos, -Array.getElem?_eq_getElem, List.getElem?_cons_zero, List.getElem?_cons_succ, -Int.natCast_add, add_spot, and_assoc, Br_dec, -op_box, -op_lit_32_1, -op_lit_65_1, -op_alloc_45, -op_st_45, -op_lit_43_0, b7]
    have q1 := frow_frame (frow_still hR1 k56) k7 fun b hb he => by have := lo1 b hb; omega
    have q2 := frow_frame (frow_still hR2 k56) k7 fun b hb he => by have := lo2 b hb; omega
    refine op_pushF (f := MStep.cells) (y := ⟨0, i, p.1, p.2, 0⟩) apStep lit_32_1 mcells_len one_cells q1 (by rw [setSteps_len]; simp; omega) (by omega) fun l8 w8 k8 hR8 ho8 => ?_
    have n8 := k8.size
    have b8 := k8.get b7 fun he => by have := lo1 _ he.symm; omega
    have q3 := frow_frame q2 k8 fun b hb he => hne b he.symm hb
    try simp [-getElem?_pos, -Array.getElem?_eq_getElem, List.getElem?_cons_zero, List.getElem?_cons_succ, -Int.natCast_add, add_spot, and_assoc, Br_dec, -op_box, -op_lit_32_1, -op_lit_65_1, -op_alloc_45, -op_st_45, -op_lit_43_0, b8]
    refine op_pushF (f := i1) (y := p.1) apInt (lit_65_1 rfl) i1_len i1_one q3 (by simp; omega) (by omega) fun l9 w9 k9 hR9 ho9 => ?_
    have n9 := k9.size
    have hsep : ∀ b, l8.ownBlock = some b → l2.ownBlock ≠ some b := fun b hb hb2 => by
      rcases ho8 with h | ⟨b', h, hge⟩
      · rw [h] at hb; exact hne b hb hb2
      · rw [h] at hb; cases hb; have := lo2 _ hb2; omega
    have lo8 := hR8.own_lt
    have hR8' := frow_frame hR8 k9 fun b hb he => hsep b hb he.symm
    try simp [-getElem?_pos, -Array.getElem?_eq_getElem, List.getElem?_cons_zero, List.getElem?_cons_succ, -Int.natCast_add, add_spot, and_assoc, Br_dec, -op_box, -op_lit_32_1, -op_lit_65_1, -op_alloc_45, -op_st_45, -op_lit_43_0, ]
    rw [wrap_i64_small (by omega) (by omega)]
    have hup := upd_len (D := D) (k := p.1) (v := p.2)
    refine ⟨(hI _ _ _ _).2 ⟨i + 1, _, by simp, by omega, (((kl.no k56).old k7 fun c hc => .inr (by omega)).old k8 fun c hc => .inr (by have := lo1 c hc.symm; omega)).old k9 fun c hc => .inr (by have := lo2 c hc.symm; omega), by omega,
      (hm7.frame k8 fun he => by have := lo1 _ he.symm; omega).frame k9 fun he => by have := lo2 _ he.symm; omega, ?_, by omega, ?_,
      k9.get (k8.get (k7.get (k56.get bl fun h => h) (by omega)) fun he => by have := lo1 _ he.symm; omega) fun he => by have := lo2 _ he.symm; omega, ?_, by rw [htk, List.map_append]; exact hR9, fun b hb hb2 => ?_⟩, ?_⟩
    · rw [htk, mOf_snoc]; exact tells_upd hm.nodup ht
    · intro he
      have hDi : D.length = i := by omega
      rw [htk, List.map_append, List.nodup_append]
      refine ⟨hDn hDi, by simp, fun a ha b hb => ?_⟩
      simp only [List.map_cons, List.map_nil, List.mem_singleton] at hb
      subst hb
      rintro rfl
      have hx : p.1 ∈ D.map (·.1) := by
        cases hq : mOf (ps.take i) p.1 with
        | none => exact absurd ha ((mOf_none _ _).1 hq)
        | some u => exact List.mem_map.2 ⟨_, (ht _ _).2 hq, rfl⟩
      unfold Nd.upd at he
      cases hf : Nd.find D p.1 with
      | some j => rw [hf] at he; simp only [List.length_set] at he; omega
      | none =>
        obtain ⟨e, he1, he2⟩ := List.mem_map.1 hx
        have := (List.findIdx?_eq_none_iff.1 hf) e he1
        simp [he2] at this
    · rw [htk, setSteps_snoc, htl]; exact hR8'
    · rcases ho9 with h | ⟨b', h, hge⟩
      · rw [h] at hb2; exact hsep b hb hb2
      · rw [h] at hb2; cases hb2; have := lo8 _ hb; omega
    · simp only [natOf]; omega
  have : i = ps.length := by omega
  subst this
  rw [List.take_length] at ht hR1 hR2 hDn
  refine op_mapLen (ek := kE.enc) (ev := ev) Try.underlying30 hm ?_
  try simp [-getElem?_pos, -Array.getElem?_eq_getElem, List.getElem?_cons_zero, List.getElem?_cons_succ, -Int.natCast_add, add_spot, and_assoc, Br_dec, -op_box, -op_lit_32_1, -op_lit_65_1, -op_alloc_45, -op_st_45, -op_lit_43_0, bl]
  refine ⟨fun _ => hawake kl, fun heq => ?_⟩
  have hnd : (ps.map (·.1)).Nodup := hDn (by omega)
  obtain ⟨keys, hkeys⟩ : ∃ keys, keys = ps.map (·.1) := ⟨_, rfl⟩
  have hkl : keys.length = ps.length := by rw [hkeys, List.length_map]
  rw [← hkeys] at hR2
  obtain ⟨S1, hS1⟩ : ∃ S1, S1 = setSteps ps := ⟨_, rfl⟩
  have hS1l : S1.length = ps.length := by rw [hS1, setSteps_len]
  have hS1f : MFit S1 := by rw [hS1]; exact setSteps_fit ps
  have hS1c : mcost S1 = ps.length := by rw [hS1, setSteps_cost]
  have hS1v : (versM S1)[S1.length]? = some (mOf ps) := by rw [hS1l, hS1]; exact setSteps_vers ps
  rw [← hS1] at hR1
  obtain ⟨aO, cO, rfl, _, _, hrO, _⟩ := hR1.flat
  obtain ⟨aK, cK, rfl, _, _, hrK, _⟩ := hR2.flat
  clear hR1 hR2
  obtain ⟨J, hJ⟩ : ∃ J : Value → World → Prop, ∀ v wz, J v wz ↔ ∃ k : Nat, v = .int .i64 k ∧ k ≤ ps.length ∧ wz = wl := ⟨_, fun _ _ => Iff.rfl⟩
  have e0 : IntKind.i64.wrap (turn : Int) = turn := wrap_i64_small (by omega) (by omega)
  have e1 : (turn : Int).tmod (ps.length : Int) = ((turn % ps.length : Nat) : Int) := rfl
  rw [e0, e1]
  refine Jn.intro J ⟨fun h0 => ⟨fun h => by rw [h] at h0; simp at h0, (hJ _ _).2 ⟨_, rfl, Nat.le_of_lt (Nat.mod_lt _ h0), rfl⟩⟩, fun _ => (hJ _ _).2 ⟨0, rfl, by omega, rfl⟩, ?_⟩
  intro wz vk hk
  obtain ⟨k, rfl, hkl2, rfl⟩ := (hJ _ _).1 hk
  have hsl := h1.still kl
  refine cut_lo (xs := ps) (f := ent) (s := 2) (e := 45) (by kernel_rfl) ent_len hkl2 hsl (by decide) fun v80 h80 => ?_
  refine cut_hi (xs := ps) (f := ent) (s := 2) (e := 45) (by kernel_rfl) ent_len hkl2 hsl (by decide) fun v84 h84 => ?_
  refine op_row0 (f := ent) (base := wz.heap.size) apSPair (by kernel_rfl) (Nat.le_refl _) fun l77 w3 k3 hR3 ho3 => ?_
  have k3' := Frm.dr k3
  have n3 := k3'.size
  have lo3 := hR3.own_lt
  refine op_concat (f := ent) apSPair ent_len ent_one hR3 (h80.still k3') (by simp; omega) (by omega) fun l81 w4 k4 hR4 => ?_
  have lo4 := hR4.own_lt
  have k34 := k3'.old k4 fun c hc => .inr (by have := lo3 c hc.symm; omega)
  have n4 := k34.size
  refine op_concat (f := ent) apSPair ent_len ent_one hR4 (h84.still k34) (by simp; omega) (by omega) fun l85 w5 k5 hR5 => ?_
  have lo5 := hR5.own_lt
  have k35 := k34.old k5 fun c hc => .inr (by have := lo4 c hc.symm; omega)
  rw [List.nil_append] at hR5
  refine reverse_ok hR5 (by simp; omega) fun w6 k6 hR6 => ?_
  have k36 := k35.old k6 fun c hc => .inr (by have := lo5 c hc.symm; omega)
  have hq1 := @rot_mem ps k
  have hq2 := rot_nodup (k := k) hnd
  have hq3 := @rot_len ps k
  generalize (ps.drop k ++ ps.take k).reverse = qs at *
  have hmq : mOf qs = mOf ps := (mOf_perm hnd hq1 hq2).symm
  clear hk k3 k4 k5 k6 hR3 hR4 hR5 h80 h84 lo3 lo4 lo5 ho3
  obtain ⟨aQ, cQ, rfl, _, _, hrQ, _⟩ := hR6.flat
  have n6 := k36.size
  have b6 := k36.get bl fun h => h
  have hrO6 := hrO.frame k36 fun _ _ h => h
  have hrK6 := hrK.frame k36 fun _ _ h => h
  have k06 := kl.no k36
  clear hrO hrK hsl
  try simp [-getElem?_pos, -Array.getElem?_eq_getElem, List.getElem?_cons_zero, List.getElem?_cons_succ, -Int.natCast_add, add_spot, and_assoc, Br_dec, -op_box, -op_lit_32_1, -op_lit_65_1, -op_alloc_45, -op_st_45, -op_lit_43_0, ]
  obtain ⟨I2, hI2⟩ : ∃ I : Value → Value → World → Prop, ∀ l1 v wl, I l1 v wl ↔ ∃ i : Nat, v = .int .i64 i ∧ i ≤ qs.length ∧ Frm (fun _ => False) w6 wl ∧ FRow MStep.cells wl w6.heap.size 35 5 l1 (setSteps (qs.take i)) := ⟨_, fun _ _ _ => Iff.rfl⟩
  refine Lp.intro I2 (fun _ v _ => qs.length - natOf v) ⟨(hI2 _ _ _).2 ⟨0, rfl, by omega, Frm.refl, rows_nil⟩, ?_⟩
  intro wl l3 v hl2
  obtain ⟨i, rfl, hi, kq, hR1⟩ := (hI2 _ _ _).1 hl2
  have lo1 := hR1.own_lt
  have nq := kq.size
  simp only [op_lss, Br_dec]
  refine ⟨fun hlt' => ?_, fun hge => ?_⟩
  · have hi' : i < qs.length := by omega
    have htk : qs.take (i + 1) = qs.take i ++ [qs[i]] := List.take_succ_eq_append_getElem hi'
    have htl : (qs.take i).length = i := by simp; omega
    obtain ⟨bp, o, cs, e, fz, rfl, hcs, hsz, hext⟩ := (hrQ.frame kq (fun _ _ h => h)).part ent_len (by decide) hi'
    generalize hp : qs[i] = p at *
    try simp [-getElem?_pos, -Array.getElem?_eq_getElem, List.getElem?_cons_zero, List.getElem?_cons_succ, -Int.natCast_add, add_spot, and_assoc, Br_dec, -op_box, -op_lit_32_1, -op_lit_65_1, -op_alloc_45, -op_st_45, -op_lit_43_0, hcs, hsz, hext]
    refine ⟨hi', ?_⟩
    refine op_alloc_ok (z := .agg #[.int .i64 0, .int .i64 0]) (by kernel_rfl) fun w7 k7 z7 b7 => ?_
    simp only [cells_agg] at b7
    refine op_storeN_ok (n := 2) (by kernel_rfl) b7 rfl (by decide) (by simp [ent, ek, ev]) fun w8 k8 z8 b8 => ?_
    have b8 : w8.heap[wl.heap.size]? = some (.cells #[.int .i64 p.1, .int .i64 p.2] 45 (0, 0)) := by
      rw [ow_all (by simp [ent])] at b8; simpa [ent, ek, ev] using b8
    have n7 := k7.size
    have n8 := k8.size
    have k78 : Frm (fun _ => False) wl w8 := k7.old k8 fun c hc => .inr (by omega)
    try simp [-getElem?_pos, -Array.getElem?_eq_getElem, List.getElem?_cons_zero, List.getElem?_cons_succ, -Int.natCast_add, add_spot, and_assoc, Br_dec, -op_box, -op_lit_32_1, -op_lit_65_1, -op_alloc_45, -op_st_45, -op_lit_43_0, b8]
    refine op_pushF (f := MStep.cells) (y := ⟨0, i, p.1, p.2, 0⟩) apStep lit_32_1 mcells_len one_cells (frow_still hR1 k78) (by rw [setSteps_len]; simp; omega) (by omega) fun l9 w9 k9 hR9 ho9 => ?_
    try simp [-getElem?_pos, -Array.getElem?_eq_getElem, List.getElem?_cons_zero, List.getElem?_cons_succ, -Int.natCast_add, add_spot, and_assoc, Br_dec, -op_box, -op_lit_32_1, -op_lit_65_1, -op_alloc_45, -op_st_45, -op_lit_43_0, ]
    rw [wrap_i64_small (by omega) (by omega)]
    refine ⟨(hI2 _ _ _).2 ⟨i + 1, by simp, by omega, (kq.no k78).old k9 fun c hc => .inr (by have := lo1 c hc.symm; omega), ?_⟩, ?_⟩
    · rw [htk, setSteps_snoc, htl]; exact hR9
    · simp only [natOf]; omega
  have : i = qs.length := by omega
  subst this
  rw [List.take_length] at hR1
  obtain ⟨S2, hS2⟩ : ∃ S2, S2 = setSteps qs := ⟨_, rfl⟩
  have hS2l : S2.length = ps.length := by rw [hS2, setSteps_len, hq3]
  have hS2f : MFit S2 := by rw [hS2]; exact setSteps_fit qs
  have hS2c : mcost S2 = ps.length := by rw [hS2, setSteps_cost, hq3]
  have hS2v : (versM S2)[S2.length]? = some (mOf ps) := by rw [hS2l, hS2, ← hq3, ← hmq]; exact setSteps_vers qs
  rw [← hS2] at hR1
  obtain ⟨aT, cT, rfl, _, _, hrT, _⟩ := hR1.flat
  have b7 := kq.get b6 fun h => h
  have hrO7 := hrO6.frame kq fun _ _ h => h
  have hrK7 := hrK6.frame kq fun _ _ h => h
  have k07 := k06.no kq
  try simp [-getElem?_pos, -Array.getElem?_eq_getElem, List.getElem?_cons_zero, List.getElem?_cons_succ, -Int.natCast_add, add_spot, and_assoc, Br_dec, -op_box, -op_lit_32_1, -op_lit_65_1, -op_alloc_45, -op_st_45, -op_lit_43_0, b7, hx3]
  refine mapGet_ok (md := md) (ml := ml) (sh := sh) hrO7 hS1f (by omega) hrK7 (by omega) hS1v fun l5 l6 w8 k8 hR8a hR8b => ?_
  have b8 := k8.get b7 fun h => h
  have hrO8 := hrO7.frame k8 fun _ _ h => h
  have hrK8 := hrK7.frame k8 fun _ _ h => h
  have hrT8 := hrT.frame k8 fun _ _ h => h
  have k08 := k07.no k8
  try simp [-getElem?_pos, -Array.getElem?_eq_getElem, List.getElem?_cons_zero, List.getElem?_cons_succ, -Int.natCast_add, add_spot, and_assoc, Br_dec, -op_box, -op_lit_32_1, -op_lit_65_1, -op_alloc_45, -op_st_45, -op_lit_43_0, b8, hx3]
  refine mapGet_ok (md := md) (ml := ml) (sh := sh) hrT8 hS2f (by omega) hrK8 (by omega) hS2v fun l7 l8 w9 k9 hR9a hR9b => ?_
  have b9 := k9.get b8 fun h => h
  have hrO9 := hrO8.frame k9 fun _ _ h => h
  have k09 := k08.no k9
  have f5 := (hR8a.flat).still k9
  have f6 := (hR8b.flat).still k9
  have f7 := hR9a.flat
  have f8 := hR9b.flat
  have b9d : w9.drew.heap[w.heap.size]? = _ := b9
  try simp [-getElem?_pos, -Array.getElem?_eq_getElem, List.getElem?_cons_zero, List.getElem?_cons_succ, -Int.natCast_add, add_spot, and_assoc, Br_dec, -op_box, -op_lit_32_1, -op_lit_65_1, -op_alloc_45, -op_st_45, -op_lit_43_0, b9, hx3]
  have k9d : Frm (fun _ => False) w9 w9.drew := Frm.drew _
  refine mapRun_ok (md := md) (ml := ml) (sh := sh) (hrO9.frame k9d fun _ _ h => h) hS1f (by omega) fun l10 w10 G10 k10 hR10 => ?_
  have k10' := Frm.dr k10
  have b10 := k10'.get b9 fun h => h
  try simp [-getElem?_pos, -Array.getElem?_eq_getElem, List.getElem?_cons_zero, List.getElem?_cons_succ, -Int.natCast_add, add_spot, and_assoc, Br_dec, -op_box, -op_lit_32_1, -op_lit_65_1, -op_alloc_45, -op_st_45, -op_lit_43_0, b10, hx3]
  refine mapRun_ok (md := md) (ml := ml) (sh := sh) (hrO9.frame k10' fun _ _ h => h) hS1f (by omega) fun l11 w11 G11 k11 hR11 => ?_
  have ka := k10'.no k11
  have k011 := k09.no ka
  refine eqInts_ok (f5.still ka) (f7.still ka) (by simp; omega) fun w12 k12 => ?_
  try simp [-getElem?_pos, -Array.getElem?_eq_getElem, List.getElem?_cons_zero, List.getElem?_cons_succ, -Int.natCast_add, add_spot, and_assoc, Br_dec, -op_box, -op_lit_32_1, -op_lit_65_1, -op_alloc_45, -op_st_45, -op_lit_43_0, ]
  refine eqBools_ok (f6.still (ka.no k12)) (f8.still (ka.no k12)) (by simp; omega) fun w13 k13 => ?_
  obtain ⟨a5, c5, rfl, _⟩ := f5
  have hT := versT_len (hashOf md ml sh) S1
  have hR10 := (hR10.still elS_ok k11).still elS_ok (k12.no k13)
  have hR11 := hR11.still elS_ok (k12.no k13)
  obtain ⟨u2, g, c, cs, rfl, hcs, hu2, hg2, _, _, pv2, hp2, hP2, _⟩ := hR10.get (j := S1.length) (by omega)
  obtain ⟨u3, g', c', cs', rfl, hcs', hu3, hg3, _, _, pv3, hp3, hP3, _⟩ := hR11.get (j := S1.length) (by omega)
  subst hp2 hp3
  have q2 : cs[S1.length * 2 + 1]? = some pv2 := by have := hg2 1 (by decide); simpa using this
  have q3 : cs'[S1.length * 2 + 1]? = some pv3 := by have := hg3 1 (by decide); simpa using this
  have ew : IntKind.i64.wrap ((S1.length : Int) + 1) = ((S1.length + 1 : Nat) : Int) := by rw [wrap_i64_small (by omega) (by omega)]; rfl
  rw [hT]
  try simp [-getElem?_pos, -Array.getElem?_eq_getElem, List.getElem?_cons_zero, List.getElem?_cons_succ, -Int.natCast_add, add_spot, and_assoc, Br_dec, -op_box, -op_lit_32_1, -op_lit_65_1, -op_alloc_45, -op_st_45, -op_lit_43_0, ew, hcs, hcs', q2, q3, hT]
  have hsz : (toL ((versT (hashOf md ml sh) S1)[S1.length]'(by omega))).length < 2 ^ 31 := by
    have h2 := (vers_size (hashOf_lt md ml sh) S1 S1.length _ (List.getElem?_eq_getElem (by omega))).2
    omega
  have kd13 : Frm (fun _ => False) w13 w13.drew := Frm.drew _
  refine eqPairs_ok (hP2.still kd13) (hP3.still kd13) hsz fun w14 k14 => ?_
  try simp [-getElem?_pos, -Array.getElem?_eq_getElem, List.getElem?_cons_zero, List.getElem?_cons_succ, -Int.natCast_add, add_spot, and_assoc, Br_dec, -op_box, -op_lit_32_1, -op_lit_65_1, -op_alloc_45, -op_st_45, -op_lit_43_0, ]
  exact hawake (((k011.no k12).no k13).no (Frm.dr k14))
end Go.Proofs.Ytbghmbbhkoniiaa.I
end
