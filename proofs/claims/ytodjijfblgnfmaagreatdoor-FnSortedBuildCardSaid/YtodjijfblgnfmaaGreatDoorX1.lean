import Derived.Test.YtodjijfblgnfmaaGreatDoorX0
import Derived.Maps.RangeRun
import Derived.Test.YtodjijfblgnfmaaGreatDoorProg
set_option linter.unusedSimpArgs false
set_option linter.unusedVariables false
set_option linter.unusedSectionVars false
set_option maxRecDepth 100000
set_option maxHeartbeats 4000000
section
namespace Go.Vc.Bt
inductive T (α : Type) where
  | leaf (es : List α)
  | br (ks : List (T α))
section
variable {κ ν : Type} [DecidableEq κ] {lt : κ → κ → Bool}
def toL : Nat → T (κ × ν) → List (κ × ν)
  | 0, .leaf es => es
  | h + 1, .br ks => ks.flatMap (toL h)
  | _, _ => []
theorem toL_zero (es : List (κ × ν)) : toL 0 (.leaf es) = es := rfl
theorem toL_succ (h : Nat) (ks : List (T (κ × ν))) : toL (h + 1) (.br ks) = ks.flatMap (toL h) := rfl
def WF : Nat → T (κ × ν) → Prop
  | 0, .leaf es => es ≠ [] ∧ es.length ≤ 32
  | h + 1, .br ks => ks ≠ [] ∧ ks.length ≤ 32 ∧ ∀ t ∈ ks, WF h t
  | _, _ => False
theorem wf_zero {t : T (κ × ν)} : WF 0 t ↔ ∃ es, t = .leaf es ∧ es ≠ [] ∧ es.length ≤ 32 := by
  cases t with
  | leaf es => exact ⟨fun h => ⟨es, rfl, h⟩, fun ⟨es', h, h'⟩ => by cases h; exact h'⟩
  | br ks => exact ⟨fun h => h.elim, fun ⟨es', h, h'⟩ => by cases h⟩
theorem wf_succ {h : Nat} {t : T (κ × ν)} : WF (h + 1) t ↔ ∃ ks, t = .br ks ∧ ks ≠ [] ∧ ks.length ≤ 32 ∧ ∀ t ∈ ks, WF h t := by
  cases t with
  | leaf es => exact ⟨fun h => h.elim, fun ⟨es', h, h'⟩ => by cases h⟩
  | br ks => exact ⟨fun h => ⟨ks, rfl, h⟩, fun ⟨es', h, h'⟩ => by cases h; exact h'⟩
theorem toL_ne : ∀ (h : Nat) (t : T (κ × ν)), WF h t → toL h t ≠ []
  | 0, t, hw => by obtain ⟨es, rfl, h1, h2⟩ := wf_zero.1 hw; exact h1
  | h + 1, t, hw => by
    obtain ⟨ks, rfl, h1, h2, h3⟩ := wf_succ.1 hw
    rw [toL_succ]
    match ks, h1, h3 with
    | t :: ks, _, h3 =>
      intro e
      rw [List.flatMap_cons, List.append_eq_nil_iff] at e
      exact toL_ne h t (h3 t List.mem_cons_self) e.1
def fstK (h : Nat) (t : T (κ × ν)) : Option κ := (toL h t).head?.map (·.1)
def kid (lt : κ → κ → Bool) (h : Nat) (ks : List (T (κ × ν))) (k : κ) : Nat :=
  ks.findIdx (fun t => match fstK h t with | some m => lt k m | none => false) - 1
theorem kid_lt {h : Nat} {ks : List (T (κ × ν))} {k : κ} (hn : ks ≠ []) : kid lt h ks k < ks.length := by
  have h1 : List.findIdx (fun t => match fstK h t with | some m => lt k m | none => false) ks ≤ ks.length := List.findIdx_le_length
  have h2 : 0 < ks.length := List.length_pos_iff.2 hn
  unfold kid; omega
theorem split3 {α : Type} {ks : List α} {i : Nat} (hi : i < ks.length) : ks = ks.take i ++ ks[i] :: ks.drop (i + 1) := by
  rw [List.getElem_cons_drop, List.take_append_drop]
theorem toL_split {h : Nat} {ks : List (T (κ × ν))} {i : Nat} (hi : i < ks.length) : toL (h + 1) (.br ks) = (ks.take i).flatMap (toL h) ++ (toL h ks[i] ++ (ks.drop (i + 1)).flatMap (toL h)) := by
  rw [toL_succ]
  conv => lhs; rw [split3 hi]
  rw [List.flatMap_append, List.flatMap_cons]
theorem kid_ahead (hl : Lin lt) {h : Nat} {ks : List (T (κ × ν))} (hw : WF (h + 1) (.br ks)) (hs : Sd lt (toL (h + 1) (.br ks))) (k : κ) : ∀ e ∈ (ks.take (kid lt h ks k)).flatMap (toL h), lt e.1 k = true := by
  obtain ⟨h1, h2, h3⟩ : ks ≠ [] ∧ ks.length ≤ 32 ∧ ∀ t ∈ ks, WF h t := hw
  have hi := kid_lt (lt := lt) (h := h) (k := k) h1
  by_cases h0 : kid lt h ks k = 0
  · rw [h0]; simp
  · have hne := toL_ne h ks[kid lt h ks k] (h3 _ (List.getElem_mem hi))
    have hf : kid lt h ks k < ks.findIdx (fun t => match fstK h t with | some m => lt k m | none => false) := by unfold kid at h0 ⊢; omega
    have hk := List.not_of_lt_findIdx hf
    intro e he
    rw [toL_split hi] at hs
    obtain ⟨a, l, hal⟩ : ∃ a l, toL h ks[kid lt h ks k] = a :: l := by
      cases hh : toL h ks[kid lt h ks k] with
      | nil => exact absurd hh hne
      | cons a l => exact ⟨a, l, rfl⟩
    have hm : lt k a.1 = false := by simpa [fstK, hal] using hk
    have := (List.pairwise_append.1 hs).2.2 e he a (by rw [hal]; simp)
    exact hl.lt_le this hm
theorem kid_behind (hl : Lin lt) {h : Nat} {ks : List (T (κ × ν))} (hw : WF (h + 1) (.br ks)) (hs : Sd lt (toL (h + 1) (.br ks))) (k : κ) : ∀ e ∈ (ks.drop (kid lt h ks k + 1)).flatMap (toL h), lt k e.1 = true := by
  obtain ⟨h1, h2, h3⟩ : ks ≠ [] ∧ ks.length ≤ 32 ∧ ∀ t ∈ ks, WF h t := hw
  have hi := kid_lt (lt := lt) (h := h) (k := k) h1
  intro e he
  obtain ⟨t, ht, het⟩ := List.mem_flatMap.1 he
  obtain ⟨j, hj, rfl⟩ := List.mem_iff_getElem.1 ht
  rw [List.length_drop] at hj
  rw [List.getElem_drop] at het
  have hp : ks.findIdx (fun t => match fstK h t with | some m => lt k m | none => false) ≤ kid lt h ks k + 1 := by unfold kid; omega
  have hp1 : kid lt h ks k + 1 < ks.length := by omega
  -- the child behind: its lowest key is greater
  have hnext : ∀ e ∈ toL h ks[kid lt h ks k + 1], lt k e.1 = true := by
    have hne := toL_ne h ks[kid lt h ks k + 1] (h3 _ (List.getElem_mem hp1))
    obtain ⟨a, l, hal⟩ : ∃ a l, toL h ks[kid lt h ks k + 1] = a :: l := by
      cases hh : toL h ks[kid lt h ks k + 1] with
      | nil => exact absurd hh hne
      | cons a l => exact ⟨a, l, rfl⟩
    have hs2 : Sd lt (toL h ks[kid lt h ks k + 1]) := by
      rw [toL_split hp1] at hs
      exact (List.pairwise_append.1 (List.pairwise_append.1 hs).2.1).1
    have ha : lt k a.1 = true := by
      by_cases he1 : ks.findIdx (fun t => match fstK h t with | some m => lt k m | none => false) = kid lt h ks k + 1
      · have := findIdx_get (fun t => match fstK h t with | some m => lt k m | none => false) ks (by rw [he1]; exact hp1)
        simp only [he1] at this
        simpa [fstK, hal] using this
      · have hz : ks.findIdx (fun t => match fstK h t with | some m => lt k m | none => false) = 0 := by unfold kid at he1 hp; omega
        have hk0 : kid lt h ks k = 0 := by unfold kid; omega
        have h0 := findIdx_get (fun t => match fstK h t with | some m => lt k m | none => false) ks (by omega)
        simp only [hz] at h0
        have hne0 := toL_ne h (ks[0]'(by omega)) (h3 _ (List.getElem_mem (by omega)))
        obtain ⟨b, l', hbl⟩ : ∃ b l', toL h (ks[0]'(by omega)) = b :: l' := by
          cases hh : toL h (ks[0]'(by omega)) with
          | nil => exact absurd hh hne0
          | cons b l' => exact ⟨b, l', rfl⟩
        have hb : lt k b.1 = true := by simpa [fstK, hbl] using h0
        have hs0 := hs
        rw [toL_split (i := 0) (by omega)] at hs0
        have hin : a ∈ (ks.drop (0 + 1)).flatMap (toL h) := by
          refine List.mem_flatMap.2 ⟨ks[kid lt h ks k + 1], ?_, by rw [hal]; simp⟩
          simp only [hk0]
          rw [List.drop_eq_getElem_cons (by omega)]; exact List.mem_cons_self
        have := (List.pairwise_append.1 (List.pairwise_append.1 hs0).2.1).2.2 b (by rw [hbl]; simp) a hin
        exact hl.tr hb this
    rw [hal] at hs2 ⊢
    intro e he
    rcases List.mem_cons.1 he with rfl | he
    · exact ha
    · exact hl.tr ha ((List.pairwise_cons.1 hs2).1 e he)
  cases j with
  | zero => exact hnext e het
  | succ j =>
    have hne := toL_ne h ks[kid lt h ks k + 1] (h3 _ (List.getElem_mem hp1))
    obtain ⟨a, l, hal⟩ : ∃ a l, toL h ks[kid lt h ks k + 1] = a :: l := by
      cases hh : toL h ks[kid lt h ks k + 1] with
      | nil => exact absurd hh hne
      | cons a l => exact ⟨a, l, rfl⟩
    have hs1 := hs
    rw [toL_split hp1] at hs1
    have := (List.pairwise_append.1 (List.pairwise_append.1 hs1).2.1).2.2 a (by rw [hal]; simp) e (by
      refine List.mem_flatMap.2 ⟨_, ?_, het⟩
      refine List.mem_iff_getElem.2 ⟨j, by rw [List.length_drop]; omega, ?_⟩
      rw [List.getElem_drop]; congr 1; omega)
    exact hl.tr (hnext a (by rw [hal]; simp)) this
def split {α : Type} (l : List α) : List (List α) := if 32 < l.length then [l.take (l.length / 2), l.drop (l.length / 2)] else [l]
theorem split_flat {α : Type} (l : List α) : (split l).flatten = l := by
  unfold split; split <;> simp
theorem split_len {α : Type} {l : List α} (h : l.length ≤ 33) (h0 : l ≠ []) : ∀ p ∈ split l, p ≠ [] ∧ p.length ≤ 32 := by
  have := List.length_pos_iff.2 h0
  unfold Bt.split
  split
  · intro p hp
    simp only [List.mem_cons, List.not_mem_nil, or_false] at hp
    rcases hp with rfl | rfl
    · exact ⟨List.ne_nil_of_length_pos (by simp; omega), by simp; omega⟩
    · exact ⟨List.ne_nil_of_length_pos (by simp; omega), by simp; omega⟩
  · intro p hp
    simp only [List.mem_cons, List.not_mem_nil, or_false] at hp
    subst hp; exact ⟨h0, by omega⟩
theorem split_mem {α : Type} {l : List α} : ∀ p ∈ split l, ∀ x ∈ p, x ∈ l := fun p hp x hx => by
  rw [← split_flat l]; exact List.mem_flatten.2 ⟨p, hp, hx⟩
def setT (lt : κ → κ → Bool) : Nat → T (κ × ν) → κ → ν → List (T (κ × ν))
  | 0, .leaf es, k, v => (split (put lt es k v)).map .leaf
  | h + 1, .br ks, k, v => (split (ks.take (kid lt h ks k) ++ (ks[kid lt h ks k]?.map fun t => setT lt h t k v).getD [] ++ ks.drop (kid lt h ks k + 1))).map .br
  | _, _, _, _ => []
theorem setT_succ {h : Nat} {ks : List (T (κ × ν))} {k : κ} {v : ν} (hi : kid lt h ks k < ks.length) : setT lt (h + 1) (.br ks) k v = (split (ks.take (kid lt h ks k) ++ setT lt h ks[kid lt h ks k] k v ++ ks.drop (kid lt h ks k + 1))).map .br := by
  rw [setT, List.getElem?_eq_getElem hi]; rfl
theorem flat_split {h : Nat} (ks : List (T (κ × ν))) : ((split ks).map T.br).flatMap (toL (h + 1)) = ks.flatMap (toL h) := by
  have : ∀ ps : List (List (T (κ × ν))), (ps.map T.br).flatMap (toL (h + 1)) = ps.flatten.flatMap (toL h) := fun ps => by
    induction ps with
    | nil => rfl
    | cons p ps ih => rw [List.map_cons, List.flatMap_cons, ih, List.flatten_cons, List.flatMap_append]; rfl
  rw [this, split_flat]
theorem split_two {α : Type} (l : List α) : (split l).length ≤ 2 ∧ split l ≠ [] := by
  unfold Bt.split; split <;> simp
theorem setT_spec (hl : Lin lt) : ∀ (h : Nat) (t : T (κ × ν)) (k : κ) (v : ν), WF h t → Sd lt (toL h t) →
    (setT lt h t k v).flatMap (toL h) = put lt (toL h t) k v ∧ (∀ s ∈ setT lt h t k v, WF h s) ∧ (setT lt h t k v).length ≤ 2 ∧ setT lt h t k v ≠ []
  | 0, t, k, v, hw, hs => by
    obtain ⟨es, rfl, h1, h2⟩ := wf_zero.1 hw
    have hlen := put_len (lt := lt) (L := es) (k := k) (v := v)
    have hle : (put lt es k v).length ≤ 33 := by rw [hlen]; split <;> omega
    rw [setT, toL_zero]
    refine ⟨?_, fun s hs => ?_, by rw [List.length_map]; exact (split_two _).1, by simpa using (split_two _).2⟩
    · have : ∀ ps : List (List (κ × ν)), (ps.map T.leaf).flatMap (toL 0) = ps.flatten := fun ps => by
        induction ps with
        | nil => rfl
        | cons p ps ih => rw [List.map_cons, List.flatMap_cons, ih, List.flatten_cons]; rfl
      rw [this, split_flat]
    · obtain ⟨p, hp, rfl⟩ := List.mem_map.1 hs
      exact split_len hle put_ne p hp
  | h + 1, t, k, v, hw, hs => by
    obtain ⟨ks, rfl, h1, h2, h3⟩ := wf_succ.1 hw
    have hi := kid_lt (lt := lt) (h := h) (k := k) h1
    have hA := kid_ahead hl hw hs k
    have hB := kid_behind hl hw hs k
    have hsp := toL_split (h := h) hi
    rw [setT_succ hi]
    generalize kid lt h ks k = i at *
    have hs2 : Sd lt (toL h ks[i]) := by
      rw [hsp] at hs
      exact (List.pairwise_append.1 (List.pairwise_append.1 hs).2.1).1
    obtain ⟨g1, g2, g3, g4⟩ := setT_spec hl h ks[i] k v (h3 _ (List.getElem_mem hi)) hs2
    have hlen : (ks.take i ++ setT lt h ks[i] k v ++ ks.drop (i + 1)).length ≤ 33 := by simp; omega
    have hne : ks.take i ++ setT lt h ks[i] k v ++ ks.drop (i + 1) ≠ [] := by simp [g4]
    refine ⟨?_, fun s hs => ?_, by rw [List.length_map]; exact (split_two _).1, by simpa using (split_two _).2⟩
    · rw [flat_split, List.flatMap_append, List.flatMap_append, g1, hsp, put_mid hl hA hB, List.append_assoc]
    · obtain ⟨p, hp, rfl⟩ := List.mem_map.1 hs
      obtain ⟨q1, q2⟩ := split_len hlen hne p hp
      refine ⟨q1, q2, fun t ht => ?_⟩
      have := split_mem p hp t ht
      simp only [List.mem_append] at this
      rcases this with (h | h) | h
      · exact h3 t (List.mem_of_mem_take h)
      · exact g2 t h
      · exact h3 t (List.mem_of_mem_drop h)
end
end Go.Vc.Bt
end
section
namespace Go.Vc.Bt
section
variable {κ ν : Type} [DecidableEq κ] {lt : κ → κ → Bool}
def delT (lt : κ → κ → Bool) : Nat → T (κ × ν) → κ → Option (T (κ × ν))
  | 0, .leaf es, k => if (rem lt es k).isEmpty then none else some (.leaf (rem lt es k))
  | h + 1, .br ks, k => match (ks[kid lt h ks k]?).bind fun t => delT lt h t k with
    | some t => some (.br (ks.set (kid lt h ks k) t))
    | none => if (ks.eraseIdx (kid lt h ks k)).isEmpty then none else some (.br (ks.eraseIdx (kid lt h ks k)))
  | _, _, _ => none
def optL (h : Nat) (o : Option (T (κ × ν))) : List (κ × ν) := match o with
  | some t => toL h t
  | none => []
theorem eraseIdx_split {α : Type} {ks : List α} {i : Nat} : ks.eraseIdx i = ks.take i ++ ks.drop (i + 1) := List.eraseIdx_eq_take_drop_succ _ _
theorem set_split' {α : Type} {ks : List α} {i : Nat} (hi : i < ks.length) (x : α) : ks.set i x = ks.take i ++ x :: ks.drop (i + 1) := by rw [List.set_eq_take_append_cons_drop, if_pos hi]
theorem delT_spec (hl : Lin lt) : ∀ (h : Nat) (t : T (κ × ν)) (k : κ), WF h t → Sd lt (toL h t) → optL h (delT lt h t k) = rem lt (toL h t) k ∧ ∀ s, delT lt h t k = some s → WF h s
  | 0, t, k, hw, hs => by
    obtain ⟨es, rfl, h1, h2⟩ := wf_zero.1 hw
    have hlen := (rem_sub (lt := lt) (L := es) (k := k)).length_le
    rw [delT, toL_zero]
    split
    · rename_i hn
      rw [List.isEmpty_iff] at hn
      exact ⟨by rw [hn]; rfl, fun s h => by cases h⟩
    · rename_i hn
      rw [List.isEmpty_iff] at hn
      exact ⟨rfl, fun s h => by cases h; exact wf_zero.2 ⟨_, rfl, hn, by omega⟩⟩
  | h + 1, t, k, hw, hs => by
    obtain ⟨ks, rfl, h1, h2, h3⟩ := wf_succ.1 hw
    have hi := kid_lt (lt := lt) (h := h) (k := k) h1
    have hA := kid_ahead hl hw hs k
    have hB := kid_behind hl hw hs k
    have hsp := toL_split (h := h) hi
    rw [delT, List.getElem?_eq_getElem hi, Option.bind_some]
    generalize kid lt h ks k = i at *
    have hs2 : Sd lt (toL h ks[i]) := by
      rw [hsp] at hs
      exact (List.pairwise_append.1 (List.pairwise_append.1 hs).2.1).1
    obtain ⟨g1, g2⟩ := delT_spec hl h ks[i] k (h3 _ (List.getElem_mem hi)) hs2
    rw [hsp, rem_mid hl hA hB, ← g1]
    cases hd : delT lt h ks[i] k with
    | some t' =>
      refine ⟨?_, fun s hs => ?_⟩
      · show toL (h + 1) (.br (ks.set i t')) = _
        rw [toL_succ, set_split' hi, List.flatMap_append, List.flatMap_cons]; rfl
      · cases hs
        refine ⟨by rw [ne_eq, List.set_eq_nil_iff]; exact h1, by rw [List.length_set]; exact h2, fun t ht => ?_⟩
        rcases List.mem_or_eq_of_mem_set ht with h | rfl
        · exact h3 t h
        · exact g2 _ hd
    | none =>
      have hf : (ks.eraseIdx i).flatMap (toL h) = (ks.take i).flatMap (toL h) ++ (optL h none ++ (ks.drop (i + 1)).flatMap (toL h)) := by
        rw [eraseIdx_split, List.flatMap_append]; rfl
      dsimp only
      split
      · rename_i hn
        rw [List.isEmpty_iff] at hn
        exact ⟨by rw [← hf, hn]; rfl, fun s h => by cases h⟩
      · rename_i hn
        rw [List.isEmpty_iff] at hn
        refine ⟨by rw [← hf]; rfl, fun s hs => ?_⟩
        cases hs
        exact ⟨hn, by have := List.length_eraseIdx_le ks i; omega, fun t ht => h3 t ((List.eraseIdx_sublist ks i).subset ht)⟩
theorem delT_absent (hl : Lin lt) : ∀ (h : Nat) (t : T (κ × ν)) (k : κ), WF h t → Sd lt (toL h t) → has lt (toL h t) k = false → delT lt h t k = some t
  | 0, t, k, hw, hs, hn => by
    obtain ⟨es, rfl, h1, h2⟩ := wf_zero.1 hw
    rw [toL_zero] at hn
    have hr : rem lt es k = es := by rw [rem, hn]; rfl
    rw [delT, hr]
    cases es with
    | nil => exact absurd rfl h1
    | cons e es => rfl
  | h + 1, t, k, hw, hs, hn => by
    obtain ⟨ks, rfl, h1, h2, h3⟩ := wf_succ.1 hw
    have hi := kid_lt (lt := lt) (h := h) (k := k) h1
    have hA := kid_ahead hl hw hs k
    have hB := kid_behind hl hw hs k
    have hsp := toL_split (h := h) hi
    rw [delT, List.getElem?_eq_getElem hi, Option.bind_some]
    generalize kid lt h ks k = i at *
    have hs2 : Sd lt (toL h ks[i]) := by
      rw [hsp] at hs
      exact (List.pairwise_append.1 (List.pairwise_append.1 hs).2.1).1
    rw [hsp, has_mid hl hA hB] at hn
    rw [delT_absent hl h ks[i] k (h3 _ (List.getElem_mem hi)) hs2 hn]
    simp
def getT (lt : κ → κ → Bool) : Nat → T (κ × ν) → κ → Option ν
  | 0, .leaf es, k => got lt es k
  | h + 1, .br ks, k => (ks[kid lt h ks k]?).bind fun t => getT lt h t k
  | _, _, _ => none
theorem getT_spec (hl : Lin lt) : ∀ (h : Nat) (t : T (κ × ν)) (k : κ), WF h t → Sd lt (toL h t) → getT lt h t k = got lt (toL h t) k
  | 0, t, k, hw, hs => by
    obtain ⟨es, rfl, h1, h2⟩ := wf_zero.1 hw
    rfl
  | h + 1, t, k, hw, hs => by
    obtain ⟨ks, rfl, h1, h2, h3⟩ := wf_succ.1 hw
    have hi := kid_lt (lt := lt) (h := h) (k := k) h1
    have hA := kid_ahead hl hw hs k
    have hB := kid_behind hl hw hs k
    have hsp := toL_split (h := h) hi
    rw [getT, List.getElem?_eq_getElem hi, Option.bind_some]
    generalize kid lt h ks k = i at *
    have hs2 : Sd lt (toL h ks[i]) := by
      rw [hsp] at hs
      exact (List.pairwise_append.1 (List.pairwise_append.1 hs).2.1).1
    rw [hsp, got_mid hl hA hB]
    exact getT_spec hl h ks[i] k (h3 _ (List.getElem_mem hi)) hs2
/-! ### how high -/
def pot : Nat → T (κ × ν) → Nat
  | 0, .leaf es => es.length - 16
  | h + 1, .br ks => 16 ^ (h + 1) * (ks.length - 16) + (ks.map (pot h)).sum
  | _, _ => 0
def pots (h : Nat) (l : List (T (κ × ν))) : Nat := (l.map (pot h)).sum
theorem pots_app (h : Nat) (a b : List (T (κ × ν))) : pots h (a ++ b) = pots h a + pots h b := by simp [pots]
theorem pots_cons (h : Nat) (a : T (κ × ν)) (l : List (T (κ × ν))) : pots h (a :: l) = pot h a + pots h l := by simp [pots]
theorem pots_split (h : Nat) {ks : List (T (κ × ν))} {i : Nat} (hi : i < ks.length) : pots h ks = pots h (ks.take i) + pot h ks[i] + pots h (ks.drop (i + 1)) := by
  conv => lhs; rw [split3 hi]
  rw [pots_app, pots_cons]; omega
theorem split_pot {α : Type} (l : List α) (h33 : l.length ≤ 33) (c : Nat) : ((split l).map fun p => c * (p.length - 16)).sum + (if (split l).length = 2 then 16 * c else 0) = c * (l.length - 16) := by
  by_cases h : 32 < l.length
  · have h3 : l.length = 33 := by omega
    have e : split l = [l.take 16, l.drop 16] := by unfold Bt.split; rw [if_pos h, h3]
    rw [e, h3]
    simp [h3]; omega
  · have e : split l = [l] := by unfold Bt.split; rw [if_neg h]
    rw [e]; simp
theorem setT_pot (hl : Lin lt) : ∀ (h : Nat) (t : T (κ × ν)) (k : κ) (v : ν), WF h t → Sd lt (toL h t) → pots h (setT lt h t k v) + (if (setT lt h t k v).length = 2 then 16 ^ (h + 1) else 0) ≤ pot h t + 1
  | 0, t, k, v, hw, hs => by
    obtain ⟨es, rfl, h1, h2⟩ := wf_zero.1 hw
    have hlen := put_len (lt := lt) (L := es) (k := k) (v := v)
    have hle : (put lt es k v).length ≤ es.length + 1 := by rw [hlen]; split <;> omega
    have := split_pot (put lt es k v) (by omega) 1
    have e : pots 0 (setT lt 0 (.leaf es) k v) = ((split (put lt es k v)).map fun p => 1 * (p.length - 16)).sum := by
      rw [setT, pots, List.map_map]
      congr 1
      refine List.map_congr_left fun p hp => ?_
      simp [pot]
    have e2 : (setT lt 0 (.leaf es) k v).length = (split (put lt es k v)).length := by rw [setT, List.length_map]
    rw [e, e2]
    have e3 : pot 0 (.leaf es) = es.length - 16 := rfl
    rw [e3]
    have e4 : (16 : Nat) ^ (0 + 1) = 16 * 1 := by decide
    rw [e4]; omega
  | h + 1, t, k, v, hw, hs => by
    obtain ⟨ks, rfl, h1, h2, h3⟩ := wf_succ.1 hw
    have hi := kid_lt (lt := lt) (h := h) (k := k) h1
    have hA := kid_ahead hl hw hs k
    have hB := kid_behind hl hw hs k
    have hsp := toL_split (h := h) hi
    rw [setT_succ hi]
    generalize kid lt h ks k = i at *
    have hs2 : Sd lt (toL h ks[i]) := by
      rw [hsp] at hs
      exact (List.pairwise_append.1 (List.pairwise_append.1 hs).2.1).1
    obtain ⟨g1, g2, g3, g4⟩ := setT_spec hl h ks[i] k v (h3 _ (List.getElem_mem hi)) hs2
    have ih := setT_pot hl h ks[i] k v (h3 _ (List.getElem_mem hi)) hs2
    have hps := pots_split h hi
    generalize hl2 : setT lt h ks[i] k v = l at *
    have hnl : ks.take i ++ l ++ ks.drop (i + 1) = ks.take i ++ l ++ ks.drop (i + 1) := rfl
    generalize hnew : ks.take i ++ l ++ ks.drop (i + 1) = new at *
    have hlen : new.length = ks.length - 1 + l.length := by rw [← hnew]; simp; omega
    have hpn : pots h new = pots h (ks.take i) + pots h l + pots h (ks.drop (i + 1)) := by rw [← hnew, pots_app, pots_app]
    have hsplit := split_pot new (by omega) (16 ^ (h + 1))
    have e : pots (h + 1) ((split new).map .br) = ((split new).map fun p => 16 ^ (h + 1) * (p.length - 16)).sum + pots h new := by
      have : ∀ ps : List (List (T (κ × ν))), pots (h + 1) (ps.map .br) = (ps.map fun p => 16 ^ (h + 1) * (p.length - 16)).sum + pots h ps.flatten := fun ps => by
        induction ps with
        | nil => rfl
        | cons p ps ih =>
          have e1 : pots (h + 1) ((p :: ps).map T.br) = pot (h + 1) (.br p) + pots (h + 1) (ps.map T.br) := by simp [pots]
          have e2 : pot (h + 1) (.br p) = 16 ^ (h + 1) * (p.length - 16) + pots h p := rfl
          rw [e1, e2, ih, List.map_cons, List.sum_cons, List.flatten_cons, pots_app]; omega
      rw [this, split_flat]
    have e2 : pot (h + 1) (.br ks) = 16 ^ (h + 1) * (ks.length - 16) + pots h ks := rfl
    rw [e, List.length_map, e2, hpn, hps]
    have e3 : (16 : Nat) ^ (h + 1 + 1) = 16 * 16 ^ (h + 1) := by rw [Nat.pow_succ, Nat.mul_comm]
    rw [e3]
    have hl12 : l.length = 1 ∨ l.length = 2 := by
      have := List.length_pos_iff.2 g4; omega
    have hk1 : 0 < ks.length := List.length_pos_iff.2 h1
    generalize hq : (16 : Nat) ^ (h + 1) = q at *
    rcases hl12 with hl1 | hl1
    · rw [hl1] at hlen
      rw [if_neg (by omega)] at ih
      have : new.length = ks.length := by omega
      rw [this] at hsplit
      omega
    · rw [hl1] at hlen
      rw [if_pos hl1] at ih
      have : new.length = ks.length + 1 := by omega
      rw [this] at hsplit
      have : q * (ks.length + 1 - 16) ≤ q * (ks.length - 16) + q := by
        rw [← Nat.mul_succ]; exact Nat.mul_le_mul_left _ (by omega)
      omega
theorem delT_pot : ∀ (h : Nat) (t : T (κ × ν)) (k : κ), ∀ s, delT lt h t k = some s → pot h s ≤ pot h t
  | 0, .leaf es, k, s, hs => by
    rw [delT] at hs
    split at hs
    · cases hs
    · cases hs
      have hlen := (rem_sub (lt := lt) (L := es) (k := k)).length_le
      show (rem lt es k).length - 16 ≤ es.length - 16
      omega
  | 0, .br ks, k, s, hs => by cases hs
  | h + 1, .leaf es, k, s, hs => by cases hs
  | h + 1, .br ks, k, s, hs => by
    rw [delT] at hs
    by_cases hi : kid lt h ks k < ks.length
    · rw [List.getElem?_eq_getElem hi, Option.bind_some] at hs
      generalize kid lt h ks k = i at *
      have ih := delT_pot h ks[i] k
      have hps := pots_split h hi
      have e2 : pot (h + 1) (.br ks) = 16 ^ (h + 1) * (ks.length - 16) + pots h ks := rfl
      cases hd : delT lt h ks[i] k with
      | some t' =>
        rw [hd] at hs
        cases hs
        have := ih t' hd
        have e3 : pot (h + 1) (.br (ks.set i t')) = 16 ^ (h + 1) * ((ks.set i t').length - 16) + pots h (ks.set i t') := rfl
        have hp := pots_split h (ks := ks.set i t') (i := i) (by simpa using hi)
        rw [e3, e2, List.length_set, hp, hps]
        simp only [List.getElem_set_self]
        have q1 : (ks.set i t').take i = ks.take i := by rw [List.take_set_of_le (by omega)]
        have q2 : (ks.set i t').drop (i + 1) = ks.drop (i + 1) := by rw [List.drop_set_of_lt (by omega)]
        rw [q1, q2]; omega
      | none =>
        rw [hd] at hs
        dsimp only at hs
        split at hs
        · cases hs
        · cases hs
          have e3 : pot (h + 1) (.br (ks.eraseIdx i)) = 16 ^ (h + 1) * ((ks.eraseIdx i).length - 16) + pots h (ks.eraseIdx i) := rfl
          rw [e3, e2, eraseIdx_split, pots_app, hps]
          have : (ks.take i ++ ks.drop (i + 1)).length ≤ ks.length := by simp; omega
          have := Nat.mul_le_mul_left (16 ^ (h + 1)) (Nat.sub_le_sub_right this 16)
          omega
    · rw [List.getElem?_eq_none (by omega)] at hs
      dsimp only [Option.bind_none] at hs
      rw [List.eraseIdx_of_length_le (by omega)] at hs
      split at hs
      · cases hs
      · cases hs; exact Nat.le_refl _
/-! ### roots -/
abbrev Root (κ ν : Type) := Option (Nat × T (κ × ν))
def rL : Root κ ν → List (κ × ν)
  | none => []
  | some (h, t) => toL h t
def Ok (lt : κ → κ → Bool) (n : Nat) : Root κ ν → Prop
  | none => True
  | some (h, t) => WF h t ∧ Sd lt (toL h t) ∧ pot h t ≤ n ∧ 16 ^ h ≤ n + 1
def setR (lt : κ → κ → Bool) : Root κ ν → κ → ν → Nat × T (κ × ν)
  | none, k, v => (0, .leaf [(k, v)])
  | some (h, t), k, v => match setT lt h t k v with
    | [s] => (h, s)
    | l => (h + 1, .br l)
def delR (lt : κ → κ → Bool) : Root κ ν → κ → Root κ ν
  | none, _ => none
  | some (h, t), k => (delT lt h t k).map fun s => (h, s)
theorem Ok.mono {n m : Nat} {r : Root κ ν} (h : Ok lt n r) (hm : n ≤ m) : Ok lt m r := by
  match r, h with
  | none, _ => trivial
  | some (h, t), ⟨h1, h2, h3, h4⟩ => exact ⟨h1, h2, by omega, by omega⟩
theorem Ok.sd {n : Nat} {r : Root κ ν} (h : Ok lt n r) : Sd lt (rL r) := by
  match r, h with
  | none, _ => exact List.Pairwise.nil
  | some (h, t), ⟨h1, h2, h3, h4⟩ => exact h2
theorem setR_spec (hl : Lin lt) {n : Nat} {r : Root κ ν} (h : Ok lt n r) (k : κ) (v : ν) : rL (some (setR lt r k v)) = put lt (rL r) k v ∧ Ok lt (n + 1) (some (setR lt r k v)) := by
  match r, h with
  | none, _ => exact ⟨rfl, ⟨by simp, by simp⟩, List.pairwise_singleton _ _, by simp [pot], by simp⟩
  | some (h, t), ⟨h1, h2, h3, h4⟩ =>
    obtain ⟨g1, g2, g3, g4⟩ := setT_spec hl h t k v h1 h2
    have gp := setT_pot hl h t k v h1 h2
    have hsd := put_sd hl h2 k v
    rw [setR]
    match hs : setT lt h t k v with
    | [] => exact absurd hs g4
    | [s] =>
      rw [hs] at g1 g2 gp
      have g1 : toL h s = put lt (toL h t) k v := by simpa using g1
      refine ⟨g1, g2 s (by simp), by rw [g1]; exact hsd, ?_, by omega⟩
      simp only [pots, List.map_cons, List.map_nil, List.sum_cons, List.sum_nil, List.length_cons, List.length_nil] at gp
      simp only [Nat.zero_add, show ¬ (1 : Nat) = 2 from by decide, if_false] at gp
      omega
    | [s, s'] =>
      rw [hs] at g1 g2 gp
      have e : toL (h + 1) (.br [s, s']) = put lt (toL h t) k v := by rw [toL_succ]; exact g1
      refine ⟨e, ⟨by simp, by simp, g2⟩, by rw [e]; exact hsd, ?_, ?_⟩
      · show 16 ^ (h + 1) * (2 - 16) + pots h [s, s'] ≤ n + 1
        have hp : 0 < 16 ^ h := Nat.pow_pos (by decide)
        simp at gp ⊢; omega
      · simp at gp; omega
    | _ :: _ :: _ :: _ => rw [hs] at g3; simp at g3
theorem delR_spec (hl : Lin lt) {n : Nat} {r : Root κ ν} (h : Ok lt n r) (k : κ) : rL (delR lt r k) = rem lt (rL r) k ∧ Ok lt n (delR lt r k) := by
  match r, h with
  | none, _ => exact ⟨rfl, trivial⟩
  | some (h, t), ⟨h1, h2, h3, h4⟩ =>
    obtain ⟨g1, g2⟩ := delT_spec hl h t k h1 h2
    rw [delR]
    cases hd : delT lt h t k with
    | none => rw [hd] at g1; exact ⟨g1, trivial⟩
    | some s =>
      rw [hd] at g1
      have g1 : toL h s = rem lt (toL h t) k := g1
      exact ⟨g1, g2 s hd, by rw [g1]; exact rem_sd h2 k, by have := delT_pot h t k s hd; omega, h4⟩
def getR (lt : κ → κ → Bool) : Root κ ν → κ → Option ν
  | none, _ => none
  | some (h, t), k => getT lt h t k
theorem getR_spec (hl : Lin lt) {n : Nat} {r : Root κ ν} (h : Ok lt n r) (k : κ) : getR lt r k = got lt (rL r) k := by
  match r, h with
  | none, _ => rfl
  | some (h, t), ⟨h1, h2, h3, h4⟩ => exact getT_spec hl h t k h1 h2
end
end Go.Vc.Bt
end
section
namespace Go.Vc
inductive Nd (κ ν : Type) where
  | emp
  | arr (es : List (κ × ν))
  | br (hs : Bool) (f : Nat → Nd κ ν)
  | val (h : Nat) (k : κ) (v : ν)
  | col (h : Nat) (es : List (κ × ν))
namespace Nd
variable {κ ν : Type} [DecidableEq κ]
def isEmp : Nd κ ν → Bool
  | emp => true
  | _ => false
def cnt (f : Nat → Nd κ ν) : Nat := ((List.range 32).filter fun i => !(f i).isEmp).length
def frag (l h : Nat) : Nat := h / 32 ^ l % 32
def put (f : Nat → Nd κ ν) (i : Nat) (t : Nd κ ν) : Nat → Nd κ ν := fun j => if j = i then t else f j
def one (i : Nat) (t : Nd κ ν) : Nat → Nd κ ν := put (fun _ => emp) i t
def find (es : List (κ × ν)) (k : κ) : Option Nat := es.findIdx? fun e => decide (e.1 = k)
def upd (es : List (κ × ν)) (k : κ) (v : ν) : List (κ × ν) := match find es k with
  | some i => es.set i (k, v)
  | none => es ++ [(k, v)]
def merge (t : Nd κ ν) (h1 h2 : Nat) (k : κ) (v : ν) : Nat → Nat → Nd κ ν
  | 0, _ => emp
  | n + 1, l => if frag l h1 = frag l h2 then br false (one (frag l h1) (merge t h1 h2 k v n (l + 1))) else br false (put (one (frag l h1) t) (frag l h2) (val h2 k v))
def setIn (hk : Nat) (k : κ) (v : ν) : Nd κ ν → Nat → Nd κ ν
  | emp, _ => val hk k v
  | arr es, _ => arr es
  | br hs f, l => br (hs || (f (frag l hk)).isEmp && decide (16 < cnt f)) (put f (frag l hk) (setIn hk k v (f (frag l hk)) (l + 1)))
  | val h k' v', l => if k' = k then val h k v else if h = hk then col h [(k', v'), (k, v)] else merge (val h k' v') h hk k v (7 - l) l
  | col h es, l => if h = hk then col h (upd es k v) else merge (col h es) h hk k v (7 - l) l
def set (hash : κ → Nat) (t : Nd κ ν) (k : κ) (v : ν) : Nd κ ν := match t with
  | emp => arr [(k, v)]
  | arr es => if (find es k).isNone && decide (8 ≤ es.length) then es.foldl (fun n e => setIn (hash e.1) e.1 e.2 n 0) (val (hash k) k v) else arr (upd es k v)
  | t => setIn (hash k) k v t 0
def delIn (hk : Nat) (k : κ) : Nd κ ν → Nat → Nd κ ν
  | emp, _ => emp
  | arr es, _ => arr es
  | br hs f, l =>
    let c := delIn hk k (f (frag l hk)) (l + 1)
    if c.isEmp && !(f (frag l hk)).isEmp then (if !hs && decide (cnt f = 1) then emp else br (hs && decide (16 < cnt f)) (put f (frag l hk) emp)) else br hs (put f (frag l hk) c)
  | val h k' v', _ => if k' = k then emp else val h k' v'
  | col h es, _ => match find es k with
    | none => col h es
    | some i => if es.length = 2 then (match es.eraseIdx i with | [e] => val h e.1 e.2 | _ => emp) else col h (es.eraseIdx i)
def del (hash : κ → Nat) (t : Nd κ ν) (k : κ) : Nd κ ν := match t with
  | emp => emp
  | arr es => match find es k with
    | none => arr es
    | some i => if es.length = 1 then emp else arr (es.eraseIdx i)
  | t => delIn (hash k) k t 0
def look (es : List (κ × ν)) (k : κ) : Option ν := (es.find? fun e => decide (e.1 = k)).map (·.2)
def getIn (hk : Nat) (k : κ) : Nd κ ν → Nat → Option ν
  | emp, _ => none
  | arr es, _ => look es k
  | br _ f, l => getIn hk k (f (frag l hk)) (l + 1)
  | val _ k' v', _ => if k' = k then some v' else none
  | col _ es, _ => look es k
def toL : Nd κ ν → List (κ × ν)
  | emp => []
  | arr es => es
  | br _ f => (List.range 32).flatMap fun i => toL (f i)
  | val _ k v => [(k, v)]
  | col _ es => es
def has (t : Nd κ ν) (k : κ) : Bool := (getIn 0 k t 0).isSome
def WF (hash : κ → Nat) : Nd κ ν → Nat → Nat → Prop
  | emp, _, _ => True
  | arr _, _, _ => False
  | br hs f, l, p => l ≤ 6 ∧ (∀ i, i < 32 → WF hash (f i) (l + 1) (p + i * 32 ^ l)) ∧ (∀ i, 32 ≤ i → f i = emp) ∧ (∃ i, i < 32 ∧ f i ≠ emp) ∧ (hs = true → 16 ≤ cnt f)
  | val h k _, l, p => h = hash k ∧ h % 32 ^ l = p
  | col h es, l, p => 2 ≤ es.length ∧ (es.map (·.1)).Nodup ∧ (∀ e ∈ es, hash e.1 = h) ∧ h % 32 ^ l = p
def WFr (hash : κ → Nat) (t : Nd κ ν) : Prop := match t with
  | arr es => es ≠ [] ∧ es.length ≤ 8 ∧ (es.map (·.1)).Nodup
  | t => WF hash t 0 0
/-! ### branches -/
theorem put_same (f : Nat → Nd κ ν) (i : Nat) (t : Nd κ ν) : put f i t i = t := by simp [put]
theorem put_ne {f : Nat → Nd κ ν} {i j : Nat} {t : Nd κ ν} (h : j ≠ i) : put f i t j = f j := by simp [put, h]
theorem other {f : Nat → Nd κ ν} (h : 0 < cnt f) : ∃ j, j < 32 ∧ f j ≠ emp := by
  unfold cnt at h
  obtain ⟨j, hj⟩ := List.exists_mem_of_length_pos h
  rw [List.mem_filter, List.mem_range] at hj
  refine ⟨j, hj.1, fun e => ?_⟩
  rw [e] at hj
  simp [isEmp] at hj
theorem mem_br {hs : Bool} {f : Nat → Nd κ ν} {e : κ × ν} : e ∈ toL (br hs f) ↔ ∃ i, i < 32 ∧ e ∈ toL (f i) := by
  simp [toL, List.mem_flatMap]
theorem mod_next (l h : Nat) : h % 32 ^ (l + 1) = h % 32 ^ l + frag l h * 32 ^ l := by rw [Nat.mod_pow_succ, frag, Nat.mul_comm]
theorem next_lt {l p i : Nat} (hp : p < 32 ^ l) (hi : i < 32) : p + i * 32 ^ l < 32 ^ (l + 1) := by
  have : (i + 1) * 32 ^ l ≤ 32 * 32 ^ l := Nat.mul_le_mul_right _ (by omega)
  rw [Nat.add_mul] at this
  rw [Nat.pow_succ]; omega
theorem split_eq {l p q i j : Nat} (hp : p < 32 ^ l) (hq : q < 32 ^ l) (h : p + i * 32 ^ l = q + j * 32 ^ l) : p = q ∧ i = j := by
  have hpos : 0 < 32 ^ l := Nat.pow_pos (by decide)
  have h1 : (p + i * 32 ^ l) % 32 ^ l = p := by rw [Nat.add_mul_mod_self_right, Nat.mod_eq_of_lt hp]
  have h2 : (q + j * 32 ^ l) % 32 ^ l = q := by rw [Nat.add_mul_mod_self_right, Nat.mod_eq_of_lt hq]
  have hpq : p = q := by rw [← h1, ← h2, h]
  subst hpq
  exact ⟨rfl, Nat.eq_of_mul_eq_mul_right hpos (by omega)⟩
variable {hash : κ → Nat}
theorem WF.pre : ∀ {t : Nd κ ν} {l p : Nat}, WF hash t l p → p < 32 ^ l → ∀ e ∈ toL t, hash e.1 % 32 ^ l = p
  | emp, _, _, _, _, e, he => by simp [toL] at he
  | arr _, _, _, h, _, _, _ => h.elim
  | br hs f, l, p, h, hp, e, he => by
    obtain ⟨i, hi, hei⟩ := mem_br.1 he
    have h1 := WF.pre (h.2.1 i hi) (next_lt hp hi) e hei
    rw [mod_next] at h1
    exact (split_eq (Nat.mod_lt _ (Nat.pow_pos (by decide))) hp h1).1
  | val h' k v, l, p, h, hp, e, he => by
    simp only [toL, List.mem_singleton] at he
    subst he
    rw [← h.1]; exact h.2
  | col h' es, l, p, h, hp, e, he => by rw [h.2.2.1 e he]; exact h.2.2.2
theorem WF.at_ {hs : Bool} {f : Nat → Nd κ ν} {l p : Nat} (h : WF hash (br hs f) l p) (hp : p < 32 ^ l) {e : κ × ν} {i : Nat} (hi : i < 32) (he : e ∈ toL (f i)) : frag l (hash e.1) = i := by
  have h1 := WF.pre (h.2.1 i hi) (next_lt hp hi) e he
  rw [mod_next] at h1
  exact (split_eq (Nat.mod_lt _ (Nat.pow_pos (by decide))) hp h1).2
theorem WF.nodup : ∀ {t : Nd κ ν} {l p : Nat}, WF hash t l p → p < 32 ^ l → ((toL t).map (·.1)).Nodup
  | emp, _, _, _, _ => by simp [toL]
  | arr _, _, _, h, _ => h.elim
  | br hs f, l, p, h, hp => by
    simp only [toL, List.map_flatMap]
    rw [List.nodup_iff_pairwise_ne, List.pairwise_flatMap]
    refine ⟨fun i hi => ?_, ?_⟩
    · exact WF.nodup (h.2.1 i (List.mem_range.1 hi)) (next_lt hp (List.mem_range.1 hi))
    · refine List.Pairwise.imp_of_mem ?_ (List.nodup_iff_pairwise_ne.1 List.nodup_range)
      intro i j hi hj hij x hx y hy e
      obtain ⟨a, ha, rfl⟩ := List.mem_map.1 hx
      obtain ⟨b, hb, rfl⟩ := List.mem_map.1 hy
      refine hij ?_
      have h1 := h.at_ hp (List.mem_range.1 hi) ha
      have h2 := h.at_ hp (List.mem_range.1 hj) hb
      rw [← h1, ← h2, e]
  | val _ _ _, _, _, _, _ => by simp [toL]
  | col _ _, _, _, h, _ => h.2.1
end Nd
end Go.Vc
end
section
namespace Go.Vc
namespace Nd
variable {κ ν : Type} [DecidableEq κ] {hash : κ → Nat}
def keys (t : Nd κ ν) : List κ := (toL t).map (·.1)
theorem WFr.of {t : Nd κ ν} (h : WF hash t 0 0) : WFr hash t := by cases t <;> first | exact h | exact h.elim
theorem WFr.nodup {t : Nd κ ν} (h : WFr hash t) : (keys t).Nodup := by
  cases t with
  | arr es => exact h.2.2
  | emp => simp [keys, toL]
  | br hs f => exact WF.nodup (t := br hs f) (l := 0) (p := 0) h (by decide)
  | val h' k v => exact WF.nodup (t := val h' k v) (l := 0) (p := 0) h (by decide)
  | col h' es => exact WF.nodup (t := col h' es) (l := 0) (p := 0) h (by decide)
end Nd
end Go.Vc
end
section
namespace Go.Vc
variable {P : Program} {w w' : World} {K : Value → World → Prop} {Kp : KP} {κ ν : Type} [DecidableEq κ]
structure KeyEnc (P : Program) (kt : TypeId) (κ : Type) [DecidableEq κ] where
  enc : κ → Value
  desc : TypeDesc
  und : P.underlying kt = some desc
  same : ∀ a b, Instr.sameNow desc (enc a) (enc b) = some (decide (a = b))
  bits : ∀ a, Instr.sameBits 10000 (enc a) (enc a) = true
  chk : ∀ (w : World) (e : Bool) a, (Instr.checkKey e 10000 kt (enc a)).run P w = .ok () w
structure GMap (w : World) (ek : κ → Value) (ev : ν → Value) (b : Nat) (D : List (κ × ν)) (es : Array MapEntry) (clock : Nat) : Prop where
  heap : w.heap[b]? = some (.map es clock)
  pairs : es.toList.map (fun e => (e.key, e.val)) = D.map fun p => (ek p.1, ev p.2)
  nodup : (D.map (·.1)).Nodup
  born : ∀ x ∈ es.toList, x.born < clock
  apart : (es.toList.map (·.born)).Nodup
def HasMap (w : World) (ek : κ → Value) (ev : ν → Value) (b : Nat) (D : List (κ × ν)) : Prop := ∃ es clock, GMap w ek ev b D es clock
variable {kt : TypeId} {E : KeyEnc P kt κ} {ev : ν → Value} {b : Nat} {D : List (κ × ν)}
theorem HasMap.frame {M : Nat → Prop} {ek : κ → Value} (h : HasMap w ek ev b D) (hf : Frm M w w') (hM : ¬ M b) : HasMap w' ek ev b D := by
  obtain ⟨es, clock, h1⟩ := h
  exact ⟨es, clock, { h1 with heap := hf.get h1.heap hM }⟩
theorem HasMap.lt {ek : κ → Value} (h : HasMap w ek ev b D) : b < w.heap.size := by obtain ⟨es, clock, h1⟩ := h; exact lt_of_get h1.heap
end Go.Vc
end
section
namespace Go.Vc
open Go.ChangeMaps (setBlock)
variable {P : Program} {w w' : World} {K : Value → World → Prop} {Kp : KP} {κ ν : Type} [DecidableEq κ]
def Ranging (w : World) (ek : κ → Value) (ev : ν → Value) (b : Nat) (D : List (κ × ν)) (r : Nat) (L : List (κ × ν)) : Prop :=
  ∃ es clock since seen c0, GMap w ek ev b D es clock ∧ w.heap[r]? = some (.mapIter (some b) since seen c0) ∧ (∀ x ∈ es.toList, x.born < since) ∧ since ≤ c0 ∧ since ≤ clock ∧
    (leftOf es seen).toList.map (fun e => (e.key, e.val)) = L.map fun p => (ek p.1, ev p.2)
variable {ek : κ → Value} {ev : ν → Value} {b r : Nat} {D L : List (κ × ν)}
theorem Ranging.frame {M : Nat → Prop} (h : Ranging w ek ev b D r L) (hf : Frm M w w') (hb : ¬ M b) (hr : ¬ M r) : Ranging w' ek ev b D r L := by
  obtain ⟨es, clock, since, seen, c0, h1, h2, h3⟩ := h
  exact ⟨es, clock, since, seen, c0, { h1 with heap := hf.get h1.heap hb }, hf.get h2 hr, h3⟩
theorem Ranging.map (h : Ranging w ek ev b D r L) : HasMap w ek ev b D := by
  obtain ⟨es, clock, since, seen, c0, h1, h2⟩ := h
  exact ⟨es, clock, h1⟩
theorem Ranging.ne (h : Ranging w ek ev b D r L) : r ≠ b := by
  obtain ⟨es, clock, since, seen, c0, h1, h2, _⟩ := h
  rintro rfl
  rw [h1.heap] at h2; cases h2
theorem Ranging.lt (h : Ranging w ek ev b D r L) : r < w.heap.size := by
  obtain ⟨es, clock, since, seen, c0, h1, h2, _⟩ := h
  exact lt_of_get h2
end Go.Vc
end
section
namespace Go.Proofs.YtodjijfblgnfmaaGreatDoor
open Go.Vc Go.Proofs
abbrev nP := nice Tryz.prog
variable {w : World} {K : KV} {Kp : KP} {K1 : Value → Prop}
@[simp] theorem op_conv_3_339 {k : IntKind} {n : Int} : nP.op (.conv 3 339 (.int k n)) w K Kp = K (.int .u64 (IntKind.u64.wrap n)) w := op_conv (by kernel_rfl) (by kernel_rfl)
@[simp] theorem pur_conv_3_339 {k : IntKind} {n : Int} : nP.pur (.conv 3 339 (.int k n)) K1 = K1 (.int .u64 (IntKind.u64.wrap n)) := pur_conv (by kernel_rfl) (by kernel_rfl)
@[simp] theorem op_conv_339_3 {k : IntKind} {n : Int} : nP.op (.conv 339 3 (.int k n)) w K Kp = K (.int .i64 (IntKind.i64.wrap n)) w := op_conv (by kernel_rfl) (by kernel_rfl)
@[simp] theorem pur_conv_339_3 {k : IntKind} {n : Int} : nP.pur (.conv 339 3 (.int k n)) K1 = K1 (.int .i64 (IntKind.i64.wrap n)) := pur_conv (by kernel_rfl) (by kernel_rfl)
@[simp] theorem op_mki_9 {v : Value} : nP.op (.mkIface 9 v) w K Kp = K (.iface 9 v) w := op_mkIface (by kernel_rfl) (by kernel_rfl)
@[simp] theorem pur_mki_9 {v : Value} : nP.pur (.mkIface 9 v) K1 = K1 (.iface 9 v) := pur_mkIface (by kernel_rfl) (by kernel_rfl)
@[simp] theorem op_fa_134_0 {p : Addr} : nP.op (.fieldAddr 134 (.pointer (some p)) 0) w K Kp = K (.pointer (some (p.add 0))) w := op_fa (k := (.agg 2)) (by kernel_rfl)
@[simp] theorem pur_fa_134_0 {p : Addr} : nP.pur (.fieldAddr 134 (.pointer (some p)) 0) K1 = K1 (.pointer (some (p.add 0))) := pur_fa (k := (.agg 2)) (by kernel_rfl)
@[simp] theorem op_fa_31_0 {p : Addr} : nP.op (.fieldAddr 31 (.pointer (some p)) 0) w K Kp = K (.pointer (some (p.add 0))) w := op_fa (k := .one) (by kernel_rfl)
@[simp] theorem pur_fa_31_0 {p : Addr} : nP.pur (.fieldAddr 31 (.pointer (some p)) 0) K1 = K1 (.pointer (some (p.add 0))) := pur_fa (k := .one) (by kernel_rfl)
@[simp] theorem op_ld_5 {p : Addr} : nP.op (.load 5 (.pointer (some p))) w K Kp = ∃ cs e fz, w.heap[p.block]? = some (.cells cs e fz) ∧ p.spot = none ∧ ∃ v, cs[p.off]? = some v ∧ K v w := op_ld (by kernel_rfl)
@[simp] theorem ld_ld_5 {p : Addr} : nP.ld (.load 5 (.pointer (some p))) w K1 = ∃ cs e fz, w.heap[p.block]? = some (.cells cs e fz) ∧ p.spot = none ∧ ∃ v, cs[p.off]? = some v ∧ K1 v := ld_ld (by kernel_rfl)
@[simp] theorem same_ld_5 {p : Addr} {v : Value} : nP.same (.load 5 (.pointer (some p))) v w = ∃ cs e fz, w.heap[p.block]? = some (.cells cs e fz) ∧ p.spot = none ∧ cs[p.off]? = some v := same_ld (by kernel_rfl)
@[simp] theorem op_len_9 {s : ByteArray} {ty : Nat} : nP.op (.blt .len [9] ty [.string s]) w K Kp = K (.int .i64 s.size) w := op_len_str (by kernel_rfl)
@[simp] theorem pur_len_9 {s : ByteArray} {ty : Nat} : nP.pur (.blt .len [9] ty [.string s]) K1 = K1 (.int .i64 s.size) := pur_len_str (by kernel_rfl)
@[simp] theorem ld_len_9 {s : ByteArray} {ty : Nat} : nP.ld (.blt .len [9] ty [.string s]) w K1 = K1 (.int .i64 s.size) := ld_len_str (by kernel_rfl)
@[simp] theorem same_len_9 {s : ByteArray} {ty : Nat} {u : Value} : nP.same (.blt .len [9] ty [.string s]) u w = (.int .i64 s.size = u) := same_len_str (by kernel_rfl)
@[simp] theorem call_238 {args : List Value} : nP.call (.fn 238) args w K Kp = Calls Tryz.prog 238 args.toArray w (ret K Kp) := call_fn (by kernel_rfl)
@[simp] theorem call_239 {args : List Value} : nP.call (.fn 239) args w K Kp = Calls Tryz.prog 239 args.toArray w (ret K Kp) := call_fn (by kernel_rfl)
@[simp] theorem op_fa_146_0 {p : Addr} : nP.op (.fieldAddr 146 (.pointer (some p)) 0) w K Kp = K (.pointer (some (p.add 0))) w := op_fa (k := (.agg 2)) (by kernel_rfl)
@[simp] theorem pur_fa_146_0 {p : Addr} : nP.pur (.fieldAddr 146 (.pointer (some p)) 0) K1 = K1 (.pointer (some (p.add 0))) := pur_fa (k := (.agg 2)) (by kernel_rfl)
@[simp] theorem op_fa_31_1 {p : Addr} : nP.op (.fieldAddr 31 (.pointer (some p)) 1) w K Kp = K (.pointer (some (p.add 1))) w := op_fa (k := .one) (by kernel_rfl)
@[simp] theorem pur_fa_31_1 {p : Addr} : nP.pur (.fieldAddr 31 (.pointer (some p)) 1) K1 = K1 (.pointer (some (p.add 1))) := pur_fa (k := .one) (by kernel_rfl)
@[simp] theorem op_ld_2 {p : Addr} : nP.op (.load 2 (.pointer (some p))) w K Kp = ∃ cs e fz, w.heap[p.block]? = some (.cells cs e fz) ∧ p.spot = none ∧ ∃ v, cs[p.off]? = some v ∧ K v w := op_ld (by kernel_rfl)
@[simp] theorem ld_ld_2 {p : Addr} : nP.ld (.load 2 (.pointer (some p))) w K1 = ∃ cs e fz, w.heap[p.block]? = some (.cells cs e fz) ∧ p.spot = none ∧ ∃ v, cs[p.off]? = some v ∧ K1 v := ld_ld (by kernel_rfl)
@[simp] theorem same_ld_2 {p : Addr} {v : Value} : nP.same (.load 2 (.pointer (some p))) v w = ∃ cs e fz, w.heap[p.block]? = some (.cells cs e fz) ∧ p.spot = none ∧ cs[p.off]? = some v := same_ld (by kernel_rfl)
@[simp] theorem call_240 {args : List Value} : nP.call (.fn 240) args w K Kp = Calls Tryz.prog 240 args.toArray w (ret K Kp) := call_fn (by kernel_rfl)
@[simp] theorem call_243 {args : List Value} : nP.call (.fn 243) args w K Kp = Calls Tryz.prog 243 args.toArray w (ret K Kp) := call_fn (by kernel_rfl)
@[simp] theorem op_ta_20_3 {u : TypeId} {v : Value} : nP.op (.tassert (.iface u v) 20 3 true) w K Kp = if u = 3 then K (.tuple #[v, .bool true]) w else K (.tuple #[(Value.int IntKind.i64 0), .bool false]) w := op_tassert_ok (by kernel_rfl) (by kernel_rfl) (by kernel_rfl)
@[simp] theorem op_tan_20_3 : nP.op (.tassert .nilIface 20 3 true) w K Kp = K (.tuple #[(Value.int IntKind.i64 0), .bool false]) w := op_tassert_ok_nil (by kernel_rfl) (by kernel_rfl) (by kernel_rfl)
@[simp] theorem op_tay_20_3 {v : Value} : nP.op (.tassert (.iface 3 v) 20 3 false) w K Kp = K v w := op_tassert_yes (by kernel_rfl) (by kernel_rfl)
@[simp] theorem pur_tay_20_3 {v : Value} : nP.pur (.tassert (.iface 3 v) 20 3 false) K1 = K1 v := pur_tassert_yes (by kernel_rfl) (by kernel_rfl)
@[simp] theorem call_288 {args : List Value} : nP.call (.fn 288) args w K Kp = Calls Tryz.prog 288 args.toArray w (ret K Kp) := call_fn (by kernel_rfl)
@[simp] theorem op_ta_20_337 {u : TypeId} {v : Value} : nP.op (.tassert (.iface u v) 20 337 true) w K Kp = if u = 337 then K (.tuple #[v, .bool true]) w else K (.tuple #[(Value.int IntKind.i8 0), .bool false]) w := op_tassert_ok (by kernel_rfl) (by kernel_rfl) (by kernel_rfl)
@[simp] theorem op_tan_20_337 : nP.op (.tassert .nilIface 20 337 true) w K Kp = K (.tuple #[(Value.int IntKind.i8 0), .bool false]) w := op_tassert_ok_nil (by kernel_rfl) (by kernel_rfl) (by kernel_rfl)
@[simp] theorem op_tay_20_337 {v : Value} : nP.op (.tassert (.iface 337 v) 20 337 false) w K Kp = K v w := op_tassert_yes (by kernel_rfl) (by kernel_rfl)
@[simp] theorem pur_tay_20_337 {v : Value} : nP.pur (.tassert (.iface 337 v) 20 337 false) K1 = K1 v := pur_tassert_yes (by kernel_rfl) (by kernel_rfl)
@[simp] theorem call_289 {args : List Value} : nP.call (.fn 289) args w K Kp = Calls Tryz.prog 289 args.toArray w (ret K Kp) := call_fn (by kernel_rfl)
@[simp] theorem op_ta_20_338 {u : TypeId} {v : Value} : nP.op (.tassert (.iface u v) 20 338 true) w K Kp = if u = 338 then K (.tuple #[v, .bool true]) w else K (.tuple #[(Value.int IntKind.i16 0), .bool false]) w := op_tassert_ok (by kernel_rfl) (by kernel_rfl) (by kernel_rfl)
@[simp] theorem op_tan_20_338 : nP.op (.tassert .nilIface 20 338 true) w K Kp = K (.tuple #[(Value.int IntKind.i16 0), .bool false]) w := op_tassert_ok_nil (by kernel_rfl) (by kernel_rfl) (by kernel_rfl)
@[simp] theorem op_tay_20_338 {v : Value} : nP.op (.tassert (.iface 338 v) 20 338 false) w K Kp = K v w := op_tassert_yes (by kernel_rfl) (by kernel_rfl)
@[simp] theorem pur_tay_20_338 {v : Value} : nP.pur (.tassert (.iface 338 v) 20 338 false) K1 = K1 v := pur_tassert_yes (by kernel_rfl) (by kernel_rfl)
@[simp] theorem call_290 {args : List Value} : nP.call (.fn 290) args w K Kp = Calls Tryz.prog 290 args.toArray w (ret K Kp) := call_fn (by kernel_rfl)
@[simp] theorem op_ta_20_21 {u : TypeId} {v : Value} : nP.op (.tassert (.iface u v) 20 21 true) w K Kp = if u = 21 then K (.tuple #[v, .bool true]) w else K (.tuple #[(Value.int IntKind.i32 0), .bool false]) w := op_tassert_ok (by kernel_rfl) (by kernel_rfl) (by kernel_rfl)
@[simp] theorem op_tan_20_21 : nP.op (.tassert .nilIface 20 21 true) w K Kp = K (.tuple #[(Value.int IntKind.i32 0), .bool false]) w := op_tassert_ok_nil (by kernel_rfl) (by kernel_rfl) (by kernel_rfl)
@[simp] theorem op_tay_20_21 {v : Value} : nP.op (.tassert (.iface 21 v) 20 21 false) w K Kp = K v w := op_tassert_yes (by kernel_rfl) (by kernel_rfl)
@[simp] theorem pur_tay_20_21 {v : Value} : nP.pur (.tassert (.iface 21 v) 20 21 false) K1 = K1 v := pur_tassert_yes (by kernel_rfl) (by kernel_rfl)
@[simp] theorem call_291 {args : List Value} : nP.call (.fn 291) args w K Kp = Calls Tryz.prog 291 args.toArray w (ret K Kp) := call_fn (by kernel_rfl)
@[simp] theorem op_ta_20_2 {u : TypeId} {v : Value} : nP.op (.tassert (.iface u v) 20 2 true) w K Kp = if u = 2 then K (.tuple #[v, .bool true]) w else K (.tuple #[(Value.int IntKind.i64 0), .bool false]) w := op_tassert_ok (by kernel_rfl) (by kernel_rfl) (by kernel_rfl)
@[simp] theorem op_tan_20_2 : nP.op (.tassert .nilIface 20 2 true) w K Kp = K (.tuple #[(Value.int IntKind.i64 0), .bool false]) w := op_tassert_ok_nil (by kernel_rfl) (by kernel_rfl) (by kernel_rfl)
@[simp] theorem op_tay_20_2 {v : Value} : nP.op (.tassert (.iface 2 v) 20 2 false) w K Kp = K v w := op_tassert_yes (by kernel_rfl) (by kernel_rfl)
@[simp] theorem pur_tay_20_2 {v : Value} : nP.pur (.tassert (.iface 2 v) 20 2 false) K1 = K1 v := pur_tassert_yes (by kernel_rfl) (by kernel_rfl)
@[simp] theorem call_292 {args : List Value} : nP.call (.fn 292) args w K Kp = Calls Tryz.prog 292 args.toArray w (ret K Kp) := call_fn (by kernel_rfl)
@[simp] theorem op_ta_20_339 {u : TypeId} {v : Value} : nP.op (.tassert (.iface u v) 20 339 true) w K Kp = if u = 339 then K (.tuple #[v, .bool true]) w else K (.tuple #[(Value.int IntKind.u64 0), .bool false]) w := op_tassert_ok (by kernel_rfl) (by kernel_rfl) (by kernel_rfl)
@[simp] theorem op_tan_20_339 : nP.op (.tassert .nilIface 20 339 true) w K Kp = K (.tuple #[(Value.int IntKind.u64 0), .bool false]) w := op_tassert_ok_nil (by kernel_rfl) (by kernel_rfl) (by kernel_rfl)
@[simp] theorem op_tay_20_339 {v : Value} : nP.op (.tassert (.iface 339 v) 20 339 false) w K Kp = K v w := op_tassert_yes (by kernel_rfl) (by kernel_rfl)
@[simp] theorem pur_tay_20_339 {v : Value} : nP.pur (.tassert (.iface 339 v) 20 339 false) K1 = K1 v := pur_tassert_yes (by kernel_rfl) (by kernel_rfl)
@[simp] theorem call_293 {args : List Value} : nP.call (.fn 293) args w K Kp = Calls Tryz.prog 293 args.toArray w (ret K Kp) := call_fn (by kernel_rfl)
@[simp] theorem op_ta_20_5 {u : TypeId} {v : Value} : nP.op (.tassert (.iface u v) 20 5 true) w K Kp = if u = 5 then K (.tuple #[v, .bool true]) w else K (.tuple #[(Value.int IntKind.u8 0), .bool false]) w := op_tassert_ok (by kernel_rfl) (by kernel_rfl) (by kernel_rfl)
@[simp] theorem op_tan_20_5 : nP.op (.tassert .nilIface 20 5 true) w K Kp = K (.tuple #[(Value.int IntKind.u8 0), .bool false]) w := op_tassert_ok_nil (by kernel_rfl) (by kernel_rfl) (by kernel_rfl)
@[simp] theorem op_tay_20_5 {v : Value} : nP.op (.tassert (.iface 5 v) 20 5 false) w K Kp = K v w := op_tassert_yes (by kernel_rfl) (by kernel_rfl)
@[simp] theorem pur_tay_20_5 {v : Value} : nP.pur (.tassert (.iface 5 v) 20 5 false) K1 = K1 v := pur_tassert_yes (by kernel_rfl) (by kernel_rfl)
@[simp] theorem call_294 {args : List Value} : nP.call (.fn 294) args w K Kp = Calls Tryz.prog 294 args.toArray w (ret K Kp) := call_fn (by kernel_rfl)
@[simp] theorem op_ta_20_43 {u : TypeId} {v : Value} : nP.op (.tassert (.iface u v) 20 43 true) w K Kp = if u = 43 then K (.tuple #[v, .bool true]) w else K (.tuple #[(Value.int IntKind.u16 0), .bool false]) w := op_tassert_ok (by kernel_rfl) (by kernel_rfl) (by kernel_rfl)
@[simp] theorem op_tan_20_43 : nP.op (.tassert .nilIface 20 43 true) w K Kp = K (.tuple #[(Value.int IntKind.u16 0), .bool false]) w := op_tassert_ok_nil (by kernel_rfl) (by kernel_rfl) (by kernel_rfl)
@[simp] theorem op_tay_20_43 {v : Value} : nP.op (.tassert (.iface 43 v) 20 43 false) w K Kp = K v w := op_tassert_yes (by kernel_rfl) (by kernel_rfl)
@[simp] theorem pur_tay_20_43 {v : Value} : nP.pur (.tassert (.iface 43 v) 20 43 false) K1 = K1 v := pur_tassert_yes (by kernel_rfl) (by kernel_rfl)
@[simp] theorem call_295 {args : List Value} : nP.call (.fn 295) args w K Kp = Calls Tryz.prog 295 args.toArray w (ret K Kp) := call_fn (by kernel_rfl)
@[simp] theorem op_ta_20_340 {u : TypeId} {v : Value} : nP.op (.tassert (.iface u v) 20 340 true) w K Kp = if u = 340 then K (.tuple #[v, .bool true]) w else K (.tuple #[(Value.int IntKind.u32 0), .bool false]) w := op_tassert_ok (by kernel_rfl) (by kernel_rfl) (by kernel_rfl)
@[simp] theorem op_tan_20_340 : nP.op (.tassert .nilIface 20 340 true) w K Kp = K (.tuple #[(Value.int IntKind.u32 0), .bool false]) w := op_tassert_ok_nil (by kernel_rfl) (by kernel_rfl) (by kernel_rfl)
@[simp] theorem op_tay_20_340 {v : Value} : nP.op (.tassert (.iface 340 v) 20 340 false) w K Kp = K v w := op_tassert_yes (by kernel_rfl) (by kernel_rfl)
@[simp] theorem pur_tay_20_340 {v : Value} : nP.pur (.tassert (.iface 340 v) 20 340 false) K1 = K1 v := pur_tassert_yes (by kernel_rfl) (by kernel_rfl)
@[simp] theorem call_296 {args : List Value} : nP.call (.fn 296) args w K Kp = Calls Tryz.prog 296 args.toArray w (ret K Kp) := call_fn (by kernel_rfl)
@[simp] theorem op_ta_20_227 {u : TypeId} {v : Value} : nP.op (.tassert (.iface u v) 20 227 true) w K Kp = if u = 227 then K (.tuple #[v, .bool true]) w else K (.tuple #[(Value.int IntKind.u64 0), .bool false]) w := op_tassert_ok (by kernel_rfl) (by kernel_rfl) (by kernel_rfl)
@[simp] theorem op_tan_20_227 : nP.op (.tassert .nilIface 20 227 true) w K Kp = K (.tuple #[(Value.int IntKind.u64 0), .bool false]) w := op_tassert_ok_nil (by kernel_rfl) (by kernel_rfl) (by kernel_rfl)
@[simp] theorem op_tay_20_227 {v : Value} : nP.op (.tassert (.iface 227 v) 20 227 false) w K Kp = K v w := op_tassert_yes (by kernel_rfl) (by kernel_rfl)
@[simp] theorem pur_tay_20_227 {v : Value} : nP.pur (.tassert (.iface 227 v) 20 227 false) K1 = K1 v := pur_tassert_yes (by kernel_rfl) (by kernel_rfl)
@[simp] theorem call_297 {args : List Value} : nP.call (.fn 297) args w K Kp = Calls Tryz.prog 297 args.toArray w (ret K Kp) := call_fn (by kernel_rfl)
@[simp] theorem op_ta_20_12 {u : TypeId} {v : Value} : nP.op (.tassert (.iface u v) 20 12 true) w K Kp = if u = 12 then K (.tuple #[v, .bool true]) w else K (.tuple #[(Value.int IntKind.u64 0), .bool false]) w := op_tassert_ok (by kernel_rfl) (by kernel_rfl) (by kernel_rfl)
@[simp] theorem op_tan_20_12 : nP.op (.tassert .nilIface 20 12 true) w K Kp = K (.tuple #[(Value.int IntKind.u64 0), .bool false]) w := op_tassert_ok_nil (by kernel_rfl) (by kernel_rfl) (by kernel_rfl)
@[simp] theorem op_tay_20_12 {v : Value} : nP.op (.tassert (.iface 12 v) 20 12 false) w K Kp = K v w := op_tassert_yes (by kernel_rfl) (by kernel_rfl)
@[simp] theorem pur_tay_20_12 {v : Value} : nP.pur (.tassert (.iface 12 v) 20 12 false) K1 = K1 v := pur_tassert_yes (by kernel_rfl) (by kernel_rfl)
@[simp] theorem call_298 {args : List Value} : nP.call (.fn 298) args w K Kp = Calls Tryz.prog 298 args.toArray w (ret K Kp) := call_fn (by kernel_rfl)
@[simp] theorem op_ta_20_9 {u : TypeId} {v : Value} : nP.op (.tassert (.iface u v) 20 9 true) w K Kp = if u = 9 then K (.tuple #[v, .bool true]) w else K (.tuple #[(Value.string ByteArray.empty), .bool false]) w := op_tassert_ok (by kernel_rfl) (by kernel_rfl) (by kernel_rfl)
@[simp] theorem op_tan_20_9 : nP.op (.tassert .nilIface 20 9 true) w K Kp = K (.tuple #[(Value.string ByteArray.empty), .bool false]) w := op_tassert_ok_nil (by kernel_rfl) (by kernel_rfl) (by kernel_rfl)
@[simp] theorem op_tay_20_9 {v : Value} : nP.op (.tassert (.iface 9 v) 20 9 false) w K Kp = K v w := op_tassert_yes (by kernel_rfl) (by kernel_rfl)
@[simp] theorem pur_tay_20_9 {v : Value} : nP.pur (.tassert (.iface 9 v) 20 9 false) K1 = K1 v := pur_tassert_yes (by kernel_rfl) (by kernel_rfl)
@[simp] theorem call_299 {args : List Value} : nP.call (.fn 299) args w K Kp = Calls Tryz.prog 299 args.toArray w (ret K Kp) := call_fn (by kernel_rfl)
@[simp] theorem op_mki_2 {v : Value} : nP.op (.mkIface 2 v) w K Kp = K (.iface 2 v) w := op_mkIface (by kernel_rfl) (by kernel_rfl)
@[simp] theorem pur_mki_2 {v : Value} : nP.pur (.mkIface 2 v) K1 = K1 (.iface 2 v) := pur_mkIface (by kernel_rfl) (by kernel_rfl)
@[simp] theorem call_247 {args : List Value} : nP.call (.fn 247) args w K Kp = Calls Tryz.prog 247 args.toArray w (ret K Kp) := call_fn (by kernel_rfl)
@[simp] theorem op_fa_226_0 {p : Addr} : nP.op (.fieldAddr 226 (.pointer (some p)) 0) w K Kp = K (.pointer (some (p.add 0))) w := op_fa (k := .one) (by kernel_rfl)
@[simp] theorem pur_fa_226_0 {p : Addr} : nP.pur (.fieldAddr 226 (.pointer (some p)) 0) K1 = K1 (.pointer (some (p.add 0))) := pur_fa (k := .one) (by kernel_rfl)
@[simp] theorem op_ld_224 {p : Addr} : nP.op (.load 224 (.pointer (some p))) w K Kp = ∃ cs e fz, w.heap[p.block]? = some (.cells cs e fz) ∧ p.spot = none ∧ ∃ v, cs[p.off]? = some v ∧ K v w := op_ld (by kernel_rfl)
@[simp] theorem ld_ld_224 {p : Addr} : nP.ld (.load 224 (.pointer (some p))) w K1 = ∃ cs e fz, w.heap[p.block]? = some (.cells cs e fz) ∧ p.spot = none ∧ ∃ v, cs[p.off]? = some v ∧ K1 v := ld_ld (by kernel_rfl)
@[simp] theorem same_ld_224 {p : Addr} {v : Value} : nP.same (.load 224 (.pointer (some p))) v w = ∃ cs e fz, w.heap[p.block]? = some (.cells cs e fz) ∧ p.spot = none ∧ cs[p.off]? = some v := same_ld (by kernel_rfl)
@[simp] theorem op_st_224 {p : Addr} {v : Value} : nP.op (.store 224 (.pointer (some p)) v) w K Kp = ∃ cs e, w.heap[p.block]? = some (.cells cs e (0, 0)) ∧ p.spot = none ∧ p.off < cs.size ∧ v.oneCell' = true ∧ K undef (w.upd p.block (.cells (cs.setIfInBounds p.off v) e (0, 0))) := op_st (by kernel_rfl)
@[simp] theorem op_len_224 {a : Option Addr} {n c ty : Nat} : nP.op (.blt .len [224] ty [.slice a n c]) w K Kp = K (.int .i64 n) w := op_len_slice (by kernel_rfl)
@[simp] theorem pur_len_224 {a : Option Addr} {n c ty : Nat} : nP.pur (.blt .len [224] ty [.slice a n c]) K1 = K1 (.int .i64 n) := pur_len_slice (by kernel_rfl)
@[simp] theorem ld_len_224 {a : Option Addr} {n c ty : Nat} : nP.ld (.blt .len [224] ty [.slice a n c]) w K1 = K1 (.int .i64 n) := ld_len_slice (by kernel_rfl)
@[simp] theorem same_len_224 {a : Option Addr} {n c ty : Nat} {u : Value} : nP.same (.blt .len [224] ty [.slice a n c]) u w = (.int .i64 n = u) := same_len_slice (by kernel_rfl)
@[simp] theorem op_ix_224 {p : Addr} {len cap : Nat} {k : IntKind} {j : Int} : nP.op (.indexAddr 224 (.slice (some p) len cap) (.int k j)) w K Kp = ((0 ≤ j ∧ j < (len : Int)) ∧ K (.pointer (some (p.add (j.toNat * 2)))) w) := op_ix_slice (e := 223) (by kernel_rfl)
@[simp] theorem pur_ix_224 {p : Addr} {len cap : Nat} {k : IntKind} {j : Int} : nP.pur (.indexAddr 224 (.slice (some p) len cap) (.int k j)) K1 = ((0 ≤ j ∧ j < (len : Int)) ∧ K1 (.pointer (some (p.add (j.toNat * 2))))) := pur_ix_slice (e := 223) (by kernel_rfl)
@[simp] theorem op_fa_223_0 {p : Addr} : nP.op (.fieldAddr 223 (.pointer (some p)) 0) w K Kp = K (.pointer (some (p.add 0))) w := op_fa (k := .one) (by kernel_rfl)
@[simp] theorem pur_fa_223_0 {p : Addr} : nP.pur (.fieldAddr 223 (.pointer (some p)) 0) K1 = K1 (.pointer (some (p.add 0))) := pur_fa (k := .one) (by kernel_rfl)
@[simp] theorem pur_meth_23_34 {v : Value} : nP.pur (.nilCheck (.func (.method "Compare") #[.iface 23 v] #[])) K1 = K1 (.func (.method "Compare") #[.iface 23 v] #[]) := pur_nil_meth (fun _ => by kernel_rfl)
@[simp] theorem pur_meth_134_231 {v : Value} : nP.pur (.nilCheck (.func (.method "Compare") #[.iface 134 v] #[])) K1 = K1 (.func (.method "Compare") #[.iface 134 v] #[]) := pur_nil_meth (fun _ => by kernel_rfl)
@[simp] theorem pur_meth_146_232 {v : Value} : nP.pur (.nilCheck (.func (.method "Compare") #[.iface 146 v] #[])) K1 = K1 (.func (.method "Compare") #[.iface 146 v] #[]) := pur_nil_meth (fun _ => by kernel_rfl)
@[simp] theorem pur_meth_341_287 {p : Addr} : nP.pur (.nilCheck (.func (.method "Compare") #[.iface 341 (.pointer (some p))] #[])) K1 = K1 (.func (.method "Compare") #[.iface 341 (.pointer (some p))] #[]) := pur_nil_meth (fun _ => by kernel_rfl)
@[simp] theorem pur_meth_351_300 {p : Addr} : nP.pur (.nilCheck (.func (.method "Compare") #[.iface 351 (.pointer (some p))] #[])) K1 = K1 (.func (.method "Compare") #[.iface 351 (.pointer (some p))] #[]) := pur_nil_meth (fun _ => by kernel_rfl)
@[simp] theorem inv_23_34 {v : Value} {args : List Value} : nP.call (.inv (.iface 23 v) "Compare") args w K Kp = Calls Tryz.prog 34 (v :: args).toArray w (ret K Kp) := call_inv (fun _ => by kernel_rfl) (by kernel_rfl)
@[simp] theorem inv_134_231 {v : Value} {args : List Value} : nP.call (.inv (.iface 134 v) "Compare") args w K Kp = Calls Tryz.prog 231 (v :: args).toArray w (ret K Kp) := call_inv (fun _ => by kernel_rfl) (by kernel_rfl)
@[simp] theorem inv_146_232 {v : Value} {args : List Value} : nP.call (.inv (.iface 146 v) "Compare") args w K Kp = Calls Tryz.prog 232 (v :: args).toArray w (ret K Kp) := call_inv (fun _ => by kernel_rfl) (by kernel_rfl)
@[simp] theorem inv_341_287 {v : Value} {args : List Value} : nP.call (.inv (.iface 341 v) "Compare") args w K Kp = Calls Tryz.prog 287 (v :: args).toArray w (ret K Kp) := call_inv (fun _ => by kernel_rfl) (by kernel_rfl)
@[simp] theorem inv_351_300 {v : Value} {args : List Value} : nP.call (.inv (.iface 351 v) "Compare") args w K Kp = Calls Tryz.prog 300 (v :: args).toArray w (ret K Kp) := call_inv (fun _ => by kernel_rfl) (by kernel_rfl)
@[simp] theorem op_mki_220 {v : Value} : nP.op (.mkIface 220 v) w K Kp = K (.iface 220 v) w := op_mkIface (by kernel_rfl) (by kernel_rfl)
@[simp] theorem pur_mki_220 {v : Value} : nP.pur (.mkIface 220 v) K1 = K1 (.iface 220 v) := pur_mkIface (by kernel_rfl) (by kernel_rfl)
@[simp] theorem op_ld_4 {p : Addr} : nP.op (.load 4 (.pointer (some p))) w K Kp = ∃ cs e fz, w.heap[p.block]? = some (.cells cs e fz) ∧ p.spot = none ∧ ∃ v, cs[p.off]? = some v ∧ K v w := op_ld (by kernel_rfl)
@[simp] theorem ld_ld_4 {p : Addr} : nP.ld (.load 4 (.pointer (some p))) w K1 = ∃ cs e fz, w.heap[p.block]? = some (.cells cs e fz) ∧ p.spot = none ∧ ∃ v, cs[p.off]? = some v ∧ K1 v := ld_ld (by kernel_rfl)
@[simp] theorem same_ld_4 {p : Addr} {v : Value} : nP.same (.load 4 (.pointer (some p))) v w = ∃ cs e fz, w.heap[p.block]? = some (.cells cs e fz) ∧ p.spot = none ∧ cs[p.off]? = some v := same_ld (by kernel_rfl)
@[simp] theorem op_cutlo_224 {len cap b o : Nat} {k : IntKind} {x : Int} : nP.op (.slice 224 (.slice (some ⟨b, o, none⟩) len cap) (some (.int k x)) none none) w K Kp = ((0 ≤ x ∧ x ≤ (len : Int) ∧ (len : Int) ≤ (cap : Int)) ∧ K (.slice (some (if cap = x.toNat then ⟨b, o, none⟩ else ⟨b, o + x.toNat * 2, none⟩)) (len - x.toNat) (cap - x.toNat)) w) := op_cut_lo (e := 223) (by kernel_rfl)
@[simp] theorem op_cuthi_224 {len cap b o : Nat} {k : IntKind} {x : Int} : nP.op (.slice 224 (.slice (some ⟨b, o, none⟩) len cap) none (some (.int k x)) none) w K Kp = ((0 ≤ x ∧ x ≤ (cap : Int)) ∧ K (.slice (some ⟨b, o, none⟩) x.toNat cap) w) := op_cut_hi (s := 2) (e := 223) (by kernel_rfl)
@[simp] theorem pur_cutlo_224 {len cap b o : Nat} {k : IntKind} {x : Int} : nP.pur (.slice 224 (.slice (some ⟨b, o, none⟩) len cap) (some (.int k x)) none none) K1 = ((0 ≤ x ∧ x ≤ (len : Int) ∧ (len : Int) ≤ (cap : Int)) ∧ K1 (.slice (some (if cap = x.toNat then ⟨b, o, none⟩ else ⟨b, o + x.toNat * 2, none⟩)) (len - x.toNat) (cap - x.toNat))) := pur_cut_lo (e := 223) (by kernel_rfl)
@[simp] theorem pur_cuthi_224 {len cap b o : Nat} {k : IntKind} {x : Int} : nP.pur (.slice 224 (.slice (some ⟨b, o, none⟩) len cap) none (some (.int k x)) none) K1 = ((0 ≤ x ∧ x ≤ (cap : Int)) ∧ K1 (.slice (some ⟨b, o, none⟩) x.toNat cap)) := pur_cut_hi (s := 2) (e := 223) (by kernel_rfl)
@[simp] theorem op_cutmx_224 {len cap b o : Nat} {k k' : IntKind} {x y : Int} : nP.op (.slice 224 (.slice (some ⟨b, o, none⟩) len cap) none (some (.int k x)) (some (.int k' y))) w K Kp = ((0 ≤ x ∧ x ≤ y ∧ y ≤ (cap : Int)) ∧ K (.slice (some ⟨b, o, none⟩) x.toNat y.toNat) w) := op_cut_mx (s := 2) (e := 223) (by kernel_rfl)
@[simp] theorem pur_cutmx_224 {len cap b o : Nat} {k k' : IntKind} {x y : Int} : nP.pur (.slice 224 (.slice (some ⟨b, o, none⟩) len cap) none (some (.int k x)) (some (.int k' y))) K1 = ((0 ≤ x ∧ x ≤ y ∧ y ≤ (cap : Int)) ∧ K1 (.slice (some ⟨b, o, none⟩) x.toNat y.toNat)) := pur_cut_mx (s := 2) (e := 223) (by kernel_rfl)
theorem build_223_  : buildV Tryz.prog 223 [] = some (.agg (#[Value.int IntKind.i64 0, Value.int IntKind.i64 0])) := by
  have e : buildV Tryz.prog 223 [] = (Instr.fill ((#[(0, 1), (1, 1)] : Array (Nat × Nat))[·]?) (#[Value.int IntKind.i64 0, Value.int IntKind.i64 0]) []).map .agg := by kernel_rfl
  rw [e]; simp [Instr.fill]
@[simp] theorem op_build_223_  : nP.op (.build 223 []) w K Kp = K (.agg (#[Value.int IntKind.i64 0, Value.int IntKind.i64 0])) w := op_build (build_223_)
@[simp] theorem pur_build_223_  : nP.pur (.build 223 []) K1 = K1 (.agg (#[Value.int IntKind.i64 0, Value.int IntKind.i64 0])) := pur_build (build_223_)
theorem build_226_0 {x0 : Value} (h0 : x0.oneCell' = true) : buildV Tryz.prog 226 [(0, x0)] = some (.agg (#[x0])) := by
  have e : buildV Tryz.prog 226 [(0, x0)] = (Instr.fill ((#[(0, 1)] : Array (Nat × Nat))[·]?) (#[Value.slice none 0 0]) [(0, x0)]).map .agg := by kernel_rfl
  rw [e]; simp [Instr.fill, cells_of_one h0]
@[simp] theorem op_build_226_0 {x0 : Value} (h0 : x0.oneCell' = true) : nP.op (.build 226 [(0, x0)]) w K Kp = K (.agg (#[x0])) w := op_build (build_226_0 h0)
@[simp] theorem pur_build_226_0 {x0 : Value} (h0 : x0.oneCell' = true) : nP.pur (.build 226 [(0, x0)]) K1 = K1 (.agg (#[x0])) := pur_build (build_226_0 h0)
@[simp] theorem op_fa_223_1 {p : Addr} : nP.op (.fieldAddr 223 (.pointer (some p)) 1) w K Kp = K (.pointer (some (p.add 1))) w := op_fa (k := .one) (by kernel_rfl)
@[simp] theorem pur_fa_223_1 {p : Addr} : nP.pur (.fieldAddr 223 (.pointer (some p)) 1) K1 = K1 (.pointer (some (p.add 1))) := pur_fa (k := .one) (by kernel_rfl)
@[simp] theorem op_ld_220 {p : Addr} : nP.op (.load 220 (.pointer (some p))) w K Kp = ∃ cs e fz, w.heap[p.block]? = some (.cells cs e fz) ∧ p.spot = none ∧ ∃ v, cs[p.off]? = some v ∧ K v w := op_ld (by kernel_rfl)
@[simp] theorem ld_ld_220 {p : Addr} : nP.ld (.load 220 (.pointer (some p))) w K1 = ∃ cs e fz, w.heap[p.block]? = some (.cells cs e fz) ∧ p.spot = none ∧ ∃ v, cs[p.off]? = some v ∧ K1 v := ld_ld (by kernel_rfl)
@[simp] theorem same_ld_220 {p : Addr} {v : Value} : nP.same (.load 220 (.pointer (some p))) v w = ∃ cs e fz, w.heap[p.block]? = some (.cells cs e fz) ∧ p.spot = none ∧ cs[p.off]? = some v := same_ld (by kernel_rfl)
@[simp] theorem call_241 {args : List Value} : nP.call (.fn 241) args w K Kp = Calls Tryz.prog 241 args.toArray w (ret K Kp) := call_fn (by kernel_rfl)
theorem lit_224_1 {y0_0 y0_1 : Value} : sliceLit Tryz.prog 224 1 [(0, .agg #[y0_0, y0_1])] = some (223, #[y0_0, y0_1]) := by
  have e : sliceLit Tryz.prog 224 1 [(0, .agg #[y0_0, y0_1])] = (Instr.fill (fun i => some (i * 2, 2)) (#[Value.int IntKind.i64 0, Value.int IntKind.i64 0]) [(0, .agg #[y0_0, y0_1])]).map fun cs => (223, cs) := by kernel_rfl
  rw [e]; simp [Instr.fill, Value.cells]
@[simp] theorem op_lit_224_1 {y0_0 y0_1 : Value} : nP.op (.buildSlice 224 1 [(0, .agg #[y0_0, y0_1])]) w K Kp = K (.slice (some ⟨w.heap.size, 0, none⟩) 1 1) (w.alloc (.cells #[y0_0, y0_1] 223)) := op_lit (lit_224_1)
theorem build_223_0_1 {x0 : Value} {x1 : Value} (h0 : x0.oneCell' = true) (h1 : x1.oneCell' = true) : buildV Tryz.prog 223 [(0, x0), (1, x1)] = some (.agg (#[x0, x1])) := by
  have e : buildV Tryz.prog 223 [(0, x0), (1, x1)] = (Instr.fill ((#[(0, 1), (1, 1)] : Array (Nat × Nat))[·]?) (#[Value.int IntKind.i64 0, Value.int IntKind.i64 0]) [(0, x0), (1, x1)]).map .agg := by kernel_rfl
  rw [e]; simp [Instr.fill, cells_of_one h0, cells_of_one h1]
@[simp] theorem op_build_223_0_1 {x0 : Value} {x1 : Value} (h0 : x0.oneCell' = true) (h1 : x1.oneCell' = true) : nP.op (.build 223 [(0, x0), (1, x1)]) w K Kp = K (.agg (#[x0, x1])) w := op_build (build_223_0_1 h0 h1)
@[simp] theorem pur_build_223_0_1 {x0 : Value} {x1 : Value} (h0 : x0.oneCell' = true) (h1 : x1.oneCell' = true) : nP.pur (.build 223 [(0, x0), (1, x1)]) K1 = K1 (.agg (#[x0, x1])) := pur_build (build_223_0_1 h0 h1)
@[simp] theorem op_ld_101 {p : Addr} : nP.op (.load 101 (.pointer (some p))) w K Kp = ∃ cs e fz, w.heap[p.block]? = some (.cells cs e fz) ∧ p.spot = none ∧ ∃ v, cs[p.off]? = some v ∧ K v w := op_ld (by kernel_rfl)
@[simp] theorem ld_ld_101 {p : Addr} : nP.ld (.load 101 (.pointer (some p))) w K1 = ∃ cs e fz, w.heap[p.block]? = some (.cells cs e fz) ∧ p.spot = none ∧ ∃ v, cs[p.off]? = some v ∧ K1 v := ld_ld (by kernel_rfl)
@[simp] theorem same_ld_101 {p : Addr} {v : Value} : nP.same (.load 101 (.pointer (some p))) v w = ∃ cs e fz, w.heap[p.block]? = some (.cells cs e fz) ∧ p.spot = none ∧ cs[p.off]? = some v := same_ld (by kernel_rfl)
@[simp] theorem call_259 {args : List Value} : nP.call (.fn 259) args w K Kp = Calls Tryz.prog 259 args.toArray w (ret K Kp) := call_fn (by kernel_rfl)
@[simp] theorem op_fa_284_0 {p : Addr} : nP.op (.fieldAddr 284 (.pointer (some p)) 0) w K Kp = K (.pointer (some (p.add 0))) w := op_fa (k := .one) (by kernel_rfl)
@[simp] theorem pur_fa_284_0 {p : Addr} : nP.pur (.fieldAddr 284 (.pointer (some p)) 0) K1 = K1 (.pointer (some (p.add 0))) := pur_fa (k := .one) (by kernel_rfl)
@[simp] theorem op_ld_282 {p : Addr} : nP.op (.load 282 (.pointer (some p))) w K Kp = ∃ cs e fz, w.heap[p.block]? = some (.cells cs e fz) ∧ p.spot = none ∧ ∃ v, cs[p.off]? = some v ∧ K v w := op_ld (by kernel_rfl)
@[simp] theorem ld_ld_282 {p : Addr} : nP.ld (.load 282 (.pointer (some p))) w K1 = ∃ cs e fz, w.heap[p.block]? = some (.cells cs e fz) ∧ p.spot = none ∧ ∃ v, cs[p.off]? = some v ∧ K1 v := ld_ld (by kernel_rfl)
@[simp] theorem same_ld_282 {p : Addr} {v : Value} : nP.same (.load 282 (.pointer (some p))) v w = ∃ cs e fz, w.heap[p.block]? = some (.cells cs e fz) ∧ p.spot = none ∧ cs[p.off]? = some v := same_ld (by kernel_rfl)
@[simp] theorem op_ix_282 {p : Addr} {len cap : Nat} {k : IntKind} {j : Int} : nP.op (.indexAddr 282 (.slice (some p) len cap) (.int k j)) w K Kp = ((0 ≤ j ∧ j < (len : Int)) ∧ K (.pointer (some (p.add (j.toNat * 2)))) w) := op_ix_slice (e := 286) (by kernel_rfl)
@[simp] theorem pur_ix_282 {p : Addr} {len cap : Nat} {k : IntKind} {j : Int} : nP.pur (.indexAddr 282 (.slice (some p) len cap) (.int k j)) K1 = ((0 ≤ j ∧ j < (len : Int)) ∧ K1 (.pointer (some (p.add (j.toNat * 2))))) := pur_ix_slice (e := 286) (by kernel_rfl)
@[simp] theorem op_fa_286_1 {p : Addr} : nP.op (.fieldAddr 286 (.pointer (some p)) 1) w K Kp = K (.pointer (some (p.add 1))) w := op_fa (k := .one) (by kernel_rfl)
@[simp] theorem pur_fa_286_1 {p : Addr} : nP.pur (.fieldAddr 286 (.pointer (some p)) 1) K1 = K1 (.pointer (some (p.add 1))) := pur_fa (k := .one) (by kernel_rfl)
@[simp] theorem op_ld_208 {p : Addr} : nP.op (.load 208 (.pointer (some p))) w K Kp = ∃ cs e fz, w.heap[p.block]? = some (.cells cs e fz) ∧ p.spot = none ∧ ∃ v, cs[p.off]? = some v ∧ K v w := op_ld (by kernel_rfl)
@[simp] theorem ld_ld_208 {p : Addr} : nP.ld (.load 208 (.pointer (some p))) w K1 = ∃ cs e fz, w.heap[p.block]? = some (.cells cs e fz) ∧ p.spot = none ∧ ∃ v, cs[p.off]? = some v ∧ K1 v := ld_ld (by kernel_rfl)
@[simp] theorem same_ld_208 {p : Addr} {v : Value} : nP.same (.load 208 (.pointer (some p))) v w = ∃ cs e fz, w.heap[p.block]? = some (.cells cs e fz) ∧ p.spot = none ∧ cs[p.off]? = some v := same_ld (by kernel_rfl)
@[simp] theorem inv_118_142 {v : Value} {args : List Value} : nP.call (.inv (.iface 118 v) "pub-bracken/pub/immutable.delete") args w K Kp = Calls Tryz.prog 142 (v :: args).toArray w (ret K Kp) := call_inv (fun _ => by kernel_rfl) (by kernel_rfl)
@[simp] theorem inv_135_147 {v : Value} {args : List Value} : nP.call (.inv (.iface 135 v) "pub-bracken/pub/immutable.delete") args w K Kp = Calls Tryz.prog 147 (v :: args).toArray w (ret K Kp) := call_inv (fun _ => by kernel_rfl) (by kernel_rfl)
@[simp] theorem inv_162_195 {v : Value} {args : List Value} : nP.call (.inv (.iface 162 v) "pub-bracken/pub/immutable.delete") args w K Kp = Calls Tryz.prog 195 (v :: args).toArray w (ret K Kp) := call_inv (fun _ => by kernel_rfl) (by kernel_rfl)
@[simp] theorem inv_175_201 {v : Value} {args : List Value} : nP.call (.inv (.iface 175 v) "pub-bracken/pub/immutable.delete") args w K Kp = Calls Tryz.prog 201 (v :: args).toArray w (ret K Kp) := call_inv (fun _ => by kernel_rfl) (by kernel_rfl)
@[simp] theorem inv_200_233 {v : Value} {args : List Value} : nP.call (.inv (.iface 200 v) "pub-bracken/pub/immutable.delete") args w K Kp = Calls Tryz.prog 233 (v :: args).toArray w (ret K Kp) := call_inv (fun _ => by kernel_rfl) (by kernel_rfl)
@[simp] theorem inv_220_245 {v : Value} {args : List Value} : nP.call (.inv (.iface 220 v) "pub-bracken/pub/immutable.delete") args w K Kp = Calls Tryz.prog 245 (v :: args).toArray w (ret K Kp) := call_inv (fun _ => by kernel_rfl) (by kernel_rfl)
@[simp] theorem inv_262_251 {v : Value} {args : List Value} : nP.call (.inv (.iface 262 v) "pub-bracken/pub/immutable.delete") args w K Kp = Calls Tryz.prog 251 (v :: args).toArray w (ret K Kp) := call_inv (fun _ => by kernel_rfl) (by kernel_rfl)
@[simp] theorem inv_279_257 {v : Value} {args : List Value} : nP.call (.inv (.iface 279 v) "pub-bracken/pub/immutable.delete") args w K Kp = Calls Tryz.prog 257 (v :: args).toArray w (ret K Kp) := call_inv (fun _ => by kernel_rfl) (by kernel_rfl)
@[simp] theorem inv_292_263 {v : Value} {args : List Value} : nP.call (.inv (.iface 292 v) "pub-bracken/pub/immutable.delete") args w K Kp = Calls Tryz.prog 263 (v :: args).toArray w (ret K Kp) := call_inv (fun _ => by kernel_rfl) (by kernel_rfl)
@[simp] theorem inv_300_269 {v : Value} {args : List Value} : nP.call (.inv (.iface 300 v) "pub-bracken/pub/immutable.delete") args w K Kp = Calls Tryz.prog 269 (v :: args).toArray w (ret K Kp) := call_inv (fun _ => by kernel_rfl) (by kernel_rfl)
@[simp] theorem inv_316_275 {v : Value} {args : List Value} : nP.call (.inv (.iface 316 v) "pub-bracken/pub/immutable.delete") args w K Kp = Calls Tryz.prog 275 (v :: args).toArray w (ret K Kp) := call_inv (fun _ => by kernel_rfl) (by kernel_rfl)
@[simp] theorem inv_324_281 {v : Value} {args : List Value} : nP.call (.inv (.iface 324 v) "pub-bracken/pub/immutable.delete") args w K Kp = Calls Tryz.prog 281 (v :: args).toArray w (ret K Kp) := call_inv (fun _ => by kernel_rfl) (by kernel_rfl)
@[simp] theorem op_mki_279 {v : Value} : nP.op (.mkIface 279 v) w K Kp = K (.iface 279 v) w := op_mkIface (by kernel_rfl) (by kernel_rfl)
@[simp] theorem pur_mki_279 {v : Value} : nP.pur (.mkIface 279 v) K1 = K1 (.iface 279 v) := pur_mkIface (by kernel_rfl) (by kernel_rfl)
@[simp] theorem op_eql_208_y {xc yc : Bool} {u : TypeId} {v : Value} : nP.op (.bin BinOp.eql 208 xc yc (.iface u v) .nilIface) w K Kp = K (.bool false) w := op_eq_iface (by kernel_rfl) rfl
@[simp] theorem op_eql_208_n {xc : Bool} : nP.op (.bin BinOp.eql 208 xc true .nilIface .nilIface) w K Kp = K (.bool true) w := op_eq_niface (by kernel_rfl) rfl
@[simp] theorem pur_eql_208_y {xc yc : Bool} {u : TypeId} {v : Value} : nP.pur (.bin BinOp.eql 208 xc yc (.iface u v) .nilIface) K1 = K1 (.bool false) := pur_eq_iface (by kernel_rfl) rfl
@[simp] theorem pur_eql_208_n {xc : Bool} : nP.pur (.bin BinOp.eql 208 xc true .nilIface .nilIface) K1 = K1 (.bool true) := pur_eq_niface (by kernel_rfl) rfl
@[simp] theorem op_len_282 {a : Option Addr} {n c ty : Nat} : nP.op (.blt .len [282] ty [.slice a n c]) w K Kp = K (.int .i64 n) w := op_len_slice (by kernel_rfl)
@[simp] theorem pur_len_282 {a : Option Addr} {n c ty : Nat} : nP.pur (.blt .len [282] ty [.slice a n c]) K1 = K1 (.int .i64 n) := pur_len_slice (by kernel_rfl)
@[simp] theorem ld_len_282 {a : Option Addr} {n c ty : Nat} : nP.ld (.blt .len [282] ty [.slice a n c]) w K1 = K1 (.int .i64 n) := ld_len_slice (by kernel_rfl)
@[simp] theorem same_len_282 {a : Option Addr} {n c ty : Nat} {u : Value} : nP.same (.blt .len [282] ty [.slice a n c]) u w = (.int .i64 n = u) := same_len_slice (by kernel_rfl)
@[simp] theorem op_cutlo_282 {len cap b o : Nat} {k : IntKind} {x : Int} : nP.op (.slice 282 (.slice (some ⟨b, o, none⟩) len cap) (some (.int k x)) none none) w K Kp = ((0 ≤ x ∧ x ≤ (len : Int) ∧ (len : Int) ≤ (cap : Int)) ∧ K (.slice (some (if cap = x.toNat then ⟨b, o, none⟩ else ⟨b, o + x.toNat * 2, none⟩)) (len - x.toNat) (cap - x.toNat)) w) := op_cut_lo (e := 286) (by kernel_rfl)
@[simp] theorem op_cuthi_282 {len cap b o : Nat} {k : IntKind} {x : Int} : nP.op (.slice 282 (.slice (some ⟨b, o, none⟩) len cap) none (some (.int k x)) none) w K Kp = ((0 ≤ x ∧ x ≤ (cap : Int)) ∧ K (.slice (some ⟨b, o, none⟩) x.toNat cap) w) := op_cut_hi (s := 2) (e := 286) (by kernel_rfl)
@[simp] theorem pur_cutlo_282 {len cap b o : Nat} {k : IntKind} {x : Int} : nP.pur (.slice 282 (.slice (some ⟨b, o, none⟩) len cap) (some (.int k x)) none none) K1 = ((0 ≤ x ∧ x ≤ (len : Int) ∧ (len : Int) ≤ (cap : Int)) ∧ K1 (.slice (some (if cap = x.toNat then ⟨b, o, none⟩ else ⟨b, o + x.toNat * 2, none⟩)) (len - x.toNat) (cap - x.toNat))) := pur_cut_lo (e := 286) (by kernel_rfl)
@[simp] theorem pur_cuthi_282 {len cap b o : Nat} {k : IntKind} {x : Int} : nP.pur (.slice 282 (.slice (some ⟨b, o, none⟩) len cap) none (some (.int k x)) none) K1 = ((0 ≤ x ∧ x ≤ (cap : Int)) ∧ K1 (.slice (some ⟨b, o, none⟩) x.toNat cap)) := pur_cut_hi (s := 2) (e := 286) (by kernel_rfl)
@[simp] theorem op_cutmx_282 {len cap b o : Nat} {k k' : IntKind} {x y : Int} : nP.op (.slice 282 (.slice (some ⟨b, o, none⟩) len cap) none (some (.int k x)) (some (.int k' y))) w K Kp = ((0 ≤ x ∧ x ≤ y ∧ y ≤ (cap : Int)) ∧ K (.slice (some ⟨b, o, none⟩) x.toNat y.toNat) w) := op_cut_mx (s := 2) (e := 286) (by kernel_rfl)
@[simp] theorem pur_cutmx_282 {len cap b o : Nat} {k k' : IntKind} {x y : Int} : nP.pur (.slice 282 (.slice (some ⟨b, o, none⟩) len cap) none (some (.int k x)) (some (.int k' y))) K1 = ((0 ≤ x ∧ x ≤ y ∧ y ≤ (cap : Int)) ∧ K1 (.slice (some ⟨b, o, none⟩) x.toNat y.toNat)) := pur_cut_mx (s := 2) (e := 286) (by kernel_rfl)
theorem build_286_  : buildV Tryz.prog 286 [] = some (.agg (#[Value.int IntKind.i64 0, Value.nilIface])) := by
  have e : buildV Tryz.prog 286 [] = (Instr.fill ((#[(0, 1), (1, 1)] : Array (Nat × Nat))[·]?) (#[Value.int IntKind.i64 0, Value.nilIface]) []).map .agg := by kernel_rfl
  rw [e]; simp [Instr.fill]
@[simp] theorem op_build_286_  : nP.op (.build 286 []) w K Kp = K (.agg (#[Value.int IntKind.i64 0, Value.nilIface])) w := op_build (build_286_)
@[simp] theorem pur_build_286_  : nP.pur (.build 286 []) K1 = K1 (.agg (#[Value.int IntKind.i64 0, Value.nilIface])) := pur_build (build_286_)
theorem build_284_0 {x0 : Value} (h0 : x0.oneCell' = true) : buildV Tryz.prog 284 [(0, x0)] = some (.agg (#[x0])) := by
  have e : buildV Tryz.prog 284 [(0, x0)] = (Instr.fill ((#[(0, 1)] : Array (Nat × Nat))[·]?) (#[Value.slice none 0 0]) [(0, x0)]).map .agg := by kernel_rfl
  rw [e]; simp [Instr.fill, cells_of_one h0]
@[simp] theorem op_build_284_0 {x0 : Value} (h0 : x0.oneCell' = true) : nP.op (.build 284 [(0, x0)]) w K Kp = K (.agg (#[x0])) w := op_build (build_284_0 h0)
@[simp] theorem pur_build_284_0 {x0 : Value} (h0 : x0.oneCell' = true) : nP.pur (.build 284 [(0, x0)]) K1 = K1 (.agg (#[x0])) := pur_build (build_284_0 h0)
@[simp] theorem inv_200_236 {v : Value} {args : List Value} : nP.call (.inv (.iface 200 v) "pub-bracken/pub/immutable.minKey") args w K Kp = Calls Tryz.prog 236 (v :: args).toArray w (ret K Kp) := call_inv (fun _ => by kernel_rfl) (by kernel_rfl)
@[simp] theorem inv_220_248 {v : Value} {args : List Value} : nP.call (.inv (.iface 220 v) "pub-bracken/pub/immutable.minKey") args w K Kp = Calls Tryz.prog 248 (v :: args).toArray w (ret K Kp) := call_inv (fun _ => by kernel_rfl) (by kernel_rfl)
@[simp] theorem inv_262_254 {v : Value} {args : List Value} : nP.call (.inv (.iface 262 v) "pub-bracken/pub/immutable.minKey") args w K Kp = Calls Tryz.prog 254 (v :: args).toArray w (ret K Kp) := call_inv (fun _ => by kernel_rfl) (by kernel_rfl)
@[simp] theorem inv_279_260 {v : Value} {args : List Value} : nP.call (.inv (.iface 279 v) "pub-bracken/pub/immutable.minKey") args w K Kp = Calls Tryz.prog 260 (v :: args).toArray w (ret K Kp) := call_inv (fun _ => by kernel_rfl) (by kernel_rfl)
@[simp] theorem inv_292_266 {v : Value} {args : List Value} : nP.call (.inv (.iface 292 v) "pub-bracken/pub/immutable.minKey") args w K Kp = Calls Tryz.prog 266 (v :: args).toArray w (ret K Kp) := call_inv (fun _ => by kernel_rfl) (by kernel_rfl)
@[simp] theorem inv_300_272 {v : Value} {args : List Value} : nP.call (.inv (.iface 300 v) "pub-bracken/pub/immutable.minKey") args w K Kp = Calls Tryz.prog 272 (v :: args).toArray w (ret K Kp) := call_inv (fun _ => by kernel_rfl) (by kernel_rfl)
@[simp] theorem inv_316_278 {v : Value} {args : List Value} : nP.call (.inv (.iface 316 v) "pub-bracken/pub/immutable.minKey") args w K Kp = Calls Tryz.prog 278 (v :: args).toArray w (ret K Kp) := call_inv (fun _ => by kernel_rfl) (by kernel_rfl)
@[simp] theorem inv_324_284 {v : Value} {args : List Value} : nP.call (.inv (.iface 324 v) "pub-bracken/pub/immutable.minKey") args w K Kp = Calls Tryz.prog 284 (v :: args).toArray w (ret K Kp) := call_inv (fun _ => by kernel_rfl) (by kernel_rfl)
theorem build_286_0_1 {x0 : Value} {x1 : Value} (h0 : x0.oneCell' = true) (h1 : x1.oneCell' = true) : buildV Tryz.prog 286 [(0, x0), (1, x1)] = some (.agg (#[x0, x1])) := by
  have e : buildV Tryz.prog 286 [(0, x0), (1, x1)] = (Instr.fill ((#[(0, 1), (1, 1)] : Array (Nat × Nat))[·]?) (#[Value.int IntKind.i64 0, Value.nilIface]) [(0, x0), (1, x1)]).map .agg := by kernel_rfl
  rw [e]; simp [Instr.fill, cells_of_one h0, cells_of_one h1]
@[simp] theorem op_build_286_0_1 {x0 : Value} {x1 : Value} (h0 : x0.oneCell' = true) (h1 : x1.oneCell' = true) : nP.op (.build 286 [(0, x0), (1, x1)]) w K Kp = K (.agg (#[x0, x1])) w := op_build (build_286_0_1 h0 h1)
@[simp] theorem pur_build_286_0_1 {x0 : Value} {x1 : Value} (h0 : x0.oneCell' = true) (h1 : x1.oneCell' = true) : nP.pur (.build 286 [(0, x0), (1, x1)]) K1 = K1 (.agg (#[x0, x1])) := pur_build (build_286_0_1 h0 h1)
@[simp] theorem inv_200_234 {v : Value} {args : List Value} : nP.call (.inv (.iface 200 v) "pub-bracken/pub/immutable.get") args w K Kp = Calls Tryz.prog 234 (v :: args).toArray w (ret K Kp) := call_inv (fun _ => by kernel_rfl) (by kernel_rfl)
@[simp] theorem inv_220_246 {v : Value} {args : List Value} : nP.call (.inv (.iface 220 v) "pub-bracken/pub/immutable.get") args w K Kp = Calls Tryz.prog 246 (v :: args).toArray w (ret K Kp) := call_inv (fun _ => by kernel_rfl) (by kernel_rfl)
@[simp] theorem inv_262_252 {v : Value} {args : List Value} : nP.call (.inv (.iface 262 v) "pub-bracken/pub/immutable.get") args w K Kp = Calls Tryz.prog 252 (v :: args).toArray w (ret K Kp) := call_inv (fun _ => by kernel_rfl) (by kernel_rfl)
@[simp] theorem inv_279_258 {v : Value} {args : List Value} : nP.call (.inv (.iface 279 v) "pub-bracken/pub/immutable.get") args w K Kp = Calls Tryz.prog 258 (v :: args).toArray w (ret K Kp) := call_inv (fun _ => by kernel_rfl) (by kernel_rfl)
@[simp] theorem inv_292_264 {v : Value} {args : List Value} : nP.call (.inv (.iface 292 v) "pub-bracken/pub/immutable.get") args w K Kp = Calls Tryz.prog 264 (v :: args).toArray w (ret K Kp) := call_inv (fun _ => by kernel_rfl) (by kernel_rfl)
@[simp] theorem inv_300_270 {v : Value} {args : List Value} : nP.call (.inv (.iface 300 v) "pub-bracken/pub/immutable.get") args w K Kp = Calls Tryz.prog 270 (v :: args).toArray w (ret K Kp) := call_inv (fun _ => by kernel_rfl) (by kernel_rfl)
@[simp] theorem inv_316_276 {v : Value} {args : List Value} : nP.call (.inv (.iface 316 v) "pub-bracken/pub/immutable.get") args w K Kp = Calls Tryz.prog 276 (v :: args).toArray w (ret K Kp) := call_inv (fun _ => by kernel_rfl) (by kernel_rfl)
@[simp] theorem inv_324_282 {v : Value} {args : List Value} : nP.call (.inv (.iface 324 v) "pub-bracken/pub/immutable.get") args w K Kp = Calls Tryz.prog 282 (v :: args).toArray w (ret K Kp) := call_inv (fun _ => by kernel_rfl) (by kernel_rfl)
@[simp] theorem op_ld_279 {p : Addr} : nP.op (.load 279 (.pointer (some p))) w K Kp = ∃ cs e fz, w.heap[p.block]? = some (.cells cs e fz) ∧ p.spot = none ∧ ∃ v, cs[p.off]? = some v ∧ K v w := op_ld (by kernel_rfl)
@[simp] theorem ld_ld_279 {p : Addr} : nP.ld (.load 279 (.pointer (some p))) w K1 = ∃ cs e fz, w.heap[p.block]? = some (.cells cs e fz) ∧ p.spot = none ∧ ∃ v, cs[p.off]? = some v ∧ K1 v := ld_ld (by kernel_rfl)
@[simp] theorem same_ld_279 {p : Addr} {v : Value} : nP.same (.load 279 (.pointer (some p))) v w = ∃ cs e fz, w.heap[p.block]? = some (.cells cs e fz) ∧ p.spot = none ∧ cs[p.off]? = some v := same_ld (by kernel_rfl)
@[simp] theorem inv_118_141 {v : Value} {args : List Value} : nP.call (.inv (.iface 118 v) "pub-bracken/pub/immutable.set") args w K Kp = Calls Tryz.prog 141 (v :: args).toArray w (ret K Kp) := call_inv (fun _ => by kernel_rfl) (by kernel_rfl)
@[simp] theorem inv_135_146 {v : Value} {args : List Value} : nP.call (.inv (.iface 135 v) "pub-bracken/pub/immutable.set") args w K Kp = Calls Tryz.prog 146 (v :: args).toArray w (ret K Kp) := call_inv (fun _ => by kernel_rfl) (by kernel_rfl)
@[simp] theorem inv_162_152 {v : Value} {args : List Value} : nP.call (.inv (.iface 162 v) "pub-bracken/pub/immutable.set") args w K Kp = Calls Tryz.prog 152 (v :: args).toArray w (ret K Kp) := call_inv (fun _ => by kernel_rfl) (by kernel_rfl)
@[simp] theorem inv_175_163 {v : Value} {args : List Value} : nP.call (.inv (.iface 175 v) "pub-bracken/pub/immutable.set") args w K Kp = Calls Tryz.prog 163 (v :: args).toArray w (ret K Kp) := call_inv (fun _ => by kernel_rfl) (by kernel_rfl)
@[simp] theorem inv_200_237 {v : Value} {args : List Value} : nP.call (.inv (.iface 200 v) "pub-bracken/pub/immutable.set") args w K Kp = Calls Tryz.prog 237 (v :: args).toArray w (ret K Kp) := call_inv (fun _ => by kernel_rfl) (by kernel_rfl)
@[simp] theorem inv_220_249 {v : Value} {args : List Value} : nP.call (.inv (.iface 220 v) "pub-bracken/pub/immutable.set") args w K Kp = Calls Tryz.prog 249 (v :: args).toArray w (ret K Kp) := call_inv (fun _ => by kernel_rfl) (by kernel_rfl)
@[simp] theorem inv_262_255 {v : Value} {args : List Value} : nP.call (.inv (.iface 262 v) "pub-bracken/pub/immutable.set") args w K Kp = Calls Tryz.prog 255 (v :: args).toArray w (ret K Kp) := call_inv (fun _ => by kernel_rfl) (by kernel_rfl)
@[simp] theorem inv_279_261 {v : Value} {args : List Value} : nP.call (.inv (.iface 279 v) "pub-bracken/pub/immutable.set") args w K Kp = Calls Tryz.prog 261 (v :: args).toArray w (ret K Kp) := call_inv (fun _ => by kernel_rfl) (by kernel_rfl)
@[simp] theorem inv_292_267 {v : Value} {args : List Value} : nP.call (.inv (.iface 292 v) "pub-bracken/pub/immutable.set") args w K Kp = Calls Tryz.prog 267 (v :: args).toArray w (ret K Kp) := call_inv (fun _ => by kernel_rfl) (by kernel_rfl)
@[simp] theorem inv_300_273 {v : Value} {args : List Value} : nP.call (.inv (.iface 300 v) "pub-bracken/pub/immutable.set") args w K Kp = Calls Tryz.prog 273 (v :: args).toArray w (ret K Kp) := call_inv (fun _ => by kernel_rfl) (by kernel_rfl)
@[simp] theorem inv_316_279 {v : Value} {args : List Value} : nP.call (.inv (.iface 316 v) "pub-bracken/pub/immutable.set") args w K Kp = Calls Tryz.prog 279 (v :: args).toArray w (ret K Kp) := call_inv (fun _ => by kernel_rfl) (by kernel_rfl)
@[simp] theorem inv_324_285 {v : Value} {args : List Value} : nP.call (.inv (.iface 324 v) "pub-bracken/pub/immutable.set") args w K Kp = Calls Tryz.prog 285 (v :: args).toArray w (ret K Kp) := call_inv (fun _ => by kernel_rfl) (by kernel_rfl)
@[simp] theorem op_neq_208_y {xc yc : Bool} {u : TypeId} {v : Value} : nP.op (.bin BinOp.neq 208 xc yc (.iface u v) .nilIface) w K Kp = K (.bool true) w := op_eq_iface (by kernel_rfl) rfl
@[simp] theorem op_neq_208_n {xc : Bool} : nP.op (.bin BinOp.neq 208 xc true .nilIface .nilIface) w K Kp = K (.bool false) w := op_eq_niface (by kernel_rfl) rfl
@[simp] theorem pur_neq_208_y {xc yc : Bool} {u : TypeId} {v : Value} : nP.pur (.bin BinOp.neq 208 xc yc (.iface u v) .nilIface) K1 = K1 (.bool true) := pur_eq_iface (by kernel_rfl) rfl
@[simp] theorem pur_neq_208_n {xc : Bool} : nP.pur (.bin BinOp.neq 208 xc true .nilIface .nilIface) K1 = K1 (.bool false) := pur_eq_niface (by kernel_rfl) rfl
theorem lit_282_1 {y0_0 y0_1 : Value} : sliceLit Tryz.prog 282 1 [(0, .agg #[y0_0, y0_1])] = some (286, #[y0_0, y0_1]) := by
  have e : sliceLit Tryz.prog 282 1 [(0, .agg #[y0_0, y0_1])] = (Instr.fill (fun i => some (i * 2, 2)) (#[Value.int IntKind.i64 0, Value.nilIface]) [(0, .agg #[y0_0, y0_1])]).map fun cs => (286, cs) := by kernel_rfl
  rw [e]; simp [Instr.fill, Value.cells]
@[simp] theorem op_lit_282_1 {y0_0 y0_1 : Value} : nP.op (.buildSlice 282 1 [(0, .agg #[y0_0, y0_1])]) w K Kp = K (.slice (some ⟨w.heap.size, 0, none⟩) 1 1) (w.alloc (.cells #[y0_0, y0_1] 286)) := op_lit (lit_282_1)
@[simp] theorem op_alloc_284 : nP.op (.alloc 284) w K Kp = K (.pointer (some ⟨w.heap.size, 0, none⟩)) (w.alloc (.cells #[Value.slice none 0 0] 284)) := op_alloc (z := (.agg #[(Value.slice none 0 0)])) (by kernel_rfl)
@[simp] theorem op_fa_286_0 {p : Addr} : nP.op (.fieldAddr 286 (.pointer (some p)) 0) w K Kp = K (.pointer (some (p.add 0))) w := op_fa (k := .one) (by kernel_rfl)
@[simp] theorem pur_fa_286_0 {p : Addr} : nP.pur (.fieldAddr 286 (.pointer (some p)) 0) K1 = K1 (.pointer (some (p.add 0))) := pur_fa (k := .one) (by kernel_rfl)
@[simp] theorem op_len_353 {a : Option Addr} {n c ty : Nat} : nP.op (.blt .len [353] ty [.slice a n c]) w K Kp = K (.int .i64 n) w := op_len_slice (by kernel_rfl)
@[simp] theorem pur_len_353 {a : Option Addr} {n c ty : Nat} : nP.pur (.blt .len [353] ty [.slice a n c]) K1 = K1 (.int .i64 n) := pur_len_slice (by kernel_rfl)
@[simp] theorem ld_len_353 {a : Option Addr} {n c ty : Nat} : nP.ld (.blt .len [353] ty [.slice a n c]) w K1 = K1 (.int .i64 n) := ld_len_slice (by kernel_rfl)
@[simp] theorem same_len_353 {a : Option Addr} {n c ty : Nat} {u : Value} : nP.same (.blt .len [353] ty [.slice a n c]) u w = (.int .i64 n = u) := same_len_slice (by kernel_rfl)
@[simp] theorem op_ix_353 {p : Addr} {len cap : Nat} {k : IntKind} {j : Int} : nP.op (.indexAddr 353 (.slice (some p) len cap) (.int k j)) w K Kp = ((0 ≤ j ∧ j < (len : Int)) ∧ K (.pointer (some (p.add (j.toNat * 1)))) w) := op_ix_slice (e := 208) (by kernel_rfl)
@[simp] theorem pur_ix_353 {p : Addr} {len cap : Nat} {k : IntKind} {j : Int} : nP.pur (.indexAddr 353 (.slice (some p) len cap) (.int k j)) K1 = ((0 ≤ j ∧ j < (len : Int)) ∧ K1 (.pointer (some (p.add (j.toNat * 1))))) := pur_ix_slice (e := 208) (by kernel_rfl)
@[simp] theorem call_146 {args : List Value} : nP.call (.fn 146) args w K Kp = Calls Tryz.prog 146 args.toArray w (ret K Kp) := call_fn (by kernel_rfl)
@[simp] theorem op_fa_210_2 {p : Addr} : nP.op (.fieldAddr 210 (.pointer (some p)) 2) w K Kp = K (.pointer (some (p.add 2))) w := op_fa (k := .one) (by kernel_rfl)
@[simp] theorem pur_fa_210_2 {p : Addr} : nP.pur (.fieldAddr 210 (.pointer (some p)) 2) K1 = K1 (.pointer (some (p.add 2))) := pur_fa (k := .one) (by kernel_rfl)
@[simp] theorem op_eql_101_y {xc yc : Bool} {u : TypeId} {v : Value} : nP.op (.bin BinOp.eql 101 xc yc (.iface u v) .nilIface) w K Kp = K (.bool false) w := op_eq_iface (by kernel_rfl) rfl
@[simp] theorem op_eql_101_n {xc : Bool} : nP.op (.bin BinOp.eql 101 xc true .nilIface .nilIface) w K Kp = K (.bool true) w := op_eq_niface (by kernel_rfl) rfl
@[simp] theorem pur_eql_101_y {xc yc : Bool} {u : TypeId} {v : Value} : nP.pur (.bin BinOp.eql 101 xc yc (.iface u v) .nilIface) K1 = K1 (.bool false) := pur_eq_iface (by kernel_rfl) rfl
@[simp] theorem pur_eql_101_n {xc : Bool} : nP.pur (.bin BinOp.eql 101 xc true .nilIface .nilIface) K1 = K1 (.bool true) := pur_eq_niface (by kernel_rfl) rfl
@[simp] theorem call_190 {args : List Value} : nP.call (.fn 190) args w K Kp = Calls Tryz.prog 190 args.toArray w (ret K Kp) := call_fn (by kernel_rfl)
@[simp] theorem call_191 {args : List Value} : nP.call (.fn 191) args w K Kp = Calls Tryz.prog 191 args.toArray w (ret K Kp) := call_fn (by kernel_rfl)
@[simp] theorem op_fa_210_1 {p : Addr} : nP.op (.fieldAddr 210 (.pointer (some p)) 1) w K Kp = K (.pointer (some (p.add 1))) w := op_fa (k := .one) (by kernel_rfl)
@[simp] theorem pur_fa_210_1 {p : Addr} : nP.pur (.fieldAddr 210 (.pointer (some p)) 1) K1 = K1 (.pointer (some (p.add 1))) := pur_fa (k := .one) (by kernel_rfl)
@[simp] theorem op_fa_210_0 {p : Addr} : nP.op (.fieldAddr 210 (.pointer (some p)) 0) w K Kp = K (.pointer (some (p.add 0))) w := op_fa (k := .one) (by kernel_rfl)
@[simp] theorem pur_fa_210_0 {p : Addr} : nP.pur (.fieldAddr 210 (.pointer (some p)) 0) K1 = K1 (.pointer (some (p.add 0))) := pur_fa (k := .one) (by kernel_rfl)
@[simp] theorem op_ld_3 {p : Addr} : nP.op (.load 3 (.pointer (some p))) w K Kp = ∃ cs e fz, w.heap[p.block]? = some (.cells cs e fz) ∧ p.spot = none ∧ ∃ v, cs[p.off]? = some v ∧ K v w := op_ld (by kernel_rfl)
@[simp] theorem ld_ld_3 {p : Addr} : nP.ld (.load 3 (.pointer (some p))) w K1 = ∃ cs e fz, w.heap[p.block]? = some (.cells cs e fz) ∧ p.spot = none ∧ ∃ v, cs[p.off]? = some v ∧ K1 v := ld_ld (by kernel_rfl)
@[simp] theorem same_ld_3 {p : Addr} {v : Value} : nP.same (.load 3 (.pointer (some p))) v w = ∃ cs e fz, w.heap[p.block]? = some (.cells cs e fz) ∧ p.spot = none ∧ cs[p.off]? = some v := same_ld (by kernel_rfl)
theorem lit_353_2 {x0 x1 : Value} (h0 : x0.oneCell' = true) (h1 : x1.oneCell' = true) : sliceLit Tryz.prog 353 2 [(0, x0), (1, x1)] = some (208, #[x0, x1]) := by
  have e : sliceLit Tryz.prog 353 2 [(0, x0), (1, x1)] = (Instr.fill (fun i => some (i * 1, 1)) (#[Value.nilIface, Value.nilIface]) [(0, x0), (1, x1)]).map fun cs => (208, cs) := by kernel_rfl
  rw [e]; simp [Instr.fill, cells_of_one h0, cells_of_one h1]
@[simp] theorem call_192 {args : List Value} : nP.call (.fn 192) args w K Kp = Calls Tryz.prog 192 args.toArray w (ret K Kp) := call_fn (by kernel_rfl)
@[simp] theorem call_147 {args : List Value} : nP.call (.fn 147) args w K Kp = Calls Tryz.prog 147 args.toArray w (ret K Kp) := call_fn (by kernel_rfl)
@[simp] theorem op_ld_210 {p : Addr} : nP.op (.load 210 (.pointer (some p))) w K Kp = ∃ cs e fz, w.heap[p.block]? = some (.cells cs e fz) ∧ p.spot = none ∧ p.off + 3 ≤ cs.size ∧ K (.agg (cs.extract p.off (p.off + 3))) w := op_ldn (by kernel_rfl)
@[simp] theorem ld_ld_210 {p : Addr} : nP.ld (.load 210 (.pointer (some p))) w K1 = ∃ cs e fz, w.heap[p.block]? = some (.cells cs e fz) ∧ p.spot = none ∧ p.off + 3 ≤ cs.size ∧ K1 (.agg (cs.extract p.off (p.off + 3))) := ld_ldn (by kernel_rfl)
@[simp] theorem same_ld_210 {p : Addr} {v : Value} : nP.same (.load 210 (.pointer (some p))) v w = ∃ cs e fz, w.heap[p.block]? = some (.cells cs e fz) ∧ p.spot = none ∧ p.off + 3 ≤ cs.size ∧ .agg (cs.extract p.off (p.off + 3)) = v := same_ldn (by kernel_rfl)
def zero_218 : Array Value := #[Value.pointer none, Value.nilIface, Value.int IntKind.i64 0, Value.nilIface, Value.int IntKind.i64 0, Value.nilIface, Value.int IntKind.i64 0, Value.nilIface, Value.int IntKind.i64 0, Value.nilIface, Value.int IntKind.i64 0, Value.nilIface, Value.int IntKind.i64 0, Value.nilIface, Value.int IntKind.i64 0, Value.nilIface, Value.int IntKind.i64 0, Value.nilIface, Value.int IntKind.i64 0, Value.nilIface, Value.int IntKind.i64 0, Value.nilIface, Value.int IntKind.i64 0, Value.nilIface, Value.int IntKind.i64 0, Value.nilIface, Value.int IntKind.i64 0, Value.nilIface, Value.int IntKind.i64 0, Value.nilIface, Value.int IntKind.i64 0, Value.nilIface, Value.int IntKind.i64 0, Value.nilIface, Value.int IntKind.i64 0, Value.nilIface, Value.int IntKind.i64 0, Value.nilIface, Value.int IntKind.i64 0, Value.nilIface, Value.int IntKind.i64 0, Value.nilIface, Value.int IntKind.i64 0, Value.nilIface, Value.int IntKind.i64 0, Value.nilIface, Value.int IntKind.i64 0, Value.nilIface, Value.int IntKind.i64 0, Value.nilIface, Value.int IntKind.i64 0, Value.nilIface, Value.int IntKind.i64 0, Value.nilIface, Value.int IntKind.i64 0, Value.nilIface, Value.int IntKind.i64 0, Value.nilIface, Value.int IntKind.i64 0, Value.nilIface, Value.int IntKind.i64 0, Value.nilIface, Value.int IntKind.i64 0, Value.nilIface, Value.int IntKind.i64 0, Value.int IntKind.i64 0]
theorem build_218_0 {x0 : Value} (h0 : x0.oneCell' = true) : buildV Tryz.prog 218 [(0, x0)] = some (.agg ((zero_218).setIfInBounds 0 x0)) := by
  have e : buildV Tryz.prog 218 [(0, x0)] = (Instr.fill ((#[(0, 1), (1, 64), (65, 1)] : Array (Nat × Nat))[·]?) (zero_218) [(0, x0)]).map .agg := by kernel_rfl
  rw [e]; simp [Instr.fill, cells_of_one h0, zero_218]
@[simp] theorem op_build_218_0 {x0 : Value} (h0 : x0.oneCell' = true) : nP.op (.build 218 [(0, x0)]) w K Kp = K (.agg ((zero_218).setIfInBounds 0 x0)) w := op_build (build_218_0 h0)
@[simp] theorem pur_build_218_0 {x0 : Value} (h0 : x0.oneCell' = true) : nP.pur (.build 218 [(0, x0)]) K1 = K1 (.agg ((zero_218).setIfInBounds 0 x0)) := pur_build (build_218_0 h0)
@[simp] theorem call_135 {args : List Value} : nP.call (.fn 135) args w K Kp = Calls Tryz.prog 135 args.toArray w (ret K Kp) := call_fn (by kernel_rfl)
theorem build_210_2 {x2 : Value} (h2 : x2.oneCell' = true) : buildV Tryz.prog 210 [(2, x2)] = some (.agg (#[Value.int IntKind.i64 0, Value.nilIface, x2])) := by
  have e : buildV Tryz.prog 210 [(2, x2)] = (Instr.fill ((#[(0, 1), (1, 1), (2, 1)] : Array (Nat × Nat))[·]?) (#[Value.int IntKind.i64 0, Value.nilIface, Value.nilIface]) [(2, x2)]).map .agg := by kernel_rfl
  rw [e]; simp [Instr.fill, cells_of_one h2]
@[simp] theorem op_build_210_2 {x2 : Value} (h2 : x2.oneCell' = true) : nP.op (.build 210 [(2, x2)]) w K Kp = K (.agg (#[Value.int IntKind.i64 0, Value.nilIface, x2])) w := op_build (build_210_2 h2)
@[simp] theorem pur_build_210_2 {x2 : Value} (h2 : x2.oneCell' = true) : nP.pur (.build 210 [(2, x2)]) K1 = K1 (.agg (#[Value.int IntKind.i64 0, Value.nilIface, x2])) := pur_build (build_210_2 h2)
@[simp] theorem call_235 {args : List Value} : nP.call (.fn 235) args w K Kp = Calls Tryz.prog 235 args.toArray w (ret K Kp) := call_fn (by kernel_rfl)
@[simp] theorem op_fa_206_0 {p : Addr} : nP.op (.fieldAddr 206 (.pointer (some p)) 0) w K Kp = K (.pointer (some (p.add 0))) w := op_fa (k := .one) (by kernel_rfl)
@[simp] theorem pur_fa_206_0 {p : Addr} : nP.pur (.fieldAddr 206 (.pointer (some p)) 0) K1 = K1 (.pointer (some (p.add 0))) := pur_fa (k := .one) (by kernel_rfl)
@[simp] theorem op_ld_204 {p : Addr} : nP.op (.load 204 (.pointer (some p))) w K Kp = ∃ cs e fz, w.heap[p.block]? = some (.cells cs e fz) ∧ p.spot = none ∧ ∃ v, cs[p.off]? = some v ∧ K v w := op_ld (by kernel_rfl)
@[simp] theorem ld_ld_204 {p : Addr} : nP.ld (.load 204 (.pointer (some p))) w K1 = ∃ cs e fz, w.heap[p.block]? = some (.cells cs e fz) ∧ p.spot = none ∧ ∃ v, cs[p.off]? = some v ∧ K1 v := ld_ld (by kernel_rfl)
@[simp] theorem same_ld_204 {p : Addr} {v : Value} : nP.same (.load 204 (.pointer (some p))) v w = ∃ cs e fz, w.heap[p.block]? = some (.cells cs e fz) ∧ p.spot = none ∧ cs[p.off]? = some v := same_ld (by kernel_rfl)
@[simp] theorem op_len_204 {a : Option Addr} {n c ty : Nat} : nP.op (.blt .len [204] ty [.slice a n c]) w K Kp = K (.int .i64 n) w := op_len_slice (by kernel_rfl)
@[simp] theorem pur_len_204 {a : Option Addr} {n c ty : Nat} : nP.pur (.blt .len [204] ty [.slice a n c]) K1 = K1 (.int .i64 n) := pur_len_slice (by kernel_rfl)
@[simp] theorem ld_len_204 {a : Option Addr} {n c ty : Nat} : nP.ld (.blt .len [204] ty [.slice a n c]) w K1 = K1 (.int .i64 n) := ld_len_slice (by kernel_rfl)
@[simp] theorem same_len_204 {a : Option Addr} {n c ty : Nat} {u : Value} : nP.same (.blt .len [204] ty [.slice a n c]) u w = (.int .i64 n = u) := same_len_slice (by kernel_rfl)
@[simp] theorem op_ix_204 {p : Addr} {len cap : Nat} {k : IntKind} {j : Int} : nP.op (.indexAddr 204 (.slice (some p) len cap) (.int k j)) w K Kp = ((0 ≤ j ∧ j < (len : Int)) ∧ K (.pointer (some (p.add (j.toNat * 2)))) w) := op_ix_slice (e := 203) (by kernel_rfl)
@[simp] theorem pur_ix_204 {p : Addr} {len cap : Nat} {k : IntKind} {j : Int} : nP.pur (.indexAddr 204 (.slice (some p) len cap) (.int k j)) K1 = ((0 ≤ j ∧ j < (len : Int)) ∧ K1 (.pointer (some (p.add (j.toNat * 2))))) := pur_ix_slice (e := 203) (by kernel_rfl)
@[simp] theorem op_fa_203_0 {p : Addr} : nP.op (.fieldAddr 203 (.pointer (some p)) 0) w K Kp = K (.pointer (some (p.add 0))) w := op_fa (k := .one) (by kernel_rfl)
@[simp] theorem pur_fa_203_0 {p : Addr} : nP.pur (.fieldAddr 203 (.pointer (some p)) 0) K1 = K1 (.pointer (some (p.add 0))) := pur_fa (k := .one) (by kernel_rfl)
@[simp] theorem op_ld_9 {p : Addr} : nP.op (.load 9 (.pointer (some p))) w K Kp = ∃ cs e fz, w.heap[p.block]? = some (.cells cs e fz) ∧ p.spot = none ∧ ∃ v, cs[p.off]? = some v ∧ K v w := op_ld (by kernel_rfl)
@[simp] theorem ld_ld_9 {p : Addr} : nP.ld (.load 9 (.pointer (some p))) w K1 = ∃ cs e fz, w.heap[p.block]? = some (.cells cs e fz) ∧ p.spot = none ∧ ∃ v, cs[p.off]? = some v ∧ K1 v := ld_ld (by kernel_rfl)
@[simp] theorem same_ld_9 {p : Addr} {v : Value} : nP.same (.load 9 (.pointer (some p))) v w = ∃ cs e fz, w.heap[p.block]? = some (.cells cs e fz) ∧ p.spot = none ∧ cs[p.off]? = some v := same_ld (by kernel_rfl)
@[simp] theorem op_mki_200 {v : Value} : nP.op (.mkIface 200 v) w K Kp = K (.iface 200 v) w := op_mkIface (by kernel_rfl) (by kernel_rfl)
@[simp] theorem pur_mki_200 {v : Value} : nP.pur (.mkIface 200 v) K1 = K1 (.iface 200 v) := pur_mkIface (by kernel_rfl) (by kernel_rfl)
@[simp] theorem op_cutlo_204 {len cap b o : Nat} {k : IntKind} {x : Int} : nP.op (.slice 204 (.slice (some ⟨b, o, none⟩) len cap) (some (.int k x)) none none) w K Kp = ((0 ≤ x ∧ x ≤ (len : Int) ∧ (len : Int) ≤ (cap : Int)) ∧ K (.slice (some (if cap = x.toNat then ⟨b, o, none⟩ else ⟨b, o + x.toNat * 2, none⟩)) (len - x.toNat) (cap - x.toNat)) w) := op_cut_lo (e := 203) (by kernel_rfl)
@[simp] theorem op_cuthi_204 {len cap b o : Nat} {k : IntKind} {x : Int} : nP.op (.slice 204 (.slice (some ⟨b, o, none⟩) len cap) none (some (.int k x)) none) w K Kp = ((0 ≤ x ∧ x ≤ (cap : Int)) ∧ K (.slice (some ⟨b, o, none⟩) x.toNat cap) w) := op_cut_hi (s := 2) (e := 203) (by kernel_rfl)
@[simp] theorem pur_cutlo_204 {len cap b o : Nat} {k : IntKind} {x : Int} : nP.pur (.slice 204 (.slice (some ⟨b, o, none⟩) len cap) (some (.int k x)) none none) K1 = ((0 ≤ x ∧ x ≤ (len : Int) ∧ (len : Int) ≤ (cap : Int)) ∧ K1 (.slice (some (if cap = x.toNat then ⟨b, o, none⟩ else ⟨b, o + x.toNat * 2, none⟩)) (len - x.toNat) (cap - x.toNat))) := pur_cut_lo (e := 203) (by kernel_rfl)
@[simp] theorem pur_cuthi_204 {len cap b o : Nat} {k : IntKind} {x : Int} : nP.pur (.slice 204 (.slice (some ⟨b, o, none⟩) len cap) none (some (.int k x)) none) K1 = ((0 ≤ x ∧ x ≤ (cap : Int)) ∧ K1 (.slice (some ⟨b, o, none⟩) x.toNat cap)) := pur_cut_hi (s := 2) (e := 203) (by kernel_rfl)
@[simp] theorem op_cutmx_204 {len cap b o : Nat} {k k' : IntKind} {x y : Int} : nP.op (.slice 204 (.slice (some ⟨b, o, none⟩) len cap) none (some (.int k x)) (some (.int k' y))) w K Kp = ((0 ≤ x ∧ x ≤ y ∧ y ≤ (cap : Int)) ∧ K (.slice (some ⟨b, o, none⟩) x.toNat y.toNat) w) := op_cut_mx (s := 2) (e := 203) (by kernel_rfl)
@[simp] theorem pur_cutmx_204 {len cap b o : Nat} {k k' : IntKind} {x y : Int} : nP.pur (.slice 204 (.slice (some ⟨b, o, none⟩) len cap) none (some (.int k x)) (some (.int k' y))) K1 = ((0 ≤ x ∧ x ≤ y ∧ y ≤ (cap : Int)) ∧ K1 (.slice (some ⟨b, o, none⟩) x.toNat y.toNat)) := pur_cut_mx (s := 2) (e := 203) (by kernel_rfl)
theorem build_203_  : buildV Tryz.prog 203 [] = some (.agg (#[Value.string ByteArray.empty, Value.int IntKind.i64 0])) := by
  have e : buildV Tryz.prog 203 [] = (Instr.fill ((#[(0, 1), (1, 1)] : Array (Nat × Nat))[·]?) (#[Value.string ByteArray.empty, Value.int IntKind.i64 0]) []).map .agg := by kernel_rfl
  rw [e]; simp [Instr.fill]
@[simp] theorem op_build_203_  : nP.op (.build 203 []) w K Kp = K (.agg (#[Value.string ByteArray.empty, Value.int IntKind.i64 0])) w := op_build (build_203_)
@[simp] theorem pur_build_203_  : nP.pur (.build 203 []) K1 = K1 (.agg (#[Value.string ByteArray.empty, Value.int IntKind.i64 0])) := pur_build (build_203_)
theorem build_206_0 {x0 : Value} (h0 : x0.oneCell' = true) : buildV Tryz.prog 206 [(0, x0)] = some (.agg (#[x0])) := by
  have e : buildV Tryz.prog 206 [(0, x0)] = (Instr.fill ((#[(0, 1)] : Array (Nat × Nat))[·]?) (#[Value.slice none 0 0]) [(0, x0)]).map .agg := by kernel_rfl
  rw [e]; simp [Instr.fill, cells_of_one h0]
@[simp] theorem op_build_206_0 {x0 : Value} (h0 : x0.oneCell' = true) : nP.op (.build 206 [(0, x0)]) w K Kp = K (.agg (#[x0])) w := op_build (build_206_0 h0)
@[simp] theorem pur_build_206_0 {x0 : Value} (h0 : x0.oneCell' = true) : nP.pur (.build 206 [(0, x0)]) K1 = K1 (.agg (#[x0])) := pur_build (build_206_0 h0)
@[simp] theorem op_fa_203_1 {p : Addr} : nP.op (.fieldAddr 203 (.pointer (some p)) 1) w K Kp = K (.pointer (some (p.add 1))) w := op_fa (k := .one) (by kernel_rfl)
@[simp] theorem pur_fa_203_1 {p : Addr} : nP.pur (.fieldAddr 203 (.pointer (some p)) 1) K1 = K1 (.pointer (some (p.add 1))) := pur_fa (k := .one) (by kernel_rfl)
@[simp] theorem op_ld_200 {p : Addr} : nP.op (.load 200 (.pointer (some p))) w K Kp = ∃ cs e fz, w.heap[p.block]? = some (.cells cs e fz) ∧ p.spot = none ∧ ∃ v, cs[p.off]? = some v ∧ K v w := op_ld (by kernel_rfl)
@[simp] theorem ld_ld_200 {p : Addr} : nP.ld (.load 200 (.pointer (some p))) w K1 = ∃ cs e fz, w.heap[p.block]? = some (.cells cs e fz) ∧ p.spot = none ∧ ∃ v, cs[p.off]? = some v ∧ K1 v := ld_ld (by kernel_rfl)
@[simp] theorem same_ld_200 {p : Addr} {v : Value} : nP.same (.load 200 (.pointer (some p))) v w = ∃ cs e fz, w.heap[p.block]? = some (.cells cs e fz) ∧ p.spot = none ∧ cs[p.off]? = some v := same_ld (by kernel_rfl)
theorem lit_204_1 {y0_0 y0_1 : Value} : sliceLit Tryz.prog 204 1 [(0, .agg #[y0_0, y0_1])] = some (203, #[y0_0, y0_1]) := by
  have e : sliceLit Tryz.prog 204 1 [(0, .agg #[y0_0, y0_1])] = (Instr.fill (fun i => some (i * 2, 2)) (#[Value.string ByteArray.empty, Value.int IntKind.i64 0]) [(0, .agg #[y0_0, y0_1])]).map fun cs => (203, cs) := by kernel_rfl
  rw [e]; simp [Instr.fill, Value.cells]
theorem build_203_0_1 {x0 : Value} {x1 : Value} (h0 : x0.oneCell' = true) (h1 : x1.oneCell' = true) : buildV Tryz.prog 203 [(0, x0), (1, x1)] = some (.agg (#[x0, x1])) := by
  have e : buildV Tryz.prog 203 [(0, x0), (1, x1)] = (Instr.fill ((#[(0, 1), (1, 1)] : Array (Nat × Nat))[·]?) (#[Value.string ByteArray.empty, Value.int IntKind.i64 0]) [(0, x0), (1, x1)]).map .agg := by kernel_rfl
  rw [e]; simp [Instr.fill, cells_of_one h0, cells_of_one h1]
@[simp] theorem op_build_203_0_1 {x0 : Value} {x1 : Value} (h0 : x0.oneCell' = true) (h1 : x1.oneCell' = true) : nP.op (.build 203 [(0, x0), (1, x1)]) w K Kp = K (.agg (#[x0, x1])) w := op_build (build_203_0_1 h0 h1)
@[simp] theorem pur_build_203_0_1 {x0 : Value} {x1 : Value} (h0 : x0.oneCell' = true) (h1 : x1.oneCell' = true) : nP.pur (.build 203 [(0, x0), (1, x1)]) K1 = K1 (.agg (#[x0, x1])) := pur_build (build_203_0_1 h0 h1)
@[simp] theorem op_ld_91 {p : Addr} : nP.op (.load 91 (.pointer (some p))) w K Kp = ∃ cs e fz, w.heap[p.block]? = some (.cells cs e fz) ∧ p.spot = none ∧ ∃ v, cs[p.off]? = some v ∧ K v w := op_ld (by kernel_rfl)
@[simp] theorem ld_ld_91 {p : Addr} : nP.ld (.load 91 (.pointer (some p))) w K1 = ∃ cs e fz, w.heap[p.block]? = some (.cells cs e fz) ∧ p.spot = none ∧ ∃ v, cs[p.off]? = some v ∧ K1 v := ld_ld (by kernel_rfl)
@[simp] theorem same_ld_91 {p : Addr} {v : Value} : nP.same (.load 91 (.pointer (some p))) v w = ∃ cs e fz, w.heap[p.block]? = some (.cells cs e fz) ∧ p.spot = none ∧ cs[p.off]? = some v := same_ld (by kernel_rfl)
@[simp] theorem call_253 {args : List Value} : nP.call (.fn 253) args w K Kp = Calls Tryz.prog 253 args.toArray w (ret K Kp) := call_fn (by kernel_rfl)
@[simp] theorem op_fa_267_0 {p : Addr} : nP.op (.fieldAddr 267 (.pointer (some p)) 0) w K Kp = K (.pointer (some (p.add 0))) w := op_fa (k := .one) (by kernel_rfl)
@[simp] theorem pur_fa_267_0 {p : Addr} : nP.pur (.fieldAddr 267 (.pointer (some p)) 0) K1 = K1 (.pointer (some (p.add 0))) := pur_fa (k := .one) (by kernel_rfl)
@[simp] theorem op_ld_265 {p : Addr} : nP.op (.load 265 (.pointer (some p))) w K Kp = ∃ cs e fz, w.heap[p.block]? = some (.cells cs e fz) ∧ p.spot = none ∧ ∃ v, cs[p.off]? = some v ∧ K v w := op_ld (by kernel_rfl)
@[simp] theorem ld_ld_265 {p : Addr} : nP.ld (.load 265 (.pointer (some p))) w K1 = ∃ cs e fz, w.heap[p.block]? = some (.cells cs e fz) ∧ p.spot = none ∧ ∃ v, cs[p.off]? = some v ∧ K1 v := ld_ld (by kernel_rfl)
@[simp] theorem same_ld_265 {p : Addr} {v : Value} : nP.same (.load 265 (.pointer (some p))) v w = ∃ cs e fz, w.heap[p.block]? = some (.cells cs e fz) ∧ p.spot = none ∧ cs[p.off]? = some v := same_ld (by kernel_rfl)
@[simp] theorem op_ix_265 {p : Addr} {len cap : Nat} {k : IntKind} {j : Int} : nP.op (.indexAddr 265 (.slice (some p) len cap) (.int k j)) w K Kp = ((0 ≤ j ∧ j < (len : Int)) ∧ K (.pointer (some (p.add (j.toNat * 2)))) w) := op_ix_slice (e := 269) (by kernel_rfl)
@[simp] theorem pur_ix_265 {p : Addr} {len cap : Nat} {k : IntKind} {j : Int} : nP.pur (.indexAddr 265 (.slice (some p) len cap) (.int k j)) K1 = ((0 ≤ j ∧ j < (len : Int)) ∧ K1 (.pointer (some (p.add (j.toNat * 2))))) := pur_ix_slice (e := 269) (by kernel_rfl)
@[simp] theorem op_fa_269_1 {p : Addr} : nP.op (.fieldAddr 269 (.pointer (some p)) 1) w K Kp = K (.pointer (some (p.add 1))) w := op_fa (k := .one) (by kernel_rfl)
@[simp] theorem pur_fa_269_1 {p : Addr} : nP.pur (.fieldAddr 269 (.pointer (some p)) 1) K1 = K1 (.pointer (some (p.add 1))) := pur_fa (k := .one) (by kernel_rfl)
@[simp] theorem op_ld_188 {p : Addr} : nP.op (.load 188 (.pointer (some p))) w K Kp = ∃ cs e fz, w.heap[p.block]? = some (.cells cs e fz) ∧ p.spot = none ∧ ∃ v, cs[p.off]? = some v ∧ K v w := op_ld (by kernel_rfl)
@[simp] theorem ld_ld_188 {p : Addr} : nP.ld (.load 188 (.pointer (some p))) w K1 = ∃ cs e fz, w.heap[p.block]? = some (.cells cs e fz) ∧ p.spot = none ∧ ∃ v, cs[p.off]? = some v ∧ K1 v := ld_ld (by kernel_rfl)
@[simp] theorem same_ld_188 {p : Addr} {v : Value} : nP.same (.load 188 (.pointer (some p))) v w = ∃ cs e fz, w.heap[p.block]? = some (.cells cs e fz) ∧ p.spot = none ∧ cs[p.off]? = some v := same_ld (by kernel_rfl)
@[simp] theorem op_mki_262 {v : Value} : nP.op (.mkIface 262 v) w K Kp = K (.iface 262 v) w := op_mkIface (by kernel_rfl) (by kernel_rfl)
@[simp] theorem pur_mki_262 {v : Value} : nP.pur (.mkIface 262 v) K1 = K1 (.iface 262 v) := pur_mkIface (by kernel_rfl) (by kernel_rfl)
@[simp] theorem op_eql_188_y {xc yc : Bool} {u : TypeId} {v : Value} : nP.op (.bin BinOp.eql 188 xc yc (.iface u v) .nilIface) w K Kp = K (.bool false) w := op_eq_iface (by kernel_rfl) rfl
@[simp] theorem op_eql_188_n {xc : Bool} : nP.op (.bin BinOp.eql 188 xc true .nilIface .nilIface) w K Kp = K (.bool true) w := op_eq_niface (by kernel_rfl) rfl
@[simp] theorem pur_eql_188_y {xc yc : Bool} {u : TypeId} {v : Value} : nP.pur (.bin BinOp.eql 188 xc yc (.iface u v) .nilIface) K1 = K1 (.bool false) := pur_eq_iface (by kernel_rfl) rfl
@[simp] theorem pur_eql_188_n {xc : Bool} : nP.pur (.bin BinOp.eql 188 xc true .nilIface .nilIface) K1 = K1 (.bool true) := pur_eq_niface (by kernel_rfl) rfl
@[simp] theorem op_len_265 {a : Option Addr} {n c ty : Nat} : nP.op (.blt .len [265] ty [.slice a n c]) w K Kp = K (.int .i64 n) w := op_len_slice (by kernel_rfl)
@[simp] theorem pur_len_265 {a : Option Addr} {n c ty : Nat} : nP.pur (.blt .len [265] ty [.slice a n c]) K1 = K1 (.int .i64 n) := pur_len_slice (by kernel_rfl)
@[simp] theorem ld_len_265 {a : Option Addr} {n c ty : Nat} : nP.ld (.blt .len [265] ty [.slice a n c]) w K1 = K1 (.int .i64 n) := ld_len_slice (by kernel_rfl)
@[simp] theorem same_len_265 {a : Option Addr} {n c ty : Nat} {u : Value} : nP.same (.blt .len [265] ty [.slice a n c]) u w = (.int .i64 n = u) := same_len_slice (by kernel_rfl)
@[simp] theorem op_cutlo_265 {len cap b o : Nat} {k : IntKind} {x : Int} : nP.op (.slice 265 (.slice (some ⟨b, o, none⟩) len cap) (some (.int k x)) none none) w K Kp = ((0 ≤ x ∧ x ≤ (len : Int) ∧ (len : Int) ≤ (cap : Int)) ∧ K (.slice (some (if cap = x.toNat then ⟨b, o, none⟩ else ⟨b, o + x.toNat * 2, none⟩)) (len - x.toNat) (cap - x.toNat)) w) := op_cut_lo (e := 269) (by kernel_rfl)
@[simp] theorem op_cuthi_265 {len cap b o : Nat} {k : IntKind} {x : Int} : nP.op (.slice 265 (.slice (some ⟨b, o, none⟩) len cap) none (some (.int k x)) none) w K Kp = ((0 ≤ x ∧ x ≤ (cap : Int)) ∧ K (.slice (some ⟨b, o, none⟩) x.toNat cap) w) := op_cut_hi (s := 2) (e := 269) (by kernel_rfl)
@[simp] theorem pur_cutlo_265 {len cap b o : Nat} {k : IntKind} {x : Int} : nP.pur (.slice 265 (.slice (some ⟨b, o, none⟩) len cap) (some (.int k x)) none none) K1 = ((0 ≤ x ∧ x ≤ (len : Int) ∧ (len : Int) ≤ (cap : Int)) ∧ K1 (.slice (some (if cap = x.toNat then ⟨b, o, none⟩ else ⟨b, o + x.toNat * 2, none⟩)) (len - x.toNat) (cap - x.toNat))) := pur_cut_lo (e := 269) (by kernel_rfl)
@[simp] theorem pur_cuthi_265 {len cap b o : Nat} {k : IntKind} {x : Int} : nP.pur (.slice 265 (.slice (some ⟨b, o, none⟩) len cap) none (some (.int k x)) none) K1 = ((0 ≤ x ∧ x ≤ (cap : Int)) ∧ K1 (.slice (some ⟨b, o, none⟩) x.toNat cap)) := pur_cut_hi (s := 2) (e := 269) (by kernel_rfl)
@[simp] theorem op_cutmx_265 {len cap b o : Nat} {k k' : IntKind} {x y : Int} : nP.op (.slice 265 (.slice (some ⟨b, o, none⟩) len cap) none (some (.int k x)) (some (.int k' y))) w K Kp = ((0 ≤ x ∧ x ≤ y ∧ y ≤ (cap : Int)) ∧ K (.slice (some ⟨b, o, none⟩) x.toNat y.toNat) w) := op_cut_mx (s := 2) (e := 269) (by kernel_rfl)
@[simp] theorem pur_cutmx_265 {len cap b o : Nat} {k k' : IntKind} {x y : Int} : nP.pur (.slice 265 (.slice (some ⟨b, o, none⟩) len cap) none (some (.int k x)) (some (.int k' y))) K1 = ((0 ≤ x ∧ x ≤ y ∧ y ≤ (cap : Int)) ∧ K1 (.slice (some ⟨b, o, none⟩) x.toNat y.toNat)) := pur_cut_mx (s := 2) (e := 269) (by kernel_rfl)
theorem build_269_  : buildV Tryz.prog 269 [] = some (.agg (#[Value.string ByteArray.empty, Value.nilIface])) := by
  have e : buildV Tryz.prog 269 [] = (Instr.fill ((#[(0, 1), (1, 1)] : Array (Nat × Nat))[·]?) (#[Value.string ByteArray.empty, Value.nilIface]) []).map .agg := by kernel_rfl
  rw [e]; simp [Instr.fill]
@[simp] theorem op_build_269_  : nP.op (.build 269 []) w K Kp = K (.agg (#[Value.string ByteArray.empty, Value.nilIface])) w := op_build (build_269_)
@[simp] theorem pur_build_269_  : nP.pur (.build 269 []) K1 = K1 (.agg (#[Value.string ByteArray.empty, Value.nilIface])) := pur_build (build_269_)
theorem build_267_0 {x0 : Value} (h0 : x0.oneCell' = true) : buildV Tryz.prog 267 [(0, x0)] = some (.agg (#[x0])) := by
  have e : buildV Tryz.prog 267 [(0, x0)] = (Instr.fill ((#[(0, 1)] : Array (Nat × Nat))[·]?) (#[Value.slice none 0 0]) [(0, x0)]).map .agg := by kernel_rfl
  rw [e]; simp [Instr.fill, cells_of_one h0]
@[simp] theorem op_build_267_0 {x0 : Value} (h0 : x0.oneCell' = true) : nP.op (.build 267 [(0, x0)]) w K Kp = K (.agg (#[x0])) w := op_build (build_267_0 h0)
@[simp] theorem pur_build_267_0 {x0 : Value} (h0 : x0.oneCell' = true) : nP.pur (.build 267 [(0, x0)]) K1 = K1 (.agg (#[x0])) := pur_build (build_267_0 h0)
theorem build_269_0_1 {x0 : Value} {x1 : Value} (h0 : x0.oneCell' = true) (h1 : x1.oneCell' = true) : buildV Tryz.prog 269 [(0, x0), (1, x1)] = some (.agg (#[x0, x1])) := by
  have e : buildV Tryz.prog 269 [(0, x0), (1, x1)] = (Instr.fill ((#[(0, 1), (1, 1)] : Array (Nat × Nat))[·]?) (#[Value.string ByteArray.empty, Value.nilIface]) [(0, x0), (1, x1)]).map .agg := by kernel_rfl
  rw [e]; simp [Instr.fill, cells_of_one h0, cells_of_one h1]
@[simp] theorem op_build_269_0_1 {x0 : Value} {x1 : Value} (h0 : x0.oneCell' = true) (h1 : x1.oneCell' = true) : nP.op (.build 269 [(0, x0), (1, x1)]) w K Kp = K (.agg (#[x0, x1])) w := op_build (build_269_0_1 h0 h1)
@[simp] theorem pur_build_269_0_1 {x0 : Value} {x1 : Value} (h0 : x0.oneCell' = true) (h1 : x1.oneCell' = true) : nP.pur (.build 269 [(0, x0), (1, x1)]) K1 = K1 (.agg (#[x0, x1])) := pur_build (build_269_0_1 h0 h1)
@[simp] theorem op_ld_262 {p : Addr} : nP.op (.load 262 (.pointer (some p))) w K Kp = ∃ cs e fz, w.heap[p.block]? = some (.cells cs e fz) ∧ p.spot = none ∧ ∃ v, cs[p.off]? = some v ∧ K v w := op_ld (by kernel_rfl)
@[simp] theorem ld_ld_262 {p : Addr} : nP.ld (.load 262 (.pointer (some p))) w K1 = ∃ cs e fz, w.heap[p.block]? = some (.cells cs e fz) ∧ p.spot = none ∧ ∃ v, cs[p.off]? = some v ∧ K1 v := ld_ld (by kernel_rfl)
@[simp] theorem same_ld_262 {p : Addr} {v : Value} : nP.same (.load 262 (.pointer (some p))) v w = ∃ cs e fz, w.heap[p.block]? = some (.cells cs e fz) ∧ p.spot = none ∧ cs[p.off]? = some v := same_ld (by kernel_rfl)
@[simp] theorem op_neq_188_y {xc yc : Bool} {u : TypeId} {v : Value} : nP.op (.bin BinOp.neq 188 xc yc (.iface u v) .nilIface) w K Kp = K (.bool true) w := op_eq_iface (by kernel_rfl) rfl
@[simp] theorem op_neq_188_n {xc : Bool} : nP.op (.bin BinOp.neq 188 xc true .nilIface .nilIface) w K Kp = K (.bool false) w := op_eq_niface (by kernel_rfl) rfl
@[simp] theorem pur_neq_188_y {xc yc : Bool} {u : TypeId} {v : Value} : nP.pur (.bin BinOp.neq 188 xc yc (.iface u v) .nilIface) K1 = K1 (.bool true) := pur_eq_iface (by kernel_rfl) rfl
@[simp] theorem pur_neq_188_n {xc : Bool} : nP.pur (.bin BinOp.neq 188 xc true .nilIface .nilIface) K1 = K1 (.bool false) := pur_eq_niface (by kernel_rfl) rfl
theorem lit_265_1 {y0_0 y0_1 : Value} : sliceLit Tryz.prog 265 1 [(0, .agg #[y0_0, y0_1])] = some (269, #[y0_0, y0_1]) := by
  have e : sliceLit Tryz.prog 265 1 [(0, .agg #[y0_0, y0_1])] = (Instr.fill (fun i => some (i * 2, 2)) (#[Value.string ByteArray.empty, Value.nilIface]) [(0, .agg #[y0_0, y0_1])]).map fun cs => (269, cs) := by kernel_rfl
  rw [e]; simp [Instr.fill, Value.cells]
@[simp] theorem op_alloc_267 : nP.op (.alloc 267) w K Kp = K (.pointer (some ⟨w.heap.size, 0, none⟩)) (w.alloc (.cells #[Value.slice none 0 0] 267)) := op_alloc (z := (.agg #[(Value.slice none 0 0)])) (by kernel_rfl)
@[simp] theorem op_fa_269_0 {p : Addr} : nP.op (.fieldAddr 269 (.pointer (some p)) 0) w K Kp = K (.pointer (some (p.add 0))) w := op_fa (k := .one) (by kernel_rfl)
@[simp] theorem pur_fa_269_0 {p : Addr} : nP.pur (.fieldAddr 269 (.pointer (some p)) 0) K1 = K1 (.pointer (some (p.add 0))) := pur_fa (k := .one) (by kernel_rfl)
@[simp] theorem op_len_343 {a : Option Addr} {n c ty : Nat} : nP.op (.blt .len [343] ty [.slice a n c]) w K Kp = K (.int .i64 n) w := op_len_slice (by kernel_rfl)
@[simp] theorem pur_len_343 {a : Option Addr} {n c ty : Nat} : nP.pur (.blt .len [343] ty [.slice a n c]) K1 = K1 (.int .i64 n) := pur_len_slice (by kernel_rfl)
@[simp] theorem ld_len_343 {a : Option Addr} {n c ty : Nat} : nP.ld (.blt .len [343] ty [.slice a n c]) w K1 = K1 (.int .i64 n) := ld_len_slice (by kernel_rfl)
@[simp] theorem same_len_343 {a : Option Addr} {n c ty : Nat} {u : Value} : nP.same (.blt .len [343] ty [.slice a n c]) u w = (.int .i64 n = u) := same_len_slice (by kernel_rfl)
@[simp] theorem op_ix_343 {p : Addr} {len cap : Nat} {k : IntKind} {j : Int} : nP.op (.indexAddr 343 (.slice (some p) len cap) (.int k j)) w K Kp = ((0 ≤ j ∧ j < (len : Int)) ∧ K (.pointer (some (p.add (j.toNat * 1)))) w) := op_ix_slice (e := 188) (by kernel_rfl)
@[simp] theorem pur_ix_343 {p : Addr} {len cap : Nat} {k : IntKind} {j : Int} : nP.pur (.indexAddr 343 (.slice (some p) len cap) (.int k j)) K1 = ((0 ≤ j ∧ j < (len : Int)) ∧ K1 (.pointer (some (p.add (j.toNat * 1))))) := pur_ix_slice (e := 188) (by kernel_rfl)
@[simp] theorem call_141 {args : List Value} : nP.call (.fn 141) args w K Kp = Calls Tryz.prog 141 args.toArray w (ret K Kp) := call_fn (by kernel_rfl)
@[simp] theorem op_fa_190_2 {p : Addr} : nP.op (.fieldAddr 190 (.pointer (some p)) 2) w K Kp = K (.pointer (some (p.add 2))) w := op_fa (k := .one) (by kernel_rfl)
@[simp] theorem pur_fa_190_2 {p : Addr} : nP.pur (.fieldAddr 190 (.pointer (some p)) 2) K1 = K1 (.pointer (some (p.add 2))) := pur_fa (k := .one) (by kernel_rfl)
@[simp] theorem op_eql_91_y {xc yc : Bool} {u : TypeId} {v : Value} : nP.op (.bin BinOp.eql 91 xc yc (.iface u v) .nilIface) w K Kp = K (.bool false) w := op_eq_iface (by kernel_rfl) rfl
@[simp] theorem op_eql_91_n {xc : Bool} : nP.op (.bin BinOp.eql 91 xc true .nilIface .nilIface) w K Kp = K (.bool true) w := op_eq_niface (by kernel_rfl) rfl
@[simp] theorem pur_eql_91_y {xc yc : Bool} {u : TypeId} {v : Value} : nP.pur (.bin BinOp.eql 91 xc yc (.iface u v) .nilIface) K1 = K1 (.bool false) := pur_eq_iface (by kernel_rfl) rfl
@[simp] theorem pur_eql_91_n {xc : Bool} : nP.pur (.bin BinOp.eql 91 xc true .nilIface .nilIface) K1 = K1 (.bool true) := pur_eq_niface (by kernel_rfl) rfl
@[simp] theorem call_183 {args : List Value} : nP.call (.fn 183) args w K Kp = Calls Tryz.prog 183 args.toArray w (ret K Kp) := call_fn (by kernel_rfl)
@[simp] theorem call_184 {args : List Value} : nP.call (.fn 184) args w K Kp = Calls Tryz.prog 184 args.toArray w (ret K Kp) := call_fn (by kernel_rfl)
@[simp] theorem op_fa_190_1 {p : Addr} : nP.op (.fieldAddr 190 (.pointer (some p)) 1) w K Kp = K (.pointer (some (p.add 1))) w := op_fa (k := .one) (by kernel_rfl)
@[simp] theorem pur_fa_190_1 {p : Addr} : nP.pur (.fieldAddr 190 (.pointer (some p)) 1) K1 = K1 (.pointer (some (p.add 1))) := pur_fa (k := .one) (by kernel_rfl)
@[simp] theorem op_fa_190_0 {p : Addr} : nP.op (.fieldAddr 190 (.pointer (some p)) 0) w K Kp = K (.pointer (some (p.add 0))) w := op_fa (k := .one) (by kernel_rfl)
@[simp] theorem pur_fa_190_0 {p : Addr} : nP.pur (.fieldAddr 190 (.pointer (some p)) 0) K1 = K1 (.pointer (some (p.add 0))) := pur_fa (k := .one) (by kernel_rfl)
theorem lit_343_2 {x0 x1 : Value} (h0 : x0.oneCell' = true) (h1 : x1.oneCell' = true) : sliceLit Tryz.prog 343 2 [(0, x0), (1, x1)] = some (188, #[x0, x1]) := by
  have e : sliceLit Tryz.prog 343 2 [(0, x0), (1, x1)] = (Instr.fill (fun i => some (i * 1, 1)) (#[Value.nilIface, Value.nilIface]) [(0, x0), (1, x1)]).map fun cs => (188, cs) := by kernel_rfl
  rw [e]; simp [Instr.fill, cells_of_one h0, cells_of_one h1]
@[simp] theorem call_185 {args : List Value} : nP.call (.fn 185) args w K Kp = Calls Tryz.prog 185 args.toArray w (ret K Kp) := call_fn (by kernel_rfl)
@[simp] theorem call_142 {args : List Value} : nP.call (.fn 142) args w K Kp = Calls Tryz.prog 142 args.toArray w (ret K Kp) := call_fn (by kernel_rfl)
def zero_198 : Array Value := #[Value.pointer none, Value.nilIface, Value.int IntKind.i64 0, Value.nilIface, Value.int IntKind.i64 0, Value.nilIface, Value.int IntKind.i64 0, Value.nilIface, Value.int IntKind.i64 0, Value.nilIface, Value.int IntKind.i64 0, Value.nilIface, Value.int IntKind.i64 0, Value.nilIface, Value.int IntKind.i64 0, Value.nilIface, Value.int IntKind.i64 0, Value.nilIface, Value.int IntKind.i64 0, Value.nilIface, Value.int IntKind.i64 0, Value.nilIface, Value.int IntKind.i64 0, Value.nilIface, Value.int IntKind.i64 0, Value.nilIface, Value.int IntKind.i64 0, Value.nilIface, Value.int IntKind.i64 0, Value.nilIface, Value.int IntKind.i64 0, Value.nilIface, Value.int IntKind.i64 0, Value.nilIface, Value.int IntKind.i64 0, Value.nilIface, Value.int IntKind.i64 0, Value.nilIface, Value.int IntKind.i64 0, Value.nilIface, Value.int IntKind.i64 0, Value.nilIface, Value.int IntKind.i64 0, Value.nilIface, Value.int IntKind.i64 0, Value.nilIface, Value.int IntKind.i64 0, Value.nilIface, Value.int IntKind.i64 0, Value.nilIface, Value.int IntKind.i64 0, Value.nilIface, Value.int IntKind.i64 0, Value.nilIface, Value.int IntKind.i64 0, Value.nilIface, Value.int IntKind.i64 0, Value.nilIface, Value.int IntKind.i64 0, Value.nilIface, Value.int IntKind.i64 0, Value.nilIface, Value.int IntKind.i64 0, Value.nilIface, Value.int IntKind.i64 0, Value.int IntKind.i64 0]
theorem build_198_0 {x0 : Value} (h0 : x0.oneCell' = true) : buildV Tryz.prog 198 [(0, x0)] = some (.agg ((zero_198).setIfInBounds 0 x0)) := by
  have e : buildV Tryz.prog 198 [(0, x0)] = (Instr.fill ((#[(0, 1), (1, 64), (65, 1)] : Array (Nat × Nat))[·]?) (zero_198) [(0, x0)]).map .agg := by kernel_rfl
  rw [e]; simp [Instr.fill, cells_of_one h0, zero_198]
@[simp] theorem op_build_198_0 {x0 : Value} (h0 : x0.oneCell' = true) : nP.op (.build 198 [(0, x0)]) w K Kp = K (.agg ((zero_198).setIfInBounds 0 x0)) w := op_build (build_198_0 h0)
@[simp] theorem pur_build_198_0 {x0 : Value} (h0 : x0.oneCell' = true) : nP.pur (.build 198 [(0, x0)]) K1 = K1 (.agg ((zero_198).setIfInBounds 0 x0)) := pur_build (build_198_0 h0)
@[simp] theorem call_129 {args : List Value} : nP.call (.fn 129) args w K Kp = Calls Tryz.prog 129 args.toArray w (ret K Kp) := call_fn (by kernel_rfl)
theorem build_190_2 {x2 : Value} (h2 : x2.oneCell' = true) : buildV Tryz.prog 190 [(2, x2)] = some (.agg (#[Value.int IntKind.i64 0, Value.nilIface, x2])) := by
  have e : buildV Tryz.prog 190 [(2, x2)] = (Instr.fill ((#[(0, 1), (1, 1), (2, 1)] : Array (Nat × Nat))[·]?) (#[Value.int IntKind.i64 0, Value.nilIface, Value.nilIface]) [(2, x2)]).map .agg := by kernel_rfl
  rw [e]; simp [Instr.fill, cells_of_one h2]
@[simp] theorem op_build_190_2 {x2 : Value} (h2 : x2.oneCell' = true) : nP.op (.build 190 [(2, x2)]) w K Kp = K (.agg (#[Value.int IntKind.i64 0, Value.nilIface, x2])) w := op_build (build_190_2 h2)
@[simp] theorem pur_build_190_2 {x2 : Value} (h2 : x2.oneCell' = true) : nP.pur (.build 190 [(2, x2)]) K1 = K1 (.agg (#[Value.int IntKind.i64 0, Value.nilIface, x2])) := pur_build (build_190_2 h2)
@[simp] theorem op_mki_351 {v : Value} : nP.op (.mkIface 351 v) w K Kp = K (.iface 351 v) w := op_mkIface (by kernel_rfl) (by kernel_rfl)
@[simp] theorem op_mki_341 {v : Value} : nP.op (.mkIface 341 v) w K Kp = K (.iface 341 v) w := op_mkIface (by kernel_rfl) (by kernel_rfl)
end Go.Proofs.YtodjijfblgnfmaaGreatDoor
end
section
namespace Go.Proofs.YtodjijfblgnfmaaGreatDoor
open Go.Vc Go.Proofs
variable {S : Sig} {a0 a1 a2 a3 a4 a5 a6 a7 a8 a9 : Value} {w : World} {K : KV} {Kp : KP}
private theorem follows_BVcI : Tryz.prog.follows .mixedOrders = true := by kernel_rfl
def vc245 (S : Sig) (a0 a1 a2 a3 a4 : Value) (w : World) (K : KV) (Kp : KP) : Prop :=
 S.call (.fn 247) [a0, a1, a2] w (fun v16 w =>
 S.pur (.nilCheck a0) (fun v19 =>
 S.pur (.fieldAddr 226 v19 0) (fun v20 =>
 S.ld (.load 224 v20) w.drew (fun v21 =>
 S.ld (.blt .len [224] 3 [v21]) w.drew (fun v22 =>
 S.pur (.bin .geq 3 false false v16 v22) (fun v23 =>
 Br v23 (
 S.op (.mkIface 220 a0) w.drew (fun v42 w =>
 K v42 w) Kp) (
 S.pur (.nilCheck a0) (fun v27 =>
 S.pur (.fieldAddr 226 v27 0) (fun v28 =>
 S.ld (.load 224 v28) w.drew (fun v29 =>
 S.pur (.indexAddr 224 v29 v16) (fun v31 =>
 S.pur (.fieldAddr 223 v31 0) (fun v32 =>
 S.ld (.load 2 v32) w.drew (fun v33 =>
 S.pur (.mkFunc (Fn.method "Compare") [a2] []) (fun v35 =>
 S.pur (.nilCheck v35) (fun v36 =>
 S.call (.inv a2 "Compare") [v33, a1] w.drew (fun v38 w =>
 S.pur (.bin .neq 3 false true v38 (.int .i64 0)) (fun v39 =>
 Br v39 (
 S.op (.mkIface 220 a0) w (fun v42 w =>
 K v42 w) Kp) (
 S.op (.nilCheck a4) w (fun v44 w =>
 S.op (.store 4 v44 (.bool true)) w (fun _ w =>
 S.op (.nilCheck a0) w (fun v46 w =>
 S.op (.fieldAddr 226 v46 0) w (fun v47 w =>
 S.op (.load 224 v47) w (fun v48 w =>
 S.op (.blt .len [224] 3 [v48]) w (fun v49 w =>
 S.op (.bin .eql 3 false true v49 (.int .i64 1)) w (fun v50 w =>
 Br v50 (
 K .nilIface w) (
 Br a3 (
 S.pur (.nilCheck a0) (fun v53 =>
 S.pur (.fieldAddr 226 v53 0) (fun v54 =>
 S.ld (.load 224 v54) w.drew (fun v55 =>
 S.pur (.slice 224 v55 (some v16) none none) (fun v57 =>
 S.pur (.nilCheck a0) (fun v59 =>
 S.pur (.fieldAddr 226 v59 0) (fun v60 =>
 S.ld (.load 224 v60) w.drew (fun v61 =>
 S.pur (.bin .add 3 false true v16 (.int .i64 1)) (fun v63 =>
 S.pur (.slice 224 v61 (some v63) none none) (fun v64 =>
 S.op (.blt .copy [224, 224] 3 [v57, v64]) w.drew (fun v65 w =>
 S.pur (.nilCheck a0) (fun v67 =>
 S.pur (.fieldAddr 226 v67 0) (fun v68 =>
 S.ld (.load 224 v68) w.drew (fun v69 =>
 S.pur (.nilCheck a0) (fun v71 =>
 S.pur (.fieldAddr 226 v71 0) (fun v72 =>
 S.ld (.load 224 v72) w.drew (fun v73 =>
 S.ld (.blt .len [224] 3 [v73]) w.drew (fun v74 =>
 S.pur (.bin .sub 3 false true v74 (.int .i64 1)) (fun v75 =>
 S.pur (.build 223 []) (fun v76 =>
 S.pur (.indexAddr 224 v69 v75) (fun v77 =>
 S.op (.store 223 v77 v76) w.drew (fun _ w =>
 S.pur (.nilCheck a0) (fun v80 =>
 S.pur (.fieldAddr 226 v80 0) (fun v81 =>
 S.ld (.load 224 v81) w.drew (fun v82 =>
 S.pur (.nilCheck a0) (fun v84 =>
 S.pur (.fieldAddr 226 v84 0) (fun v85 =>
 S.ld (.load 224 v85) w.drew (fun v86 =>
 S.ld (.blt .len [224] 3 [v86]) w.drew (fun v87 =>
 S.pur (.bin .sub 3 false true v87 (.int .i64 1)) (fun v88 =>
 S.pur (.slice 224 v82 none (some v88) none) (fun v89 =>
 S.pur (.nilCheck a0) (fun v90 =>
 S.pur (.fieldAddr 226 v90 0) (fun v91 =>
 S.op (.store 224 v91 v89) w.drew (fun _ w =>
 S.op (.mkIface 220 a0) w (fun v93 w =>
 K v93 w) Kp) Kp)))))))))))) Kp))))))))))) Kp)))))))))) (
 S.op (.nilCheck a0) w (fun v95 w =>
 S.op (.fieldAddr 226 v95 0) w (fun v96 w =>
 S.op (.load 224 v96) w (fun v97 w =>
 S.op (.blt .len [224] 3 [v97]) w (fun v98 w =>
 S.op (.bin .sub 3 false true v98 (.int .i64 1)) w (fun v99 w =>
 S.op (.mkSlice 224 v99 v99) w (fun v100 w =>
 S.op (.build 226 [(0, v100)]) w (fun v101 w =>
 S.op (.box 226 v101) w (fun v102 w =>
 S.pur (.nilCheck v102) (fun v104 =>
 S.pur (.fieldAddr 226 v104 0) (fun v105 =>
 S.ld (.load 224 v105) w.drew (fun v106 =>
 S.pur (.slice 224 v106 none (some v16) none) (fun v108 =>
 S.pur (.nilCheck a0) (fun v110 =>
 S.pur (.fieldAddr 226 v110 0) (fun v111 =>
 S.ld (.load 224 v111) w.drew (fun v112 =>
 S.pur (.slice 224 v112 none (some v16) none) (fun v114 =>
 S.op (.blt .copy [224, 224] 3 [v108, v114]) w.drew (fun v115 w =>
 S.pur (.nilCheck v102) (fun v117 =>
 S.pur (.fieldAddr 226 v117 0) (fun v118 =>
 S.ld (.load 224 v118) w.drew (fun v119 =>
 S.pur (.slice 224 v119 (some v16) none none) (fun v121 =>
 S.pur (.nilCheck a0) (fun v123 =>
 S.pur (.fieldAddr 226 v123 0) (fun v124 =>
 S.ld (.load 224 v124) w.drew (fun v125 =>
 S.pur (.bin .add 3 false true v16 (.int .i64 1)) (fun v127 =>
 S.pur (.slice 224 v125 (some v127) none none) (fun v128 =>
 S.op (.blt .copy [224, 224] 3 [v121, v128]) w.drew (fun v129 w =>
 S.op (.mkIface 220 v102) w (fun v131 w =>
 K v131 w) Kp) Kp)))))))))) Kp))))))))) Kp) Kp) Kp) Kp) Kp) Kp) Kp) Kp))) Kp) Kp) Kp) Kp) Kp) Kp) Kp))) Kp))))))))))))))) Kp
theorem vc245_eq : vc245 S a0 a1 a2 a3 a4 w K Kp = fVC S [] [] Tryz.f245 [a0, a1, a2, a3, a4] w K Kp := by kernel_rfl
theorem vc245_calls (h : vc245 nP a0 a1 a2 a3 a4 w K Kp) : Calls Tryz.prog 245 #[a0, a1, a2, a3, a4] w (ret K Kp) :=
 fVC_sound (args := [a0, a1, a2, a3, a4]) nice_le follows_BVcI Tryz.func245 (by kernel_rfl) (Eq.mp vc245_eq h)
def vc246 (S : Sig) (a0 a1 a2 : Value) (w : World) (K : KV) (Kp : KP) : Prop :=
 S.call (.fn 247) [a0, a1, a2] w (fun v12 w =>
 S.pur (.nilCheck a0) (fun v15 =>
 S.pur (.fieldAddr 226 v15 0) (fun v16 =>
 S.ld (.load 224 v16) w.drew (fun v17 =>
 S.ld (.blt .len [224] 3 [v17]) w.drew (fun v18 =>
 S.pur (.bin .eql 3 false false v12 v18) (fun v19 =>
 Br v19 (
 K (.tuple #[(.int .i64 0), (.bool false)]) w.drew) (
 S.pur (.nilCheck a0) (fun v23 =>
 S.pur (.fieldAddr 226 v23 0) (fun v24 =>
 S.ld (.load 224 v24) w.drew (fun v25 =>
 S.pur (.indexAddr 224 v25 v12) (fun v27 =>
 S.pur (.fieldAddr 223 v27 0) (fun v28 =>
 S.ld (.load 2 v28) w.drew (fun v29 =>
 S.pur (.mkFunc (Fn.method "Compare") [a2] []) (fun v31 =>
 S.pur (.nilCheck v31) (fun v32 =>
 S.call (.inv a2 "Compare") [v29, a1] w.drew (fun v34 w =>
 S.pur (.bin .neq 3 false true v34 (.int .i64 0)) (fun v35 =>
 Br v35 (
 K (.tuple #[(.int .i64 0), (.bool false)]) w) (
 S.op (.nilCheck a0) w (fun v39 w =>
 S.op (.fieldAddr 226 v39 0) w (fun v40 w =>
 S.op (.load 224 v40) w (fun v41 w =>
 S.op (.indexAddr 224 v41 v12) w (fun v43 w =>
 S.op (.fieldAddr 223 v43 1) w (fun v44 w =>
 S.op (.load 2 v44) w (fun v45 w =>
 K (.tuple #[v45, (.bool true)]) w) Kp) Kp) Kp) Kp) Kp) Kp))) Kp))))))))))))))) Kp
theorem vc246_eq : vc246 S a0 a1 a2 w K Kp = fVC S [] [] Tryz.f246 [a0, a1, a2] w K Kp := by kernel_rfl
theorem vc246_calls (h : vc246 nP a0 a1 a2 w K Kp) : Calls Tryz.prog 246 #[a0, a1, a2] w (ret K Kp) :=
 fVC_sound (args := [a0, a1, a2]) nice_le follows_BVcI Tryz.func246 (by kernel_rfl) (Eq.mp vc246_eq h)
def vc247 (S : Sig) (a0 a1 a2 : Value) (w : World) (K : KV) (Kp : KP) : Prop :=
 S.op (.box 220 a0) w (fun v3 w =>
 S.op (.box 2 a1) w (fun v4 w =>
 S.op (.box 101 a2) w (fun v5 w =>
 S.op (.load 220 v3) w (fun v7 w =>
 S.op (.nilCheck v7) w (fun v8 w =>
 S.op (.fieldAddr 226 v8 0) w (fun v9 w =>
 S.op (.load 224 v9) w (fun v10 w =>
 S.op (.blt .len [224] 3 [v10]) w (fun v11 w =>
 S.op (.mkFunc (Fn.func 250) [] [v5, v3, v4]) w (fun v12 w =>
 S.call (.fn 241) [v11, v12] w (fun v13 w =>
 K v13 w) Kp) Kp) Kp) Kp) Kp) Kp) Kp) Kp) Kp) Kp
theorem vc247_eq : vc247 S a0 a1 a2 w K Kp = fVC S [] [] Tryz.f247 [a0, a1, a2] w K Kp := by kernel_rfl
theorem vc247_calls (h : vc247 nP a0 a1 a2 w K Kp) : Calls Tryz.prog 247 #[a0, a1, a2] w (ret K Kp) :=
 fVC_sound (args := [a0, a1, a2]) nice_le follows_BVcI Tryz.func247 (by kernel_rfl) (Eq.mp vc247_eq h)
def vc248 (S : Sig) (a0 : Value) (w : World) (K : KV) (Kp : KP) : Prop :=
 S.op (.nilCheck a0) w (fun v4 w =>
 S.op (.fieldAddr 226 v4 0) w (fun v5 w =>
 S.op (.load 224 v5) w (fun v6 w =>
 S.op (.indexAddr 224 v6 (.int .i64 0)) w (fun v7 w =>
 S.op (.fieldAddr 223 v7 0) w (fun v8 w =>
 S.op (.load 2 v8) w (fun v9 w =>
 K v9 w) Kp) Kp) Kp) Kp) Kp) Kp
theorem vc248_eq : vc248 S a0 w K Kp = fVC S [] [] Tryz.f248 [a0] w K Kp := by kernel_rfl
theorem vc248_calls (h : vc248 nP a0 w K Kp) : Calls Tryz.prog 248 #[a0] w (ret K Kp) :=
 fVC_sound (args := [a0]) nice_le follows_BVcI Tryz.func248 (by kernel_rfl) (Eq.mp vc248_eq h)
def vc249 (S : Sig) (a0 a1 a2 a3 a4 a5 : Value) (w : World) (K : KV) (Kp : KP) : Prop :=
 S.call (.fn 247) [a0, a1, a3] w (fun v26 w =>
 Jn fun (J3 : KV) =>
 (S.pur (.nilCheck a0) (fun v29 =>
 S.pur (.fieldAddr 226 v29 0) (fun v30 =>
 S.ld (.load 224 v30) w.drew (fun v31 =>
 S.ld (.blt .len [224] 3 [v31]) w.drew (fun v32 =>
 S.pur (.bin .lss 3 false false v26 v32) (fun v33 =>
 Br v33 (
 S.pur (.nilCheck a0) (fun v37 =>
 S.pur (.fieldAddr 226 v37 0) (fun v38 =>
 S.ld (.load 224 v38) w.drew (fun v39 =>
 S.pur (.indexAddr 224 v39 v26) (fun v41 =>
 S.pur (.fieldAddr 223 v41 0) (fun v42 =>
 S.ld (.load 2 v42) w.drew (fun v43 =>
 S.pur (.mkFunc (Fn.method "Compare") [a3] []) (fun v45 =>
 S.pur (.nilCheck v45) (fun v46 =>
 S.call (.inv a3 "Compare") [v43, a1] w.drew (fun v48 w =>
 S.pur (.bin .eql 3 false true v48 (.int .i64 0)) (fun v49 =>
 J3 v49 w)) Kp))))))))) (
 J3 (.bool false) w.drew))))))) ∧
 (∀ (w : World) (_ : Nat → Value) (j15 : Value), J3 j15 w →
 Br a4 (
 Jn fun (J8 : World → Prop) =>
 (S.op (.un .not j15) w (fun v53 w =>
 Br v53 (
 S.op (.nilCheck a5) w (fun v55 w =>
 S.op (.store 4 v55 (.bool true)) w (fun _ w =>
 S.op (.nilCheck a0) w (fun v58 w =>
 S.op (.fieldAddr 226 v58 0) w (fun v59 w =>
 S.op (.load 224 v59) w (fun v60 w =>
 S.op (.build 223 []) w (fun v61 w =>
 S.op (.buildSlice 224 1 [(0, v61)]) w (fun v62 w =>
 S.op (.blt .append [224, 224] 224 [v60, v62]) w (fun v63 w =>
 S.op (.nilCheck a0) w (fun v64 w =>
 S.op (.fieldAddr 226 v64 0) w (fun v65 w =>
 S.op (.store 224 v65 v63) w (fun _ w =>
 S.pur (.nilCheck a0) (fun v67 =>
 S.pur (.fieldAddr 226 v67 0) (fun v68 =>
 S.ld (.load 224 v68) w.drew (fun v69 =>
 S.pur (.bin .add 3 false true v26 (.int .i64 1)) (fun v71 =>
 S.pur (.slice 224 v69 (some v71) none none) (fun v72 =>
 S.pur (.nilCheck a0) (fun v74 =>
 S.pur (.fieldAddr 226 v74 0) (fun v75 =>
 S.ld (.load 224 v75) w.drew (fun v76 =>
 S.pur (.slice 224 v76 (some v26) none none) (fun v78 =>
 S.op (.blt .copy [224, 224] 3 [v72, v78]) w.drew (fun v79 w =>
 J8 w) Kp)))))))))) Kp) Kp) Kp) Kp) Kp) Kp) Kp) Kp) Kp) Kp) Kp) (
 J8 w)) Kp) ∧
 (∀ (w : World) (_ : Nat → Value), J8 w →
 S.op (.nilCheck a0) w (fun v81 w =>
 S.op (.fieldAddr 226 v81 0) w (fun v82 w =>
 S.op (.load 224 v82) w (fun v83 w =>
 S.op (.build 223 [(0, a1), (1, a2)]) w (fun v87 w =>
 S.op (.indexAddr 224 v83 v26) w (fun v88 w =>
 S.op (.store 223 v88 v87) w (fun _ w =>
 S.op (.nilCheck a0) w (fun v90 w =>
 S.op (.fieldAddr 226 v90 0) w (fun v91 w =>
 S.op (.load 224 v91) w (fun v92 w =>
 S.op (.blt .len [224] 3 [v92]) w (fun v93 w =>
 S.op (.bin .gtr 3 false true v93 (.int .i64 32)) w (fun v94 w =>
 Br v94 (
 S.op (.nilCheck a0) w (fun v96 w =>
 S.op (.fieldAddr 226 v96 0) w (fun v97 w =>
 S.op (.load 224 v97) w (fun v98 w =>
 S.op (.blt .len [224] 3 [v98]) w (fun v99 w =>
 S.op (.bin .quo 3 false true v99 (.int .i64 2)) w (fun v100 w =>
 S.op (.nilCheck a0) w (fun v102 w =>
 S.op (.fieldAddr 226 v102 0) w (fun v103 w =>
 S.op (.load 224 v103) w (fun v104 w =>
 S.op (.slice 224 v104 none (some v100) (some v100)) w (fun v107 w =>
 S.op (.build 226 [(0, v107)]) w (fun v108 w =>
 S.op (.box 226 v108) w (fun v109 w =>
 S.op (.nilCheck a0) w (fun v111 w =>
 S.op (.fieldAddr 226 v111 0) w (fun v112 w =>
 S.op (.load 224 v112) w (fun v113 w =>
 S.op (.slice 224 v113 (some v100) none none) w (fun v115 w =>
 S.op (.build 226 [(0, v115)]) w (fun v116 w =>
 S.op (.box 226 v116) w (fun v117 w =>
 S.op (.mkIface 220 v109) w (fun v119 w =>
 S.op (.mkIface 220 v117) w (fun v121 w =>
 K (.tuple #[v119, v121]) w) Kp) Kp) Kp) Kp) Kp) Kp) Kp) Kp) Kp) Kp) Kp) Kp) Kp) Kp) Kp) Kp) Kp) Kp) Kp) (
 S.op (.mkIface 220 a0) w (fun v123 w =>
 K (.tuple #[v123, .nilIface]) w) Kp)) Kp) Kp) Kp) Kp) Kp) Kp) Kp) Kp) Kp) Kp) Kp)) (
 Jn fun (J25 : KV) =>
 (Br j15 (
 S.op (.nilCheck a0) w (fun v126 w =>
 S.op (.fieldAddr 226 v126 0) w (fun v127 w =>
 S.op (.load 224 v127) w (fun v128 w =>
 S.op (.blt .len [224] 3 [v128]) w (fun v129 w =>
 S.op (.mkSlice 224 v129 v129) w (fun v130 w =>
 S.op (.nilCheck a0) w (fun v133 w =>
 S.op (.fieldAddr 226 v133 0) w (fun v134 w =>
 S.op (.load 224 v134) w (fun v135 w =>
 S.op (.blt .copy [224, 224] 3 [v130, v135]) w (fun v136 w =>
 S.op (.build 223 [(0, a1), (1, a2)]) w (fun v141 w =>
 S.op (.indexAddr 224 v130 v26) w (fun v142 w =>
 S.op (.store 223 v142 v141) w (fun _ w =>
 J25 v130 w) Kp) Kp) Kp) Kp) Kp) Kp) Kp) Kp) Kp) Kp) Kp) Kp) (
 S.op (.nilCheck a5) w (fun v144 w =>
 S.op (.store 4 v144 (.bool true)) w (fun _ w =>
 S.op (.nilCheck a0) w (fun v146 w =>
 S.op (.fieldAddr 226 v146 0) w (fun v147 w =>
 S.op (.load 224 v147) w (fun v148 w =>
 S.op (.blt .len [224] 3 [v148]) w (fun v149 w =>
 S.op (.bin .add 3 false true v149 (.int .i64 1)) w (fun v150 w =>
 S.op (.mkSlice 224 v150 v150) w (fun v151 w =>
 S.pur (.slice 224 v151 none (some v26) none) (fun v154 =>
 S.pur (.nilCheck a0) (fun v156 =>
 S.pur (.fieldAddr 226 v156 0) (fun v157 =>
 S.ld (.load 224 v157) w.drew (fun v158 =>
 S.pur (.slice 224 v158 none (some v26) none) (fun v160 =>
 S.op (.blt .copy [224, 224] 3 [v154, v160]) w.drew (fun v161 w =>
 S.op (.build 223 [(0, a1), (1, a2)]) w (fun v166 w =>
 S.op (.indexAddr 224 v151 v26) w (fun v167 w =>
 S.op (.store 223 v167 v166) w (fun _ w =>
 S.pur (.bin .add 3 false true v26 (.int .i64 1)) (fun v170 =>
 S.pur (.slice 224 v151 (some v170) none none) (fun v171 =>
 S.pur (.nilCheck a0) (fun v173 =>
 S.pur (.fieldAddr 226 v173 0) (fun v174 =>
 S.ld (.load 224 v174) w.drew (fun v175 =>
 S.pur (.slice 224 v175 (some v26) none none) (fun v177 =>
 S.op (.blt .copy [224, 224] 3 [v171, v177]) w.drew (fun v178 w =>
 J25 v151 w) Kp))))))) Kp) Kp) Kp) Kp)))))) Kp) Kp) Kp) Kp) Kp) Kp) Kp) Kp)) ∧
 (∀ (w : World) (_ : Nat → Value) (j19 : Value), J25 j19 w →
 S.op (.blt .len [224] 3 [j19]) w (fun v180 w =>
 S.op (.bin .gtr 3 false true v180 (.int .i64 32)) w (fun v181 w =>
 Br v181 (
 S.op (.blt .len [224] 3 [j19]) w (fun v183 w =>
 S.op (.bin .quo 3 false true v183 (.int .i64 2)) w (fun v184 w =>
 S.op (.slice 224 j19 none (some v184) (some v184)) w (fun v188 w =>
 S.op (.build 226 [(0, v188)]) w (fun v189 w =>
 S.op (.box 226 v189) w (fun v190 w =>
 S.op (.slice 224 j19 (some v184) none none) w (fun v193 w =>
 S.op (.build 226 [(0, v193)]) w (fun v194 w =>
 S.op (.box 226 v194) w (fun v195 w =>
 S.op (.mkIface 220 v190) w (fun v197 w =>
 S.op (.mkIface 220 v195) w (fun v199 w =>
 K (.tuple #[v197, v199]) w) Kp) Kp) Kp) Kp) Kp) Kp) Kp) Kp) Kp) Kp) (
 S.op (.build 226 [(0, j19)]) w (fun v201 w =>
 S.op (.box 226 v201) w (fun v202 w =>
 S.op (.mkIface 220 v202) w (fun v203 w =>
 K (.tuple #[v203, .nilIface]) w) Kp) Kp) Kp)) Kp) Kp)))) Kp
theorem vc249_eq : vc249 S a0 a1 a2 a3 a4 a5 w K Kp = fVC S [] [(3, [15]), (8, []), (25, [19])] Tryz.f249 [a0, a1, a2, a3, a4, a5] w K Kp := by kernel_rfl
theorem vc249_calls (h : vc249 nP a0 a1 a2 a3 a4 a5 w K Kp) : Calls Tryz.prog 249 #[a0, a1, a2, a3, a4, a5] w (ret K Kp) :=
 fVC_sound (args := [a0, a1, a2, a3, a4, a5]) nice_le follows_BVcI Tryz.func249 (by kernel_rfl) (Eq.mp vc249_eq h)
def vc250 (S : Sig) (a0 a1 a2 a3 : Value) (w : World) (K : KV) (Kp : KP) : Prop :=
 S.ld (.load 101 a1) w.drew (fun v6 =>
 S.ld (.load 220 a2) w.drew (fun v7 =>
 S.pur (.nilCheck v7) (fun v8 =>
 S.pur (.fieldAddr 226 v8 0) (fun v9 =>
 S.ld (.load 224 v9) w.drew (fun v10 =>
 S.pur (.indexAddr 224 v10 a0) (fun v12 =>
 S.pur (.fieldAddr 223 v12 0) (fun v13 =>
 S.ld (.load 2 v13) w.drew (fun v14 =>
 S.ld (.load 2 a3) w.drew (fun v15 =>
 S.pur (.mkFunc (Fn.method "Compare") [v6] []) (fun v16 =>
 S.pur (.nilCheck v16) (fun v17 =>
 S.call (.inv v6 "Compare") [v14, v15] w.drew (fun v19 w =>
 S.pur (.bin .neq 3 false true v19 (.int .i64 (-1))) (fun v20 =>
 K v20 w)) Kp)))))))))))
theorem vc250_eq : vc250 S a0 a1 a2 a3 w K Kp = fVC S [] [] Tryz.f250 [a0, a1, a2, a3] w K Kp := by kernel_rfl
theorem vc250_calls (h : vc250 nP a0 a1 a2 a3 w K Kp) : Calls Tryz.prog 250 #[a0, a1, a2, a3] w (ret K Kp) :=
 fVC_sound (args := [a0, a1, a2, a3]) nice_le follows_BVcI Tryz.func250 (by kernel_rfl) (Eq.mp vc250_eq h)
def vc257 (S : Sig) (a0 a1 a2 a3 a4 : Value) (w : World) (K : KV) (Kp : KP) : Prop :=
 S.call (.fn 259) [a0, a1, a2] w (fun v18 w =>
 S.op (.nilCheck a0) w (fun v20 w =>
 S.op (.fieldAddr 284 v20 0) w (fun v21 w =>
 S.op (.load 282 v21) w (fun v22 w =>
 S.op (.indexAddr 282 v22 v18) w (fun v24 w =>
 S.op (.fieldAddr 286 v24 1) w (fun v25 w =>
 S.op (.load 208 v25) w (fun v26 w =>
 S.call (.inv v26 "pub-bracken/pub/immutable.delete") [a1, a2, a3, a4] w (fun v31 w =>
 S.op (.nilCheck a4) w (fun v33 w =>
 S.op (.load 4 v33) w (fun v34 w =>
 S.op (.un .not v34) w (fun v35 w =>
 Br v35 (
 S.op (.mkIface 279 a0) w (fun v37 w =>
 K v37 w) Kp) (
 S.op (.bin .eql 208 false true v31 .nilIface) w (fun v39 w =>
 Br v39 (
 S.op (.nilCheck a0) w (fun v41 w =>
 S.op (.fieldAddr 284 v41 0) w (fun v42 w =>
 S.op (.load 282 v42) w (fun v43 w =>
 S.op (.blt .len [282] 3 [v43]) w (fun v44 w =>
 S.op (.bin .eql 3 false true v44 (.int .i64 1)) w (fun v45 w =>
 Br v45 (
 K .nilIface w) (
 Br a3 (
 S.pur (.nilCheck a0) (fun v48 =>
 S.pur (.fieldAddr 284 v48 0) (fun v49 =>
 S.ld (.load 282 v49) w.drew (fun v50 =>
 S.pur (.slice 282 v50 (some v18) none none) (fun v52 =>
 S.pur (.nilCheck a0) (fun v54 =>
 S.pur (.fieldAddr 284 v54 0) (fun v55 =>
 S.ld (.load 282 v55) w.drew (fun v56 =>
 S.pur (.bin .add 3 false true v18 (.int .i64 1)) (fun v58 =>
 S.pur (.slice 282 v56 (some v58) none none) (fun v59 =>
 S.op (.blt .copy [282, 282] 3 [v52, v59]) w.drew (fun v60 w =>
 S.pur (.nilCheck a0) (fun v62 =>
 S.pur (.fieldAddr 284 v62 0) (fun v63 =>
 S.ld (.load 282 v63) w.drew (fun v64 =>
 S.pur (.nilCheck a0) (fun v66 =>
 S.pur (.fieldAddr 284 v66 0) (fun v67 =>
 S.ld (.load 282 v67) w.drew (fun v68 =>
 S.ld (.blt .len [282] 3 [v68]) w.drew (fun v69 =>
 S.pur (.bin .sub 3 false true v69 (.int .i64 1)) (fun v70 =>
 S.pur (.build 286 []) (fun v71 =>
 S.pur (.indexAddr 282 v64 v70) (fun v72 =>
 S.op (.store 286 v72 v71) w.drew (fun _ w =>
 S.pur (.nilCheck a0) (fun v75 =>
 S.pur (.fieldAddr 284 v75 0) (fun v76 =>
 S.ld (.load 282 v76) w.drew (fun v77 =>
 S.pur (.nilCheck a0) (fun v79 =>
 S.pur (.fieldAddr 284 v79 0) (fun v80 =>
 S.ld (.load 282 v80) w.drew (fun v81 =>
 S.ld (.blt .len [282] 3 [v81]) w.drew (fun v82 =>
 S.pur (.bin .sub 3 false true v82 (.int .i64 1)) (fun v83 =>
 S.pur (.slice 282 v77 none (some v83) none) (fun v84 =>
 S.pur (.nilCheck a0) (fun v85 =>
 S.pur (.fieldAddr 284 v85 0) (fun v86 =>
 S.op (.store 282 v86 v84) w.drew (fun _ w =>
 S.op (.mkIface 279 a0) w (fun v88 w =>
 K v88 w) Kp) Kp)))))))))))) Kp))))))))))) Kp)))))))))) (
 S.op (.nilCheck a0) w (fun v90 w =>
 S.op (.fieldAddr 284 v90 0) w (fun v91 w =>
 S.op (.load 282 v91) w (fun v92 w =>
 S.op (.blt .len [282] 3 [v92]) w (fun v93 w =>
 S.op (.bin .sub 3 false true v93 (.int .i64 1)) w (fun v94 w =>
 S.op (.mkSlice 282 v94 v94) w (fun v95 w =>
 S.op (.build 284 [(0, v95)]) w (fun v96 w =>
 S.op (.box 284 v96) w (fun v97 w =>
 S.pur (.nilCheck v97) (fun v99 =>
 S.pur (.fieldAddr 284 v99 0) (fun v100 =>
 S.ld (.load 282 v100) w.drew (fun v101 =>
 S.pur (.slice 282 v101 none (some v18) none) (fun v103 =>
 S.pur (.nilCheck a0) (fun v105 =>
 S.pur (.fieldAddr 284 v105 0) (fun v106 =>
 S.ld (.load 282 v106) w.drew (fun v107 =>
 S.pur (.slice 282 v107 none (some v18) none) (fun v109 =>
 S.op (.blt .copy [282, 282] 3 [v103, v109]) w.drew (fun v110 w =>
 S.pur (.nilCheck v97) (fun v112 =>
 S.pur (.fieldAddr 284 v112 0) (fun v113 =>
 S.ld (.load 282 v113) w.drew (fun v114 =>
 S.pur (.slice 282 v114 (some v18) none none) (fun v116 =>
 S.pur (.nilCheck a0) (fun v118 =>
 S.pur (.fieldAddr 284 v118 0) (fun v119 =>
 S.ld (.load 282 v119) w.drew (fun v120 =>
 S.pur (.bin .add 3 false true v18 (.int .i64 1)) (fun v122 =>
 S.pur (.slice 282 v120 (some v122) none none) (fun v123 =>
 S.op (.blt .copy [282, 282] 3 [v116, v123]) w.drew (fun v124 w =>
 S.op (.mkIface 279 v97) w (fun v126 w =>
 K v126 w) Kp) Kp)))))))))) Kp))))))))) Kp) Kp) Kp) Kp) Kp) Kp) Kp) Kp))) Kp) Kp) Kp) Kp) Kp) (
 Br a3 (
 S.pur (.nilCheck a0) (fun v129 =>
 S.pur (.fieldAddr 284 v129 0) (fun v130 =>
 S.ld (.load 282 v130) w.drew (fun v131 =>
 S.call (.inv v31 "pub-bracken/pub/immutable.minKey") [] w.drew (fun v134 w =>
 S.same (.load 282 v130) v131 w ∧
 S.pur (.build 286 [(0, v134), (1, v31)]) (fun v136 =>
 S.pur (.indexAddr 282 v131 v18) (fun v137 =>
 S.op (.store 286 v137 v136) w (fun _ w =>
 S.op (.mkIface 279 a0) w (fun v139 w =>
 K v139 w) Kp) Kp))) Kp)))) (
 S.op (.nilCheck a0) w (fun v141 w =>
 S.op (.fieldAddr 284 v141 0) w (fun v142 w =>
 S.op (.load 282 v142) w (fun v143 w =>
 S.op (.blt .len [282] 3 [v143]) w (fun v144 w =>
 S.op (.mkSlice 282 v144 v144) w (fun v145 w =>
 S.op (.build 284 [(0, v145)]) w (fun v146 w =>
 S.op (.box 284 v146) w (fun v147 w =>
 S.pur (.nilCheck v147) (fun v149 =>
 S.pur (.fieldAddr 284 v149 0) (fun v150 =>
 S.ld (.load 282 v150) w.drew (fun v151 =>
 S.pur (.nilCheck a0) (fun v153 =>
 S.pur (.fieldAddr 284 v153 0) (fun v154 =>
 S.ld (.load 282 v154) w.drew (fun v155 =>
 S.op (.blt .copy [282, 282] 3 [v151, v155]) w.drew (fun v156 w =>
 S.pur (.nilCheck v147) (fun v158 =>
 S.pur (.fieldAddr 284 v158 0) (fun v159 =>
 S.ld (.load 282 v159) w.drew (fun v160 =>
 S.call (.inv v31 "pub-bracken/pub/immutable.minKey") [] w.drew (fun v163 w =>
 S.same (.load 282 v159) v160 w ∧
 S.pur (.build 286 [(0, v163), (1, v31)]) (fun v165 =>
 S.pur (.indexAddr 282 v160 v18) (fun v166 =>
 S.op (.store 286 v166 v165) w (fun _ w =>
 S.op (.mkIface 279 v147) w (fun v168 w =>
 K v168 w) Kp) Kp))) Kp)))) Kp))))))) Kp) Kp) Kp) Kp) Kp) Kp) Kp))) Kp)) Kp) Kp) Kp) Kp) Kp) Kp) Kp) Kp) Kp) Kp) Kp
theorem vc257_eq : vc257 S a0 a1 a2 a3 a4 w K Kp = fVC S [] [] Tryz.f257 [a0, a1, a2, a3, a4] w K Kp := by kernel_rfl
theorem vc257_calls (h : vc257 nP a0 a1 a2 a3 a4 w K Kp) : Calls Tryz.prog 257 #[a0, a1, a2, a3, a4] w (ret K Kp) :=
 fVC_sound (args := [a0, a1, a2, a3, a4]) nice_le follows_BVcI Tryz.func257 (by kernel_rfl) (Eq.mp vc257_eq h)
def vc258 (S : Sig) (a0 a1 a2 : Value) (w : World) (K : KV) (Kp : KP) : Prop :=
 S.call (.fn 259) [a0, a1, a2] w (fun v12 w =>
 S.op (.nilCheck a0) w (fun v14 w =>
 S.op (.fieldAddr 284 v14 0) w (fun v15 w =>
 S.op (.load 282 v15) w (fun v16 w =>
 S.op (.indexAddr 282 v16 v12) w (fun v18 w =>
 S.op (.fieldAddr 286 v18 1) w (fun v19 w =>
 S.op (.load 208 v19) w (fun v20 w =>
 S.call (.inv v20 "pub-bracken/pub/immutable.get") [a1, a2] w (fun v23 w =>
 S.op (.extract v23 0) w (fun v24 w =>
 S.op (.extract v23 1) w (fun v25 w =>
 K (.tuple #[v24, v25]) w) Kp) Kp) Kp) Kp) Kp) Kp) Kp) Kp) Kp) Kp
theorem vc258_eq : vc258 S a0 a1 a2 w K Kp = fVC S [] [] Tryz.f258 [a0, a1, a2] w K Kp := by kernel_rfl
theorem vc258_calls (h : vc258 nP a0 a1 a2 w K Kp) : Calls Tryz.prog 258 #[a0, a1, a2] w (ret K Kp) :=
 fVC_sound (args := [a0, a1, a2]) nice_le follows_BVcI Tryz.func258 (by kernel_rfl) (Eq.mp vc258_eq h)
def vc259 (S : Sig) (a0 a1 a2 : Value) (w : World) (K : KV) (Kp : KP) : Prop :=
 S.op (.box 279 a0) w (fun v3 w =>
 S.op (.box 2 a1) w (fun v4 w =>
 S.op (.box 101 a2) w (fun v5 w =>
 S.op (.load 279 v3) w (fun v8 w =>
 S.op (.nilCheck v8) w (fun v9 w =>
 S.op (.fieldAddr 284 v9 0) w (fun v10 w =>
 S.op (.load 282 v10) w (fun v11 w =>
 S.op (.blt .len [282] 3 [v11]) w (fun v12 w =>
 S.op (.mkFunc (Fn.func 262) [] [v5, v3, v4]) w (fun v13 w =>
 S.call (.fn 241) [v12, v13] w (fun v14 w =>
 S.op (.bin .gtr 3 false true v14 (.int .i64 0)) w (fun v16 w =>
 Br v16 (
 S.op (.bin .sub 3 false true v14 (.int .i64 1)) w (fun v18 w =>
 K v18 w) Kp) (
 K (.int .i64 0) w)) Kp) Kp) Kp) Kp) Kp) Kp) Kp) Kp) Kp) Kp) Kp
theorem vc259_eq : vc259 S a0 a1 a2 w K Kp = fVC S [] [] Tryz.f259 [a0, a1, a2] w K Kp := by kernel_rfl
theorem vc259_calls (h : vc259 nP a0 a1 a2 w K Kp) : Calls Tryz.prog 259 #[a0, a1, a2] w (ret K Kp) :=
 fVC_sound (args := [a0, a1, a2]) nice_le follows_BVcI Tryz.func259 (by kernel_rfl) (Eq.mp vc259_eq h)
def vc260 (S : Sig) (a0 : Value) (w : World) (K : KV) (Kp : KP) : Prop :=
 S.op (.nilCheck a0) w (fun v4 w =>
 S.op (.fieldAddr 284 v4 0) w (fun v5 w =>
 S.op (.load 282 v5) w (fun v6 w =>
 S.op (.indexAddr 282 v6 (.int .i64 0)) w (fun v7 w =>
 S.op (.fieldAddr 286 v7 1) w (fun v8 w =>
 S.op (.load 208 v8) w (fun v9 w =>
 S.call (.inv v9 "pub-bracken/pub/immutable.minKey") [] w (fun v10 w =>
 K v10 w) Kp) Kp) Kp) Kp) Kp) Kp) Kp
theorem vc260_eq : vc260 S a0 w K Kp = fVC S [] [] Tryz.f260 [a0] w K Kp := by kernel_rfl
theorem vc260_calls (h : vc260 nP a0 w K Kp) : Calls Tryz.prog 260 #[a0] w (ret K Kp) :=
 fVC_sound (args := [a0]) nice_le follows_BVcI Tryz.func260 (by kernel_rfl) (Eq.mp vc260_eq h)
def vc261 (S : Sig) (a0 a1 a2 a3 a4 a5 : Value) (w : World) (K : KV) (Kp : KP) : Prop :=
 S.call (.fn 259) [a0, a1, a3] w (fun v27 w =>
 S.op (.nilCheck a0) w (fun v30 w =>
 S.op (.fieldAddr 284 v30 0) w (fun v31 w =>
 S.op (.load 282 v31) w (fun v32 w =>
 S.op (.indexAddr 282 v32 v27) w (fun v34 w =>
 S.op (.fieldAddr 286 v34 1) w (fun v35 w =>
 S.op (.load 208 v35) w (fun v36 w =>
 S.call (.inv v36 "pub-bracken/pub/immutable.set") [a1, a2, a3, a4, a5] w (fun v42 w =>
 S.op (.extract v42 0) w (fun v43 w =>
 S.op (.extract v42 1) w (fun v44 w =>
 Br a4 (
 S.pur (.nilCheck a0) (fun v47 =>
 S.pur (.fieldAddr 284 v47 0) (fun v48 =>
 S.ld (.load 282 v48) w.drew (fun v49 =>
 S.call (.inv v43 "pub-bracken/pub/immutable.minKey") [] w.drew (fun v52 w =>
 S.same (.load 282 v48) v49 w ∧
 S.pur (.build 286 [(0, v52), (1, v43)]) (fun v54 =>
 S.pur (.indexAddr 282 v49 v27) (fun v55 =>
 S.op (.store 286 v55 v54) w (fun _ w =>
 Jn fun (J9 : World → Prop) =>
 (S.op (.bin .neq 208 false true v44 .nilIface) w (fun v57 w =>
 Br v57 (
 S.op (.nilCheck a0) w (fun v60 w =>
 S.op (.fieldAddr 284 v60 0) w (fun v61 w =>
 S.op (.load 282 v61) w (fun v62 w =>
 S.op (.build 286 []) w (fun v63 w =>
 S.op (.buildSlice 282 1 [(0, v63)]) w (fun v64 w =>
 S.op (.blt .append [282, 282] 282 [v62, v64]) w (fun v65 w =>
 S.op (.nilCheck a0) w (fun v66 w =>
 S.op (.fieldAddr 284 v66 0) w (fun v67 w =>
 S.op (.store 282 v67 v65) w (fun _ w =>
 S.pur (.nilCheck a0) (fun v69 =>
 S.pur (.fieldAddr 284 v69 0) (fun v70 =>
 S.ld (.load 282 v70) w.drew (fun v71 =>
 S.pur (.bin .add 3 false true v27 (.int .i64 1)) (fun v73 =>
 S.pur (.slice 282 v71 (some v73) none none) (fun v74 =>
 S.pur (.nilCheck a0) (fun v76 =>
 S.pur (.fieldAddr 284 v76 0) (fun v77 =>
 S.ld (.load 282 v77) w.drew (fun v78 =>
 S.pur (.slice 282 v78 (some v27) none none) (fun v80 =>
 S.op (.blt .copy [282, 282] 3 [v74, v80]) w.drew (fun v81 w =>
 S.pur (.nilCheck a0) (fun v83 =>
 S.pur (.fieldAddr 284 v83 0) (fun v84 =>
 S.ld (.load 282 v84) w.drew (fun v85 =>
 S.pur (.bin .add 3 false true v27 (.int .i64 1)) (fun v87 =>
 S.call (.inv v44 "pub-bracken/pub/immutable.minKey") [] w.drew (fun v89 w =>
 S.same (.load 282 v84) v85 w ∧
 S.pur (.build 286 [(0, v89), (1, v44)]) (fun v91 =>
 S.pur (.indexAddr 282 v85 v87) (fun v92 =>
 S.op (.store 286 v92 v91) w (fun _ w =>
 J9 w) Kp))) Kp))))) Kp)))))))))) Kp) Kp) Kp) Kp) Kp) Kp) Kp) Kp) Kp) (
 J9 w)) Kp) ∧
 (∀ (w : World) (_ : Nat → Value), J9 w →
 S.op (.nilCheck a0) w (fun v94 w =>
 S.op (.fieldAddr 284 v94 0) w (fun v95 w =>
 S.op (.load 282 v95) w (fun v96 w =>
 S.op (.blt .len [282] 3 [v96]) w (fun v97 w =>
 S.op (.bin .gtr 3 false true v97 (.int .i64 32)) w (fun v98 w =>
 Br v98 (
 S.op (.nilCheck a0) w (fun v100 w =>
 S.op (.fieldAddr 284 v100 0) w (fun v101 w =>
 S.op (.load 282 v101) w (fun v102 w =>
 S.op (.blt .len [282] 3 [v102]) w (fun v103 w =>
 S.op (.bin .quo 3 false true v103 (.int .i64 2)) w (fun v104 w =>
 S.op (.nilCheck a0) w (fun v106 w =>
 S.op (.fieldAddr 284 v106 0) w (fun v107 w =>
 S.op (.load 282 v107) w (fun v108 w =>
 S.op (.slice 282 v108 none (some v104) (some v104)) w (fun v111 w =>
 S.op (.build 284 [(0, v111)]) w (fun v112 w =>
 S.op (.box 284 v112) w (fun v113 w =>
 S.op (.nilCheck a0) w (fun v115 w =>
 S.op (.fieldAddr 284 v115 0) w (fun v116 w =>
 S.op (.load 282 v116) w (fun v117 w =>
 S.op (.slice 282 v117 (some v104) none none) w (fun v119 w =>
 S.op (.build 284 [(0, v119)]) w (fun v120 w =>
 S.op (.box 284 v120) w (fun v121 w =>
 S.op (.mkIface 279 v113) w (fun v123 w =>
 S.op (.mkIface 279 v121) w (fun v125 w =>
 K (.tuple #[v123, v125]) w) Kp) Kp) Kp) Kp) Kp) Kp) Kp) Kp) Kp) Kp) Kp) Kp) Kp) Kp) Kp) Kp) Kp) Kp) Kp) (
 S.op (.mkIface 279 a0) w (fun v127 w =>
 K (.tuple #[v127, .nilIface]) w) Kp)) Kp) Kp) Kp) Kp) Kp)) Kp))) Kp)))) (
 S.op (.alloc 284) w (fun v20 w =>
 Jn fun (J25 : World → Prop) =>
 (S.op (.bin .eql 208 false true v44 .nilIface) w (fun v129 w =>
 Br v129 (
 S.op (.nilCheck a0) w (fun v131 w =>
 S.op (.fieldAddr 284 v131 0) w (fun v132 w =>
 S.op (.load 282 v132) w (fun v133 w =>
 S.op (.blt .len [282] 3 [v133]) w (fun v134 w =>
 S.op (.mkSlice 282 v134 v134) w (fun v135 w =>
 S.op (.fieldAddr 284 v20 0) w (fun v136 w =>
 S.op (.store 282 v136 v135) w (fun _ w =>
 S.pur (.fieldAddr 284 v20 0) (fun v137 =>
 S.ld (.load 282 v137) w.drew (fun v138 =>
 S.pur (.nilCheck a0) (fun v140 =>
 S.pur (.fieldAddr 284 v140 0) (fun v141 =>
 S.ld (.load 282 v141) w.drew (fun v142 =>
 S.op (.blt .copy [282, 282] 3 [v138, v142]) w.drew (fun v143 w =>
 S.pur (.fieldAddr 284 v20 0) (fun v144 =>
 S.ld (.load 282 v144) w.drew (fun v145 =>
 S.call (.inv v43 "pub-bracken/pub/immutable.minKey") [] w.drew (fun v148 w =>
 S.same (.load 282 v144) v145 w ∧
 S.pur (.build 286 [(0, v148), (1, v43)]) (fun v150 =>
 S.pur (.indexAddr 282 v145 v27) (fun v151 =>
 S.op (.store 286 v151 v150) w (fun _ w =>
 J25 w) Kp))) Kp))) Kp)))))) Kp) Kp) Kp) Kp) Kp) Kp) Kp) (
 S.op (.nilCheck a0) w (fun v153 w =>
 S.op (.fieldAddr 284 v153 0) w (fun v154 w =>
 S.op (.load 282 v154) w (fun v155 w =>
 S.op (.blt .len [282] 3 [v155]) w (fun v156 w =>
 S.op (.bin .add 3 false true v156 (.int .i64 1)) w (fun v157 w =>
 S.op (.mkSlice 282 v157 v157) w (fun v158 w =>
 S.op (.fieldAddr 284 v20 0) w (fun v159 w =>
 S.op (.store 282 v159 v158) w (fun _ w =>
 S.pur (.fieldAddr 284 v20 0) (fun v160 =>
 S.ld (.load 282 v160) w.drew (fun v161 =>
 S.pur (.slice 282 v161 none (some v27) none) (fun v163 =>
 S.pur (.nilCheck a0) (fun v165 =>
 S.pur (.fieldAddr 284 v165 0) (fun v166 =>
 S.ld (.load 282 v166) w.drew (fun v167 =>
 S.pur (.slice 282 v167 none (some v27) none) (fun v169 =>
 S.op (.blt .copy [282, 282] 3 [v163, v169]) w.drew (fun v170 w =>
 S.pur (.fieldAddr 284 v20 0) (fun v171 =>
 S.ld (.load 282 v171) w.drew (fun v172 =>
 S.pur (.bin .add 3 false true v27 (.int .i64 1)) (fun v174 =>
 S.pur (.slice 282 v172 (some v174) none none) (fun v175 =>
 S.pur (.nilCheck a0) (fun v177 =>
 S.pur (.fieldAddr 284 v177 0) (fun v178 =>
 S.ld (.load 282 v178) w.drew (fun v179 =>
 S.pur (.slice 282 v179 (some v27) none none) (fun v181 =>
 S.op (.blt .copy [282, 282] 3 [v175, v181]) w.drew (fun v182 w =>
 S.pur (.fieldAddr 284 v20 0) (fun v183 =>
 S.ld (.load 282 v183) w.drew (fun v184 =>
 S.call (.inv v43 "pub-bracken/pub/immutable.minKey") [] w.drew (fun v187 w =>
 S.same (.load 282 v183) v184 w ∧
 S.pur (.build 286 [(0, v187), (1, v43)]) (fun v189 =>
 S.pur (.indexAddr 282 v184 v27) (fun v190 =>
 S.op (.store 286 v190 v189) w (fun _ w =>
 S.pur (.fieldAddr 284 v20 0) (fun v191 =>
 S.ld (.load 282 v191) w.drew (fun v192 =>
 S.pur (.bin .add 3 false true v27 (.int .i64 1)) (fun v194 =>
 S.call (.inv v44 "pub-bracken/pub/immutable.minKey") [] w.drew (fun v196 w =>
 S.same (.load 282 v191) v192 w ∧
 S.pur (.build 286 [(0, v196), (1, v44)]) (fun v198 =>
 S.pur (.indexAddr 282 v192 v194) (fun v199 =>
 S.op (.store 286 v199 v198) w (fun _ w =>
 J25 w) Kp))) Kp)))) Kp))) Kp))) Kp))))))))) Kp)))))))) Kp) Kp) Kp) Kp) Kp) Kp) Kp) Kp)) Kp) ∧
 (∀ (w : World) (_ : Nat → Value), J25 w →
 S.op (.fieldAddr 284 v20 0) w (fun v200 w =>
 S.op (.load 282 v200) w (fun v201 w =>
 S.op (.blt .len [282] 3 [v201]) w (fun v202 w =>
 S.op (.bin .gtr 3 false true v202 (.int .i64 32)) w (fun v203 w =>
 Br v203 (
 S.op (.fieldAddr 284 v20 0) w (fun v204 w =>
 S.op (.load 282 v204) w (fun v205 w =>
 S.op (.blt .len [282] 3 [v205]) w (fun v206 w =>
 S.op (.bin .quo 3 false true v206 (.int .i64 2)) w (fun v207 w =>
 S.op (.fieldAddr 284 v20 0) w (fun v208 w =>
 S.op (.load 282 v208) w (fun v209 w =>
 S.op (.slice 282 v209 none (some v207) (some v207)) w (fun v212 w =>
 S.op (.build 284 [(0, v212)]) w (fun v213 w =>
 S.op (.box 284 v213) w (fun v214 w =>
 S.op (.fieldAddr 284 v20 0) w (fun v215 w =>
 S.op (.load 282 v215) w (fun v216 w =>
 S.op (.slice 282 v216 (some v207) none none) w (fun v218 w =>
 S.op (.build 284 [(0, v218)]) w (fun v219 w =>
 S.op (.box 284 v219) w (fun v220 w =>
 S.op (.mkIface 279 v214) w (fun v222 w =>
 S.op (.mkIface 279 v220) w (fun v224 w =>
 K (.tuple #[v222, v224]) w) Kp) Kp) Kp) Kp) Kp) Kp) Kp) Kp) Kp) Kp) Kp) Kp) Kp) Kp) Kp) Kp) (
 S.op (.mkIface 279 v20) w (fun v225 w =>
 K (.tuple #[v225, .nilIface]) w) Kp)) Kp) Kp) Kp) Kp)) Kp)) Kp) Kp) Kp) Kp) Kp) Kp) Kp) Kp) Kp) Kp
theorem vc261_eq : vc261 S a0 a1 a2 a3 a4 a5 w K Kp = fVC S [] [(9, []), (25, [])] Tryz.f261 [a0, a1, a2, a3, a4, a5] w K Kp := by kernel_rfl
theorem vc261_calls (h : vc261 nP a0 a1 a2 a3 a4 a5 w K Kp) : Calls Tryz.prog 261 #[a0, a1, a2, a3, a4, a5] w (ret K Kp) :=
 fVC_sound (args := [a0, a1, a2, a3, a4, a5]) nice_le follows_BVcI Tryz.func261 (by kernel_rfl) (Eq.mp vc261_eq h)
def vc262 (S : Sig) (a0 a1 a2 a3 : Value) (w : World) (K : KV) (Kp : KP) : Prop :=
 S.ld (.load 101 a1) w.drew (fun v6 =>
 S.ld (.load 279 a2) w.drew (fun v7 =>
 S.pur (.nilCheck v7) (fun v8 =>
 S.pur (.fieldAddr 284 v8 0) (fun v9 =>
 S.ld (.load 282 v9) w.drew (fun v10 =>
 S.pur (.indexAddr 282 v10 a0) (fun v12 =>
 S.pur (.fieldAddr 286 v12 0) (fun v13 =>
 S.ld (.load 2 v13) w.drew (fun v14 =>
 S.ld (.load 2 a3) w.drew (fun v15 =>
 S.pur (.mkFunc (Fn.method "Compare") [v6] []) (fun v16 =>
 S.pur (.nilCheck v16) (fun v17 =>
 S.call (.inv v6 "Compare") [v14, v15] w.drew (fun v19 w =>
 S.pur (.bin .eql 3 false true v19 (.int .i64 1)) (fun v20 =>
 K v20 w)) Kp)))))))))))
theorem vc262_eq : vc262 S a0 a1 a2 a3 w K Kp = fVC S [] [] Tryz.f262 [a0, a1, a2, a3] w K Kp := by kernel_rfl
theorem vc262_calls (h : vc262 nP a0 a1 a2 a3 w K Kp) : Calls Tryz.prog 262 #[a0, a1, a2, a3] w (ret K Kp) :=
 fVC_sound (args := [a0, a1, a2, a3]) nice_le follows_BVcI Tryz.func262 (by kernel_rfl) (Eq.mp vc262_eq h)
def vc192 (S : Sig) (a0 : Value) (w : World) (K : KV) (Kp : KP) : Prop :=
 S.op (.blt .len [353] 3 [a0]) w (fun v7 w =>
 S.op (.mkSlice 282 v7 v7) w (fun v8 w =>
 S.op (.blt .len [353] 3 [a0]) w (fun v10 w =>
 Lp fun (I3 : KV) (μ3 : Value → World → Nat) => I3 (.int .i64 0) w ∧
 ∀ (wl3 : World) (_ : Nat → Value) (s11 : Value), I3 s11 wl3 →
 S.op (.bin .lss 3 false false s11 v10) wl3 (fun v12 w =>
 Br v12 (
 S.op (.indexAddr 353 a0 s11) w (fun v14 w =>
 S.op (.load 208 v14) w (fun v15 w =>
 S.call (.inv v15 "pub-bracken/pub/immutable.minKey") [] w (fun v19 w =>
 S.op (.build 286 [(0, v19), (1, v15)]) w (fun v21 w =>
 S.op (.indexAddr 282 v8 s11) w (fun v22 w =>
 S.op (.store 286 v22 v21) w (fun _ w =>
 S.op (.bin .add 3 false true s11 (.int .i64 1)) w (fun v23 w =>
 I3 v23 w ∧ μ3 v23 w < μ3 s11 wl3) Kp) Kp) Kp) Kp) Kp) Kp) Kp) (
 S.op (.build 284 [(0, v8)]) w (fun v25 w =>
 S.op (.box 284 v25) w (fun v26 w =>
 K v26 w) Kp) Kp)) Kp) Kp) Kp) Kp
theorem vc192_eq : vc192 S a0 w K Kp = fVC S [(3, [11])] [] Tryz.f192 [a0] w K Kp := by kernel_rfl
theorem vc192_calls (h : vc192 nP a0 w K Kp) : Calls Tryz.prog 192 #[a0] w (ret K Kp) :=
 fVC_sound (args := [a0]) nice_le follows_BVcI Tryz.func192 (by kernel_rfl) (Eq.mp vc192_eq h)
def vc80 (S : Sig) (a0 a1 a2 : Value) (w : World) (K : KV) (Kp : KP) : Prop :=
 S.call (.fn 146) [a0, a1, a2, (.bool false)] w (fun v10 w =>
 K v10 w) Kp
theorem vc80_eq : vc80 S a0 a1 a2 w K Kp = fVC S [] [] Tryz.f80 [a0, a1, a2] w K Kp := by kernel_rfl
theorem vc80_calls (h : vc80 nP a0 a1 a2 w K Kp) : Calls Tryz.prog 80 #[a0, a1, a2] w (ret K Kp) :=
 fVC_sound (args := [a0, a1, a2]) nice_le follows_BVcI Tryz.func80 (by kernel_rfl) (Eq.mp vc80_eq h)
def vc146 (S : Sig) (a0 a1 a2 a3 : Value) (w : World) (K : KV) (Kp : KP) : Prop :=
 S.op (.nilCheck a0) w (fun v15 w =>
 S.op (.fieldAddr 210 v15 2) w (fun v16 w =>
 S.op (.load 101 v16) w (fun v17 w =>
 Jn fun (J4 : KV) =>
 (S.op (.bin .eql 101 false true v17 .nilIface) w (fun v19 w =>
 Br v19 (
 S.call (.fn 190) [a1] w (fun v21 w =>
 J4 v21 w) Kp) (
 J4 v17 w)) Kp) ∧
 (∀ (w : World) (_ : Nat → Value) (j9 : Value), J4 j9 w →
 Jn fun (J7 : KV) =>
 (S.op (.un .not a3) w (fun v24 w =>
 Br v24 (
 S.call (.fn 191) [a0] w (fun v26 w =>
 J7 v26 w) Kp) (
 J7 a0 w)) Kp) ∧
 (∀ (w : World) (_ : Nat → Value) (j10 : Value), J7 j10 w →
 S.op (.nilCheck j10) w (fun v29 w =>
 S.op (.fieldAddr 210 v29 2) w (fun v30 w =>
 S.op (.store 101 v30 j9) w (fun _ w =>
 S.op (.nilCheck a0) w (fun v32 w =>
 S.op (.fieldAddr 210 v32 1) w (fun v33 w =>
 S.op (.load 208 v33) w (fun v34 w =>
 S.op (.bin .eql 208 false true v34 .nilIface) w (fun v35 w =>
 Br v35 (
 S.op (.nilCheck j10) w (fun v37 w =>
 S.op (.fieldAddr 210 v37 0) w (fun v38 w =>
 S.op (.store 3 v38 (.int .i64 1)) w (fun _ w =>
 S.op (.build 223 [(0, a1), (1, a2)]) w (fun v42 w =>
 S.op (.buildSlice 224 1 [(0, v42)]) w (fun v43 w =>
 S.op (.build 226 [(0, v43)]) w (fun v44 w =>
 S.op (.box 226 v44) w (fun v45 w =>
 S.op (.mkIface 220 v45) w (fun v46 w =>
 S.op (.nilCheck j10) w (fun v47 w =>
 S.op (.fieldAddr 210 v47 1) w (fun v48 w =>
 S.op (.store 208 v48 v46) w (fun _ w =>
 K j10 w) Kp) Kp) Kp) Kp) Kp) Kp) Kp) Kp) Kp) Kp) Kp) (
 S.op (.alloc 4) w (fun v11 w =>
 S.op (.nilCheck a0) w (fun v52 w =>
 S.op (.fieldAddr 210 v52 1) w (fun v53 w =>
 S.op (.load 208 v53) w (fun v54 w =>
 S.call (.inv v54 "pub-bracken/pub/immutable.set") [a1, a2, j9, a3, v11] w (fun v59 w =>
 S.op (.extract v59 0) w (fun v60 w =>
 S.op (.extract v59 1) w (fun v61 w =>
 Jn fun (J16 : KV) =>
 (S.op (.bin .neq 208 false true v61 .nilIface) w (fun v63 w =>
 Br v63 (
 S.op (.buildSlice 353 2 [(0, v60), (1, v61)]) w (fun v66 w =>
 S.call (.fn 192) [v66] w (fun v67 w =>
 S.op (.mkIface 279 v67) w (fun v68 w =>
 J16 v68 w) Kp) Kp) Kp) (
 J16 v60 w)) Kp) ∧
 (∀ (w : World) (_ : Nat → Value) (j12 : Value), J16 j12 w →
 S.op (.nilCheck a0) w (fun v71 w =>
 S.op (.fieldAddr 210 v71 0) w (fun v72 w =>
 S.op (.load 3 v72) w (fun v73 w =>
 S.op (.nilCheck j10) w (fun v74 w =>
 S.op (.fieldAddr 210 v74 0) w (fun v75 w =>
 S.op (.store 3 v75 v73) w (fun _ w =>
 S.op (.nilCheck j10) w (fun v78 w =>
 S.op (.fieldAddr 210 v78 1) w (fun v79 w =>
 S.op (.store 208 v79 j12) w (fun _ w =>
 S.op (.load 4 v11) w (fun v80 w =>
 Br v80 (
 S.op (.nilCheck j10) w (fun v82 w =>
 S.op (.fieldAddr 210 v82 0) w (fun v83 w =>
 S.op (.load 3 v83) w (fun v84 w =>
 S.op (.bin .add 3 false true v84 (.int .i64 1)) w (fun v85 w =>
 S.op (.nilCheck j10) w (fun v86 w =>
 S.op (.fieldAddr 210 v86 0) w (fun v87 w =>
 S.op (.store 3 v87 v85) w (fun _ w =>
 K j10 w) Kp) Kp) Kp) Kp) Kp) Kp) Kp) (
 K j10 w)) Kp) Kp) Kp) Kp) Kp) Kp) Kp) Kp) Kp) Kp)) Kp) Kp) Kp) Kp) Kp) Kp) Kp)) Kp) Kp) Kp) Kp) Kp) Kp) Kp))) Kp) Kp) Kp
theorem vc146_eq : vc146 S a0 a1 a2 a3 w K Kp = fVC S [] [(4, [9]), (7, [10]), (16, [12])] Tryz.f146 [a0, a1, a2, a3] w K Kp := by kernel_rfl
theorem vc146_calls (h : vc146 nP a0 a1 a2 a3 w K Kp) : Calls Tryz.prog 146 #[a0, a1, a2, a3] w (ret K Kp) :=
 fVC_sound (args := [a0, a1, a2, a3]) nice_le follows_BVcI Tryz.func146 (by kernel_rfl) (Eq.mp vc146_eq h)
def vc147 (S : Sig) (a0 a1 a2 : Value) (w : World) (K : KV) (Kp : KP) : Prop :=
 S.op (.nilCheck a0) w (fun v11 w =>
 S.op (.fieldAddr 210 v11 1) w (fun v12 w =>
 S.op (.load 208 v12) w (fun v13 w =>
 S.op (.bin .eql 208 false true v13 .nilIface) w (fun v14 w =>
 Br v14 (
 K a0 w) (
 S.op (.alloc 4) w (fun v7 w =>
 S.pur (.nilCheck a0) (fun v17 =>
 S.pur (.fieldAddr 210 v17 1) (fun v18 =>
 S.ld (.load 208 v18) w.drew (fun v19 =>
 S.pur (.nilCheck a0) (fun v22 =>
 S.pur (.fieldAddr 210 v22 2) (fun v23 =>
 S.ld (.load 101 v23) w.drew (fun v24 =>
 S.pur (.nilCheck v19) (fun v26 =>
 S.call (.inv v19 "pub-bracken/pub/immutable.delete") [a1, v24, a2, v7] w.drew (fun v28 w =>
 S.op (.load 4 v7) w (fun v29 w =>
 S.op (.un .not v29) w (fun v30 w =>
 Br v30 (
 K a0 w) (
 S.op (.un .not a2) w (fun v34 w =>
 Br v34 (
 S.call (.fn 191) [a0] w (fun v36 w =>
 S.op (.nilCheck a0) w (fun v39 w =>
 S.op (.fieldAddr 210 v39 0) w (fun v40 w =>
 S.op (.load 3 v40) w (fun v41 w =>
 S.op (.bin .sub 3 false true v41 (.int .i64 1)) w (fun v42 w =>
 S.op (.nilCheck v36) w (fun v43 w =>
 S.op (.fieldAddr 210 v43 0) w (fun v44 w =>
 S.op (.store 3 v44 v42) w (fun _ w =>
 S.op (.nilCheck v36) w (fun v47 w =>
 S.op (.fieldAddr 210 v47 1) w (fun v48 w =>
 S.op (.store 208 v48 v28) w (fun _ w =>
 K v36 w) Kp) Kp) Kp) Kp) Kp) Kp) Kp) Kp) Kp) Kp) Kp) (
 S.op (.nilCheck a0) w (fun v39 w =>
 S.op (.fieldAddr 210 v39 0) w (fun v40 w =>
 S.op (.load 3 v40) w (fun v41 w =>
 S.op (.bin .sub 3 false true v41 (.int .i64 1)) w (fun v42 w =>
 S.op (.nilCheck a0) w (fun v43 w =>
 S.op (.fieldAddr 210 v43 0) w (fun v44 w =>
 S.op (.store 3 v44 v42) w (fun _ w =>
 S.op (.nilCheck a0) w (fun v47 w =>
 S.op (.fieldAddr 210 v47 1) w (fun v48 w =>
 S.op (.store 208 v48 v28) w (fun _ w =>
 K a0 w) Kp) Kp) Kp) Kp) Kp) Kp) Kp) Kp) Kp) Kp)) Kp)) Kp) Kp) Kp)))))))) Kp)) Kp) Kp) Kp) Kp
theorem vc147_eq : vc147 S a0 a1 a2 w K Kp = fVC S [] [] Tryz.f147 [a0, a1, a2] w K Kp := by kernel_rfl
theorem vc147_calls (h : vc147 nP a0 a1 a2 w K Kp) : Calls Tryz.prog 147 #[a0, a1, a2] w (ret K Kp) :=
 fVC_sound (args := [a0, a1, a2]) nice_le follows_BVcI Tryz.func147 (by kernel_rfl) (Eq.mp vc147_eq h)
def vc82 (S : Sig) (a0 a1 : Value) (w : World) (K : KV) (Kp : KP) : Prop :=
 S.op (.nilCheck a0) w (fun v8 w =>
 S.op (.fieldAddr 210 v8 1) w (fun v9 w =>
 S.op (.load 208 v9) w (fun v10 w =>
 S.op (.bin .eql 208 false true v10 .nilIface) w (fun v11 w =>
 Br v11 (
 K (.tuple #[(.int .i64 0), (.bool false)]) w) (
 S.pur (.nilCheck a0) (fun v14 =>
 S.pur (.fieldAddr 210 v14 1) (fun v15 =>
 S.ld (.load 208 v15) w.drew (fun v16 =>
 S.pur (.nilCheck a0) (fun v19 =>
 S.pur (.fieldAddr 210 v19 2) (fun v20 =>
 S.ld (.load 101 v20) w.drew (fun v21 =>
 S.pur (.nilCheck v16) (fun v22 =>
 S.call (.inv v16 "pub-bracken/pub/immutable.get") [a1, v21] w.drew (fun v24 w =>
 S.pur (.extract v24 0) (fun v25 =>
 S.pur (.extract v24 1) (fun v26 =>
 K (.tuple #[v25, v26]) w))) Kp))))))))) Kp) Kp) Kp) Kp
theorem vc82_eq : vc82 S a0 a1 w K Kp = fVC S [] [] Tryz.f82 [a0, a1] w K Kp := by kernel_rfl
theorem vc82_calls (h : vc82 nP a0 a1 w K Kp) : Calls Tryz.prog 82 #[a0, a1] w (ret K Kp) :=
 fVC_sound (args := [a0, a1]) nice_le follows_BVcI Tryz.func82 (by kernel_rfl) (Eq.mp vc82_eq h)
def vc85 (S : Sig) (a0 : Value) (w : World) (K : KV) (Kp : KP) : Prop :=
 S.op (.nilCheck a0) w (fun v4 w =>
 S.op (.fieldAddr 210 v4 0) w (fun v5 w =>
 S.op (.load 3 v5) w (fun v6 w =>
 K v6 w) Kp) Kp) Kp
theorem vc85_eq : vc85 S a0 w K Kp = fVC S [] [] Tryz.f85 [a0] w K Kp := by kernel_rfl
theorem vc85_calls (h : vc85 nP a0 w K Kp) : Calls Tryz.prog 85 #[a0] w (ret K Kp) :=
 fVC_sound (args := [a0]) nice_le follows_BVcI Tryz.func85 (by kernel_rfl) (Eq.mp vc85_eq h)
def vc191 (S : Sig) (a0 : Value) (w : World) (K : KV) (Kp : KP) : Prop :=
 S.op (.nilCheck a0) w (fun v5 w =>
 S.op (.load 210 v5) w (fun v6 w =>
 S.op (.alloc 210) w (fun v3 w =>
 S.op (.store 210 v3 v6) w (fun _ w =>
 K v3 w) Kp) Kp) Kp) Kp
theorem vc191_eq : vc191 S a0 w K Kp = fVC S [] [] Tryz.f191 [a0] w K Kp := by kernel_rfl
theorem vc191_calls (h : vc191 nP a0 w K Kp) : Calls Tryz.prog 191 #[a0] w (ret K Kp) :=
 fVC_sound (args := [a0]) nice_le follows_BVcI Tryz.func191 (by kernel_rfl) (Eq.mp vc191_eq h)
def vc84 (S : Sig) (a0 : Value) (w : World) (K : KV) (Kp : KP) : Prop :=
 S.op (.build 218 [(0, a0)]) w (fun v5 w =>
 S.op (.box 218 v5) w (fun v6 w =>
 S.call (.fn 135) [v6] w (fun v8 w =>
 K v6 w) Kp) Kp) Kp
theorem vc84_eq : vc84 S a0 w K Kp = fVC S [] [] Tryz.f84 [a0] w K Kp := by kernel_rfl
theorem vc84_calls (h : vc84 nP a0 w K Kp) : Calls Tryz.prog 84 #[a0] w (ret K Kp) :=
 fVC_sound (args := [a0]) nice_le follows_BVcI Tryz.func84 (by kernel_rfl) (Eq.mp vc84_eq h)
def vc79 (S : Sig) (a0 : Value) (w : World) (K : KV) (Kp : KP) : Prop :=
 S.op (.build 210 [(2, a0)]) w (fun v4 w =>
 S.op (.box 210 v4) w (fun v5 w =>
 K v5 w) Kp) Kp
theorem vc79_eq : vc79 S a0 w K Kp = fVC S [] [] Tryz.f79 [a0] w K Kp := by kernel_rfl
theorem vc79_calls (h : vc79 nP a0 w K Kp) : Calls Tryz.prog 79 #[a0] w (ret K Kp) :=
 fVC_sound (args := [a0]) nice_le follows_BVcI Tryz.func79 (by kernel_rfl) (Eq.mp vc79_eq h)
end Go.Proofs.YtodjijfblgnfmaaGreatDoor
end
section
namespace Go.Proofs.YtodjijfblgnfmaaGreatDoor.I
open Go.Vc Go.Proofs Go.Proofs.YtodjijfblgnfmaaGreatDoor Go.Vc.Bt
abbrev Ky := Int
abbrev Vl := Int
def ek (k : Ky) : Value := .int .i64 k
def ev (v : Vl) : Value := .int .i64 v
def zv : Value := .int .i64 0
def zk : Value := .int .i64 0
abbrev Tr := T (Ky × Vl)
def ent (e : Ky × Vl) : List Value := [ek e.1, ev e.2]
theorem ent_len (e : Ky × Vl) : (ent e).length = 2 := rfl
theorem one_ek (k : Ky) : (ek k).oneCell' = true := rfl
theorem one_ev (v : Vl) : (ev v).oneCell' = true := rfl
def ents (es : List (Ky × Vl)) : List Value := es.flatMap ent
theorem ents_len (es : List (Ky × Vl)) : (ents es).length = es.length * 2 := flatMap_len ent_len es
theorem ents_get {es : List (Ky × Vl)} {i r : Nat} (hi : i < es.length) (hr : r < 2) : (ents es)[i * 2 + r]? = (ent es[i])[r]? := flatMap_get ent_len es i r hi hr
theorem ents_one {es : List (Ky × Vl)} : ∀ u ∈ ents es, u.oneCell' = true := fun u hu => by
  obtain ⟨e, _, he⟩ := List.mem_flatMap.1 hu
  simp only [ent, List.mem_cons, List.not_mem_nil, or_false] at he
  rcases he with rfl | rfl <;> rfl
def ptr (b : Nat) : Value := .pointer (some ⟨b, 0, none⟩)
def el (h : Nat) (p : Tr × Value) : List Value := [((fstK h p.1).map ek).getD zk, p.2]
theorem el_len (h : Nat) (p : Tr × Value) : (el h p).length = 2 := rfl
def els (h : Nat) (ps : List (Tr × Value)) : List Value := ps.flatMap (el h)
theorem els_len (h : Nat) (ps : List (Tr × Value)) : (els h ps).length = ps.length * 2 := flatMap_len (el_len h) ps
theorem els_get {h : Nat} {ps : List (Tr × Value)} {i r : Nat} (hi : i < ps.length) (hr : r < 2) : (els h ps)[i * 2 + r]? = (el h ps[i])[r]? := flatMap_get (el_len h) ps i r hi hr
structure IsC (cv : Value) (lt : Ky → Ky → Bool) : Prop where
  lin : Lin lt
  cmp : ∀ {a b : Ky} {w : World} {K : KV} {Kp : KP}, (∀ w', Frm (fun _ => False) w w' → K (.int .i64 (Bt.cmp lt a b)) w') → nP.call (.inv cv "Compare") [ek a, ek b] w K Kp
  nilC : ∀ {K1 : Value → Prop}, nP.pur (.nilCheck (.func (.method "Compare") #[cv] #[])) K1 = K1 (.func (.method "Compare") #[cv] #[])
  iface : ∃ t p, cv = .iface t p
def Rep (w : World) : Nat → Tr → Value → Prop
  | 0, .leaf es, v => ∃ b g o c, v = .iface 220 (ptr b) ∧ w.heap[b]? = some (.cells #[.slice (some ⟨g, o, none⟩) es.length c] 226 (0, 0)) ∧ Sg w 223 2 g o es.length c (ents es)
  | h + 1, .br ks, v => ∃ b g o c ps, v = .iface 279 (ptr b) ∧ w.heap[b]? = some (.cells #[.slice (some ⟨g, o, none⟩) ks.length c] 284 (0, 0)) ∧ ks = ps.map (·.1) ∧ Sg w 286 2 g o ks.length c (els h ps) ∧ ∀ p ∈ ps, Rep w h p.1 p.2
  | _, _, _ => False
variable {w w' : World} {v cv : Value} {t : Tr} {K : KV} {Kp : KP} {lt : Ky → Ky → Bool} {k : Ky} {h : Nat}
theorem Rep.still : ∀ {h : Nat} {t : Tr} {v : Value}, Rep w h t v → Frm (fun _ => False) w w' → Rep w' h t v
  | 0, .leaf es, v, hr, hf => by
    obtain ⟨b, g, o, c, h1, h2, h3⟩ := hr
    exact ⟨b, g, o, c, h1, hf.get h2 fun h => h, h3.still hf⟩
  | h + 1, .br ks, v, hr, hf => by
    obtain ⟨b, g, o, c, ps, h1, h2, h3, h4, h5⟩ := hr
    exact ⟨b, g, o, c, ps, h1, hf.get h2 fun h => h, h3, h4.still hf, fun p hp => (h5 p hp).still hf⟩
  | 0, .br ks, v, hr, hf => hr.elim
  | h + 1, .leaf es, v, hr, hf => hr.elim
end Go.Proofs.YtodjijfblgnfmaaGreatDoor.I
end
section
namespace Go.Vc
def firstOf (p : Nat → Bool) (n : Nat) : Nat := (List.range n).findIdx p
theorem firstOf_eq {p : Nat → Bool} {n i : Nat} (hi : i ≤ n) (h0 : ∀ j, j < i → p j = false) (h1 : i < n → p i = true) : firstOf p n = i := by
  unfold firstOf
  by_cases h : i < n
  · rw [List.findIdx_eq (by simpa using h)]
    exact ⟨by simpa using h1 h, fun j hj => by simpa using h0 j hj⟩
  · have : i = n := by omega
    subst this
    have := List.findIdx_eq_length_of_false (xs := List.range i) (p := p) (by simpa using h0)
    simpa using this
theorem firstOf_list {α : Type} (f : α → Bool) (L : List α) (p : Nat → Bool) (hp : ∀ i (hi : i < L.length), p i = f L[i]) : firstOf p L.length = L.findIdx f := by
  refine firstOf_eq List.findIdx_le_length (fun j hj => ?_) fun h => ?_
  · have hl : j < L.length := by have : L.findIdx f ≤ L.length := List.findIdx_le_length; omega
    rw [hp j hl]
    exact List.not_of_lt_findIdx hj
  · rw [hp _ h]
    exact Bt.findIdx_get f L h
def Mono (p : Nat → Bool) (n : Nat) : Prop := ∀ i j, i ≤ j → j < n → p i = true → p j = true
theorem lw_mid {a b c l : List Value} (h : b.length = l.length) : lw (a ++ (b ++ c)) a.length l = a ++ (l ++ c) := by
  unfold lw
  rw [List.take_left' rfl, ← h, List.append_assoc, List.drop_append, List.drop_of_length_le (by omega), show a.length + b.length - a.length = b.length from by omega, List.drop_left' rfl, List.nil_append]
theorem lw_mid' {xs a b c l : List Value} {o : Nat} (hx : xs = a ++ (b ++ c)) (ho : o = a.length) (h : b.length = l.length) : lw xs o l = a ++ (l ++ c) := by
  subst hx ho; exact lw_mid h
theorem ins_row {A zs e : List Value} {r : Nat} (hr : r ≤ A.length) (hz : zs.length = A.length + e.length) : lw (lw (lw zs 0 (A.take r)) r e) (r + e.length) (A.drop r) = A.take r ++ (e ++ A.drop r) := by
  have ht : (A.take r).length = r := by simp; omega
  have h1 : lw zs 0 (A.take r) = A.take r ++ ((zs.drop r).take e.length ++ zs.drop (r + e.length)) := by
    rw [lw_mid' (xs := zs) (o := 0) (l := A.take r) (a := []) (b := zs.take r) (c := zs.drop r) (by simp) rfl (by simp; omega)]
    rw [List.nil_append, ← List.drop_drop, List.take_append_drop]
  rw [h1, lw_mid' (o := r) (l := e) (a := A.take r) (b := (zs.drop r).take e.length) (c := zs.drop (r + e.length)) rfl (by omega) (by simp; omega)]
  rw [lw_mid' (o := r + e.length) (l := A.drop r) (a := A.take r ++ e) (b := zs.drop (r + e.length)) (c := []) (by simp) (by simp; omega) (by simp; omega)]
  simp
theorem two_row {A zs e1 e2 : List Value} {r m : Nat} (h1 : e1.length = m) (h2 : e2.length = m) (hr : r + m ≤ A.length) (hz : zs.length = A.length + m) :
    lw (lw (lw (lw zs 0 (A.take r)) (r + m) (A.drop r)) r e1) (r + m) e2 = A.take r ++ (e1 ++ (e2 ++ A.drop (r + m))) := by
  have ht : (A.take r).length = r := by simp; omega
  have q1 : lw zs 0 (A.take r) = A.take r ++ ((zs.drop r).take m ++ zs.drop (r + m)) := by
    rw [lw_mid' (xs := zs) (o := 0) (l := A.take r) (a := []) (b := zs.take r) (c := zs.drop r) (by simp) rfl (by simp; omega)]
    rw [List.nil_append, ← List.drop_drop, List.take_append_drop]
  have q2 : lw (A.take r ++ ((zs.drop r).take m ++ zs.drop (r + m))) (r + m) (A.drop r) = A.take r ++ ((zs.drop r).take m ++ A.drop r) := by
    rw [lw_mid' (o := r + m) (l := A.drop r) (a := A.take r ++ (zs.drop r).take m) (b := zs.drop (r + m)) (c := []) (by simp) (by simp; omega) (by simp; omega)]
    simp
  rw [q1, q2, lw_mid' (o := r) (l := e1) (a := A.take r) (b := (zs.drop r).take m) (c := A.drop r) rfl (by omega) (by simp; omega)]
  rw [lw_mid' (o := r + m) (l := e2) (a := A.take r ++ e1) (b := (A.drop r).take m) (c := A.drop (r + m)) (by rw [← List.drop_drop, List.take_append_drop]; simp) (by simp; omega) (by simp; omega)]
  simp
end Go.Vc
end
section
namespace Go.Proofs.YtodjijfblgnfmaaGreatDoor
open Go.Vc Go.Proofs
variable {S : Sig} {a0 a1 a2 a3 a4 a5 a6 a7 a8 a9 : Value} {w : World} {K : KV} {Kp : KP}
private theorem follows_BVcC : Tryz.prog.follows .mixedOrders = true := by kernel_rfl
def vc241 (S : Sig) (a0 a1 : Value) (w : World) (K : KV) (Kp : KP) : Prop :=
 Lp fun (I2 : Value → KV) (μ2 : Value → Value → World → Nat) => I2 (.int .i64 0) a0 w ∧
 ∀ (wl2 : World) (_ : Nat → Value) (s5 : Value) (s6 : Value), I2 s5 s6 wl2 →
 S.op (.bin .lss 3 false false s5 s6) wl2 (fun v11 w =>
 Br v11 (
 S.op (.bin .add 3 false false s5 s6) w (fun v14 w =>
 S.op (.conv 3 339 v14) w (fun v15 w =>
 S.op (.bin .shr 339 false true v15 (.int .u64 1)) w (fun v16 w =>
 S.op (.conv 339 3 v16) w (fun v17 w =>
 S.call (.val a1) [v17] w (fun v20 w =>
 S.op (.un .not v20) w (fun v21 w =>
 Br v21 (
 S.op (.bin .add 3 false true v17 (.int .i64 1)) w (fun v23 w =>
 I2 v23 s6 w ∧ μ2 v23 s6 w < μ2 s5 s6 wl2) Kp) (
 I2 s5 v17 w ∧ μ2 s5 v17 w < μ2 s5 s6 wl2)) Kp) Kp) Kp) Kp) Kp) Kp) (
 K s5 w)) Kp
theorem vc241_eq : vc241 S a0 a1 w K Kp = fVC S [(2, [5, 6])] [] Tryz.f241 [a0, a1] w K Kp := by kernel_rfl
theorem vc241_calls (h : vc241 nP a0 a1 w K Kp) : Calls Tryz.prog 241 #[a0, a1] w (ret K Kp) :=
 fVC_sound (args := [a0, a1]) nice_le follows_BVcC Tryz.func241 (by kernel_rfl) (Eq.mp vc241_eq h)
def vc150 (S : Sig) (a0 a1 : Value) (w : World) (K : KV) (Kp : KP) : Prop :=
 S.op (.un .not a0) w (fun v5 w =>
 Br v5 (
 S.op (.mkIface 9 a1) w (fun v7 w =>
 S.op (.panic v7) w (fun _ w =>
 K (.tuple #[]) w) Kp) Kp) (
 K (.tuple #[]) w)) Kp
theorem vc150_eq : vc150 S a0 a1 w K Kp = fVC S [] [] Tryz.f150 [a0, a1] w K Kp := by kernel_rfl
theorem vc150_calls (h : vc150 nP a0 a1 w K Kp) : Calls Tryz.prog 150 #[a0, a1] w (ret K Kp) :=
 fVC_sound (args := [a0, a1]) nice_le follows_BVcC Tryz.func150 (by kernel_rfl) (Eq.mp vc150_eq h)
def vc231 (S : Sig) (a0 a1 a2 : Value) (w : World) (K : KV) (Kp : KP) : Prop :=
 S.op (.box 134 a0) w (fun v3 w =>
 S.op (.fieldAddr 134 v3 0) w (fun v7 w =>
 S.op (.fieldAddr 31 v7 0) w (fun v8 w =>
 S.op (.load 5 v8) w (fun v9 w =>
 S.op (.bin .eql 5 false true v9 (.int .u8 2)) w (fun v10 w =>
 Br v10 (
 S.op (.fieldAddr 134 v3 0) w (fun v13 w =>
 S.op (.fieldAddr 31 v13 0) w (fun v14 w =>
 S.op (.load 5 v14) w (fun v15 w =>
 S.op (.bin .eql 5 false true v15 (.int .u8 3)) w (fun v16 w =>
 Br v16 (
 S.op (.blt .len [9] 3 [a2]) w (fun v19 w =>
 S.op (.blt .len [9] 3 [a1]) w (fun v21 w =>
 S.op (.bin .neq 3 false false v19 v21) w (fun v22 w =>
 Br v22 (
 S.op (.blt .len [9] 3 [a2]) w (fun v25 w =>
 S.op (.blt .len [9] 3 [a1]) w (fun v27 w =>
 S.call (.fn 238) [v25, v27] w (fun v28 w =>
 K v28 w) Kp) Kp) Kp) (
 S.call (.fn 239) [a2, a1] w (fun v31 w =>
 K v31 w) Kp)) Kp) Kp) Kp) (
 S.call (.fn 239) [a2, a1] w (fun v31 w =>
 K v31 w) Kp)) Kp) Kp) Kp) Kp) (
 S.op (.fieldAddr 134 v3 0) w (fun v13 w =>
 S.op (.fieldAddr 31 v13 0) w (fun v14 w =>
 S.op (.load 5 v14) w (fun v15 w =>
 S.op (.bin .eql 5 false true v15 (.int .u8 3)) w (fun v16 w =>
 Br v16 (
 S.op (.blt .len [9] 3 [a1]) w (fun v19 w =>
 S.op (.blt .len [9] 3 [a2]) w (fun v21 w =>
 S.op (.bin .neq 3 false false v19 v21) w (fun v22 w =>
 Br v22 (
 S.op (.blt .len [9] 3 [a1]) w (fun v25 w =>
 S.op (.blt .len [9] 3 [a2]) w (fun v27 w =>
 S.call (.fn 238) [v25, v27] w (fun v28 w =>
 K v28 w) Kp) Kp) Kp) (
 S.call (.fn 239) [a1, a2] w (fun v31 w =>
 K v31 w) Kp)) Kp) Kp) Kp) (
 S.call (.fn 239) [a1, a2] w (fun v31 w =>
 K v31 w) Kp)) Kp) Kp) Kp) Kp)) Kp) Kp) Kp) Kp) Kp
theorem vc231_eq : vc231 S a0 a1 a2 w K Kp = fVC S [] [] Tryz.f231 [a0, a1, a2] w K Kp := by kernel_rfl
theorem vc231_calls (h : vc231 nP a0 a1 a2 w K Kp) : Calls Tryz.prog 231 #[a0, a1, a2] w (ret K Kp) :=
 fVC_sound (args := [a0, a1, a2]) nice_le follows_BVcC Tryz.func231 (by kernel_rfl) (Eq.mp vc231_eq h)
def vc232 (S : Sig) (a0 a1 a2 : Value) (w : World) (K : KV) (Kp : KP) : Prop :=
 S.op (.box 146 a0) w (fun v3 w =>
 S.op (.fieldAddr 146 v3 0) w (fun v9 w =>
 S.op (.fieldAddr 31 v9 0) w (fun v10 w =>
 S.op (.load 5 v10) w (fun v11 w =>
 S.op (.bin .eql 5 false true v11 (.int .u8 2)) w (fun v12 w =>
 Br v12 (
 S.op (.fieldAddr 146 v3 0) w (fun v15 w =>
 S.op (.fieldAddr 31 v15 0) w (fun v16 w =>
 S.op (.load 5 v16) w (fun v17 w =>
 S.op (.bin .eql 5 false true v17 (.int .u8 3)) w (fun v18 w =>
 Br v18 (
 S.op (.fieldAddr 146 v3 0) w (fun v20 w =>
 S.op (.fieldAddr 31 v20 1) w (fun v21 w =>
 S.op (.load 2 v21) w (fun v22 w =>
 S.op (.bin .neq 2 false true v22 (.int .i64 0)) w (fun v23 w =>
 Br v23 (
 S.pur (.fieldAddr 146 v3 0) (fun v26 =>
 S.pur (.fieldAddr 31 v26 1) (fun v27 =>
 S.ld (.load 2 v27) w.drew (fun v28 =>
 S.pur (.fieldAddr 146 v3 0) (fun v31 =>
 S.pur (.fieldAddr 31 v31 1) (fun v32 =>
 S.ld (.load 2 v32) w.drew (fun v33 =>
 S.call (.fn 240) [a2, v28] w.drew (fun v29 w =>
 S.same (.load 2 v32) v33 w ∧
 S.call (.fn 240) [a1, v33] w (fun v34 w =>
 S.op (.bin .neq 2 false false v29 v34) w (fun v37 w =>
 Br v37 (
 S.call (.fn 238) [v29, v34] w (fun v40 w =>
 K v40 w) Kp) (
 S.call (.fn 238) [a2, a1] w (fun v43 w =>
 K v43 w) Kp)) Kp) Kp) Kp))))))) (
 S.call (.fn 238) [a2, a1] w (fun v43 w =>
 K v43 w) Kp)) Kp) Kp) Kp) Kp) (
 S.call (.fn 238) [a2, a1] w (fun v43 w =>
 K v43 w) Kp)) Kp) Kp) Kp) Kp) (
 S.op (.fieldAddr 146 v3 0) w (fun v15 w =>
 S.op (.fieldAddr 31 v15 0) w (fun v16 w =>
 S.op (.load 5 v16) w (fun v17 w =>
 S.op (.bin .eql 5 false true v17 (.int .u8 3)) w (fun v18 w =>
 Br v18 (
 S.op (.fieldAddr 146 v3 0) w (fun v20 w =>
 S.op (.fieldAddr 31 v20 1) w (fun v21 w =>
 S.op (.load 2 v21) w (fun v22 w =>
 S.op (.bin .neq 2 false true v22 (.int .i64 0)) w (fun v23 w =>
 Br v23 (
 S.pur (.fieldAddr 146 v3 0) (fun v26 =>
 S.pur (.fieldAddr 31 v26 1) (fun v27 =>
 S.ld (.load 2 v27) w.drew (fun v28 =>
 S.pur (.fieldAddr 146 v3 0) (fun v31 =>
 S.pur (.fieldAddr 31 v31 1) (fun v32 =>
 S.ld (.load 2 v32) w.drew (fun v33 =>
 S.call (.fn 240) [a1, v28] w.drew (fun v29 w =>
 S.same (.load 2 v32) v33 w ∧
 S.call (.fn 240) [a2, v33] w (fun v34 w =>
 S.op (.bin .neq 2 false false v29 v34) w (fun v37 w =>
 Br v37 (
 S.call (.fn 238) [v29, v34] w (fun v40 w =>
 K v40 w) Kp) (
 S.call (.fn 238) [a1, a2] w (fun v43 w =>
 K v43 w) Kp)) Kp) Kp) Kp))))))) (
 S.call (.fn 238) [a1, a2] w (fun v43 w =>
 K v43 w) Kp)) Kp) Kp) Kp) Kp) (
 S.call (.fn 238) [a1, a2] w (fun v43 w =>
 K v43 w) Kp)) Kp) Kp) Kp) Kp)) Kp) Kp) Kp) Kp) Kp
theorem vc232_eq : vc232 S a0 a1 a2 w K Kp = fVC S [] [] Tryz.f232 [a0, a1, a2] w K Kp := by kernel_rfl
theorem vc232_calls (h : vc232 nP a0 a1 a2 w K Kp) : Calls Tryz.prog 232 #[a0, a1, a2] w (ret K Kp) :=
 fVC_sound (args := [a0, a1, a2]) nice_le follows_BVcC Tryz.func232 (by kernel_rfl) (Eq.mp vc232_eq h)
def vc238 (S : Sig) (a0 a1 : Value) (w : World) (K : KV) (Kp : KP) : Prop :=
 S.op (.bin .lss 2 false false a0 a1) w (fun v8 w =>
 Br v8 (
 K (.int .i64 (-1)) w) (
 S.op (.bin .gtr 2 false false a0 a1) w (fun v12 w =>
 Br v12 (
 K (.int .i64 1) w) (
 K (.int .i64 0) w)) Kp)) Kp
theorem vc238_eq : vc238 S a0 a1 w K Kp = fVC S [] [] Tryz.f238 [a0, a1] w K Kp := by kernel_rfl
theorem vc238_calls (h : vc238 nP a0 a1 w K Kp) : Calls Tryz.prog 238 #[a0, a1] w (ret K Kp) :=
 fVC_sound (args := [a0, a1]) nice_le follows_BVcC Tryz.func238 (by kernel_rfl) (Eq.mp vc238_eq h)
def vc239 (S : Sig) (a0 a1 : Value) (w : World) (K : KV) (Kp : KP) : Prop :=
 S.call (.fn 243) [a0, a1] w (fun v7 w =>
 K v7 w) Kp
theorem vc239_eq : vc239 S a0 a1 w K Kp = fVC S [] [] Tryz.f239 [a0, a1] w K Kp := by kernel_rfl
theorem vc239_calls (h : vc239 nP a0 a1 w K Kp) : Calls Tryz.prog 239 #[a0, a1] w (ret K Kp) :=
 fVC_sound (args := [a0, a1]) nice_le follows_BVcC Tryz.func239 (by kernel_rfl) (Eq.mp vc239_eq h)
def vc240 (S : Sig) (a0 a1 : Value) (w : World) (K : KV) (Kp : KP) : Prop :=
 S.op (.bin .rem 2 false false a0 a1) w (fun v8 w =>
 S.op (.bin .lss 2 false true v8 (.int .i64 0)) w (fun v10 w =>
 Br v10 (
 S.op (.bin .gtr 2 false true a1 (.int .i64 0)) w (fun v13 w =>
 Br v13 (
 S.op (.bin .add 2 false false v8 a1) w (fun v17 w =>
 K v17 w) Kp) (
 S.op (.bin .lss 2 false true v8 (.int .i64 0)) w (fun v19 w =>
 Br v19 (
 S.op (.bin .sub 2 false false v8 a1) w (fun v22 w =>
 K v22 w) Kp) (
 K v8 w)) Kp)) Kp) (
 S.op (.bin .lss 2 false true v8 (.int .i64 0)) w (fun v19 w =>
 Br v19 (
 S.op (.bin .sub 2 false false v8 a1) w (fun v22 w =>
 K v22 w) Kp) (
 K v8 w)) Kp)) Kp) Kp
theorem vc240_eq : vc240 S a0 a1 w K Kp = fVC S [] [] Tryz.f240 [a0, a1] w K Kp := by kernel_rfl
theorem vc240_calls (h : vc240 nP a0 a1 w K Kp) : Calls Tryz.prog 240 #[a0, a1] w (ret K Kp) :=
 fVC_sound (args := [a0, a1]) nice_le follows_BVcC Tryz.func240 (by kernel_rfl) (Eq.mp vc240_eq h)
def vc287 (S : Sig) (a0 a1 a2 : Value) (w : World) (K : KV) (Kp : KP) : Prop :=
 S.op (.mkIface 9 a1) w (fun v20 w =>
 S.op (.tassert v20 20 3 true) w (fun v21 w =>
 S.op (.extract v21 1) w (fun v22 w =>
 S.op (.extract v21 0) w (fun v23 w =>
 Br v22 (
 S.op (.mkIface 9 a2) w (fun v26 w =>
 S.op (.tassert v26 20 3 false) w (fun v27 w =>
 S.call (.fn 288) [v23, v27] w (fun v28 w =>
 K v28 w) Kp) Kp) Kp) (
 S.op (.tassert v20 20 337 true) w (fun v29 w =>
 S.op (.extract v29 1) w (fun v30 w =>
 S.op (.extract v29 0) w (fun v31 w =>
 Br v30 (
 S.op (.mkIface 9 a2) w (fun v34 w =>
 S.op (.tassert v34 20 337 false) w (fun v35 w =>
 S.call (.fn 289) [v31, v35] w (fun v36 w =>
 K v36 w) Kp) Kp) Kp) (
 S.op (.tassert v20 20 338 true) w (fun v37 w =>
 S.op (.extract v37 1) w (fun v38 w =>
 S.op (.extract v37 0) w (fun v39 w =>
 Br v38 (
 S.op (.mkIface 9 a2) w (fun v42 w =>
 S.op (.tassert v42 20 338 false) w (fun v43 w =>
 S.call (.fn 290) [v39, v43] w (fun v44 w =>
 K v44 w) Kp) Kp) Kp) (
 S.op (.tassert v20 20 21 true) w (fun v45 w =>
 S.op (.extract v45 1) w (fun v46 w =>
 S.op (.extract v45 0) w (fun v47 w =>
 Br v46 (
 S.op (.mkIface 9 a2) w (fun v50 w =>
 S.op (.tassert v50 20 21 false) w (fun v51 w =>
 S.call (.fn 291) [v47, v51] w (fun v52 w =>
 K v52 w) Kp) Kp) Kp) (
 S.op (.tassert v20 20 2 true) w (fun v53 w =>
 S.op (.extract v53 1) w (fun v54 w =>
 S.op (.extract v53 0) w (fun v55 w =>
 Br v54 (
 S.op (.mkIface 9 a2) w (fun v58 w =>
 S.op (.tassert v58 20 2 false) w (fun v59 w =>
 S.call (.fn 292) [v55, v59] w (fun v60 w =>
 K v60 w) Kp) Kp) Kp) (
 S.op (.tassert v20 20 339 true) w (fun v61 w =>
 S.op (.extract v61 1) w (fun v62 w =>
 S.op (.extract v61 0) w (fun v63 w =>
 Br v62 (
 S.op (.mkIface 9 a2) w (fun v66 w =>
 S.op (.tassert v66 20 339 false) w (fun v67 w =>
 S.call (.fn 293) [v63, v67] w (fun v68 w =>
 K v68 w) Kp) Kp) Kp) (
 S.op (.tassert v20 20 5 true) w (fun v69 w =>
 S.op (.extract v69 1) w (fun v70 w =>
 S.op (.extract v69 0) w (fun v71 w =>
 Br v70 (
 S.op (.mkIface 9 a2) w (fun v74 w =>
 S.op (.tassert v74 20 5 false) w (fun v75 w =>
 S.call (.fn 294) [v71, v75] w (fun v76 w =>
 K v76 w) Kp) Kp) Kp) (
 S.op (.tassert v20 20 43 true) w (fun v77 w =>
 S.op (.extract v77 1) w (fun v78 w =>
 S.op (.extract v77 0) w (fun v79 w =>
 Br v78 (
 S.op (.mkIface 9 a2) w (fun v82 w =>
 S.op (.tassert v82 20 43 false) w (fun v83 w =>
 S.call (.fn 295) [v79, v83] w (fun v84 w =>
 K v84 w) Kp) Kp) Kp) (
 S.op (.tassert v20 20 340 true) w (fun v85 w =>
 S.op (.extract v85 1) w (fun v86 w =>
 S.op (.extract v85 0) w (fun v87 w =>
 Br v86 (
 S.op (.mkIface 9 a2) w (fun v90 w =>
 S.op (.tassert v90 20 340 false) w (fun v91 w =>
 S.call (.fn 296) [v87, v91] w (fun v92 w =>
 K v92 w) Kp) Kp) Kp) (
 S.op (.tassert v20 20 227 true) w (fun v93 w =>
 S.op (.extract v93 1) w (fun v94 w =>
 S.op (.extract v93 0) w (fun v95 w =>
 Br v94 (
 S.op (.mkIface 9 a2) w (fun v98 w =>
 S.op (.tassert v98 20 227 false) w (fun v99 w =>
 S.call (.fn 297) [v95, v99] w (fun v100 w =>
 K v100 w) Kp) Kp) Kp) (
 S.op (.tassert v20 20 12 true) w (fun v101 w =>
 S.op (.extract v101 1) w (fun v102 w =>
 S.op (.extract v101 0) w (fun v103 w =>
 Br v102 (
 S.op (.mkIface 9 a2) w (fun v106 w =>
 S.op (.tassert v106 20 12 false) w (fun v107 w =>
 S.call (.fn 298) [v103, v107] w (fun v108 w =>
 K v108 w) Kp) Kp) Kp) (
 S.op (.tassert v20 20 9 true) w (fun v109 w =>
 S.op (.extract v109 1) w (fun v110 w =>
 S.op (.extract v109 0) w (fun v111 w =>
 Br v110 (
 S.op (.mkIface 9 a2) w (fun v114 w =>
 S.op (.tassert v114 20 9 false) w (fun v115 w =>
 S.call (.fn 299) [v111, v115] w (fun v116 w =>
 K v116 w) Kp) Kp) Kp) (
 S.op (.mkIface 9 (.string { data := #[105, 109, 109, 117, 116, 97, 98, 108, 101, 46, 100, 101, 102, 97, 117, 108, 116, 67, 111, 109, 112, 97, 114, 101, 114, 58, 32, 109, 117, 115, 116, 32, 115, 101, 116, 32, 99, 111, 109, 112, 97, 114, 101, 114, 32, 102, 111, 114, 32, 37, 84, 32, 116, 121, 112, 101] })) w (fun v117 w =>
 S.op (.panic v117) w (fun _ w =>
 K (.int .i64 0) w) Kp) Kp)) Kp) Kp) Kp)) Kp) Kp) Kp)) Kp) Kp) Kp)) Kp) Kp) Kp)) Kp) Kp) Kp)) Kp) Kp) Kp)) Kp) Kp) Kp)) Kp) Kp) Kp)) Kp) Kp) Kp)) Kp) Kp) Kp)) Kp) Kp) Kp)) Kp) Kp) Kp) Kp
theorem vc287_eq : vc287 S a0 a1 a2 w K Kp = fVC S [] [] Tryz.f287 [a0, a1, a2] w K Kp := by kernel_rfl
theorem vc287_calls (h : vc287 nP a0 a1 a2 w K Kp) : Calls Tryz.prog 287 #[a0, a1, a2] w (ret K Kp) :=
 fVC_sound (args := [a0, a1, a2]) nice_le follows_BVcC Tryz.func287 (by kernel_rfl) (Eq.mp vc287_eq h)
def vc300 (S : Sig) (a0 a1 a2 : Value) (w : World) (K : KV) (Kp : KP) : Prop :=
 S.op (.mkIface 2 a1) w (fun v20 w =>
 S.op (.tassert v20 20 3 true) w (fun v21 w =>
 S.op (.extract v21 1) w (fun v22 w =>
 S.op (.extract v21 0) w (fun v23 w =>
 Br v22 (
 S.op (.mkIface 2 a2) w (fun v26 w =>
 S.op (.tassert v26 20 3 false) w (fun v27 w =>
 S.call (.fn 288) [v23, v27] w (fun v28 w =>
 K v28 w) Kp) Kp) Kp) (
 S.op (.tassert v20 20 337 true) w (fun v29 w =>
 S.op (.extract v29 1) w (fun v30 w =>
 S.op (.extract v29 0) w (fun v31 w =>
 Br v30 (
 S.op (.mkIface 2 a2) w (fun v34 w =>
 S.op (.tassert v34 20 337 false) w (fun v35 w =>
 S.call (.fn 289) [v31, v35] w (fun v36 w =>
 K v36 w) Kp) Kp) Kp) (
 S.op (.tassert v20 20 338 true) w (fun v37 w =>
 S.op (.extract v37 1) w (fun v38 w =>
 S.op (.extract v37 0) w (fun v39 w =>
 Br v38 (
 S.op (.mkIface 2 a2) w (fun v42 w =>
 S.op (.tassert v42 20 338 false) w (fun v43 w =>
 S.call (.fn 290) [v39, v43] w (fun v44 w =>
 K v44 w) Kp) Kp) Kp) (
 S.op (.tassert v20 20 21 true) w (fun v45 w =>
 S.op (.extract v45 1) w (fun v46 w =>
 S.op (.extract v45 0) w (fun v47 w =>
 Br v46 (
 S.op (.mkIface 2 a2) w (fun v50 w =>
 S.op (.tassert v50 20 21 false) w (fun v51 w =>
 S.call (.fn 291) [v47, v51] w (fun v52 w =>
 K v52 w) Kp) Kp) Kp) (
 S.op (.tassert v20 20 2 true) w (fun v53 w =>
 S.op (.extract v53 1) w (fun v54 w =>
 S.op (.extract v53 0) w (fun v55 w =>
 Br v54 (
 S.op (.mkIface 2 a2) w (fun v58 w =>
 S.op (.tassert v58 20 2 false) w (fun v59 w =>
 S.call (.fn 292) [v55, v59] w (fun v60 w =>
 K v60 w) Kp) Kp) Kp) (
 S.op (.tassert v20 20 339 true) w (fun v61 w =>
 S.op (.extract v61 1) w (fun v62 w =>
 S.op (.extract v61 0) w (fun v63 w =>
 Br v62 (
 S.op (.mkIface 2 a2) w (fun v66 w =>
 S.op (.tassert v66 20 339 false) w (fun v67 w =>
 S.call (.fn 293) [v63, v67] w (fun v68 w =>
 K v68 w) Kp) Kp) Kp) (
 S.op (.tassert v20 20 5 true) w (fun v69 w =>
 S.op (.extract v69 1) w (fun v70 w =>
 S.op (.extract v69 0) w (fun v71 w =>
 Br v70 (
 S.op (.mkIface 2 a2) w (fun v74 w =>
 S.op (.tassert v74 20 5 false) w (fun v75 w =>
 S.call (.fn 294) [v71, v75] w (fun v76 w =>
 K v76 w) Kp) Kp) Kp) (
 S.op (.tassert v20 20 43 true) w (fun v77 w =>
 S.op (.extract v77 1) w (fun v78 w =>
 S.op (.extract v77 0) w (fun v79 w =>
 Br v78 (
 S.op (.mkIface 2 a2) w (fun v82 w =>
 S.op (.tassert v82 20 43 false) w (fun v83 w =>
 S.call (.fn 295) [v79, v83] w (fun v84 w =>
 K v84 w) Kp) Kp) Kp) (
 S.op (.tassert v20 20 340 true) w (fun v85 w =>
 S.op (.extract v85 1) w (fun v86 w =>
 S.op (.extract v85 0) w (fun v87 w =>
 Br v86 (
 S.op (.mkIface 2 a2) w (fun v90 w =>
 S.op (.tassert v90 20 340 false) w (fun v91 w =>
 S.call (.fn 296) [v87, v91] w (fun v92 w =>
 K v92 w) Kp) Kp) Kp) (
 S.op (.tassert v20 20 227 true) w (fun v93 w =>
 S.op (.extract v93 1) w (fun v94 w =>
 S.op (.extract v93 0) w (fun v95 w =>
 Br v94 (
 S.op (.mkIface 2 a2) w (fun v98 w =>
 S.op (.tassert v98 20 227 false) w (fun v99 w =>
 S.call (.fn 297) [v95, v99] w (fun v100 w =>
 K v100 w) Kp) Kp) Kp) (
 S.op (.tassert v20 20 12 true) w (fun v101 w =>
 S.op (.extract v101 1) w (fun v102 w =>
 S.op (.extract v101 0) w (fun v103 w =>
 Br v102 (
 S.op (.mkIface 2 a2) w (fun v106 w =>
 S.op (.tassert v106 20 12 false) w (fun v107 w =>
 S.call (.fn 298) [v103, v107] w (fun v108 w =>
 K v108 w) Kp) Kp) Kp) (
 S.op (.tassert v20 20 9 true) w (fun v109 w =>
 S.op (.extract v109 1) w (fun v110 w =>
 S.op (.extract v109 0) w (fun v111 w =>
 Br v110 (
 S.op (.mkIface 2 a2) w (fun v114 w =>
 S.op (.tassert v114 20 9 false) w (fun v115 w =>
 S.call (.fn 299) [v111, v115] w (fun v116 w =>
 K v116 w) Kp) Kp) Kp) (
 S.op (.mkIface 9 (.string { data := #[105, 109, 109, 117, 116, 97, 98, 108, 101, 46, 100, 101, 102, 97, 117, 108, 116, 67, 111, 109, 112, 97, 114, 101, 114, 58, 32, 109, 117, 115, 116, 32, 115, 101, 116, 32, 99, 111, 109, 112, 97, 114, 101, 114, 32, 102, 111, 114, 32, 37, 84, 32, 116, 121, 112, 101] })) w (fun v117 w =>
 S.op (.panic v117) w (fun _ w =>
 K (.int .i64 0) w) Kp) Kp)) Kp) Kp) Kp)) Kp) Kp) Kp)) Kp) Kp) Kp)) Kp) Kp) Kp)) Kp) Kp) Kp)) Kp) Kp) Kp)) Kp) Kp) Kp)) Kp) Kp) Kp)) Kp) Kp) Kp)) Kp) Kp) Kp)) Kp) Kp) Kp)) Kp) Kp) Kp) Kp
theorem vc300_eq : vc300 S a0 a1 a2 w K Kp = fVC S [] [] Tryz.f300 [a0, a1, a2] w K Kp := by kernel_rfl
theorem vc300_calls (h : vc300 nP a0 a1 a2 w K Kp) : Calls Tryz.prog 300 #[a0, a1, a2] w (ret K Kp) :=
 fVC_sound (args := [a0, a1, a2]) nice_le follows_BVcC Tryz.func300 (by kernel_rfl) (Eq.mp vc300_eq h)
def vc292 (S : Sig) (a0 a1 : Value) (w : World) (K : KV) (Kp : KP) : Prop :=
 S.op (.bin .lss 2 false false a0 a1) w (fun v7 w =>
 Br v7 (
 K (.int .i64 (-1)) w) (
 S.op (.bin .gtr 2 false false a0 a1) w (fun v10 w =>
 Br v10 (
 K (.int .i64 1) w) (
 K (.int .i64 0) w)) Kp)) Kp
theorem vc292_eq : vc292 S a0 a1 w K Kp = fVC S [] [] Tryz.f292 [a0, a1] w K Kp := by kernel_rfl
theorem vc292_calls (h : vc292 nP a0 a1 w K Kp) : Calls Tryz.prog 292 #[a0, a1] w (ret K Kp) :=
 fVC_sound (args := [a0, a1]) nice_le follows_BVcC Tryz.func292 (by kernel_rfl) (Eq.mp vc292_eq h)
def vc299 (S : Sig) (a0 a1 : Value) (w : World) (K : KV) (Kp : KP) : Prop :=
 S.op (.bin .lss 9 false false a0 a1) w (fun v7 w =>
 Br v7 (
 K (.int .i64 (-1)) w) (
 S.op (.bin .gtr 9 false false a0 a1) w (fun v10 w =>
 Br v10 (
 K (.int .i64 1) w) (
 K (.int .i64 0) w)) Kp)) Kp
theorem vc299_eq : vc299 S a0 a1 w K Kp = fVC S [] [] Tryz.f299 [a0, a1] w K Kp := by kernel_rfl
theorem vc299_calls (h : vc299 nP a0 a1 w K Kp) : Calls Tryz.prog 299 #[a0, a1] w (ret K Kp) :=
 fVC_sound (args := [a0, a1]) nice_le follows_BVcC Tryz.func299 (by kernel_rfl) (Eq.mp vc299_eq h)
end Go.Proofs.YtodjijfblgnfmaaGreatDoor
end
section
namespace Go.Proofs.YtodjijfblgnfmaaGreatDoor
open Go.Vc Go.Proofs
variable {w w' : World} {K : KV} {Kp : KP}
def nOf : Value → Nat
  | .int _ n => n.toNat
  | _ => 0
theorem nOf_int {k : IntKind} {n : Nat} : nOf (.int k n) = n := by simp [nOf]
theorem Br_true {A B : Prop} : Br (.bool true) A B = A := by simp [Br]
theorem Br_false {A B : Prop} : Br (.bool false) A B = B := by simp [Br]
theorem search_ok {n : Nat} {p : Nat → Bool} {f : FuncId} {x y : Array Value} (hf : callFn Tryz.prog f = true) (hn : n ≤ 2 ^ 62) (hm : Mono p n)
    (hp : ∀ (i : Nat) (w' : World) (K : KV) (Kp : KP), i < n → Frm (fun _ => False) w w' → (∀ w'', Frm (fun _ => False) w' w'' → K (.bool (p i)) w'') → Calls Tryz.prog f (x ++ #[.int .i64 i] ++ y) w' (ret K Kp))
    (hK : ∀ w', Frm (fun _ => False) w w' → K (.int .i64 (firstOf p n)) w') : Calls Tryz.prog 241 #[.int .i64 n, .func (.func f) x y] w (ret K Kp) := by
  refine vc241_calls ?_
  delta vc241
  obtain ⟨I, hI⟩ : ∃ I : Value → KV, ∀ s t wl, I s t wl ↔ ∃ i j : Nat, s = .int .i64 i ∧ t = .int .i64 j ∧ i ≤ j ∧ j ≤ n ∧ Frm (fun _ => False) w wl ∧ (∀ k, k < i → p k = false) ∧ (j < n → p j = true) := ⟨_, fun _ _ _ => Iff.rfl⟩
  refine Lp.intro I (fun s t _ => nOf t - nOf s) ⟨(hI _ _ _).2 ⟨0, n, rfl, rfl, by omega, by omega, Frm.refl, fun k hk => by omega, fun h => by omega⟩, ?_⟩
  intro wl junk s t hs
  obtain ⟨i, j, rfl, rfl, hij, hjn, hfr, h1, h2⟩ := (hI _ _ _).1 hs
  simp only [op_lss, Br_dec]
  refine ⟨fun hlt => ?_, fun hge => ?_⟩
  · have hlt' : i < j := by omega
    have e0 : IntKind.i64.wrap ((i : Int) + j) = ((i + j : Nat) : Int) := by rw [IntKind.wrap_i64]; omega
    have e1 : IntKind.u64.wrap ((i + j : Nat) : Int) = ((i + j : Nat) : Int) := by rw [IntKind.wrap_u64]; omega
    have e2 : ((i + j : Nat) : Int).fdiv (2 ^ min (Int.toNat 1) IntKind.u64.bits) = (((i + j) / 2 : Nat) : Int) := by
      rw [show (2 : Int) ^ min (Int.toNat 1) IntKind.u64.bits = 2 from rfl]
      rw [Int.fdiv_eq_ediv_of_nonneg _ (by decide)]; omega
    have e3 : IntKind.i64.wrap (((i + j) / 2 : Nat) : Int) = (((i + j) / 2 : Nat) : Int) := by rw [IntKind.wrap_i64]; omega
    simp only [op_add, op_conv_3_339, op_conv_339_3, op_shr, e0, e1, e2, e3, call_val hf]
    refine ⟨by decide, ?_⟩
    have hq : (i + j) / 2 < j := by omega
    generalize hqq : (i + j) / 2 = q at *
    refine hp q wl _ _ (by omega) hfr fun w'' hf' => ?_
    simp only [op_not, Br_dec]
    cases hpq : p q with
    | false =>
      simp only [Bool.not_false, Br_true, op_add]
      rw [show IntKind.i64.wrap ((q : Int) + 1) = ((q + 1 : Nat) : Int) from by rw [IntKind.wrap_i64]; omega]
      refine ⟨(hI _ _ _).2 ⟨q + 1, j, rfl, rfl, by omega, hjn, Frm.no hfr hf', fun k hk => ?_, h2⟩, by simp only [nOf_int]; omega⟩
      cases hpk : p k with
      | false => rfl
      | true => rw [hm k q (by omega) (by omega) hpk] at hpq; cases hpq
    | true =>
      simp only [Bool.not_true, Br_false]
      exact ⟨(hI _ _ _).2 ⟨i, q, rfl, rfl, by omega, by omega, Frm.no hfr hf', h1, fun _ => hpq⟩, by simp only [nOf_int]; omega⟩
  · have hij' : i = j := by omega
    subst hij'
    have := hK wl hfr
    rw [firstOf_eq hjn h1 h2] at this
    exact this
end Go.Proofs.YtodjijfblgnfmaaGreatDoor
end
section
namespace Go.Vc.Bt
section
variable {κ ν : Type} [DecidableEq κ] {lt : κ → κ → Bool}
abbrev Fm (κ ν : Type) := T (κ × ν) × Nat
def T.size : T (κ × ν) → Nat
  | .leaf es => es.length
  | .br ks => ks.length
def behindF : Nat → Fm κ ν → List (κ × ν)
  | 0, (.leaf es, j) => es.drop (j + 1)
  | d + 1, (.br ks, i) => (ks.drop (i + 1)).flatMap (toL d)
  | _, _ => []
def aheadF : Nat → Fm κ ν → List (κ × ν)
  | 0, (.leaf es, j) => es.take j
  | d + 1, (.br ks, i) => (ks.take i).flatMap (toL d)
  | _, _ => []
def fw : Nat → List (Fm κ ν) → List (κ × ν)
  | _, [] => []
  | d, f :: fs => behindF d f ++ fw (d + 1) fs
def bw : Nat → List (Fm κ ν) → List (κ × ν)
  | _, [] => []
  | d, f :: fs => bw (d + 1) fs ++ aheadF d f
def Above : Nat → T (κ × ν) → List (Fm κ ν) → Prop
  | _, _, [] => True
  | d, t, (p, i) :: fs => WF (d + 1) p ∧ (∃ ks, p = .br ks ∧ ks[i]? = some t) ∧ Above (d + 1) p fs
theorem Above.cons {d i : Nat} {ks : List (T (κ × ν))} {t : T (κ × ν)} {fs : List (Fm κ ν)} (hw : WF (d + 1) (.br ks)) (hi : ks[i]? = some t) (h : Above (d + 1) (.br ks) fs) : Above d t ((.br ks, i) :: fs) := ⟨hw, ⟨ks, rfl, hi⟩, h⟩
end
end Go.Vc.Bt
end
section
namespace Go.Vc.Bt
section
variable {κ ν : Type} [DecidableEq κ] {lt : κ → κ → Bool}
def atLeaf (lt : κ → κ → Bool) (es : List (κ × ν)) (k : κ) (i : Nat) : Bool := match es[i]? with
  | some e => !lt e.1 k
  | none => true
def atBr (lt : κ → κ → Bool) (h : Nat) (ks : List (T (κ × ν))) (k : κ) (i : Nat) : Bool := match ks[i]? with
  | some t => (match fstK h t with | some m => lt k m | none => false)
  | none => true
theorem leaf_first (es : List (κ × ν)) (k : κ) : firstOf (atLeaf lt es k) es.length = place lt es k :=
  firstOf_list (fun e => !lt e.1 k) es _ fun i hi => by simp [atLeaf, List.getElem?_eq_getElem hi]
theorem br_first (h : Nat) (ks : List (T (κ × ν))) (k : κ) : firstOf (atBr lt h ks k) ks.length - 1 = kid lt h ks k := by
  unfold kid
  exact congrArg (· - 1) (firstOf_list (fun t => match fstK h t with | some m => lt k m | none => false) ks _ fun i hi => by simp [atBr, List.getElem?_eq_getElem hi])
theorem leaf_mono (hl : Lin lt) {es : List (κ × ν)} (hs : Sd lt es) (k : κ) : Mono (atLeaf lt es k) es.length := fun i j hij hj hi => by
  by_cases e : i = j
  · subst e; exact hi
  · have h1 := List.pairwise_iff_getElem.1 hs i j (by omega) hj (by omega)
    simp only [atLeaf, List.getElem?_eq_getElem hj, List.getElem?_eq_getElem (show i < es.length by omega), Bool.not_eq_true'] at hi ⊢
    cases h2 : lt es[j].1 k with
    | false => rfl
    | true => rw [hl.tr h1 h2] at hi; cases hi
theorem fst_some {h : Nat} {t : T (κ × ν)} (hw : WF h t) : ∃ e, (toL h t).head? = some e ∧ e ∈ toL h t ∧ fstK h t = some e.1 := by
  have := toL_ne h t hw
  cases hh : toL h t with
  | nil => exact absurd hh this
  | cons e l => exact ⟨e, rfl, List.mem_cons_self, by simp [fstK, hh]⟩
theorem fst_lt {h : Nat} {ks : List (T (κ × ν))} (hs : Sd lt (toL (h + 1) (.br ks))) {i j : Nat} (hij : i < j) (hj : j < ks.length) {x y : κ × ν} (hx : x ∈ toL h (ks[i]'(by omega))) (hy : y ∈ toL h ks[j]) : lt x.1 y.1 = true := by
  rw [toL_succ] at hs
  have := (List.pairwise_flatMap.1 hs).2
  exact List.pairwise_iff_getElem.1 this i j (by omega) hj hij x hx y hy
theorem br_mono (hl : Lin lt) {h : Nat} {ks : List (T (κ × ν))} (hw : WF (h + 1) (.br ks)) (hs : Sd lt (toL (h + 1) (.br ks))) (k : κ) : Mono (atBr lt h ks k) ks.length := fun i j hij hj hi => by
  obtain ⟨h1, h2, h3⟩ : ks ≠ [] ∧ ks.length ≤ 32 ∧ ∀ t ∈ ks, WF h t := hw
  by_cases e : i = j
  · subst e; exact hi
  · have hi' : i < ks.length := by omega
    obtain ⟨x, _, hx, ex⟩ := fst_some (h3 _ (List.getElem_mem hi'))
    obtain ⟨y, _, hy, ey⟩ := fst_some (h3 _ (List.getElem_mem hj))
    simp only [atBr, List.getElem?_eq_getElem hj, List.getElem?_eq_getElem hi', ex, ey] at hi ⊢
    exact hl.tr hi (fst_lt hs (by omega) hj hx hy)
end
end Go.Vc.Bt
end
section
namespace Go.Proofs.YtodjijfblgnfmaaGreatDoor.I
open Go.Vc Go.Proofs Go.Proofs.YtodjijfblgnfmaaGreatDoor Go.Vc.Bt
variable {w w' : World} {cv : Value} {t : Tr} {K : KV} {Kp : KP} {lt : Ky → Ky → Bool} {k : Ky} {h : Nat} {b g o c : Nat} {es : List (Ky × Vl)}
theorem leafKey (hg : Sg w 223 2 g o es.length c (ents es)) : ∃ cur, w.heap[g]? = some (.cells cur 223 (0, 0)) ∧ ∀ j (hj : j < es.length), cur[o + j * 2]? = some (ek es[j].1) := by
  obtain ⟨cur, h1, h2, h3⟩ := hg.cells
  refine ⟨cur, h1, fun j hj => ?_⟩
  rw [h3 _ (by rw [ents_len]; omega)]
  have := ents_get (r := 0) hj (by decide)
  rw [Nat.add_zero] at this
  rw [this]; rfl
theorem leafVal (hg : Sg w 223 2 g o es.length c (ents es)) : ∃ cur, w.heap[g]? = some (.cells cur 223 (0, 0)) ∧ ∀ j (hj : j < es.length), cur[o + j * 2]? = some (ek es[j].1) ∧ cur[o + j * 2 + 1]? = some (ev es[j].2) := by
  obtain ⟨cur, h1, h2, h3⟩ := hg.cells
  obtain ⟨cur', h1', h4⟩ := leafKey hg
  rw [h1] at h1'; cases h1'
  refine ⟨cur, h1, fun j hj => ⟨h4 j hj, ?_⟩⟩
  rw [Nat.add_assoc, h3 _ (by rw [ents_len]; omega), ents_get hj (by decide)]; rfl
theorem elCells {ps : List (Tr × Value)} (hg : Sg w 286 2 g o ps.length c (els h ps)) : ∃ cur, w.heap[g]? = some (.cells cur 286 (0, 0)) ∧ ∀ j (hj : j < ps.length), cur[o + j * 2]? = some (((fstK h ps[j].1).map ek).getD zk) ∧ cur[o + j * 2 + 1]? = some ps[j].2 := by
  obtain ⟨cur, h1, h2, h3⟩ := hg.cells
  refine ⟨cur, h1, fun j hj => ⟨?_, ?_⟩⟩
  · rw [h3 _ (by rw [els_len]; omega)]
    have := els_get (h := h) (r := 0) hj (by decide)
    rw [Nat.add_zero] at this
    rw [this]; rfl
  · rw [Nat.add_assoc, h3 _ (by rw [els_len]; omega), els_get hj (by decide)]; rfl
theorem ne_neg (a b : Ky) : (!decide (Bt.cmp lt a b = -1)) = !lt a b := by
  by_cases h : lt a b = true
  · rw [h, cmp_neg.2 h]; rfl
  · have h' : lt a b = false := by simpa using h
    rw [h', decide_eq_false fun e => h (cmp_neg.1 e)]
theorem eq_one (hl : Lin lt) (a b : Ky) : decide (Bt.cmp lt a b = 1) = lt b a := by
  by_cases h : lt b a = true
  · rw [h, (cmp_one hl).2 h]; rfl
  · have h' : lt b a = false := by simpa using h
    rw [h']; exact decide_eq_false fun e => h ((cmp_one hl).1 e)
theorem leafIdx_ok (hC : IsC cv lt) (hs : Sd lt es) (hn : es.length ≤ 33) (hb : w.heap[b]? = some (.cells #[.slice (some ⟨g, o, none⟩) es.length c] 226 (0, 0))) (hg : Sg w 223 2 g o es.length c (ents es))
    (hK : ∀ w', Frm (fun _ => False) w w' → K (.int .i64 (place lt es k)) w') : Calls Tryz.prog 247 #[ptr b, ek k, cv] w (ret K Kp) := by
  obtain ⟨ct, cp, rfl⟩ := hC.iface
  refine vc247_calls ?_
  delta vc247
  refine op_box_ok fun w1 k1 z1 b1 => op_box_ok fun w2 k2 z2 b2 => op_box_ok fun w3 k3 z3 b3 => ?_
  have f3 := Frm.no k1 (Frm.no k2 k3)
  have hb3 := f3.get hb fun h => h
  have hg3 := hg.still f3
  rw [cells_of_one (by rfl)] at b1 b2 b3
  have c1 := k3.get (k2.get b1 fun h => h) fun h => h
  have c2 := k3.get b2 fun h => h
  simp [-getElem?_pos, -Array.getElem?_eq_getElem, -Int.natCast_add, ptr, c1, hb3]
  refine search_ok (p := atLeaf lt es k) (by kernel_rfl) (by omega) (leaf_mono hC.lin hs k) (fun i w4 K Kp hi f4 hK4 => ?_) fun w4 f4 => ?_
  · have d1 := f4.get c1 fun h => h
    have d2 := f4.get c2 fun h => h
    have d3 := f4.get b3 fun h => h
    have hb4 := f4.get hb3 fun h => h
    obtain ⟨cur, hcur, hk⟩ := leafKey (hg3.still f4)
    have hki := hk i hi
    rw [show (#[] ++ #[Value.int .i64 i] ++ #[.pointer (some ⟨w2.heap.size, 0, none⟩), .pointer (some ⟨w.heap.size, 0, none⟩), .pointer (some ⟨w1.heap.size, 0, none⟩)] : Array Value) = #[.int .i64 i, .pointer (some ⟨w2.heap.size, 0, none⟩), .pointer (some ⟨w.heap.size, 0, none⟩), .pointer (some ⟨w1.heap.size, 0, none⟩)] from rfl]
    refine vc250_calls ?_
    delta vc250
    simp [-getElem?_pos, -Array.getElem?_eq_getElem, -Int.natCast_add, ptr, d1, d2, d3, hb4, hcur, hki, hC.nilC]
    refine ⟨hi, hC.cmp fun w5 f5 => ?_⟩
    have := hK4 w5 (Frm.dr f5)
    simp only [atLeaf, List.getElem?_eq_getElem hi] at this
    simp [-getElem?_pos, -Array.getElem?_eq_getElem, -Int.natCast_add, ne_neg]
    exact this
  · rw [leaf_first]
    exact hK w4 (Frm.no f3 f4)
theorem brIdx_ok {ks : List Tr} {ps : List (Tr × Value)} (hC : IsC cv lt) (hw : WF (h + 1) (.br ks)) (hs : Sd lt (toL (h + 1) (.br ks))) (hps : ks = ps.map (·.1)) (hb : w.heap[b]? = some (.cells #[.slice (some ⟨g, o, none⟩) ps.length c] 284 (0, 0))) (hg : Sg w 286 2 g o ps.length c (els h ps))
    (hK : ∀ w', Frm (fun _ => False) w w' → K (.int .i64 (kid lt h ks k)) w') : Calls Tryz.prog 259 #[ptr b, ek k, cv] w (ret K Kp) := by
  obtain ⟨n1, n2, n3⟩ : ks ≠ [] ∧ ks.length ≤ 32 ∧ ∀ t ∈ ks, WF h t := hw
  have hl : ps.length = ks.length := by rw [hps, List.length_map]
  obtain ⟨ct, cp, rfl⟩ := hC.iface
  refine vc259_calls ?_
  delta vc259
  refine op_box_ok fun w1 k1 z1 b1 => op_box_ok fun w2 k2 z2 b2 => op_box_ok fun w3 k3 z3 b3 => ?_
  rw [cells_of_one (by rfl)] at b1 b2 b3
  have c1 := k3.get (k2.get b1 fun h => h) fun h => h
  have c2 := k3.get b2 fun h => h
  have f3 := Frm.no k1 (Frm.no k2 k3)
  have hb3 := f3.get hb fun h => h
  have hg3 := hg.still f3
  simp [-getElem?_pos, -Array.getElem?_eq_getElem, -Int.natCast_add, ptr, c1, hb3]
  refine search_ok (p := atBr lt h ks k) (by kernel_rfl) (by omega) (by rw [hl]; exact br_mono hC.lin ⟨n1, n2, n3⟩ hs k) (fun i w4 K Kp hi f4 hK4 => ?_) fun w4 f4 => ?_
  · have d1 := f4.get c1 fun h => h
    have d2 := f4.get c2 fun h => h
    have d3 := f4.get b3 fun h => h
    have hb4 := f4.get hb3 fun h => h
    obtain ⟨cur, hcur, hk⟩ := elCells (hg3.still f4)
    have hki := (hk i hi).1
    have hki' : ks[i]? = some ps[i].1 := by rw [hps, List.getElem?_map, List.getElem?_eq_getElem hi]; rfl
    obtain ⟨e, _, _, he⟩ := fst_some (n3 ps[i].1 (List.mem_of_getElem? hki'))
    rw [he] at hki
    simp only [Option.map_some, Option.getD_some] at hki
    rw [show (#[] ++ #[Value.int .i64 i] ++ #[.pointer (some ⟨w2.heap.size, 0, none⟩), .pointer (some ⟨w.heap.size, 0, none⟩), .pointer (some ⟨w1.heap.size, 0, none⟩)] : Array Value) = #[.int .i64 i, .pointer (some ⟨w2.heap.size, 0, none⟩), .pointer (some ⟨w.heap.size, 0, none⟩), .pointer (some ⟨w1.heap.size, 0, none⟩)] from rfl]
    refine vc262_calls ?_
    delta vc262
    simp [-getElem?_pos, -Array.getElem?_eq_getElem, -Int.natCast_add, ptr, d1, d2, d3, hb4, hcur, hki, hC.nilC]
    refine ⟨hi, hC.cmp fun w5 f5 => ?_⟩
    have := hK4 w5 (Frm.dr f5)
    simp only [atBr, hki', he] at this
    simp [-getElem?_pos, -Array.getElem?_eq_getElem, -Int.natCast_add, eq_one hC.lin]
    exact this
  · have hkk := br_first (lt := lt) h ks k
    rw [← hl] at hkk
    have := hK w4 (Frm.no f3 f4)
    rw [← hkk] at this
    have hfl : firstOf (atBr lt h ks k) ps.length ≤ ps.length := by unfold firstOf; have := List.findIdx_le_length (p := atBr lt h ks k) (xs := List.range ps.length); simpa using this
    generalize firstOf (atBr lt h ks k) ps.length = q at *
    simp only [op_gtr, Br_dec, op_sub]
    refine ⟨fun h0 => ?_, fun h0 => ?_⟩
    · rw [show IntKind.i64.wrap ((q : Int) - 1) = ((q - 1 : Nat) : Int) from by rw [IntKind.wrap_i64]; omega]
      exact this
    · rw [show q - 1 = 0 from by omega] at this
      exact this
end Go.Proofs.YtodjijfblgnfmaaGreatDoor.I
end
section
namespace Go.Proofs.YtodjijfblgnfmaaGreatDoor.I
open Go.Vc Go.Proofs Go.Proofs.YtodjijfblgnfmaaGreatDoor Go.Vc.Bt
variable {w w' : World} {v cv : Value} {t : Tr} {K : KV} {Kp : KP} {lt : Ky → Ky → Bool} {k : Ky} {x : Vl} {b g o c : Nat} {es : List (Ky × Vl)}
theorem minKey_ok : ∀ {h : Nat} {t : Tr} {v : Value} {w : World} {K : KV} {Kp : KP}, Rep w h t v → WF h t → (∀ w' m, Frm (fun _ => False) w w' → fstK h t = some m → K (ek m) w') → nP.call (.inv v "pub-bracken/pub/immutable.minKey") [] w K Kp
  | 0, t, v, w, K, Kp, hr, hw, hK => by
    obtain ⟨es, rfl, h1, h2⟩ := wf_zero.1 hw
    obtain ⟨b, g, o, c, rfl, hb, hg⟩ := hr
    simp only [inv_220_248]
    refine vc248_calls ?_
    delta vc248
    obtain ⟨cur, hcur, hk⟩ := leafKey hg
    have h0 : 0 < es.length := List.length_pos_iff.2 h1
    have hk0 := hk 0 h0
    rw [Nat.zero_mul, Nat.add_zero] at hk0
    simp [-getElem?_pos, -Array.getElem?_eq_getElem, -Int.natCast_add, ptr, hb, hcur, hk0]
    refine ⟨h0, hK _ _ Frm.refl ?_⟩
    rw [fstK, toL_zero, List.head?_eq_getElem?, List.getElem?_eq_getElem h0]; rfl
  | h + 1, t, v, w, K, Kp, hr, hw, hK => by
    obtain ⟨ks, rfl, h1, h2, h3⟩ := wf_succ.1 hw
    obtain ⟨b, g, o, c, ps, rfl, hb, hps, hg, hc⟩ := hr
    have hl : ps.length = ks.length := by rw [hps, List.length_map]
    rw [← hl] at hb hg
    simp only [inv_279_260]
    refine vc260_calls ?_
    delta vc260
    obtain ⟨cur, hcur, hk⟩ := elCells hg
    have h0 : 0 < ps.length := by rw [hl]; exact List.length_pos_iff.2 h1
    have hk0 := (hk 0 h0).2
    rw [Nat.zero_mul, Nat.add_zero] at hk0
    have hm0 : ps[0].1 ∈ ks := by rw [hps]; exact List.mem_map.2 ⟨_, List.getElem_mem h0, rfl⟩
    simp [-getElem?_pos, -Array.getElem?_eq_getElem, -Int.natCast_add, ptr, hb, hcur, hk0]
    refine ⟨h0, minKey_ok (hc _ (List.getElem_mem h0)) (h3 _ hm0) fun w' m hf he => hK w' m hf ?_⟩
    obtain ⟨e, e1, e2, e3⟩ := fst_some (h3 _ hm0)
    rw [e3] at he
    match ps, h0, hps with
    | p :: ps, _, hps =>
      subst hps
      simp only [List.getElem_cons_zero] at e1
      rw [← he, fstK, toL_succ, List.map_cons, List.flatMap_cons, List.head?_append, e1]; rfl
/-! ### get -/
def gotV (o : Option Vl) : Value := match o with
  | some x => .tuple #[ev x, .bool true]
  | none => .tuple #[zv, .bool false]
theorem get_ok (hC : IsC cv lt) : ∀ {h : Nat} {t : Tr} {v : Value} {w : World} {K : KV} {Kp : KP}, Rep w h t v → WF h t → Sd lt (toL h t) → (∀ w', Frm (fun _ => False) w w' → K (gotV (getT lt h t k)) w') → nP.call (.inv v "pub-bracken/pub/immutable.get") [ek k, cv] w K Kp
  | 0, t, v, w, K, Kp, hr, hw, hs, hK => by
    obtain ⟨es, rfl, h1, h2⟩ := wf_zero.1 hw
    obtain ⟨b, g, o, c, rfl, hb, hg⟩ := hr
    rw [toL_zero] at hs
    simp only [inv_220_246]
    refine vc246_calls ?_
    simp only [vc246, call_247]
    refine leafIdx_ok hC hs (by omega) hb hg fun w1 f1 => ?_
    have hb1 := f1.get hb fun h => h
    have hp := place_le (lt := lt) es k
    simp [-getElem?_pos, -Array.getElem?_eq_getElem, -Int.natCast_add, ptr, hb1]
    refine ⟨fun he => ?_, fun hne => ?_⟩
    · have := hK w1.drew (Frm.no f1 (Frm.drew _))
      have hn : got lt es k = none := by
        unfold got has
        rw [List.getElem?_eq_none (by omega)]; rfl
      rw [getT, hn] at this
      exact this
    · have hlt : place lt es k < es.length := by omega
      obtain ⟨cur, hcur, hk⟩ := leafVal (hg.still f1)
      have hki := hk _ hlt
      simp [-getElem?_pos, -Array.getElem?_eq_getElem, -Int.natCast_add, hcur, hki, hC.nilC]
      refine ⟨hlt, hC.cmp fun w2 f2 => ?_⟩
      have := hK w2 (Frm.no f1 (Frm.dr f2))
      have hb2 := (Frm.dr f2).get hb1 fun h => h
      obtain ⟨cur2, hcur2, hk2⟩ := leafVal ((hg.still f1).still (Frm.dr f2))
      have hki2 := hk2 _ hlt
      have hz : Bt.cmp lt es[place lt es k].1 k = 0 ↔ es[place lt es k].1 = k := cmp_zero hC.lin
      simp only [getT, got, has, List.getElem?_eq_getElem hlt, Option.map_some] at this
      by_cases e : es[place lt es k].1 = k
      · rw [if_pos (by simpa using e)] at this
        simp [-getElem?_pos, -Array.getElem?_eq_getElem, -Int.natCast_add, hz.2 e, hb2, hcur2, hki2]
        exact ⟨hlt, this⟩
      · rw [if_neg (by simpa using e)] at this
        have he : ¬ Bt.cmp lt es[place lt es k].1 k = 0 := fun h => e (hz.1 h)
        simp [-getElem?_pos, -Array.getElem?_eq_getElem, -Int.natCast_add, he]
        exact this
  | h + 1, t, v, w, K, Kp, hr, hw, hs, hK => by
    obtain ⟨ks, rfl, h1, h2, h3⟩ := wf_succ.1 hw
    obtain ⟨b, g, o, c, ps, rfl, hb, hps, hg, hc⟩ := hr
    have hl : ps.length = ks.length := by rw [hps, List.length_map]
    rw [← hl] at hb hg
    simp only [inv_279_258]
    refine vc258_calls ?_
    simp only [vc258, call_259]
    refine brIdx_ok hC hw hs hps hb hg fun w1 f1 => ?_
    have hb1 := f1.get hb fun h => h
    have hi := kid_lt (lt := lt) (h := h) (k := k) h1
    have hsp := toL_split (h := h) hi
    obtain ⟨cur, hcur, hk⟩ := elCells (hg.still f1)
    rw [getT, List.getElem?_eq_getElem hi, Option.bind_some] at hK
    generalize kid lt h ks k = i at *
    have hki := (hk i (by omega)).2
    have hs2 : Sd lt (toL h ks[i]) := by
      rw [hsp] at hs
      exact (List.pairwise_append.1 (List.pairwise_append.1 hs).2.1).1
    have hpi : (ps[i]'(by omega)).1 = ks[i] := by simp [hps]
    have hr' := (hc _ (List.getElem_mem (show i < ps.length by omega))).still f1
    rw [hpi] at hr'
    simp [-getElem?_pos, -Array.getElem?_eq_getElem, -Int.natCast_add, ptr, hb1, hcur, hki]
    refine ⟨by omega, get_ok hC hr' (h3 _ (List.getElem_mem hi)) hs2 fun w2 f2 => ?_⟩
    have := hK w2 (Frm.no f1 f2)
    cases hgg : getT lt h ks[i] k with
    | none =>
      rw [hgg] at this
      simp [-getElem?_pos, -Array.getElem?_eq_getElem, -Int.natCast_add, gotV]
      exact this
    | some y =>
      rw [hgg] at this
      simp [-getElem?_pos, -Array.getElem?_eq_getElem, -Int.natCast_add, gotV]
      exact this
end Go.Proofs.YtodjijfblgnfmaaGreatDoor.I
end
section
namespace Go.Vc
variable {P : Program} {w w' : World} {K : Value → World → Prop} {Kp : KP} {t e e' : TypeId} {s g cap : Nat} {xs : List Value}
def partAt (q o c i s : Nat) : Addr := if c = i then ⟨q, o, none⟩ else ⟨q, o + i * s, none⟩
theorem partAt_zero {q o c s : Nat} : partAt q o c 0 s = ⟨q, o, none⟩ := by unfold partAt; split <;> simp
theorem partAt_suc {q c i s : Nat} : (if c = i then (⟨q, 0, none⟩ : Addr) else ⟨q, (i + 1) * s, none⟩) = partAt q 0 (c + 1) (i + 1) s := by
  unfold partAt
  by_cases h : c = i
  · rw [if_pos h, if_pos (by omega)]
  · rw [if_neg h, if_neg (by omega), Nat.zero_add]
theorem op_copySg {dT sT ty : TypeId} {a1 a2 : Addr} {c1 i1 n1 q o m c i n dc sc sl : Nat} {ys : List Value} (hc : (sliceOf P dT).map (·.2) = some s)
    (hg : Rw w e s g cap xs) (hs : Sg w e' s q o m c ys) (h1 : a1 = partAt g 0 c1 i1 s) (h2 : a2 = partAt q o c i s) (hsl : sl = m - i) (h1c : i1 + n1 ≤ c1) (hnn : n = min (m - i) n1) (hi : i ≤ m) (hd : i1 * s + n * s ≤ xs.length) (ho : ∀ v ∈ ys, v.oneCell' = true)
    (hK : ∀ w', Frm (· = g) w w' → w'.heap.size = w.heap.size → Rw w' e s g cap (lw xs (i1 * s) ((ys.drop (i * s)).take (n * s))) → K (.int .i64 n) w') :
    (nice P).op (.blt .copy [dT, sT] ty [.slice (some a1) n1 dc, .slice (some a2) sl sc]) w K Kp := by
  subst h1 h2 hsl
  have hle := hs.le
  have hlen := hs.len
  obtain ⟨cs, k1, k2, k3⟩ := hs.part
  have hns : n * s = min (m * s - i * s) (n1 * s) := by
    rw [← Nat.sub_mul]
    show n * s = min ((m - i) * s) (n1 * s)
    rw [hnn, Nat.min_def, Nat.min_def]
    by_cases h : m - i ≤ n1
    · rw [if_pos h, if_pos (Nat.mul_le_mul_right s h)]
    · rw [if_neg h]
      by_cases h' : (m - i) * s ≤ n1 * s
      · rw [if_pos h']; exact Nat.le_antisymm (Nat.mul_le_mul_right s (by omega)) h'
      · rw [if_neg h']
  have him : i * s ≤ m * s := Nat.mul_le_mul_right s hi
  have hin : i * s + n * s ≤ ys.length := by rw [hlen, hns]; show i * s + min (m * s - i * s) (n1 * s) ≤ m * s; omega
  obtain ⟨k4, k5⟩ := k3 (i * s) (n * s) hin
  have hzl : ((ys.drop (i * s)).take (n * s)).length = n * s := by rw [List.length_take, List.length_drop]; omega
  have hz : (cs.toList.drop (o + i * s)).take (n * s) = (ys.drop (i * s)).take (n * s) := by
    have := congrArg Array.toList k5
    rw [Array.toList_extract, List.extract_eq_take_drop] at this
    have e : (((ys.drop (i * s)).take (n * s)).toArray).toList = (ys.drop (i * s)).take (n * s) := rfl
    rw [← e, ← this]; congr 1; omega
  have ha1 : partAt g 0 c1 i1 s = ⟨g, i1 * s, none⟩ ∨ partAt g 0 c1 i1 s = ⟨g, 0, none⟩ ∧ n = 0 := by
    unfold partAt
    by_cases h : c1 = i1
    · rw [if_pos h]; exact .inr ⟨rfl, by omega⟩
    · rw [if_neg h]; exact .inl (by rw [Nat.zero_add])
  have hone : ∀ v ∈ (ys.drop (i * s)).take (n * s), v.oneCell' = true := fun v hv => ho v (List.mem_of_mem_drop (List.mem_of_mem_take hv))
  by_cases h : c = i
  · have h0 : n = 0 := by omega
    have hp : partAt q o c i s = ⟨q, o, none⟩ := by unfold partAt; rw [if_pos h]
    subst h0
    refine op_copyS (zs := (ys.drop (i * s)).take (0 * s)) (o2 := o) hc hg k1 ha1 hp hnn hd ?_ hzl (by omega) hone hK
    simp
  · have hp : partAt q o c i s = ⟨q, o + i * s, none⟩ := by unfold partAt; rw [if_neg h]
    exact op_copyS hc hg k1 ha1 hp hnn hd hz hzl (by omega) hone hK
section
variable {α : Type} {f : α → List Value} {k : Nat}
theorem fm_take (hk : ∀ x, (f x).length = k) (es : List α) (i : Nat) : (es.take i).flatMap f = (es.flatMap f).take (i * k) := by
  induction es generalizing i with
  | nil => simp
  | cons e es ih =>
    cases i with
    | zero => simp
    | succ i => rw [List.take_succ_cons, List.flatMap_cons, List.flatMap_cons, ih, List.take_append, hk, List.take_of_length_le (l := f e) (by rw [hk, Nat.succ_mul]; omega), show (i + 1) * k - k = i * k from by rw [Nat.succ_mul]; omega]
theorem fm_drop (hk : ∀ x, (f x).length = k) (es : List α) (i : Nat) : (es.drop i).flatMap f = (es.flatMap f).drop (i * k) := by
  induction es generalizing i with
  | nil => simp
  | cons e es ih =>
    cases i with
    | zero => simp
    | succ i => rw [List.drop_succ_cons, List.flatMap_cons, ih, List.drop_append, hk, List.drop_of_length_le (l := f e) (by rw [hk, Nat.succ_mul]; omega), show (i + 1) * k - k = i * k from by rw [Nat.succ_mul]; omega, List.nil_append]
theorem fm_set (hk : ∀ x, (f x).length = k) {es : List α} {i : Nat} {e : α} (hi : i < es.length) : (es.set i e).flatMap f = lw (es.flatMap f) (i * k) (f e) := by
  rw [List.set_eq_take_append_cons_drop, if_pos hi, List.flatMap_append, List.flatMap_cons, fm_take hk, fm_drop hk]
  unfold lw
  rw [hk, Nat.succ_mul, List.append_assoc]
theorem fm_ins (hk : ∀ x, (f x).length = k) {es : List α} {i : Nat} {e : α} : (es.take i ++ e :: es.drop i).flatMap f = (es.flatMap f).take (i * k) ++ (f e ++ (es.flatMap f).drop (i * k)) := by
  rw [List.flatMap_append, List.flatMap_cons, fm_take hk, fm_drop hk]
theorem fm_two (hk : ∀ x, (f x).length = k) {es : List α} {i : Nat} {e e2 : α} : (es.take i ++ [e, e2] ++ es.drop (i + 1)).flatMap f = (es.flatMap f).take (i * k) ++ (f e ++ (f e2 ++ (es.flatMap f).drop (i * k + k))) := by
  rw [List.flatMap_append, List.flatMap_append, List.flatMap_cons, List.flatMap_cons, List.flatMap_nil, fm_take hk, fm_drop hk, List.append_nil, Nat.succ_mul]
  simp only [List.append_assoc]
theorem fm_del (hk : ∀ x, (f x).length = k) {es : List α} {i : Nat} : (es.eraseIdx i).flatMap f = (es.flatMap f).take (i * k) ++ (es.flatMap f).drop (i * k + k) := by
  rw [List.eraseIdx_eq_take_drop_succ, List.flatMap_append, fm_take hk, fm_drop hk, Nat.succ_mul]
end
end Go.Vc
end
section
namespace Go.Proofs.YtodjijfblgnfmaaGreatDoor.I
open Go.Vc Go.Proofs Go.Proofs.YtodjijfblgnfmaaGreatDoor Go.Vc.Bt
variable {w w' : World} {v cv : Value} {t : Tr} {K : KV} {Kp : KP} {lt : Ky → Ky → Bool} {k : Ky} {x : Vl} {rb : Nat} {r0 : Bool} {b g o c h : Nat} {es : List (Ky × Vl)}
def flag (w : World) (rb : Nat) (b : Bool) : Prop := w.heap[rb]? = some (.cells #[.bool b] 4 (0, 0))
theorem flag.frame {M : Nat → Prop} {b : Bool} (h : flag w rb b) (hf : Frm M w w') (hM : ¬ M rb) : flag w' rb b := hf.get h hM
theorem raise_ok {b : Bool} (h : flag w rb b) (hK : ∀ w', Frm (· = rb) w w' → w'.heap.size = w.heap.size → flag w' rb true → K undef w') : nP.op (.store 4 (.pointer (some ⟨rb, 0, none⟩)) (.bool true)) w K Kp :=
  op_store_ok (by kernel_rfl) h (by simp) rfl fun w' hf hs hb => hK w' hf hs (by simpa [flag] using hb)
theorem flag.below {b : Bool} (h : flag w rb b) : rb < w.heap.size := lt_of_get h
theorem flag.typed {b : Bool} {cs : Array Value} {e : TypeId} {fz : Nat × Nat} {q : Nat} (h : flag w rb b) (hq : w.heap[q]? = some (.cells cs e fz)) (he : e ≠ 4) : q ≠ rb := fun e' => by
  subst e'
  unfold flag at h
  rw [h] at hq
  cases hq
  exact he rfl
theorem Sg.past {b : Bool} {e : TypeId} {s g o n c : Nat} {xs : List Value} (h : Sg w e s g o n c xs) (hfl : flag w rb b) (he : e ≠ 4) (hf : Frm (· = rb) w w') : Sg w' e s g o n c xs := by
  obtain ⟨cs, h1, h2⟩ := id h
  exact h.frame hf (hfl.typed h1 he)
theorem Rep.past {b : Bool} : ∀ {h : Nat} {t : Tr} {v : Value}, Rep w h t v → flag w rb b → Frm (· = rb) w w' → Rep w' h t v
  | 0, .leaf es, v, hr, hfl, hf => by
    obtain ⟨b, g, o, c, h1, h2, h3⟩ := hr
    exact ⟨b, g, o, c, h1, hf.get h2 (hfl.typed h2 (by decide)), Sg.past h3 hfl (by decide) hf⟩
  | h + 1, .br ks, v, hr, hfl, hf => by
    obtain ⟨b, g, o, c, ps, h1, h2, h3, h4, h5⟩ := hr
    exact ⟨b, g, o, c, ps, h1, hf.get h2 (hfl.typed h2 (by decide)), h3, Sg.past h4 hfl (by decide) hf, fun p hp => (h5 p hp).past hfl hf⟩
  | 0, .br ks, v, hr, hfl, hf => hr.elim
  | h + 1, .leaf es, v, hr, hfl, hf => hr.elim
def Reps (w : World) (h : Nat) : List Tr → List Value → Prop
  | [], [] => True
  | t :: ts, v :: vs => Rep w h t v ∧ Reps w h ts vs
  | _, _ => False
def two : List Value → Value
  | [a] => .tuple #[a, .nilIface]
  | [a, b] => .tuple #[a, b]
  | _ => .nilIface
theorem apE : apOf Tryz.prog 224 = some (223, 2, 16) := by kernel_rfl
theorem ents_take (es : List (Ky × Vl)) (i : Nat) : ents (es.take i) = (ents es).take (i * 2) := fm_take ent_len es i
theorem ents_drop (es : List (Ky × Vl)) (i : Nat) : ents (es.drop i) = (ents es).drop (i * 2) := fm_drop ent_len es i
theorem split_one {α : Type} {l : List α} (h : l.length ≤ 32) : split l = [l] := by unfold Bt.split; rw [if_neg (by omega)]
theorem split_two {α : Type} {l : List α} (h : l.length = 33) : split l = [l.take 16, l.drop 16] := by unfold Bt.split; rw [if_pos (by omega), h]
theorem op_storeE {o : Nat} {zs : List Value} {cap : Nat} (hr : Rw w 223 2 g cap zs) (ho : o + 2 ≤ zs.length) (hK : ∀ w', Frm (· = g) w w' → w'.heap.size = w.heap.size → Rw w' 223 2 g cap (lw zs o (ent (k, x))) → K undef w') : nP.op (.store 223 (.pointer (some ⟨g, o, none⟩)) (.agg #[ek k, ev x])) w K Kp :=
  op_storeRN (n := 2) (by kernel_rfl) rfl hr ho (fun u hu => by simp only [List.mem_toArray, List.mem_cons, List.not_mem_nil, or_false] at hu; rcases hu with rfl | rfl <;> rfl) hK
@[simp] theorem op_ent (a : Ky) (c : Vl) {w : World} {K : KV} {Kp : KP} : nP.op (.build 223 [(0, ek a), (1, ev c)]) w K Kp = K (.agg #[ek a, ev c]) w := op_build_223_0_1 (one_ek a) (one_ev c)
theorem leafSet_ok (hC : IsC cv lt) (hr : Rep w 0 (.leaf es) v) (hw : WF 0 (.leaf es)) (hs : Sd lt es) (hfl : flag w rb r0)
    (hK : ∀ w' ns, Frm (· = rb) w w' → flag w' rb (r0 || !has lt es k) → Reps w' 0 ((split (Bt.put lt es k x)).map .leaf) ns → K (two ns) w') :
    nP.call (.inv v "pub-bracken/pub/immutable.set") [ek k, ev x, cv, .bool false, .pointer (some ⟨rb, 0, none⟩)] w K Kp := by
  obtain ⟨h1, h2⟩ : es ≠ [] ∧ es.length ≤ 32 := hw
  obtain ⟨b, g, o, c, rfl, hb, hg⟩ := hr
  simp only [inv_220_249]
  refine vc249_calls ?_
  delta vc249
  simp only [call_247]
  refine leafIdx_ok hC hs (by omega) hb hg fun w1 f1 => ?_
  have hb1 := f1.get hb fun h => h
  have hg1 := hg.still f1
  have hfl1 := hfl.frame f1 fun h => h
  have hp := place_le (lt := lt) es k
  obtain ⟨J, hJ⟩ : ∃ J : KV, ∀ e wl, J e wl ↔ e = .bool (has lt es k) ∧ Frm (fun _ => False) w wl := ⟨_, fun _ _ => Iff.rfl⟩
  refine Jn.intro J ⟨?_, ?_⟩
  · simp [-getElem?_pos, -Array.getElem?_eq_getElem, -Int.natCast_add, ptr, hb1]
    refine ⟨fun hlt => ?_, fun hge => (hJ _ _).2 ⟨?_, Frm.no f1 (Frm.drew _)⟩⟩
    · have hlt' : place lt es k < es.length := by omega
      obtain ⟨cur, hcur, hk⟩ := leafKey hg1
      have hki := hk _ hlt'
      simp [-getElem?_pos, -Array.getElem?_eq_getElem, -Int.natCast_add, hcur, hki, hC.nilC]
      refine ⟨hlt', hC.cmp fun w2 f2 => ?_⟩
      simp [-getElem?_pos, -Array.getElem?_eq_getElem, -Int.natCast_add]
      refine (hJ _ _).2 ⟨?_, Frm.no f1 (Frm.dr f2)⟩
      have hz : Bt.cmp lt es[place lt es k].1 k = 0 ↔ es[place lt es k].1 = k := cmp_zero hC.lin
      unfold has
      rw [List.getElem?_eq_getElem hlt']
      simp [hz]
    · unfold has
      rw [List.getElem?_eq_none (by omega)]
  · intro w3 junk j hj
    obtain ⟨rfl, f3⟩ := (hJ _ _).1 hj
    have hb3 := f3.get hb fun h => h
    have hg3 := hg.still f3
    have hfl3 := hfl.frame f3 fun h => h
    clear hb1 hg1 hfl1 f1
    simp only [Br_false]
    obtain ⟨J, hJ⟩ : ∃ J : KV, ∀ e wl, J e wl ↔ ∃ q, e = .slice (some ⟨q, 0, none⟩) (Bt.put lt es k x).length (Bt.put lt es k x).length ∧ Rw wl 223 2 q (Bt.put lt es k x).length (ents (Bt.put lt es k x)) ∧ Frm (· = rb) w wl ∧ flag wl rb (r0 || !has lt es k) := ⟨_, fun _ _ => Iff.rfl⟩
    refine Jn.intro J ⟨?_, ?_⟩
    · have hpl := put_len (lt := lt) (L := es) (k := k) (v := x)
      cases hh : has lt es k with
      | true =>
        have hlt := has_lt hh
        rw [hh] at hpl
        simp only [hh, Bool.not_true, Bool.or_false] at hJ
        have hpl : (Bt.put lt es k x).length = es.length := by rw [hpl]; rfl
        have hpe : ents (Bt.put lt es k x) = lw (ents es) (place lt es k * 2) (ent (k, x)) := by
          unfold Bt.put; rw [hh]; exact fm_set ent_len hlt
        simp only [Br_true]
        simp [-getElem?_pos, -Array.getElem?_eq_getElem, -Int.natCast_add, ptr, hb3]
        refine op_make_ok apE rfl (by omega) fun w4 zs k4 z4 hz r4 => ?_
        have hb4 := k4.get hb3 fun h => h
        have hg4 := hg3.still k4
        simp [-getElem?_pos, -Array.getElem?_eq_getElem, -Int.natCast_add, ptr, hb4]
        refine op_copySg (n := es.length) (i := 0) (i1 := 0) (c1 := es.length) (by kernel_rfl) r4 hg4 partAt_zero.symm partAt_zero.symm rfl (by omega) (by omega) (by omega) (by rw [hz]; omega) (fun v hv => ents_one v hv) fun w5 k5 z5 r5 => ?_
        have e5 : lw zs (0 * 2) (((ents es).drop (0 * 2)).take (es.length * 2)) = ents es := by
          have hel := ents_len es
          rw [Nat.zero_mul, List.drop_zero, List.take_of_length_le (by omega)]
          unfold lw
          rw [List.take_zero, List.drop_of_length_le (by omega)]; simp
        rw [e5] at r5
        try simp [-getElem?_pos, -Array.getElem?_eq_getElem, -Int.natCast_add]
        refine ⟨hlt, op_storeE r5 (by rw [ents_len]; have := Nat.mul_le_mul_right 2 hlt; omega) fun w6 k6 z6 r6 => ?_⟩
        have f4 := f3.no k4
        have f5 := f4.old k5 fun b hb => .inr (by have := f3.size; omega)
        have f6 := f5.old k6 fun b hb => .inr (by have := f3.size; omega)
        refine (hJ _ _).2 ⟨_, by rw [hpl], by rw [hpe, hpl]; exact r6, f6.to fun _ h => h.elim, hfl.frame f6 fun h => h⟩
      | false =>
        rw [hh] at hpl
        simp only [hh, Bool.not_false, Bool.or_true] at hJ
        have hpl : (Bt.put lt es k x).length = es.length + 1 := by rw [hpl]; rfl
        have hpe : ents (Bt.put lt es k x) = (ents es).take (place lt es k * 2) ++ (ent (k, x) ++ (ents es).drop (place lt es k * 2)) := by
          unfold Bt.put; rw [hh]; exact fm_ins ent_len
        have hel := ents_len es
        have hpm : place lt es k * 2 ≤ es.length * 2 := Nat.mul_le_mul_right _ hp
        generalize place lt es k = p at *
        have ewl : IntKind.i64.wrap ((es.length : Int) + 1) = ((es.length + 1 : Nat) : Int) := by rw [IntKind.wrap_i64]; omega
        have ewp : IntKind.i64.wrap ((p : Int) + 1) = ((p + 1 : Nat) : Int) := by rw [IntKind.wrap_i64]; omega
        simp only [Br_false]
        simp [-getElem?_pos, -Array.getElem?_eq_getElem, -Int.natCast_add]
        refine raise_ok hfl3 fun w4 k4 z4 fl4 => ?_
        have hb4 := k4.get hb3 (hfl3.typed hb3 (by decide))
        have hg4 := Sg.past hg3 hfl3 (by decide) k4
        simp [-getElem?_pos, -Array.getElem?_eq_getElem, -Int.natCast_add, ptr, hb4, ewl]
        refine op_make_ok apE rfl (by omega) fun w5 zs k5 z5 hz r5 => ?_
        have hb5 := k5.get hb4 fun h => h
        have hg5 := hg4.still k5
        simp [-getElem?_pos, -Array.getElem?_eq_getElem, -Int.natCast_add, ptr, hb5, ewp]
        have hcl := hg5.le
        refine ⟨by omega, by omega, ?_⟩
        refine op_copySg (n := p) (i := 0) (i1 := 0) (c1 := es.length + 1) (by kernel_rfl) r5.drew ((hg5.hi (i := p) hp).still (Frm.drew _)) partAt_zero.symm partAt_zero.symm rfl (by omega) (by omega) (by omega) (by rw [hz, Nat.succ_mul]; omega) (fun v hv => ents_one v (List.mem_of_mem_take hv)) fun w6 k6 z6 r6 => ?_
        rw [show lw zs (0 * 2) ((((ents es).take (p * 2)).drop (0 * 2)).take (p * 2)) = lw zs 0 ((ents es).take (p * 2)) from by rw [Nat.zero_mul, List.drop_zero, List.take_take, Nat.min_self]] at r6
        have hzl : (lw zs 0 ((ents es).take (p * 2))).length = zs.length := lw_len (by simp; omega)
        try simp [-getElem?_pos, -Array.getElem?_eq_getElem, -Int.natCast_add]
        refine ⟨by omega, op_storeE r6 (by rw [hzl, hz, Nat.succ_mul]; omega) fun w7 k7 z7 r7 => ?_⟩
        have f5 := k4.old k5 fun b hb => .inl hb.elim
        have f6 := (f5.old (Frm.dr k6) fun b hb => .inr (by subst hb; omega))
        have f7 := f6.old k7 fun b hb => .inr (by subst hb; omega)
        have hb7 := f7.get hb3 (hfl3.typed hb3 (by decide))
        have hg7 := Sg.past hg3 hfl3 (by decide) f7
        simp [-getElem?_pos, -Array.getElem?_eq_getElem, -Int.natCast_add, hb7]
        refine ⟨hp, hcl, ?_⟩
        refine op_copySg (n := es.length - p) (i := p) (i1 := p + 1) (c1 := es.length + 1) (by kernel_rfl) r7.drew (hg7.still (Frm.drew _)) partAt_suc rfl rfl (by omega) (by omega) (by omega) (by rw [lw_len (by rw [hzl, hz, Nat.succ_mul, ent_len]; omega), hzl, hz, ← Nat.add_mul]; exact Nat.mul_le_mul_right _ (by omega)) (fun v hv => ents_one v hv) fun w8 k8 z8 r8 => ?_
        have e8 : lw (lw (lw zs 0 ((ents es).take (p * 2))) (p * 2) (ent (k, x))) ((p + 1) * 2) (((ents es).drop (p * 2)).take ((es.length - p) * 2)) = ents (Bt.put lt es k x) := by
          rw [hpe, List.take_of_length_le (l := (ents es).drop (p * 2)) (by rw [List.length_drop, hel, Nat.sub_mul]; exact Nat.le_refl _)]
          have := ins_row (A := ents es) (zs := zs) (e := ent (k, x)) (r := p * 2) (by omega) (by rw [hz, hel, ent_len, Nat.succ_mul])
          rw [ent_len] at this
          rw [Nat.succ_mul]; exact this
        rw [e8] at r8
        have f8 := f7.old (Frm.dr k8) fun b hb => .inr (by subst hb; omega)
        refine (hJ _ _).2 ⟨_, by rw [hpl], by rw [hpl]; exact r8, (f3.to fun _ h => h.elim).old f8 fun _ h => .inl h, ?_⟩
        exact (((fl4.frame k5 fun h => h).frame (Frm.dr k6) (by have := hfl3.below; omega)).frame k7 (by have := hfl3.below; omega)).frame (Frm.dr k8) (by have := hfl3.below; omega)
    · intro w7 junk v hv
      obtain ⟨q, rfl, hr, hf7, hfl7⟩ := (hJ _ _).1 hv
      have h33 : (Bt.put lt es k x).length ≤ 33 := by rw [put_len]; split <;> omega
      have hKK : ∀ w' ns, Frm (fun _ => False) w7 w' → Reps w' 0 ((split (Bt.put lt es k x)).map .leaf) ns → K (two ns) w' := fun w' ns hf hrs => hK w' ns (hf7.old hf fun _ h => h.elim) (hfl7.frame hf fun h => h) hrs
      clear hJ hv hK
      generalize Bt.put lt es k x = es at *
      have hsg := hr.sg (ents_len es) (Nat.le_refl _)
      simp [-getElem?_pos, -Array.getElem?_eq_getElem, -Int.natCast_add]
      refine ⟨fun hgt => ?_, fun hle => ?_⟩
      · have e33 : es.length = 33 := by omega
        rw [split_two e33] at hKK
        rw [e33] at hsg ⊢
        have a1 := Sg.mx (i := 16) hsg (by omega)
        have a2 := Sg.lo (i := 16) hsg (by omega)
        have e16 : IntKind.i64.wrap 16 = 16 := by rw [IntKind.wrap_i64]; rfl
        simp [-getElem?_pos, -Array.getElem?_eq_getElem, -Int.natCast_add, e16]
        refine op_box_ok fun w1 k1 z1 b1 => ?_
        try simp [-getElem?_pos, -Array.getElem?_eq_getElem, -Int.natCast_add, e16]
        refine op_box_ok fun w2 k2 z2 b2 => ?_
        try simp [-getElem?_pos, -Array.getElem?_eq_getElem, -Int.natCast_add, e16]
        have c1 := k2.get b1 fun h => h
        have f2 := Frm.no k1 k2
        refine hKK w2 [.iface 220 (ptr w7.heap.size), .iface 220 (ptr w1.heap.size)] f2 ⟨⟨_, q, 0, 16, rfl, ?_, ?_⟩, ⟨_, q, 16 * 2, 17, rfl, ?_, ?_⟩, trivial⟩
        · simpa [cells_agg, e33] using c1
        · have := a1.still f2
          rw [← ents_take] at this
          have e : (es.take 16).length = 16 := by simp [e33]
          rw [e]; exact this
        · simpa [cells_agg, e33] using b2
        · have := a2.still f2
          rw [← ents_drop] at this
          have e : (es.drop 16).length = 17 := by simp [e33]
          rw [e]; simpa using this
      · rw [split_one (by omega)] at hKK
        refine op_box_ok fun w1 k1 z1 b1 => ?_
        exact hKK w1 [.iface 220 (ptr w7.heap.size)] k1 ⟨⟨_, q, 0, es.length, rfl, by simpa [cells_agg] using b1, hsg.still k1⟩, trivial⟩
end Go.Proofs.YtodjijfblgnfmaaGreatDoor.I
end
