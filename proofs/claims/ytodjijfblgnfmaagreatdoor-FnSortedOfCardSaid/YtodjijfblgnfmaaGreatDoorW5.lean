import Derived.Test.YtodjijfblgnfmaaGreatDoorW4
import Derived.Test.YtodjijfblgnfmaaGreatDoorW2
import Derived.Test.YtodjijfblgnfmaaGreatDoorW0
import Derived.Test.YtodjijfblgnfmaaGreatDoorW1
import Derived.Test.YtodjijfblgnfmaaGreatDoorW3
set_option linter.unusedSimpArgs false
set_option linter.unusedVariables false
set_option linter.unusedSectionVars false
set_option maxRecDepth 100000
set_option maxHeartbeats 4000000
section
namespace Go.Proofs.YtodjijfblgnfmaaGreatDoor.I
open Go.Vc Go.Proofs Go.Proofs.YtodjijfblgnfmaaGreatDoor Go.Vc.Bt
variable {w w' : World} {v cv : Value} {K : KV} {Kp : KP} {lt : Ky → Ky → Bool} {k : Ky} {x : Vl} {rb : Nat} {r0 : Bool} {b g o c h : Nat} {es : List (Ky × Vl)} {F : Foot}
theorem leafSetM_ok (hC : IsC cv lt) (hr : RepC w 0 (.leaf es) v F) (hw : WF 0 (.leaf es)) (hs : Sd lt es) (hfl : flag w rb r0)
    (hK : ∀ w' N, CFrm (fun y j => F y j ∨ y = rb) w w' → flag w' rb (r0 || !has lt es k) → Own w' 0 N → N.map (·.1) = (split (Bt.put lt es k x)).map .leaf → (∀ p ∈ N, ∀ y j, p.2.2 y j → F y j ∨ w.heap.size ≤ y) → K (two (N.map (·.2.1))) w') :
    nP.call (.inv v "pub-bracken/pub/immutable.set") [ek k, ev x, cv, .bool true, .pointer (some ⟨rb, 0, none⟩)] w K Kp := by
  obtain ⟨h1, h2⟩ : es ≠ [] ∧ es.length ≤ 32 := hw
  have hrb := hr.flag hfl
  have hlow := hr.low
  obtain ⟨b, g, o, c, rfl, hb, hg, hF⟩ := hr
  have hFb : ∀ j, F b j := fun j => by rw [hF]; exact .inl rfl
  have hFg : ∀ j, o ≤ j → j < o + c * 2 → F g j := fun j h h' => by rw [hF]; exact .inr ⟨rfl, h, h'⟩
  simp only [inv_220_249]
  refine vc249_calls ?_
  delta vc249
  simp only [call_247]
  refine leafIdx_ok hC hs (by omega) hb hg fun w1 f1 => ?_
  have hb1 := f1.get hb fun h => h
  have hg1 := hg.still f1
  have hfl1 := hfl.frame f1 fun h => h
  have hp := place_le (lt := lt) es k
  obtain ⟨J, hJ⟩ : ∃ J : KV, ∀ e wl, J e wl ↔ e = .bool (has lt es k) ∧ Frm (fun _ => False) w wl := ⟨_, fun _ _ => Iff.rfl⟩
  refine Jn.intro J ⟨?_, ?_⟩
  · simp [-getElem?_pos, -Array.getElem?_eq_getElem, -Int.natCast_add, -op_st_4, -op_st_223, -op_st_224, -op_build_223_, -pur_build_223_, -op_lit_224_1, ptr, hb1]
    refine ⟨fun hlt => ?_, fun hge => (hJ _ _).2 ⟨?_, Frm.no f1 (Frm.drew _)⟩⟩
    · have hlt' : place lt es k < es.length := by omega
      obtain ⟨cur, hcur, hk⟩ := leafKey hg1
      have hki := hk _ hlt'
      simp [-getElem?_pos, -Array.getElem?_eq_getElem, -Int.natCast_add, -op_st_4, -op_st_223, -op_st_224, -op_build_223_, -pur_build_223_, -op_lit_224_1, hcur, hki, hC.nilC]
      refine ⟨hlt', hC.cmp fun w2 f2 => ?_⟩
      simp [-getElem?_pos, -Array.getElem?_eq_getElem, -Int.natCast_add, -op_st_4, -op_st_223, -op_st_224, -op_build_223_, -pur_build_223_, -op_lit_224_1]
      refine (hJ _ _).2 ⟨?_, Frm.no f1 (Frm.dr f2)⟩
      have hz : Bt.cmp lt es[place lt es k].1 k = 0 ↔ es[place lt es k].1 = k := cmp_zero hC.lin
      unfold has
      rw [List.getElem?_eq_getElem hlt']
      simp [hz]
    · unfold has
      rw [List.getElem?_eq_none (by omega)]
  intro w3 junk j hj
  obtain ⟨rfl, f3⟩ := (hJ _ _).1 hj
  have hb3 := f3.get hb fun h => h
  have hg3 := hg.still f3
  have hfl3 := hfl.frame f3 fun h => h
  have n3 := f3.size
  clear hb1 hg1 hfl1 f1 hj hJ J
  have hpl := put_len (lt := lt) (L := es) (k := k) (v := x)
  have hel := ents_len es
  -- the row with a place for the key
  obtain ⟨J, hJ⟩ : ∃ J : World → Prop, ∀ wl, J wl ↔ ∃ g' o' c' xs, CFrm (fun y j => F y j ∨ y = rb) w wl ∧ flag wl rb (r0 || !has lt es k) ∧ wl.heap[b]? = some (.cells #[.slice (some ⟨g', o', none⟩) (Bt.put lt es k x).length c'] 226 (0, 0)) ∧ Sg wl 223 2 g' o' (Bt.put lt es k x).length c' xs ∧
      (g' = g ∧ o' = o ∧ c' = c ∨ w.heap.size ≤ g') ∧ g' ≠ rb ∧ lw xs (place lt es k * 2) (ent (k, x)) = ents (Bt.put lt es k x) ∧ place lt es k < (Bt.put lt es k x).length := ⟨_, fun _ => Iff.rfl⟩
  simp only [Br_true]
  refine Jn.intro J ⟨?_, ?_⟩
  · cases hh : has lt es k with
    | true =>
      have hlt := has_lt hh
      rw [hh] at hpl
      have hpl : (Bt.put lt es k x).length = es.length := by rw [hpl]; rfl
      simp [-getElem?_pos, -Array.getElem?_eq_getElem, -Int.natCast_add, -op_st_4, -op_st_223, -op_st_224, -op_build_223_, -pur_build_223_, -op_lit_224_1]
      refine (hJ _).2 ⟨g, o, c, ents es, CFrm.of f3, by rw [hh]; simpa using hfl3, by rw [hpl]; exact hb3, by rw [hpl]; exact hg3, .inl ⟨rfl, rfl, rfl⟩, fun e => ?_, ?_, by omega⟩
      · obtain ⟨cs, e1, _⟩ := hg3
        exact hfl3.typed e1 (by decide) e
      · unfold Bt.put; rw [hh]; exact (fm_set ent_len hlt).symm
    | false =>
      rw [hh] at hpl
      have hpl : (Bt.put lt es k x).length = es.length + 1 := by rw [hpl]; rfl
      have hpe : ents (Bt.put lt es k x) = (ents es).take (place lt es k * 2) ++ (ent (k, x) ++ (ents es).drop (place lt es k * 2)) := by
        unfold Bt.put; rw [hh]; exact fm_ins ent_len
      have hpm : place lt es k * 2 ≤ es.length * 2 := Nat.mul_le_mul_right _ hp
      obtain ⟨z, hz1, hz2, hz3, hz4⟩ := zero_ent
      simp [-getElem?_pos, -Array.getElem?_eq_getElem, -Int.natCast_add, -op_st_4, -op_st_223, -op_st_224, -op_build_223_, -pur_build_223_, -op_lit_224_1]
      refine raise_ok hfl3 fun w4 k4 z4 fl4 => ?_
      have c4 : CFrm (fun y j => F y j ∨ y = rb) w w4 := CFrm.fst f3 ((hfl3.cfrm k4 fl4).mono fun _ _ h _ => .inr h)
      have hb4 := k4.get hb3 (hfl3.typed hb3 (by decide))
      have hg4 := Sg.past hg3 hfl3 (by decide) k4
      simp [-getElem?_pos, -Array.getElem?_eq_getElem, -Int.natCast_add, -op_st_4, -op_st_223, -op_st_224, -op_build_223_, -pur_build_223_, -op_lit_224_1, ptr, hb4, hz4]
      refine op_lit_ok hz3 fun w5 k5 z5 b5 => ?_
      have hb5 := k5.get hb4 fun h => h
      have hg5 := hg4.still k5
      have fl5 := fl4.frame k5 fun h => h
      have c5 := c4.no k5
      have n5 := c5.size
      have hcg := hg5.le
      refine op_growSg (m := 1) apE hg5 (.inr ⟨_, 0, _, _, _, rfl, b5, fun j v hj => by simpa using hj⟩) (by rw [Nat.one_mul]; exact hz1) (by decide) hz2 ents_one (by omega) fun w6 g' o' c' k6 hg6 hgg n6 => ?_
      have c6 : CFrm (fun y j => F y j ∨ y = rb) w w6 := c5.old k6 fun y j hy => .inl (.inl (by obtain ⟨rfl, h⟩ := hy; exact hFg j h.1 h.2))
      have hnb : b ≠ g := fun e => by
        obtain ⟨cs, e1, _⟩ := hg3
        rw [← e, hb3] at e1; cases e1
      have hnr : rb ≠ g := fun e => by
        obtain ⟨cs, e1, _⟩ := hg3
        exact hfl3.typed e1 (by decide) e.symm
      have hb6 := k6.get hb5 fun j hj => hnb hj.1
      have fl6 : flag w6 rb true := k6.get fl5 fun j hj => hnr hj.1
      have hrb6 := hfl.below
      have hlg : g' ≠ rb := by rcases hgg with h | h; rw [h.1]; exact fun e => hnr e.symm; omega
      have hlb : g' ≠ b := by
        have := lt_of_get hb
        rcases hgg with h | h
        · rw [h.1]; exact fun e => hnb e.symm
        · omega
      have ew1 : IntKind.i64.wrap ((place lt es k : Int) + 1) = ((place lt es k + 1 : Nat) : Int) := by rw [IntKind.wrap_i64]; omega
      try simp [-getElem?_pos, -Array.getElem?_eq_getElem, -Int.natCast_add, -op_st_4, -op_st_223, -op_st_224, -op_build_223_, -pur_build_223_, -op_lit_224_1]
      refine op_store_ok (by kernel_rfl) hb6 (by simp) rfl fun w7 k7 z7 b7 => ?_
      have b7 : w7.heap[b]? = some (.cells #[.slice (some ⟨g', o', none⟩) (es.length + 1) c'] 226 (0, 0)) := by simpa using b7
      have hg7 := hg6.frame k7 hlb
      have c7 : CFrm (fun y j => F y j ∨ y = rb) w w7 := c6.trans (CFrm.one (I := fun _ => True) k7 hb6 b7 rfl (fun j hj => absurd trivial hj) ⟨0, trivial⟩) fun y j hy _ => .inl (by rw [hy.1]; exact hFb j)
      have fl7 : flag w7 rb true := k7.get fl6 fun e => hfl3.typed hb3 (by decide) e.symm
      simp [-getElem?_pos, -Array.getElem?_eq_getElem, -Int.natCast_add, -op_st_4, -op_st_223, -op_st_224, -op_build_223_, -pur_build_223_, -op_lit_224_1, b7, ew1]
      have hc7 := hg7.le
      refine ⟨by omega, by omega, by omega, by omega, ?_⟩
      refine op_copyIn (m := es.length - place lt es k) (x1 := place lt es k + 1) (x2 := place lt es k) (by kernel_rfl) (by decide) (hg7.still (Frm.drew _)) rfl rfl (by omega) (by omega) (by omega) (fun u hu => (List.mem_append.1 hu).elim (ents_one u) (hz2 u)) fun w8 k8 z8 hg8 => ?_
      have c78 : CFrm (fun y j => y = g' ∧ o' ≤ j ∧ j < o' + c' * 2) w7 w8 := CFrm.fst (Frm.drew w7) k8
      have hgF : ∀ y j, (y = g' ∧ o' ≤ j ∧ j < o' + c' * 2) → (F y j ∨ y = rb) ∨ w.heap.size ≤ y := fun y j ⟨e1, e2, e3⟩ => by
        subst e1
        rcases hgg with ⟨rfl, rfl, rfl⟩ | h
        · exact .inl (.inl (hFg j e2 e3))
        · exact .inr (by omega)
      refine (hJ _).2 ⟨g', o', c', lw (ents es ++ z) ((place lt es k + 1) * 2) (((ents es ++ z).drop (place lt es k * 2)).take ((es.length - place lt es k) * 2)), c7.old c78 hgF, by rw [hh, Bool.not_false, Bool.or_true]; exact c78.get fl7 fun j hj => hlg hj.1.symm, ?_, ?_, ?_, hlg, ?_, by omega⟩
      · rw [hpl]; exact c78.get b7 fun j hj => hlb hj.1.symm
      · rw [hpl]; exact hg8
      · rcases hgg with h | h
        · exact .inl h
        · exact .inr (by omega)
      · rw [hpe]
        have e1 : (place lt es k + 1) * 2 = place lt es k * 2 + 2 := by rw [Nat.succ_mul]
        have e2 : (es.length - place lt es k) * 2 = (ents es).length - place lt es k * 2 := by rw [hel, Nat.sub_mul]
        rw [e1, e2]
        exact ins_place (by omega) hz1 (ent_len _)
  intro w9 junk hj
  obtain ⟨g', o', c', xs, c9, fl9, b9, hg9, hgg, hgr, hxs, hpp⟩ := (hJ _).1 hj
  clear hj hJ J hg3 hb3 hfl3 f3
  have h33 : (Bt.put lt es k x).length ≤ 33 := by rw [put_len]; split <;> omega
  have hgb : g' ≠ b := fun e => by
    obtain ⟨cs, e1, _⟩ := hg9
    rw [e, b9] at e1; cases e1
  have hgF : ∀ y j, (y = g' ∧ o' ≤ j ∧ j < o' + c' * 2) → (F y j ∨ y = rb) ∨ w.heap.size ≤ y := fun y j ⟨e1, e2, e3⟩ => by
    subst e1
    rcases hgg with ⟨rfl, rfl, rfl⟩ | h
    · exact .inl (.inl (hFg j e2 e3))
    · exact .inr h
  have hwb := lt_of_get hb
  have hxl := hg9.len
  generalize hpq : place lt es k = p at *
  generalize hfq : (r0 || !has lt es k) = fq at *
  generalize Bt.put lt es k x = es' at *
  have hpm : (p + 1) * 2 ≤ es'.length * 2 := Nat.mul_le_mul_right _ hpp
  rw [Nat.succ_mul] at hpm
  simp [-getElem?_pos, -Array.getElem?_eq_getElem, -Int.natCast_add, -op_st_4, -op_st_223, -op_st_224, -op_build_223_, -pur_build_223_, -op_lit_224_1, ptr, b9]
  refine ⟨by omega, op_storeSg (n := es'.length) (m := 2) (by kernel_rfl) rfl (by decide) hg9 rfl hpm (fun u hu => by simp only [List.mem_toArray, List.mem_cons, List.not_mem_nil, or_false] at hu; rcases hu with rfl | rfl <;> rfl) fun w10 k10 z10 hg10 => ?_⟩
  have b10 := k10.get b9 fun j hj => hgb hj.1.symm
  have fl10 : flag w10 rb fq := k10.get fl9 fun j hj => hgr hj.1.symm
  have c10 := c9.old k10 hgF
  have hg10 : Sg w10 223 2 g' o' es'.length c' (ents es') := by rw [← hxs]; exact hg10
  have hcc := hg10.le
  clear hg9 b9 fl9 k10 c9
  have n10 := c10.size
  have hlg' := hg10.lt
  simp [-getElem?_pos, -Array.getElem?_eq_getElem, -Int.natCast_add, -op_st_4, -op_st_223, -op_st_224, -op_build_223_, -pur_build_223_, -op_lit_224_1, ptr, b10]
  refine ⟨fun hgt => ?_, fun hle => ?_⟩
  · have e33 : es'.length = 33 := by omega
    rw [split_two e33] at hK
    rw [e33] at hg10 b10
    have e16 : IntKind.i64.wrap (((33 : Nat) : Int).tdiv 2) = 16 := by rw [IntKind.wrap_i64]; rfl
    have a1 := Sg.mx (i := 16) hg10 (by omega)
    have a2 := Sg.lo (i := 16) hg10 (by omega)
    have e16' : IntKind.i64.wrap 16 = 16 := by rw [IntKind.wrap_i64]; rfl
    simp [-getElem?_pos, -Array.getElem?_eq_getElem, -Int.natCast_add, -op_st_4, -op_st_223, -op_st_224, -op_build_223_, -pur_build_223_, -op_lit_224_1, ptr, b10, e33, e16, e16']
    refine ⟨by omega, ?_⟩
    refine op_box_ok fun w11 k11 z11 b11 => ?_
    have hb11 := k11.get b10 fun h => h
    simp [-getElem?_pos, -Array.getElem?_eq_getElem, -Int.natCast_add, -op_st_4, -op_st_223, -op_st_224, -op_build_223_, -pur_build_223_, -op_lit_224_1, hb11, e33, e16, e16']
    refine ⟨by omega, ?_⟩
    refine op_box_ok fun w12 k12 z12 b12 => ?_
    try simp [-getElem?_pos, -Array.getElem?_eq_getElem, -Int.natCast_add, -op_st_4, -op_st_223, -op_st_224, -op_build_223_, -pur_build_223_, -op_lit_224_1]
    have c11 := k12.get b11 fun h => h
    have f12 := k11.no k12
    have q1 : Sg w12 223 2 g' o' 16 16 (ents (es'.take 16)) := by rw [ents_take]; exact a1.still f12
    have q2 : Sg w12 223 2 g' (o' + 16 * 2) 17 (c' - 16) (ents (es'.drop 16)) := by rw [ents_drop]; exact a2.still f12
    have n11 := k11.size
    have l1 : (es'.take 16).length = 16 := by rw [List.length_take]; omega
    have l2 : (es'.drop 16).length = 17 := by rw [List.length_drop]; omega
    have hc16 : 16 * 2 + (c' - 16) * 2 = c' * 2 := by rw [← Nat.add_mul]; congr 1; omega
    refine hK w12 [(.leaf (es'.take 16), .iface 220 (ptr w10.heap.size), own1 w10.heap.size g' o' 16 2), (.leaf (es'.drop 16), .iface 220 (ptr w11.heap.size), own1 w11.heap.size g' (o' + 16 * 2) (c' - 16) 2)] (c10.no f12) (fl10.frame f12 fun h => h) ⟨fun p hp => ?_, ?_⟩ rfl fun p hp y j hy => ?_
    · simp only [List.mem_cons, List.not_mem_nil, or_false] at hp
      rcases hp with rfl | rfl
      · exact ⟨_, g', o', 16, rfl, by rw [l1]; simpa [cells_agg, e33] using c11, by rw [l1]; exact q1, rfl⟩
      · exact ⟨_, g', o' + 16 * 2, c' - 16, rfl, by rw [l2]; simpa [cells_agg, e33, show ¬ c' = 16 from by omega] using b12, by rw [l2]; exact q2, rfl⟩
    · simp only [List.pairwise_cons, List.mem_cons, List.not_mem_nil, or_false, forall_eq, false_imp_iff, implies_true, and_true, List.Pairwise.nil]
      rintro y j (rfl | ⟨rfl, h1, h2⟩) (h | ⟨h, h3, h4⟩)
      · omega
      · omega
      · omega
      · omega
    · simp only [List.mem_cons, List.not_mem_nil, or_false] at hp
      have key : (y = g' ∧ o' ≤ j ∧ j < o' + c' * 2) → F y j ∨ w.heap.size ≤ y := fun hy => by
        rcases hgF y j hy with (h | h) | h
        · exact .inl h
        · exact absurd (hy.1.symm.trans h) hgr
        · exact .inr h
      rcases hp with rfl | rfl
      · rcases hy with rfl | ⟨e1, e2, e3⟩
        · exact .inr n10
        · exact key ⟨e1, e2, by omega⟩
      · rcases hy with rfl | ⟨e1, e2, e3⟩
        · exact .inr (by omega)
        · exact key ⟨e1, by omega, by omega⟩
  · rw [split_one (by omega)] at hK
    refine hK w10 [(.leaf es', .iface 220 (ptr b), own1 b g' o' c' 2)] c10 fl10 ⟨fun p hp => ?_, List.pairwise_singleton _ _⟩ rfl fun p hp y j hy => ?_
    · rw [List.mem_singleton.1 hp]
      exact ⟨b, g', o', c', rfl, b10, hg10, rfl⟩
    · rw [List.mem_singleton.1 hp] at hy
      rcases hy with rfl | hy
      · exact .inl (hFb j)
      · rcases hgF y j hy with (h | h) | h
        · exact .inl h
        · exact absurd (hy.1.symm.trans h) hgr
        · exact .inr h
end Go.Proofs.YtodjijfblgnfmaaGreatDoor.I
end
section
namespace Go.Proofs.YtodjijfblgnfmaaGreatDoor.I
open Go.Vc Go.Proofs Go.Proofs.YtodjijfblgnfmaaGreatDoor Go.Vc.Bt
variable {w w' : World} {v : Value} {K : KV} {Kp : KP} {rb : Nat} {b g o c h i : Nat} {F : Foot} {N N2 : List Nd}
theorem mem_put {p : Nd} (hp : p ∈ N.take i ++ N2 ++ N.drop (i + 1)) (hi : i < N.length) : p ∈ N2 ∨ p ∈ N := by
  rcases List.mem_append.1 hp with hp | hp
  · rcases List.mem_append.1 hp with hp | hp
    · exact .inr (List.mem_of_mem_take hp)
    · exact .inl hp
  · exact .inr (List.mem_of_mem_drop hp)
theorem pw_apart (hpw : N.Pairwise fun a b => Disj a.2.2 b.2.2) (hi : i < N.length) : (∀ p ∈ N.take i, Disj p.2.2 N[i].2.2) ∧ (∀ p ∈ N.drop (i + 1), Disj p.2.2 N[i].2.2) ∧ (N.take i ++ N.drop (i + 1)).Pairwise fun a b => Disj a.2.2 b.2.2 := by
  have e : N = N.take i ++ N[i] :: N.drop (i + 1) := by rw [← List.drop_eq_getElem_cons hi, List.take_append_drop]
  rw [e] at hpw
  obtain ⟨h1, h2, h3⟩ := List.pairwise_append.1 hpw
  obtain ⟨h4, h5⟩ := List.pairwise_cons.1 h2
  exact ⟨fun p hp => h3 p hp _ List.mem_cons_self, fun p hp => (h4 p hp).symm, List.pairwise_append.2 ⟨h1, h5, fun a ha b hb => h3 a ha b (List.mem_cons_of_mem _ hb)⟩⟩
theorem own_put (hi : i < N.length) (hO : Own w h N) (h2 : Own w' h N2) (hf : CFrm (fun y j => N[i].2.2 y j ∨ y = rb) w w') (hrb : ∀ p ∈ N, ∀ j, ¬ p.2.2 rb j) (hsub : ∀ q ∈ N2, ∀ y j, q.2.2 y j → N[i].2.2 y j ∨ w.heap.size ≤ y) : Own w' h (N.take i ++ N2 ++ N.drop (i + 1)) := by
  obtain ⟨a1, a2, a3⟩ := pw_apart hO.2 hi
  have hap : ∀ p ∈ N, Disj p.2.2 N[i].2.2 → ∀ q ∈ N2, Disj p.2.2 q.2.2 := fun p hp hd q hq y j hy hz => by
    rcases hsub q hq y j hz with h | h
    · exact hd y j hy h
    · have := (hO.1 p hp).low y j hy; omega
  have hst : ∀ p ∈ N, Disj p.2.2 N[i].2.2 → RepC w' h p.1 p.2.1 p.2.2 := fun p hp hd => (hO.1 p hp).cframe hf fun y j hy hz => by
    rcases hz with h | rfl
    · exact hd y j hy h
    · exact hrb p hp j hy
  refine ⟨fun p hp => ?_, ?_⟩
  · rcases List.mem_append.1 hp with hp | hp
    · rcases List.mem_append.1 hp with hp | hp
      · exact hst p (List.mem_of_mem_take hp) (a1 p hp)
      · exact h2.1 p hp
    · exact hst p (List.mem_of_mem_drop hp) (a2 p hp)
  · obtain ⟨b1, b2, b3⟩ := List.pairwise_append.1 a3
    refine List.pairwise_append.2 ⟨List.pairwise_append.2 ⟨b1, h2.2, fun a ha q hq => hap a (List.mem_of_mem_take ha) (a1 a ha) q hq⟩, b2, fun a ha q hq => ?_⟩
    rcases List.mem_append.1 ha with ha | ha
    · exact b3 a ha q hq
    · exact (hap q (List.mem_of_mem_drop hq) (a2 q hq) a ha).symm
theorem vals_put : vals (N.take i ++ N2 ++ N.drop (i + 1)) = (vals N).take i ++ vals N2 ++ (vals N).drop (i + 1) := by simp [vals, List.map_take, List.map_drop]
theorem vals_len : (vals N).length = N.length := by simp [vals]
theorem zero_el : ∃ z : List Value, z.length = 2 ∧ (∀ u ∈ z, u.oneCell' = true) ∧ sliceLit Tryz.prog 282 1 [(0, .agg z.toArray)] = some (286, z.toArray) ∧ ∀ {w : World} {K : KV} {Kp : KP}, nP.op (.build 286 []) w K Kp = K (.agg z.toArray) w :=
  ⟨[zk, .nilIface], rfl, fun u hu => by simp only [List.mem_cons, List.not_mem_nil, or_false] at hu; rcases hu with rfl | rfl <;> rfl, lit_282_1, op_build_286_⟩
theorem ins_place2 {A z v : List Value} {r q : Nat} (h : r + q ≤ A.length) (hz : z.length = q) (hv : v.length = q) : lw (lw (A ++ z) (r + q) (((A ++ z).drop r).take (A.length - r))) (r + q) v = A.take (r + q) ++ (v ++ A.drop (r + q)) := by
  have e1 : ((A ++ z).drop r).take (A.length - r) = A.drop r := by
    rw [List.drop_append_of_le_length (by omega), List.take_append_of_le_length (by rw [List.length_drop]; exact Nat.le_refl _), List.take_of_length_le (by rw [List.length_drop]; exact Nat.le_refl _)]
  rw [e1]
  have hd : ((A ++ z).drop (r + q + (A.drop r).length)) = [] := List.drop_of_length_le (by rw [List.length_append, List.length_drop]; omega)
  have e2 : lw (A ++ z) (r + q) (A.drop r) = A.take (r + q) ++ A.drop r := by
    unfold lw
    rw [hd, List.append_nil, List.take_append_of_le_length h]
  rw [e2]
  have hl : (A.take (r + q)).length = r + q := by rw [List.length_take]; omega
  have h0 : (A.drop r).drop q = A.drop (r + q) := List.drop_drop
  generalize A.take (r + q) = B at *
  unfold lw
  rw [List.take_append_of_le_length (by omega), List.take_of_length_le (by omega), hv, List.drop_append, List.drop_of_length_le (by omega), List.nil_append, show r + q + q - B.length = q from by omega, h0, List.append_assoc]
theorem Own.one (hr : Own w h N) (hl : N.length = 1) : ∃ s n f, N = [(s, n, f)] ∧ RepC w h s n f := by
  match N, hl with
  | [(s, n, f)], _ => exact ⟨s, n, f, rfl, hr.1 _ (List.mem_singleton.2 rfl)⟩
theorem Own.pair (hr : Own w h N) (hl : N.length = 2) : ∃ s n f s2 n2 f2, N = [(s, n, f), (s2, n2, f2)] ∧ RepC w h s n f ∧ RepC w h s2 n2 f2 := by
  match N, hl with
  | [(s, n, f), (s2, n2, f2)], _ => exact ⟨s, n, f, s2, n2, f2, rfl, hr.1 (s, n, f) (by simp), hr.1 (s2, n2, f2) (by simp)⟩
def MadeM (w0 w : World) (F : Foot) (rb : Nat) (h b : Nat) (new : List Tr) : Prop := ∃ g o c, ∃ N : List Nd, CFrm (fun y j => F y j ∨ y = rb) w0 w ∧ w.heap[b]? = some (.cells #[.slice (some ⟨g, o, none⟩) N.length c] 284 (0, 0)) ∧ N.map (·.1) = new ∧ Sg w 286 2 g o N.length c (els h (vals N)) ∧ Own w h N ∧ (∀ p ∈ N, Disj (own1 b g o c 2) p.2.2) ∧
  (∀ y j, own1 b g o c 2 y j → F y j ∨ w0.heap.size ≤ y) ∧ (∀ p ∈ N, ∀ y j, p.2.2 y j → F y j ∨ w0.heap.size ≤ y) ∧ g ≠ rb ∧ b ≠ g
end Go.Proofs.YtodjijfblgnfmaaGreatDoor.I
end
section
namespace Go.Proofs.YtodjijfblgnfmaaGreatDoor.I
open Go.Vc Go.Proofs Go.Proofs.YtodjijfblgnfmaaGreatDoor Go.Vc.Bt
variable {w w' : World} {v cv : Value} {t : Tr} {K : KV} {Kp : KP} {lt : Ky → Ky → Bool} {k : Ky} {x : Vl} {rb : Nat} {r0 : Bool} {b g o c h i : Nat} {ks : List Tr} {F : Foot} {N N2 : List Nd}
theorem els_oneM (hO : Own w h N) : ∀ u ∈ els h (vals N), u.oneCell' = true := els_one (w := w) fun p hp => by
  obtain ⟨q, hq, rfl⟩ := List.mem_map.1 hp
  exact (hO.1 q hq).rep
theorem brSetM_ok (hC : IsC cv lt) (hr : RepC w (h + 1) (.br ks) v F) (hw : WF (h + 1) (.br ks)) (hs : Sd lt (toL (h + 1) (.br ks))) (hfl : flag w rb r0)
    (ih : ∀ {t : Tr} {v : Value} {F : Foot} {w : World} {K : KV} {Kp : KP}, RepC w h t v F → WF h t → Sd lt (toL h t) → flag w rb r0 →
      (∀ w' N, CFrm (fun y j => F y j ∨ y = rb) w w' → flag w' rb (r0 || !has lt (toL h t) k) → Own w' h N → N.map (·.1) = setT lt h t k x → (∀ p ∈ N, ∀ y j, p.2.2 y j → F y j ∨ w.heap.size ≤ y) → K (two (N.map (·.2.1))) w') →
      nP.call (.inv v "pub-bracken/pub/immutable.set") [ek k, ev x, cv, .bool true, .pointer (some ⟨rb, 0, none⟩)] w K Kp)
    (hK : ∀ w' N, CFrm (fun y j => F y j ∨ y = rb) w w' → flag w' rb (r0 || !has lt (toL (h + 1) (.br ks)) k) → Own w' (h + 1) N → N.map (·.1) = setT lt (h + 1) (.br ks) k x → (∀ p ∈ N, ∀ y j, p.2.2 y j → F y j ∨ w.heap.size ≤ y) → K (two (N.map (·.2.1))) w') :
    nP.call (.inv v "pub-bracken/pub/immutable.set") [ek k, ev x, cv, .bool true, .pointer (some ⟨rb, 0, none⟩)] w K Kp := by
  obtain ⟨h1, h2, h3⟩ : ks ≠ [] ∧ ks.length ≤ 32 ∧ ∀ t ∈ ks, WF h t := id hw
  have hrb := hr.flag hfl
  have hlow := hr.low
  obtain ⟨b, g, o, c, N, rfl, hb, hks, hg, hN, hpw, hdj, hF⟩ := hr
  have hFo : ∀ y j, own1 b g o c 2 y j → F y j := fun y j h => by rw [hF]; exact .inl h
  have hFb : ∀ j, F b j := fun j => hFo b j (.inl rfl)
  have hFg : ∀ j, o ≤ j → j < o + c * 2 → F g j := fun j h h' => hFo g j (.inr ⟨rfl, h, h'⟩)
  have hFN : ∀ p ∈ N, ∀ y j, p.2.2 y j → F y j := fun p hp y j h => by rw [hF]; exact .inr ⟨p, hp, h⟩
  have hl : N.length = ks.length := by rw [hks, List.length_map]
  have hps : ks = (vals N).map (·.1) := by rw [hks]; simp [vals]
  rw [← vals_len] at hb hg
  simp only [inv_279_261]
  refine vc261_calls ?_
  delta vc261
  simp only [call_259]
  refine brIdx_ok hC hw hs hps hb hg fun w1 f1 => ?_
  have hi := kid_lt (lt := lt) (h := h) (k := k) h1
  have hA := kid_ahead hC.lin hw hs k
  have hB := kid_behind hC.lin hw hs k
  have hsp := toL_split (h := h) hi
  rw [setT_succ hi] at hK
  generalize kid lt h ks k = i at *
  have hs2 : Sd lt (toL h ks[i]) := by
    rw [hsp] at hs
    exact (List.pairwise_append.1 (List.pairwise_append.1 hs).2.1).1
  rw [hsp, has_mid hC.lin hA hB] at hK
  have hiN : i < N.length := by omega
  have hip : i < (vals N).length := by rw [vals_len]; exact hiN
  have hb1 := f1.get hb fun h => h
  have hg1 := hg.still f1
  have hfl1 := hfl.frame f1 fun h => h
  obtain ⟨cur, hcur, hk⟩ := elCells hg1
  have hki := (hk i hip).2
  have hvi : (vals N)[i] = (N[i].1, N[i].2.1) := by simp [vals]
  rw [hvi] at hki
  have hpi : N[i].1 = ks[i] := by simp [hks]
  have hmem : N[i] ∈ N := List.getElem_mem hiN
  have hO1 : Own w1 h N := Own.still ⟨hN, hpw⟩ f1
  have hr' := hO1.1 _ hmem
  rw [hpi] at hr'
  obtain ⟨g1, g2, g3, g4⟩ := setT_spec hC.lin h ks[i] k x (h3 _ (List.getElem_mem hi)) hs2
  simp [-getElem?_pos, -Array.getElem?_eq_getElem, -Int.natCast_add, -op_st_286, -op_st_282, -op_build_286_, -pur_build_286_, -op_lit_282_1, ptr, hb1, hcur, hki]
  refine ⟨by rw [vals_len]; exact hiN, ih hr' (h3 _ (List.getElem_mem hi)) hs2 hfl1 fun w2 N2 f2 fl2 hO2 hN2 hsub => ?_⟩
  have n1 := f1.size
  have hO3 := own_put hiN hO1 hO2 f2 (fun p hp j hj => hrb j (hFN p hp _ _ hj)) hsub
  have c2 : CFrm (fun y j => F y j ∨ y = rb) w w2 := CFrm.fst f1 (f2.mono fun y j hy _ => hy.imp (hFN _ hmem y j) id)
  have hnrb : b ≠ rb := hfl.typed hb (by decide)
  have hown2 : ∀ y j, own1 b g o c 2 y j → ¬ (N[i].2.2 y j ∨ y = rb) := fun y j hy hz => by
    rcases hz with hz | rfl
    · exact hdj _ hmem y j hy hz
    · exact hrb j (hFo _ j hy)
  have hb2 := f2.get hb1 fun j => hown2 b j (.inl rfl)
  have hg2 := hg1.cframe f2 fun j h h' => hown2 g j (.inr ⟨rfl, h, h'⟩)
  have hgr : g ≠ rb := fun e => by
    obtain ⟨cs, e1, _⟩ := hg1
    exact hfl1.typed e1 (by decide) e
  have hbg : b ≠ g := fun e => by
    obtain ⟨cs, e1, _⟩ := hg1
    rw [← e, hb1] at e1; cases e1
  have hdj3 : ∀ p ∈ N.take i ++ N2 ++ N.drop (i + 1), ∀ y j, (own1 b g o c 2 y j ∨ y = rb) → ¬ p.2.2 y j := fun p hp y j hy hz => by
    rcases mem_put hp hiN with hp | hp
    · rcases hsub p hp y j hz with h | h
      · rcases hy with hy | rfl
        · exact hdj _ hmem y j hy h
        · exact hrb j (hFN _ hmem _ _ h)
      · rcases hy with hy | rfl
        · have := hlow y j (hFo y j hy); omega
        · have := hfl.below; omega
    · rcases hy with hy | rfl
      · exact hdj p hp y j hy hz
      · exact hrb j (hFN p hp _ _ hz)
  have hft3 : ∀ p ∈ N.take i ++ N2 ++ N.drop (i + 1), ∀ y j, p.2.2 y j → F y j ∨ w.heap.size ≤ y := fun p hp y j hy => by
    rcases mem_put hp hiN with hp | hp
    · exact (hsub p hp y j hy).imp (hFN _ hmem y j) fun h => by omega
    · exact .inl (hFN p hp y j hy)
  have hel := els_len h (vals N)
  have hxN := els_oneM hO1
  have hf2b := hfl.below
  generalize hfq : (r0 || !has lt (toL h ks[i]) k) = fl at *
  generalize hlq : setT lt h ks[i] k x = l at *
  have hl12 : l.length = 1 ∨ l.length = 2 := by have := List.length_pos_iff.2 g4; omega
  have hnl : N2.length = l.length := by rw [← hN2, List.length_map]
  have hks' : (N.take i ++ N2 ++ N.drop (i + 1)).map (·.1) = ks.take i ++ l ++ ks.drop (i + 1) := by rw [hks]; simp [List.map_take, List.map_drop, hN2]
  obtain ⟨J, hJ⟩ : ∃ J : World → Prop, ∀ wl, J wl ↔ MadeM w wl F rb h b (ks.take i ++ l ++ ks.drop (i + 1)) ∧ flag wl rb fl := ⟨_, fun _ => Iff.rfl⟩
  have hgF : ∀ {g' o' c' : Nat}, (g' = g ∧ o' = o ∧ c' = c ∨ w.heap.size ≤ g') → ∀ y j, own1 b g' o' c' 2 y j → F y j ∨ w.heap.size ≤ y := fun {g' o' c'} hgg y j hy => by
    rcases hy with rfl | ⟨rfl, e2, e3⟩
    · exact .inl (hFb j)
    · rcases hgg with ⟨rfl, rfl, rfl⟩ | h
      · exact .inl (hFg j e2 e3)
      · exact .inr h
  rw [vals_len] at hb2 hg2
  obtain ⟨s, un, pn, f, y, htwo, hn, hy⟩ : ∃ s un pn f y, two (N2.map (·.2.1)) = .tuple #[.iface un pn, y] ∧ (s, Value.iface un pn, f) ∈ N2 ∧ (y = .nilIface ∧ N2 = [(s, .iface un pn, f)] ∨ ∃ s2 u2 p2 f2, y = .iface u2 p2 ∧ N2 = [(s, .iface un pn, f), (s2, .iface u2 p2, f2)]) := by
    rcases hl12 with hl1 | hl1
    · obtain ⟨s, n, f, rfl, hn⟩ := hO2.one (by omega)
      obtain ⟨un, pn, rfl⟩ := hn.rep.iface
      exact ⟨s, un, pn, f, _, rfl, by simp, .inl ⟨rfl, rfl⟩⟩
    · obtain ⟨s, n, f, s2, n2, f2, rfl, hn, hn2⟩ := hO2.pair (by omega)
      obtain ⟨un, pn, rfl⟩ := hn.rep.iface
      obtain ⟨u2, p2, rfl⟩ := hn2.rep.iface
      exact ⟨s, un, pn, f, _, rfl, by simp, .inr ⟨s2, u2, p2, f2, rfl, rfl⟩⟩
  have hns : (RepC w2 h s (.iface un pn) f) := hO2.1 _ hn
  have hsl : s ∈ l := by rw [← hN2]; exact List.mem_map.2 ⟨_, hn, rfl⟩
  rw [htwo]
  simp [-getElem?_pos, -Array.getElem?_eq_getElem, -Int.natCast_add, -op_st_286, -op_st_282, -op_build_286_, -pur_build_286_, -op_lit_282_1, hb2]
  refine minKey_ok ((hns.rep).still (Frm.drew _)) (g2 s hsl) fun w3 m k3 hm => ?_
  have k3 := Frm.dr k3
  have hb3 := k3.get hb2 fun h => h
  have hg3 := hg2.still k3
  have fl3 := fl2.frame k3 fun h => h
  simp [-getElem?_pos, -Array.getElem?_eq_getElem, -Int.natCast_add, -op_st_286, -op_st_282, -op_build_286_, -pur_build_286_, -op_lit_282_1, hb3]
  refine ⟨hiN, op_storeSg (n := N.length) (m := 2) (by kernel_rfl) rfl (by decide) hg3 rfl (by omega) (fun u hu => by simp only [List.mem_toArray, List.mem_cons, List.not_mem_nil, or_false] at hu; rcases hu with rfl | rfl <;> rfl) fun w4 k4 z4 hg4 => ?_⟩
  have hb4 := k4.get hb3 fun j h => hbg h.1
  have fl4 : flag w4 rb fl := k4.get fl3 fun j h => hgr h.1.symm
  have c4 : CFrm (fun y j => F y j ∨ y = rb) w w4 := (c2.no k3).trans k4 fun y j hy _ => .inl (by obtain ⟨rfl, h⟩ := hy; exact hFg j h.1 h.2)
  have hO4 : Own w4 h (N.take i ++ N2 ++ N.drop (i + 1)) := (hO3.still k3).cframe k4 fun p hp y j hy hz => hdj3 p hp y j (.inl (.inr hz)) hy
  have hrow : lw (els h (vals N)) (i * 2) [ek m, .iface un pn] = els h ((vals N).set i (s, .iface un pn)) := by rw [← el_of hm]; exact (fm_set (el_len h) hip).symm
  have hg4 : Sg w4 286 2 g o N.length c (els h ((vals N).set i (s, .iface un pn))) := by rw [← hrow]; exact hg4
  have n4 := c4.size
  clear hrow hg3 hb3 fl3 hO3 hg2 hb2 fl2 c2 hO2 hr' hO1 hfl1 hg1 hb1
  refine Jn.intro J ⟨?_, fun wl hj => ?_⟩
  · rcases hy with ⟨rfl, rfl⟩ | ⟨s2, u2, p2, f2', rfl, rfl⟩
    · try simp [-getElem?_pos, -Array.getElem?_eq_getElem, -Int.natCast_add, -op_st_286, -op_st_282, -op_build_286_, -pur_build_286_, -op_lit_282_1]
      have hlen : (N.take i ++ [(s, Value.iface un pn, f)] ++ N.drop (i + 1)).length = N.length := by simp; omega
      refine (hJ _).2 ⟨⟨g, o, c, N.take i ++ [(s, Value.iface un pn, f)] ++ N.drop (i + 1), c4, by rw [hlen]; exact hb4, hks', ?_, hO4, fun p hp y j hy => hdj3 p hp y j (.inl hy), hgF (.inl ⟨rfl, rfl, rfl⟩), hft3, hgr, hbg⟩, fl4⟩
      rw [hlen, vals_put]
      have : (vals N).take i ++ vals [(s, Value.iface un pn, f)] ++ (vals N).drop (i + 1) = (vals N).set i (s, .iface un pn) := by
        rw [List.set_eq_take_append_cons_drop, if_pos hip]; simp [vals]
      rw [this]; exact hg4
    · obtain ⟨z, hz1, hz2, hz3, hz4⟩ := zero_el
      have ew1 : IntKind.i64.wrap ((i : Int) + 1) = ((i + 1 : Nat) : Int) := by rw [IntKind.wrap_i64]; omega
      have hRl : (els h ((vals N).set i (s, Value.iface un pn))).length = N.length * 2 := by rw [els_len, List.length_set, vals_len]
      have hR1 : ∀ u ∈ els h ((vals N).set i (s, Value.iface un pn)), u.oneCell' = true := fun u hu => by
        obtain ⟨p, hp, hu⟩ := List.mem_flatMap.1 hu
        rcases List.mem_or_eq_of_mem_set hp with hp | rfl
        · exact hxN u (List.mem_flatMap.2 ⟨p, hp, hu⟩)
        · rw [el_of hm] at hu
          simp only [List.mem_cons, List.not_mem_nil, or_false] at hu
          rcases hu with rfl | rfl <;> rfl
      generalize hRq : els h ((vals N).set i (s, Value.iface un pn)) = R at *
      simp [-getElem?_pos, -Array.getElem?_eq_getElem, -Int.natCast_add, -op_st_286, -op_st_282, -op_build_286_, -pur_build_286_, -op_lit_282_1, hb4, hz4]
      refine op_lit_ok hz3 fun w5 k5 z5 b5 => ?_
      have hb5 := k5.get hb4 fun h => h
      have hg5 := hg4.still k5
      have fl5 := fl4.frame k5 fun h => h
      refine op_growSg (m := 1) apX hg5 (.inr ⟨_, 0, _, _, _, rfl, b5, fun j v hj => by simpa using hj⟩) (by rw [Nat.one_mul]; exact hz1) (by decide) hz2 hR1 (by omega) fun w6 g' o' c' k6 hg6 hgg n6 => ?_
      have n5 := k5.size
      have hb6 := k6.get hb5 fun j hj => hbg hj.1
      have fl6 : flag w6 rb fl := k6.get fl5 fun j hj => hgr hj.1.symm
      have hlb4 := lt_of_get hb4
      have hlr4 := fl4.below
      have hlg : g' ≠ rb := by rcases hgg with h | h; rw [h.1]; exact hgr; omega
      have hlb : b ≠ g' := by rcases hgg with h | h; rw [h.1]; exact hbg; omega
      try simp [-getElem?_pos, -Array.getElem?_eq_getElem, -Int.natCast_add, -op_st_286, -op_st_282, -op_build_286_, -pur_build_286_, -op_lit_282_1]
      refine op_store_ok (by kernel_rfl) hb6 (by simp) rfl fun w7 k7 z7 b7 => ?_
      have b7 : w7.heap[b]? = some (.cells #[.slice (some ⟨g', o', none⟩) (N.length + 1) c'] 284 (0, 0)) := by simpa using b7
      have hg7 := hg6.frame k7 fun e => hlb e.symm
      have fl7 : flag w7 rb fl := k7.get fl6 fun e => hnrb e.symm
      have hcc7 := hg7.le
      simp [-getElem?_pos, -Array.getElem?_eq_getElem, -Int.natCast_add, -op_st_286, -op_st_282, -op_build_286_, -pur_build_286_, -op_lit_282_1, b7, ew1]
      refine ⟨by omega, by omega, by omega, by omega, ?_⟩
      refine op_copyIn (m := N.length - i) (x1 := i + 1) (x2 := i) (by kernel_rfl) (by decide) (hg7.still (Frm.drew _)) rfl rfl (by omega) (by omega) (by omega) (fun u hu => (List.mem_append.1 hu).elim (hR1 u) (hz2 u)) fun w8 k8 z8 hg8 => ?_
      have k8 := CFrm.fst (Frm.drew w7) k8
      have b8 := k8.get b7 fun j hj => hlb hj.1
      have fl8 : flag w8 rb fl := k8.get fl7 fun j hj => hlg hj.1.symm
      have hreg : ∀ y j, (y = g' ∧ o' ≤ j ∧ j < o' + c' * 2) → own1 b g o c 2 y j ∨ w4.heap.size ≤ y := fun y j ⟨e1, e2, e3⟩ => by
        subst e1
        rcases hgg with ⟨rfl, rfl, rfl⟩ | h
        · exact .inl (.inr ⟨rfl, e2, e3⟩)
        · exact .inr (by omega)
      have c48 : CFrm (own1 b g o c 2) w4 w8 := (((CFrm.of (M := own1 b g o c 2) k5).old k6 fun y j hy => .inl (.inr hy)).trans (CFrm.one (I := fun _ => True) k7 hb6 b7 rfl (fun j hj => absurd trivial hj) ⟨0, trivial⟩) fun y j hy _ => .inl hy.1).old k8 hreg
      have hO8 := hO4.cframe c48 fun p hp y j hy hz => hdj3 p hp y j (.inl hz) hy
      have hn2 := hO8.1 (s2, .iface u2 p2, f2') (by simp)
      simp [-getElem?_pos, -Array.getElem?_eq_getElem, -Int.natCast_add, -op_st_286, -op_st_282, -op_build_286_, -pur_build_286_, -op_lit_282_1, b8, ew1]
      refine minKey_ok (hn2.rep.still (Frm.drew _)) (g2 s2 (by rw [← hN2]; simp)) fun w9 m2 k9 hm2 => ?_
      have k9 := Frm.dr k9
      have b9 := k9.get b8 fun h => h
      have fl9 := fl8.frame k9 fun h => h
      simp [-getElem?_pos, -Array.getElem?_eq_getElem, -Int.natCast_add, -op_st_286, -op_st_282, -op_build_286_, -pur_build_286_, -op_lit_282_1, b9, ew1]
      refine ⟨by omega, op_storeSg (n := N.length + 1) (m := 2) (by kernel_rfl) rfl (by decide) (hg8.still k9) rfl (by omega) (fun u hu => by simp only [List.mem_toArray, List.mem_cons, List.not_mem_nil, or_false] at hu; rcases hu with rfl | rfl <;> rfl) fun w10 k10 z10 hg10 => ?_⟩
      have n8 := c48.size
      have c410 : CFrm (own1 b g o c 2) w4 w10 := (c48.no k9).old k10 hreg
      have hlen : (N.take i ++ [(s, Value.iface un pn, f), (s2, Value.iface u2 p2, f2')] ++ N.drop (i + 1)).length = N.length + 1 := by simp; omega
      refine (hJ _).2 ⟨⟨g', o', c', N.take i ++ [(s, Value.iface un pn, f), (s2, Value.iface u2 p2, f2')] ++ N.drop (i + 1), c4.old c410 fun y j hy => .inl (.inl (hFo y j hy)), by rw [hlen]; exact k10.get b9 fun j hj => hlb hj.1, hks', ?_, hO4.cframe c410 fun p hp y j hy hz => hdj3 p hp y j (.inl hz) hy, fun p hp y j hy hz => ?_, hgF (hgg.imp id fun h => by omega), hft3, hlg, hlb⟩, k10.get fl9 fun j hj => hlg hj.1.symm⟩
      · rw [hlen, vals_put]
        have hA : lw (lw (R ++ z) ((i + 1) * 2) (((R ++ z).drop (i * 2)).take ((N.length - i) * 2))) ((i + 1) * 2) [ek m2, .iface u2 p2] = R.take ((i + 1) * 2) ++ ([ek m2, .iface u2 p2] ++ R.drop ((i + 1) * 2)) := by
          have e1 : (i + 1) * 2 = i * 2 + 2 := by omega
          have e2 : (N.length - i) * 2 = R.length - i * 2 := by omega
          rw [e1, e2]
          exact ins_place2 (by omega) hz1 rfl
        have hB : els h ((vals N).take i ++ vals [(s, Value.iface un pn, f), (s2, Value.iface u2 p2, f2')] ++ (vals N).drop (i + 1)) = R.take ((i + 1) * 2) ++ ([ek m2, .iface u2 p2] ++ R.drop ((i + 1) * 2)) := by
          rw [← hRq, ← els_take, ← els_drop, ← el_of hm2]
          have e1 : ((vals N).set i (s, Value.iface un pn)).take (i + 1) = (vals N).take i ++ [(s, .iface un pn)] := by
            rw [List.take_set, List.take_succ_eq_append_getElem hip, List.set_append_right _ _ (by rw [List.length_take]; omega)]
            rw [show i - ((vals N).take i).length = 0 from by rw [List.length_take]; omega]; rfl
          have e2 : ((vals N).set i (s, Value.iface un pn)).drop (i + 1) = (vals N).drop (i + 1) := by rw [List.drop_set_of_lt (by omega)]
          rw [e1, e2]
          simp [els, vals]
        rw [hB, ← hA]; exact hg10
      · rcases hy with rfl | hy
        · exact hdj3 p hp _ j (.inl (.inl rfl)) hz
        · rcases hreg y j hy with h | h
          · exact hdj3 p hp y j (.inl h) hz
          · have := (hO4.1 p hp).low y j hz; omega
  · obtain ⟨⟨g', o', c', N', c9, b9, hks9, hg9, hO9, hd9, hf9, hft9, hgr9, hbg9⟩, fl9⟩ := (hJ _).1 hj
    rw [← hks9] at hK
    have h33 : N'.length ≤ 33 := by
      have := congrArg List.length hks9
      simp only [List.length_map, List.length_append, List.length_take, List.length_drop] at this
      omega
    have hlg' := hg9.lt
    have hcc := hg9.le
    have n9 := c9.size
    clear hj hJ
    simp [-getElem?_pos, -Array.getElem?_eq_getElem, -Int.natCast_add, -op_st_286, -op_st_282, -op_build_286_, -pur_build_286_, -op_lit_282_1, ptr, b9]
    refine ⟨fun hgt => ?_, fun hle => ?_⟩
    · have e33 : N'.length = 33 := by omega
      rw [split_two (by rw [List.length_map]; exact e33)] at hK
      rw [e33] at hg9 b9
      have e16 : IntKind.i64.wrap (((33 : Nat) : Int).tdiv 2) = 16 := by rw [IntKind.wrap_i64]; rfl
      have e16' : IntKind.i64.wrap 16 = 16 := by rw [IntKind.wrap_i64]; rfl
      have a1 := Sg.mx (i := 16) hg9 (by omega)
      have a2 := Sg.lo (i := 16) hg9 (by omega)
      have hc16' : ¬ c' = 16 := by omega
      simp [-getElem?_pos, -Array.getElem?_eq_getElem, -Int.natCast_add, -op_st_286, -op_st_282, -op_build_286_, -pur_build_286_, -op_lit_282_1, b9, e33, e16, e16']
      refine ⟨by omega, ?_⟩
      refine op_box_ok fun w11 k11 z11 b11 => ?_
      have hb11 := k11.get b9 fun h => h
      simp [-getElem?_pos, -Array.getElem?_eq_getElem, -Int.natCast_add, -op_st_286, -op_st_282, -op_build_286_, -pur_build_286_, -op_lit_282_1, hb11, e33, e16, e16']
      refine ⟨by omega, ?_⟩
      refine op_box_ok fun w12 k12 z12 b12 => ?_
      try simp [-getElem?_pos, -Array.getElem?_eq_getElem, -Int.natCast_add, -op_st_286, -op_st_282, -op_build_286_, -pur_build_286_, -op_lit_282_1]
      have c11 := k12.get b11 fun h => h
      have f12 := k11.no k12
      have n11 := k11.size
      have hO12 := hO9.still f12
      have q1 : Sg w12 286 2 g' o' 16 16 (els h (vals (N'.take 16))) := by
        have := a1.still f12
        rw [← els_take] at this
        rw [show vals (N'.take 16) = (vals N').take 16 from by simp [vals, List.map_take]]; exact this
      have q2 : Sg w12 286 2 g' (o' + 16 * 2) 17 (c' - 16) (els h (vals (N'.drop 16))) := by
        have := a2.still f12
        rw [← els_drop] at this
        rw [show vals (N'.drop 16) = (vals N').drop 16 from by simp [vals, List.map_drop]]; exact this
      have l1 : (N'.take 16).length = 16 := by rw [List.length_take]; omega
      have l2 : (N'.drop 16).length = 17 := by rw [List.length_drop]; omega
      have hpw := List.pairwise_append.1 (show (N'.take 16 ++ N'.drop 16).Pairwise _ by rw [List.take_append_drop]; exact hO12.2)
      have hlow9 : ∀ p ∈ N', ∀ y j, p.2.2 y j → y < wl.heap.size := fun p hp => (hO9.1 p hp).low
      have hreg : ∀ y j, (y = g' ∧ o' ≤ j ∧ j < o' + c' * 2) → own1 b g' o' c' 2 y j := fun y j h => .inr h
      have hc16 : 16 * 2 + (c' - 16) * 2 = c' * 2 := by omega
      have ap : ∀ {nb o2 c2 : Nat}, wl.heap.size ≤ nb → o' ≤ o2 → o2 + c2 * 2 ≤ o' + c' * 2 → ∀ p ∈ N', Disj (own1 nb g' o2 c2 2) p.2.2 := fun {nb o2 c2} h1 h2 h3 p hp y j hy hz => by
        rcases hy with rfl | ⟨e1, e2, e3⟩
        · have := hlow9 p hp _ j hz; omega
        · exact hd9 p hp y j (hreg y j ⟨e1, by omega, by omega⟩) hz
      have ft : ∀ {nb o2 c2 : Nat}, wl.heap.size ≤ nb → o' ≤ o2 → o2 + c2 * 2 ≤ o' + c' * 2 → ∀ y j, own1 nb g' o2 c2 2 y j → F y j ∨ w.heap.size ≤ y := fun {nb o2 c2} h1 h2 h3 y j hy => by
        rcases hy with rfl | ⟨e1, e2, e3⟩
        · exact .inr (by omega)
        · exact hf9 y j (hreg y j ⟨e1, by omega, by omega⟩)
      refine hK w12 [(.br ((N'.take 16).map (·.1)), .iface 279 (ptr wl.heap.size), fun y j => own1 wl.heap.size g' o' 16 2 y j ∨ ∃ p ∈ N'.take 16, p.2.2 y j), (.br ((N'.drop 16).map (·.1)), .iface 279 (ptr w11.heap.size), fun y j => own1 w11.heap.size g' (o' + 16 * 2) (c' - 16) 2 y j ∨ ∃ p ∈ N'.drop 16, p.2.2 y j)] (c9.no f12) (fl9.frame f12 fun h => h) ⟨fun p hp => ?_, ?_⟩ (by simp [List.map_take, List.map_drop]) fun p hp y j hy => ?_
      · simp only [List.mem_cons, List.not_mem_nil, or_false] at hp
        rcases hp with rfl | rfl
        · exact ⟨_, g', o', 16, N'.take 16, rfl, by rw [l1]; simpa [cells_agg, e33] using c11, rfl, by rw [l1]; exact q1, fun p hp => hO12.1 p (List.mem_of_mem_take hp), hpw.1, fun p hp => ap (Nat.le_refl _) (Nat.le_refl _) (by omega) p (List.mem_of_mem_take hp), rfl⟩
        · exact ⟨_, g', o' + 16 * 2, c' - 16, N'.drop 16, rfl, by rw [l2]; simpa [cells_agg, e33, hc16'] using b12, rfl, by rw [l2]; exact q2, fun p hp => hO12.1 p (List.mem_of_mem_drop hp), hpw.2.1, fun p hp => ap n11 (by omega) (by omega) p (List.mem_of_mem_drop hp), rfl⟩
      · simp only [List.pairwise_cons, List.mem_cons, List.not_mem_nil, or_false, forall_eq, false_imp_iff, implies_true, and_true, List.Pairwise.nil]
        rintro y j (h1 | ⟨p, hp, h1⟩) (h2 | ⟨q, hq, h2⟩)
        · rcases h1 with rfl | ⟨rfl, h3, h4⟩
          · rcases h2 with h | ⟨h, _⟩ <;> omega
          · rcases h2 with h | ⟨_, h5, h6⟩ <;> omega
        · exact ap (Nat.le_refl _) (Nat.le_refl _) (by omega) q (List.mem_of_mem_drop hq) y j h1 h2
        · exact ap n11 (by omega) (by omega) p (List.mem_of_mem_take hp) y j h2 h1
        · exact hpw.2.2 p hp q hq y j h1 h2
      · simp only [List.mem_cons, List.not_mem_nil, or_false] at hp
        rcases hp with rfl | rfl
        · rcases hy with hy | ⟨q, hq, hy⟩
          · exact ft (Nat.le_refl _) (Nat.le_refl _) (by omega) y j hy
          · exact hft9 q (List.mem_of_mem_take hq) y j hy
        · rcases hy with hy | ⟨q, hq, hy⟩
          · exact ft n11 (by omega) (by omega) y j hy
          · exact hft9 q (List.mem_of_mem_drop hq) y j hy
    · rw [split_one (by rw [List.length_map]; omega)] at hK
      refine hK wl [(.br (N'.map (·.1)), .iface 279 (ptr b), fun y j => own1 b g' o' c' 2 y j ∨ ∃ p ∈ N', p.2.2 y j)] c9 fl9 ⟨fun p hp => ?_, List.pairwise_singleton _ _⟩ rfl fun p hp y j hy => ?_
      · rw [List.mem_singleton.1 hp]
        exact ⟨b, g', o', c', N', rfl, b9, rfl, hg9, hO9.1, hO9.2, hd9, rfl⟩
      · rw [List.mem_singleton.1 hp] at hy
        rcases hy with hy | ⟨q, hq, hy⟩
        · exact hf9 y j hy
        · exact hft9 q hq y j hy
theorem setM_ok (hC : IsC cv lt) : ∀ {h : Nat} {t : Tr} {v : Value} {F : Foot} {w : World} {K : KV} {Kp : KP}, RepC w h t v F → WF h t → Sd lt (toL h t) → flag w rb r0 →
      (∀ w' N, CFrm (fun y j => F y j ∨ y = rb) w w' → flag w' rb (r0 || !has lt (toL h t) k) → Own w' h N → N.map (·.1) = setT lt h t k x → (∀ p ∈ N, ∀ y j, p.2.2 y j → F y j ∨ w.heap.size ≤ y) → K (two (N.map (·.2.1))) w') →
      nP.call (.inv v "pub-bracken/pub/immutable.set") [ek k, ev x, cv, .bool true, .pointer (some ⟨rb, 0, none⟩)] w K Kp
  | 0, t, v, F, w, K, Kp, hr, hw, hs, hfl, hK => by
    obtain ⟨es, rfl, h1, h2⟩ := wf_zero.1 hw
    exact leafSetM_ok hC hr hw hs hfl hK
  | h + 1, t, v, F, w, K, Kp, hr, hw, hs, hfl, hK => by
    obtain ⟨ks, rfl, h1, h2, h3⟩ := wf_succ.1 hw
    exact brSetM_ok hC hr hw hs hfl (fun hr' hw' hs' hfl' hK' => setM_ok hC hr' hw' hs' hfl' hK') hK
end Go.Proofs.YtodjijfblgnfmaaGreatDoor.I
end
section
namespace Go.Proofs.YtodjijfblgnfmaaGreatDoor.I
open Go.Vc Go.Proofs Go.Proofs.YtodjijfblgnfmaaGreatDoor Go.Vc.Bt
variable {w w' : World} {v cv : Value} {t : Tr} {K : KV} {Kp : KP} {lt : Ky → Ky → Bool} {k : Ky} {x : Vl} {rb n : Nat} {r0 : Bool} {b c h : Nat} {r : Root Ky Vl} {F : Foot}
def RepRC (w : World) : Root Ky Vl → Value → Foot → Prop
  | none, v, F => v = .nilIface ∧ F = fun _ _ => False
  | some (h, t), v, F => RepC w h t v F
theorem RepRC.cframe {M : Foot} (h : RepRC w r v F) (hf : CFrm M w w') (hM : Disj F M) : RepRC w' r v F := by
  match r, h with
  | none, h => exact h
  | some (h, t), hr => exact RepC.cframe hr hf hM
theorem RepRC.rep (h : RepRC w r v F) : RepR w r v := by
  match r, h with
  | none, h => exact h.1
  | some (h, t), hr => exact RepC.rep hr
theorem RepRC.ty (h : RepRC w r v F) : ∀ y j, F y j → ∃ cs e, w.heap[y]? = some (.cells cs e (0, 0)) ∧ (e = 226 ∨ e = 223 ∨ e = 284 ∨ e = 286) := by
  match r, h with
  | none, h => intro y j hy; rw [h.2] at hy; exact hy.elim
  | some (h, t), hr => exact RepC.ty hr
theorem RepRC.low (h : RepRC w r v F) : ∀ y j, F y j → y < w.heap.size := fun y j hy => by obtain ⟨cs, e, h1, _⟩ := h.ty y j hy; exact lt_of_get h1
theorem RepRC.not {c : Nat} {cs : Array Value} {e : TypeId} {fz : Nat × Nat} (h : RepRC w r v F) (hc : w.heap[c]? = some (.cells cs e fz)) (he : e ≠ 226 ∧ e ≠ 223 ∧ e ≠ 284 ∧ e ≠ 286) : ∀ j, ¬ F c j := fun j hj => by
  obtain ⟨cs', e', h1, h2⟩ := h.ty c j hj
  rw [hc] at h1
  cases h1
  rcases h2 with rfl | rfl | rfl | rfl
  · exact he.1 rfl
  · exact he.2.1 rfl
  · exact he.2.2.1 rfl
  · exact he.2.2.2 rfl
def RepMC (w : World) (b : Nat) (lt : Ky → Ky → Bool) (r : Root Ky Vl) (F : Foot) : Prop := ∃ rv cv, w.heap[b]? = some (.cells #[.int .i64 (rL r).length, rv, cv] 210 (0, 0)) ∧ RepRC w r rv F ∧ CmpOk cv lt r
theorem RepMC.rep (h : RepMC w b lt r F) : RepM w b lt r := by
  obtain ⟨rv, cv, h1, h2, h3⟩ := h
  exact ⟨rv, cv, h1, h2.rep, h3⟩
theorem RepMC.cframe {M : Foot} (h : RepMC w b lt r F) (hf : CFrm M w w') (hM : Disj F M) (hb : ∀ j, ¬ M b j) : RepMC w' b lt r F := by
  obtain ⟨rv, cv, h1, h2, h3⟩ := h
  exact ⟨rv, cv, hf.get h1 hb, h2.cframe hf hM, h3⟩
theorem cell_frm {cs cs' : Array Value} {e : TypeId} (hf : Frm (· = c) w w') (h1 : w.heap[c]? = some (.cells cs e (0, 0))) (h2 : w'.heap[c]? = some (.cells cs' e (0, 0))) (hs : cs'.size = cs.size) : CFrm (fun y _ => y = c) w w' :=
  (CFrm.one (I := fun _ => True) hf h1 h2 hs (fun j hj => absurd trivial hj) ⟨0, trivial⟩).mono fun b j h _ => h.1
theorem mapSetM_ok (hl : Lin lt) (hm : RepMC w b lt r F) (hok : Ok lt n r) (hn : (rL r).length < 2 ^ 60)
    (hK : ∀ w' F', CFrm (fun y j => F y j ∨ y = b) w w' → RepMC w' b lt (some (setR lt r k x)) F' → (∀ y j, F' y j → F y j ∨ w.heap.size ≤ y) → K (ptr b) w') : Calls Tryz.prog 146 #[ptr b, ek k, ev x, .bool true] w (ret K Kp) := by
  refine vc146_calls ?_
  delta vc146
  obtain ⟨rv, cv, h1, h2, h3⟩ := hm
  have hsz := put_len (lt := lt) (L := rL r) (k := k) (v := x)
  have hspec := setR_spec hl hok k x
  have hbF := h2.not h1 (by decide)
  have hlb := lt_of_get h1
  simp [-getElem?_pos, -Array.getElem?_eq_getElem, -Int.natCast_add, -op_st_208, -op_st_3, -op_st_101, -op_alloc_4, -op_lit_224_1, -op_lit_353_2, ptr, h1]
  obtain ⟨J, hJ⟩ : ∃ J : KV, ∀ e wl, J e wl ↔ IsC e lt ∧ Frm (fun _ => False) w wl := ⟨_, fun _ _ => Iff.rfl⟩
  refine Jn.intro J ⟨?_, ?_⟩
  · rcases h3 with h3 | ⟨rfl, hd, _⟩
    · obtain ⟨u, p, rfl⟩ := h3.iface
      simp [-getElem?_pos, -Array.getElem?_eq_getElem, -Int.natCast_add, -op_st_208, -op_st_3, -op_st_101, -op_alloc_4, -op_lit_224_1, -op_lit_353_2]
      exact (hJ _ _).2 ⟨h3, Frm.refl⟩
    · simp [-getElem?_pos, -Array.getElem?_eq_getElem, -Int.natCast_add, -op_st_208, -op_st_3, -op_st_101, -op_alloc_4, -op_lit_224_1, -op_lit_353_2]
      exact hd fun w' cv hf hc => (hJ _ _).2 ⟨hc, hf⟩
  intro w1 cv1 hj
  obtain ⟨hC, f1⟩ := (hJ _ _).1 hj
  clear hJ hj J
  have a1 := f1.get h1 fun h => h
  have c1 := CmpOk.one (lt := lt) (r := none) (.inl hC)
  have s1 := f1.size
  obtain ⟨J, hJ⟩ : ∃ J : KV, ∀ e wl, J e wl ↔ e = ptr b ∧ wl = w1 := ⟨_, fun _ _ => Iff.rfl⟩
  refine Jn.intro J ⟨(hJ _ _).2 ⟨rfl, rfl⟩, ?_⟩
  intro w2 o2 hj
  obtain ⟨rfl, rfl⟩ := (hJ _ _).1 hj
  clear hJ hj J
  simp [-getElem?_pos, -Array.getElem?_eq_getElem, -Int.natCast_add, -op_st_208, -op_st_3, -op_st_101, -op_alloc_4, -op_lit_224_1, -op_lit_353_2, ptr]
  refine op_store_ok (by kernel_rfl) a1 (by simp) c1 fun w3 k3 z3 b3 => ?_
  have b3 : w3.heap[b]? = some (.cells #[.int .i64 (rL r).length, rv, cv1] 210 (0, 0)) := by simpa using b3
  have g3 : CFrm (fun y _ => y = b) w w3 := CFrm.fst f1 (cell_frm k3 a1 b3 rfl)
  have r3 := h2.cframe g3 fun y j hy e => hbF j (by rw [← e]; exact hy)
  match r, h2, hok, r3 with
  | none, h2, _, r3 =>
    obtain ⟨rfl, hF⟩ : rv = .nilIface ∧ F = fun _ _ => False := h2
    simp [-getElem?_pos, -Array.getElem?_eq_getElem, -Int.natCast_add, -op_st_208, -op_st_3, -op_st_101, -op_alloc_4, -op_lit_224_1, -op_lit_353_2, b3]
    refine op_store_ok (by kernel_rfl) b3 (by simp) rfl fun w4 k4 z4 b4 => ?_
    refine op_lit_ok lit_224_1 fun w5 k5 z5 b5 => ?_
    simp [-getElem?_pos, -Array.getElem?_eq_getElem, -Int.natCast_add, -op_st_208, -op_st_3, -op_st_101, -op_alloc_4, -op_lit_224_1, -op_lit_353_2]
    refine op_box_ok fun w6 k6 z6 b6 => ?_
    simp only [cells_agg] at b6
    have g4 : CFrm (fun y _ => y = b) w w4 := g3.trans (cell_frm k4 b3 b4 (by simp)) fun _ _ h _ => h
    have g56 := k5.no k6
    have b4' := g56.get b4 fun h => h
    have hl4 := lt_of_get b4
    refine op_store_ok (by kernel_rfl) b4' (by simp) rfl fun w7 k7 z7 b7 => ?_
    have n4 := g4.size
    refine hK w7 (own1 w5.heap.size w4.heap.size 0 1 2) (((g4.no g56).trans (cell_frm k7 b4' b7 (by simp)) fun _ _ h _ => h).mono fun _ _ h _ => .inr h) ⟨.iface 220 (ptr w5.heap.size), cv1, by simpa [rL, setR, toL, ptr] using b7, ?_, .inl hC⟩ fun y j hy => ?_
    · refine ⟨_, w4.heap.size, 0, 1, rfl, k7.get b6 (by omega), ?_, rfl⟩
      exact ⟨_, (k6.get b5 fun h => h) |> fun q => k7.get q (by omega), rfl, Nat.le_refl _, by simp, rfl, by decide⟩
    · rcases hy with rfl | ⟨rfl, _⟩
      · exact .inr (by omega)
      · exact .inr n4
  | some (h, t), h2, hok, r3 =>
    obtain ⟨o1, o2, o3, o4⟩ := hok
    have hr : RepC w3 h t rv F := r3
    obtain ⟨u, p, rfl⟩ := hr.rep.iface
    simp [-getElem?_pos, -Array.getElem?_eq_getElem, -Int.natCast_add, -op_st_208, -op_st_3, -op_st_101, -op_alloc_4, -op_lit_224_1, -op_lit_353_2, b3]
    refine op_alloc_ok (z := .bool false) (by kernel_rfl) fun w4 k4 z4 fl4 => ?_
    have hl3 := lt_of_get b3
    have b4 := k4.get b3 fun h => h
    simp [-getElem?_pos, -Array.getElem?_eq_getElem, -Int.natCast_add, -op_st_208, -op_st_3, -op_st_101, -op_alloc_4, -op_lit_224_1, -op_lit_353_2, b4]
    obtain ⟨g1, g2, g3', g4⟩ := setT_spec hl h t k x o1 o2
    have hl12 : (setT lt h t k x).length = 1 ∨ (setT lt h t k x).length = 2 := by have := List.length_pos_iff.2 g4; omega
    have n3 := g3.size
    refine setM_ok (rb := w3.heap.size) (r0 := false) hC (hr.still k4) o1 o2 fl4 fun w5 N k5 fl5 hO hN hsub => ?_
    have hb3r : b ≠ w3.heap.size := by omega
    have b5 := k5.get b4 fun j hj => hj.elim (hbF j) fun e => hb3r e
    have g5 : CFrm (fun y j => F y j ∨ y = b) w w5 := ((g3.no k4).mono fun _ _ h _ => .inr h).old k5 fun y j hy => hy.elim (fun h => .inl (.inl h)) fun e => .inr (by omega)
    rw [Bool.false_or] at fl5
    have hft : ∀ q ∈ N, ∀ y j, q.2.2 y j → F y j ∨ w.heap.size ≤ y := fun q hq y j hy => (hsub q hq y j hy).imp id fun h => by omega
    have n5 := g5.size
    obtain ⟨J, hJ⟩ : ∃ J : KV, ∀ e wl, J e wl ↔ Frm (fun _ => False) w5 wl ∧ ∃ F', RepRC wl (some (setR lt (some (h, t)) k x)) e F' ∧ ∀ y j, F' y j → F y j ∨ w.heap.size ≤ y := ⟨_, fun _ _ => Iff.rfl⟩
    obtain ⟨e1, e2, he, hcase⟩ : ∃ e1 e2, two (N.map (·.2.1)) = .tuple #[e1, e2] ∧ ((∃ s f, N = [(s, e1, f)] ∧ e2 = .nilIface) ∨ ∃ s f s2 f2, N = [(s, e1, f), (s2, e2, f2)]) := by
      rcases hl12 with h' | h'
      · obtain ⟨s, n, f, rfl, _⟩ := hO.one (by rw [← hN, List.length_map] at h'; exact h'); exact ⟨_, _, rfl, .inl ⟨s, f, rfl, rfl⟩⟩
      · obtain ⟨s, n, f, s2, n2, f2, rfl, _⟩ := hO.pair (by rw [← hN, List.length_map] at h'; exact h'); exact ⟨_, _, rfl, .inr ⟨s, f, s2, f2, rfl⟩⟩
    rw [he]
    simp [-getElem?_pos, -Array.getElem?_eq_getElem, -Int.natCast_add, -op_st_208, -op_st_3, -op_st_101, -op_alloc_4, -op_lit_224_1, -op_lit_353_2]
    refine Jn.intro J ⟨?_, ?_⟩
    · rcases hcase with ⟨s, f, rfl, rfl⟩ | ⟨s, f, s2, f2, rfl⟩
      · simp [-getElem?_pos, -Array.getElem?_eq_getElem, -Int.natCast_add, -op_st_208, -op_st_3, -op_st_101, -op_alloc_4, -op_lit_224_1, -op_lit_353_2]
        refine (hJ _ _).2 ⟨Frm.refl, f, ?_, hft (s, e1, f) (by simp)⟩
        rw [setR, ← hN]; exact hO.1 _ (List.mem_singleton.2 rfl)
      · have hn1 := hO.1 (s, e1, f) (by simp)
        have hn2 := hO.1 (s2, e2, f2) (by simp)
        obtain ⟨u1, p1, rfl⟩ := hn1.rep.iface
        obtain ⟨u2, p2, rfl⟩ := hn2.rep.iface
        simp [-getElem?_pos, -Array.getElem?_eq_getElem, -Int.natCast_add, -op_st_208, -op_st_3, -op_st_101, -op_alloc_4, -op_lit_224_1, -op_lit_353_2]
        refine op_lit_ok (lit_353_2 rfl rfl) fun w6 k6 z6 b6 => ?_
        refine newBr0_ok b6 (hn1.still k6).rep (hn2.still k6).rep (g2 s (by rw [← hN]; simp)) (g2 s2 (by rw [← hN]; simp)) fun w7 b' k7 hb' hb7 hg7 => ?_
        have hO7 := (hO.still k6).still k7
        have n6 := k6.size
        have hdj : ∀ q ∈ [(s, Value.iface u1 p1, f), (s2, Value.iface u2 p2, f2)], Disj (own1 b' w6.heap.size 0 2 2) q.2.2 := fun q hq y j hy hz => by
          have h1 := (hO.1 q hq).low y j hz
          rcases hy with rfl | ⟨rfl, _⟩ <;> omega
        refine (hJ _ _).2 ⟨k6.no k7, fun y j => own1 b' w6.heap.size 0 2 2 y j ∨ ∃ q ∈ [(s, Value.iface u1 p1, f), (s2, Value.iface u2 p2, f2)], q.2.2 y j, ?_, fun y j hy => ?_⟩
        · rw [setR, ← hN]
          exact ⟨b', w6.heap.size, 0, 2, [(s, Value.iface u1 p1, f), (s2, Value.iface u2 p2, f2)], rfl, hb7, rfl, hg7, hO7.1, hO7.2, hdj, rfl⟩
        · rcases hy with (rfl | ⟨rfl, _⟩) | ⟨q, hq, hy⟩
          · exact .inr (by omega)
          · exact .inr (by omega)
          · exact hft q hq y j hy
    · intro w6 rt hj
      obtain ⟨f6, F', hr6, hF'⟩ := (hJ _ _).1 hj
      have one6 := hr6.rep.one
      have g6 := g5.no f6
      have b6 := f6.get b5 fun h => h
      have fl6 := f6.get (show w5.heap[w3.heap.size]? = _ from fl5) fun h => h
      have hbF' := hr6.not b6 (by decide)
      simp [-getElem?_pos, -Array.getElem?_eq_getElem, -Int.natCast_add, -op_st_208, -op_st_3, -op_st_101, -op_alloc_4, -op_lit_224_1, -op_lit_353_2, b6]
      refine op_store_ok (by kernel_rfl) b6 (by simp) rfl fun w7 k7 z7 b7 => ?_
      have b7 : w7.heap[b]? = some (.cells #[.int .i64 (rL (some (h, t))).length, .iface u p, cv1] 210 (0, 0)) := by simpa using b7
      refine op_store_ok (by kernel_rfl) b7 (by simp) one6 fun w8 k8 z8 b8 => ?_
      have b8 : w8.heap[b]? = some (.cells #[.int .i64 (rL (some (h, t))).length, rt, cv1] 210 (0, 0)) := by simpa using b8
      have c68 : CFrm (fun y _ => y = b) w6 w8 := (cell_frm k7 b6 b7 rfl).trans (cell_frm k8 b7 b8 rfl) fun _ _ h _ => h
      have g8 : CFrm (fun y j => F y j ∨ y = b) w w8 := g6.trans c68 fun _ _ h _ => .inr h
      have fl8 := k8.get (k7.get fl6 (by omega)) (by omega)
      have hr8 := hr6.cframe c68 fun y j hy e => hbF' j (by rw [← e]; exact hy)
      have hlen : (rL (some (setR lt (some (h, t)) k x))).length = (rL (some (h, t))).length + if has lt (toL h t) k then 0 else 1 := by rw [hspec.1, hsz]; rfl
      simp [-getElem?_pos, -Array.getElem?_eq_getElem, -Int.natCast_add, -op_st_208, -op_st_3, -op_st_101, -op_alloc_4, -op_lit_224_1, -op_lit_353_2, fl8]
      cases hh : has lt (toL h t) k with
      | true =>
        simp [-getElem?_pos, -Array.getElem?_eq_getElem, -Int.natCast_add, -op_st_208, -op_st_3, -op_st_101, -op_alloc_4, -op_lit_224_1, -op_lit_353_2]
        rw [hh] at hlen
        refine hK w8 F' g8 ⟨rt, cv1, ?_, hr8, .inl hC⟩ hF'
        rw [hlen]; simpa using b8
      | false =>
        rw [hh] at hlen
        simp [-getElem?_pos, -Array.getElem?_eq_getElem, -Int.natCast_add, -op_st_208, -op_st_3, -op_st_101, -op_alloc_4, -op_lit_224_1, -op_lit_353_2, b8]
        refine op_store_ok (by kernel_rfl) b8 (by simp) rfl fun w9 k9 z9 b9 => ?_
        have hr9 := hr8.cframe (cell_frm k9 b8 b9 (by simp)) fun y j hy e => hbF' j (by rw [← e]; exact hy)
        refine hK w9 F' (g8.trans (cell_frm k9 b8 b9 (by simp)) fun _ _ h _ => .inr h) ⟨rt, cv1, ?_, hr9, .inl hC⟩ hF'
        rw [hlen]
        rw [show IntKind.i64.wrap (((rL (some (h, t))).length : Int) + 1) = (((rL (some (h, t))).length + 1 : Nat) : Int) from by rw [IntKind.wrap_i64]; omega] at b9
        simpa using b9
end Go.Proofs.YtodjijfblgnfmaaGreatDoor.I
end
section
namespace Go.Proofs.YtodjijfblgnfmaaGreatDoor
open Go.Vc Go.Proofs
variable {w : World} {K : KV} {Kp : KP} {K1 : Value → Prop}
theorem build_45_1_2 {x1 : Value} {x2 : Value} (h1 : x1.oneCell' = true) (h2 : x2.oneCell' = true) : buildV Tryz.prog 45 [(1, x1), (2, x2)] = some (.agg (#[Value.int IntKind.i64 0, x1, x2])) := by
  have e : buildV Tryz.prog 45 [(1, x1), (2, x2)] = (Instr.fill ((#[(0, 1), (1, 1), (2, 1)] : Array (Nat × Nat))[·]?) (#[Value.int IntKind.i64 0, Value.string ByteArray.empty, Value.int IntKind.i64 0]) [(1, x1), (2, x2)]).map .agg := by kernel_rfl
  rw [e]; simp [Instr.fill, cells_of_one h1, cells_of_one h2]
@[simp] theorem op_build_45_1_2 {x1 : Value} {x2 : Value} (h1 : x1.oneCell' = true) (h2 : x2.oneCell' = true) : nP.op (.build 45 [(1, x1), (2, x2)]) w K Kp = K (.agg (#[Value.int IntKind.i64 0, x1, x2])) w := op_build (build_45_1_2 h1 h2)
@[simp] theorem pur_build_45_1_2 {x1 : Value} {x2 : Value} (h1 : x1.oneCell' = true) (h2 : x2.oneCell' = true) : nP.pur (.build 45 [(1, x1), (2, x2)]) K1 = K1 (.agg (#[Value.int IntKind.i64 0, x1, x2])) := pur_build (build_45_1_2 h1 h2)
@[simp] theorem op_len_24 {a : Option Addr} {n c ty : Nat} : nP.op (.blt .len [24] ty [.slice a n c]) w K Kp = K (.int .i64 n) w := op_len_slice (by kernel_rfl)
@[simp] theorem pur_len_24 {a : Option Addr} {n c ty : Nat} : nP.pur (.blt .len [24] ty [.slice a n c]) K1 = K1 (.int .i64 n) := pur_len_slice (by kernel_rfl)
@[simp] theorem ld_len_24 {a : Option Addr} {n c ty : Nat} : nP.ld (.blt .len [24] ty [.slice a n c]) w K1 = K1 (.int .i64 n) := ld_len_slice (by kernel_rfl)
@[simp] theorem same_len_24 {a : Option Addr} {n c ty : Nat} {u : Value} : nP.same (.blt .len [24] ty [.slice a n c]) u w = (.int .i64 n = u) := same_len_slice (by kernel_rfl)
@[simp] theorem op_len_65 {a : Option Addr} {n c ty : Nat} : nP.op (.blt .len [65] ty [.slice a n c]) w K Kp = K (.int .i64 n) w := op_len_slice (by kernel_rfl)
@[simp] theorem pur_len_65 {a : Option Addr} {n c ty : Nat} : nP.pur (.blt .len [65] ty [.slice a n c]) K1 = K1 (.int .i64 n) := pur_len_slice (by kernel_rfl)
@[simp] theorem ld_len_65 {a : Option Addr} {n c ty : Nat} : nP.ld (.blt .len [65] ty [.slice a n c]) w K1 = K1 (.int .i64 n) := ld_len_slice (by kernel_rfl)
@[simp] theorem same_len_65 {a : Option Addr} {n c ty : Nat} {u : Value} : nP.same (.blt .len [65] ty [.slice a n c]) u w = (.int .i64 n = u) := same_len_slice (by kernel_rfl)
@[simp] theorem op_len_35 {a : Option Addr} {n c ty : Nat} : nP.op (.blt .len [35] ty [.slice a n c]) w K Kp = K (.int .i64 n) w := op_len_slice (by kernel_rfl)
@[simp] theorem pur_len_35 {a : Option Addr} {n c ty : Nat} : nP.pur (.blt .len [35] ty [.slice a n c]) K1 = K1 (.int .i64 n) := pur_len_slice (by kernel_rfl)
@[simp] theorem ld_len_35 {a : Option Addr} {n c ty : Nat} : nP.ld (.blt .len [35] ty [.slice a n c]) w K1 = K1 (.int .i64 n) := ld_len_slice (by kernel_rfl)
@[simp] theorem same_len_35 {a : Option Addr} {n c ty : Nat} {u : Value} : nP.same (.blt .len [35] ty [.slice a n c]) u w = (.int .i64 n = u) := same_len_slice (by kernel_rfl)
@[simp] theorem op_neq_4 {xc yc x y : Bool} : nP.op (.bin BinOp.neq 4 xc yc (.bool x) (.bool y)) w K Kp = K (.bool (!(x == y))) w := op_eq_bool (by kernel_rfl) rfl
@[simp] theorem pur_neq_4 {xc yc x y : Bool} : nP.pur (.bin BinOp.neq 4 xc yc (.bool x) (.bool y)) K1 = K1 (.bool (!(x == y))) := pur_eq_bool (by kernel_rfl) rfl
end Go.Proofs.YtodjijfblgnfmaaGreatDoor
end
section
namespace Go.Proofs.YtodjijfblgnfmaaGreatDoor
open Go.Vc Go.Proofs
variable {w : World} {K : KV} {Kp : KP} {K1 : Value → Prop}
end Go.Proofs.YtodjijfblgnfmaaGreatDoor
end
section
namespace Go.Proofs.YtodjijfblgnfmaaGreatDoor
open Go.Vc Go.Proofs
variable {w : World} {K : KV} {Kp : KP} {K1 : Value → Prop}
@[simp] theorem call_28 {args : List Value} : nP.call (.fn 28) args w K Kp = Calls Tryz.prog 28 args.toArray w (ret K Kp) := call_fn (by kernel_rfl)
@[simp] theorem op_len_76 {a : Option Addr} {n c ty : Nat} : nP.op (.blt .len [76] ty [.slice a n c]) w K Kp = K (.int .i64 n) w := op_len_slice (by kernel_rfl)
@[simp] theorem pur_len_76 {a : Option Addr} {n c ty : Nat} : nP.pur (.blt .len [76] ty [.slice a n c]) K1 = K1 (.int .i64 n) := pur_len_slice (by kernel_rfl)
@[simp] theorem ld_len_76 {a : Option Addr} {n c ty : Nat} : nP.ld (.blt .len [76] ty [.slice a n c]) w K1 = K1 (.int .i64 n) := ld_len_slice (by kernel_rfl)
@[simp] theorem same_len_76 {a : Option Addr} {n c ty : Nat} {u : Value} : nP.same (.blt .len [76] ty [.slice a n c]) u w = (.int .i64 n = u) := same_len_slice (by kernel_rfl)
@[simp] theorem op_len_74 {a : Option Addr} {n c ty : Nat} : nP.op (.blt .len [74] ty [.slice a n c]) w K Kp = K (.int .i64 n) w := op_len_slice (by kernel_rfl)
@[simp] theorem pur_len_74 {a : Option Addr} {n c ty : Nat} : nP.pur (.blt .len [74] ty [.slice a n c]) K1 = K1 (.int .i64 n) := pur_len_slice (by kernel_rfl)
@[simp] theorem ld_len_74 {a : Option Addr} {n c ty : Nat} : nP.ld (.blt .len [74] ty [.slice a n c]) w K1 = K1 (.int .i64 n) := ld_len_slice (by kernel_rfl)
@[simp] theorem same_len_74 {a : Option Addr} {n c ty : Nat} {u : Value} : nP.same (.blt .len [74] ty [.slice a n c]) u w = (.int .i64 n = u) := same_len_slice (by kernel_rfl)
@[simp] theorem op_fa_49_0 {p : Addr} : nP.op (.fieldAddr 49 (.pointer (some p)) 0) w K Kp = K (.pointer (some (p.add 0))) w := op_fa (k := .one) (by kernel_rfl)
@[simp] theorem pur_fa_49_0 {p : Addr} : nP.pur (.fieldAddr 49 (.pointer (some p)) 0) K1 = K1 (.pointer (some (p.add 0))) := pur_fa (k := .one) (by kernel_rfl)
@[simp] theorem op_fa_49_1 {p : Addr} : nP.op (.fieldAddr 49 (.pointer (some p)) 1) w K Kp = K (.pointer (some (p.add 1))) w := op_fa (k := .one) (by kernel_rfl)
@[simp] theorem pur_fa_49_1 {p : Addr} : nP.pur (.fieldAddr 49 (.pointer (some p)) 1) K1 = K1 (.pointer (some (p.add 1))) := pur_fa (k := .one) (by kernel_rfl)
@[simp] theorem op_fa_49_2 {p : Addr} : nP.op (.fieldAddr 49 (.pointer (some p)) 2) w K Kp = K (.pointer (some (p.add 2))) w := op_fa (k := .one) (by kernel_rfl)
@[simp] theorem pur_fa_49_2 {p : Addr} : nP.pur (.fieldAddr 49 (.pointer (some p)) 2) K1 = K1 (.pointer (some (p.add 2))) := pur_fa (k := .one) (by kernel_rfl)
@[simp] theorem op_len_182 {a : Option Addr} {n c ty : Nat} : nP.op (.blt .len [182] ty [.slice a n c]) w K Kp = K (.int .i64 n) w := op_len_slice (by kernel_rfl)
@[simp] theorem pur_len_182 {a : Option Addr} {n c ty : Nat} : nP.pur (.blt .len [182] ty [.slice a n c]) K1 = K1 (.int .i64 n) := pur_len_slice (by kernel_rfl)
@[simp] theorem ld_len_182 {a : Option Addr} {n c ty : Nat} : nP.ld (.blt .len [182] ty [.slice a n c]) w K1 = K1 (.int .i64 n) := ld_len_slice (by kernel_rfl)
@[simp] theorem same_len_182 {a : Option Addr} {n c ty : Nat} {u : Value} : nP.same (.blt .len [182] ty [.slice a n c]) u w = (.int .i64 n = u) := same_len_slice (by kernel_rfl)
@[simp] theorem op_eql_312_y {xc yc : Bool} {u : TypeId} {v : Value} : nP.op (.bin BinOp.eql 312 xc yc (.iface u v) .nilIface) w K Kp = K (.bool false) w := op_eq_iface (by kernel_rfl) rfl
@[simp] theorem op_eql_312_n {xc : Bool} : nP.op (.bin BinOp.eql 312 xc true .nilIface .nilIface) w K Kp = K (.bool true) w := op_eq_niface (by kernel_rfl) rfl
@[simp] theorem pur_eql_312_y {xc yc : Bool} {u : TypeId} {v : Value} : nP.pur (.bin BinOp.eql 312 xc yc (.iface u v) .nilIface) K1 = K1 (.bool false) := pur_eq_iface (by kernel_rfl) rfl
@[simp] theorem pur_eql_312_n {xc : Bool} : nP.pur (.bin BinOp.eql 312 xc true .nilIface .nilIface) K1 = K1 (.bool true) := pur_eq_niface (by kernel_rfl) rfl
@[simp] theorem op_len_169 {a : Option Addr} {n c ty : Nat} : nP.op (.blt .len [169] ty [.slice a n c]) w K Kp = K (.int .i64 n) w := op_len_slice (by kernel_rfl)
@[simp] theorem pur_len_169 {a : Option Addr} {n c ty : Nat} : nP.pur (.blt .len [169] ty [.slice a n c]) K1 = K1 (.int .i64 n) := pur_len_slice (by kernel_rfl)
@[simp] theorem ld_len_169 {a : Option Addr} {n c ty : Nat} : nP.ld (.blt .len [169] ty [.slice a n c]) w K1 = K1 (.int .i64 n) := ld_len_slice (by kernel_rfl)
@[simp] theorem same_len_169 {a : Option Addr} {n c ty : Nat} {u : Value} : nP.same (.blt .len [169] ty [.slice a n c]) u w = (.int .i64 n = u) := same_len_slice (by kernel_rfl)
@[simp] theorem op_eql_288_y {xc yc : Bool} {u : TypeId} {v : Value} : nP.op (.bin BinOp.eql 288 xc yc (.iface u v) .nilIface) w K Kp = K (.bool false) w := op_eq_iface (by kernel_rfl) rfl
@[simp] theorem op_eql_288_n {xc : Bool} : nP.op (.bin BinOp.eql 288 xc true .nilIface .nilIface) w K Kp = K (.bool true) w := op_eq_niface (by kernel_rfl) rfl
@[simp] theorem pur_eql_288_y {xc yc : Bool} {u : TypeId} {v : Value} : nP.pur (.bin BinOp.eql 288 xc yc (.iface u v) .nilIface) K1 = K1 (.bool false) := pur_eq_iface (by kernel_rfl) rfl
@[simp] theorem pur_eql_288_n {xc : Bool} : nP.pur (.bin BinOp.eql 288 xc true .nilIface .nilIface) K1 = K1 (.bool true) := pur_eq_niface (by kernel_rfl) rfl
end Go.Proofs.YtodjijfblgnfmaaGreatDoor
end
section
namespace Go.Proofs.YtodjijfblgnfmaaGreatDoor
open Go.Vc Go.Proofs
variable {w : World} {K : KV} {Kp : KP} {K1 : Value → Prop}
@[simp] theorem op_alloc_46 : nP.op (.alloc 46) w K Kp = K (.pointer (some ⟨w.heap.size, 0, none⟩)) (w.alloc (.cells #[Value.slice none 0 0] 46)) := op_alloc (z := (Value.slice none 0 0)) (by kernel_rfl)
@[simp] theorem call_51 {args : List Value} : nP.call (.fn 51) args w K Kp = Calls Tryz.prog 51 args.toArray w (ret K Kp) := call_fn (by kernel_rfl)
@[simp] theorem call_52 {args : List Value} : nP.call (.fn 52) args w K Kp = Calls Tryz.prog 52 args.toArray w (ret K Kp) := call_fn (by kernel_rfl)
@[simp] theorem call_27 {args : List Value} : nP.call (.fn 27) args w K Kp = Calls Tryz.prog 27 args.toArray w (ret K Kp) := call_fn (by kernel_rfl)
@[simp] theorem call_94 {args : List Value} : nP.call (.fn 94) args w K Kp = Calls Tryz.prog 94 args.toArray w (ret K Kp) := call_fn (by kernel_rfl)
@[simp] theorem call_93 {args : List Value} : nP.call (.fn 93) args w K Kp = Calls Tryz.prog 93 args.toArray w (ret K Kp) := call_fn (by kernel_rfl)
end Go.Proofs.YtodjijfblgnfmaaGreatDoor
end
section
namespace Go.Proofs.YtodjijfblgnfmaaGreatDoor
open Go.Vc Go.Proofs
variable {S : Sig} {a0 a1 a2 a3 a4 a5 a6 a7 a8 a9 : Value} {w : World} {K : KV} {Kp : KP}
private theorem follows_BVcOI : Tryz.prog.follows .mixedOrders = true := by kernel_rfl
def vc52 (S : Sig) (a0 a1 a2 : Value) (w : World) (K : KV) (Kp : KP) : Prop :=
 S.op (.box 98 a0) w (fun v3 w =>
 S.op (.mkMap 150 none) w (fun v10 w =>
 S.op (.blt .len [46] 3 [a2]) w (fun v12 w =>
 Lp fun (I3 : KV) (μ3 : Value → World → Nat) => I3 (.int .i64 0) w ∧
 ∀ (wl3 : World) (_ : Nat → Value) (s13 : Value), I3 s13 wl3 →
 S.op (.bin .lss 3 false false s13 v12) wl3 (fun v14 w =>
 Br v14 (
 S.op (.indexAddr 46 a2 s13) w (fun v15 w =>
 S.op (.load 49 v15) w (fun v16 w =>
 S.op (.alloc 49) w (fun v9 w =>
 S.op (.store 49 v9 v16) w (fun _ w =>
 S.pur (.fieldAddr 98 v3 0) (fun v18 =>
 S.ld (.load 94 v18) w.drew (fun v19 =>
 S.pur (.fieldAddr 49 v9 0) (fun v20 =>
 S.ld (.load 2 v20) w.drew (fun v21 =>
 S.pur (.fieldAddr 49 v9 1) (fun v22 =>
 S.ld (.load 9 v22) w.drew (fun v23 =>
 S.pur (.fieldAddr 49 v9 2) (fun v25 =>
 S.ld (.load 2 v25) w.drew (fun v26 =>
 S.call (.val v19) [v21, v23] w.drew (fun v24 w =>
 S.same (.load 2 v25) v26 w ∧
 S.op (.mapUpdate 150 v10 v24 v26) w (fun _ w =>
 S.op (.bin .add 3 false true s13 (.int .i64 1)) w (fun v27 w =>
 I3 v27 w ∧ μ3 v27 w < μ3 s13 wl3) Kp) Kp) Kp))))))))) Kp) Kp) Kp) Kp) (
 S.ld (.load 98 v3) w.drew (fun v28 =>
 S.call (.fn 94) [a1, v10] w.drew (fun v31 w =>
 S.same (.load 98 v3) v28 w ∧
 S.call (.fn 84) [v31] w (fun v32 w =>
 S.same (.load 98 v3) v28 w ∧
 S.call (.fn 83) [v28, v32] w (fun v33 w =>
 K v33 w) Kp) Kp) Kp))) Kp) Kp) Kp) Kp
theorem vc52_eq : vc52 S a0 a1 a2 w K Kp = fVC S [(3, [13])] [] Tryz.f52 [a0, a1, a2] w K Kp := by kernel_rfl
theorem vc52_calls (h : vc52 nP a0 a1 a2 w K Kp) : Calls Tryz.prog 52 #[a0, a1, a2] w (ret K Kp) :=
 fVC_sound (args := [a0, a1, a2]) nice_le follows_BVcOI Tryz.func52 (by kernel_rfl) (Eq.mp vc52_eq h)
def vc94 (S : Sig) (a0 a1 : Value) (w : World) (K : KV) (Kp : KP) : Prop :=
 S.op (.build 210 [(2, a0)]) w (fun v9 w =>
 S.op (.box 210 v9) w (fun v10 w =>
 S.op (.range 150 a1) w (fun v12 w =>
 Lp fun (I3 : World → Prop) (μ3 : World → Nat) => I3 w ∧
 ∀ (wl3 : World) (_ : Nat → Value), I3 wl3 →
 S.op (.next v12 false 0) wl3 (fun v13 w =>
 S.op (.extract v13 0) w (fun v14 w =>
 Br v14 (
 S.op (.entry v12) w (fun v15 w =>
 S.op (.extract v15 0) w (fun v16 w =>
 S.op (.extract v15 1) w (fun v17 w =>
 S.call (.fn 146) [v10, v16, v17, (.bool true)] w (fun v21 w =>
 I3 w ∧ μ3 w < μ3 wl3) Kp) Kp) Kp) Kp) (
 K v10 w)) Kp) Kp) Kp) Kp) Kp
theorem vc94_eq : vc94 S a0 a1 w K Kp = fVC S [(3, [])] [] Tryz.f94 [a0, a1] w K Kp := by kernel_rfl
theorem vc94_calls (h : vc94 nP a0 a1 w K Kp) : Calls Tryz.prog 94 #[a0, a1] w (ret K Kp) :=
 fVC_sound (args := [a0, a1]) nice_le follows_BVcOI Tryz.func94 (by kernel_rfl) (Eq.mp vc94_eq h)
end Go.Proofs.YtodjijfblgnfmaaGreatDoor
end
section
namespace Go.Vc.Nd
variable {κ ν : Type} [DecidableEq κ] {f : Nat → Nd κ ν} {i : Nat} {t : Nd κ ν}
/-! ### the row of the children -/

end Go.Vc.Nd
end
section
namespace Go.Vc.Nd
variable {κ ν : Type} [DecidableEq κ] {f : Nat → Nd κ ν} {i j : Nat} {t u : Nd κ ν} {α : Type} {vs : Nat → α} {v z : α}
end Go.Vc.Nd
end
section
namespace Go.Vc.Nd
variable {κ ν : Type} [DecidableEq κ] {f : Nat → Nd κ ν} {i j : Nat} {t : Nd κ ν} {hs : Bool}
def rest : Nd κ ν → Nat → List (κ × ν)
  | br _ f, i => (List.range' (i + 1) (31 - i)).flatMap fun j => toL (f j)
  | t, i => (toL t).drop (i + 1)
end Go.Vc.Nd
end
section
namespace Go.Vc
open Nd
section
variable {α β σ : Type}
variable {fro : σ → Nat}
end
structure MStep where
  kind : Nat
  fro : Int
  key : Int
  value : Int
  count : Int
def MStep.cells (s : MStep) : List Value := [.int .u8 s.kind, .int .i64 s.fro, .int .i64 s.key, .int .i64 s.value, .int .i64 s.count]
def MStep.cost (s : MStep) : Nat := 1 + s.count.toNat
section trees
variable {κ ν : Type} [DecidableEq κ]
def Tells (D : List (κ × ν)) (m : κ → Option ν) : Prop := ∀ k v, (k, v) ∈ D ↔ m k = some v
def Is (hash : κ → Nat) (t : Nd κ ν) (m : κ → Option ν) : Prop := WFr hash t ∧ Tells (toL t) m
variable {hash : κ → Nat} {t : Nd κ ν} {m : κ → Option ν} {k : κ} {v : ν} {D : List (κ × ν)}
theorem Is.nodup (h : Is hash t m) : ((toL t).map (·.1)).Nodup := h.1.nodup
theorem Is.get (h : Is hash t m) : getIn (hash k) k t 0 = m k := by
  cases hx : m k with
  | some x => exact (get_spec h.1).2 ((h.2 k x).2 hx)
  | none =>
    cases hy : getIn (hash k) k t 0 with
    | none => rfl
    | some y => have := (h.2 k y).1 ((get_spec h.1).1 hy); rw [hx] at this; cases this
end trees
end Go.Vc
namespace Go.Vc
open Nd
section
variable {κ ν : Type} [DecidableEq κ] {m : κ → Option ν} {k : κ} {v : ν}
theorem nodup_cons {D : List (κ × ν)} (h : Tells D m) (hn : (D.map (·.1)).Nodup) (hk : m k = none) : (((k, v) :: D).map (·.1)).Nodup := by
  rw [List.map_cons, List.nodup_cons]
  refine ⟨fun hm => ?_, hn⟩
  obtain ⟨e, he, hk'⟩ := List.mem_map.1 hm
  have := (h e.1 e.2).1 he
  rw [show e.1 = k from hk', hk] at this; cases this
end
end Go.Vc
end
section
namespace Go.Vc
variable {P : Program}
def keyInt {t : TypeId} {k : IntKind} (h : P.underlying t = some (.int k)) : KeyEnc P t Int where
  enc := .int k
  desc := .int k
  und := h
  same a b := by
    simp only [Instr.sameNow, if_true]
    by_cases e : a = b <;> simp [e]
  bits a := by simp [Instr.sameBits]
  chk w e a := by rw [Instr.checkKey]; simp [run_und h]
theorem beq_bytes (a b : ByteArray) : (a == b) = decide (a = b) := by
  rw [beq_toListBytes]
  by_cases e : a = b
  · subst e; simp
  · rw [decide_eq_false e]
    exact beq_eq_false_iff_ne.2 fun h => e (toList_inj.1 h)
def keyStr {t : TypeId} (h : P.underlying t = some .string) : KeyEnc P t ByteArray where
  enc := .string
  desc := .string
  und := h
  same a b := by simp only [Instr.sameNow, beq_bytes]
  bits a := by simp [Instr.sameBits, beq_bytes]
  chk w e a := by rw [Instr.checkKey]; simp [run_und h]
section
variable {κ ν : Type} [DecidableEq κ]
theorem mem_erase_nd {L : List (κ × ν)} (hn : (L.map (·.1)).Nodup) {i : Nat} (hi : i < L.length) {e : κ × ν} : e ∈ L.eraseIdx i ↔ e ∈ L ∧ e.1 ≠ L[i].1 := by
  rw [List.mem_eraseIdx_iff_getElem]
  constructor
  · rintro ⟨j, hj, hne, rfl⟩
    refine ⟨List.getElem_mem hj, fun hk => hne ?_⟩
    have := List.pairwise_iff_getElem.1 hn
    rcases Nat.lt_trichotomy i j with h | h | h
    · exact (this i j (by simpa using hi) (by simpa using hj) h (by simp [hk])).elim
    · exact h.symm
    · exact (this j i (by simpa using hj) (by simpa using hi) h (by simp [hk])).elim
  · rintro ⟨h, h3⟩
    obtain ⟨j, hj, hje⟩ := List.mem_iff_getElem.1 h
    exact ⟨j, hj, fun e => h3 (by subst e; rw [← hje]), hje⟩
theorem one_of_key {D : List (κ × ν)} (hn : (D.map (·.1)).Nodup) {e e' : κ × ν} (h : e ∈ D) (h' : e' ∈ D) (hk : e.1 = e'.1) : e = e' := by
  obtain ⟨i, hi, rfl⟩ := List.mem_iff_getElem.1 h
  obtain ⟨j, hj, rfl⟩ := List.mem_iff_getElem.1 h'
  have := List.pairwise_iff_getElem.1 hn
  rcases Nat.lt_trichotomy i j with h | h | h
  · exact (this i j (by simpa using hi) (by simpa using hj) h (by simp [hk])).elim
  · subst h; rfl
  · exact (this j i (by simpa using hj) (by simpa using hi) h (by simp [hk])).elim
theorem HasMap.nodup {w : World} {ek : κ → Value} {ev : ν → Value} {b : Nat} {D : List (κ × ν)} (h : HasMap w ek ev b D) : (D.map (·.1)).Nodup := by
  obtain ⟨es, c, h⟩ := h; exact h.nodup
structure Copied (D L D2 : List (κ × ν)) : Prop where
  nd : (L.map (·.1)).Nodup
  sub : ∀ e ∈ L, e ∈ D
  done : ∀ e, e ∈ D2 ↔ e ∈ D ∧ e ∉ L
theorem Copied.next {D L D2 : List (κ × ν)} (hn : (D.map (·.1)).Nodup) (hn2 : (D2.map (·.1)).Nodup) (h : Copied D L D2) {i : Nat} (hi : i < L.length) : Copied D (L.eraseIdx i) (Nd.upd D2 L[i].1 L[i].2) := by
  refine ⟨h.nd.sublist ((List.eraseIdx_sublist L i).map _), fun e he => h.sub e ((mem_erase_nd h.nd hi).1 he).1, fun e => ?_⟩
  rw [Nd.mem_upd hn2, mem_erase_nd h.nd hi, h.done e]
  have hmem := h.sub _ (List.getElem_mem hi)
  constructor
  · rintro (rfl | ⟨h1, h2, h3⟩)
    · exact ⟨hmem, fun h => h.2 rfl⟩
    · exact ⟨h2, fun h => h3 h.1⟩
  · rintro ⟨h1, h2⟩
    by_cases hk : e.1 = L[i].1
    · exact .inl (one_of_key hn h1 hmem hk)
    · exact .inr ⟨hk, h1, fun hL => h2 ⟨hL, hk⟩⟩
end
end Go.Vc
end
section
namespace Go.Proofs.YtodjijfblgnfmaaGreatDoor.I
open Go.Vc Go.Proofs Go.Proofs.YtodjijfblgnfmaaGreatDoor Go.Vc.Bt
variable {w w' : World} {cv : Value} {K : KV} {Kp : KP} {lt : Ky → Ky → Bool} {k : Ky} {b : Nat} {D : List (Ky × Vl)}
def kE : KeyEnc Tryz.prog 2 Ky := keyInt Tryz.underlying2
theorem cframe_iter {r : Nat} {p : Option Nat} {s c0 : Nat} {sn : Array Nat} (h : Frm (· = r) w w') (hr : w.heap[r]? = some (.mapIter p s sn c0)) : CFrm (fun y _ => y = r) w w' :=
  ⟨h.to fun b hb => ⟨0, hb⟩, fun b cs e hb => ⟨cs, h.get hb (fun he => by rw [he, hr] at hb; cases hb), rfl, fun _ _ => rfl⟩⟩
theorem perm_step {D P L : List (Ky × Vl)} {i : Nat} (h : D.Perm (P ++ L)) (hi : i < L.length) : D.Perm ((P ++ [L[i]]) ++ L.eraseIdx i) := by
  refine h.trans ?_
  rw [List.append_assoc]
  refine List.Perm.append_left P ?_
  have e : L = L.take i ++ L[i] :: L.drop (i + 1) := by rw [← List.drop_eq_getElem_cons hi, List.take_append_drop]
  rw [List.eraseIdx_eq_take_drop_succ]
  conv => lhs; rw [e]
  exact List.perm_middle
theorem newMapOf_ok (hl : Lin lt) (hc : CmpOk cv lt none) (hm : HasMap w kE.enc ev b D) (hn : D.length ≤ 2000)
    (hK : ∀ b' w', Frm (fun _ => False) w w' → Ver w' b' lt D.length (putAll lt [] D) → K (ptr b') w') : Calls Tryz.prog 94 #[cv, .map (some b)] w (ret K Kp) := by
  refine vc94_calls ?_
  delta vc94
  rw [op_build_210_2 hc.one]
  refine op_box_ok fun w1 k1 z1 b1 => ?_
  simp only [cells_agg] at b1
  have hm1 := hm.frame k1 fun h => h
  have hnd := hm.nodup
  have hblt := hm.lt
  have n1 := k1.size
  refine op_range Tryz.underlying150 hm1 fun w2 k2 z2 hr2 => ?_
  have k2 := k2 (M := fun _ => False)
  have n2 := k2.size
  have h0 : RepMC w2 w.heap.size lt none (fun _ _ => False) := ⟨.nilIface, cv, k2.get b1 fun h => h, ⟨rfl, rfl⟩, hc⟩
  obtain ⟨I, hI⟩ : ∃ I : World → Prop, ∀ wl, I wl ↔ ∃ (L P : List (Ky × Vl)) (r : Root Ky Vl) (F : Foot), Frm (fun _ => False) w wl ∧ w2.heap.size ≤ wl.heap.size ∧ Ranging wl kE.enc ev b D w1.heap.size L ∧ RepMC wl w.heap.size lt r F ∧ Ok lt P.length r ∧ rL r = putAll lt [] P ∧ D.Perm (P ++ L) ∧ ∀ y j, F y j → w2.heap.size ≤ y := ⟨_, fun _ => Iff.rfl⟩
  obtain ⟨μ, hμ⟩ : ∃ μ : World → Nat, ∀ wl L, Ranging wl kE.enc ev b D w1.heap.size L → μ wl = L.length := by
    refine ⟨fun wl => match wl.heap[w1.heap.size]? with
      | some (.mapIter (some m) since seen c0) => match wl.heap[m]? with
        | some (.map es clock) => (leftOf es seen).size
        | _ => 0
      | _ => 0, fun wl L hr => ?_⟩
    obtain ⟨es, clock, since, seen, c0, h1, h2, h3, h4, h5, h6⟩ := hr
    have := congrArg List.length h6
    simp only [h2, h1.heap]
    simpa using this
  refine Lp.intro I μ ⟨(hI _).2 ⟨D, [], none, _, k1.no k2, Nat.le_refl _, hr2, h0, trivial, rfl, List.Perm.refl _, fun _ _ h => h.elim⟩, ?_⟩
  intro wl _ hl'
  obtain ⟨L, P, r, F, kl, zl, hr, hV, hO, hrL, hp, hF⟩ := (hI _).1 hl'
  have hpl := hp.length_eq
  rw [List.length_append] at hpl
  refine op_next hr (fun hL => ?_) fun i hi w4 k4 z4 hr4 ht4 => ?_
  · subst hL
    try simp [-getElem?_pos, -Array.getElem?_eq_getElem, -Int.natCast_add]
    rw [List.append_nil] at hp
    refine hK _ wl kl ⟨r, hV.rep, by rw [hp.length_eq]; exact hO, ?_⟩
    rw [hrL]; exact (putAll_perm hl hnd hp).symm
  · try simp [-getElem?_pos, -Array.getElem?_eq_getElem, -Int.natCast_add]
    refine op_entry ht4 ?_
    try simp [-getElem?_pos, -Array.getElem?_eq_getElem, -Int.natCast_add]
    have hrc : ∃ p s sn c0, wl.heap[w1.heap.size]? = some (.mapIter p s sn c0) := by
      obtain ⟨es, clock, since, seen, c0, _, h2, _⟩ := hr
      exact ⟨_, _, _, _, h2⟩
    obtain ⟨p4, s4, sn4, c4, hrc⟩ := hrc
    have g4 := cframe_iter k4 hrc
    have hV4 : RepMC w4 w.heap.size lt r F := hV.cframe g4 (fun y j hy e => by have := hF y j hy; have e : y = w1.heap.size := e; omega) fun j e => by omega
    have hpa := putAll_len (lt := lt) P []
    simp only [List.length_nil] at hpa
    have hsp := setR_spec hl hO L[i].1 L[i].2
    refine mapSetM_ok (k := L[i].1) (x := L[i].2) hl hV4 hO (by rw [hrL]; omega) fun w5 F' g5 hV5 hF5 => ?_
    have n4 := k4.size
    have n5 := g5.size
    have hr5 : Ranging w5 kE.enc ev b D w1.heap.size (L.eraseIdx i) := hr4.frame g5.frm (fun ⟨j, h⟩ => h.elim (fun h => by have := hF _ _ h; omega) fun h => by omega) (fun ⟨j, h⟩ => h.elim (fun h => by have := hF _ _ h; omega) fun h => by omega)
    refine ⟨(hI _).2 ⟨_, P ++ [L[i]], _, F', (kl.old k4 fun c hc => .inr (by omega)).old g5.frm fun c ⟨j, h⟩ => .inr (h.elim (fun h => by have := hF _ _ h; omega) fun h => by omega), by omega, hr5, hV5, ?_, ?_, perm_step hp hi, fun y j hy => ?_⟩, ?_⟩
    · rw [List.length_append]; exact hsp.2
    · rw [hsp.1, hrL, putAll_snoc]
    · rcases hF5 y j hy with h | h
      · exact hF _ _ h
      · omega
    · rw [hμ _ _ hr5, hμ _ _ hr, List.length_eraseIdx_of_lt hi]; omega
end Go.Proofs.YtodjijfblgnfmaaGreatDoor.I
end
section
namespace Go.Proofs.YtodjijfblgnfmaaGreatDoor.I
open Go.Vc Go.Proofs Go.Proofs.YtodjijfblgnfmaaGreatDoor Go.Vc.Bt
variable {w w' : World} {cv : Value} {K : KV} {Kp : KP} {lt : Ky → Ky → Bool}
theorem upd_new {D : List (Ky × Vl)} {k : Ky} {v : Vl} (h : ((D ++ [(k, v)]).map (·.1)).Nodup) : Nd.upd D k v = D ++ [(k, v)] := by
  have : Nd.find D k = none := Nd.find_none.2 fun e he hk => by
    rw [List.map_append, List.nodup_append] at h
    exact h.2.2 e.1 (List.mem_map_of_mem he) k (by simp) hk
  unfold Nd.upd
  rw [this]
theorem sortedOf_ok {a1 : Option Addr} {c1 : Nat} {ps : List SPr} (hC : CmpOk cv lt none) (hl : Lin lt) (h1 : Row w a1 (ps.flatMap SPr.cells)) (ht : ∀ p ∈ ps, p.text.size ≤ 100) (hn : ps.length ≤ 1000) (hnd : ((ps.map kd.kv).map (·.1)).Nodup)
    (hK : ∀ pv w', Frm (fun _ => False) w w' → RowsOf (Flat SPr.cells) w' w.heap.size 49 3 pv (prs (putAll lt [] (ps.map kd.kv))) (fun _ => False) → K pv w') :
    Calls Tryz.prog 52 #[kdV, cv, .slice a1 ps.length c1] w (ret K Kp) := by
  refine vc52_calls ?_
  delta vc52
  refine op_box_ok fun w1 k1 z1 b1 => ?_
  simp only [kdV, cells_agg] at b1
  have hx3 : (#[.func (.func 89) #[] #[], .func (.func 90) #[] #[], .func (.func 91) #[] #[]] : Array Value).extract 0 3 = #[.func (.func 89) #[] #[], .func (.func 90) #[] #[], .func (.func 91) #[] #[]] := rfl
  refine op_mkMap ?_
  have k2 : Frm (fun _ => False) w1 (w1.alloc (.map #[] 0)) := Frm.alloc _ _
  have hm2 : HasMap (w1.alloc (.map #[] 0)) kE.enc ev w1.heap.size ([] : List (Ky × Vl)) := hasMap_new w1 _ _
  generalize hw2 : w1.alloc (.map #[] 0) = w2 at *
  have n1 := k1.size
  have hmlt := hm2.lt
  simp only [call_94]
  simp [-getElem?_pos, -Array.getElem?_eq_getElem, -Int.natCast_add, -op_alloc_49, -op_st_49]
  obtain ⟨I, hI⟩ : ∃ I : KV, ∀ v wl, I v wl ↔ ∃ i : Nat, v = .int .i64 i ∧ i ≤ ps.length ∧ Frm (fun _ => False) w1 wl ∧ w2.heap.size ≤ wl.heap.size ∧ HasMap wl kE.enc ev w1.heap.size ((ps.take i).map kd.kv) := ⟨_, fun _ _ => Iff.rfl⟩
  refine Lp.intro I (fun v _ => ps.length - nOf v) ⟨(hI _ _).2 ⟨0, rfl, by omega, k2, Nat.le_refl _, hm2⟩, ?_⟩
  intro wl v hv
  obtain ⟨i, rfl, hi, kl, zl, hm⟩ := (hI _ _).1 hv
  have k1l := k1.no kl
  have bKl := kl.get b1 fun h => h
  simp only [op_lss, Br_dec]
  refine ⟨fun hlt => ?_, fun hge => ?_⟩
  · have hi' : i < ps.length := by omega
    obtain ⟨b, o, cs, e, fz, rfl, q1, q2, q3⟩ := (h1.frame k1l fun _ _ h => h).part SPr.len (by decide) hi'
    have htp := ht _ (List.getElem_mem hi')
    simp [-getElem?_pos, -Array.getElem?_eq_getElem, -Int.natCast_add, -op_alloc_49, -op_st_49, q1, q2, q3]
    refine ⟨hi', ?_⟩
    refine op_alloc_ok (z := .agg #[.int .i64 0, .string ByteArray.empty, .int .i64 0]) (by kernel_rfl) fun w6 k6 z6 b6 => ?_
    simp only [cells_agg] at b6
    refine op_storeN_ok (n := 3) (by kernel_rfl) b6 rfl (by decide) (by simp [SPr.cells]) fun w7 k7 z7 b7 => ?_
    have b7 : w7.heap[wl.heap.size]? = some (.cells #[.int .i64 ps[i].key, .string ps[i].text, .int .i64 ps[i].val] 49 (0, 0)) := by
      rw [ow_all (by simp [SPr.cells])] at b7; exact b7
    have k67 : Frm (fun _ => False) wl w7 := k6.old k7 fun c hc => .inr (by omega)
    have bk := k67.get bKl fun h => h
    simp [-getElem?_pos, -Array.getElem?_eq_getElem, -Int.natCast_add, -op_alloc_49, -op_st_49, b7, bk, call_key]
    refine key_ok htp ?_
    try simp [-getElem?_pos, -Array.getElem?_eq_getElem, -Int.natCast_add, -op_alloc_49, -op_st_49, b7]
    have hmD : HasMap w7.drew kE.enc ev w1.heap.size ((ps.take i).map kd.kv) := hm.frame (k67.no (Frm.drew _)) fun h => h
    refine op_update (E := kE) (ev := ev) (k := kd.key ps[i].key ps[i].text) (v := ps[i].val) Tryz.underlying150 hmD fun w8 k8 z8 hm8 => ?_
    have hnd' : (((ps.take i).map kd.kv ++ [kd.kv ps[i]]).map (·.1)).Nodup := by
      have e : (ps.take i).map kd.kv ++ [kd.kv ps[i]] = (ps.map kd.kv).take (i + 1) := by rw [← List.map_take, List.take_succ_eq_append_getElem hi', List.map_append, List.map_singleton]
      rw [e, List.map_take]
      exact List.Sublist.nodup (List.take_sublist _ _) hnd
    try simp [-getElem?_pos, -Array.getElem?_eq_getElem, -Int.natCast_add, -op_alloc_49, -op_st_49]
    rw [show IntKind.i64.wrap ((i : Int) + 1) = ((i + 1 : Nat) : Int) from by rw [IntKind.wrap_i64]; omega]
    refine ⟨(hI _ _).2 ⟨i + 1, rfl, by omega, (kl.no (k67.no (Frm.drew _))).old k8 fun c hc => .inr (by omega), by have := k67.size; have : w7.drew.heap.size = w7.heap.size := rfl; omega, ?_⟩, by simp only [nOf_int]; omega⟩
    rw [List.take_succ_eq_append_getElem hi', List.map_append, List.map_singleton]
    rw [show Nd.upd ((ps.take i).map kd.kv) (kd.key ps[i].key ps[i].text) ps[i].val = (ps.take i).map kd.kv ++ [kd.kv ps[i]] from upd_new hnd'] at hm8
    exact hm8
  have hie : i = ps.length := by omega
  subst hie
  rw [List.take_length] at hm
  have hLn := putAll_len (lt := lt) (ps.map kd.kv) []
  simp only [List.length_map, List.length_nil] at hLn
  simp [-getElem?_pos, -Array.getElem?_eq_getElem, -Int.natCast_add, -op_alloc_49, -op_st_49, bKl, hx3]
  refine newMapOf_ok hl hC (hm.frame (Frm.drew (M := fun _ => False) _) fun h => h) (by rw [List.length_map]; omega) fun mb w5 k5 v5 => ?_
  rw [List.length_map] at v5
  generalize putAll lt [] (ps.map kd.kv) = L at *
  have k5 := Frm.dr k5
  have bK5 := k5.get bKl fun h => h
  simp [-getElem?_pos, -Array.getElem?_eq_getElem, -Int.natCast_add, -op_alloc_49, -op_st_49, bK5, hx3]
  refine ver_iter v5 (by omega) fun w6 ib k6 hib hA6 => ?_
  have bK6 := k6.get bK5 fun h => h
  simp [-getElem?_pos, -Array.getElem?_eq_getElem, -Int.natCast_add, -op_alloc_49, -op_st_49, bK6, hx3]
  refine pairsOf_ok hA6 (by omega) fun pv w7 k7 hR7 => ?_
  rw [restOf_zero] at hR7
  try simp [-getElem?_pos, -Array.getElem?_eq_getElem, -Int.natCast_add, -op_alloc_49, -op_st_49]
  have n5 := k5.size
  have n6 := k6.size
  have n1l := k1l.size
  exact hK pv w7 (((k1l.no k5).no k6).old k7 fun c hc => .inr (by omega)) (hR7.base_le (by omega))
end Go.Proofs.YtodjijfblgnfmaaGreatDoor.I
end
section
namespace Go.Proofs.YtodjijfblgnfmaaGreatDoor.T
open Go.Vc Go.Proofs Go.Proofs.YtodjijfblgnfmaaGreatDoor Go.Vc.Bt
variable {w w' : World} {v : Value} {t : Tr} {K : KV} {Kp : KP} {rb : Nat} {b g o c h : Nat} {es : List (Ky × Vl)}
abbrev Foot := Nat → Nat → Prop
def own1 (b g o c s : Nat) : Foot := fun y j => y = b ∨ y = g ∧ o ≤ j ∧ j < o + c * s
abbrev Nd := Tr × Value × Foot
def Disj (F G : Foot) : Prop := ∀ b j, F b j → ¬ G b j
theorem Disj.symm {F G : Foot} (h : Disj F G) : Disj G F := fun b j hg hf => h b j hf hg
def vals (N : List Nd) : List (Tr × Value) := N.map fun p => (p.1, p.2.1)
def RepC (w : World) : Nat → Tr → Value → Foot → Prop
  | 0, .leaf es, v, F => ∃ b g o c, v = .iface 200 (ptr b) ∧ w.heap[b]? = some (.cells #[.slice (some ⟨g, o, none⟩) es.length c] 206 (0, 0)) ∧ Sg w 203 2 g o es.length c (ents es) ∧ F = own1 b g o c 2
  | h + 1, .br ks, v, F => ∃ b g o c, ∃ N : List Nd, v = .iface 262 (ptr b) ∧ w.heap[b]? = some (.cells #[.slice (some ⟨g, o, none⟩) N.length c] 267 (0, 0)) ∧ ks = N.map (·.1) ∧ Sg w 269 2 g o N.length c (els h (vals N)) ∧
      (∀ p ∈ N, RepC w h p.1 p.2.1 p.2.2) ∧ N.Pairwise (fun a b => Disj a.2.2 b.2.2) ∧ (∀ p ∈ N, Disj (own1 b g o c 2) p.2.2) ∧ F = fun y j => own1 b g o c 2 y j ∨ ∃ p ∈ N, p.2.2 y j
  | _, _, _, _ => False
def Own (w : World) (h : Nat) (N : List Nd) : Prop := (∀ p ∈ N, RepC w h p.1 p.2.1 p.2.2) ∧ N.Pairwise fun a b => Disj a.2.2 b.2.2
theorem RepC.cframe {M : Foot} : ∀ {h : Nat} {t : Tr} {v : Value} {F : Foot}, RepC w h t v F → CFrm M w w' → Disj F M → RepC w' h t v F
  | 0, .leaf es, v, F, hr, hf, hM => by
    obtain ⟨b, g, o, c, h1, h2, h3, rfl⟩ := hr
    exact ⟨b, g, o, c, h1, hf.get h2 fun j => hM b j (.inl rfl), h3.cframe hf fun j h h' => hM g j (.inr ⟨rfl, h, h'⟩), rfl⟩
  | h + 1, .br ks, v, F, hr, hf, hM => by
    obtain ⟨b, g, o, c, N, h1, h2, h3, h4, h5, h6, h7, rfl⟩ := hr
    exact ⟨b, g, o, c, N, h1, hf.get h2 fun j => hM b j (.inl (.inl rfl)), h3, h4.cframe hf fun j h h' => hM g j (.inl (.inr ⟨rfl, h, h'⟩)), fun p hp => (h5 p hp).cframe hf fun y j hy => hM y j (.inr ⟨p, hp, hy⟩), h6, h7, rfl⟩
  | 0, .br ks, v, F, hr, hf, hM => hr.elim
  | h + 1, .leaf es, v, F, hr, hf, hM => hr.elim
theorem RepC.still {F : Foot} (hr : RepC w h t v F) (hf : Frm (fun _ => False) w w') : RepC w' h t v F := hr.cframe (CFrm.of (M := fun _ _ => False) hf) fun _ _ _ h => h
theorem Own.cframe {M : Foot} {N : List Nd} (hr : Own w h N) (hf : CFrm M w w') (hM : ∀ p ∈ N, Disj p.2.2 M) : Own w' h N := ⟨fun p hp => (hr.1 p hp).cframe hf (hM p hp), hr.2⟩
theorem Own.still {N : List Nd} (hr : Own w h N) (hf : Frm (fun _ => False) w w') : Own w' h N := hr.cframe (CFrm.of (M := fun _ _ => False) hf) fun _ _ _ _ _ h => h
theorem RepC.rep : ∀ {h : Nat} {t : Tr} {v : Value} {F : Foot}, RepC w h t v F → Rep w h t v
  | 0, .leaf es, v, F, hr => by
    obtain ⟨b, g, o, c, h1, h2, h3, _⟩ := hr
    exact ⟨b, g, o, c, h1, h2, h3⟩
  | h + 1, .br ks, v, F, hr => by
    obtain ⟨b, g, o, c, N, h1, h2, h3, h4, h5, _⟩ := hr
    have e : ks.length = N.length := by rw [h3, List.length_map]
    refine ⟨b, g, o, c, vals N, h1, by rw [e]; exact h2, by rw [h3]; simp [vals], by rw [e]; exact h4, fun p hp => ?_⟩
    obtain ⟨q, hq, rfl⟩ := List.mem_map.1 hp
    exact (h5 q hq).rep
  | 0, .br ks, v, F, hr => hr.elim
  | h + 1, .leaf es, v, F, hr => hr.elim
theorem RepC.low : ∀ {h : Nat} {t : Tr} {v : Value} {F : Foot}, RepC w h t v F → ∀ y j, F y j → y < w.heap.size
  | 0, .leaf es, v, F, hr, y, j, hy => by
    obtain ⟨b, g, o, c, h1, h2, h3, rfl⟩ := hr
    rcases hy with rfl | ⟨rfl, _⟩
    · exact lt_of_get h2
    · exact h3.lt
  | h + 1, .br ks, v, F, hr, y, j, hy => by
    obtain ⟨b, g, o, c, N, h1, h2, h3, h4, h5, h6, h7, rfl⟩ := hr
    rcases hy with (rfl | ⟨rfl, _⟩) | ⟨p, hp, hy⟩
    · exact lt_of_get h2
    · exact h4.lt
    · exact (h5 p hp).low y j hy
  | 0, .br ks, v, F, hr, y, j, hy => hr.elim
  | h + 1, .leaf es, v, F, hr, y, j, hy => hr.elim
theorem RepC.ty : ∀ {h : Nat} {t : Tr} {v : Value} {F : Foot}, RepC w h t v F → ∀ y j, F y j → ∃ cs e, w.heap[y]? = some (.cells cs e (0, 0)) ∧ (e = 206 ∨ e = 203 ∨ e = 267 ∨ e = 269)
  | 0, .leaf es, v, F, hr, y, j, hy => by
    obtain ⟨b, g, o, c, h1, h2, ⟨cs, h3, _⟩, rfl⟩ := hr
    rcases hy with rfl | ⟨rfl, _⟩
    · exact ⟨_, _, h2, .inl rfl⟩
    · exact ⟨_, _, h3, .inr (.inl rfl)⟩
  | h + 1, .br ks, v, F, hr, y, j, hy => by
    obtain ⟨b, g, o, c, N, h1, h2, h3, ⟨cs, h4, _⟩, h5, h6, h7, rfl⟩ := hr
    rcases hy with (rfl | ⟨rfl, _⟩) | ⟨p, hp, hy⟩
    · exact ⟨_, _, h2, .inr (.inr (.inl rfl))⟩
    · exact ⟨_, _, h4, .inr (.inr (.inr rfl))⟩
    · exact (h5 p hp).ty y j hy
  | 0, .br ks, v, F, hr, y, j, hy => hr.elim
  | h + 1, .leaf es, v, F, hr, y, j, hy => hr.elim
theorem flag.cfrm {b b' : Bool} (h : flag w rb b) (hf : Frm (· = rb) w w') (h' : flag w' rb b') : CFrm (fun y _ => y = rb) w w' :=
  (CFrm.one (I := fun _ => True) hf h h' rfl (fun j hj => absurd trivial hj) ⟨0, trivial⟩).mono fun b j h _ => h.1
theorem RepC.flag {F : Foot} {b : Bool} (h1 : RepC w h t v F) (h2 : flag w rb b) : ∀ j, ¬ F rb j := fun j hj => by
  obtain ⟨cs, e, h3, h4⟩ := h1.ty rb j hj
  unfold T.flag at h2
  rw [h2] at h3
  cases h3
  rcases h4 with h | h | h | h <;> cases h
theorem zero_ent : ∃ z : List Value, z.length = 2 ∧ (∀ u ∈ z, u.oneCell' = true) ∧ sliceLit Tryz.prog 204 1 [(0, .agg z.toArray)] = some (203, z.toArray) ∧ ∀ {w : World} {K : KV} {Kp : KP}, nP.op (.build 203 []) w K Kp = K (.agg z.toArray) w :=
  ⟨[zk, zv], rfl, fun u hu => by simp only [List.mem_cons, List.not_mem_nil, or_false] at hu; rcases hu with rfl | rfl <;> rfl, lit_204_1, op_build_203_⟩
end Go.Proofs.YtodjijfblgnfmaaGreatDoor.T
end
section
namespace Go.Proofs.YtodjijfblgnfmaaGreatDoor.T
open Go.Vc Go.Proofs Go.Proofs.YtodjijfblgnfmaaGreatDoor Go.Vc.Bt
variable {w w' : World} {v cv : Value} {K : KV} {Kp : KP} {lt : Ky → Ky → Bool} {k : Ky} {x : Vl} {rb : Nat} {r0 : Bool} {b g o c h : Nat} {es : List (Ky × Vl)} {F : Foot}
theorem leafSetM_ok (hC : IsC cv lt) (hr : RepC w 0 (.leaf es) v F) (hw : WF 0 (.leaf es)) (hs : Sd lt es) (hfl : flag w rb r0)
    (hK : ∀ w' N, CFrm (fun y j => F y j ∨ y = rb) w w' → flag w' rb (r0 || !has lt es k) → Own w' 0 N → N.map (·.1) = (split (Bt.put lt es k x)).map .leaf → (∀ p ∈ N, ∀ y j, p.2.2 y j → F y j ∨ w.heap.size ≤ y) → K (two (N.map (·.2.1))) w') :
    nP.call (.inv v "pub-bracken/pub/immutable.set") [ek k, ev x, cv, .bool true, .pointer (some ⟨rb, 0, none⟩)] w K Kp := by
  obtain ⟨h1, h2⟩ : es ≠ [] ∧ es.length ≤ 32 := hw
  have hrb := hr.flag hfl
  have hlow := hr.low
  obtain ⟨b, g, o, c, rfl, hb, hg, hF⟩ := hr
  have hFb : ∀ j, F b j := fun j => by rw [hF]; exact .inl rfl
  have hFg : ∀ j, o ≤ j → j < o + c * 2 → F g j := fun j h h' => by rw [hF]; exact .inr ⟨rfl, h, h'⟩
  simp only [inv_200_237]
  refine vc237_calls ?_
  delta vc237
  simp only [call_235]
  refine leafIdx_ok hC hs (by omega) hb hg fun w1 f1 => ?_
  have hb1 := f1.get hb fun h => h
  have hg1 := hg.still f1
  have hfl1 := hfl.frame f1 fun h => h
  have hp := place_le (lt := lt) es k
  obtain ⟨J, hJ⟩ : ∃ J : KV, ∀ e wl, J e wl ↔ e = .bool (has lt es k) ∧ Frm (fun _ => False) w wl := ⟨_, fun _ _ => Iff.rfl⟩
  refine Jn.intro J ⟨?_, ?_⟩
  · simp [-getElem?_pos, -Array.getElem?_eq_getElem, -Int.natCast_add, -op_st_4, -op_st_203, -op_st_204, -op_build_203_, -pur_build_203_, -op_lit_204_1, ptr, hb1]
    refine ⟨fun hlt => ?_, fun hge => (hJ _ _).2 ⟨?_, Frm.no f1 (Frm.drew _)⟩⟩
    · have hlt' : place lt es k < es.length := by omega
      obtain ⟨cur, hcur, hk⟩ := leafKey hg1
      have hki := hk _ hlt'
      simp [-getElem?_pos, -Array.getElem?_eq_getElem, -Int.natCast_add, -op_st_4, -op_st_203, -op_st_204, -op_build_203_, -pur_build_203_, -op_lit_204_1, hcur, hki, hC.nilC]
      refine ⟨hlt', hC.cmp fun w2 f2 => ?_⟩
      simp [-getElem?_pos, -Array.getElem?_eq_getElem, -Int.natCast_add, -op_st_4, -op_st_203, -op_st_204, -op_build_203_, -pur_build_203_, -op_lit_204_1]
      refine (hJ _ _).2 ⟨?_, Frm.no f1 (Frm.dr f2)⟩
      have hz : Bt.cmp lt es[place lt es k].1 k = 0 ↔ es[place lt es k].1 = k := cmp_zero hC.lin
      unfold has
      rw [List.getElem?_eq_getElem hlt']
      simp [hz]
    · unfold has
      rw [List.getElem?_eq_none (by omega)]
  intro w3 junk j hj
  obtain ⟨rfl, f3⟩ := (hJ _ _).1 hj
  have hb3 := f3.get hb fun h => h
  have hg3 := hg.still f3
  have hfl3 := hfl.frame f3 fun h => h
  have n3 := f3.size
  clear hb1 hg1 hfl1 f1 hj hJ J
  have hpl := put_len (lt := lt) (L := es) (k := k) (v := x)
  have hel := ents_len es
  -- the row with a place for the key
  obtain ⟨J, hJ⟩ : ∃ J : World → Prop, ∀ wl, J wl ↔ ∃ g' o' c' xs, CFrm (fun y j => F y j ∨ y = rb) w wl ∧ flag wl rb (r0 || !has lt es k) ∧ wl.heap[b]? = some (.cells #[.slice (some ⟨g', o', none⟩) (Bt.put lt es k x).length c'] 206 (0, 0)) ∧ Sg wl 203 2 g' o' (Bt.put lt es k x).length c' xs ∧
      (g' = g ∧ o' = o ∧ c' = c ∨ w.heap.size ≤ g') ∧ g' ≠ rb ∧ lw xs (place lt es k * 2) (ent (k, x)) = ents (Bt.put lt es k x) ∧ place lt es k < (Bt.put lt es k x).length := ⟨_, fun _ => Iff.rfl⟩
  simp only [Br_true]
  refine Jn.intro J ⟨?_, ?_⟩
  · cases hh : has lt es k with
    | true =>
      have hlt := has_lt hh
      rw [hh] at hpl
      have hpl : (Bt.put lt es k x).length = es.length := by rw [hpl]; rfl
      simp [-getElem?_pos, -Array.getElem?_eq_getElem, -Int.natCast_add, -op_st_4, -op_st_203, -op_st_204, -op_build_203_, -pur_build_203_, -op_lit_204_1]
      refine (hJ _).2 ⟨g, o, c, ents es, CFrm.of f3, by rw [hh]; simpa using hfl3, by rw [hpl]; exact hb3, by rw [hpl]; exact hg3, .inl ⟨rfl, rfl, rfl⟩, fun e => ?_, ?_, by omega⟩
      · obtain ⟨cs, e1, _⟩ := hg3
        exact hfl3.typed e1 (by decide) e
      · unfold Bt.put; rw [hh]; exact (fm_set ent_len hlt).symm
    | false =>
      rw [hh] at hpl
      have hpl : (Bt.put lt es k x).length = es.length + 1 := by rw [hpl]; rfl
      have hpe : ents (Bt.put lt es k x) = (ents es).take (place lt es k * 2) ++ (ent (k, x) ++ (ents es).drop (place lt es k * 2)) := by
        unfold Bt.put; rw [hh]; exact fm_ins ent_len
      have hpm : place lt es k * 2 ≤ es.length * 2 := Nat.mul_le_mul_right _ hp
      obtain ⟨z, hz1, hz2, hz3, hz4⟩ := zero_ent
      simp [-getElem?_pos, -Array.getElem?_eq_getElem, -Int.natCast_add, -op_st_4, -op_st_203, -op_st_204, -op_build_203_, -pur_build_203_, -op_lit_204_1]
      refine raise_ok hfl3 fun w4 k4 z4 fl4 => ?_
      have c4 : CFrm (fun y j => F y j ∨ y = rb) w w4 := CFrm.fst f3 ((hfl3.cfrm k4 fl4).mono fun _ _ h _ => .inr h)
      have hb4 := k4.get hb3 (hfl3.typed hb3 (by decide))
      have hg4 := Sg.past hg3 hfl3 (by decide) k4
      simp [-getElem?_pos, -Array.getElem?_eq_getElem, -Int.natCast_add, -op_st_4, -op_st_203, -op_st_204, -op_build_203_, -pur_build_203_, -op_lit_204_1, ptr, hb4, hz4]
      refine op_lit_ok hz3 fun w5 k5 z5 b5 => ?_
      have hb5 := k5.get hb4 fun h => h
      have hg5 := hg4.still k5
      have fl5 := fl4.frame k5 fun h => h
      have c5 := c4.no k5
      have n5 := c5.size
      have hcg := hg5.le
      refine op_growSg (m := 1) apE hg5 (.inr ⟨_, 0, _, _, _, rfl, b5, fun j v hj => by simpa using hj⟩) (by rw [Nat.one_mul]; exact hz1) (by decide) hz2 ents_one (by omega) fun w6 g' o' c' k6 hg6 hgg n6 => ?_
      have c6 : CFrm (fun y j => F y j ∨ y = rb) w w6 := c5.old k6 fun y j hy => .inl (.inl (by obtain ⟨rfl, h⟩ := hy; exact hFg j h.1 h.2))
      have hnb : b ≠ g := fun e => by
        obtain ⟨cs, e1, _⟩ := hg3
        rw [← e, hb3] at e1; cases e1
      have hnr : rb ≠ g := fun e => by
        obtain ⟨cs, e1, _⟩ := hg3
        exact hfl3.typed e1 (by decide) e.symm
      have hb6 := k6.get hb5 fun j hj => hnb hj.1
      have fl6 : flag w6 rb true := k6.get fl5 fun j hj => hnr hj.1
      have hrb6 := hfl.below
      have hlg : g' ≠ rb := by rcases hgg with h | h; rw [h.1]; exact fun e => hnr e.symm; omega
      have hlb : g' ≠ b := by
        have := lt_of_get hb
        rcases hgg with h | h
        · rw [h.1]; exact fun e => hnb e.symm
        · omega
      have ew1 : IntKind.i64.wrap ((place lt es k : Int) + 1) = ((place lt es k + 1 : Nat) : Int) := by rw [IntKind.wrap_i64]; omega
      try simp [-getElem?_pos, -Array.getElem?_eq_getElem, -Int.natCast_add, -op_st_4, -op_st_203, -op_st_204, -op_build_203_, -pur_build_203_, -op_lit_204_1]
      refine op_store_ok (by kernel_rfl) hb6 (by simp) rfl fun w7 k7 z7 b7 => ?_
      have b7 : w7.heap[b]? = some (.cells #[.slice (some ⟨g', o', none⟩) (es.length + 1) c'] 206 (0, 0)) := by simpa using b7
      have hg7 := hg6.frame k7 hlb
      have c7 : CFrm (fun y j => F y j ∨ y = rb) w w7 := c6.trans (CFrm.one (I := fun _ => True) k7 hb6 b7 rfl (fun j hj => absurd trivial hj) ⟨0, trivial⟩) fun y j hy _ => .inl (by rw [hy.1]; exact hFb j)
      have fl7 : flag w7 rb true := k7.get fl6 fun e => hfl3.typed hb3 (by decide) e.symm
      simp [-getElem?_pos, -Array.getElem?_eq_getElem, -Int.natCast_add, -op_st_4, -op_st_203, -op_st_204, -op_build_203_, -pur_build_203_, -op_lit_204_1, b7, ew1]
      have hc7 := hg7.le
      refine ⟨by omega, by omega, by omega, by omega, ?_⟩
      refine op_copyIn (m := es.length - place lt es k) (x1 := place lt es k + 1) (x2 := place lt es k) (by kernel_rfl) (by decide) (hg7.still (Frm.drew _)) rfl rfl (by omega) (by omega) (by omega) (fun u hu => (List.mem_append.1 hu).elim (ents_one u) (hz2 u)) fun w8 k8 z8 hg8 => ?_
      have c78 : CFrm (fun y j => y = g' ∧ o' ≤ j ∧ j < o' + c' * 2) w7 w8 := CFrm.fst (Frm.drew w7) k8
      have hgF : ∀ y j, (y = g' ∧ o' ≤ j ∧ j < o' + c' * 2) → (F y j ∨ y = rb) ∨ w.heap.size ≤ y := fun y j ⟨e1, e2, e3⟩ => by
        subst e1
        rcases hgg with ⟨rfl, rfl, rfl⟩ | h
        · exact .inl (.inl (hFg j e2 e3))
        · exact .inr (by omega)
      refine (hJ _).2 ⟨g', o', c', lw (ents es ++ z) ((place lt es k + 1) * 2) (((ents es ++ z).drop (place lt es k * 2)).take ((es.length - place lt es k) * 2)), c7.old c78 hgF, by rw [hh, Bool.not_false, Bool.or_true]; exact c78.get fl7 fun j hj => hlg hj.1.symm, ?_, ?_, ?_, hlg, ?_, by omega⟩
      · rw [hpl]; exact c78.get b7 fun j hj => hlb hj.1.symm
      · rw [hpl]; exact hg8
      · rcases hgg with h | h
        · exact .inl h
        · exact .inr (by omega)
      · rw [hpe]
        have e1 : (place lt es k + 1) * 2 = place lt es k * 2 + 2 := by rw [Nat.succ_mul]
        have e2 : (es.length - place lt es k) * 2 = (ents es).length - place lt es k * 2 := by rw [hel, Nat.sub_mul]
        rw [e1, e2]
        exact ins_place (by omega) hz1 (ent_len _)
  intro w9 junk hj
  obtain ⟨g', o', c', xs, c9, fl9, b9, hg9, hgg, hgr, hxs, hpp⟩ := (hJ _).1 hj
  clear hj hJ J hg3 hb3 hfl3 f3
  have h33 : (Bt.put lt es k x).length ≤ 33 := by rw [put_len]; split <;> omega
  have hgb : g' ≠ b := fun e => by
    obtain ⟨cs, e1, _⟩ := hg9
    rw [e, b9] at e1; cases e1
  have hgF : ∀ y j, (y = g' ∧ o' ≤ j ∧ j < o' + c' * 2) → (F y j ∨ y = rb) ∨ w.heap.size ≤ y := fun y j ⟨e1, e2, e3⟩ => by
    subst e1
    rcases hgg with ⟨rfl, rfl, rfl⟩ | h
    · exact .inl (.inl (hFg j e2 e3))
    · exact .inr h
  have hwb := lt_of_get hb
  have hxl := hg9.len
  generalize hpq : place lt es k = p at *
  generalize hfq : (r0 || !has lt es k) = fq at *
  generalize Bt.put lt es k x = es' at *
  have hpm : (p + 1) * 2 ≤ es'.length * 2 := Nat.mul_le_mul_right _ hpp
  rw [Nat.succ_mul] at hpm
  simp [-getElem?_pos, -Array.getElem?_eq_getElem, -Int.natCast_add, -op_st_4, -op_st_203, -op_st_204, -op_build_203_, -pur_build_203_, -op_lit_204_1, ptr, b9]
  refine ⟨by omega, op_storeSg (n := es'.length) (m := 2) (by kernel_rfl) rfl (by decide) hg9 rfl hpm (fun u hu => by simp only [List.mem_toArray, List.mem_cons, List.not_mem_nil, or_false] at hu; rcases hu with rfl | rfl <;> rfl) fun w10 k10 z10 hg10 => ?_⟩
  have b10 := k10.get b9 fun j hj => hgb hj.1.symm
  have fl10 : flag w10 rb fq := k10.get fl9 fun j hj => hgr hj.1.symm
  have c10 := c9.old k10 hgF
  have hg10 : Sg w10 203 2 g' o' es'.length c' (ents es') := by rw [← hxs]; exact hg10
  have hcc := hg10.le
  clear hg9 b9 fl9 k10 c9
  have n10 := c10.size
  have hlg' := hg10.lt
  simp [-getElem?_pos, -Array.getElem?_eq_getElem, -Int.natCast_add, -op_st_4, -op_st_203, -op_st_204, -op_build_203_, -pur_build_203_, -op_lit_204_1, ptr, b10]
  refine ⟨fun hgt => ?_, fun hle => ?_⟩
  · have e33 : es'.length = 33 := by omega
    rw [split_two e33] at hK
    rw [e33] at hg10 b10
    have e16 : IntKind.i64.wrap (((33 : Nat) : Int).tdiv 2) = 16 := by rw [IntKind.wrap_i64]; rfl
    have a1 := Sg.mx (i := 16) hg10 (by omega)
    have a2 := Sg.lo (i := 16) hg10 (by omega)
    have e16' : IntKind.i64.wrap 16 = 16 := by rw [IntKind.wrap_i64]; rfl
    simp [-getElem?_pos, -Array.getElem?_eq_getElem, -Int.natCast_add, -op_st_4, -op_st_203, -op_st_204, -op_build_203_, -pur_build_203_, -op_lit_204_1, ptr, b10, e33, e16, e16']
    refine ⟨by omega, ?_⟩
    refine op_box_ok fun w11 k11 z11 b11 => ?_
    have hb11 := k11.get b10 fun h => h
    simp [-getElem?_pos, -Array.getElem?_eq_getElem, -Int.natCast_add, -op_st_4, -op_st_203, -op_st_204, -op_build_203_, -pur_build_203_, -op_lit_204_1, hb11, e33, e16, e16']
    refine ⟨by omega, ?_⟩
    refine op_box_ok fun w12 k12 z12 b12 => ?_
    try simp [-getElem?_pos, -Array.getElem?_eq_getElem, -Int.natCast_add, -op_st_4, -op_st_203, -op_st_204, -op_build_203_, -pur_build_203_, -op_lit_204_1]
    have c11 := k12.get b11 fun h => h
    have f12 := k11.no k12
    have q1 : Sg w12 203 2 g' o' 16 16 (ents (es'.take 16)) := by rw [ents_take]; exact a1.still f12
    have q2 : Sg w12 203 2 g' (o' + 16 * 2) 17 (c' - 16) (ents (es'.drop 16)) := by rw [ents_drop]; exact a2.still f12
    have n11 := k11.size
    have l1 : (es'.take 16).length = 16 := by rw [List.length_take]; omega
    have l2 : (es'.drop 16).length = 17 := by rw [List.length_drop]; omega
    have hc16 : 16 * 2 + (c' - 16) * 2 = c' * 2 := by rw [← Nat.add_mul]; congr 1; omega
    refine hK w12 [(.leaf (es'.take 16), .iface 200 (ptr w10.heap.size), own1 w10.heap.size g' o' 16 2), (.leaf (es'.drop 16), .iface 200 (ptr w11.heap.size), own1 w11.heap.size g' (o' + 16 * 2) (c' - 16) 2)] (c10.no f12) (fl10.frame f12 fun h => h) ⟨fun p hp => ?_, ?_⟩ rfl fun p hp y j hy => ?_
    · simp only [List.mem_cons, List.not_mem_nil, or_false] at hp
      rcases hp with rfl | rfl
      · exact ⟨_, g', o', 16, rfl, by rw [l1]; simpa [cells_agg, e33] using c11, by rw [l1]; exact q1, rfl⟩
      · exact ⟨_, g', o' + 16 * 2, c' - 16, rfl, by rw [l2]; simpa [cells_agg, e33, show ¬ c' = 16 from by omega] using b12, by rw [l2]; exact q2, rfl⟩
    · simp only [List.pairwise_cons, List.mem_cons, List.not_mem_nil, or_false, forall_eq, false_imp_iff, implies_true, and_true, List.Pairwise.nil]
      rintro y j (rfl | ⟨rfl, h1, h2⟩) (h | ⟨h, h3, h4⟩)
      · omega
      · omega
      · omega
      · omega
    · simp only [List.mem_cons, List.not_mem_nil, or_false] at hp
      have key : (y = g' ∧ o' ≤ j ∧ j < o' + c' * 2) → F y j ∨ w.heap.size ≤ y := fun hy => by
        rcases hgF y j hy with (h | h) | h
        · exact .inl h
        · exact absurd (hy.1.symm.trans h) hgr
        · exact .inr h
      rcases hp with rfl | rfl
      · rcases hy with rfl | ⟨e1, e2, e3⟩
        · exact .inr n10
        · exact key ⟨e1, e2, by omega⟩
      · rcases hy with rfl | ⟨e1, e2, e3⟩
        · exact .inr (by omega)
        · exact key ⟨e1, by omega, by omega⟩
  · rw [split_one (by omega)] at hK
    refine hK w10 [(.leaf es', .iface 200 (ptr b), own1 b g' o' c' 2)] c10 fl10 ⟨fun p hp => ?_, List.pairwise_singleton _ _⟩ rfl fun p hp y j hy => ?_
    · rw [List.mem_singleton.1 hp]
      exact ⟨b, g', o', c', rfl, b10, hg10, rfl⟩
    · rw [List.mem_singleton.1 hp] at hy
      rcases hy with rfl | hy
      · exact .inl (hFb j)
      · rcases hgF y j hy with (h | h) | h
        · exact .inl h
        · exact absurd (hy.1.symm.trans h) hgr
        · exact .inr h
end Go.Proofs.YtodjijfblgnfmaaGreatDoor.T
end
section
namespace Go.Proofs.YtodjijfblgnfmaaGreatDoor.T
open Go.Vc Go.Proofs Go.Proofs.YtodjijfblgnfmaaGreatDoor Go.Vc.Bt
variable {w w' : World} {v : Value} {K : KV} {Kp : KP} {rb : Nat} {b g o c h i : Nat} {F : Foot} {N N2 : List Nd}
theorem mem_put {p : Nd} (hp : p ∈ N.take i ++ N2 ++ N.drop (i + 1)) (hi : i < N.length) : p ∈ N2 ∨ p ∈ N := by
  rcases List.mem_append.1 hp with hp | hp
  · rcases List.mem_append.1 hp with hp | hp
    · exact .inr (List.mem_of_mem_take hp)
    · exact .inl hp
  · exact .inr (List.mem_of_mem_drop hp)
theorem pw_apart (hpw : N.Pairwise fun a b => Disj a.2.2 b.2.2) (hi : i < N.length) : (∀ p ∈ N.take i, Disj p.2.2 N[i].2.2) ∧ (∀ p ∈ N.drop (i + 1), Disj p.2.2 N[i].2.2) ∧ (N.take i ++ N.drop (i + 1)).Pairwise fun a b => Disj a.2.2 b.2.2 := by
  have e : N = N.take i ++ N[i] :: N.drop (i + 1) := by rw [← List.drop_eq_getElem_cons hi, List.take_append_drop]
  rw [e] at hpw
  obtain ⟨h1, h2, h3⟩ := List.pairwise_append.1 hpw
  obtain ⟨h4, h5⟩ := List.pairwise_cons.1 h2
  exact ⟨fun p hp => h3 p hp _ List.mem_cons_self, fun p hp => (h4 p hp).symm, List.pairwise_append.2 ⟨h1, h5, fun a ha b hb => h3 a ha b (List.mem_cons_of_mem _ hb)⟩⟩
theorem own_put (hi : i < N.length) (hO : Own w h N) (h2 : Own w' h N2) (hf : CFrm (fun y j => N[i].2.2 y j ∨ y = rb) w w') (hrb : ∀ p ∈ N, ∀ j, ¬ p.2.2 rb j) (hsub : ∀ q ∈ N2, ∀ y j, q.2.2 y j → N[i].2.2 y j ∨ w.heap.size ≤ y) : Own w' h (N.take i ++ N2 ++ N.drop (i + 1)) := by
  obtain ⟨a1, a2, a3⟩ := pw_apart hO.2 hi
  have hap : ∀ p ∈ N, Disj p.2.2 N[i].2.2 → ∀ q ∈ N2, Disj p.2.2 q.2.2 := fun p hp hd q hq y j hy hz => by
    rcases hsub q hq y j hz with h | h
    · exact hd y j hy h
    · have := (hO.1 p hp).low y j hy; omega
  have hst : ∀ p ∈ N, Disj p.2.2 N[i].2.2 → RepC w' h p.1 p.2.1 p.2.2 := fun p hp hd => (hO.1 p hp).cframe hf fun y j hy hz => by
    rcases hz with h | rfl
    · exact hd y j hy h
    · exact hrb p hp j hy
  refine ⟨fun p hp => ?_, ?_⟩
  · rcases List.mem_append.1 hp with hp | hp
    · rcases List.mem_append.1 hp with hp | hp
      · exact hst p (List.mem_of_mem_take hp) (a1 p hp)
      · exact h2.1 p hp
    · exact hst p (List.mem_of_mem_drop hp) (a2 p hp)
  · obtain ⟨b1, b2, b3⟩ := List.pairwise_append.1 a3
    refine List.pairwise_append.2 ⟨List.pairwise_append.2 ⟨b1, h2.2, fun a ha q hq => hap a (List.mem_of_mem_take ha) (a1 a ha) q hq⟩, b2, fun a ha q hq => ?_⟩
    rcases List.mem_append.1 ha with ha | ha
    · exact b3 a ha q hq
    · exact (hap q (List.mem_of_mem_drop hq) (a2 q hq) a ha).symm
theorem vals_put : vals (N.take i ++ N2 ++ N.drop (i + 1)) = (vals N).take i ++ vals N2 ++ (vals N).drop (i + 1) := by simp [vals, List.map_take, List.map_drop]
theorem vals_len : (vals N).length = N.length := by simp [vals]
theorem zero_el : ∃ z : List Value, z.length = 2 ∧ (∀ u ∈ z, u.oneCell' = true) ∧ sliceLit Tryz.prog 265 1 [(0, .agg z.toArray)] = some (269, z.toArray) ∧ ∀ {w : World} {K : KV} {Kp : KP}, nP.op (.build 269 []) w K Kp = K (.agg z.toArray) w :=
  ⟨[zk, .nilIface], rfl, fun u hu => by simp only [List.mem_cons, List.not_mem_nil, or_false] at hu; rcases hu with rfl | rfl <;> rfl, lit_265_1, op_build_269_⟩
theorem ins_place2 {A z v : List Value} {r q : Nat} (h : r + q ≤ A.length) (hz : z.length = q) (hv : v.length = q) : lw (lw (A ++ z) (r + q) (((A ++ z).drop r).take (A.length - r))) (r + q) v = A.take (r + q) ++ (v ++ A.drop (r + q)) := by
  have e1 : ((A ++ z).drop r).take (A.length - r) = A.drop r := by
    rw [List.drop_append_of_le_length (by omega), List.take_append_of_le_length (by rw [List.length_drop]; exact Nat.le_refl _), List.take_of_length_le (by rw [List.length_drop]; exact Nat.le_refl _)]
  rw [e1]
  have hd : ((A ++ z).drop (r + q + (A.drop r).length)) = [] := List.drop_of_length_le (by rw [List.length_append, List.length_drop]; omega)
  have e2 : lw (A ++ z) (r + q) (A.drop r) = A.take (r + q) ++ A.drop r := by
    unfold lw
    rw [hd, List.append_nil, List.take_append_of_le_length h]
  rw [e2]
  have hl : (A.take (r + q)).length = r + q := by rw [List.length_take]; omega
  have h0 : (A.drop r).drop q = A.drop (r + q) := List.drop_drop
  generalize A.take (r + q) = B at *
  unfold lw
  rw [List.take_append_of_le_length (by omega), List.take_of_length_le (by omega), hv, List.drop_append, List.drop_of_length_le (by omega), List.nil_append, show r + q + q - B.length = q from by omega, h0, List.append_assoc]
theorem Own.one (hr : Own w h N) (hl : N.length = 1) : ∃ s n f, N = [(s, n, f)] ∧ RepC w h s n f := by
  match N, hl with
  | [(s, n, f)], _ => exact ⟨s, n, f, rfl, hr.1 _ (List.mem_singleton.2 rfl)⟩
theorem Own.pair (hr : Own w h N) (hl : N.length = 2) : ∃ s n f s2 n2 f2, N = [(s, n, f), (s2, n2, f2)] ∧ RepC w h s n f ∧ RepC w h s2 n2 f2 := by
  match N, hl with
  | [(s, n, f), (s2, n2, f2)], _ => exact ⟨s, n, f, s2, n2, f2, rfl, hr.1 (s, n, f) (by simp), hr.1 (s2, n2, f2) (by simp)⟩
def MadeM (w0 w : World) (F : Foot) (rb : Nat) (h b : Nat) (new : List Tr) : Prop := ∃ g o c, ∃ N : List Nd, CFrm (fun y j => F y j ∨ y = rb) w0 w ∧ w.heap[b]? = some (.cells #[.slice (some ⟨g, o, none⟩) N.length c] 267 (0, 0)) ∧ N.map (·.1) = new ∧ Sg w 269 2 g o N.length c (els h (vals N)) ∧ Own w h N ∧ (∀ p ∈ N, Disj (own1 b g o c 2) p.2.2) ∧
  (∀ y j, own1 b g o c 2 y j → F y j ∨ w0.heap.size ≤ y) ∧ (∀ p ∈ N, ∀ y j, p.2.2 y j → F y j ∨ w0.heap.size ≤ y) ∧ g ≠ rb ∧ b ≠ g
end Go.Proofs.YtodjijfblgnfmaaGreatDoor.T
end
section
namespace Go.Proofs.YtodjijfblgnfmaaGreatDoor.T
open Go.Vc Go.Proofs Go.Proofs.YtodjijfblgnfmaaGreatDoor Go.Vc.Bt
variable {w w' : World} {v cv : Value} {t : Tr} {K : KV} {Kp : KP} {lt : Ky → Ky → Bool} {k : Ky} {x : Vl} {rb : Nat} {r0 : Bool} {b g o c h i : Nat} {ks : List Tr} {F : Foot} {N N2 : List Nd}
theorem els_oneM (hO : Own w h N) : ∀ u ∈ els h (vals N), u.oneCell' = true := els_one (w := w) fun p hp => by
  obtain ⟨q, hq, rfl⟩ := List.mem_map.1 hp
  exact (hO.1 q hq).rep
theorem brSetM_ok (hC : IsC cv lt) (hr : RepC w (h + 1) (.br ks) v F) (hw : WF (h + 1) (.br ks)) (hs : Sd lt (toL (h + 1) (.br ks))) (hfl : flag w rb r0)
    (ih : ∀ {t : Tr} {v : Value} {F : Foot} {w : World} {K : KV} {Kp : KP}, RepC w h t v F → WF h t → Sd lt (toL h t) → flag w rb r0 →
      (∀ w' N, CFrm (fun y j => F y j ∨ y = rb) w w' → flag w' rb (r0 || !has lt (toL h t) k) → Own w' h N → N.map (·.1) = setT lt h t k x → (∀ p ∈ N, ∀ y j, p.2.2 y j → F y j ∨ w.heap.size ≤ y) → K (two (N.map (·.2.1))) w') →
      nP.call (.inv v "pub-bracken/pub/immutable.set") [ek k, ev x, cv, .bool true, .pointer (some ⟨rb, 0, none⟩)] w K Kp)
    (hK : ∀ w' N, CFrm (fun y j => F y j ∨ y = rb) w w' → flag w' rb (r0 || !has lt (toL (h + 1) (.br ks)) k) → Own w' (h + 1) N → N.map (·.1) = setT lt (h + 1) (.br ks) k x → (∀ p ∈ N, ∀ y j, p.2.2 y j → F y j ∨ w.heap.size ≤ y) → K (two (N.map (·.2.1))) w') :
    nP.call (.inv v "pub-bracken/pub/immutable.set") [ek k, ev x, cv, .bool true, .pointer (some ⟨rb, 0, none⟩)] w K Kp := by
  obtain ⟨h1, h2, h3⟩ : ks ≠ [] ∧ ks.length ≤ 32 ∧ ∀ t ∈ ks, WF h t := id hw
  have hrb := hr.flag hfl
  have hlow := hr.low
  obtain ⟨b, g, o, c, N, rfl, hb, hks, hg, hN, hpw, hdj, hF⟩ := hr
  have hFo : ∀ y j, own1 b g o c 2 y j → F y j := fun y j h => by rw [hF]; exact .inl h
  have hFb : ∀ j, F b j := fun j => hFo b j (.inl rfl)
  have hFg : ∀ j, o ≤ j → j < o + c * 2 → F g j := fun j h h' => hFo g j (.inr ⟨rfl, h, h'⟩)
  have hFN : ∀ p ∈ N, ∀ y j, p.2.2 y j → F y j := fun p hp y j h => by rw [hF]; exact .inr ⟨p, hp, h⟩
  have hl : N.length = ks.length := by rw [hks, List.length_map]
  have hps : ks = (vals N).map (·.1) := by rw [hks]; simp [vals]
  rw [← vals_len] at hb hg
  simp only [inv_262_255]
  refine vc255_calls ?_
  delta vc255
  simp only [call_253]
  refine brIdx_ok hC hw hs hps hb hg fun w1 f1 => ?_
  have hi := kid_lt (lt := lt) (h := h) (k := k) h1
  have hA := kid_ahead hC.lin hw hs k
  have hB := kid_behind hC.lin hw hs k
  have hsp := toL_split (h := h) hi
  rw [setT_succ hi] at hK
  generalize kid lt h ks k = i at *
  have hs2 : Sd lt (toL h ks[i]) := by
    rw [hsp] at hs
    exact (List.pairwise_append.1 (List.pairwise_append.1 hs).2.1).1
  rw [hsp, has_mid hC.lin hA hB] at hK
  have hiN : i < N.length := by omega
  have hip : i < (vals N).length := by rw [vals_len]; exact hiN
  have hb1 := f1.get hb fun h => h
  have hg1 := hg.still f1
  have hfl1 := hfl.frame f1 fun h => h
  obtain ⟨cur, hcur, hk⟩ := elCells hg1
  have hki := (hk i hip).2
  have hvi : (vals N)[i] = (N[i].1, N[i].2.1) := by simp [vals]
  rw [hvi] at hki
  have hpi : N[i].1 = ks[i] := by simp [hks]
  have hmem : N[i] ∈ N := List.getElem_mem hiN
  have hO1 : Own w1 h N := Own.still ⟨hN, hpw⟩ f1
  have hr' := hO1.1 _ hmem
  rw [hpi] at hr'
  obtain ⟨g1, g2, g3, g4⟩ := setT_spec hC.lin h ks[i] k x (h3 _ (List.getElem_mem hi)) hs2
  simp [-getElem?_pos, -Array.getElem?_eq_getElem, -Int.natCast_add, -op_st_269, -op_st_265, -op_build_269_, -pur_build_269_, -op_lit_265_1, ptr, hb1, hcur, hki]
  refine ⟨by rw [vals_len]; exact hiN, ih hr' (h3 _ (List.getElem_mem hi)) hs2 hfl1 fun w2 N2 f2 fl2 hO2 hN2 hsub => ?_⟩
  have n1 := f1.size
  have hO3 := own_put hiN hO1 hO2 f2 (fun p hp j hj => hrb j (hFN p hp _ _ hj)) hsub
  have c2 : CFrm (fun y j => F y j ∨ y = rb) w w2 := CFrm.fst f1 (f2.mono fun y j hy _ => hy.imp (hFN _ hmem y j) id)
  have hnrb : b ≠ rb := hfl.typed hb (by decide)
  have hown2 : ∀ y j, own1 b g o c 2 y j → ¬ (N[i].2.2 y j ∨ y = rb) := fun y j hy hz => by
    rcases hz with hz | rfl
    · exact hdj _ hmem y j hy hz
    · exact hrb j (hFo _ j hy)
  have hb2 := f2.get hb1 fun j => hown2 b j (.inl rfl)
  have hg2 := hg1.cframe f2 fun j h h' => hown2 g j (.inr ⟨rfl, h, h'⟩)
  have hgr : g ≠ rb := fun e => by
    obtain ⟨cs, e1, _⟩ := hg1
    exact hfl1.typed e1 (by decide) e
  have hbg : b ≠ g := fun e => by
    obtain ⟨cs, e1, _⟩ := hg1
    rw [← e, hb1] at e1; cases e1
  have hdj3 : ∀ p ∈ N.take i ++ N2 ++ N.drop (i + 1), ∀ y j, (own1 b g o c 2 y j ∨ y = rb) → ¬ p.2.2 y j := fun p hp y j hy hz => by
    rcases mem_put hp hiN with hp | hp
    · rcases hsub p hp y j hz with h | h
      · rcases hy with hy | rfl
        · exact hdj _ hmem y j hy h
        · exact hrb j (hFN _ hmem _ _ h)
      · rcases hy with hy | rfl
        · have := hlow y j (hFo y j hy); omega
        · have := hfl.below; omega
    · rcases hy with hy | rfl
      · exact hdj p hp y j hy hz
      · exact hrb j (hFN p hp _ _ hz)
  have hft3 : ∀ p ∈ N.take i ++ N2 ++ N.drop (i + 1), ∀ y j, p.2.2 y j → F y j ∨ w.heap.size ≤ y := fun p hp y j hy => by
    rcases mem_put hp hiN with hp | hp
    · exact (hsub p hp y j hy).imp (hFN _ hmem y j) fun h => by omega
    · exact .inl (hFN p hp y j hy)
  have hel := els_len h (vals N)
  have hxN := els_oneM hO1
  have hf2b := hfl.below
  generalize hfq : (r0 || !has lt (toL h ks[i]) k) = fl at *
  generalize hlq : setT lt h ks[i] k x = l at *
  have hl12 : l.length = 1 ∨ l.length = 2 := by have := List.length_pos_iff.2 g4; omega
  have hnl : N2.length = l.length := by rw [← hN2, List.length_map]
  have hks' : (N.take i ++ N2 ++ N.drop (i + 1)).map (·.1) = ks.take i ++ l ++ ks.drop (i + 1) := by rw [hks]; simp [List.map_take, List.map_drop, hN2]
  obtain ⟨J, hJ⟩ : ∃ J : World → Prop, ∀ wl, J wl ↔ MadeM w wl F rb h b (ks.take i ++ l ++ ks.drop (i + 1)) ∧ flag wl rb fl := ⟨_, fun _ => Iff.rfl⟩
  have hgF : ∀ {g' o' c' : Nat}, (g' = g ∧ o' = o ∧ c' = c ∨ w.heap.size ≤ g') → ∀ y j, own1 b g' o' c' 2 y j → F y j ∨ w.heap.size ≤ y := fun {g' o' c'} hgg y j hy => by
    rcases hy with rfl | ⟨rfl, e2, e3⟩
    · exact .inl (hFb j)
    · rcases hgg with ⟨rfl, rfl, rfl⟩ | h
      · exact .inl (hFg j e2 e3)
      · exact .inr h
  rw [vals_len] at hb2 hg2
  obtain ⟨s, un, pn, f, y, htwo, hn, hy⟩ : ∃ s un pn f y, two (N2.map (·.2.1)) = .tuple #[.iface un pn, y] ∧ (s, Value.iface un pn, f) ∈ N2 ∧ (y = .nilIface ∧ N2 = [(s, .iface un pn, f)] ∨ ∃ s2 u2 p2 f2, y = .iface u2 p2 ∧ N2 = [(s, .iface un pn, f), (s2, .iface u2 p2, f2)]) := by
    rcases hl12 with hl1 | hl1
    · obtain ⟨s, n, f, rfl, hn⟩ := hO2.one (by omega)
      obtain ⟨un, pn, rfl⟩ := hn.rep.iface
      exact ⟨s, un, pn, f, _, rfl, by simp, .inl ⟨rfl, rfl⟩⟩
    · obtain ⟨s, n, f, s2, n2, f2, rfl, hn, hn2⟩ := hO2.pair (by omega)
      obtain ⟨un, pn, rfl⟩ := hn.rep.iface
      obtain ⟨u2, p2, rfl⟩ := hn2.rep.iface
      exact ⟨s, un, pn, f, _, rfl, by simp, .inr ⟨s2, u2, p2, f2, rfl, rfl⟩⟩
  have hns : (RepC w2 h s (.iface un pn) f) := hO2.1 _ hn
  have hsl : s ∈ l := by rw [← hN2]; exact List.mem_map.2 ⟨_, hn, rfl⟩
  rw [htwo]
  simp [-getElem?_pos, -Array.getElem?_eq_getElem, -Int.natCast_add, -op_st_269, -op_st_265, -op_build_269_, -pur_build_269_, -op_lit_265_1, hb2]
  refine minKey_ok ((hns.rep).still (Frm.drew _)) (g2 s hsl) fun w3 m k3 hm => ?_
  have k3 := Frm.dr k3
  have hb3 := k3.get hb2 fun h => h
  have hg3 := hg2.still k3
  have fl3 := fl2.frame k3 fun h => h
  simp [-getElem?_pos, -Array.getElem?_eq_getElem, -Int.natCast_add, -op_st_269, -op_st_265, -op_build_269_, -pur_build_269_, -op_lit_265_1, hb3]
  refine ⟨hiN, op_storeSg (n := N.length) (m := 2) (by kernel_rfl) rfl (by decide) hg3 rfl (by omega) (fun u hu => by simp only [List.mem_toArray, List.mem_cons, List.not_mem_nil, or_false] at hu; rcases hu with rfl | rfl <;> rfl) fun w4 k4 z4 hg4 => ?_⟩
  have hb4 := k4.get hb3 fun j h => hbg h.1
  have fl4 : flag w4 rb fl := k4.get fl3 fun j h => hgr h.1.symm
  have c4 : CFrm (fun y j => F y j ∨ y = rb) w w4 := (c2.no k3).trans k4 fun y j hy _ => .inl (by obtain ⟨rfl, h⟩ := hy; exact hFg j h.1 h.2)
  have hO4 : Own w4 h (N.take i ++ N2 ++ N.drop (i + 1)) := (hO3.still k3).cframe k4 fun p hp y j hy hz => hdj3 p hp y j (.inl (.inr hz)) hy
  have hrow : lw (els h (vals N)) (i * 2) [ek m, .iface un pn] = els h ((vals N).set i (s, .iface un pn)) := by rw [← el_of hm]; exact (fm_set (el_len h) hip).symm
  have hg4 : Sg w4 269 2 g o N.length c (els h ((vals N).set i (s, .iface un pn))) := by rw [← hrow]; exact hg4
  have n4 := c4.size
  clear hrow hg3 hb3 fl3 hO3 hg2 hb2 fl2 c2 hO2 hr' hO1 hfl1 hg1 hb1
  refine Jn.intro J ⟨?_, fun wl hj => ?_⟩
  · rcases hy with ⟨rfl, rfl⟩ | ⟨s2, u2, p2, f2', rfl, rfl⟩
    · try simp [-getElem?_pos, -Array.getElem?_eq_getElem, -Int.natCast_add, -op_st_269, -op_st_265, -op_build_269_, -pur_build_269_, -op_lit_265_1]
      have hlen : (N.take i ++ [(s, Value.iface un pn, f)] ++ N.drop (i + 1)).length = N.length := by simp; omega
      refine (hJ _).2 ⟨⟨g, o, c, N.take i ++ [(s, Value.iface un pn, f)] ++ N.drop (i + 1), c4, by rw [hlen]; exact hb4, hks', ?_, hO4, fun p hp y j hy => hdj3 p hp y j (.inl hy), hgF (.inl ⟨rfl, rfl, rfl⟩), hft3, hgr, hbg⟩, fl4⟩
      rw [hlen, vals_put]
      have : (vals N).take i ++ vals [(s, Value.iface un pn, f)] ++ (vals N).drop (i + 1) = (vals N).set i (s, .iface un pn) := by
        rw [List.set_eq_take_append_cons_drop, if_pos hip]; simp [vals]
      rw [this]; exact hg4
    · obtain ⟨z, hz1, hz2, hz3, hz4⟩ := zero_el
      have ew1 : IntKind.i64.wrap ((i : Int) + 1) = ((i + 1 : Nat) : Int) := by rw [IntKind.wrap_i64]; omega
      have hRl : (els h ((vals N).set i (s, Value.iface un pn))).length = N.length * 2 := by rw [els_len, List.length_set, vals_len]
      have hR1 : ∀ u ∈ els h ((vals N).set i (s, Value.iface un pn)), u.oneCell' = true := fun u hu => by
        obtain ⟨p, hp, hu⟩ := List.mem_flatMap.1 hu
        rcases List.mem_or_eq_of_mem_set hp with hp | rfl
        · exact hxN u (List.mem_flatMap.2 ⟨p, hp, hu⟩)
        · rw [el_of hm] at hu
          simp only [List.mem_cons, List.not_mem_nil, or_false] at hu
          rcases hu with rfl | rfl <;> rfl
      generalize hRq : els h ((vals N).set i (s, Value.iface un pn)) = R at *
      simp [-getElem?_pos, -Array.getElem?_eq_getElem, -Int.natCast_add, -op_st_269, -op_st_265, -op_build_269_, -pur_build_269_, -op_lit_265_1, hb4, hz4]
      refine op_lit_ok hz3 fun w5 k5 z5 b5 => ?_
      have hb5 := k5.get hb4 fun h => h
      have hg5 := hg4.still k5
      have fl5 := fl4.frame k5 fun h => h
      refine op_growSg (m := 1) apX hg5 (.inr ⟨_, 0, _, _, _, rfl, b5, fun j v hj => by simpa using hj⟩) (by rw [Nat.one_mul]; exact hz1) (by decide) hz2 hR1 (by omega) fun w6 g' o' c' k6 hg6 hgg n6 => ?_
      have n5 := k5.size
      have hb6 := k6.get hb5 fun j hj => hbg hj.1
      have fl6 : flag w6 rb fl := k6.get fl5 fun j hj => hgr hj.1.symm
      have hlb4 := lt_of_get hb4
      have hlr4 := fl4.below
      have hlg : g' ≠ rb := by rcases hgg with h | h; rw [h.1]; exact hgr; omega
      have hlb : b ≠ g' := by rcases hgg with h | h; rw [h.1]; exact hbg; omega
      try simp [-getElem?_pos, -Array.getElem?_eq_getElem, -Int.natCast_add, -op_st_269, -op_st_265, -op_build_269_, -pur_build_269_, -op_lit_265_1]
      refine op_store_ok (by kernel_rfl) hb6 (by simp) rfl fun w7 k7 z7 b7 => ?_
      have b7 : w7.heap[b]? = some (.cells #[.slice (some ⟨g', o', none⟩) (N.length + 1) c'] 267 (0, 0)) := by simpa using b7
      have hg7 := hg6.frame k7 fun e => hlb e.symm
      have fl7 : flag w7 rb fl := k7.get fl6 fun e => hnrb e.symm
      have hcc7 := hg7.le
      simp [-getElem?_pos, -Array.getElem?_eq_getElem, -Int.natCast_add, -op_st_269, -op_st_265, -op_build_269_, -pur_build_269_, -op_lit_265_1, b7, ew1]
      refine ⟨by omega, by omega, by omega, by omega, ?_⟩
      refine op_copyIn (m := N.length - i) (x1 := i + 1) (x2 := i) (by kernel_rfl) (by decide) (hg7.still (Frm.drew _)) rfl rfl (by omega) (by omega) (by omega) (fun u hu => (List.mem_append.1 hu).elim (hR1 u) (hz2 u)) fun w8 k8 z8 hg8 => ?_
      have k8 := CFrm.fst (Frm.drew w7) k8
      have b8 := k8.get b7 fun j hj => hlb hj.1
      have fl8 : flag w8 rb fl := k8.get fl7 fun j hj => hlg hj.1.symm
      have hreg : ∀ y j, (y = g' ∧ o' ≤ j ∧ j < o' + c' * 2) → own1 b g o c 2 y j ∨ w4.heap.size ≤ y := fun y j ⟨e1, e2, e3⟩ => by
        subst e1
        rcases hgg with ⟨rfl, rfl, rfl⟩ | h
        · exact .inl (.inr ⟨rfl, e2, e3⟩)
        · exact .inr (by omega)
      have c48 : CFrm (own1 b g o c 2) w4 w8 := (((CFrm.of (M := own1 b g o c 2) k5).old k6 fun y j hy => .inl (.inr hy)).trans (CFrm.one (I := fun _ => True) k7 hb6 b7 rfl (fun j hj => absurd trivial hj) ⟨0, trivial⟩) fun y j hy _ => .inl hy.1).old k8 hreg
      have hO8 := hO4.cframe c48 fun p hp y j hy hz => hdj3 p hp y j (.inl hz) hy
      have hn2 := hO8.1 (s2, .iface u2 p2, f2') (by simp)
      simp [-getElem?_pos, -Array.getElem?_eq_getElem, -Int.natCast_add, -op_st_269, -op_st_265, -op_build_269_, -pur_build_269_, -op_lit_265_1, b8, ew1]
      refine minKey_ok (hn2.rep.still (Frm.drew _)) (g2 s2 (by rw [← hN2]; simp)) fun w9 m2 k9 hm2 => ?_
      have k9 := Frm.dr k9
      have b9 := k9.get b8 fun h => h
      have fl9 := fl8.frame k9 fun h => h
      simp [-getElem?_pos, -Array.getElem?_eq_getElem, -Int.natCast_add, -op_st_269, -op_st_265, -op_build_269_, -pur_build_269_, -op_lit_265_1, b9, ew1]
      refine ⟨by omega, op_storeSg (n := N.length + 1) (m := 2) (by kernel_rfl) rfl (by decide) (hg8.still k9) rfl (by omega) (fun u hu => by simp only [List.mem_toArray, List.mem_cons, List.not_mem_nil, or_false] at hu; rcases hu with rfl | rfl <;> rfl) fun w10 k10 z10 hg10 => ?_⟩
      have n8 := c48.size
      have c410 : CFrm (own1 b g o c 2) w4 w10 := (c48.no k9).old k10 hreg
      have hlen : (N.take i ++ [(s, Value.iface un pn, f), (s2, Value.iface u2 p2, f2')] ++ N.drop (i + 1)).length = N.length + 1 := by simp; omega
      refine (hJ _).2 ⟨⟨g', o', c', N.take i ++ [(s, Value.iface un pn, f), (s2, Value.iface u2 p2, f2')] ++ N.drop (i + 1), c4.old c410 fun y j hy => .inl (.inl (hFo y j hy)), by rw [hlen]; exact k10.get b9 fun j hj => hlb hj.1, hks', ?_, hO4.cframe c410 fun p hp y j hy hz => hdj3 p hp y j (.inl hz) hy, fun p hp y j hy hz => ?_, hgF (hgg.imp id fun h => by omega), hft3, hlg, hlb⟩, k10.get fl9 fun j hj => hlg hj.1.symm⟩
      · rw [hlen, vals_put]
        have hA : lw (lw (R ++ z) ((i + 1) * 2) (((R ++ z).drop (i * 2)).take ((N.length - i) * 2))) ((i + 1) * 2) [ek m2, .iface u2 p2] = R.take ((i + 1) * 2) ++ ([ek m2, .iface u2 p2] ++ R.drop ((i + 1) * 2)) := by
          have e1 : (i + 1) * 2 = i * 2 + 2 := by omega
          have e2 : (N.length - i) * 2 = R.length - i * 2 := by omega
          rw [e1, e2]
          exact ins_place2 (by omega) hz1 rfl
        have hB : els h ((vals N).take i ++ vals [(s, Value.iface un pn, f), (s2, Value.iface u2 p2, f2')] ++ (vals N).drop (i + 1)) = R.take ((i + 1) * 2) ++ ([ek m2, .iface u2 p2] ++ R.drop ((i + 1) * 2)) := by
          rw [← hRq, ← els_take, ← els_drop, ← el_of hm2]
          have e1 : ((vals N).set i (s, Value.iface un pn)).take (i + 1) = (vals N).take i ++ [(s, .iface un pn)] := by
            rw [List.take_set, List.take_succ_eq_append_getElem hip, List.set_append_right _ _ (by rw [List.length_take]; omega)]
            rw [show i - ((vals N).take i).length = 0 from by rw [List.length_take]; omega]; rfl
          have e2 : ((vals N).set i (s, Value.iface un pn)).drop (i + 1) = (vals N).drop (i + 1) := by rw [List.drop_set_of_lt (by omega)]
          rw [e1, e2]
          simp [els, vals]
        rw [hB, ← hA]; exact hg10
      · rcases hy with rfl | hy
        · exact hdj3 p hp _ j (.inl (.inl rfl)) hz
        · rcases hreg y j hy with h | h
          · exact hdj3 p hp y j (.inl h) hz
          · have := (hO4.1 p hp).low y j hz; omega
  · obtain ⟨⟨g', o', c', N', c9, b9, hks9, hg9, hO9, hd9, hf9, hft9, hgr9, hbg9⟩, fl9⟩ := (hJ _).1 hj
    rw [← hks9] at hK
    have h33 : N'.length ≤ 33 := by
      have := congrArg List.length hks9
      simp only [List.length_map, List.length_append, List.length_take, List.length_drop] at this
      omega
    have hlg' := hg9.lt
    have hcc := hg9.le
    have n9 := c9.size
    clear hj hJ
    simp [-getElem?_pos, -Array.getElem?_eq_getElem, -Int.natCast_add, -op_st_269, -op_st_265, -op_build_269_, -pur_build_269_, -op_lit_265_1, ptr, b9]
    refine ⟨fun hgt => ?_, fun hle => ?_⟩
    · have e33 : N'.length = 33 := by omega
      rw [split_two (by rw [List.length_map]; exact e33)] at hK
      rw [e33] at hg9 b9
      have e16 : IntKind.i64.wrap (((33 : Nat) : Int).tdiv 2) = 16 := by rw [IntKind.wrap_i64]; rfl
      have e16' : IntKind.i64.wrap 16 = 16 := by rw [IntKind.wrap_i64]; rfl
      have a1 := Sg.mx (i := 16) hg9 (by omega)
      have a2 := Sg.lo (i := 16) hg9 (by omega)
      have hc16' : ¬ c' = 16 := by omega
      simp [-getElem?_pos, -Array.getElem?_eq_getElem, -Int.natCast_add, -op_st_269, -op_st_265, -op_build_269_, -pur_build_269_, -op_lit_265_1, b9, e33, e16, e16']
      refine ⟨by omega, ?_⟩
      refine op_box_ok fun w11 k11 z11 b11 => ?_
      have hb11 := k11.get b9 fun h => h
      simp [-getElem?_pos, -Array.getElem?_eq_getElem, -Int.natCast_add, -op_st_269, -op_st_265, -op_build_269_, -pur_build_269_, -op_lit_265_1, hb11, e33, e16, e16']
      refine ⟨by omega, ?_⟩
      refine op_box_ok fun w12 k12 z12 b12 => ?_
      try simp [-getElem?_pos, -Array.getElem?_eq_getElem, -Int.natCast_add, -op_st_269, -op_st_265, -op_build_269_, -pur_build_269_, -op_lit_265_1]
      have c11 := k12.get b11 fun h => h
      have f12 := k11.no k12
      have n11 := k11.size
      have hO12 := hO9.still f12
      have q1 : Sg w12 269 2 g' o' 16 16 (els h (vals (N'.take 16))) := by
        have := a1.still f12
        rw [← els_take] at this
        rw [show vals (N'.take 16) = (vals N').take 16 from by simp [vals, List.map_take]]; exact this
      have q2 : Sg w12 269 2 g' (o' + 16 * 2) 17 (c' - 16) (els h (vals (N'.drop 16))) := by
        have := a2.still f12
        rw [← els_drop] at this
        rw [show vals (N'.drop 16) = (vals N').drop 16 from by simp [vals, List.map_drop]]; exact this
      have l1 : (N'.take 16).length = 16 := by rw [List.length_take]; omega
      have l2 : (N'.drop 16).length = 17 := by rw [List.length_drop]; omega
      have hpw := List.pairwise_append.1 (show (N'.take 16 ++ N'.drop 16).Pairwise _ by rw [List.take_append_drop]; exact hO12.2)
      have hlow9 : ∀ p ∈ N', ∀ y j, p.2.2 y j → y < wl.heap.size := fun p hp => (hO9.1 p hp).low
      have hreg : ∀ y j, (y = g' ∧ o' ≤ j ∧ j < o' + c' * 2) → own1 b g' o' c' 2 y j := fun y j h => .inr h
      have hc16 : 16 * 2 + (c' - 16) * 2 = c' * 2 := by omega
      have ap : ∀ {nb o2 c2 : Nat}, wl.heap.size ≤ nb → o' ≤ o2 → o2 + c2 * 2 ≤ o' + c' * 2 → ∀ p ∈ N', Disj (own1 nb g' o2 c2 2) p.2.2 := fun {nb o2 c2} h1 h2 h3 p hp y j hy hz => by
        rcases hy with rfl | ⟨e1, e2, e3⟩
        · have := hlow9 p hp _ j hz; omega
        · exact hd9 p hp y j (hreg y j ⟨e1, by omega, by omega⟩) hz
      have ft : ∀ {nb o2 c2 : Nat}, wl.heap.size ≤ nb → o' ≤ o2 → o2 + c2 * 2 ≤ o' + c' * 2 → ∀ y j, own1 nb g' o2 c2 2 y j → F y j ∨ w.heap.size ≤ y := fun {nb o2 c2} h1 h2 h3 y j hy => by
        rcases hy with rfl | ⟨e1, e2, e3⟩
        · exact .inr (by omega)
        · exact hf9 y j (hreg y j ⟨e1, by omega, by omega⟩)
      refine hK w12 [(.br ((N'.take 16).map (·.1)), .iface 262 (ptr wl.heap.size), fun y j => own1 wl.heap.size g' o' 16 2 y j ∨ ∃ p ∈ N'.take 16, p.2.2 y j), (.br ((N'.drop 16).map (·.1)), .iface 262 (ptr w11.heap.size), fun y j => own1 w11.heap.size g' (o' + 16 * 2) (c' - 16) 2 y j ∨ ∃ p ∈ N'.drop 16, p.2.2 y j)] (c9.no f12) (fl9.frame f12 fun h => h) ⟨fun p hp => ?_, ?_⟩ (by simp [List.map_take, List.map_drop]) fun p hp y j hy => ?_
      · simp only [List.mem_cons, List.not_mem_nil, or_false] at hp
        rcases hp with rfl | rfl
        · exact ⟨_, g', o', 16, N'.take 16, rfl, by rw [l1]; simpa [cells_agg, e33] using c11, rfl, by rw [l1]; exact q1, fun p hp => hO12.1 p (List.mem_of_mem_take hp), hpw.1, fun p hp => ap (Nat.le_refl _) (Nat.le_refl _) (by omega) p (List.mem_of_mem_take hp), rfl⟩
        · exact ⟨_, g', o' + 16 * 2, c' - 16, N'.drop 16, rfl, by rw [l2]; simpa [cells_agg, e33, hc16'] using b12, rfl, by rw [l2]; exact q2, fun p hp => hO12.1 p (List.mem_of_mem_drop hp), hpw.2.1, fun p hp => ap n11 (by omega) (by omega) p (List.mem_of_mem_drop hp), rfl⟩
      · simp only [List.pairwise_cons, List.mem_cons, List.not_mem_nil, or_false, forall_eq, false_imp_iff, implies_true, and_true, List.Pairwise.nil]
        rintro y j (h1 | ⟨p, hp, h1⟩) (h2 | ⟨q, hq, h2⟩)
        · rcases h1 with rfl | ⟨rfl, h3, h4⟩
          · rcases h2 with h | ⟨h, _⟩ <;> omega
          · rcases h2 with h | ⟨_, h5, h6⟩ <;> omega
        · exact ap (Nat.le_refl _) (Nat.le_refl _) (by omega) q (List.mem_of_mem_drop hq) y j h1 h2
        · exact ap n11 (by omega) (by omega) p (List.mem_of_mem_take hp) y j h2 h1
        · exact hpw.2.2 p hp q hq y j h1 h2
      · simp only [List.mem_cons, List.not_mem_nil, or_false] at hp
        rcases hp with rfl | rfl
        · rcases hy with hy | ⟨q, hq, hy⟩
          · exact ft (Nat.le_refl _) (Nat.le_refl _) (by omega) y j hy
          · exact hft9 q (List.mem_of_mem_take hq) y j hy
        · rcases hy with hy | ⟨q, hq, hy⟩
          · exact ft n11 (by omega) (by omega) y j hy
          · exact hft9 q (List.mem_of_mem_drop hq) y j hy
    · rw [split_one (by rw [List.length_map]; omega)] at hK
      refine hK wl [(.br (N'.map (·.1)), .iface 262 (ptr b), fun y j => own1 b g' o' c' 2 y j ∨ ∃ p ∈ N', p.2.2 y j)] c9 fl9 ⟨fun p hp => ?_, List.pairwise_singleton _ _⟩ rfl fun p hp y j hy => ?_
      · rw [List.mem_singleton.1 hp]
        exact ⟨b, g', o', c', N', rfl, b9, rfl, hg9, hO9.1, hO9.2, hd9, rfl⟩
      · rw [List.mem_singleton.1 hp] at hy
        rcases hy with hy | ⟨q, hq, hy⟩
        · exact hf9 y j hy
        · exact hft9 q hq y j hy
theorem setM_ok (hC : IsC cv lt) : ∀ {h : Nat} {t : Tr} {v : Value} {F : Foot} {w : World} {K : KV} {Kp : KP}, RepC w h t v F → WF h t → Sd lt (toL h t) → flag w rb r0 →
      (∀ w' N, CFrm (fun y j => F y j ∨ y = rb) w w' → flag w' rb (r0 || !has lt (toL h t) k) → Own w' h N → N.map (·.1) = setT lt h t k x → (∀ p ∈ N, ∀ y j, p.2.2 y j → F y j ∨ w.heap.size ≤ y) → K (two (N.map (·.2.1))) w') →
      nP.call (.inv v "pub-bracken/pub/immutable.set") [ek k, ev x, cv, .bool true, .pointer (some ⟨rb, 0, none⟩)] w K Kp
  | 0, t, v, F, w, K, Kp, hr, hw, hs, hfl, hK => by
    obtain ⟨es, rfl, h1, h2⟩ := wf_zero.1 hw
    exact leafSetM_ok hC hr hw hs hfl hK
  | h + 1, t, v, F, w, K, Kp, hr, hw, hs, hfl, hK => by
    obtain ⟨ks, rfl, h1, h2, h3⟩ := wf_succ.1 hw
    exact brSetM_ok hC hr hw hs hfl (fun hr' hw' hs' hfl' hK' => setM_ok hC hr' hw' hs' hfl' hK') hK
end Go.Proofs.YtodjijfblgnfmaaGreatDoor.T
end
section
namespace Go.Proofs.YtodjijfblgnfmaaGreatDoor.T
open Go.Vc Go.Proofs Go.Proofs.YtodjijfblgnfmaaGreatDoor Go.Vc.Bt
variable {w w' : World} {v cv : Value} {t : Tr} {K : KV} {Kp : KP} {lt : Ky → Ky → Bool} {k : Ky} {x : Vl} {rb n : Nat} {r0 : Bool} {b c h : Nat} {r : Root Ky Vl} {F : Foot}
def RepRC (w : World) : Root Ky Vl → Value → Foot → Prop
  | none, v, F => v = .nilIface ∧ F = fun _ _ => False
  | some (h, t), v, F => RepC w h t v F
theorem RepRC.cframe {M : Foot} (h : RepRC w r v F) (hf : CFrm M w w') (hM : Disj F M) : RepRC w' r v F := by
  match r, h with
  | none, h => exact h
  | some (h, t), hr => exact RepC.cframe hr hf hM
theorem RepRC.rep (h : RepRC w r v F) : RepR w r v := by
  match r, h with
  | none, h => exact h.1
  | some (h, t), hr => exact RepC.rep hr
theorem RepRC.ty (h : RepRC w r v F) : ∀ y j, F y j → ∃ cs e, w.heap[y]? = some (.cells cs e (0, 0)) ∧ (e = 206 ∨ e = 203 ∨ e = 267 ∨ e = 269) := by
  match r, h with
  | none, h => intro y j hy; rw [h.2] at hy; exact hy.elim
  | some (h, t), hr => exact RepC.ty hr
theorem RepRC.low (h : RepRC w r v F) : ∀ y j, F y j → y < w.heap.size := fun y j hy => by obtain ⟨cs, e, h1, _⟩ := h.ty y j hy; exact lt_of_get h1
theorem RepRC.not {c : Nat} {cs : Array Value} {e : TypeId} {fz : Nat × Nat} (h : RepRC w r v F) (hc : w.heap[c]? = some (.cells cs e fz)) (he : e ≠ 206 ∧ e ≠ 203 ∧ e ≠ 267 ∧ e ≠ 269) : ∀ j, ¬ F c j := fun j hj => by
  obtain ⟨cs', e', h1, h2⟩ := h.ty c j hj
  rw [hc] at h1
  cases h1
  rcases h2 with rfl | rfl | rfl | rfl
  · exact he.1 rfl
  · exact he.2.1 rfl
  · exact he.2.2.1 rfl
  · exact he.2.2.2 rfl
def RepMC (w : World) (b : Nat) (lt : Ky → Ky → Bool) (r : Root Ky Vl) (F : Foot) : Prop := ∃ rv cv, w.heap[b]? = some (.cells #[.int .i64 (rL r).length, rv, cv] 190 (0, 0)) ∧ RepRC w r rv F ∧ CmpOk cv lt r
theorem RepMC.rep (h : RepMC w b lt r F) : RepM w b lt r := by
  obtain ⟨rv, cv, h1, h2, h3⟩ := h
  exact ⟨rv, cv, h1, h2.rep, h3⟩
theorem RepMC.cframe {M : Foot} (h : RepMC w b lt r F) (hf : CFrm M w w') (hM : Disj F M) (hb : ∀ j, ¬ M b j) : RepMC w' b lt r F := by
  obtain ⟨rv, cv, h1, h2, h3⟩ := h
  exact ⟨rv, cv, hf.get h1 hb, h2.cframe hf hM, h3⟩
theorem cell_frm {cs cs' : Array Value} {e : TypeId} (hf : Frm (· = c) w w') (h1 : w.heap[c]? = some (.cells cs e (0, 0))) (h2 : w'.heap[c]? = some (.cells cs' e (0, 0))) (hs : cs'.size = cs.size) : CFrm (fun y _ => y = c) w w' :=
  (CFrm.one (I := fun _ => True) hf h1 h2 hs (fun j hj => absurd trivial hj) ⟨0, trivial⟩).mono fun b j h _ => h.1
theorem mapSetM_ok (hl : Lin lt) (hm : RepMC w b lt r F) (hok : Ok lt n r) (hn : (rL r).length < 2 ^ 60)
    (hK : ∀ w' F', CFrm (fun y j => F y j ∨ y = b) w w' → RepMC w' b lt (some (setR lt r k x)) F' → (∀ y j, F' y j → F y j ∨ w.heap.size ≤ y) → K (ptr b) w') : Calls Tryz.prog 141 #[ptr b, ek k, ev x, .bool true] w (ret K Kp) := by
  refine vc141_calls ?_
  delta vc141
  obtain ⟨rv, cv, h1, h2, h3⟩ := hm
  have hsz := put_len (lt := lt) (L := rL r) (k := k) (v := x)
  have hspec := setR_spec hl hok k x
  have hbF := h2.not h1 (by decide)
  have hlb := lt_of_get h1
  simp [-getElem?_pos, -Array.getElem?_eq_getElem, -Int.natCast_add, -op_st_188, -op_st_3, -op_st_91, -op_alloc_4, -op_lit_204_1, -op_lit_343_2, ptr, h1]
  obtain ⟨J, hJ⟩ : ∃ J : KV, ∀ e wl, J e wl ↔ IsC e lt ∧ Frm (fun _ => False) w wl := ⟨_, fun _ _ => Iff.rfl⟩
  refine Jn.intro J ⟨?_, ?_⟩
  · rcases h3 with h3 | ⟨rfl, hd, _⟩
    · obtain ⟨u, p, rfl⟩ := h3.iface
      simp [-getElem?_pos, -Array.getElem?_eq_getElem, -Int.natCast_add, -op_st_188, -op_st_3, -op_st_91, -op_alloc_4, -op_lit_204_1, -op_lit_343_2]
      exact (hJ _ _).2 ⟨h3, Frm.refl⟩
    · simp [-getElem?_pos, -Array.getElem?_eq_getElem, -Int.natCast_add, -op_st_188, -op_st_3, -op_st_91, -op_alloc_4, -op_lit_204_1, -op_lit_343_2]
      exact hd fun w' cv hf hc => (hJ _ _).2 ⟨hc, hf⟩
  intro w1 cv1 hj
  obtain ⟨hC, f1⟩ := (hJ _ _).1 hj
  clear hJ hj J
  have a1 := f1.get h1 fun h => h
  have c1 := CmpOk.one (lt := lt) (r := none) (.inl hC)
  have s1 := f1.size
  obtain ⟨J, hJ⟩ : ∃ J : KV, ∀ e wl, J e wl ↔ e = ptr b ∧ wl = w1 := ⟨_, fun _ _ => Iff.rfl⟩
  refine Jn.intro J ⟨(hJ _ _).2 ⟨rfl, rfl⟩, ?_⟩
  intro w2 o2 hj
  obtain ⟨rfl, rfl⟩ := (hJ _ _).1 hj
  clear hJ hj J
  simp [-getElem?_pos, -Array.getElem?_eq_getElem, -Int.natCast_add, -op_st_188, -op_st_3, -op_st_91, -op_alloc_4, -op_lit_204_1, -op_lit_343_2, ptr]
  refine op_store_ok (by kernel_rfl) a1 (by simp) c1 fun w3 k3 z3 b3 => ?_
  have b3 : w3.heap[b]? = some (.cells #[.int .i64 (rL r).length, rv, cv1] 190 (0, 0)) := by simpa using b3
  have g3 : CFrm (fun y _ => y = b) w w3 := CFrm.fst f1 (cell_frm k3 a1 b3 rfl)
  have r3 := h2.cframe g3 fun y j hy e => hbF j (by rw [← e]; exact hy)
  match r, h2, hok, r3 with
  | none, h2, _, r3 =>
    obtain ⟨rfl, hF⟩ : rv = .nilIface ∧ F = fun _ _ => False := h2
    simp [-getElem?_pos, -Array.getElem?_eq_getElem, -Int.natCast_add, -op_st_188, -op_st_3, -op_st_91, -op_alloc_4, -op_lit_204_1, -op_lit_343_2, b3]
    refine op_store_ok (by kernel_rfl) b3 (by simp) rfl fun w4 k4 z4 b4 => ?_
    refine op_lit_ok lit_204_1 fun w5 k5 z5 b5 => ?_
    simp [-getElem?_pos, -Array.getElem?_eq_getElem, -Int.natCast_add, -op_st_188, -op_st_3, -op_st_91, -op_alloc_4, -op_lit_204_1, -op_lit_343_2]
    refine op_box_ok fun w6 k6 z6 b6 => ?_
    simp only [cells_agg] at b6
    have g4 : CFrm (fun y _ => y = b) w w4 := g3.trans (cell_frm k4 b3 b4 (by simp)) fun _ _ h _ => h
    have g56 := k5.no k6
    have b4' := g56.get b4 fun h => h
    have hl4 := lt_of_get b4
    refine op_store_ok (by kernel_rfl) b4' (by simp) rfl fun w7 k7 z7 b7 => ?_
    have n4 := g4.size
    refine hK w7 (own1 w5.heap.size w4.heap.size 0 1 2) (((g4.no g56).trans (cell_frm k7 b4' b7 (by simp)) fun _ _ h _ => h).mono fun _ _ h _ => .inr h) ⟨.iface 200 (ptr w5.heap.size), cv1, by simpa [rL, setR, toL, ptr] using b7, ?_, .inl hC⟩ fun y j hy => ?_
    · refine ⟨_, w4.heap.size, 0, 1, rfl, k7.get b6 (by omega), ?_, rfl⟩
      exact ⟨_, (k6.get b5 fun h => h) |> fun q => k7.get q (by omega), rfl, Nat.le_refl _, by simp, rfl, by decide⟩
    · rcases hy with rfl | ⟨rfl, _⟩
      · exact .inr (by omega)
      · exact .inr n4
  | some (h, t), h2, hok, r3 =>
    obtain ⟨o1, o2, o3, o4⟩ := hok
    have hr : RepC w3 h t rv F := r3
    obtain ⟨u, p, rfl⟩ := hr.rep.iface
    simp [-getElem?_pos, -Array.getElem?_eq_getElem, -Int.natCast_add, -op_st_188, -op_st_3, -op_st_91, -op_alloc_4, -op_lit_204_1, -op_lit_343_2, b3]
    refine op_alloc_ok (z := .bool false) (by kernel_rfl) fun w4 k4 z4 fl4 => ?_
    have hl3 := lt_of_get b3
    have b4 := k4.get b3 fun h => h
    simp [-getElem?_pos, -Array.getElem?_eq_getElem, -Int.natCast_add, -op_st_188, -op_st_3, -op_st_91, -op_alloc_4, -op_lit_204_1, -op_lit_343_2, b4]
    obtain ⟨g1, g2, g3', g4⟩ := setT_spec hl h t k x o1 o2
    have hl12 : (setT lt h t k x).length = 1 ∨ (setT lt h t k x).length = 2 := by have := List.length_pos_iff.2 g4; omega
    have n3 := g3.size
    refine setM_ok (rb := w3.heap.size) (r0 := false) hC (hr.still k4) o1 o2 fl4 fun w5 N k5 fl5 hO hN hsub => ?_
    have hb3r : b ≠ w3.heap.size := by omega
    have b5 := k5.get b4 fun j hj => hj.elim (hbF j) fun e => hb3r e
    have g5 : CFrm (fun y j => F y j ∨ y = b) w w5 := ((g3.no k4).mono fun _ _ h _ => .inr h).old k5 fun y j hy => hy.elim (fun h => .inl (.inl h)) fun e => .inr (by omega)
    rw [Bool.false_or] at fl5
    have hft : ∀ q ∈ N, ∀ y j, q.2.2 y j → F y j ∨ w.heap.size ≤ y := fun q hq y j hy => (hsub q hq y j hy).imp id fun h => by omega
    have n5 := g5.size
    obtain ⟨J, hJ⟩ : ∃ J : KV, ∀ e wl, J e wl ↔ Frm (fun _ => False) w5 wl ∧ ∃ F', RepRC wl (some (setR lt (some (h, t)) k x)) e F' ∧ ∀ y j, F' y j → F y j ∨ w.heap.size ≤ y := ⟨_, fun _ _ => Iff.rfl⟩
    obtain ⟨e1, e2, he, hcase⟩ : ∃ e1 e2, two (N.map (·.2.1)) = .tuple #[e1, e2] ∧ ((∃ s f, N = [(s, e1, f)] ∧ e2 = .nilIface) ∨ ∃ s f s2 f2, N = [(s, e1, f), (s2, e2, f2)]) := by
      rcases hl12 with h' | h'
      · obtain ⟨s, n, f, rfl, _⟩ := hO.one (by rw [← hN, List.length_map] at h'; exact h'); exact ⟨_, _, rfl, .inl ⟨s, f, rfl, rfl⟩⟩
      · obtain ⟨s, n, f, s2, n2, f2, rfl, _⟩ := hO.pair (by rw [← hN, List.length_map] at h'; exact h'); exact ⟨_, _, rfl, .inr ⟨s, f, s2, f2, rfl⟩⟩
    rw [he]
    simp [-getElem?_pos, -Array.getElem?_eq_getElem, -Int.natCast_add, -op_st_188, -op_st_3, -op_st_91, -op_alloc_4, -op_lit_204_1, -op_lit_343_2]
    refine Jn.intro J ⟨?_, ?_⟩
    · rcases hcase with ⟨s, f, rfl, rfl⟩ | ⟨s, f, s2, f2, rfl⟩
      · simp [-getElem?_pos, -Array.getElem?_eq_getElem, -Int.natCast_add, -op_st_188, -op_st_3, -op_st_91, -op_alloc_4, -op_lit_204_1, -op_lit_343_2]
        refine (hJ _ _).2 ⟨Frm.refl, f, ?_, hft (s, e1, f) (by simp)⟩
        rw [setR, ← hN]; exact hO.1 _ (List.mem_singleton.2 rfl)
      · have hn1 := hO.1 (s, e1, f) (by simp)
        have hn2 := hO.1 (s2, e2, f2) (by simp)
        obtain ⟨u1, p1, rfl⟩ := hn1.rep.iface
        obtain ⟨u2, p2, rfl⟩ := hn2.rep.iface
        simp [-getElem?_pos, -Array.getElem?_eq_getElem, -Int.natCast_add, -op_st_188, -op_st_3, -op_st_91, -op_alloc_4, -op_lit_204_1, -op_lit_343_2]
        refine op_lit_ok (lit_343_2 rfl rfl) fun w6 k6 z6 b6 => ?_
        refine newBr0_ok b6 (hn1.still k6).rep (hn2.still k6).rep (g2 s (by rw [← hN]; simp)) (g2 s2 (by rw [← hN]; simp)) fun w7 b' k7 hb' hb7 hg7 => ?_
        have hO7 := (hO.still k6).still k7
        have n6 := k6.size
        have hdj : ∀ q ∈ [(s, Value.iface u1 p1, f), (s2, Value.iface u2 p2, f2)], Disj (own1 b' w6.heap.size 0 2 2) q.2.2 := fun q hq y j hy hz => by
          have h1 := (hO.1 q hq).low y j hz
          rcases hy with rfl | ⟨rfl, _⟩ <;> omega
        refine (hJ _ _).2 ⟨k6.no k7, fun y j => own1 b' w6.heap.size 0 2 2 y j ∨ ∃ q ∈ [(s, Value.iface u1 p1, f), (s2, Value.iface u2 p2, f2)], q.2.2 y j, ?_, fun y j hy => ?_⟩
        · rw [setR, ← hN]
          exact ⟨b', w6.heap.size, 0, 2, [(s, Value.iface u1 p1, f), (s2, Value.iface u2 p2, f2)], rfl, hb7, rfl, hg7, hO7.1, hO7.2, hdj, rfl⟩
        · rcases hy with (rfl | ⟨rfl, _⟩) | ⟨q, hq, hy⟩
          · exact .inr (by omega)
          · exact .inr (by omega)
          · exact hft q hq y j hy
    · intro w6 rt hj
      obtain ⟨f6, F', hr6, hF'⟩ := (hJ _ _).1 hj
      have one6 := hr6.rep.one
      have g6 := g5.no f6
      have b6 := f6.get b5 fun h => h
      have fl6 := f6.get (show w5.heap[w3.heap.size]? = _ from fl5) fun h => h
      have hbF' := hr6.not b6 (by decide)
      simp [-getElem?_pos, -Array.getElem?_eq_getElem, -Int.natCast_add, -op_st_188, -op_st_3, -op_st_91, -op_alloc_4, -op_lit_204_1, -op_lit_343_2, b6]
      refine op_store_ok (by kernel_rfl) b6 (by simp) rfl fun w7 k7 z7 b7 => ?_
      have b7 : w7.heap[b]? = some (.cells #[.int .i64 (rL (some (h, t))).length, .iface u p, cv1] 190 (0, 0)) := by simpa using b7
      refine op_store_ok (by kernel_rfl) b7 (by simp) one6 fun w8 k8 z8 b8 => ?_
      have b8 : w8.heap[b]? = some (.cells #[.int .i64 (rL (some (h, t))).length, rt, cv1] 190 (0, 0)) := by simpa using b8
      have c68 : CFrm (fun y _ => y = b) w6 w8 := (cell_frm k7 b6 b7 rfl).trans (cell_frm k8 b7 b8 rfl) fun _ _ h _ => h
      have g8 : CFrm (fun y j => F y j ∨ y = b) w w8 := g6.trans c68 fun _ _ h _ => .inr h
      have fl8 := k8.get (k7.get fl6 (by omega)) (by omega)
      have hr8 := hr6.cframe c68 fun y j hy e => hbF' j (by rw [← e]; exact hy)
      have hlen : (rL (some (setR lt (some (h, t)) k x))).length = (rL (some (h, t))).length + if has lt (toL h t) k then 0 else 1 := by rw [hspec.1, hsz]; rfl
      simp [-getElem?_pos, -Array.getElem?_eq_getElem, -Int.natCast_add, -op_st_188, -op_st_3, -op_st_91, -op_alloc_4, -op_lit_204_1, -op_lit_343_2, fl8]
      cases hh : has lt (toL h t) k with
      | true =>
        simp [-getElem?_pos, -Array.getElem?_eq_getElem, -Int.natCast_add, -op_st_188, -op_st_3, -op_st_91, -op_alloc_4, -op_lit_204_1, -op_lit_343_2]
        rw [hh] at hlen
        refine hK w8 F' g8 ⟨rt, cv1, ?_, hr8, .inl hC⟩ hF'
        rw [hlen]; simpa using b8
      | false =>
        rw [hh] at hlen
        simp [-getElem?_pos, -Array.getElem?_eq_getElem, -Int.natCast_add, -op_st_188, -op_st_3, -op_st_91, -op_alloc_4, -op_lit_204_1, -op_lit_343_2, b8]
        refine op_store_ok (by kernel_rfl) b8 (by simp) rfl fun w9 k9 z9 b9 => ?_
        have hr9 := hr8.cframe (cell_frm k9 b8 b9 (by simp)) fun y j hy e => hbF' j (by rw [← e]; exact hy)
        refine hK w9 F' (g8.trans (cell_frm k9 b8 b9 (by simp)) fun _ _ h _ => .inr h) ⟨rt, cv1, ?_, hr9, .inl hC⟩ hF'
        rw [hlen]
        rw [show IntKind.i64.wrap (((rL (some (h, t))).length : Int) + 1) = (((rL (some (h, t))).length + 1 : Nat) : Int) from by rw [IntKind.wrap_i64]; omega] at b9
        simpa using b9
end Go.Proofs.YtodjijfblgnfmaaGreatDoor.T
end
section
namespace Go.Proofs.YtodjijfblgnfmaaGreatDoor
open Go.Vc Go.Proofs
variable {S : Sig} {a0 a1 a2 a3 a4 a5 a6 a7 a8 a9 : Value} {w : World} {K : KV} {Kp : KP}
private theorem follows_BVcOT : Tryz.prog.follows .mixedOrders = true := by kernel_rfl
def vc51 (S : Sig) (a0 a1 a2 : Value) (w : World) (K : KV) (Kp : KP) : Prop :=
 S.op (.box 88 a0) w (fun v3 w =>
 S.op (.mkMap 148 none) w (fun v10 w =>
 S.op (.blt .len [46] 3 [a2]) w (fun v12 w =>
 Lp fun (I3 : KV) (μ3 : Value → World → Nat) => I3 (.int .i64 0) w ∧
 ∀ (wl3 : World) (_ : Nat → Value) (s13 : Value), I3 s13 wl3 →
 S.op (.bin .lss 3 false false s13 v12) wl3 (fun v14 w =>
 Br v14 (
 S.op (.indexAddr 46 a2 s13) w (fun v15 w =>
 S.op (.load 49 v15) w (fun v16 w =>
 S.op (.alloc 49) w (fun v9 w =>
 S.op (.store 49 v9 v16) w (fun _ w =>
 S.pur (.fieldAddr 88 v3 0) (fun v18 =>
 S.ld (.load 84 v18) w.drew (fun v19 =>
 S.pur (.fieldAddr 49 v9 0) (fun v20 =>
 S.ld (.load 2 v20) w.drew (fun v21 =>
 S.pur (.fieldAddr 49 v9 1) (fun v22 =>
 S.ld (.load 9 v22) w.drew (fun v23 =>
 S.pur (.fieldAddr 49 v9 2) (fun v25 =>
 S.ld (.load 2 v25) w.drew (fun v26 =>
 S.call (.val v19) [v21, v23] w.drew (fun v24 w =>
 S.same (.load 2 v25) v26 w ∧
 S.op (.mapUpdate 148 v10 v24 v26) w (fun _ w =>
 S.op (.bin .add 3 false true s13 (.int .i64 1)) w (fun v27 w =>
 I3 v27 w ∧ μ3 v27 w < μ3 s13 wl3) Kp) Kp) Kp))))))))) Kp) Kp) Kp) Kp) (
 S.ld (.load 88 v3) w.drew (fun v28 =>
 S.call (.fn 93) [a1, v10] w.drew (fun v31 w =>
 S.same (.load 88 v3) v28 w ∧
 S.call (.fn 70) [v31] w (fun v32 w =>
 S.same (.load 88 v3) v28 w ∧
 S.call (.fn 69) [v28, v32] w (fun v33 w =>
 K v33 w) Kp) Kp) Kp))) Kp) Kp) Kp) Kp
theorem vc51_eq : vc51 S a0 a1 a2 w K Kp = fVC S [(3, [13])] [] Tryz.f51 [a0, a1, a2] w K Kp := by kernel_rfl
theorem vc51_calls (h : vc51 nP a0 a1 a2 w K Kp) : Calls Tryz.prog 51 #[a0, a1, a2] w (ret K Kp) :=
 fVC_sound (args := [a0, a1, a2]) nice_le follows_BVcOT Tryz.func51 (by kernel_rfl) (Eq.mp vc51_eq h)
def vc93 (S : Sig) (a0 a1 : Value) (w : World) (K : KV) (Kp : KP) : Prop :=
 S.op (.build 190 [(2, a0)]) w (fun v9 w =>
 S.op (.box 190 v9) w (fun v10 w =>
 S.op (.range 148 a1) w (fun v12 w =>
 Lp fun (I3 : World → Prop) (μ3 : World → Nat) => I3 w ∧
 ∀ (wl3 : World) (_ : Nat → Value), I3 wl3 →
 S.op (.next v12 false 0) wl3 (fun v13 w =>
 S.op (.extract v13 0) w (fun v14 w =>
 Br v14 (
 S.op (.entry v12) w (fun v15 w =>
 S.op (.extract v15 0) w (fun v16 w =>
 S.op (.extract v15 1) w (fun v17 w =>
 S.call (.fn 141) [v10, v16, v17, (.bool true)] w (fun v21 w =>
 I3 w ∧ μ3 w < μ3 wl3) Kp) Kp) Kp) Kp) (
 K v10 w)) Kp) Kp) Kp) Kp) Kp
theorem vc93_eq : vc93 S a0 a1 w K Kp = fVC S [(3, [])] [] Tryz.f93 [a0, a1] w K Kp := by kernel_rfl
theorem vc93_calls (h : vc93 nP a0 a1 w K Kp) : Calls Tryz.prog 93 #[a0, a1] w (ret K Kp) :=
 fVC_sound (args := [a0, a1]) nice_le follows_BVcOT Tryz.func93 (by kernel_rfl) (Eq.mp vc93_eq h)
end Go.Proofs.YtodjijfblgnfmaaGreatDoor
end
section
namespace Go.Proofs.YtodjijfblgnfmaaGreatDoor.T
open Go.Vc Go.Proofs Go.Proofs.YtodjijfblgnfmaaGreatDoor Go.Vc.Bt
variable {w w' : World} {cv : Value} {K : KV} {Kp : KP} {lt : Ky → Ky → Bool} {k : Ky} {b : Nat} {D : List (Ky × Vl)}
def kE : KeyEnc Tryz.prog 9 Ky where
  enc := ek
  desc := .string
  und := Tryz.underlying9
  same a b := by
    have := (keyStr (P := Tryz.prog) Tryz.underlying9).same a.1 b.1
    rw [decide_eq_decide.2 (Subtype.ext_iff (a1 := a) (a2 := b))]
    exact this
  bits a := (keyStr (P := Tryz.prog) Tryz.underlying9).bits a.1
  chk w e a := (keyStr (P := Tryz.prog) Tryz.underlying9).chk w e a.1
theorem cframe_iter {r : Nat} {p : Option Nat} {s c0 : Nat} {sn : Array Nat} (h : Frm (· = r) w w') (hr : w.heap[r]? = some (.mapIter p s sn c0)) : CFrm (fun y _ => y = r) w w' :=
  ⟨h.to fun b hb => ⟨0, hb⟩, fun b cs e hb => ⟨cs, h.get hb (fun he => by rw [he, hr] at hb; cases hb), rfl, fun _ _ => rfl⟩⟩
theorem perm_step {D P L : List (Ky × Vl)} {i : Nat} (h : D.Perm (P ++ L)) (hi : i < L.length) : D.Perm ((P ++ [L[i]]) ++ L.eraseIdx i) := by
  refine h.trans ?_
  rw [List.append_assoc]
  refine List.Perm.append_left P ?_
  have e : L = L.take i ++ L[i] :: L.drop (i + 1) := by rw [← List.drop_eq_getElem_cons hi, List.take_append_drop]
  rw [List.eraseIdx_eq_take_drop_succ]
  conv => lhs; rw [e]
  exact List.perm_middle
theorem newMapOf_ok (hl : Lin lt) (hc : CmpOk cv lt none) (hm : HasMap w kE.enc ev b D) (hn : D.length ≤ 2000)
    (hK : ∀ b' w', Frm (fun _ => False) w w' → Ver w' b' lt D.length (putAll lt [] D) → K (ptr b') w') : Calls Tryz.prog 93 #[cv, .map (some b)] w (ret K Kp) := by
  refine vc93_calls ?_
  delta vc93
  rw [op_build_190_2 hc.one]
  refine op_box_ok fun w1 k1 z1 b1 => ?_
  simp only [cells_agg] at b1
  have hm1 := hm.frame k1 fun h => h
  have hnd := hm.nodup
  have hblt := hm.lt
  have n1 := k1.size
  refine op_range Tryz.underlying148 hm1 fun w2 k2 z2 hr2 => ?_
  have k2 := k2 (M := fun _ => False)
  have n2 := k2.size
  have h0 : RepMC w2 w.heap.size lt none (fun _ _ => False) := ⟨.nilIface, cv, k2.get b1 fun h => h, ⟨rfl, rfl⟩, hc⟩
  obtain ⟨I, hI⟩ : ∃ I : World → Prop, ∀ wl, I wl ↔ ∃ (L P : List (Ky × Vl)) (r : Root Ky Vl) (F : Foot), Frm (fun _ => False) w wl ∧ w2.heap.size ≤ wl.heap.size ∧ Ranging wl kE.enc ev b D w1.heap.size L ∧ RepMC wl w.heap.size lt r F ∧ Ok lt P.length r ∧ rL r = putAll lt [] P ∧ D.Perm (P ++ L) ∧ ∀ y j, F y j → w2.heap.size ≤ y := ⟨_, fun _ => Iff.rfl⟩
  obtain ⟨μ, hμ⟩ : ∃ μ : World → Nat, ∀ wl L, Ranging wl kE.enc ev b D w1.heap.size L → μ wl = L.length := by
    refine ⟨fun wl => match wl.heap[w1.heap.size]? with
      | some (.mapIter (some m) since seen c0) => match wl.heap[m]? with
        | some (.map es clock) => (leftOf es seen).size
        | _ => 0
      | _ => 0, fun wl L hr => ?_⟩
    obtain ⟨es, clock, since, seen, c0, h1, h2, h3, h4, h5, h6⟩ := hr
    have := congrArg List.length h6
    simp only [h2, h1.heap]
    simpa using this
  refine Lp.intro I μ ⟨(hI _).2 ⟨D, [], none, _, k1.no k2, Nat.le_refl _, hr2, h0, trivial, rfl, List.Perm.refl _, fun _ _ h => h.elim⟩, ?_⟩
  intro wl _ hl'
  obtain ⟨L, P, r, F, kl, zl, hr, hV, hO, hrL, hp, hF⟩ := (hI _).1 hl'
  have hpl := hp.length_eq
  rw [List.length_append] at hpl
  refine op_next hr (fun hL => ?_) fun i hi w4 k4 z4 hr4 ht4 => ?_
  · subst hL
    try simp [-getElem?_pos, -Array.getElem?_eq_getElem, -Int.natCast_add]
    rw [List.append_nil] at hp
    refine hK _ wl kl ⟨r, hV.rep, by rw [hp.length_eq]; exact hO, ?_⟩
    rw [hrL]; exact (putAll_perm hl hnd hp).symm
  · try simp [-getElem?_pos, -Array.getElem?_eq_getElem, -Int.natCast_add]
    refine op_entry ht4 ?_
    try simp [-getElem?_pos, -Array.getElem?_eq_getElem, -Int.natCast_add]
    have hrc : ∃ p s sn c0, wl.heap[w1.heap.size]? = some (.mapIter p s sn c0) := by
      obtain ⟨es, clock, since, seen, c0, _, h2, _⟩ := hr
      exact ⟨_, _, _, _, h2⟩
    obtain ⟨p4, s4, sn4, c4, hrc⟩ := hrc
    have g4 := cframe_iter k4 hrc
    have hV4 : RepMC w4 w.heap.size lt r F := hV.cframe g4 (fun y j hy e => by have := hF y j hy; have e : y = w1.heap.size := e; omega) fun j e => by omega
    have hpa := putAll_len (lt := lt) P []
    simp only [List.length_nil] at hpa
    have hsp := setR_spec hl hO L[i].1 L[i].2
    refine mapSetM_ok (k := L[i].1) (x := L[i].2) hl hV4 hO (by rw [hrL]; omega) fun w5 F' g5 hV5 hF5 => ?_
    have n4 := k4.size
    have n5 := g5.size
    have hr5 : Ranging w5 kE.enc ev b D w1.heap.size (L.eraseIdx i) := hr4.frame g5.frm (fun ⟨j, h⟩ => h.elim (fun h => by have := hF _ _ h; omega) fun h => by omega) (fun ⟨j, h⟩ => h.elim (fun h => by have := hF _ _ h; omega) fun h => by omega)
    refine ⟨(hI _).2 ⟨_, P ++ [L[i]], _, F', (kl.old k4 fun c hc => .inr (by omega)).old g5.frm fun c ⟨j, h⟩ => .inr (h.elim (fun h => by have := hF _ _ h; omega) fun h => by omega), by omega, hr5, hV5, ?_, ?_, perm_step hp hi, fun y j hy => ?_⟩, ?_⟩
    · rw [List.length_append]; exact hsp.2
    · rw [hsp.1, hrL, putAll_snoc]
    · rcases hF5 y j hy with h | h
      · exact hF _ _ h
      · omega
    · rw [hμ _ _ hr5, hμ _ _ hr, List.length_eraseIdx_of_lt hi]; omega
end Go.Proofs.YtodjijfblgnfmaaGreatDoor.T
end
section
namespace Go.Proofs.YtodjijfblgnfmaaGreatDoor.T
open Go.Vc Go.Proofs Go.Proofs.YtodjijfblgnfmaaGreatDoor Go.Vc.Bt
variable {w w' : World} {cv : Value} {K : KV} {Kp : KP} {lt : Ky → Ky → Bool}
theorem upd_new {D : List (Ky × Vl)} {k : Ky} {v : Vl} (h : ((D ++ [(k, v)]).map (·.1)).Nodup) : Nd.upd D k v = D ++ [(k, v)] := by
  have : Nd.find D k = none := Nd.find_none.2 fun e he hk => by
    rw [List.map_append, List.nodup_append] at h
    exact h.2.2 e.1 (List.mem_map_of_mem he) k (by simp) hk
  unfold Nd.upd
  rw [this]
theorem sortedOf_ok {a1 : Option Addr} {c1 : Nat} {ps : List SPr} (hC : CmpOk cv lt none) (hl : Lin lt) (h1 : Row w a1 (ps.flatMap SPr.cells)) (ht : ∀ p ∈ ps, p.text.size ≤ 100) (hn : ps.length ≤ 1000) (hnd : ((ps.map kd.kv).map (·.1)).Nodup)
    (hK : ∀ pv w', Frm (fun _ => False) w w' → RowsOf (Flat SPr.cells) w' w.heap.size 49 3 pv (prs (putAll lt [] (ps.map kd.kv))) (fun _ => False) → K pv w') :
    Calls Tryz.prog 51 #[kdV, cv, .slice a1 ps.length c1] w (ret K Kp) := by
  refine vc51_calls ?_
  delta vc51
  refine op_box_ok fun w1 k1 z1 b1 => ?_
  simp only [kdV, cells_agg] at b1
  have hx3 : (#[.func (.func 75) #[] #[], .func (.func 76) #[] #[], .func (.func 78) #[] #[]] : Array Value).extract 0 3 = #[.func (.func 75) #[] #[], .func (.func 76) #[] #[], .func (.func 78) #[] #[]] := rfl
  refine op_mkMap ?_
  have k2 : Frm (fun _ => False) w1 (w1.alloc (.map #[] 0)) := Frm.alloc _ _
  have hm2 : HasMap (w1.alloc (.map #[] 0)) kE.enc ev w1.heap.size ([] : List (Ky × Vl)) := hasMap_new w1 _ _
  generalize hw2 : w1.alloc (.map #[] 0) = w2 at *
  have n1 := k1.size
  have hmlt := hm2.lt
  simp only [call_93]
  simp [-getElem?_pos, -Array.getElem?_eq_getElem, -Int.natCast_add, -op_alloc_49, -op_st_49]
  obtain ⟨I, hI⟩ : ∃ I : KV, ∀ v wl, I v wl ↔ ∃ i : Nat, v = .int .i64 i ∧ i ≤ ps.length ∧ Frm (fun _ => False) w1 wl ∧ w2.heap.size ≤ wl.heap.size ∧ HasMap wl kE.enc ev w1.heap.size ((ps.take i).map kd.kv) := ⟨_, fun _ _ => Iff.rfl⟩
  refine Lp.intro I (fun v _ => ps.length - nOf v) ⟨(hI _ _).2 ⟨0, rfl, by omega, k2, Nat.le_refl _, hm2⟩, ?_⟩
  intro wl v hv
  obtain ⟨i, rfl, hi, kl, zl, hm⟩ := (hI _ _).1 hv
  have k1l := k1.no kl
  have bKl := kl.get b1 fun h => h
  simp only [op_lss, Br_dec]
  refine ⟨fun hlt => ?_, fun hge => ?_⟩
  · have hi' : i < ps.length := by omega
    obtain ⟨b, o, cs, e, fz, rfl, q1, q2, q3⟩ := (h1.frame k1l fun _ _ h => h).part SPr.len (by decide) hi'
    have htp := ht _ (List.getElem_mem hi')
    simp [-getElem?_pos, -Array.getElem?_eq_getElem, -Int.natCast_add, -op_alloc_49, -op_st_49, q1, q2, q3]
    refine ⟨hi', ?_⟩
    refine op_alloc_ok (z := .agg #[.int .i64 0, .string ByteArray.empty, .int .i64 0]) (by kernel_rfl) fun w6 k6 z6 b6 => ?_
    simp only [cells_agg] at b6
    refine op_storeN_ok (n := 3) (by kernel_rfl) b6 rfl (by decide) (by simp [SPr.cells]) fun w7 k7 z7 b7 => ?_
    have b7 : w7.heap[wl.heap.size]? = some (.cells #[.int .i64 ps[i].key, .string ps[i].text, .int .i64 ps[i].val] 49 (0, 0)) := by
      rw [ow_all (by simp [SPr.cells])] at b7; exact b7
    have k67 : Frm (fun _ => False) wl w7 := k6.old k7 fun c hc => .inr (by omega)
    have bk := k67.get bKl fun h => h
    simp [-getElem?_pos, -Array.getElem?_eq_getElem, -Int.natCast_add, -op_alloc_49, -op_st_49, b7, bk, call_key]
    refine key_ok htp ?_
    try simp [-getElem?_pos, -Array.getElem?_eq_getElem, -Int.natCast_add, -op_alloc_49, -op_st_49, b7]
    have hmD : HasMap w7.drew kE.enc ev w1.heap.size ((ps.take i).map kd.kv) := hm.frame (k67.no (Frm.drew _)) fun h => h
    refine op_update (E := kE) (ev := ev) (k := kd.key ps[i].key ps[i].text) (v := ps[i].val) Tryz.underlying148 hmD fun w8 k8 z8 hm8 => ?_
    have hnd' : (((ps.take i).map kd.kv ++ [kd.kv ps[i]]).map (·.1)).Nodup := by
      have e : (ps.take i).map kd.kv ++ [kd.kv ps[i]] = (ps.map kd.kv).take (i + 1) := by rw [← List.map_take, List.take_succ_eq_append_getElem hi', List.map_append, List.map_singleton]
      rw [e, List.map_take]
      exact List.Sublist.nodup (List.take_sublist _ _) hnd
    try simp [-getElem?_pos, -Array.getElem?_eq_getElem, -Int.natCast_add, -op_alloc_49, -op_st_49]
    rw [show IntKind.i64.wrap ((i : Int) + 1) = ((i + 1 : Nat) : Int) from by rw [IntKind.wrap_i64]; omega]
    refine ⟨(hI _ _).2 ⟨i + 1, rfl, by omega, (kl.no (k67.no (Frm.drew _))).old k8 fun c hc => .inr (by omega), by have := k67.size; have : w7.drew.heap.size = w7.heap.size := rfl; omega, ?_⟩, by simp only [nOf_int]; omega⟩
    rw [List.take_succ_eq_append_getElem hi', List.map_append, List.map_singleton]
    rw [show Nd.upd ((ps.take i).map kd.kv) (kd.key ps[i].key ps[i].text) ps[i].val = (ps.take i).map kd.kv ++ [kd.kv ps[i]] from upd_new hnd'] at hm8
    exact hm8
  have hie : i = ps.length := by omega
  subst hie
  rw [List.take_length] at hm
  have hLn := putAll_len (lt := lt) (ps.map kd.kv) []
  simp only [List.length_map, List.length_nil] at hLn
  simp [-getElem?_pos, -Array.getElem?_eq_getElem, -Int.natCast_add, -op_alloc_49, -op_st_49, bKl, hx3]
  refine newMapOf_ok hl hC (hm.frame (Frm.drew (M := fun _ => False) _) fun h => h) (by rw [List.length_map]; omega) fun mb w5 k5 v5 => ?_
  rw [List.length_map] at v5
  generalize putAll lt [] (ps.map kd.kv) = L at *
  have k5 := Frm.dr k5
  have bK5 := k5.get bKl fun h => h
  simp [-getElem?_pos, -Array.getElem?_eq_getElem, -Int.natCast_add, -op_alloc_49, -op_st_49, bK5, hx3]
  refine ver_iter v5 (by omega) fun w6 ib k6 hib hA6 => ?_
  have bK6 := k6.get bK5 fun h => h
  simp [-getElem?_pos, -Array.getElem?_eq_getElem, -Int.natCast_add, -op_alloc_49, -op_st_49, bK6, hx3]
  refine pairsOf_ok hA6 (by omega) fun pv w7 k7 hR7 => ?_
  rw [restOf_zero] at hR7
  try simp [-getElem?_pos, -Array.getElem?_eq_getElem, -Int.natCast_add, -op_alloc_49, -op_st_49]
  have n5 := k5.size
  have n6 := k6.size
  have n1l := k1l.size
  exact hK pv w7 (((k1l.no k5).no k6).old k7 fun c hc => .inr (by omega)) (hR7.base_le (by omega))
end Go.Proofs.YtodjijfblgnfmaaGreatDoor.T
end
section
namespace Go.Proofs.YtodjijfblgnfmaaGreatDoor
open Go.Vc Go.Proofs
variable {S : Sig} {a0 a1 a2 a3 a4 a5 a6 a7 a8 a9 : Value} {w : World} {K : KV} {Kp : KP}
private theorem follows_BVcOC : Tryz.prog.follows .mixedOrders = true := by kernel_rfl
def vc27 (S : Sig) (a0 a1 a2 : Value) (w : World) (K : KV) (Kp : KP) : Prop :=
 S.op (.box 4 a0) w (fun v3 w =>
 S.op (.box 31 a1) w (fun v4 w =>
 S.op (.box 46 a2) w (fun v5 w =>
 S.op (.alloc 46) w (fun v6 w =>
 S.op (.mkFunc (Fn.func 50) [] [v3, v4, v5, v6]) w (fun v8 w =>
 S.call (.fn 37) [v8] w (fun v9 w =>
 S.op (.un .not v9) w (fun v10 w =>
 S.op (.un .not v10) w (fun v12 w =>
 Br v12 (
 S.op (.store 46 v6 (.slice none 0 0)) w (fun _ w =>
 S.ld (.load 46 v6) w (fun r0 =>
 K (.tuple #[r0, (.bool false)]) w)) Kp) (
 S.op (.load 46 v6) w (fun v13 w =>
 S.op (.store 46 v6 v13) w (fun _ w =>
 S.ld (.load 46 v6) w (fun r0 =>
 K (.tuple #[r0, (.bool true)]) w)) Kp) Kp)) Kp) Kp) Kp) Kp) Kp) Kp) Kp) Kp
theorem vc27_eq : vc27 S a0 a1 a2 w K Kp = fVC S [] [] Tryz.f27 [a0, a1, a2] w K Kp := by kernel_rfl
theorem vc27_calls (h : vc27 nP a0 a1 a2 w K Kp) : Calls Tryz.prog 27 #[a0, a1, a2] w (ret K Kp) :=
 fVC_sound (args := [a0, a1, a2]) nice_le follows_BVcOC Tryz.func27 (by kernel_rfl) (Eq.mp vc27_eq h)
def vc50 (S : Sig) (a0 a1 a2 a3 : Value) (w : World) (K : KV) (Kp : KP) : Prop :=
 S.op (.load 4 a0) w (fun v4 w =>
 Br v4 (
 S.ld (.load 31 a1) w.drew (fun v6 =>
 S.ld (.load 46 a2) w.drew (fun v8 =>
 S.call (.fn 40) [] w.drew (fun v5 w =>
 S.same (.load 46 a2) v8 w ∧
 S.same (.load 31 a1) v6 w ∧
 S.call (.fn 41) [v6] w (fun v7 w =>
 S.same (.load 46 a2) v8 w ∧
 S.call (.fn 51) [v5, v7, v8] w (fun v9 w =>
 S.op (.store 46 a3 v9) w (fun _ w =>
 K (.tuple #[]) w) Kp) Kp) Kp) Kp))) (
 S.ld (.load 31 a1) w.drew (fun v11 =>
 S.ld (.load 46 a2) w.drew (fun v13 =>
 S.call (.fn 43) [] w.drew (fun v10 w =>
 S.same (.load 46 a2) v13 w ∧
 S.same (.load 31 a1) v11 w ∧
 S.call (.fn 44) [v11] w (fun v12 w =>
 S.same (.load 46 a2) v13 w ∧
 S.call (.fn 52) [v10, v12, v13] w (fun v14 w =>
 S.op (.store 46 a3 v14) w (fun _ w =>
 K (.tuple #[]) w) Kp) Kp) Kp) Kp)))) Kp
theorem vc50_eq : vc50 S a0 a1 a2 a3 w K Kp = fVC S [] [] Tryz.f50 [a0, a1, a2, a3] w K Kp := by kernel_rfl
theorem vc50_calls (h : vc50 nP a0 a1 a2 a3 w K Kp) : Calls Tryz.prog 50 #[a0, a1, a2, a3] w (ret K Kp) :=
 fVC_sound (args := [a0, a1, a2, a3]) nice_le follows_BVcOC Tryz.func50 (by kernel_rfl) (Eq.mp vc50_eq h)
def vc8 (S : Sig) (a0 a1 a2 : Value) (w : World) (K : KV) (Kp : KP) : Prop :=
 S.op (.box 23 a1) w (fun v4 w =>
 S.call (.fn 19) [a2] w (fun v13 w =>
 S.op (.un .not v13) w (fun v14 w =>
 Br v14 (
 K (.bool true) w) (
 S.op (.load 23 v4) w (fun v15 w =>
 S.call (.fn 20) [v15, a2] w (fun v17 w =>
 S.op (.un .not v17) w (fun v18 w =>
 Br v18 (
 S.call (.fn 14) [] w (fun v29 w =>
 K v29 w) Kp) (
 S.op (.load 23 v4) w (fun v21 w =>
 S.call (.fn 21) [a0, v21, a2] w (fun v23 w =>
 S.op (.blt .len [38] 3 [v23]) w (fun v24 w =>
 S.op (.blt .len [38] 3 [a2]) w (fun v26 w =>
 S.op (.bin .neq 3 false false v24 v26) w (fun v27 w =>
 Br v27 (
 S.call (.fn 14) [] w (fun v29 w =>
 K v29 w) Kp) (
 S.ld (.load 23 v4) w.drew (fun v32 =>
 S.call (.fn 28) [a2] w.drew (fun v34 w =>
 S.same (.load 23 v4) v32 w ∧
 S.call (.fn 27) [a0, v32, v34] w (fun v35 w =>
 S.pur (.extract v35 0) (fun v36 =>
 S.pur (.extract v35 1) (fun v37 =>
 S.op (.load 23 v4) w (fun v40 w =>
 S.call (.fn 22) [a0, v40, a2] w (fun v42 w =>
 S.op (.extract v42 0) w (fun v43 w =>
 S.op (.extract v42 1) w (fun v44 w =>
 S.call (.fn 14) [] w (fun v45 w =>
 S.op (.un .not v45) w (fun v46 w =>
 Br v46 (
 K (.bool false) w) (
 S.op (.un .not v37) w (fun v49 w =>
 Br v49 (
 K (.bool false) w) (
 S.op (.un .not v44) w (fun v53 w =>
 Br v53 (
 K (.bool false) w) (
 S.op (.blt .len [46] 3 [v36]) w (fun v57 w =>
 S.op (.blt .len [46] 3 [v43]) w (fun v59 w =>
 S.op (.bin .neq 3 false false v57 v59) w (fun v60 w =>
 Br v60 (
 K (.bool false) w) (
 S.op (.blt .len [46] 3 [v36]) w (fun v63 w =>
 Lp fun (I10 : KV) (μ10 : Value → World → Nat) => I10 (.int .i64 0) w ∧
 ∀ (wl10 : World) (_ : Nat → Value) (s64 : Value), I10 s64 wl10 →
 S.op (.bin .lss 3 false false s64 v63) wl10 (fun v65 w =>
 Br v65 (
 S.pur (.indexAddr 46 v36 s64) (fun v69 =>
 S.ld (.load 49 v69) w.drew (fun v70 =>
 S.pur (.indexAddr 46 v43 s64) (fun v73 =>
 S.ld (.load 49 v73) w.drew (fun v74 =>
 S.pur (.bin .neq 49 false false v70 v74) (fun v75 =>
 Br v75 (
 K (.bool false) w.drew) (
 S.op (.bin .add 3 false true s64 (.int .i64 1)) w.drew (fun v76 w =>
 I10 v76 w ∧ μ10 v76 w < μ10 s64 wl10) Kp))))))) (
 K (.bool true) w)) Kp) Kp)) Kp) Kp) Kp)) Kp)) Kp)) Kp) Kp) Kp) Kp) Kp) Kp))) Kp) Kp))) Kp) Kp) Kp) Kp) Kp)) Kp) Kp) Kp)) Kp) Kp) Kp
theorem vc8_eq : vc8 S a0 a1 a2 w K Kp = fVC S [(10, [64])] [] Tryz.f8 [a0, a1, a2] w K Kp := by kernel_rfl
theorem vc8_calls (h : vc8 nP a0 a1 a2 w K Kp) : Calls Tryz.prog 8 #[a0, a1, a2] w (ret K Kp) :=
 fVC_sound (args := [a0, a1, a2]) nice_le follows_BVcOC Tryz.func8 (by kernel_rfl) (Eq.mp vc8_eq h)
end Go.Proofs.YtodjijfblgnfmaaGreatDoor
end
section
namespace Go.Proofs.YtodjijfblgnfmaaGreatDoor
open Go.Vc Go.Proofs
variable {S : Sig} {a0 a1 a2 a3 a4 a5 a6 a7 a8 a9 : Value} {w : World} {K : KV} {Kp : KP}
private theorem follows_BVcWC : Tryz.prog.follows .mixedOrders = true := by kernel_rfl
def vc28 (S : Sig) (a0 : Value) (w : World) (K : KV) (Kp : KP) : Prop :=
 S.op (.blt .len [38] 3 [a0]) w (fun v7 w =>
 Lp fun (I3 : Value → KV) (μ3 : Value → Value → World → Nat) => I3 (.slice none 0 0) (.int .i64 0) w ∧
 ∀ (wl3 : World) (_ : Nat → Value) (s3 : Value) (s8 : Value), I3 s3 s8 wl3 →
 S.op (.bin .lss 3 false false s8 v7) wl3 (fun v9 w =>
 Br v9 (
 S.op (.indexAddr 38 a0 s8) w (fun v10 w =>
 S.op (.load 45 v10) w (fun v11 w =>
 S.op (.alloc 45) w (fun v5 w =>
 S.op (.store 45 v5 v11) w (fun _ w =>
 S.op (.load 45 v5) w (fun v13 w =>
 S.op (.buildSlice 46 1 [(0, v13)]) w (fun v14 w =>
 S.op (.blt .append [46, 46] 46 [s3, v14]) w (fun v15 w =>
 S.op (.bin .add 3 false true s8 (.int .i64 1)) w (fun v16 w =>
 I3 v15 v16 w ∧ μ3 v15 v16 w < μ3 s3 s8 wl3) Kp) Kp) Kp) Kp) Kp) Kp) Kp) Kp) (
 K s3 w)) Kp) Kp
theorem vc28_eq : vc28 S a0 w K Kp = fVC S [(3, [3, 8])] [] Tryz.f28 [a0] w K Kp := by kernel_rfl
theorem vc28_calls (h : vc28 nP a0 w K Kp) : Calls Tryz.prog 28 #[a0] w (ret K Kp) :=
 fVC_sound (args := [a0]) nice_le follows_BVcWC Tryz.func28 (by kernel_rfl) (Eq.mp vc28_eq h)
end Go.Proofs.YtodjijfblgnfmaaGreatDoor
end
section
namespace Go.Proofs.YtodjijfblgnfmaaGreatDoor
open Go.Vc Go.Proofs Go.Vc.Bt
variable {w w' : World} {K : KV} {Kp : KP} {n : Int} {kn : Nat} {text : Bool} {a1 : Option Addr} {c1 : Nat} {ps : List SPr}
theorem toPairsOf_ok (h : Row w a1 (ps.flatMap SPr.cells)) (hn : ps.length ≤ 1000) (hK : ∀ l w', Frm (fun _ => False) w w' → RowsOf (Flat SPr.cells) w' w.heap.size 49 3 l ps (fun _ => False) → K l w') : Calls Tryz.prog 28 #[.slice a1 ps.length c1] w (ret K Kp) :=
  vc28_calls (conv_ok (f := SPr.cells) (k := 3) (e := 45) (z := .agg #[.int .i64 0, .string ByteArray.empty, .int .i64 0]) (bytes := 32) SPr.len (by decide) SPr.one (by kernel_rfl) (by kernel_rfl) (by kernel_rfl) (by kernel_rfl) rfl (by kernel_rfl) (fun _ => I.lit_sp _) h (by omega) hK)
theorem of1_ok {b0 b1 b2 b3 : Nat} {v3 : Value} (h1 : -9223372036854775808 ≤ n) (h2 : n ≤ 9223372036854775807) (hr : Row w a1 (ps.flatMap SPr.cells)) (ht : ∀ p ∈ ps, p.text.size ≤ 100) (hn : ps.length ≤ 1000) (hnd : (itemsOf text kn n ps).length = ps.length)
    (k0 : w.heap[b0]? = some (.cells #[.bool text] 4 (0, 0))) (k1 : w.heap[b1]? = some (.cells #[.int .u8 kn, .int .i64 n] 31 (0, 0))) (k2 : w.heap[b2]? = some (.cells #[.slice a1 ps.length c1] 46 (0, 0))) (k3 : w.heap[b3]? = some (.cells #[v3] 46 (0, 0)))
    (hK : ∀ l w', Frm (· = b3) w w' → w'.heap[b3]? = some (.cells #[l] 46 (0, 0)) → RowsOf (Flat SPr.cells) w' w.heap.size 49 3 l (itemsOf text kn n ps) (fun _ => False) → K (.tuple #[]) w') :
    Calls Tryz.prog 50 #[.pointer (some ⟨b0, 0, none⟩), .pointer (some ⟨b1, 0, none⟩), .pointer (some ⟨b2, 0, none⟩), .pointer (some ⟨b3, 0, none⟩)] w (ret K Kp) := by
  refine vc50_calls ?_
  delta vc50
  have hx : (#[.int .u8 kn, .int .i64 n] : Array Value).extract 0 2 = #[.int .u8 kn, .int .i64 n] := rfl
  have hfin : ∀ {l : Value} {w9 : World}, Frm (fun _ => False) w w9 → RowsOf (Flat SPr.cells) w9 w.heap.size 49 3 l (itemsOf text kn n ps) (fun _ => False) →
      nP.op (.store 46 (.pointer (some ⟨b3, 0, none⟩)) l) w9 (fun _ w => K (.tuple #[]) w) Kp := fun {l w9} k9 hR => by
    have hl3 := lt_of_get k3
    have hlow := hR.own_lt
    refine op_store_ok (by kernel_rfl) (k9.get k3 fun h => h) (by simp) hR.one fun w10 k10 z10 b10 => ?_
    exact hK l w10 (k9.fst k10) (by simpa using b10) (hR.frame (flat_ok _) k10 (fun c hc => hc.elim) fun b hb he => by have := (hlow b hb).1; omega)
  cases text with
  | true =>
    have hnd := (putAll_full T.ordI_lin (ps.map T.kd.kv) (L := []) List.Pairwise.nil (by simpa [itemsOf, prsOf] using hnd)).1
    simp [-getElem?_pos, -Array.getElem?_eq_getElem, -Int.natCast_add, -op_alloc_46, -op_st_46, k0, k1, k2, hx]
    refine T.keys_ok fun w4 f4 => ?_
    have f4 := Frm.dr f4
    have q1 := f4.get k1 fun h => h
    have q2 := f4.get k2 fun h => h
    simp [-getElem?_pos, -Array.getElem?_eq_getElem, -Int.natCast_add, -op_alloc_46, -op_st_46, q1, q2, hx]
    refine T.comparer_ok h1 h2 fun cv w5 f5 hc => ?_
    have r2 := f5.get q2 fun h => h
    have f45 := f4.no f5
    simp [-getElem?_pos, -Array.getElem?_eq_getElem, -Int.natCast_add, -op_alloc_46, -op_st_46, r2]
    refine T.sortedOf_ok hc T.ordI_lin (hr.frame f45 fun _ _ h => h) ht hn hnd fun l w6 f6 hR => ?_
    exact hfin (f45.no f6) (hR.base_le f45.size)
  | false =>
    have hnd := (putAll_full I.ordI_lin (ps.map I.kd.kv) (L := []) List.Pairwise.nil (by simpa [itemsOf, prsOf] using hnd)).1
    simp [-getElem?_pos, -Array.getElem?_eq_getElem, -Int.natCast_add, -op_alloc_46, -op_st_46, k0, k1, k2, hx]
    refine I.keys_ok fun w4 f4 => ?_
    have f4 := Frm.dr f4
    have q1 := f4.get k1 fun h => h
    have q2 := f4.get k2 fun h => h
    simp [-getElem?_pos, -Array.getElem?_eq_getElem, -Int.natCast_add, -op_alloc_46, -op_st_46, q1, q2, hx]
    refine I.comparer_ok h1 h2 fun cv w5 f5 hc => ?_
    have r2 := f5.get q2 fun h => h
    have f45 := f4.no f5
    simp [-getElem?_pos, -Array.getElem?_eq_getElem, -Int.natCast_add, -op_alloc_46, -op_st_46, r2]
    refine I.sortedOf_ok hc I.ordI_lin (hr.frame f45 fun _ _ h => h) ht hn hnd fun l w6 f6 hR => ?_
    exact hfin (f45.no f6) (hR.base_le f45.size)
theorem of_ok (h1 : -9223372036854775808 ≤ n) (h2 : n ≤ 9223372036854775807) (hr : Row w a1 (ps.flatMap SPr.cells)) (ht : ∀ p ∈ ps, p.text.size ≤ 100) (hn : ps.length ≤ 1000) (hnd : (itemsOf text kn n ps).length = ps.length)
    (hK : ∀ l w', Frm (fun _ => False) w w' → RowsOf (Flat SPr.cells) w' w.heap.size 49 3 l (itemsOf text kn n ps) (fun _ => False) → K (.tuple #[l, .bool true]) w') :
    Calls Tryz.prog 27 #[.bool text, orderV kn n, .slice a1 ps.length c1] w (ret K Kp) := by
  refine vc27_calls ?_
  delta vc27 orderV
  refine op_box_ok fun w1 k1 z1 b1 => op_box_ok fun w2 k2 z2 b2 => op_box_ok fun w3 k3 z3 b3 => ?_
  rw [cells_of_one (by rfl)] at b1 b3
  simp only [cells_agg] at b2
  refine op_alloc_ok (z := .slice none 0 0) (by kernel_rfl) fun w4 k4 z4 b4 => ?_
  rw [cells_of_one (by rfl)] at b4
  have k34 := k3.no k4
  have k24 := k2.no k34
  have k04 := k1.no k24
  have q1 := k24.get b1 fun h => h
  have q2 := k34.get b2 fun h => h
  have q3 := k4.get b3 fun h => h
  simp [-getElem?_pos, -Array.getElem?_eq_getElem, -Int.natCast_add, -op_alloc_46, -op_st_46]
  have k7 : Frm (fun _ => False) w4 (w4.alloc (.cells #[.bool false] 4)) := Frm.alloc _ _
  refine thrown_ok (x := #[]) (by kernel_rfl) ?_
  have k07 := k04.no k7
  rw [show ∀ a b c d : Value, (#[] ++ #[a, b, c, d] : Array Value) = #[a, b, c, d] from fun _ _ _ _ => rfl]
  refine of1_ok (text := text) (kn := kn) (n := n) (ps := ps) h1 h2 (hr.frame k07 fun _ _ h => h) ht hn hnd (k7.get q1 fun h => h) (k7.get q2 fun h => h) (k7.get q3 fun h => h) (k7.get b4 fun h => h) fun l w8 k8 b8 hR => ?_
  have n03 := ((k1.no k2).no k3).size
  have n4 := k4.size
  have hlow := hR.own_lt
  have hsz : (w4.alloc (.cells #[.bool false] 4)).heap.size = w4.heap.size + 1 := by simp
  refine ⟨k8.get hp_alloc_new (by omega), ?_⟩
  simp [-getElem?_pos, -Array.getElem?_eq_getElem, -Int.natCast_add, -op_alloc_46, -op_st_46, b8]
  refine op_store_ok (by kernel_rfl) b8 (by simp) hR.one fun w9 k9 z9 b9 => ?_
  have b9 : w9.heap[w3.heap.size]? = some (.cells #[l] 46 (0, 0)) := by simpa using b9
  have := hK l w9 ((k07.old k8 fun c hc => .inr (by omega)).old k9 fun c hc => .inr (by omega)) ((hR.frame (flat_ok _) k9 (fun c hc => hc.elim) fun b hb he => by have := (hlow b hb).1; omega).base_le (by omega))
  simp [-getElem?_pos, -Array.getElem?_eq_getElem, -Int.natCast_add, -op_alloc_46, -op_st_46, b9]
  exact this
end Go.Proofs.YtodjijfblgnfmaaGreatDoor
end
section
namespace Go.Proofs.YtodjijfblgnfmaaGreatDoor
open Go.Vc Go.Proofs Go.Vc.Bt
variable {w w' : World} {K : KV} {Kp : KP} {n : Int} {kn : Nat} {text : Bool} {a2 : Option Addr} {c2 : Nat} {ps : List SPr}
theorem law_of (h2 : Row w a2 (ps.flatMap SPr.cells)) (n1 : -9223372036854775808 ≤ n) (n2 : n ≤ 9223372036854775807) (hK : ∀ w', Frm (fun _ => False) w w' → K (.bool true) w') :
    Calls Tryz.prog 8 #[.bool text, orderV kn n, .slice a2 ps.length c2] w (ret K Kp) := by
  refine vc8_calls ?_
  delta vc8
  refine op_box_ok fun w1 k1 z1 b1 => ?_
  simp only [orderV, cells_agg] at b1
  have hx2 : (#[.int .u8 kn, .int .i64 n] : Array Value).extract 0 2 = #[.int .u8 kn, .int .i64 n] := rfl
  simp only [call_19]
  refine fits6_ok (h2.frame k1 fun _ _ h => h) fun b w3 k3 _ => ?_
  have k13 := k1.no k3
  cases b with
  | false =>
    simp only [op_not, Bool.not_false, Br_true]
    exact hK w3 k13
  | true =>
  have b13 := k3.get b1 fun h => h
  simp [-getElem?_pos, -Array.getElem?_eq_getElem, -Int.natCast_add, b13, hx2]
  refine pairsRight_ok (kn := kn) (n := n) (h2.frame k13 fun _ _ h => h) fun b w5 k5 hb => ?_
  have k15 := k13.no k5
  have b15 := k5.get b13 fun h => h
  cases b with
  | false =>
    simp [-getElem?_pos, -Array.getElem?_eq_getElem, -Int.natCast_add, add_spot, and_assoc, Br_dec]
    exact awake_ok fun w6 k6 => hK w6 (k15.no k6)
  | true =>
  obtain ⟨hR, hn, ht⟩ := hb rfl
  simp [-getElem?_pos, -Array.getElem?_eq_getElem, -Int.natCast_add, b15, hx2]
  refine sortedPairs_ok (text := text) hR (h2.frame k15 fun _ _ h => h) hn ht fun l6 w6 k6 hl6 => ?_
  have k16 := k15.no k6
  have b16 := k6.get b15 fun h => h
  obtain ⟨a6, c6, rfl, _⟩ := hl6.slice
  simp [-getElem?_pos, -Array.getElem?_eq_getElem, -Int.natCast_add, add_spot, and_assoc, Br_dec]
  refine ⟨fun _ => awake_ok fun w7 k7 => hK w7 (k16.no k7), fun hlen => ?_⟩
  have hlen : (itemsOf text kn n ps).length = ps.length := by omega
  simp [-getElem?_pos, -Array.getElem?_eq_getElem, -Int.natCast_add, b16, hx2]
  refine toPairsOf_ok ((h2.frame k16 fun _ _ h => h).frame (Frm.drew (M := fun _ => False) _) fun _ _ h => h) hn fun l7 w7 k7 hR7 => ?_
  have k7 := Frm.dr k7
  have k17 := k16.no k7
  have b17 := k7.get b16 fun h => h
  obtain ⟨a7, c7, rfl, _, _, hr7, _⟩ := hR7.flat
  simp [-getElem?_pos, -Array.getElem?_eq_getElem, -Int.natCast_add, b17, hx2]
  refine of_ok (text := text) (kn := kn) (n := n) n1 n2 hr7 ht hn hlen fun l8 w8 k8 hR8 => ?_
  have k18 := k17.no k8
  have b18 := k8.get b17 fun h => h
  simp [-getElem?_pos, -Array.getElem?_eq_getElem, -Int.natCast_add, b18, hx2]
  refine sortedItems_ok (kn := kn) (n := n) n1 n2 (h2.frame k18 fun _ _ h => h) hn ht fun v9 w9 k9 hv9 => ?_
  have k19 := k18.no k9
  simp only [op_ext2_0, op_ext2_1]
  refine awake_ok fun w10 k10 => ?_
  have k110 := k19.no k10
  have hx8 := (hR8.flat.still k9).still k10
  have hx9 := hv9.still k10
  generalize itemsOf text kn n ps = xs at *
  obtain ⟨a8, c8, rfl, _⟩ := id hx8
  obtain ⟨a9, c9, rfl, _⟩ := id hx9
  simp only [op_not, Bool.not_true, Br_false]
  rw [op_len_slice (by kernel_rfl), op_len_slice (by kernel_rfl), op_neq, decide_eq_true rfl, Bool.not_true, Br_false]
  have hS := sameLoop (P := Tryz.prog) (K := K) (Kp := Kp) (t1 := 46) (t2 := 46) (e1 := 49) (e2 := 49) (t3 := 49) (by kernel_rfl) (by kernel_rfl) (by kernel_rfl) (by kernel_rfl) (by kernel_rfl) (by kernel_rfl) (by kernel_rfl) hx8 hx9 (by omega) fun w11 k11 => hK w11 (k110.no k11)
  simp only [forall_const] at hS
  exact hS
end Go.Proofs.YtodjijfblgnfmaaGreatDoor
end
