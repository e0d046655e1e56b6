import Derived.Test.YtodjijfblgnfmaaGreatDoorU1
import Derived.Test.YtodjijfblgnfmaaGreatDoorU0
import Derived.Lib.Bytealg
import Derived.Lib.Strings
import Derived.Laws.StructEq
import Derived.Lib.ItoaNum
set_option linter.unusedSimpArgs false
set_option linter.unusedVariables false
set_option linter.unusedSectionVars false
set_option maxRecDepth 100000
set_option maxHeartbeats 4000000
section
namespace Go.Proofs.YtodjijfblgnfmaaGreatDoor.I
open Go.Vc Go.Proofs Go.Proofs.YtodjijfblgnfmaaGreatDoor Go.Vc.Bt
variable {w w' : World} {v cv : Value} {t : Tr} {K : KV} {Kp : KP} {lt : Ky → Ky → Bool} {k : Ky} {x : Vl} {rb : Nat} {r0 : Bool} {b g o c h : Nat} {es : List (Ky × Vl)}
def flag (w : World) (rb : Nat) (b : Bool) : Prop := w.heap[rb]? = some (.cells #[.bool b] 4 (0, 0))
theorem flag.frame {M : Nat → Prop} {b : Bool} (h : flag w rb b) (hf : Frm M w w') (hM : ¬ M rb) : flag w' rb b := hf.get h hM
theorem raise_ok {b : Bool} (h : flag w rb b) (hK : ∀ w', Frm (· = rb) w w' → w'.heap.size = w.heap.size → flag w' rb true → K undef w') : nP.op (.store 4 (.pointer (some ⟨rb, 0, none⟩)) (.bool true)) w K Kp :=
  op_store_ok (by kernel_rfl) h (by simp) rfl fun w' hf hs hb => hK w' hf hs (by simpa [flag] using hb)
theorem flag.below {b : Bool} (h : flag w rb b) : rb < w.heap.size := lt_of_get h
theorem flag.typed {b : Bool} {cs : Array Value} {e : TypeId} {fz : Nat × Nat} {q : Nat} (h : flag w rb b) (hq : w.heap[q]? = some (.cells cs e fz)) (he : e ≠ 4) : q ≠ rb := fun e' => by
  subst e'
  unfold flag at h
  rw [h] at hq
  cases hq
  exact he rfl
theorem Sg.past {b : Bool} {e : TypeId} {s g o n c : Nat} {xs : List Value} (h : Sg w e s g o n c xs) (hfl : flag w rb b) (he : e ≠ 4) (hf : Frm (· = rb) w w') : Sg w' e s g o n c xs := by
  obtain ⟨cs, h1, h2⟩ := id h
  exact h.frame hf (hfl.typed h1 he)
theorem Rep.past {b : Bool} : ∀ {h : Nat} {t : Tr} {v : Value}, Rep w h t v → flag w rb b → Frm (· = rb) w w' → Rep w' h t v
  | 0, .leaf es, v, hr, hfl, hf => by
    obtain ⟨b, g, o, c, h1, h2, h3⟩ := hr
    exact ⟨b, g, o, c, h1, hf.get h2 (hfl.typed h2 (by decide)), Sg.past h3 hfl (by decide) hf⟩
  | h + 1, .br ks, v, hr, hfl, hf => by
    obtain ⟨b, g, o, c, ps, h1, h2, h3, h4, h5⟩ := hr
    exact ⟨b, g, o, c, ps, h1, hf.get h2 (hfl.typed h2 (by decide)), h3, Sg.past h4 hfl (by decide) hf, fun p hp => (h5 p hp).past hfl hf⟩
  | 0, .br ks, v, hr, hfl, hf => hr.elim
  | h + 1, .leaf es, v, hr, hfl, hf => hr.elim
def Reps (w : World) (h : Nat) : List Tr → List Value → Prop
  | [], [] => True
  | t :: ts, v :: vs => Rep w h t v ∧ Reps w h ts vs
  | _, _ => False
def two : List Value → Value
  | [a] => .tuple #[a, .nilIface]
  | [a, b] => .tuple #[a, b]
  | _ => .nilIface
theorem apE : apOf Tryz.prog 224 = some (223, 2, 16) := by kernel_rfl
theorem ents_take (es : List (Ky × Vl)) (i : Nat) : ents (es.take i) = (ents es).take (i * 2) := fm_take ent_len es i
theorem ents_drop (es : List (Ky × Vl)) (i : Nat) : ents (es.drop i) = (ents es).drop (i * 2) := fm_drop ent_len es i
theorem split_one {α : Type} {l : List α} (h : l.length ≤ 32) : split l = [l] := by unfold Bt.split; rw [if_neg (by omega)]
theorem split_two {α : Type} {l : List α} (h : l.length = 33) : split l = [l.take 16, l.drop 16] := by unfold Bt.split; rw [if_pos (by omega), h]
theorem op_storeE {o : Nat} {zs : List Value} {cap : Nat} (hr : Rw w 223 2 g cap zs) (ho : o + 2 ≤ zs.length) (hK : ∀ w', Frm (· = g) w w' → w'.heap.size = w.heap.size → Rw w' 223 2 g cap (lw zs o (ent (k, x))) → K undef w') : nP.op (.store 223 (.pointer (some ⟨g, o, none⟩)) (.agg #[ek k, ev x])) w K Kp :=
  op_storeRN (n := 2) (by kernel_rfl) rfl hr ho (fun u hu => by simp only [List.mem_toArray, List.mem_cons, List.not_mem_nil, or_false] at hu; rcases hu with rfl | rfl <;> rfl) hK
@[simp] theorem op_ent (a : Ky) (c : Vl) {w : World} {K : KV} {Kp : KP} : nP.op (.build 223 [(0, ek a), (1, ev c)]) w K Kp = K (.agg #[ek a, ev c]) w := op_build_223_0_1 (one_ek a) (one_ev c)
theorem leafSet_ok (hC : IsC cv lt) (hr : Rep w 0 (.leaf es) v) (hw : WF 0 (.leaf es)) (hs : Sd lt es) (hfl : flag w rb r0)
    (hK : ∀ w' ns, Frm (· = rb) w w' → flag w' rb (r0 || !has lt es k) → Reps w' 0 ((split (Bt.put lt es k x)).map .leaf) ns → K (two ns) w') :
    nP.call (.inv v "pub-bracken/pub/immutable.set") [ek k, ev x, cv, .bool false, .pointer (some ⟨rb, 0, none⟩)] w K Kp := by
  obtain ⟨h1, h2⟩ : es ≠ [] ∧ es.length ≤ 32 := hw
  obtain ⟨b, g, o, c, rfl, hb, hg⟩ := hr
  simp only [inv_220_249]
  refine vc249_calls ?_
  delta vc249
  simp only [call_247]
  refine leafIdx_ok hC hs (by omega) hb hg fun w1 f1 => ?_
  have hb1 := f1.get hb fun h => h
  have hg1 := hg.still f1
  have hfl1 := hfl.frame f1 fun h => h
  have hp := place_le (lt := lt) es k
  obtain ⟨J, hJ⟩ : ∃ J : KV, ∀ e wl, J e wl ↔ e = .bool (has lt es k) ∧ Frm (fun _ => False) w wl := ⟨_, fun _ _ => Iff.rfl⟩
  refine Jn.intro J ⟨?_, ?_⟩
  · simp [-getElem?_pos, -Array.getElem?_eq_getElem, -Int.natCast_add, -op_st_4, -op_st_223, ptr, hb1]
    refine ⟨fun hlt => ?_, fun hge => (hJ _ _).2 ⟨?_, Frm.no f1 (Frm.drew _)⟩⟩
    · have hlt' : place lt es k < es.length := by omega
      obtain ⟨cur, hcur, hk⟩ := leafKey hg1
      have hki := hk _ hlt'
      simp [-getElem?_pos, -Array.getElem?_eq_getElem, -Int.natCast_add, -op_st_4, -op_st_223, hcur, hki, hC.nilC]
      refine ⟨hlt', hC.cmp fun w2 f2 => ?_⟩
      simp [-getElem?_pos, -Array.getElem?_eq_getElem, -Int.natCast_add, -op_st_4, -op_st_223]
      refine (hJ _ _).2 ⟨?_, Frm.no f1 (Frm.dr f2)⟩
      have hz : Bt.cmp lt es[place lt es k].1 k = 0 ↔ es[place lt es k].1 = k := cmp_zero hC.lin
      unfold has
      rw [List.getElem?_eq_getElem hlt']
      simp [hz]
    · unfold has
      rw [List.getElem?_eq_none (by omega)]
  · intro w3 junk j hj
    obtain ⟨rfl, f3⟩ := (hJ _ _).1 hj
    have hb3 := f3.get hb fun h => h
    have hg3 := hg.still f3
    have hfl3 := hfl.frame f3 fun h => h
    clear hb1 hg1 hfl1 f1
    simp only [Br_false]
    obtain ⟨J, hJ⟩ : ∃ J : KV, ∀ e wl, J e wl ↔ ∃ q, e = .slice (some ⟨q, 0, none⟩) (Bt.put lt es k x).length (Bt.put lt es k x).length ∧ Rw wl 223 2 q (Bt.put lt es k x).length (ents (Bt.put lt es k x)) ∧ Frm (· = rb) w wl ∧ flag wl rb (r0 || !has lt es k) := ⟨_, fun _ _ => Iff.rfl⟩
    refine Jn.intro J ⟨?_, ?_⟩
    · have hpl := put_len (lt := lt) (L := es) (k := k) (v := x)
      cases hh : has lt es k with
      | true =>
        have hlt := has_lt hh
        rw [hh] at hpl
        simp only [hh, Bool.not_true, Bool.or_false] at hJ
        have hpl : (Bt.put lt es k x).length = es.length := by rw [hpl]; rfl
        have hpe : ents (Bt.put lt es k x) = lw (ents es) (place lt es k * 2) (ent (k, x)) := by
          unfold Bt.put; rw [hh]; exact fm_set ent_len hlt
        simp only [Br_true]
        simp [-getElem?_pos, -Array.getElem?_eq_getElem, -Int.natCast_add, -op_st_4, -op_st_223, ptr, hb3]
        refine op_make_ok apE rfl (by omega) fun w4 zs k4 z4 hz r4 => ?_
        have hb4 := k4.get hb3 fun h => h
        have hg4 := hg3.still k4
        simp [-getElem?_pos, -Array.getElem?_eq_getElem, -Int.natCast_add, -op_st_4, -op_st_223, ptr, hb4]
        refine op_copySg (n := es.length) (i := 0) (i1 := 0) (c1 := es.length) (by kernel_rfl) r4 hg4 partAt_zero.symm partAt_zero.symm rfl (by omega) (by omega) (by omega) (by rw [hz]; omega) (fun v hv => ents_one v hv) fun w5 k5 z5 r5 => ?_
        have e5 : lw zs (0 * 2) (((ents es).drop (0 * 2)).take (es.length * 2)) = ents es := by
          have hel := ents_len es
          rw [Nat.zero_mul, List.drop_zero, List.take_of_length_le (by omega)]
          unfold lw
          rw [List.take_zero, List.drop_of_length_le (by omega)]; simp
        rw [e5] at r5
        try simp [-getElem?_pos, -Array.getElem?_eq_getElem, -Int.natCast_add, -op_st_4, -op_st_223]
        refine ⟨hlt, op_storeE r5 (by rw [ents_len]; have := Nat.mul_le_mul_right 2 hlt; omega) fun w6 k6 z6 r6 => ?_⟩
        have f4 := f3.no k4
        have f5 := f4.old k5 fun b hb => .inr (by have := f3.size; omega)
        have f6 := f5.old k6 fun b hb => .inr (by have := f3.size; omega)
        refine (hJ _ _).2 ⟨_, by rw [hpl], by rw [hpe, hpl]; exact r6, f6.to fun _ h => h.elim, hfl.frame f6 fun h => h⟩
      | false =>
        rw [hh] at hpl
        simp only [hh, Bool.not_false, Bool.or_true] at hJ
        have hpl : (Bt.put lt es k x).length = es.length + 1 := by rw [hpl]; rfl
        have hpe : ents (Bt.put lt es k x) = (ents es).take (place lt es k * 2) ++ (ent (k, x) ++ (ents es).drop (place lt es k * 2)) := by
          unfold Bt.put; rw [hh]; exact fm_ins ent_len
        have hel := ents_len es
        have hpm : place lt es k * 2 ≤ es.length * 2 := Nat.mul_le_mul_right _ hp
        generalize place lt es k = p at *
        have ewl : IntKind.i64.wrap ((es.length : Int) + 1) = ((es.length + 1 : Nat) : Int) := by rw [IntKind.wrap_i64]; omega
        have ewp : IntKind.i64.wrap ((p : Int) + 1) = ((p + 1 : Nat) : Int) := by rw [IntKind.wrap_i64]; omega
        simp only [Br_false]
        simp [-getElem?_pos, -Array.getElem?_eq_getElem, -Int.natCast_add, -op_st_4, -op_st_223]
        refine raise_ok hfl3 fun w4 k4 z4 fl4 => ?_
        have hb4 := k4.get hb3 (hfl3.typed hb3 (by decide))
        have hg4 := Sg.past hg3 hfl3 (by decide) k4
        simp [-getElem?_pos, -Array.getElem?_eq_getElem, -Int.natCast_add, -op_st_4, -op_st_223, ptr, hb4, ewl]
        refine op_make_ok apE rfl (by omega) fun w5 zs k5 z5 hz r5 => ?_
        have hb5 := k5.get hb4 fun h => h
        have hg5 := hg4.still k5
        simp [-getElem?_pos, -Array.getElem?_eq_getElem, -Int.natCast_add, -op_st_4, -op_st_223, ptr, hb5, ewp]
        have hcl := hg5.le
        refine ⟨by omega, by omega, ?_⟩
        refine op_copySg (n := p) (i := 0) (i1 := 0) (c1 := es.length + 1) (by kernel_rfl) r5.drew ((hg5.hi (i := p) hp).still (Frm.drew _)) partAt_zero.symm partAt_zero.symm rfl (by omega) (by omega) (by omega) (by rw [hz, Nat.succ_mul]; omega) (fun v hv => ents_one v (List.mem_of_mem_take hv)) fun w6 k6 z6 r6 => ?_
        rw [show lw zs (0 * 2) ((((ents es).take (p * 2)).drop (0 * 2)).take (p * 2)) = lw zs 0 ((ents es).take (p * 2)) from by rw [Nat.zero_mul, List.drop_zero, List.take_take, Nat.min_self]] at r6
        have hzl : (lw zs 0 ((ents es).take (p * 2))).length = zs.length := lw_len (by simp; omega)
        try simp [-getElem?_pos, -Array.getElem?_eq_getElem, -Int.natCast_add, -op_st_4, -op_st_223]
        refine ⟨by omega, op_storeE r6 (by rw [hzl, hz, Nat.succ_mul]; omega) fun w7 k7 z7 r7 => ?_⟩
        have f5 := k4.old k5 fun b hb => .inl hb.elim
        have f6 := (f5.old (Frm.dr k6) fun b hb => .inr (by subst hb; omega))
        have f7 := f6.old k7 fun b hb => .inr (by subst hb; omega)
        have hb7 := f7.get hb3 (hfl3.typed hb3 (by decide))
        have hg7 := Sg.past hg3 hfl3 (by decide) f7
        simp [-getElem?_pos, -Array.getElem?_eq_getElem, -Int.natCast_add, -op_st_4, -op_st_223, hb7]
        refine ⟨hp, hcl, ?_⟩
        refine op_copySg (n := es.length - p) (i := p) (i1 := p + 1) (c1 := es.length + 1) (by kernel_rfl) r7.drew (hg7.still (Frm.drew _)) partAt_suc rfl rfl (by omega) (by omega) (by omega) (by rw [lw_len (by rw [hzl, hz, Nat.succ_mul, ent_len]; omega), hzl, hz, ← Nat.add_mul]; exact Nat.mul_le_mul_right _ (by omega)) (fun v hv => ents_one v hv) fun w8 k8 z8 r8 => ?_
        have e8 : lw (lw (lw zs 0 ((ents es).take (p * 2))) (p * 2) (ent (k, x))) ((p + 1) * 2) (((ents es).drop (p * 2)).take ((es.length - p) * 2)) = ents (Bt.put lt es k x) := by
          rw [hpe, List.take_of_length_le (l := (ents es).drop (p * 2)) (by rw [List.length_drop, hel, Nat.sub_mul]; exact Nat.le_refl _)]
          have := ins_row (A := ents es) (zs := zs) (e := ent (k, x)) (r := p * 2) (by omega) (by rw [hz, hel, ent_len, Nat.succ_mul])
          rw [ent_len] at this
          rw [Nat.succ_mul]; exact this
        rw [e8] at r8
        have f8 := f7.old (Frm.dr k8) fun b hb => .inr (by subst hb; omega)
        refine (hJ _ _).2 ⟨_, by rw [hpl], by rw [hpl]; exact r8, (f3.to fun _ h => h.elim).old f8 fun _ h => .inl h, ?_⟩
        exact (((fl4.frame k5 fun h => h).frame (Frm.dr k6) (by have := hfl3.below; omega)).frame k7 (by have := hfl3.below; omega)).frame (Frm.dr k8) (by have := hfl3.below; omega)
    · intro w7 junk v hv
      obtain ⟨q, rfl, hr, hf7, hfl7⟩ := (hJ _ _).1 hv
      have h33 : (Bt.put lt es k x).length ≤ 33 := by rw [put_len]; split <;> omega
      have hKK : ∀ w' ns, Frm (fun _ => False) w7 w' → Reps w' 0 ((split (Bt.put lt es k x)).map .leaf) ns → K (two ns) w' := fun w' ns hf hrs => hK w' ns (hf7.old hf fun _ h => h.elim) (hfl7.frame hf fun h => h) hrs
      clear hJ hv hK
      generalize Bt.put lt es k x = es at *
      have hsg := hr.sg (ents_len es) (Nat.le_refl _)
      simp [-getElem?_pos, -Array.getElem?_eq_getElem, -Int.natCast_add, -op_st_4, -op_st_223]
      refine ⟨fun hgt => ?_, fun hle => ?_⟩
      · have e33 : es.length = 33 := by omega
        rw [split_two e33] at hKK
        rw [e33] at hsg ⊢
        have a1 := Sg.mx (i := 16) hsg (by omega)
        have a2 := Sg.lo (i := 16) hsg (by omega)
        have e16 : IntKind.i64.wrap 16 = 16 := by rw [IntKind.wrap_i64]; rfl
        simp [-getElem?_pos, -Array.getElem?_eq_getElem, -Int.natCast_add, -op_st_4, -op_st_223, e16]
        refine op_box_ok fun w1 k1 z1 b1 => ?_
        try simp [-getElem?_pos, -Array.getElem?_eq_getElem, -Int.natCast_add, -op_st_4, -op_st_223, e16]
        refine op_box_ok fun w2 k2 z2 b2 => ?_
        try simp [-getElem?_pos, -Array.getElem?_eq_getElem, -Int.natCast_add, -op_st_4, -op_st_223, e16]
        have c1 := k2.get b1 fun h => h
        have f2 := Frm.no k1 k2
        refine hKK w2 [.iface 220 (ptr w7.heap.size), .iface 220 (ptr w1.heap.size)] f2 ⟨⟨_, q, 0, 16, rfl, ?_, ?_⟩, ⟨_, q, 16 * 2, 17, rfl, ?_, ?_⟩, trivial⟩
        · simpa [cells_agg, e33] using c1
        · have := a1.still f2
          rw [← ents_take] at this
          have e : (es.take 16).length = 16 := by simp [e33]
          rw [e]; exact this
        · simpa [cells_agg, e33] using b2
        · have := a2.still f2
          rw [← ents_drop] at this
          have e : (es.drop 16).length = 17 := by simp [e33]
          rw [e]; simpa using this
      · rw [split_one (by omega)] at hKK
        refine op_box_ok fun w1 k1 z1 b1 => ?_
        exact hKK w1 [.iface 220 (ptr w7.heap.size)] k1 ⟨⟨_, q, 0, es.length, rfl, by simpa [cells_agg] using b1, hsg.still k1⟩, trivial⟩
end Go.Proofs.YtodjijfblgnfmaaGreatDoor.I
end
section
namespace Go.Proofs.YtodjijfblgnfmaaGreatDoor.I
open Go.Vc Go.Proofs Go.Proofs.YtodjijfblgnfmaaGreatDoor Go.Vc.Bt
variable {w w' : World} {v cv : Value} {t : Tr} {K : KV} {Kp : KP} {lt : Ky → Ky → Bool} {k : Ky} {x : Vl} {rb : Nat} {r0 : Bool} {b g o c h : Nat} {ks : List Tr}
theorem apX : apOf Tryz.prog 282 = some (286, 2, 24) := by kernel_rfl
theorem Rep.iface : ∀ {h : Nat} {t : Tr} {v : Value}, Rep w h t v → ∃ u p, v = .iface u p
  | 0, .leaf es, v, ⟨b, g, o, c, h1, h2⟩ => ⟨_, _, h1⟩
  | h + 1, .br ks, v, ⟨b, g, o, c, ps, h1, h2⟩ => ⟨_, _, h1⟩
  | 0, .br ks, v, hr => hr.elim
  | h + 1, .leaf es, v, hr => hr.elim
theorem els_one {ps : List (Tr × Value)} (hp : ∀ p ∈ ps, Rep w h p.1 p.2) : ∀ u ∈ els h ps, u.oneCell' = true := fun u hu => by
  obtain ⟨p, hp', he⟩ := List.mem_flatMap.1 hu
  simp only [el, List.mem_cons, List.not_mem_nil, or_false] at he
  rcases he with rfl | rfl
  · cases fstK h p.1 with
    | none => rfl
    | some m => rfl
  · obtain ⟨a, q, hq⟩ := (hp p hp').iface
    rw [hq]; rfl
theorem el_of {s : Tr} {n : Value} {m : Ky} (h1 : fstK h s = some m) : el h (s, n) = [ek m, n] := by unfold el; rw [h1]; rfl
theorem els_take (ps : List (Tr × Value)) (i : Nat) : els h (ps.take i) = (els h ps).take (i * 2) := fm_take (el_len h) ps i
theorem els_drop (ps : List (Tr × Value)) (i : Nat) : els h (ps.drop i) = (els h ps).drop (i * 2) := fm_drop (el_len h) ps i
theorem op_storeX {m : Ky} {n : Value} {o cap : Nat} {zs : List Value} (hn : n.oneCell' = true) (hr : Rw w 286 2 g cap zs) (ho : o + 2 ≤ zs.length) (hK : ∀ w', Frm (· = g) w w' → w'.heap.size = w.heap.size → Rw w' 286 2 g cap (lw zs o [ek m, n]) → K undef w') : nP.op (.store 286 (.pointer (some ⟨g, o, none⟩)) (.agg #[ek m, n])) w K Kp :=
  op_storeRN (n := 2) (by kernel_rfl) rfl hr ho (fun u hu => by simp only [List.mem_toArray, List.mem_cons, List.not_mem_nil, or_false] at hu; rcases hu with rfl | rfl; rfl; exact hn) hK
@[simp] theorem op_elB {m : Ky} {u : TypeId} {p : Value} {w : World} {K : KV} {Kp : KP} : nP.op (.build 286 [(0, ek m), (1, .iface u p)]) w K Kp = K (.agg #[ek m, .iface u p]) w := op_build_286_0_1 (one_ek m) rfl
@[simp] theorem pur_elB {m : Ky} {u : TypeId} {p : Value} {K1 : Value → Prop} : nP.pur (.build 286 [(0, ek m), (1, .iface u p)]) K1 = K1 (.agg #[ek m, .iface u p]) := pur_build_286_0_1 (one_ek m) rfl
theorem Reps.one {l : List Tr} {ns : List Value} (hr : Reps w h l ns) (hl : l.length = 1) : ∃ s n, l = [s] ∧ ns = [n] ∧ Rep w h s n := by
  match l, ns, hr, hl with
  | [s], [n], hr, _ => exact ⟨s, n, rfl, rfl, hr.1⟩
theorem Reps.pair {l : List Tr} {ns : List Value} (hr : Reps w h l ns) (hl : l.length = 2) : ∃ s n s2 n2, l = [s, s2] ∧ ns = [n, n2] ∧ Rep w h s n ∧ Rep w h s2 n2 := by
  match l, ns, hr, hl with
  | [s, s2], [n, n2], hr, _ => exact ⟨s, n, s2, n2, rfl, rfl, hr.1, hr.2.1⟩
def Made (w : World) (h ob : Nat) (new : List Tr) : Prop := ∃ q ps, w.heap[ob]? = some (.cells #[.slice (some ⟨q, 0, none⟩) new.length new.length] 284 (0, 0)) ∧ new = ps.map (·.1) ∧ Rw w 286 2 q new.length (els h ps) ∧ ∀ p ∈ ps, Rep w h p.1 p.2
def brTail (ob : Nat) (w : World) (K : KV) (Kp : KP) : Prop :=
  nP.op (.fieldAddr 284 (.pointer (some ⟨ob, 0, none⟩)) 0) w (fun v200 w => nP.op (.load 282 v200) w (fun v201 w => nP.op (.blt Builtin.len [282] 3 [v201]) w (fun v202 w =>
      nP.op (.bin BinOp.gtr 3 false true v202 (Value.int IntKind.i64 32)) w (fun v203 w =>
      Br v203 (
        nP.op (.fieldAddr 284 (.pointer (some ⟨ob, 0, none⟩)) 0) w (fun v204 w =>
        nP.op (.load 282 v204) w (fun v205 w =>
        nP.op (.blt Builtin.len [282] 3 [v205]) w (fun v206 w =>
        nP.op (.bin BinOp.quo 3 false true v206 (Value.int IntKind.i64 2)) w (fun v207 w =>
        nP.op (.fieldAddr 284 (.pointer (some ⟨ob, 0, none⟩)) 0) w (fun v208 w =>
        nP.op (.load 282 v208) w (fun v209 w =>
        nP.op (.slice 282 v209 none (some v207) (some v207)) w (fun v212 w =>
        nP.op (.build 284 [(0, v212)]) w (fun v213 w =>
        nP.op (.box 284 v213) w (fun v214 w =>
        nP.op (.fieldAddr 284 (.pointer (some ⟨ob, 0, none⟩)) 0) w (fun v215 w =>
        nP.op (.load 282 v215) w (fun v216 w =>
        nP.op (.slice 282 v216 (some v207) none none) w (fun v218 w =>
        nP.op (.build 284 [(0, v218)]) w (fun v219 w =>
        nP.op (.box 284 v219) w (fun v220 w =>
        K (Value.tuple #[.iface 279 v214, .iface 279 v220]) w) Kp) Kp) Kp) Kp) Kp) Kp) Kp) Kp) Kp) Kp) Kp) Kp) Kp) Kp) (
        K (Value.tuple #[.iface 279 (.pointer (some ⟨ob, 0, none⟩)), Value.nilIface]) w)) Kp) Kp) Kp) Kp
theorem brTail_ok {new : List Tr} {ob : Nat} (hm : Made w h ob new) (h33 : new.length ≤ 33) (hKK : ∀ w' ns, Frm (fun _ => False) w w' → Reps w' (h + 1) ((split new).map .br) ns → K (two ns) w') : brTail ob w K Kp := by
  obtain ⟨q, qs, hob, hqs, hrw, hqr⟩ := hm
  unfold brTail
  have hql : qs.length = new.length := by rw [hqs, List.length_map]
  have hsg := hrw.sg (by rw [els_len, hql]) (Nat.le_refl _)
  simp [-getElem?_pos, -Array.getElem?_eq_getElem, -Int.natCast_add, -op_st_286, -op_st_282, -op_alloc_284, hob]
  refine ⟨fun hgt => ?_, fun hle => ?_⟩
  · have e33 : new.length = 33 := by omega
    rw [split_two e33] at hKK
    rw [e33] at hsg
    have a1 := Sg.mx (i := 16) hsg (by omega)
    have a2 := Sg.lo (i := 16) hsg (by omega)
    have e16 : IntKind.i64.wrap 16 = 16 := by rw [IntKind.wrap_i64]; rfl
    have e16' : IntKind.i64.wrap (((33 : Nat) : Int).tdiv 2) = 16 := by rw [IntKind.wrap_i64]; rfl
    simp [-getElem?_pos, -Array.getElem?_eq_getElem, -Int.natCast_add, -op_st_286, -op_st_282, -op_alloc_284, e33, e16, e16']
    refine op_box_ok fun w4 k4 z4 b4 => ?_
    have hob4 := k4.get hob fun h => h
    simp [-getElem?_pos, -Array.getElem?_eq_getElem, -Int.natCast_add, -op_st_286, -op_st_282, -op_alloc_284, hob4, e33, e16, e16']
    refine op_box_ok fun w5 k5 z5 b5 => ?_
    try simp [-getElem?_pos, -Array.getElem?_eq_getElem, -Int.natCast_add, -op_st_286, -op_st_282, -op_alloc_284, e16]
    have c4 := k5.get b4 fun h => h
    have f2 := Frm.no k4 k5
    refine hKK w5 [.iface 279 (ptr w.heap.size), .iface 279 (ptr w4.heap.size)] f2 ⟨⟨_, q, 0, 16, qs.take 16, rfl, ?_, by rw [hqs, List.map_take], ?_, fun p hp => (hqr p (List.mem_of_mem_take hp)).still f2⟩, ⟨_, q, 16 * 2, 17, qs.drop 16, rfl, ?_, by rw [hqs, List.map_drop], ?_, fun p hp => (hqr p (List.mem_of_mem_drop hp)).still f2⟩, trivial⟩
    · simpa [cells_agg, e33] using c4
    · have := a1.still f2
      rw [← els_take] at this
      have e : (new.take 16).length = 16 := by simp [e33]
      rw [e]; exact this
    · simpa [cells_agg, e33] using b5
    · have := a2.still f2
      rw [← els_drop] at this
      have e : (new.drop 16).length = 17 := by simp [e33]
      rw [e]; simpa using this
  · rw [split_one (by omega)] at hKK
    exact hKK w [.iface 279 (ptr ob)] Frm.refl ⟨⟨_, q, 0, new.length, qs, rfl, hob, hqs, hsg, hqr⟩, trivial⟩
theorem brSet_ok (hC : IsC cv lt) (hr : Rep w (h + 1) (.br ks) v) (hw : WF (h + 1) (.br ks)) (hs : Sd lt (toL (h + 1) (.br ks))) (hfl : flag w rb r0)
    (ih : ∀ {t : Tr} {v : Value} {w : World} {K : KV} {Kp : KP}, Rep w h t v → WF h t → Sd lt (toL h t) → flag w rb r0 → (∀ w' ns, Frm (· = rb) w w' → flag w' rb (r0 || !has lt (toL h t) k) → Reps w' h (setT lt h t k x) ns → K (two ns) w') →
      nP.call (.inv v "pub-bracken/pub/immutable.set") [ek k, ev x, cv, .bool false, .pointer (some ⟨rb, 0, none⟩)] w K Kp)
    (hK : ∀ w' ns, Frm (· = rb) w w' → flag w' rb (r0 || !has lt (toL (h + 1) (.br ks)) k) → Reps w' (h + 1) (setT lt (h + 1) (.br ks) k x) ns → K (two ns) w') :
    nP.call (.inv v "pub-bracken/pub/immutable.set") [ek k, ev x, cv, .bool false, .pointer (some ⟨rb, 0, none⟩)] w K Kp := by
  obtain ⟨h1, h2, h3⟩ : ks ≠ [] ∧ ks.length ≤ 32 ∧ ∀ t ∈ ks, WF h t := id hw
  obtain ⟨b, g, o, c, ps, rfl, hb, hps, hg, hc⟩ := hr
  have hl : ps.length = ks.length := by rw [hps, List.length_map]
  rw [← hl] at hb hg
  simp only [inv_279_261]
  refine vc261_calls ?_
  delta vc261
  simp only [call_259]
  refine brIdx_ok hC hw hs hps hb hg fun w1 f1 => ?_
  have hi := kid_lt (lt := lt) (h := h) (k := k) h1
  have hA := kid_ahead hC.lin hw hs k
  have hB := kid_behind hC.lin hw hs k
  have hsp := toL_split (h := h) hi
  rw [setT_succ hi] at hK
  generalize kid lt h ks k = i at *
  have hs2 : Sd lt (toL h ks[i]) := by
    rw [hsp] at hs
    exact (List.pairwise_append.1 (List.pairwise_append.1 hs).2.1).1
  rw [hsp, has_mid hC.lin hA hB] at hK
  have hip : i < ps.length := by omega
  have hb1 := f1.get hb fun h => h
  have hg1 := hg.still f1
  have hfl1 := hfl.frame f1 fun h => h
  obtain ⟨cur, hcur, hk⟩ := elCells hg1
  have hki := (hk i hip).2
  have hpi : ps[i].1 = ks[i] := by simp [hps]
  have hr' := (hc _ (List.getElem_mem hip)).still f1
  rw [hpi] at hr'
  obtain ⟨g1, g2, g3, g4⟩ := setT_spec hC.lin h ks[i] k x (h3 _ (List.getElem_mem hi)) hs2
  simp [-getElem?_pos, -Array.getElem?_eq_getElem, -Int.natCast_add, -op_st_286, -op_st_282, -op_alloc_284, ptr, hb1, hcur, hki]
  refine ⟨hip, ih hr' (h3 _ (List.getElem_mem hi)) hs2 hfl1 fun w2 ns f2 fl2 hrs => ?_⟩
  have hb2 := f2.get hb1 (hfl1.typed hb1 (by decide))
  have hg2 := Sg.past hg1 hfl1 (by decide) f2
  have hc2 : ∀ p ∈ ps, Rep w2 h p.1 p.2 := fun p hp => ((hc p hp).still f1).past hfl1 f2
  have F2 : Frm (· = rb) w w2 := f1.fst f2
  generalize setT lt h ks[i] k x = l at *
  generalize (r0 || !has lt (toL h ks[i]) k) = fl at *
  have hl12 : l.length = 1 ∨ l.length = 2 := by have := List.length_pos_iff.2 g4; omega
  have hkp : ∀ (qs : List (Tr × Value)) (j : Nat), (∀ p ∈ qs, Rep w2 h p.1 p.2) → ∀ p ∈ ps.take j ++ qs ++ ps.drop (i + 1), Rep w2 h p.1 p.2 := fun qs j hq p hp => by
    rcases List.mem_append.1 hp with hp | hp
    · rcases List.mem_append.1 hp with hp | hp
      · exact hc2 p (List.mem_of_mem_take hp)
      · exact hq p hp
    · exact hc2 p (List.mem_of_mem_drop hp)
  have hel := els_len h ps
  have hgl := hg2.le
  obtain ⟨J, hJ⟩ : ∃ J : World → Prop, ∀ wl, J wl ↔ Made wl h w2.heap.size (ks.take i ++ l ++ ks.drop (i + 1)) ∧ Frm (· = rb) w wl ∧ flag wl rb fl := ⟨_, fun _ => Iff.rfl⟩
  have hJK : ∀ w3, J w3 → brTail w2.heap.size w3 K Kp := fun w3 hj => by
    obtain ⟨hm, hf3, hfl3⟩ := (hJ _).1 hj
    exact brTail_ok hm (by simp; omega) fun w' ns hf hrs => hK w' ns (hf3.old hf fun _ h => h.elim) (hfl3.frame hf fun h => h) hrs
  rcases hl12 with hl1 | hl1
  · obtain ⟨s, n, rfl, rfl, hn⟩ := hrs.one hl1
    obtain ⟨un, pn, rfl⟩ := hn.iface
    simp only [two]
    simp [-getElem?_pos, -Array.getElem?_eq_getElem, -Int.natCast_add, -op_st_286, -op_st_282, -op_alloc_284]
    refine op_alloc_ok (z := .agg #[.slice none 0 0]) (by kernel_rfl) fun w3 k3 z3 b3 => ?_
    refine Jn.intro J ⟨?_, fun w hj => hJK w hj⟩
    clear hJK
    have hb3 := k3.get hb2 fun h => h
    simp [-getElem?_pos, -Array.getElem?_eq_getElem, -Int.natCast_add, -op_st_286, -op_st_282, -op_alloc_284, hb3]
    simp only [cells_agg] at b3
    have hnew : ks.take i ++ [s] ++ ks.drop (i + 1) = ks.set i s := by rw [List.set_eq_take_append_cons_drop, if_pos hi]; simp
    rw [hnew] at hJ
    refine op_make_ok apX rfl (by omega) fun w4 zs k4 z4 hz r4 => ?_
    have b4 := k4.get b3 fun h => h
    refine op_store_ok (by kernel_rfl) b4 (by simp) rfl fun w5 k5 z5 b5 => ?_
    have r5 := r4.frame k5 (by omega)
    have f4 := k3.no k4
    have f5 := f4.old k5 fun b hb => .inr (by omega)
    have hb5 := f5.get hb2 fun h => h
    have hg5 := hg2.still f5
    simp [-getElem?_pos, -Array.getElem?_eq_getElem, -Int.natCast_add, -op_st_286, -op_st_282, -op_alloc_284, b5, hb5]
    refine op_copySg (n := ps.length) (i := 0) (i1 := 0) (c1 := ps.length) (by kernel_rfl) r5.drew (hg5.still (Frm.drew _)) partAt_zero.symm partAt_zero.symm rfl (by omega) (by omega) (by omega) (by rw [hz]; omega) (els_one hc2) fun w6 k6 z6 r6 => ?_
    have e6 : lw zs (0 * 2) (((els h ps).drop (0 * 2)).take (ps.length * 2)) = els h ps := by
      rw [Nat.zero_mul, List.drop_zero, List.take_of_length_le (by omega)]
      unfold lw
      rw [List.take_zero, List.drop_of_length_le (by omega)]; simp
    rw [e6] at r6
    have f6 := f5.old (Frm.dr k6) fun b hb => .inr (by omega)
    have b6 := (Frm.dr k6).get b5 (by omega)
    simp [-getElem?_pos, -Array.getElem?_eq_getElem, -Int.natCast_add, -op_st_286, -op_st_282, -op_alloc_284, b6]
    refine minKey_ok ((hn.still f6).still (Frm.drew _)) (g2 s (by simp)) fun w7 m f7 hm => ?_
    have b7 := (Frm.dr f7).get b6 fun h => h
    simp [-getElem?_pos, -Array.getElem?_eq_getElem, -Int.natCast_add, -op_st_286, -op_st_282, -op_alloc_284, b7]
    refine ⟨hip, op_storeX rfl (r6.frame (Frm.dr f7) fun h => h) (by rw [hel]; omega) fun w8 k8 z8 r8 => ?_⟩
    have f8 := (f6.no (Frm.dr f7)).old k8 fun b hb => .inr (by omega)
    have b8 := k8.get b7 (by omega)
    refine (hJ _).2 ⟨⟨w3.heap.size, ps.set i ((s, Value.iface un pn) : Tr × Value), ?_, ?_, ?_, fun p hp => ?_⟩, F2.old f8 fun _ h => h.elim, fl2.frame f8 fun h => h⟩
    · rw [List.length_set, ← hl]; simpa using b8
    · rw [hps, List.map_set]
    · rw [List.length_set, ← hl]
      have : els h (ps.set i (s, .iface un pn)) = lw (els h ps) (i * 2) [ek m, .iface un pn] := by
        rw [← el_of hm]; exact fm_set (el_len h) hip
      rw [this]; exact r8
    · rcases List.mem_or_eq_of_mem_set hp with hp | rfl
      · exact (hc2 p hp).still f8
      · exact hn.still f8
  · obtain ⟨s, n, s2, n2, rfl, rfl, hn, hn2⟩ := hrs.pair hl1
    obtain ⟨un, pn, rfl⟩ := hn.iface
    obtain ⟨un2, pn2, rfl⟩ := hn2.iface
    simp only [two]
    simp [-getElem?_pos, -Array.getElem?_eq_getElem, -Int.natCast_add, -op_st_286, -op_st_282, -op_alloc_284]
    refine op_alloc_ok (z := .agg #[.slice none 0 0]) (by kernel_rfl) fun w3 k3 z3 b3 => ?_
    refine Jn.intro J ⟨?_, fun w hj => hJK w hj⟩
    clear hJK
    have hb3 := k3.get hb2 fun h => h
    have ewl : IntKind.i64.wrap ((ps.length : Int) + 1) = ((ps.length + 1 : Nat) : Int) := by rw [IntKind.wrap_i64]; omega
    have ewp : IntKind.i64.wrap ((i : Int) + 1) = ((i + 1 : Nat) : Int) := by rw [IntKind.wrap_i64]; omega
    simp [-getElem?_pos, -Array.getElem?_eq_getElem, -Int.natCast_add, -op_st_286, -op_st_282, -op_alloc_284, hb3, ewl, ewp]
    simp only [cells_agg] at b3
    have hnl : (ks.take i ++ [s, s2] ++ ks.drop (i + 1)).length = ps.length + 1 := by simp; omega
    refine op_make_ok apX rfl (by omega) fun w4 zs k4 z4 hz r4 => ?_
    have b4 := k4.get b3 fun h => h
    refine op_store_ok (by kernel_rfl) b4 (by simp) rfl fun w5 k5 z5 b5 => ?_
    have r5 := r4.frame k5 (by omega)
    have f4 := k3.no k4
    have f5 := f4.old k5 fun b hb => .inr (by omega)
    have hb5 := f5.get hb2 fun h => h
    have hg5 := hg2.still f5
    simp [-getElem?_pos, -Array.getElem?_eq_getElem, -Int.natCast_add, -op_st_286, -op_st_282, -op_alloc_284, b5, hb5]
    refine ⟨by omega, by omega, ?_⟩
    refine op_copySg (n := i) (i := 0) (i1 := 0) (c1 := ps.length + 1) (by kernel_rfl) r5.drew ((hg5.hi (i := i) (by omega)).still (Frm.drew _)) partAt_zero.symm partAt_zero.symm rfl (by omega) (by omega) (by omega) (by rw [hz, Nat.succ_mul]; omega) (fun v hv => els_one hc2 v (List.mem_of_mem_take hv)) fun w6 k6 z6 r6 => ?_
    rw [show lw zs (0 * 2) ((((els h ps).take (i * 2)).drop (0 * 2)).take (i * 2)) = lw zs 0 ((els h ps).take (i * 2)) from by rw [Nat.zero_mul, List.drop_zero, List.take_take, Nat.min_self]] at r6
    have l6 : (lw zs 0 ((els h ps).take (i * 2))).length = (ps.length + 1) * 2 := by rw [lw_len (by simp; omega), hz]
    have f6 := f5.old (Frm.dr k6) fun b hb => .inr (by omega)
    have b6 := (Frm.dr k6).get b5 (by omega)
    have hb6 := f6.get hb2 fun h => h
    simp [-getElem?_pos, -Array.getElem?_eq_getElem, -Int.natCast_add, -op_st_286, -op_st_282, -op_alloc_284, b6, hb6]
    refine ⟨by omega, by omega, ?_⟩
    refine op_copySg (n := ps.length - i) (i := i) (i1 := i + 1) (c1 := ps.length + 1) (by kernel_rfl) r6.drew ((hg2.still f6).still (Frm.drew _)) partAt_suc rfl rfl (by omega) (by omega) (by omega) (by rw [l6]; omega) (els_one hc2) fun w7 k7 z7 r7 => ?_
    rw [List.take_of_length_le (l := (els h ps).drop (i * 2)) (by rw [List.length_drop]; omega)] at r7
    have l7 : (lw (lw zs 0 ((els h ps).take (i * 2))) ((i + 1) * 2) ((els h ps).drop (i * 2))).length = (ps.length + 1) * 2 := by rw [lw_len (by rw [l6, List.length_drop]; omega), l6]
    have f7 := f6.old (Frm.dr k7) fun b hb => .inr (by omega)
    have b7 := (Frm.dr k7).get b6 (by omega)
    simp [-getElem?_pos, -Array.getElem?_eq_getElem, -Int.natCast_add, -op_st_286, -op_st_282, -op_alloc_284, b7]
    refine minKey_ok ((hn.still f7).still (Frm.drew _)) (g2 s (by simp)) fun w8 m k8 hm => ?_
    have b8 := (Frm.dr k8).get b7 fun h => h
    have f8 := f7.no (Frm.dr k8)
    have s8 := f8.size
    simp [-getElem?_pos, -Array.getElem?_eq_getElem, -Int.natCast_add, -op_st_286, -op_st_282, -op_alloc_284, b8]
    refine ⟨by omega, op_storeX rfl (r7.frame (Frm.dr k8) fun h => h) (by rw [l7]; omega) fun w9 k9 z9 r9 => ?_⟩
    have l9 : (lw (lw (lw zs 0 ((els h ps).take (i * 2))) ((i + 1) * 2) ((els h ps).drop (i * 2))) (i * 2) [ek m, .iface un pn]).length = (ps.length + 1) * 2 := by rw [lw_len (by rw [l7]; simp; omega), l7]
    have f9 := f8.old k9 fun b hb => .inr (by omega)
    have b9 := k9.get b8 (by omega)
    simp [-getElem?_pos, -Array.getElem?_eq_getElem, -Int.natCast_add, -op_st_286, -op_st_282, -op_alloc_284, b9]
    refine minKey_ok ((hn2.still f9).still (Frm.drew _)) (g2 s2 (by simp)) fun w10 m2 k10 hm2 => ?_
    have b10 := (Frm.dr k10).get b9 fun h => h
    have f10 := f9.no (Frm.dr k10)
    have s10 := f10.size
    simp [-getElem?_pos, -Array.getElem?_eq_getElem, -Int.natCast_add, -op_st_286, -op_st_282, -op_alloc_284, b10]
    refine ⟨by omega, op_storeX rfl (r9.frame (Frm.dr k10) fun h => h) (by rw [l9]; omega) fun w11 k11 z11 r11 => ?_⟩
    have f11 := f10.old k11 fun b hb => .inr (by omega)
    have b11 := k11.get b10 (by omega)
    have hqs : els h (ps.take i ++ [(s, Value.iface un pn), (s2, Value.iface un2 pn2)] ++ ps.drop (i + 1)) = (els h ps).take (i * 2) ++ ([ek m, .iface un pn] ++ ([ek m2, .iface un2 pn2] ++ (els h ps).drop (i * 2 + 2))) := by
      rw [← el_of hm, ← el_of hm2]; exact fm_two (el_len h)
    refine (hJ _).2 ⟨⟨w3.heap.size, ps.take i ++ [((s, Value.iface un pn) : Tr × Value), (s2, Value.iface un2 pn2)] ++ ps.drop (i + 1), ?_, ?_, ?_, fun p hp => ?_⟩, F2.old f11 fun _ h => h.elim, fl2.frame f11 fun h => h⟩
    · rw [hnl]; simpa using b11
    · rw [hps]; simp [List.map_take, List.map_drop]
    · rw [hnl, hqs]
      have := two_row (A := els h ps) (zs := zs) (e1 := [ek m, .iface un pn]) (e2 := [ek m2, .iface un2 pn2]) (r := i * 2) (m := 2) rfl rfl (by omega) (by omega)
      rw [← this]
      rw [show (i + 1) * 2 = i * 2 + 2 from by omega] at r11
      exact r11
    · refine (hkp _ i (fun p hp => ?_) p hp).still f11
      simp only [List.mem_cons, List.not_mem_nil, or_false] at hp
      rcases hp with rfl | rfl
      · exact hn
      · exact hn2
theorem set_ok (hC : IsC cv lt) : ∀ {h : Nat} {t : Tr} {v : Value} {w : World} {K : KV} {Kp : KP}, Rep w h t v → WF h t → Sd lt (toL h t) → flag w rb r0 → (∀ w' ns, Frm (· = rb) w w' → flag w' rb (r0 || !has lt (toL h t) k) → Reps w' h (setT lt h t k x) ns → K (two ns) w') →
      nP.call (.inv v "pub-bracken/pub/immutable.set") [ek k, ev x, cv, .bool false, .pointer (some ⟨rb, 0, none⟩)] w K Kp
  | 0, t, v, w, K, Kp, hr, hw, hs, hfl, hK => by
    obtain ⟨es, rfl, h1, h2⟩ := wf_zero.1 hw
    exact leafSet_ok hC hr hw hs hfl hK
  | h + 1, t, v, w, K, Kp, hr, hw, hs, hfl, hK => by
    obtain ⟨ks, rfl, h1, h2, h3⟩ := wf_succ.1 hw
    exact brSet_ok hC hr hw hs hfl (fun hr' hw' hs' hfl' hK' => set_ok hC hr' hw' hs' hfl' hK') hK
end Go.Proofs.YtodjijfblgnfmaaGreatDoor.I
end
section
namespace Go.Proofs.YtodjijfblgnfmaaGreatDoor.I
open Go.Vc Go.Proofs Go.Proofs.YtodjijfblgnfmaaGreatDoor Go.Vc.Bt
variable {w w' : World} {v cv : Value} {t : Tr} {K : KV} {Kp : KP} {lt : Ky → Ky → Bool} {k : Ky} {rb : Nat} {b g o c h : Nat} {es : List (Ky × Vl)}
def RepO (w : World) (h : Nat) : Option Tr → Value → Prop
  | none, v => v = .nilIface
  | some t, v => Rep w h t v
theorem leafDel_ok (hC : IsC cv lt) (hr : Rep w 0 (.leaf es) v) (hw : WF 0 (.leaf es)) (hs : Sd lt es) (hfl : flag w rb false)
    (hN : ∀ w', Frm (· = rb) w w' → has lt es k = false → flag w' rb false → K v w')
    (hY : ∀ w' v', Frm (· = rb) w w' → has lt es k = true → flag w' rb true → RepO w' 0 (delT lt 0 (.leaf es) k) v' → K v' w') :
    nP.call (.inv v "pub-bracken/pub/immutable.delete") [ek k, cv, .bool false, .pointer (some ⟨rb, 0, none⟩)] w K Kp := by
  obtain ⟨h1, h2⟩ : es ≠ [] ∧ es.length ≤ 32 := hw
  obtain ⟨b, g, o, c, rfl, hb, hg⟩ := hr
  have h0 : 0 < es.length := List.length_pos_iff.2 h1
  simp only [inv_220_245]
  refine vc245_calls ?_
  delta vc245
  simp only [call_247]
  refine leafIdx_ok hC hs (by omega) hb hg fun w1 f1 => ?_
  have hb1 := f1.get hb fun h => h
  have hg1 := hg.still f1
  have hfl1 := hfl.frame f1 fun h => h
  have hp := place_le (lt := lt) es k
  simp [-getElem?_pos, -Array.getElem?_eq_getElem, -Int.natCast_add, -op_st_4, -op_st_223, ptr, hb1]
  refine ⟨fun hge => ?_, fun hlt => ?_⟩
  · have hh : has lt es k = false := by unfold has; rw [List.getElem?_eq_none (by omega)]
    exact hN w1.drew ((Frm.no f1 (Frm.drew _)).to fun _ h => h.elim) hh (hfl.frame (Frm.no f1 (Frm.drew _)) fun h => h)
  · have hlt' : place lt es k < es.length := by omega
    obtain ⟨cur, hcur, hk⟩ := leafKey hg1
    have hki := hk _ hlt'
    simp [-getElem?_pos, -Array.getElem?_eq_getElem, -Int.natCast_add, -op_st_4, -op_st_223, hcur, hki, hC.nilC]
    refine ⟨hlt', hC.cmp fun w2 f2 => ?_⟩
    have f2' := Frm.no f1 (Frm.dr f2)
    have hfl2 := hfl.frame f2' fun h => h
    have hz : Bt.cmp lt es[place lt es k].1 k = 0 ↔ es[place lt es k].1 = k := cmp_zero hC.lin
    have hhi : has lt es k = decide (es[place lt es k].1 = k) := by unfold has; rw [List.getElem?_eq_getElem hlt']
    by_cases e : es[place lt es k].1 = k
    · have hh : has lt es k = true := by rw [hhi]; exact decide_eq_true e
      rw [hz.2 e]
      have hY := fun w' v' hf => hY w' v' hf hh
      have hrm : rem lt es k = es.eraseIdx (place lt es k) := by unfold rem; rw [if_pos hh]
      rw [delT, hrm] at hY
      clear hz hhi e hki hk hN
      generalize place lt es k = p at *
      simp [-getElem?_pos, -Array.getElem?_eq_getElem, -Int.natCast_add, -op_st_4, -op_st_223]
      refine raise_ok hfl2 fun w3 k3 z3 fl3 => ?_
      have f3 : Frm (· = rb) w w3 := f2'.fst k3
      have hb3 := f3.get hb (hfl.typed hb (by decide))
      have hg3 := Sg.past hg hfl (by decide) f3
      simp [-getElem?_pos, -Array.getElem?_eq_getElem, -Int.natCast_add, -op_st_4, -op_st_223, hb3]
      refine ⟨fun h1' => ?_, fun hn1 => ?_⟩
      · refine hY w3 .nilIface f3 fl3 ?_
        have hle : es.length = 1 := by omega
        have : es.eraseIdx p = [] := List.eq_nil_of_length_eq_zero (by rw [List.length_eraseIdx, if_pos hlt']; omega)
        rw [this]; rfl
      · have hel := ents_len es
        have hpm : p * 2 + 2 ≤ es.length * 2 := by rw [← Nat.succ_mul]; exact Nat.mul_le_mul_right _ hlt'
        have hdl : (es.eraseIdx p).length = es.length - 1 := by rw [List.length_eraseIdx, if_pos hlt']
        have hY : ∀ w' v', Frm (· = rb) w w' → flag w' rb true → Rep w' 0 (.leaf (es.eraseIdx p)) v' → K v' w' := fun w' v' hf hfl' hr => hY w' v' hf hfl' (by
          rw [if_neg (by cases hq : es.eraseIdx p with
            | nil => rw [hq] at hdl; simp at hdl; omega
            | cons a l => simp)]; exact hr)
        have ewl : IntKind.i64.wrap ((es.length : Int) - 1) = ((es.length - 1 : Nat) : Int) := by rw [IntKind.wrap_i64]; omega
        have ewp : IntKind.i64.wrap ((p : Int) + 1) = ((p + 1 : Nat) : Int) := by rw [IntKind.wrap_i64]; omega
        have hgl := hg.le
        simp [-getElem?_pos, -Array.getElem?_eq_getElem, -Int.natCast_add, -op_st_4, -op_st_223, ewl, ewp]
        refine op_make_ok apE rfl (by omega) fun w4 zs k4 z4 hz r4 => ?_
        simp [-getElem?_pos, -Array.getElem?_eq_getElem, -Int.natCast_add, -op_st_4, -op_st_223]
        refine op_box_ok fun w5 k5 z5 b5 => ?_
        simp only [cells_agg] at b5
        have f5 := f3.old (k4.no k5) fun _ h => h.elim
        have hb5 := f5.get hb (hfl.typed hb (by decide))
        have hg5 := Sg.past hg hfl (by decide) f5
        simp [-getElem?_pos, -Array.getElem?_eq_getElem, -Int.natCast_add, -op_st_4, -op_st_223, b5, hb5]
        have r5 := r4.frame k5 fun h => h
        refine ⟨by omega, by omega, ?_⟩
        refine op_copySg (n := p) (i := 0) (i1 := 0) (c1 := es.length - 1) (by kernel_rfl) r5.drew ((hg5.hi (i := p) hp).still (Frm.drew _)) partAt_zero.symm partAt_zero.symm rfl (by omega) (by omega) (by omega) (by rw [hz, Nat.sub_mul]; omega) (fun v hv => ents_one v (List.mem_of_mem_take hv)) fun w6 k6 z6 r6 => ?_
        rw [show lw zs (0 * 2) ((((ents es).take (p * 2)).drop (0 * 2)).take (p * 2)) = lw zs 0 ((ents es).take (p * 2)) from by rw [Nat.zero_mul, List.drop_zero, List.take_take, Nat.min_self]] at r6
        have l6 : (lw zs 0 ((ents es).take (p * 2))).length = (es.length - 1) * 2 := by rw [lw_len (by rw [List.length_take, hz, Nat.sub_mul]; omega), hz]
        have s3 := f3.size
        have f6 := f5.old (Frm.dr k6) fun b hb => .inr (by omega)
        have hb6 := f6.get hb (hfl.typed hb (by decide))
        have hg6 := Sg.past hg hfl (by decide) f6
        have b6 := (Frm.dr k6).get b5 (by omega)
        simp [-getElem?_pos, -Array.getElem?_eq_getElem, -Int.natCast_add, -op_st_4, -op_st_223, b6, hb6]
        refine ⟨by omega, by omega, by omega, ?_⟩
        refine op_copySg (n := es.length - (p + 1)) (i := p + 1) (i1 := p) (c1 := es.length - 1) (by kernel_rfl) r6.drew (hg6.still (Frm.drew _)) partAt_own rfl rfl (by omega) (by omega) (by omega) (by rw [l6, Nat.sub_mul, Nat.sub_mul, Nat.succ_mul]; omega) (fun v hv => ents_one v hv) fun w7 k7 z7 r7 => ?_
        have f7 := f6.old (Frm.dr k7) fun b hb => .inr (by omega)
        have b7 := (Frm.dr k7).get b6 (by omega)
        have e7 : lw (lw zs 0 ((ents es).take (p * 2))) (p * 2) (((ents es).drop ((p + 1) * 2)).take ((es.length - (p + 1)) * 2)) = ents (es.eraseIdx p) := by
          have e1 : ents (es.eraseIdx p) = (ents es).take (p * 2) ++ (ents es).drop (p * 2 + 2) := fm_del ent_len
          rw [e1, ← del_new (zs := zs) (by omega) (by rw [hz, Nat.sub_mul]; omega), Nat.succ_mul]
          congr 2
          rw [hel, Nat.sub_mul, Nat.succ_mul]; omega
        rw [e7] at r7
        have hsg := r7.sg (by rw [ents_len, hdl]) (Nat.le_refl _)
        have fl7 := ((fl3.frame (k4.no k5) fun h => h).frame (Frm.dr k6) (by have := hfl.below; omega)).frame (Frm.dr k7) (by have := hfl.below; omega)
        refine hY w7 (.iface 220 (ptr w4.heap.size)) f7 fl7 ⟨_, w3.heap.size, 0, es.length - 1, rfl, ?_, ?_⟩
        · rw [hdl]; simpa using b7
        · rw [hdl]; exact hsg
    · have hh : has lt es k = false := by rw [hhi]; exact decide_eq_false e
      have he : ¬ Bt.cmp lt es[place lt es k].1 k = 0 := fun h => e (hz.1 h)
      simp [-getElem?_pos, -Array.getElem?_eq_getElem, -Int.natCast_add, -op_st_4, -op_st_223, he]
      exact hN w2 (f2'.to fun _ h => h.elim) hh hfl2
end Go.Proofs.YtodjijfblgnfmaaGreatDoor.I
end
section
namespace Go.Proofs.YtodjijfblgnfmaaGreatDoor.I
open Go.Vc Go.Proofs Go.Proofs.YtodjijfblgnfmaaGreatDoor Go.Vc.Bt
variable {w w' : World} {v cv : Value} {t : Tr} {K : KV} {Kp : KP} {lt : Ky → Ky → Bool} {k : Ky} {rb : Nat} {b g o c h : Nat} {ks : List Tr}
theorem brDel_ok (hC : IsC cv lt) (hr : Rep w (h + 1) (.br ks) v) (hw : WF (h + 1) (.br ks)) (hs : Sd lt (toL (h + 1) (.br ks))) (hfl : flag w rb false)
    (ih : ∀ {t : Tr} {v : Value} {w : World} {K : KV} {Kp : KP}, Rep w h t v → WF h t → Sd lt (toL h t) → flag w rb false → (∀ w', Frm (· = rb) w w' → has lt (toL h t) k = false → flag w' rb false → K v w') →
      (∀ w' v', Frm (· = rb) w w' → has lt (toL h t) k = true → flag w' rb true → RepO w' h (delT lt h t k) v' → K v' w') →
      nP.call (.inv v "pub-bracken/pub/immutable.delete") [ek k, cv, .bool false, .pointer (some ⟨rb, 0, none⟩)] w K Kp)
    (hN : ∀ w', Frm (· = rb) w w' → has lt (toL (h + 1) (.br ks)) k = false → flag w' rb false → K v w')
    (hY : ∀ w' v', Frm (· = rb) w w' → has lt (toL (h + 1) (.br ks)) k = true → flag w' rb true → RepO w' (h + 1) (delT lt (h + 1) (.br ks) k) v' → K v' w') :
    nP.call (.inv v "pub-bracken/pub/immutable.delete") [ek k, cv, .bool false, .pointer (some ⟨rb, 0, none⟩)] w K Kp := by
  obtain ⟨h1, h2, h3⟩ : ks ≠ [] ∧ ks.length ≤ 32 ∧ ∀ t ∈ ks, WF h t := id hw
  obtain ⟨b, g, o, c, ps, rfl, hb, hps, hg, hc⟩ := hr
  have hl : ps.length = ks.length := by rw [hps, List.length_map]
  rw [← hl] at hb hg
  simp only [inv_279_257]
  refine vc257_calls ?_
  delta vc257
  simp only [call_259]
  refine brIdx_ok hC hw hs hps hb hg fun w1 f1 => ?_
  have hi := kid_lt (lt := lt) (h := h) (k := k) h1
  have hA := kid_ahead hC.lin hw hs k
  have hB := kid_behind hC.lin hw hs k
  have hsp := toL_split (h := h) hi
  have hdt : delT lt (h + 1) (.br ks) k = match delT lt h ks[kid lt h ks k] k with
    | some t => some (.br (ks.set (kid lt h ks k) t))
    | none => if (ks.eraseIdx (kid lt h ks k)).isEmpty then none else some (.br (ks.eraseIdx (kid lt h ks k))) := by
    rw [delT, List.getElem?_eq_getElem hi, Option.bind_some]
    cases delT lt h ks[kid lt h ks k] k <;> rfl
  rw [hdt] at hY
  clear hdt
  generalize kid lt h ks k = i at *
  have hs2 : Sd lt (toL h ks[i]) := by
    rw [hsp] at hs
    exact (List.pairwise_append.1 (List.pairwise_append.1 hs).2.1).1
  rw [hsp, has_mid hC.lin hA hB] at hN hY
  have hip : i < ps.length := by omega
  have hb1 := f1.get hb fun h => h
  have hg1 := hg.still f1
  have hfl1 := hfl.frame f1 fun h => h
  obtain ⟨cur, hcur, hk⟩ := elCells hg1
  have hki := (hk i hip).2
  have hpi : ps[i].1 = ks[i] := by simp [hps]
  have hr' := (hc _ (List.getElem_mem hip)).still f1
  rw [hpi] at hr'
  obtain ⟨g1, g2⟩ := delT_spec hC.lin h ks[i] k (h3 _ (List.getElem_mem hi)) hs2
  have hel := els_len h ps
  have hgl := hg.le
  simp [-getElem?_pos, -Array.getElem?_eq_getElem, -Int.natCast_add, -op_st_286, -op_st_282, ptr, hb1, hcur, hki]
  refine ⟨hip, ih hr' (h3 _ (List.getElem_mem hi)) hs2 hfl1 (fun w2 f2 hh fl2 => ?_) fun w2 v2 f2 hh fl2 hr2 => ?_⟩
  · have fl2' : w2.heap[rb]? = some (.cells #[.bool false] 4 (0, 0)) := fl2
    simp [-getElem?_pos, -Array.getElem?_eq_getElem, -Int.natCast_add, -op_st_286, -op_st_282, fl2']
    exact hN w2 (f1.fst f2) hh fl2
  · have fl2' : w2.heap[rb]? = some (.cells #[.bool true] 4 (0, 0)) := fl2
    have F2 : Frm (· = rb) w w2 := f1.fst f2
    have hb2 := F2.get hb (hfl.typed hb (by decide))
    have hg2 := Sg.past hg hfl (by decide) F2
    have hc2 : ∀ p ∈ ps, Rep w2 h p.1 p.2 := fun p hp => (hc p hp).past hfl F2
    have hY := fun w' v' hf => hY w' v' hf hh
    have hrb2 := fl2.below
    clear hN
    generalize delT lt h ks[i] k = d at *
    cases d with
    | none =>
      obtain rfl : v2 = .nilIface := hr2
      dsimp only at hY
      simp [-getElem?_pos, -Array.getElem?_eq_getElem, -Int.natCast_add, -op_st_286, -op_st_282, fl2', hb2]
      refine ⟨fun h1' => ?_, fun hn1 => ?_⟩
      · refine hY w2 .nilIface F2 fl2 ?_
        have : ks.eraseIdx i = [] := List.eq_nil_of_length_eq_zero (by rw [List.length_eraseIdx, if_pos hi]; omega)
        rw [this]; rfl
      · have hpm : i * 2 + 2 ≤ ps.length * 2 := by omega
        have hdl : (ks.eraseIdx i).length = ps.length - 1 := by rw [List.length_eraseIdx, if_pos hi]; omega
        have hY : ∀ w' v', Frm (· = rb) w w' → flag w' rb true → Rep w' (h + 1) (.br (ks.eraseIdx i)) v' → K v' w' := fun w' v' hf hfl' hr => hY w' v' hf hfl' (by
          rw [if_neg (by cases hq : ks.eraseIdx i with
            | nil => rw [hq] at hdl; simp at hdl; omega
            | cons a l => simp)]; exact hr)
        have ewl : IntKind.i64.wrap ((ps.length : Int) - 1) = ((ps.length - 1 : Nat) : Int) := by rw [IntKind.wrap_i64]; omega
        have ewp : IntKind.i64.wrap ((i : Int) + 1) = ((i + 1 : Nat) : Int) := by rw [IntKind.wrap_i64]; omega
        simp [-getElem?_pos, -Array.getElem?_eq_getElem, -Int.natCast_add, -op_st_286, -op_st_282, ewl, ewp]
        refine op_make_ok apX rfl (by omega) fun w4 zs k4 z4 hz r4 => ?_
        simp [-getElem?_pos, -Array.getElem?_eq_getElem, -Int.natCast_add, -op_st_286, -op_st_282]
        refine op_box_ok fun w5 k5 z5 b5 => ?_
        simp only [cells_agg] at b5
        have f5 := k4.no k5
        have hb5 := f5.get hb2 fun h => h
        have hg5 := hg2.still f5
        simp [-getElem?_pos, -Array.getElem?_eq_getElem, -Int.natCast_add, -op_st_286, -op_st_282, b5, hb5]
        have r5 := r4.frame k5 fun h => h
        refine ⟨by omega, by omega, ?_⟩
        refine op_copySg (n := i) (i := 0) (i1 := 0) (c1 := ps.length - 1) (by kernel_rfl) r5.drew ((hg5.hi (i := i) (by omega)).still (Frm.drew _)) partAt_zero.symm partAt_zero.symm rfl (by omega) (by omega) (by omega) (by rw [hz]; omega) (fun v hv => els_one hc2 v (List.mem_of_mem_take hv)) fun w6 k6 z6 r6 => ?_
        rw [show lw zs (0 * 2) ((((els h ps).take (i * 2)).drop (0 * 2)).take (i * 2)) = lw zs 0 ((els h ps).take (i * 2)) from by rw [Nat.zero_mul, List.drop_zero, List.take_take, Nat.min_self]] at r6
        have l6 : (lw zs 0 ((els h ps).take (i * 2))).length = (ps.length - 1) * 2 := by rw [lw_len (by rw [List.length_take, hz]; omega), hz]
        have f6 := f5.old (Frm.dr k6) fun b hb => .inr (by omega)
        have hb6 := f6.get hb2 fun h => h
        have hg6 := hg2.still f6
        have b6 := (Frm.dr k6).get b5 (by omega)
        simp [-getElem?_pos, -Array.getElem?_eq_getElem, -Int.natCast_add, -op_st_286, -op_st_282, b6, hb6]
        refine ⟨by omega, by omega, by omega, ?_⟩
        refine op_copySg (n := ps.length - (i + 1)) (i := i + 1) (i1 := i) (c1 := ps.length - 1) (by kernel_rfl) r6.drew (hg6.still (Frm.drew _)) partAt_own rfl rfl (by omega) (by omega) (by omega) (by rw [l6]; omega) (els_one hc2) fun w7 k7 z7 r7 => ?_
        have f7 := f6.old (Frm.dr k7) fun b hb => .inr (by omega)
        have b7 := (Frm.dr k7).get b6 (by omega)
        have e7 : lw (lw zs 0 ((els h ps).take (i * 2))) (i * 2) (((els h ps).drop ((i + 1) * 2)).take ((ps.length - (i + 1)) * 2)) = els h (ps.eraseIdx i) := by
          have e1 : els h (ps.eraseIdx i) = (els h ps).take (i * 2) ++ (els h ps).drop (i * 2 + 2) := fm_del (el_len h)
          rw [e1, ← del_new (zs := zs) (by omega) (by rw [hz]; omega), Nat.succ_mul]
          congr 2
          omega
        rw [e7] at r7
        have hpl : (ps.eraseIdx i).length = ps.length - 1 := by rw [List.length_eraseIdx, if_pos hip]
        have hsg := r7.sg (by rw [els_len, hpl]) (Nat.le_refl _)
        refine hY w7 (.iface 279 (ptr w4.heap.size)) (F2.old f7 fun _ h => h.elim) (fl2.frame f7 fun h => h) ⟨_, w2.heap.size, 0, ps.length - 1, ps.eraseIdx i, rfl, ?_, by rw [hps, List.eraseIdx_eq_take_drop_succ, List.eraseIdx_eq_take_drop_succ, List.map_append, List.map_take, List.map_drop], ?_, fun p hp => (hc2 p (List.mem_of_mem_eraseIdx hp)).still f7⟩
        · rw [hdl]; simpa using b7
        · rw [hdl]; exact hsg
    | some t' =>
      have hn : Rep w2 h t' v2 := hr2
      obtain ⟨un, pn, rfl⟩ := hn.iface
      dsimp only at hY
      simp [-getElem?_pos, -Array.getElem?_eq_getElem, -Int.natCast_add, -op_st_286, -op_st_282, fl2', hb2]
      refine op_make_ok apX rfl (by omega) fun w4 zs k4 z4 hz r4 => ?_
      simp [-getElem?_pos, -Array.getElem?_eq_getElem, -Int.natCast_add, -op_st_286, -op_st_282]
      refine op_box_ok fun w5 k5 z5 b5 => ?_
      simp only [cells_agg] at b5
      have f5 := k4.no k5
      have hb5 := f5.get hb2 fun h => h
      have hg5 := hg2.still f5
      simp [-getElem?_pos, -Array.getElem?_eq_getElem, -Int.natCast_add, -op_st_286, -op_st_282, b5, hb5]
      have r5 := r4.frame k5 fun h => h
      refine op_copySg (n := ps.length) (i := 0) (i1 := 0) (c1 := ps.length) (by kernel_rfl) r5.drew (hg5.still (Frm.drew _)) partAt_zero.symm partAt_zero.symm rfl (by omega) (by omega) (by omega) (by rw [hz]; omega) (els_one hc2) fun w6 k6 z6 r6 => ?_
      have e6 : lw zs (0 * 2) (((els h ps).drop (0 * 2)).take (ps.length * 2)) = els h ps := by
        rw [Nat.zero_mul, List.drop_zero, List.take_of_length_le (by omega)]
        unfold lw
        rw [List.take_zero, List.drop_of_length_le (by omega)]; simp
      rw [e6] at r6
      have f6 := f5.old (Frm.dr k6) fun b hb => .inr (by omega)
      have b6 := (Frm.dr k6).get b5 (by omega)
      simp [-getElem?_pos, -Array.getElem?_eq_getElem, -Int.natCast_add, -op_st_286, -op_st_282, b6]
      refine minKey_ok ((hn.still f6).still (Frm.drew _)) (g2 t' rfl) fun w7 m f7 hm => ?_
      have b7 := (Frm.dr f7).get b6 fun h => h
      simp [-getElem?_pos, -Array.getElem?_eq_getElem, -Int.natCast_add, -op_st_286, -op_st_282, b7]
      refine ⟨hip, op_storeX rfl (r6.frame (Frm.dr f7) fun h => h) (by rw [hel]; omega) fun w8 k8 z8 r8 => ?_⟩
      have f8 := (f6.no (Frm.dr f7)).old k8 fun b hb => .inr (by omega)
      have b8 := k8.get b7 (by omega)
      have hql : (ps.set i ((t', Value.iface un pn) : Tr × Value)).length = ps.length := List.length_set
      have he : els h (ps.set i ((t', Value.iface un pn) : Tr × Value)) = lw (els h ps) (i * 2) [ek m, .iface un pn] := by
        rw [← el_of hm]; exact fm_set (el_len h) hip
      rw [← he] at r8
      have hsg := r8.sg (by rw [els_len, hql]) (Nat.le_refl _)
      have hkl : (ks.set i t').length = ps.length := by rw [List.length_set, hl]
      refine hY w8 (.iface 279 (ptr w4.heap.size)) (F2.old f8 fun _ h => h.elim) (fl2.frame f8 fun h => h) ⟨_, w2.heap.size, 0, ps.length, ps.set i ((t', Value.iface un pn) : Tr × Value), rfl, ?_, by rw [hps, List.map_set], ?_, fun p hp => ?_⟩
      · rw [hkl]; simpa using b8
      · rw [hkl]; exact hsg
      · rcases List.mem_or_eq_of_mem_set hp with hp | rfl
        · exact (hc2 p hp).still f8
        · exact hn.still f8
theorem del_ok (hC : IsC cv lt) : ∀ {h : Nat} {t : Tr} {v : Value} {w : World} {K : KV} {Kp : KP}, Rep w h t v → WF h t → Sd lt (toL h t) → flag w rb false → (∀ w', Frm (· = rb) w w' → has lt (toL h t) k = false → flag w' rb false → K v w') →
      (∀ w' v', Frm (· = rb) w w' → has lt (toL h t) k = true → flag w' rb true → RepO w' h (delT lt h t k) v' → K v' w') →
      nP.call (.inv v "pub-bracken/pub/immutable.delete") [ek k, cv, .bool false, .pointer (some ⟨rb, 0, none⟩)] w K Kp
  | 0, t, v, w, K, Kp, hr, hw, hs, hfl, hN, hY => by
    obtain ⟨es, rfl, h1, h2⟩ := wf_zero.1 hw
    exact leafDel_ok hC hr hw hs hfl hN hY
  | h + 1, t, v, w, K, Kp, hr, hw, hs, hfl, hN, hY => by
    obtain ⟨ks, rfl, h1, h2, h3⟩ := wf_succ.1 hw
    exact brDel_ok hC hr hw hs hfl (fun a b c d e f => del_ok hC a b c d e f) hN hY
end Go.Proofs.YtodjijfblgnfmaaGreatDoor.I
end
section
namespace Go.Proofs.YtodjijfblgnfmaaGreatDoor.I
open Go.Vc Go.Proofs Go.Proofs.YtodjijfblgnfmaaGreatDoor Go.Vc.Bt
variable {w w' : World} {v cv : Value} {t : Tr} {K : KV} {Kp : KP} {lt : Ky → Ky → Bool} {k : Ky} {n : Nat} {b h : Nat} {r : Root Ky Vl}
def RepR (w : World) : Root Ky Vl → Value → Prop
  | none, v => v = .nilIface
  | some (h, t), v => Rep w h t v
theorem RepR.still (h : RepR w r v) (hf : Frm (fun _ => False) w w') : RepR w' r v := by
  match r, h with
  | none, h => exact h
  | some (h, t), hr => exact Rep.still hr hf
theorem RepR.one (h : RepR w r v) : v.oneCell' = true := by
  match r, h with
  | none, h => rw [show v = .nilIface from h]; rfl
  | some (h, t), hr => obtain ⟨u, p, rfl⟩ := Rep.iface hr; rfl
def Dflt (lt : Ky → Ky → Bool) : Prop := ∀ {k : Ky} {w : World} {K : KV} {Kp : KP}, (∀ w' cv, Frm (fun _ => False) w w' → IsC cv lt → K cv w') → Calls Tryz.prog 190 #[ek k] w (ret K Kp)
def CmpOk (cv : Value) (lt : Ky → Ky → Bool) (r : Root Ky Vl) : Prop := IsC cv lt ∨ cv = .nilIface ∧ Dflt lt ∧ r = none
theorem CmpOk.one (h : CmpOk cv lt r) : cv.oneCell' = true := by
  rcases h with h | h
  · obtain ⟨u, p, rfl⟩ := h.iface; rfl
  · rw [h.1]; rfl
def RepM (w : World) (b : Nat) (lt : Ky → Ky → Bool) (r : Root Ky Vl) : Prop := ∃ rv cv, w.heap[b]? = some (.cells #[.int .i64 (rL r).length, rv, cv] 210 (0, 0)) ∧ RepR w r rv ∧ CmpOk cv lt r
theorem RepM.still (h : RepM w b lt r) (hf : Frm (fun _ => False) w w') : RepM w' b lt r := by
  obtain ⟨rv, cv, h1, h2, h3⟩ := h
  exact ⟨rv, cv, hf.get h1 fun h => h, h2.still hf, h3⟩
theorem RepM.below (h : RepM w b lt r) : b < w.heap.size := by obtain ⟨rv, cv, h1, _⟩ := h; exact lt_of_get h1
theorem new_ok (hc : CmpOk cv lt none) (hK : ∀ w' b, Frm (fun _ => False) w w' → w.heap.size ≤ b → RepM w' b lt none → K (ptr b) w') : Calls Tryz.prog 79 #[cv] w (ret K Kp) := by
  refine vc79_calls ?_
  delta vc79
  rw [op_build_210_2 hc.one]
  refine op_box_ok fun w1 k1 z1 b1 => ?_
  simp only [cells_agg] at b1
  exact hK w1 _ k1 (Nat.le_refl _) ⟨.nilIface, cv, b1, rfl, hc⟩
theorem len_ok (hm : RepM w b lt r) (hK : K (.int .i64 (rL r).length) w) : Calls Tryz.prog 85 #[ptr b] w (ret K Kp) := by
  obtain ⟨rv, cv, h1, h2, h3⟩ := hm
  refine vc85_calls ?_
  delta vc85
  simp [-getElem?_pos, -Array.getElem?_eq_getElem, -Int.natCast_add, -op_st_210, -op_alloc_210, ptr, h1]
  exact hK
theorem mapGet_ok (hm : RepM w b lt r) (hok : Ok lt n r) (hK : ∀ w', Frm (fun _ => False) w w' → K (gotV (getR lt r k)) w') : Calls Tryz.prog 82 #[ptr b, ek k] w (ret K Kp) := by
  obtain ⟨rv, cv, h1, h2, h3⟩ := hm
  refine vc82_calls ?_
  delta vc82
  match r, h2, h3, hok with
  | none, h2, h3, _ =>
    obtain rfl : rv = .nilIface := h2
    simp [-getElem?_pos, -Array.getElem?_eq_getElem, -Int.natCast_add, -op_st_210, -op_alloc_210, ptr, h1]
    exact hK _ Frm.refl
  | some (h, t), h2, h3, hok =>
    have hC : IsC cv lt := h3.resolve_right fun h => nomatch h.2.2
    obtain ⟨o1, o2, o3, o4⟩ := hok
    have hr : Rep w h t rv := h2
    obtain ⟨u, p, rfl⟩ := hr.iface
    simp [-getElem?_pos, -Array.getElem?_eq_getElem, -Int.natCast_add, -op_st_210, -op_alloc_210, ptr, h1]
    refine get_ok hC (hr.still (Frm.drew _)) o1 o2 fun w2 f2 => ?_
    have := hK w2 (Frm.dr f2)
    rw [getR] at this
    cases hgg : getT lt h t k with
    | none =>
      rw [hgg] at this
      simp [-getElem?_pos, -Array.getElem?_eq_getElem, -Int.natCast_add, -op_st_210, -op_alloc_210, gotV]
      exact this
    | some y =>
      rw [hgg] at this
      simp [-getElem?_pos, -Array.getElem?_eq_getElem, -Int.natCast_add, -op_st_210, -op_alloc_210, gotV]
      exact this
theorem clone_ok {a d e : Value} (hb : w.heap[b]? = some (.cells #[a, d, e] 210 (0, 0))) (h1 : ∀ u ∈ (#[a, d, e] : Array Value), u.oneCell' = true)
    (hK : ∀ w', Frm (fun _ => False) w w' → w'.heap.size = w.heap.size + 1 → w'.heap[w.heap.size]? = some (.cells #[a, d, e] 210 (0, 0)) → K (ptr w.heap.size) w') : Calls Tryz.prog 191 #[ptr b] w (ret K Kp) := by
  refine vc191_calls ?_
  delta vc191
  have hx : (#[a, d, e] : Array Value).extract 0 3 = #[a, d, e] := rfl
  simp [-getElem?_pos, -Array.getElem?_eq_getElem, -Int.natCast_add, -op_st_210, -op_alloc_210, ptr, hb, hx]
  refine op_alloc_ok (z := .agg #[.int .i64 0, .nilIface, .nilIface]) (by kernel_rfl) fun w1 k1 z1 b1 => ?_
  simp only [cells_agg] at b1
  refine op_storeN_ok (n := 3) (by kernel_rfl) b1 rfl (by simp) h1 fun w2 k2 z2 b2 => ?_
  refine hK w2 (k1.old k2 fun b hb => .inr (by omega)) (by omega) ?_
  simpa [ow] using b2
end Go.Proofs.YtodjijfblgnfmaaGreatDoor.I
end
section
namespace Go.Proofs.YtodjijfblgnfmaaGreatDoor.I
open Go.Vc Go.Proofs Go.Proofs.YtodjijfblgnfmaaGreatDoor Go.Vc.Bt
variable {w w' : World} {v cv : Value} {t : Tr} {K : KV} {Kp : KP} {lt : Ky → Ky → Bool} {k : Ky} {x : Vl} {rb n : Nat} {r0 : Bool} {b g o c h : Nat} {ks : List Tr} {r : Root Ky Vl}
def Off (w : World) (c : Nat) : Prop := ∃ cs e fz, w.heap[c]? = some (.cells cs e fz) ∧ e ≠ 226 ∧ e ≠ 223 ∧ e ≠ 284 ∧ e ≠ 286
theorem Rep.off {z : Nat} (ho : Off w z) (hf : Frm (· = z) w w') : ∀ {h : Nat} {t : Tr} {v : Value}, Rep w h t v → Rep w' h t v
  | 0, .leaf es, v, hr => by
    obtain ⟨b, g, o, c, h1, h2, h3⟩ := hr
    obtain ⟨cs, e, fz, q1, q2, q3, q4, q5⟩ := ho
    have n1 : b ≠ z := fun e' => by rw [e', q1] at h2; cases h2; exact q2 rfl
    obtain ⟨cs', p1, p2⟩ := id h3
    have n2 : g ≠ z := fun e' => by rw [e', q1] at p1; cases p1; exact q3 rfl
    exact ⟨b, g, o, c, h1, hf.get h2 n1, h3.frame hf n2⟩
  | h + 1, .br ks, v, hr => by
    obtain ⟨b, g, o, c, ps, h1, h2, h3, h4, h5⟩ := hr
    have hrec := fun p hp => Rep.off ho hf (h5 p hp)
    obtain ⟨cs, e, fz, q1, q2, q3, q4, q5⟩ := ho
    have n1 : b ≠ z := fun e' => by rw [e', q1] at h2; cases h2; exact q4 rfl
    obtain ⟨cs', p1, p2⟩ := id h4
    have n2 : g ≠ z := fun e' => by rw [e', q1] at p1; cases p1; exact q5 rfl
    exact ⟨b, g, o, c, ps, h1, hf.get h2 n1, h3, h4.frame hf n2, hrec⟩
  | 0, .br ks, v, hr => hr.elim
  | h + 1, .leaf es, v, hr => hr.elim
theorem RepR.off {c : Nat} (h : RepR w r v) (ho : Off w c) (hf : Frm (· = c) w w') : RepR w' r v := by
  match r, h with
  | none, h => exact h
  | some (h, t), hr => exact Rep.off ho hf hr
theorem off_O {a d e : Value} {c : Nat} (h : w.heap[c]? = some (.cells #[a, d, e] 210 (0, 0))) : Off w c := ⟨_, _, _, h, by decide, by decide, by decide, by decide⟩
theorem newBr_ok {q : Nat} {s s2 : Tr} {n1 n2 : Value} (hq : w.heap[q]? = some (.cells #[n1, n2] 208 (0, 0))) (h1 : Rep w h s n1) (h2 : Rep w h s2 n2) (hw1 : WF h s) (hw2 : WF h s2)
    (hK : ∀ w' b, Frm (fun _ => False) w w' → Rep w' (h + 1) (.br [s, s2]) (.iface 279 (ptr b)) → K (ptr b) w') : Calls Tryz.prog 192 #[.slice (some ⟨q, 0, none⟩) 2 2] w (ret K Kp) := by
  refine vc192_calls ?_
  delta vc192
  simp [-getElem?_pos, -Array.getElem?_eq_getElem, -Int.natCast_add, -op_st_286, -op_st_208, -op_st_3, -op_st_101, -op_alloc_4, -op_lit_224_1, -op_lit_353_2]
  refine op_make_ok (n := 2) apX rfl (by omega) fun w1 zs k1 z1 hz r1 => ?_
  obtain ⟨L, hL⟩ : ∃ L : List (Tr × Value), L = [(s, n1), (s2, n2)] := ⟨_, rfl⟩
  have hLn : L.length = 2 := by rw [hL]; rfl
  have hLq : ∀ j (hj : j < L.length), (#[n1, n2] : Array Value)[j]? = some L[j].2 := fun j hj => by
    subst hL
    have : j = 0 ∨ j = 1 := by simp at hj; omega
    rcases this with rfl | rfl <;> rfl
  have hLr : ∀ p ∈ L, Rep w h p.1 p.2 ∧ WF h p.1 := fun p hp => by
    subst hL
    simp only [List.mem_cons, List.not_mem_nil, or_false] at hp
    rcases hp with rfl | rfl
    · exact ⟨h1, hw1⟩
    · exact ⟨h2, hw2⟩
  obtain ⟨I, hI⟩ : ∃ I : KV, ∀ z wl, I z wl ↔ ∃ (j : Nat) (xs : List Value), z = .int .i64 j ∧ j ≤ 2 ∧ Frm (fun _ => False) w wl ∧ Rw wl 286 2 w.heap.size 2 xs ∧ xs.length = 4 ∧ xs.take (j * 2) = els h (L.take j) := ⟨_, fun _ _ => Iff.rfl⟩
  simp [-getElem?_pos, -Array.getElem?_eq_getElem, -Int.natCast_add, -op_st_286, -op_st_208, -op_st_3, -op_st_101, -op_alloc_4, -op_lit_224_1, -op_lit_353_2]
  refine Lp.intro I (fun z _ => 2 - nOf z) ⟨(hI _ _).2 ⟨0, zs, rfl, by omega, k1, r1, by omega, rfl⟩, ?_⟩
  intro wl z hz'
  obtain ⟨j, xs, rfl, hj, hf, hr, hx, hxt⟩ := (hI _ _).1 hz'
  simp only [op_lss, Br_dec]
  refine ⟨fun hlt => ?_, fun hge => ?_⟩
  · have hjl : j < L.length := by omega
    have hql := hf.get hq fun h => h
    have hqj := hLq j hjl
    obtain ⟨hrj, hwj⟩ := hLr _ (List.getElem_mem hjl)
    obtain ⟨u, p, hup⟩ := hrj.iface
    rw [hup] at hqj
    simp [-getElem?_pos, -Array.getElem?_eq_getElem, -Int.natCast_add, -op_st_286, -op_st_208, -op_st_3, -op_st_101, -op_alloc_4, -op_lit_224_1, -op_lit_353_2, hql, hqj]
    refine ⟨by omega, ?_⟩
    rw [hup] at hrj
    refine minKey_ok (hrj.still hf) hwj fun w2 m f2 hm => ?_
    try simp [-getElem?_pos, -Array.getElem?_eq_getElem, -Int.natCast_add, -op_st_286, -op_st_208, -op_st_3, -op_st_101, -op_alloc_4, -op_lit_224_1, -op_lit_353_2]
    refine ⟨by omega, op_storeX rfl (hr.frame f2 fun h => h) (by omega) fun w3 k3 z3 r3 => ?_⟩
    try simp [-getElem?_pos, -Array.getElem?_eq_getElem, -Int.natCast_add, -op_st_286, -op_st_208, -op_st_3, -op_st_101, -op_alloc_4, -op_lit_224_1, -op_lit_353_2]
    rw [show IntKind.i64.wrap ((j : Int) + 1) = ((j + 1 : Nat) : Int) from by rw [IntKind.wrap_i64]; omega]
    have hs := hf.size
    refine ⟨(hI _ _).2 ⟨j + 1, _, rfl, by omega, (hf.no f2).old k3 fun b hb => .inr (by omega), r3, by rw [lw_len (by simp; omega), hx], ?_⟩, by simp only [nOf_int]; omega⟩
    have e1 : els h (L.take (j + 1)) = els h (L.take j) ++ [ek m, .iface u p] := by
      rw [List.take_add_one, List.getElem?_eq_getElem hjl, Option.toList_some]
      unfold els
      rw [List.flatMap_append, List.flatMap_cons, List.flatMap_nil, List.append_nil, ← el_of hm, ← hup]
    rw [e1, ← hxt]
    unfold lw
    rw [List.take_append_of_le_length (by simp; omega), List.take_of_length_le (by simp; omega)]
  · obtain rfl : j = 2 := by omega
    have hxs : xs = els h L := by
      rw [List.take_of_length_le (by omega), List.take_of_length_le (by omega)] at hxt; exact hxt
    subst hxs
    try simp [-getElem?_pos, -Array.getElem?_eq_getElem, -Int.natCast_add, -op_st_286, -op_st_208, -op_st_3, -op_st_101, -op_alloc_4, -op_lit_224_1, -op_lit_353_2]
    refine op_box_ok fun w2 k2 z2 b2 => ?_
    simp only [cells_agg] at b2
    have hsg := hr.sg (n := 2) (by rw [els_len, hLn]) (Nat.le_refl _)
    exact hK w2 _ (hf.no k2) ⟨_, w.heap.size, 0, 2, L, rfl, b2, by rw [hL]; rfl, hsg.still k2, fun p hp => ((hLr p hp).1.still hf).still k2⟩
theorem mapSet_ok (hl : Lin lt) (hm : RepM w b lt r) (hok : Ok lt n r) (hn : (rL r).length < 2 ^ 60)
    (hK : ∀ w' b', Frm (fun _ => False) w w' → w.heap.size ≤ b' → RepM w' b' lt (some (setR lt r k x)) → K (ptr b') w') : Calls Tryz.prog 80 #[ptr b, ek k, ev x] w (ret K Kp) := by
  refine vc80_calls ?_
  delta vc80
  simp only [call_146]
  refine vc146_calls ?_
  delta vc146
  obtain ⟨rv, cv, h1, h2, h3⟩ := hm
  have hsz := put_len (lt := lt) (L := rL r) (k := k) (v := x)
  have hspec := setR_spec hl hok k x
  simp [-getElem?_pos, -Array.getElem?_eq_getElem, -Int.natCast_add, -op_st_286, -op_st_208, -op_st_3, -op_st_101, -op_alloc_4, -op_lit_224_1, -op_lit_353_2, ptr, h1]
  obtain ⟨J, hJ⟩ : ∃ J : KV, ∀ e wl, J e wl ↔ IsC e lt ∧ Frm (fun _ => False) w wl := ⟨_, fun _ _ => Iff.rfl⟩
  refine Jn.intro J ⟨?_, ?_⟩
  · rcases h3 with h3 | ⟨rfl, hd, _⟩
    · obtain ⟨u, p, rfl⟩ := h3.iface
      simp [-getElem?_pos, -Array.getElem?_eq_getElem, -Int.natCast_add, -op_st_286, -op_st_208, -op_st_3, -op_st_101, -op_alloc_4, -op_lit_224_1, -op_lit_353_2]
      exact (hJ _ _).2 ⟨h3, Frm.refl⟩
    · simp [-getElem?_pos, -Array.getElem?_eq_getElem, -Int.natCast_add, -op_st_286, -op_st_208, -op_st_3, -op_st_101, -op_alloc_4, -op_lit_224_1, -op_lit_353_2]
      exact hd fun w' cv hf hc => (hJ _ _).2 ⟨hc, hf⟩
  · intro w1 cv1 hj
    obtain ⟨hC, f1⟩ := (hJ _ _).1 hj
    clear hJ hj J
    have a1 := f1.get h1 fun h => h
    have r1 := h2.still f1
    have c1 := CmpOk.one (lt := lt) (r := none) (.inl hC)
    obtain ⟨J, hJ⟩ : ∃ J : KV, ∀ e wl, J e wl ↔ ∃ ob, e = ptr ob ∧ w.heap.size ≤ ob ∧ Frm (fun _ => False) w wl ∧ wl.heap[ob]? = some (.cells #[.int .i64 (rL r).length, rv, cv] 210 (0, 0)) := ⟨_, fun _ _ => Iff.rfl⟩
    have s1 := f1.size
    refine Jn.intro J ⟨clone_ok a1 (fun u hu => ?_) fun w2 k2 z2 b2 => (hJ _ _).2 ⟨_, rfl, s1, f1.no k2, b2⟩, ?_⟩
    · simp only [List.mem_toArray, List.mem_cons, List.not_mem_nil, or_false] at hu
      rcases hu with rfl | rfl | rfl
      · rfl
      · exact h2.one
      · exact h3.one
    · intro w2 o2 hj
      obtain ⟨ob, rfl, hob, f2, b2⟩ := (hJ _ _).1 hj
      clear hJ hj J
      have a2 := f2.get h1 fun h => h
      have hbo : b ≠ ob := by have := lt_of_get h1; omega
      simp [-getElem?_pos, -Array.getElem?_eq_getElem, -Int.natCast_add, -op_st_286, -op_st_208, -op_st_3, -op_st_101, -op_alloc_4, -op_lit_224_1, -op_lit_353_2, ptr]
      refine op_store_ok (by kernel_rfl) b2 (by simp) c1 fun w3 k3 z3 b3 => ?_
      have f3 := f2.old k3 fun b hb => .inr (by omega)
      have a3 := f3.get h1 fun h => h
      have b3 : w3.heap[ob]? = some (.cells #[.int .i64 (rL r).length, rv, cv1] 210 (0, 0)) := by simpa using b3
      match r, h2, hok with
      | none, h2, _ =>
        obtain rfl : rv = .nilIface := h2
        simp [-getElem?_pos, -Array.getElem?_eq_getElem, -Int.natCast_add, -op_st_286, -op_st_208, -op_st_3, -op_st_101, -op_alloc_4, -op_lit_224_1, -op_lit_353_2, a3]
        refine op_store_ok (by kernel_rfl) b3 (by simp) rfl fun w4 k4 z4 b4 => ?_
        refine op_lit_ok lit_224_1 fun w5 k5 z5 b5 => ?_
        simp [-getElem?_pos, -Array.getElem?_eq_getElem, -Int.natCast_add, -op_st_286, -op_st_208, -op_st_3, -op_st_101, -op_alloc_4, -op_lit_224_1, -op_lit_353_2]
        refine op_box_ok fun w6 k6 z6 b6 => ?_
        simp only [cells_agg] at b6
        have f4 := f3.old k4 fun b hb => .inr (by omega)
        have g6 := k5.no k6
        have f6 := f4.no g6
        have b4' := g6.get b4 fun h => h
        have hl4 := lt_of_get b4
        refine op_store_ok (by kernel_rfl) b4' (by simp) rfl fun w7 k7 z7 b7 => ?_
        have f7 := f6.old k7 fun b hb => .inr (by omega)
        refine hK w7 ob f7 hob ⟨.iface 220 (ptr w5.heap.size), cv1, by simpa [rL, setR, toL, ptr] using b7, ?_, .inl hC⟩
        refine ⟨_, w4.heap.size, 0, 1, rfl, k7.get b6 (by omega), _, (k6.get b5 fun h => h) |> fun q => k7.get q (by omega), rfl, Nat.le_refl _, by simp, rfl, by decide⟩
      | some (h, t), h2, hok =>
        obtain ⟨o1, o2, o3, o4⟩ := hok
        have hr : Rep w h t rv := h2
        obtain ⟨u, p, rfl⟩ := hr.iface
        simp [-getElem?_pos, -Array.getElem?_eq_getElem, -Int.natCast_add, -op_st_286, -op_st_208, -op_st_3, -op_st_101, -op_alloc_4, -op_lit_224_1, -op_lit_353_2, a3]
        refine op_alloc_ok (z := .bool false) (by kernel_rfl) fun w4 k4 z4 fl4 => ?_
        have hl3 := lt_of_get b3
        have f4 := f3.no k4
        have a4 := f4.get h1 fun h => h
        have b4 := k4.get b3 fun h => h
        simp [-getElem?_pos, -Array.getElem?_eq_getElem, -Int.natCast_add, -op_st_286, -op_st_208, -op_st_3, -op_st_101, -op_alloc_4, -op_lit_224_1, -op_lit_353_2, a4]
        obtain ⟨g1, g2, g3, g4⟩ := setT_spec hl h t k x o1 o2
        have hl12 : (setT lt h t k x).length = 1 ∨ (setT lt h t k x).length = 2 := by have := List.length_pos_iff.2 g4; omega
        refine set_ok (rb := w3.heap.size) (r0 := false) hC (hr.still f4) o1 o2 fl4 fun w5 ns k5 fl5 hrs => ?_
        have f5 := f4.old k5 fun b hb => .inr (by have := f3.size; omega)
        have b5 := k5.get b4 (by omega)
        rw [Bool.false_or] at fl5
        obtain ⟨J, hJ⟩ : ∃ J : KV, ∀ e wl, J e wl ↔ RepR wl (some (setR lt (some (h, t)) k x)) e ∧ Frm (fun _ => False) w5 wl := ⟨_, fun _ _ => Iff.rfl⟩
        have hJ1 : ∃ e1 e2, two ns = .tuple #[e1, e2] := by
          rcases hl12 with h' | h'
          · obtain ⟨s, n, _, rfl, _⟩ := hrs.one h'; exact ⟨_, _, rfl⟩
          · obtain ⟨s, n, s2, n2, _, rfl, _⟩ := hrs.pair h'; exact ⟨_, _, rfl⟩
        obtain ⟨e1, e2, he⟩ := hJ1
        rw [he]
        simp [-getElem?_pos, -Array.getElem?_eq_getElem, -Int.natCast_add, -op_st_286, -op_st_208, -op_st_3, -op_st_101, -op_alloc_4, -op_lit_224_1, -op_lit_353_2]
        refine Jn.intro J ⟨?_, ?_⟩
        · rcases hl12 with h' | h'
          · obtain ⟨s, n, hs1, rfl, hn1⟩ := hrs.one h'
            simp only [two, Value.tuple.injEq, Array.mk.injEq, List.cons.injEq, and_true] at he
            obtain ⟨rfl, rfl⟩ := he
            simp [-getElem?_pos, -Array.getElem?_eq_getElem, -Int.natCast_add, -op_st_286, -op_st_208, -op_st_3, -op_st_101, -op_alloc_4, -op_lit_224_1, -op_lit_353_2]
            refine (hJ _ _).2 ⟨?_, Frm.refl⟩
            rw [setR, hs1]; exact hn1
          · obtain ⟨s, n, s2, n2, hs1, rfl, hn1, hn2⟩ := hrs.pair h'
            simp only [two, Value.tuple.injEq, Array.mk.injEq, List.cons.injEq, and_true] at he
            obtain ⟨rfl, rfl⟩ := he
            obtain ⟨u1, p1, rfl⟩ := hn1.iface
            obtain ⟨u2, p2, rfl⟩ := hn2.iface
            simp [-getElem?_pos, -Array.getElem?_eq_getElem, -Int.natCast_add, -op_st_286, -op_st_208, -op_st_3, -op_st_101, -op_alloc_4, -op_lit_224_1, -op_lit_353_2]
            refine op_lit_ok (lit_353_2 rfl rfl) fun w6 k6 z6 b6 => ?_
            refine newBr_ok b6 (hn1.still k6) (hn2.still k6) (g2 s (by rw [hs1]; simp)) (g2 s2 (by rw [hs1]; simp)) fun w7 b' k7 hr7 => ?_
            refine (hJ _ _).2 ⟨?_, k6.no k7⟩
            rw [setR, hs1]; exact hr7
        · intro w6 rt hj
          obtain ⟨hr6, f6⟩ := (hJ _ _).1 hj
          have one6 := hr6.one
          have g6 := f5.no f6
          have a6 := g6.get h1 fun h => h
          have b6 := f6.get b5 fun h => h
          have fl6 := f6.get (show w5.heap[w3.heap.size]? = _ from fl5) fun h => h
          have hl6 := lt_of_get b6
          simp [-getElem?_pos, -Array.getElem?_eq_getElem, -Int.natCast_add, -op_st_286, -op_st_208, -op_st_3, -op_st_101, -op_alloc_4, -op_lit_224_1, -op_lit_353_2, a6]
          refine op_store_ok (by kernel_rfl) b6 (by simp) rfl fun w7 k7 z7 b7 => ?_
          refine op_store_ok (by kernel_rfl) b7 (by simp) one6 fun w8 k8 z8 b8 => ?_
          have g8 := (g6.old k7 fun b hb => .inr (by omega)).old k8 fun b hb => .inr (by omega)
          have fl8 := k8.get (k7.get fl6 (by omega)) (by omega)
          have b8 : w8.heap[ob]? = some (.cells #[.int .i64 (rL (some (h, t))).length, rt, cv1] 210 (0, 0)) := by simpa using b8
          have b7' : w7.heap[ob]? = some (.cells #[.int .i64 (rL (some (h, t))).length, .iface u p, cv1] 210 (0, 0)) := by simpa using b7
          have hr8 : RepR w8 (some (setR lt (some (h, t)) k x)) rt := (hr6.off (off_O b6) k7).off (off_O b7') k8
          have hlen : (rL (some (setR lt (some (h, t)) k x))).length = (rL (some (h, t))).length + if has lt (toL h t) k then 0 else 1 := by rw [hspec.1, hsz]; rfl
          simp [-getElem?_pos, -Array.getElem?_eq_getElem, -Int.natCast_add, -op_st_286, -op_st_208, -op_st_3, -op_st_101, -op_alloc_4, -op_lit_224_1, -op_lit_353_2, fl8]
          cases hh : has lt (toL h t) k with
          | true =>
            simp [-getElem?_pos, -Array.getElem?_eq_getElem, -Int.natCast_add, -op_st_286, -op_st_208, -op_st_3, -op_st_101, -op_alloc_4, -op_lit_224_1, -op_lit_353_2]
            rw [hh] at hlen
            refine hK w8 ob g8 hob ⟨rt, cv1, ?_, hr8, .inl hC⟩
            rw [hlen]; simpa using b8
          | false =>
            rw [hh] at hlen
            simp [-getElem?_pos, -Array.getElem?_eq_getElem, -Int.natCast_add, -op_st_286, -op_st_208, -op_st_3, -op_st_101, -op_alloc_4, -op_lit_224_1, -op_lit_353_2, b8]
            refine op_store_ok (by kernel_rfl) b8 (by simp) rfl fun w9 k9 z9 b9 => ?_
            refine hK w9 ob (g8.old k9 fun b hb => .inr (by omega)) hob ⟨rt, cv1, ?_, ?_, .inl hC⟩
            · rw [hlen]
              rw [show IntKind.i64.wrap (((rL (some (h, t))).length : Int) + 1) = (((rL (some (h, t))).length + 1 : Nat) : Int) from by rw [IntKind.wrap_i64]; omega] at b9
              simpa using b9
            · exact hr8.off (off_O b8) k9
end Go.Proofs.YtodjijfblgnfmaaGreatDoor.I
end
section
namespace Go.Proofs.YtodjijfblgnfmaaGreatDoor.I
open Go.Vc Go.Proofs Go.Proofs.YtodjijfblgnfmaaGreatDoor Go.Vc.Bt
variable {w w' : World} {cv : Value} {t : Tr} {K : KV} {Kp : KP} {lt : Ky → Ky → Bool} {k : Ky} {rb n : Nat} {b h : Nat} {r : Root Ky Vl}
theorem mapDel_ok (hl : Lin lt) (hm : RepM w b lt r) (hok : Ok lt n r) (hn : (rL r).length < 2 ^ 60)
    (hK : ∀ w' b', Frm (fun _ => False) w w' → RepM w' b' lt (delR lt r k) → K (ptr b') w') : Calls Tryz.prog 81 #[ptr b, ek k] w (ret K Kp) := by
  refine vc81_calls ?_
  delta vc81
  simp only [call_147]
  refine vc147_calls ?_
  delta vc147
  have hm0 := hm
  obtain ⟨rv, cv, h1, h2, h3⟩ := hm
  match r, h2, h3, hok with
  | none, h2, h3, _ =>
    obtain rfl : rv = .nilIface := h2
    simp [-getElem?_pos, -Array.getElem?_eq_getElem, -Int.natCast_add, -op_st_208, -op_st_3, -op_alloc_4, ptr, h1]
    exact hK w b Frm.refl hm0
  | some (h, t), h2, h3, hok =>
    have hC : IsC cv lt := h3.resolve_right fun h => nomatch h.2.2
    obtain ⟨o1, o2, o3, o4⟩ := hok
    have hr : Rep w h t rv := h2
    obtain ⟨u, p, rfl⟩ := hr.iface
    have hcv := CmpOk.one h3
    simp [-getElem?_pos, -Array.getElem?_eq_getElem, -Int.natCast_add, -op_st_208, -op_st_3, -op_alloc_4, ptr, h1]
    refine op_alloc_ok (z := .bool false) (by kernel_rfl) fun w1 k1 z1 b1 => ?_
    have a1 := k1.get h1 fun h => h
    simp [-getElem?_pos, -Array.getElem?_eq_getElem, -Int.natCast_add, -op_st_208, -op_st_3, -op_alloc_4, a1]
    refine del_ok (rb := w.heap.size) hC ((hr.still k1).still (Frm.drew _)) o1 o2 (by simpa [flag, Value.cells] using b1) (fun w2 k2 hh fl2 => ?_) fun w2 v2 k2 hh fl2 hr2 => ?_
    · have f2 := k1.old (Frm.dr k2) fun b hb => .inr (by omega)
      have fl2' : w2.heap[w.heap.size]? = some (.cells #[.bool false] 4 (0, 0)) := fl2
      simp [-getElem?_pos, -Array.getElem?_eq_getElem, -Int.natCast_add, -op_st_208, -op_st_3, -op_alloc_4, fl2']
      have e : delR lt (some (h, t)) k = some (h, t) := by rw [delR, delT_absent hl h t k o1 o2 hh]; rfl
      exact hK w2 b f2 (by rw [e]; exact hm0.still f2)
    · have f2 := k1.old (Frm.dr k2) fun b hb => .inr (by omega)
      have fl2' : w2.heap[w.heap.size]? = some (.cells #[.bool true] 4 (0, 0)) := fl2
      have a2 := f2.get h1 fun h => h
      have hd : RepR w2 (delR lt (some (h, t)) k) v2 := by
        rw [delR]
        cases hdd : delT lt h t k with
        | none => rw [hdd] at hr2; exact hr2
        | some s => rw [hdd] at hr2; exact hr2
      have hlen : (rL (delR lt (some (h, t)) k)).length = (rL (some (h, t))).length - 1 := by
        have hs := (delR_spec hl (n := n) (r := some (h, t)) ⟨o1, o2, o3, o4⟩ k).1
        rw [hs]
        have hh' : has lt (rL (some (h, t))) k = true := hh
        unfold rem
        rw [if_pos hh', List.length_eraseIdx, if_pos (has_lt hh')]
      have hpos : 0 < (rL (some (h, t))).length := by
        have := has_lt (show has lt (rL (some (h, t))) k = true from hh); omega
      simp [-getElem?_pos, -Array.getElem?_eq_getElem, -Int.natCast_add, -op_st_208, -op_st_3, -op_alloc_4, fl2']
      refine clone_ok a2 (fun u' hu => ?_) fun w3 k3 z3 b3 => ?_
      · simp only [List.mem_toArray, List.mem_cons, List.not_mem_nil, or_false] at hu
        rcases hu with rfl | rfl | rfl
        · rfl
        · rfl
        · exact hcv
      have a3 := k3.get a2 fun h => h
      simp [-getElem?_pos, -Array.getElem?_eq_getElem, -Int.natCast_add, -op_st_208, -op_st_3, -op_alloc_4, ptr, a3]
      have h2s := lt_of_get a2
      have f3 := f2.no k3
      have s2 := f2.size
      refine op_store_ok (by kernel_rfl) b3 (by simp) rfl fun w4 k4 z4 b4 => ?_
      have b4 : w4.heap[w2.heap.size]? = some (.cells #[.int .i64 ((rL (some (h, t))).length - 1 : Nat), .iface u p, cv] 210 (0, 0)) := by
        rw [show IntKind.i64.wrap (((rL (some (h, t))).length : Int) - 1) = (((rL (some (h, t))).length - 1 : Nat) : Int) from by rw [IntKind.wrap_i64]; omega] at b4
        simpa using b4
      have hd4 := (hd.still k3).off (off_O b3) k4
      refine op_store_ok (by kernel_rfl) b4 (by simp) hd.one fun w5 k5 z5 b5 => ?_
      have hd5 := hd4.off (off_O b4) k5
      refine hK w5 w2.heap.size ((f3.old k4 fun b hb => .inr (by omega)).old k5 fun b hb => .inr (by omega)) ⟨v2, cv, ?_, hd5, .inl hC⟩
      rw [hlen]; simpa using b5
end Go.Proofs.YtodjijfblgnfmaaGreatDoor.I
end
section
namespace Go.Vc.Bt
section
variable {α : Type} [DecidableEq α] {lt : α → α → Bool}
theorem Lin.flip (h : Lin lt) : Lin (fun a b => lt b a) := ⟨h.irr, fun hab hbc => h.tr hbc hab, fun hab hba => (h.tri hba hab)⟩
def by1 (f : α → Int) (lt : α → α → Bool) (a b : α) : Bool := if f a = f b then lt a b else decide (f a < f b)
theorem Lin.by1 (h : Lin lt) (f : α → Int) : Lin (Bt.by1 f lt) := by
  refine ⟨fun a => by simp [Bt.by1, h.irr], fun {a b c} hab hbc => ?_, fun {a b} hab hba => ?_⟩
  · unfold Bt.by1 at *
    split at hab <;> split at hbc
    · rename_i h1 h2
      rw [if_pos (by omega)]; exact h.tr hab hbc
    · rename_i h1 h2
      simp only [decide_eq_true_eq] at hbc
      rw [if_neg (by omega)]; exact decide_eq_true (by omega)
    · rename_i h1 h2
      simp only [decide_eq_true_eq] at hab
      rw [if_neg (by omega)]; exact decide_eq_true (by omega)
    · simp only [decide_eq_true_eq] at hab hbc
      rw [if_neg (by omega)]; exact decide_eq_true (by omega)
  · unfold Bt.by1 at *
    by_cases e : f a = f b
    · rw [if_pos e] at hab; rw [if_pos e.symm] at hba; exact h.tri hab hba
    · rw [if_neg e] at hab; rw [if_neg (fun h => e h.symm)] at hba
      simp only [decide_eq_false_iff_not] at hab hba
      omega
def ltInt (a b : Int) : Bool := decide (a < b)
theorem lin_int : Lin ltInt := ⟨fun a => by simp [ltInt], fun hab hbc => by simp only [ltInt, decide_eq_true_eq] at *; omega, fun hab hba => by simp only [ltInt, decide_eq_false_iff_not] at *; omega⟩
end
end Go.Vc.Bt
end
section
namespace Go.Vc.Bt
theorem less_irr : ∀ x : List UInt8, Op.bytesLess x x = false
  | [] => rfl
  | a :: x => by simp [Op.bytesLess, less_irr x, UInt8.lt_irrefl]
theorem less_tr : ∀ x y z : List UInt8, Op.bytesLess x y = true → Op.bytesLess y z = true → Op.bytesLess x z = true
  | [], [], _, h, _ => by simp [Op.bytesLess] at h
  | [], _ :: _, [], _, h => by simp [Op.bytesLess] at h
  | [], _ :: _, _ :: _, _, _ => by simp [Op.bytesLess]
  | _ :: _, [], _, h, _ => by simp [Op.bytesLess] at h
  | _ :: _, _ :: _, [], _, h => by simp [Op.bytesLess] at h
  | a :: x, b :: y, c :: z, h1, h2 => by
    simp only [Op.bytesLess, Bool.or_eq_true, decide_eq_true_eq, Bool.and_eq_true, beq_iff_eq] at h1 h2 ⊢
    rcases h1 with h1 | ⟨rfl, h1⟩
    · rcases h2 with h2 | ⟨rfl, h2⟩
      · exact .inl (UInt8.lt_trans h1 h2)
      · exact .inl h1
    · rcases h2 with h2 | ⟨rfl, h2⟩
      · exact .inl h2
      · exact .inr ⟨rfl, less_tr x y z h1 h2⟩
theorem less_tri : ∀ x y : List UInt8, Op.bytesLess x y = false → Op.bytesLess y x = false → x = y
  | [], [], _, _ => rfl
  | [], _ :: _, h, _ => by simp [Op.bytesLess] at h
  | _ :: _, [], _, h => by simp [Op.bytesLess] at h
  | a :: x, b :: y, h1, h2 => by
    simp only [Op.bytesLess, Bool.or_eq_false_iff, decide_eq_false_iff_not, Bool.and_eq_false_iff, beq_eq_false_iff_ne] at h1 h2
    have e : a = b := UInt8.le_antisymm (UInt8.not_lt.1 h2.1) (UInt8.not_lt.1 h1.1)
    subst e
    have h1' : Op.bytesLess x y = false := h1.2.resolve_left fun h => h rfl
    have h2' : Op.bytesLess y x = false := h2.2.resolve_left fun h => h rfl
    rw [less_tri x y h1' h2']
theorem Lin.comap {α β : Type} [DecidableEq α] [DecidableEq β] {lt : β → β → Bool} (h : Lin lt) {f : α → β} (hf : ∀ a b, f a = f b → a = b) : Lin (fun a b => lt (f a) (f b)) :=
  ⟨fun a => h.irr _, fun h1 h2 => h.tr h1 h2, fun h1 h2 => hf _ _ (h.tri h1 h2)⟩
theorem lin_less : Lin Op.bytesLess := ⟨less_irr, fun {a b c} h1 h2 => less_tr a b c h1 h2, fun {a b} h1 h2 => less_tri a b h1 h2⟩
theorem compare_less : ∀ x y : List UInt8, Lib.compareBytes x y = cmp Op.bytesLess x y
  | [], [] => rfl
  | [], _ :: _ => by simp [Lib.compareBytes, cmp, Op.bytesLess]
  | _ :: _, [] => by simp [Lib.compareBytes, cmp, Op.bytesLess]
  | a :: x, b :: y => by
    have ih := compare_less x y
    unfold cmp at ih ⊢
    simp only [Lib.compareBytes, Op.bytesLess, Bool.or_eq_true, decide_eq_true_eq, Bool.and_eq_true, beq_iff_eq]
    by_cases h1 : a < b
    · simp [h1]
    · by_cases h2 : b < a
      · have hne : ¬ a = b := fun e => by subst e; exact UInt8.lt_irrefl _ h2
        simp [h1, h2, hne]
      · have e : a = b := UInt8.le_antisymm (UInt8.not_lt.1 h2) (UInt8.not_lt.1 h1)
        subst e
        simp only [UInt8.lt_irrefl, if_false, false_or, true_and]
        exact ih
def lessB (a b : ByteArray) : Bool := Op.bytesLess a.toList b.toList
theorem lin_lessB : Lin lessB := lin_less.comap (f := ByteArray.toList) fun a b h => by
  rw [Lib.toList_data, Lib.toList_data] at h
  cases a; cases b
  congr
  exact Array.ext' h
theorem compare_lessB (a b : ByteArray) : Lib.compareBytes a.data.toList b.data.toList = cmp lessB a b := by
  rw [compare_less]; unfold cmp lessB; rw [Lib.toList_data, Lib.toList_data]
end Go.Vc.Bt
end
section
namespace Go.Proofs.YtodjijfblgnfmaaGreatDoor.I
open Go.Vc Go.Proofs Go.Proofs.YtodjijfblgnfmaaGreatDoor Go.Vc.Bt
variable {w w' : World} {K : KV} {Kp : KP} {kd : Nat} {n : Int}
theorem cmp_by1 {α : Type} {f : α → Int} {lt : α → α → Bool} (a b : α) : Bt.cmp (by1 f lt) a b = if f a = f b then Bt.cmp lt a b else Bt.cmp ltInt (f a) (f b) := by
  by_cases h : f a = f b
  · have e1 : by1 f lt a b = lt a b := by unfold by1; rw [if_pos h]
    have e2 : by1 f lt b a = lt b a := by unfold by1; rw [if_pos h.symm]
    unfold Bt.cmp; rw [e1, e2, if_pos h]
  · have e1 : by1 f lt a b = ltInt (f a) (f b) := by unfold by1; rw [if_neg h]; rfl
    have e2 : by1 f lt b a = ltInt (f b) (f a) := by unfold by1; rw [if_neg fun e => h e.symm]; rfl
    unfold Bt.cmp; rw [e1, e2, if_neg h]
theorem tmod_pos {a m : Int} (hm : 0 < m) : -m < a.tmod m ∧ a.tmod m < m ∧ a % m = if a.tmod m < 0 then a.tmod m + m else a.tmod m := by
  have h1 := Int.tmod_lt_of_pos a hm
  have h2 := Int.lt_tmod_of_pos a hm
  have h3 : a % m = (a.tmod m) % m := by
    conv => lhs; rw [← Int.mul_tdiv_add_tmod a m]
    rw [Int.add_comm, Int.add_mul_emod_self_left]
  refine ⟨h2, h1, ?_⟩
  rw [h3]
  split
  · rename_i h
    rw [← Int.add_emod_right, Int.emod_eq_of_lt (by omega) (by omega)]
  · rename_i h
    exact Int.emod_eq_of_lt (by omega) h1
theorem tmod_any {a n : Int} (hn : n ≠ 0) : a % n = if a.tmod n < 0 then (if 0 < n then a.tmod n + n else a.tmod n - n) else a.tmod n := by
  by_cases h : 0 < n
  · rw [(tmod_pos h).2.2]; simp [h]
  · obtain ⟨m, rfl⟩ : ∃ m, n = -m := ⟨-n, by omega⟩
    rw [Int.emod_neg, Int.tmod_neg, (tmod_pos (a := a) (m := m) (by omega)).2.2]
    simp [show ¬ 0 < -m from h]; omega
theorem compared_ok {a b : Int} (hK : K (.int .i64 (Bt.cmp ltInt a b)) w) : Calls Tryz.prog 238 #[.int .i64 a, .int .i64 b] w (ret K Kp) := by
  refine vc238_calls ?_
  delta vc238
  simp only [op_lss, op_gtr, Br_dec]
  unfold Bt.cmp ltInt at hK
  refine ⟨fun h => ?_, fun h => ⟨fun h' => ?_, fun h' => ?_⟩⟩
  · rw [if_pos (decide_eq_true h)] at hK; exact hK
  · rw [if_neg (by simpa using h), if_pos (by simpa using h')] at hK; exact hK
  · rw [if_neg (by simpa using h), if_neg (by simpa using h')] at hK; exact hK
theorem remainder_ok {a : Int} (hn : n ≠ 0) (h1 : -9223372036854775808 ≤ n) (h2 : n ≤ 9223372036854775807) (hK : K (.int .i64 (a % n)) w) : Calls Tryz.prog 240 #[.int .i64 a, .int .i64 n] w (ret K Kp) := by
  refine vc240_calls ?_
  delta vc240
  simp [-getElem?_pos, -Array.getElem?_eq_getElem, -Int.natCast_add, add_spot, and_assoc, Br_dec]
  have ha := tmod_any (a := a) hn
  have hm : -(n.natAbs : Int) < a.tmod n ∧ a.tmod n < n.natAbs := by
    by_cases h : 0 < n
    · have := tmod_pos (a := a) h; omega
    · have := tmod_pos (a := a) (m := -n) (by omega)
      rw [Int.tmod_neg] at this; omega
  refine ⟨hn, fun h => ⟨fun h' => ?_, fun h' => ⟨fun _ => ?_, fun h2 => by omega⟩⟩, fun h => ⟨fun h2 => by omega, fun _ => ?_⟩⟩
  · rw [if_pos h, if_pos h'] at ha
    rw [show IntKind.i64.wrap (a.tmod n + n) = a.tmod n + n from by rw [IntKind.wrap_i64]; omega, ← ha]; exact hK
  · rw [if_pos h, if_neg (by omega)] at ha
    rw [show IntKind.i64.wrap (a.tmod n - n) = a.tmod n - n from by rw [IntKind.wrap_i64]; omega, ← ha]; exact hK
  · rw [if_neg (by omega)] at ha
    rw [← ha]; exact hK
def ordI (kd : Nat) (n : Int) : Int → Int → Bool := if kd = 2 then fun a b => ltInt b a else if kd = 3 ∧ n ≠ 0 then by1 (· % n) ltInt else ltInt
theorem ordI_lin : Lin (ordI kd n) := by
  unfold ordI
  split
  · exact lin_int.flip
  · split
    · exact lin_int.by1 _
    · exact lin_int
def cmpV (kd : Nat) (n : Int) : Value := .iface 146 (.agg #[.int .u8 kd, .int .i64 n])
theorem cmpV_ok (h1 : -9223372036854775808 ≤ n) (h2 : n ≤ 9223372036854775807) : IsC (cmpV kd n) (ordI kd n) where
  lin := ordI_lin
  cmp := fun {a b w K Kp} hK => by
    simp only [cmpV, inv_146_232]
    refine vc232_calls ?_
    simp only [vc232]
    refine op_box_ok fun w1 k1 z1 b1 => ?_
    simp only [cells_agg] at b1
    have hK1 := fun w' hf => hK w' (k1.no hf)
    unfold ordI at hK1
    by_cases e2 : kd = 2
    · subst e2
      rw [if_pos rfl] at hK1
      simp [-getElem?_pos, -Array.getElem?_eq_getElem, -Int.natCast_add, b1, ek]
      exact compared_ok (hK1 w1 Frm.refl)
    · rw [if_neg e2] at hK1
      have e2' : ¬ ((kd : Int) = 2) := by omega
      by_cases e3 : kd = 3
      · subst e3
        by_cases e0 : n = 0
        · subst e0
          rw [if_neg (by simp)] at hK1
          simp [-getElem?_pos, -Array.getElem?_eq_getElem, -Int.natCast_add, b1, ek]
          exact compared_ok (hK1 w1 Frm.refl)
        · rw [if_pos ⟨rfl, e0⟩] at hK1
          have hd := hK1 w1.drew (Frm.drew _)
          simp [-getElem?_pos, -Array.getElem?_eq_getElem, -Int.natCast_add, b1, ek, e0]
          refine remainder_ok e0 h1 h2 ?_
          simp [-getElem?_pos, -Array.getElem?_eq_getElem, -Int.natCast_add, b1]
          refine remainder_ok e0 h1 h2 ?_
          simp [-getElem?_pos, -Array.getElem?_eq_getElem, -Int.natCast_add, add_spot, and_assoc, Br_dec]
          rw [cmp_by1] at hd
          refine ⟨fun h => ?_, fun h => ?_⟩
          · rw [if_neg h] at hd; exact compared_ok hd
          · rw [if_pos h] at hd; exact compared_ok hd
      · have e3' : ¬ ((kd : Int) = 3) := by omega
        rw [if_neg (fun h => e3 h.1)] at hK1
        simp [-getElem?_pos, -Array.getElem?_eq_getElem, -Int.natCast_add, b1, ek, e2', e3']
        exact compared_ok (hK1 w1 Frm.refl)
  nilC := by intro K1; simp [cmpV]
  iface := ⟨_, _, rfl⟩
end Go.Proofs.YtodjijfblgnfmaaGreatDoor.I
end
section
namespace Go.Vc
variable {S : Sig} {all rest : List Oper} {o : Oper} {e : Env} {k : Known} {w : World} {K : KE} {Kp : KP}
def plain : Op → Bool
  | .move _ | .assign _ | .pick .. => false
  | _ => true
theorem ops_op {x : VOp} (hg : o.guard = none) (hp : plain o.op = true) (hx : toV (evalE e) o.type o.op = some x)
    (h : S.op x w (fun v w' => opsVC S all rest (put e o.dst v) (putK k o.dst none) w' K Kp) Kp) : opsVC S all (o :: rest) e k w K Kp := by
  simp only [opsVC, hg]
  unfold opVC
  split
  · rename_i h1; rw [h1] at hp; cases hp
  · rename_i h1; rw [h1] at hp; cases hp
  · rename_i h1; rw [h1] at hp; cases hp
  · rw [hx]; exact h
theorem ops_pick {c x y : Operand} {b : Bool} (hg : o.guard = none) (hp : o.op = .pick c x y) (hk : kn k c = none) (hb : evalE e c = .bool b)
    (h : opsVC S all rest (put e o.dst (evalE e (bif b then x else y))) (putK k o.dst (kn k (bif b then x else y))) w K Kp) : opsVC S all (o :: rest) e k w K Kp := by
  simp only [opsVC, hg]
  unfold opVC
  rw [hp]
  simp only [hk]
  refine ⟨b, hb, fun ht => ?_, fun hf => ?_⟩
  · subst ht; exact h
  · subst hf; exact h
theorem ops_move {x : Operand} (hg : o.guard = none) (hp : o.op = .move x ∨ o.op = .assign x) (h : opsVC S all rest (put e o.dst (evalE e x)) (putK k o.dst (kn k x)) w K Kp) : opsVC S all (o :: rest) e k w K Kp := by
  simp only [opsVC, hg]
  unfold opVC
  rcases hp with h1 | h1 <;> rw [h1] <;> exact h
theorem ite_no {c : Prop} [Decidable c] {A B : Prop} (hc : ¬ c) (h : B) : if c then A else B := by rw [if_neg hc]; exact h
theorem ite_yes {c : Prop} [Decidable c] {A B : Prop} (hc : c) (h : A) : if c then A else B := by rw [if_pos hc]; exact h
theorem ops_end {Q : QE} (h : K e k w) : opsVC S all [] e k w (thenQ K Q .normal) Kp := h
end Go.Vc
namespace Go.Vc
variable {S : Sig} {e : Env} {k : Known} {w : World} {Q : QE} {Kp : KP} {a b : Code}
theorem fVC_of {fn : Func} {c : Code} {args : List Value} {K : Value → World → Prop} (h : fn.body = some c)
    (hc : codeVC S [] [] c (nthD args) (fun _ => none) w (fun ex e _ w => match ex with
      | .normal => resVC S fn.results.toList e w K
      | .ret => resVC S fn.results.toList e w K
      | _ => False) Kp) : fVC S [] [] fn args w K Kp := by
  unfold fVC
  rw [h]; exact hc
theorem code_seq (h : codeVC S [] [] a e k w (thenQ (fun e k w => codeVC S [] [] b e k w Q Kp) Q) Kp) : codeVC S [] [] (.seq a b) e k w Q Kp := by
  unfold codeVC
  have : (firstRegion b).bind (lk · []) = none := by cases firstRegion b <;> rfl
  rw [this]; exact h
theorem code_region {id : Nat} {ops : Array Oper} (h : opsVC S ops.toList ops.toList e k w (Q .normal) Kp) : codeVC S [] [] (.region id ops false) e k w Q Kp := by
  unfold codeVC; exact h
theorem code_block {id : Nat} (h : codeVC S [] [] a e k w (blockQ id Q) Kp) : codeVC S [] [] (.block id a) e k w Q Kp := by
  unfold codeVC; exact h
theorem code_cond {c : Operand} {t : Bool} (hb : evalE e c = .bool t) (hk : kn k c = none ∨ kn k c = some (some t)) (h : codeVC S [] [] (bif t then a else b) e k w Q Kp) : codeVC S [] [] (.cond c a b) e k w Q Kp := by
  unfold codeVC
  rcases hk with hk | hk
  · rw [hk]
    refine ⟨t, hb, fun ht => ?_, fun hf => ?_⟩
    · subst ht; exact h
    · subst hf; exact h
  · rw [hk]
    cases t <;> exact h
theorem code_ret (h : Q .ret e k w) : codeVC S [] [] .ret e k w Q Kp := h
end Go.Vc
end
section
namespace Go.Vc
variable {P : Program} {w : World} {K : Value → World → Prop} {Kp : KP} {t u : TypeId}
theorem toList_inj {a b : ByteArray} : a.toList = b.toList ↔ a = b := by
  rw [ByteArray.toList_eq, ByteArray.toList_eq]
  constructor
  · intro h
    have : a.data = b.data := Array.toList_inj.1 h
    cases a; cases b; simp_all
  · rintro rfl; rfl
end Go.Vc
end
section
namespace Go.Proofs.YtodjijfblgnfmaaGreatDoor.I
open Go.Vc Go.Proofs Go.Proofs.YtodjijfblgnfmaaGreatDoor Go.Vc.Bt
variable {w w' : World} {K : KV} {Kp : KP}
theorem defCmp_ok {a b : Int} (hK : K (.int .i64 (Bt.cmp ltInt a b)) w) : Calls Tryz.prog 292 #[.int .i64 a, .int .i64 b] w (ret K Kp) := by
  refine vc292_calls ?_
  delta vc292
  simp only [op_lss, op_gtr, Br_dec]
  unfold Bt.cmp ltInt at hK
  refine ⟨fun h => ?_, fun h => ⟨fun h' => ?_, fun h' => ?_⟩⟩
  · rw [if_pos (decide_eq_true h)] at hK; exact hK
  · rw [if_neg (by simpa using h), if_pos (by simpa using h')] at hK; exact hK
  · rw [if_neg (by simpa using h), if_neg (by simpa using h')] at hK; exact hK
def dfltV (p : Addr) : Value := .iface 351 (.pointer (some p))
theorem dfltV_ok (p : Addr) : IsC (dfltV p) (ordI 0 0) where
  lin := ordI_lin
  cmp := fun {a b w K Kp} hK => by
    simp only [dfltV, inv_351_300]
    refine vc300_calls ?_
    simp only [vc300]
    simp [-getElem?_pos, -Array.getElem?_eq_getElem, -Int.natCast_add, ek]
    exact defCmp_ok (hK w Frm.refl)
  nilC := by intro K1; simp [dfltV]
  iface := ⟨_, _, rfl⟩
private theorem mixed : Tryz.prog.follows .mixedOrders = true := by kernel_rfl
set_option maxHeartbeats 4000000 in
theorem newCmp_ok {k : Ky} (hK : ∀ p w', Frm (fun _ => False) w w' → K (dfltV p) w') : Calls Tryz.prog 190 #[ek k] w (ret K Kp) := by
  refine fVC_sound (args := [ek k]) (aL := []) (aJ := []) nice_le mixed Tryz.func190 (by kernel_rfl) ?_
  refine fVC_of (c := _) rfl ?_
  refine code_seq ?_
  refine code_region ?_
  refine ops_move rfl (.inr rfl) ?_
  refine ops_end ?_
  refine code_seq ?_
  refine code_seq ?_
  refine code_region ?_
  refine ops_move rfl (.inl rfl) ?_
  refine ops_op rfl rfl rfl ?_
  refine Eq.mpr (op_mki_2 (v := ek k)) ?_
  refine ops_end ?_
  refine code_block ?_
  refine code_seq ?_
  refine code_region ?_
  refine ops_op rfl rfl rfl ?_
  refine Eq.mpr (op_ta_20_3 (u := 2) (v := ek k)) ?_
  refine ite_no (by decide) ?_
  refine ops_op rfl rfl rfl ?_
  refine Eq.mpr op_ext2_1 ?_
  refine ops_op rfl rfl rfl ?_
  refine Eq.mpr op_ext2_0 ?_
  refine ops_op rfl rfl rfl ?_
  refine Eq.mpr (op_ta_20_337 (u := 2) (v := ek k)) ?_
  refine ite_no (by decide) ?_
  refine ops_op rfl rfl rfl ?_
  refine Eq.mpr op_ext2_1 ?_
  refine ops_op rfl rfl rfl ?_
  refine Eq.mpr op_ext2_0 ?_
  refine ops_op rfl rfl rfl ?_
  refine Eq.mpr (op_ta_20_338 (u := 2) (v := ek k)) ?_
  refine ite_no (by decide) ?_
  refine ops_op rfl rfl rfl ?_
  refine Eq.mpr op_ext2_1 ?_
  refine ops_op rfl rfl rfl ?_
  refine Eq.mpr op_ext2_0 ?_
  refine ops_op rfl rfl rfl ?_
  refine Eq.mpr (op_ta_20_21 (u := 2) (v := ek k)) ?_
  refine ite_no (by decide) ?_
  refine ops_op rfl rfl rfl ?_
  refine Eq.mpr op_ext2_1 ?_
  refine ops_op rfl rfl rfl ?_
  refine Eq.mpr op_ext2_0 ?_
  refine ops_op rfl rfl rfl ?_
  refine Eq.mpr (op_ta_20_2 (u := 2) (v := ek k)) ?_
  refine ite_yes rfl ?_
  refine ops_op rfl rfl rfl ?_
  refine Eq.mpr op_ext2_1 ?_
  refine ops_op rfl rfl rfl ?_
  refine Eq.mpr op_ext2_0 ?_
  refine ops_op rfl rfl rfl ?_
  refine Eq.mpr (op_ta_20_339 (u := 2) (v := ek k)) ?_
  refine ite_no (by decide) ?_
  refine ops_op rfl rfl rfl ?_
  refine Eq.mpr op_ext2_1 ?_
  refine ops_op rfl rfl rfl ?_
  refine Eq.mpr op_ext2_0 ?_
  refine ops_op rfl rfl rfl ?_
  refine Eq.mpr (op_ta_20_5 (u := 2) (v := ek k)) ?_
  refine ite_no (by decide) ?_
  refine ops_op rfl rfl rfl ?_
  refine Eq.mpr op_ext2_1 ?_
  refine ops_op rfl rfl rfl ?_
  refine Eq.mpr op_ext2_0 ?_
  refine ops_op rfl rfl rfl ?_
  refine Eq.mpr (op_ta_20_43 (u := 2) (v := ek k)) ?_
  refine ite_no (by decide) ?_
  refine ops_op rfl rfl rfl ?_
  refine Eq.mpr op_ext2_1 ?_
  refine ops_op rfl rfl rfl ?_
  refine Eq.mpr op_ext2_0 ?_
  refine ops_op rfl rfl rfl ?_
  refine Eq.mpr (op_ta_20_340 (u := 2) (v := ek k)) ?_
  refine ite_no (by decide) ?_
  refine ops_op rfl rfl rfl ?_
  refine Eq.mpr op_ext2_1 ?_
  refine ops_op rfl rfl rfl ?_
  refine Eq.mpr op_ext2_0 ?_
  refine ops_op rfl rfl rfl ?_
  refine Eq.mpr (op_ta_20_227 (u := 2) (v := ek k)) ?_
  refine ite_no (by decide) ?_
  refine ops_op rfl rfl rfl ?_
  refine Eq.mpr op_ext2_1 ?_
  refine ops_op rfl rfl rfl ?_
  refine Eq.mpr op_ext2_0 ?_
  refine ops_op rfl rfl rfl ?_
  refine Eq.mpr (op_ta_20_12 (u := 2) (v := ek k)) ?_
  refine ite_no (by decide) ?_
  refine ops_op rfl rfl rfl ?_
  refine Eq.mpr op_ext2_1 ?_
  refine ops_op rfl rfl rfl ?_
  refine Eq.mpr op_ext2_0 ?_
  refine ops_op rfl rfl rfl ?_
  refine Eq.mpr (op_ta_20_9 (u := 2) (v := ek k)) ?_
  refine ite_no (by decide) ?_
  refine ops_op rfl rfl rfl ?_
  refine Eq.mpr op_ext2_1 ?_
  refine ops_op rfl rfl rfl ?_
  refine Eq.mpr op_ext2_0 ?_
  refine ops_pick (b := false) rfl rfl rfl rfl ?_
  refine ops_pick (b := false) rfl rfl rfl rfl ?_
  refine ops_pick (b := false) rfl rfl rfl rfl ?_
  refine ops_pick (b := false) rfl rfl rfl rfl ?_
  refine ops_pick (b := false) rfl rfl rfl rfl ?_
  refine ops_pick (b := false) rfl rfl rfl rfl ?_
  refine ops_pick (b := true) rfl rfl rfl rfl ?_
  refine ops_pick (b := false) rfl rfl rfl rfl ?_
  refine ops_pick (b := false) rfl rfl rfl rfl ?_
  refine ops_pick (b := false) rfl rfl rfl rfl ?_
  refine ops_pick (b := false) rfl rfl rfl rfl ?_
  refine ops_end ?_
  refine code_cond (t := true) rfl (.inr rfl) ?_
  refine code_seq ?_
  refine code_region ?_
  refine ops_op rfl rfl rfl ?_
  refine Eq.mpr (op_build (v := .agg #[]) (by kernel_rfl)) ?_
  refine ops_op rfl rfl rfl ?_
  refine op_box_ok fun w1 k1 z1 b1 => ?_
  refine ops_op rfl rfl rfl ?_
  refine Eq.mpr (op_mki_351 (v := ptr w.heap.size)) ?_
  refine ops_move rfl (.inr rfl) ?_
  refine ops_end ?_
  refine code_ret ?_
  exact hK _ w1 k1
theorem dflt_ok : Dflt (ordI 0 0) := fun hK => newCmp_ok fun p w' hf => hK w' _ hf (dfltV_ok p)
end Go.Proofs.YtodjijfblgnfmaaGreatDoor.I
end
section
namespace Go.Proofs.YtodjijfblgnfmaaGreatDoor
open Go.Vc Go.Proofs
variable {w : World} {K : KV} {Kp : KP} {K1 : Value → Prop}
@[simp] theorem op_fa_218_0 {p : Addr} : nP.op (.fieldAddr 218 (.pointer (some p)) 0) w K Kp = K (.pointer (some (p.add 0))) w := op_fa (k := .one) (by kernel_rfl)
@[simp] theorem pur_fa_218_0 {p : Addr} : nP.pur (.fieldAddr 218 (.pointer (some p)) 0) K1 = K1 (.pointer (some (p.add 0))) := pur_fa (k := .one) (by kernel_rfl)
@[simp] theorem op_ld_135 {p : Addr} : nP.op (.load 135 (.pointer (some p))) w K Kp = ∃ cs e fz, w.heap[p.block]? = some (.cells cs e fz) ∧ p.spot = none ∧ ∃ v, cs[p.off]? = some v ∧ K v w := op_ld (by kernel_rfl)
@[simp] theorem ld_ld_135 {p : Addr} : nP.ld (.load 135 (.pointer (some p))) w K1 = ∃ cs e fz, w.heap[p.block]? = some (.cells cs e fz) ∧ p.spot = none ∧ ∃ v, cs[p.off]? = some v ∧ K1 v := ld_ld (by kernel_rfl)
@[simp] theorem same_ld_135 {p : Addr} {v : Value} : nP.same (.load 135 (.pointer (some p))) v w = ∃ cs e fz, w.heap[p.block]? = some (.cells cs e fz) ∧ p.spot = none ∧ cs[p.off]? = some v := same_ld (by kernel_rfl)
@[simp] theorem op_fa_218_2 {p : Addr} : nP.op (.fieldAddr 218 (.pointer (some p)) 2) w K Kp = K (.pointer (some (p.add 65))) w := op_fa (k := .one) (by kernel_rfl)
@[simp] theorem pur_fa_218_2 {p : Addr} : nP.pur (.fieldAddr 218 (.pointer (some p)) 2) K1 = K1 (.pointer (some (p.add 65))) := pur_fa (k := .one) (by kernel_rfl)
theorem build_215_0 {x0 : Value} (h0 : x0.oneCell' = true) : buildV Tryz.prog 215 [(0, x0)] = some (.agg (#[x0, Value.int IntKind.i64 0])) := by
  have e : buildV Tryz.prog 215 [(0, x0)] = (Instr.fill ((#[(0, 1), (1, 1)] : Array (Nat × Nat))[·]?) (#[Value.nilIface, Value.int IntKind.i64 0]) [(0, x0)]).map .agg := by kernel_rfl
  rw [e]; simp [Instr.fill, cells_of_one h0]
@[simp] theorem op_build_215_0 {x0 : Value} (h0 : x0.oneCell' = true) : nP.op (.build 215 [(0, x0)]) w K Kp = K (.agg (#[x0, Value.int IntKind.i64 0])) w := op_build (build_215_0 h0)
@[simp] theorem pur_build_215_0 {x0 : Value} (h0 : x0.oneCell' = true) : nP.pur (.build 215 [(0, x0)]) K1 = K1 (.agg (#[x0, Value.int IntKind.i64 0])) := pur_build (build_215_0 h0)
@[simp] theorem op_fa_218_1 {p : Addr} : nP.op (.fieldAddr 218 (.pointer (some p)) 1) w K Kp = K (.pointer (some (p.add 1))) w := op_fa (k := (.agg 64)) (by kernel_rfl)
@[simp] theorem pur_fa_218_1 {p : Addr} : nP.pur (.fieldAddr 218 (.pointer (some p)) 1) K1 = K1 (.pointer (some (p.add 1))) := pur_fa (k := (.agg 64)) (by kernel_rfl)
@[simp] theorem op_ix_216 {p : Addr} {k : IntKind} {j : Int} : nP.op (.indexAddr 216 (.pointer (some p)) (.int k j)) w K Kp = ((0 ≤ j ∧ j < 32) ∧ K (.pointer (some (p.add (j.toNat * 2)))) w) := op_ix_arr (by kernel_rfl)
@[simp] theorem pur_ix_216 {p : Addr} {k : IntKind} {j : Int} : nP.pur (.indexAddr 216 (.pointer (some p)) (.int k j)) K1 = ((0 ≤ j ∧ j < 32) ∧ K1 (.pointer (some (p.add (j.toNat * 2))))) := pur_ix_arr (by kernel_rfl)
@[simp] theorem op_st_215 {p : Addr} {vs : Array Value} : nP.op (.store 215 (.pointer (some p)) (.agg vs)) w K Kp = (vs.size = 2 ∧ (∀ u ∈ vs.toList, u.oneCell' = true) ∧ ∃ cs e, w.heap[p.block]? = some (.cells cs e (0, 0)) ∧ p.spot = none ∧ p.off + 2 ≤ cs.size ∧ K undef (w.upd p.block (.cells (ow cs p.off vs.toList) e (0, 0)))) := op_stn (by kernel_rfl)
@[simp] theorem call_178 {args : List Value} : nP.call (.fn 178) args w K Kp = Calls Tryz.prog 178 args.toArray w (ret K Kp) := call_fn (by kernel_rfl)
@[simp] theorem op_fa_215_1 {p : Addr} : nP.op (.fieldAddr 215 (.pointer (some p)) 1) w K Kp = K (.pointer (some (p.add 1))) w := op_fa (k := .one) (by kernel_rfl)
@[simp] theorem pur_fa_215_1 {p : Addr} : nP.pur (.fieldAddr 215 (.pointer (some p)) 1) K1 = K1 (.pointer (some (p.add 1))) := pur_fa (k := .one) (by kernel_rfl)
@[simp] theorem op_fa_215_0 {p : Addr} : nP.op (.fieldAddr 215 (.pointer (some p)) 0) w K Kp = K (.pointer (some (p.add 0))) w := op_fa (k := .one) (by kernel_rfl)
@[simp] theorem pur_fa_215_0 {p : Addr} : nP.pur (.fieldAddr 215 (.pointer (some p)) 0) K1 = K1 (.pointer (some (p.add 0))) := pur_fa (k := .one) (by kernel_rfl)
@[simp] theorem op_ta_208_279 {u : TypeId} {v : Value} : nP.op (.tassert (.iface u v) 208 279 true) w K Kp = if u = 279 then K (.tuple #[v, .bool true]) w else K (.tuple #[(Value.pointer none), .bool false]) w := op_tassert_ok (by kernel_rfl) (by kernel_rfl) (by kernel_rfl)
@[simp] theorem op_tan_208_279 : nP.op (.tassert .nilIface 208 279 true) w K Kp = K (.tuple #[(Value.pointer none), .bool false]) w := op_tassert_ok_nil (by kernel_rfl) (by kernel_rfl) (by kernel_rfl)
@[simp] theorem op_ta_208_220 {u : TypeId} {v : Value} : nP.op (.tassert (.iface u v) 208 220 true) w K Kp = if u = 220 then K (.tuple #[v, .bool true]) w else K (.tuple #[(Value.pointer none), .bool false]) w := op_tassert_ok (by kernel_rfl) (by kernel_rfl) (by kernel_rfl)
@[simp] theorem op_tan_208_220 : nP.op (.tassert .nilIface 208 220 true) w K Kp = K (.tuple #[(Value.pointer none), .bool false]) w := op_tassert_ok_nil (by kernel_rfl) (by kernel_rfl) (by kernel_rfl)
@[simp] theorem call_148 {args : List Value} : nP.call (.fn 148) args w K Kp = Calls Tryz.prog 148 args.toArray w (ret K Kp) := call_fn (by kernel_rfl)
@[simp] theorem call_87 {args : List Value} : nP.call (.fn 87) args w K Kp = Calls Tryz.prog 87 args.toArray w (ret K Kp) := call_fn (by kernel_rfl)
@[simp] theorem op_tay_208_220 {v : Value} : nP.op (.tassert (.iface 220 v) 208 220 false) w K Kp = K v w := op_tassert_yes (by kernel_rfl) (by kernel_rfl)
@[simp] theorem pur_tay_208_220 {v : Value} : nP.pur (.tassert (.iface 220 v) 208 220 false) K1 = K1 v := pur_tassert_yes (by kernel_rfl) (by kernel_rfl)
@[simp] theorem call_180 {args : List Value} : nP.call (.fn 180) args w K Kp = Calls Tryz.prog 180 args.toArray w (ret K Kp) := call_fn (by kernel_rfl)
@[simp] theorem call_149 {args : List Value} : nP.call (.fn 149) args w K Kp = Calls Tryz.prog 149 args.toArray w (ret K Kp) := call_fn (by kernel_rfl)
@[simp] theorem inv_200_235 {v : Value} {args : List Value} : nP.call (.inv (.iface 200 v) "pub-bracken/pub/immutable.indexOf") args w K Kp = Calls Tryz.prog 235 (v :: args).toArray w (ret K Kp) := call_inv (fun _ => by kernel_rfl) (by kernel_rfl)
@[simp] theorem inv_220_247 {v : Value} {args : List Value} : nP.call (.inv (.iface 220 v) "pub-bracken/pub/immutable.indexOf") args w K Kp = Calls Tryz.prog 247 (v :: args).toArray w (ret K Kp) := call_inv (fun _ => by kernel_rfl) (by kernel_rfl)
@[simp] theorem inv_262_253 {v : Value} {args : List Value} : nP.call (.inv (.iface 262 v) "pub-bracken/pub/immutable.indexOf") args w K Kp = Calls Tryz.prog 253 (v :: args).toArray w (ret K Kp) := call_inv (fun _ => by kernel_rfl) (by kernel_rfl)
@[simp] theorem inv_279_259 {v : Value} {args : List Value} : nP.call (.inv (.iface 279 v) "pub-bracken/pub/immutable.indexOf") args w K Kp = Calls Tryz.prog 259 (v :: args).toArray w (ret K Kp) := call_inv (fun _ => by kernel_rfl) (by kernel_rfl)
@[simp] theorem inv_292_265 {v : Value} {args : List Value} : nP.call (.inv (.iface 292 v) "pub-bracken/pub/immutable.indexOf") args w K Kp = Calls Tryz.prog 265 (v :: args).toArray w (ret K Kp) := call_inv (fun _ => by kernel_rfl) (by kernel_rfl)
@[simp] theorem inv_300_271 {v : Value} {args : List Value} : nP.call (.inv (.iface 300 v) "pub-bracken/pub/immutable.indexOf") args w K Kp = Calls Tryz.prog 271 (v :: args).toArray w (ret K Kp) := call_inv (fun _ => by kernel_rfl) (by kernel_rfl)
@[simp] theorem inv_316_277 {v : Value} {args : List Value} : nP.call (.inv (.iface 316 v) "pub-bracken/pub/immutable.indexOf") args w K Kp = Calls Tryz.prog 277 (v :: args).toArray w (ret K Kp) := call_inv (fun _ => by kernel_rfl) (by kernel_rfl)
@[simp] theorem inv_324_283 {v : Value} {args : List Value} : nP.call (.inv (.iface 324 v) "pub-bracken/pub/immutable.indexOf") args w K Kp = Calls Tryz.prog 283 (v :: args).toArray w (ret K Kp) := call_inv (fun _ => by kernel_rfl) (by kernel_rfl)
@[simp] theorem op_fa_198_0 {p : Addr} : nP.op (.fieldAddr 198 (.pointer (some p)) 0) w K Kp = K (.pointer (some (p.add 0))) w := op_fa (k := .one) (by kernel_rfl)
@[simp] theorem pur_fa_198_0 {p : Addr} : nP.pur (.fieldAddr 198 (.pointer (some p)) 0) K1 = K1 (.pointer (some (p.add 0))) := pur_fa (k := .one) (by kernel_rfl)
@[simp] theorem op_ld_118 {p : Addr} : nP.op (.load 118 (.pointer (some p))) w K Kp = ∃ cs e fz, w.heap[p.block]? = some (.cells cs e fz) ∧ p.spot = none ∧ ∃ v, cs[p.off]? = some v ∧ K v w := op_ld (by kernel_rfl)
@[simp] theorem ld_ld_118 {p : Addr} : nP.ld (.load 118 (.pointer (some p))) w K1 = ∃ cs e fz, w.heap[p.block]? = some (.cells cs e fz) ∧ p.spot = none ∧ ∃ v, cs[p.off]? = some v ∧ K1 v := ld_ld (by kernel_rfl)
@[simp] theorem same_ld_118 {p : Addr} {v : Value} : nP.same (.load 118 (.pointer (some p))) v w = ∃ cs e fz, w.heap[p.block]? = some (.cells cs e fz) ∧ p.spot = none ∧ cs[p.off]? = some v := same_ld (by kernel_rfl)
@[simp] theorem op_fa_198_2 {p : Addr} : nP.op (.fieldAddr 198 (.pointer (some p)) 2) w K Kp = K (.pointer (some (p.add 65))) w := op_fa (k := .one) (by kernel_rfl)
@[simp] theorem pur_fa_198_2 {p : Addr} : nP.pur (.fieldAddr 198 (.pointer (some p)) 2) K1 = K1 (.pointer (some (p.add 65))) := pur_fa (k := .one) (by kernel_rfl)
theorem build_195_0 {x0 : Value} (h0 : x0.oneCell' = true) : buildV Tryz.prog 195 [(0, x0)] = some (.agg (#[x0, Value.int IntKind.i64 0])) := by
  have e : buildV Tryz.prog 195 [(0, x0)] = (Instr.fill ((#[(0, 1), (1, 1)] : Array (Nat × Nat))[·]?) (#[Value.nilIface, Value.int IntKind.i64 0]) [(0, x0)]).map .agg := by kernel_rfl
  rw [e]; simp [Instr.fill, cells_of_one h0]
@[simp] theorem op_build_195_0 {x0 : Value} (h0 : x0.oneCell' = true) : nP.op (.build 195 [(0, x0)]) w K Kp = K (.agg (#[x0, Value.int IntKind.i64 0])) w := op_build (build_195_0 h0)
@[simp] theorem pur_build_195_0 {x0 : Value} (h0 : x0.oneCell' = true) : nP.pur (.build 195 [(0, x0)]) K1 = K1 (.agg (#[x0, Value.int IntKind.i64 0])) := pur_build (build_195_0 h0)
@[simp] theorem op_fa_198_1 {p : Addr} : nP.op (.fieldAddr 198 (.pointer (some p)) 1) w K Kp = K (.pointer (some (p.add 1))) w := op_fa (k := (.agg 64)) (by kernel_rfl)
@[simp] theorem pur_fa_198_1 {p : Addr} : nP.pur (.fieldAddr 198 (.pointer (some p)) 1) K1 = K1 (.pointer (some (p.add 1))) := pur_fa (k := (.agg 64)) (by kernel_rfl)
@[simp] theorem op_ix_196 {p : Addr} {k : IntKind} {j : Int} : nP.op (.indexAddr 196 (.pointer (some p)) (.int k j)) w K Kp = ((0 ≤ j ∧ j < 32) ∧ K (.pointer (some (p.add (j.toNat * 2)))) w) := op_ix_arr (by kernel_rfl)
@[simp] theorem pur_ix_196 {p : Addr} {k : IntKind} {j : Int} : nP.pur (.indexAddr 196 (.pointer (some p)) (.int k j)) K1 = ((0 ≤ j ∧ j < 32) ∧ K1 (.pointer (some (p.add (j.toNat * 2))))) := pur_ix_arr (by kernel_rfl)
@[simp] theorem op_st_195 {p : Addr} {vs : Array Value} : nP.op (.store 195 (.pointer (some p)) (.agg vs)) w K Kp = (vs.size = 2 ∧ (∀ u ∈ vs.toList, u.oneCell' = true) ∧ ∃ cs e, w.heap[p.block]? = some (.cells cs e (0, 0)) ∧ p.spot = none ∧ p.off + 2 ≤ cs.size ∧ K undef (w.upd p.block (.cells (ow cs p.off vs.toList) e (0, 0)))) := op_stn (by kernel_rfl)
@[simp] theorem call_173 {args : List Value} : nP.call (.fn 173) args w K Kp = Calls Tryz.prog 173 args.toArray w (ret K Kp) := call_fn (by kernel_rfl)
@[simp] theorem op_fa_195_1 {p : Addr} : nP.op (.fieldAddr 195 (.pointer (some p)) 1) w K Kp = K (.pointer (some (p.add 1))) w := op_fa (k := .one) (by kernel_rfl)
@[simp] theorem pur_fa_195_1 {p : Addr} : nP.pur (.fieldAddr 195 (.pointer (some p)) 1) K1 = K1 (.pointer (some (p.add 1))) := pur_fa (k := .one) (by kernel_rfl)
@[simp] theorem op_fa_195_0 {p : Addr} : nP.op (.fieldAddr 195 (.pointer (some p)) 0) w K Kp = K (.pointer (some (p.add 0))) w := op_fa (k := .one) (by kernel_rfl)
@[simp] theorem pur_fa_195_0 {p : Addr} : nP.pur (.fieldAddr 195 (.pointer (some p)) 0) K1 = K1 (.pointer (some (p.add 0))) := pur_fa (k := .one) (by kernel_rfl)
@[simp] theorem op_ta_188_262 {u : TypeId} {v : Value} : nP.op (.tassert (.iface u v) 188 262 true) w K Kp = if u = 262 then K (.tuple #[v, .bool true]) w else K (.tuple #[(Value.pointer none), .bool false]) w := op_tassert_ok (by kernel_rfl) (by kernel_rfl) (by kernel_rfl)
@[simp] theorem op_tan_188_262 : nP.op (.tassert .nilIface 188 262 true) w K Kp = K (.tuple #[(Value.pointer none), .bool false]) w := op_tassert_ok_nil (by kernel_rfl) (by kernel_rfl) (by kernel_rfl)
@[simp] theorem op_ta_188_200 {u : TypeId} {v : Value} : nP.op (.tassert (.iface u v) 188 200 true) w K Kp = if u = 200 then K (.tuple #[v, .bool true]) w else K (.tuple #[(Value.pointer none), .bool false]) w := op_tassert_ok (by kernel_rfl) (by kernel_rfl) (by kernel_rfl)
@[simp] theorem op_tan_188_200 : nP.op (.tassert .nilIface 188 200 true) w K Kp = K (.tuple #[(Value.pointer none), .bool false]) w := op_tassert_ok_nil (by kernel_rfl) (by kernel_rfl) (by kernel_rfl)
@[simp] theorem call_143 {args : List Value} : nP.call (.fn 143) args w K Kp = Calls Tryz.prog 143 args.toArray w (ret K Kp) := call_fn (by kernel_rfl)
@[simp] theorem call_73 {args : List Value} : nP.call (.fn 73) args w K Kp = Calls Tryz.prog 73 args.toArray w (ret K Kp) := call_fn (by kernel_rfl)
@[simp] theorem op_tay_188_200 {v : Value} : nP.op (.tassert (.iface 200 v) 188 200 false) w K Kp = K v w := op_tassert_yes (by kernel_rfl) (by kernel_rfl)
@[simp] theorem pur_tay_188_200 {v : Value} : nP.pur (.tassert (.iface 200 v) 188 200 false) K1 = K1 v := pur_tassert_yes (by kernel_rfl) (by kernel_rfl)
@[simp] theorem call_175 {args : List Value} : nP.call (.fn 175) args w K Kp = Calls Tryz.prog 175 args.toArray w (ret K Kp) := call_fn (by kernel_rfl)
@[simp] theorem call_144 {args : List Value} : nP.call (.fn 144) args w K Kp = Calls Tryz.prog 144 args.toArray w (ret K Kp) := call_fn (by kernel_rfl)
end Go.Proofs.YtodjijfblgnfmaaGreatDoor
end
section
namespace Go.Proofs.YtodjijfblgnfmaaGreatDoor
open Go.Vc Go.Proofs
variable {S : Sig} {a0 a1 a2 a3 a4 a5 a6 a7 a8 a9 : Value} {w : World} {K : KV} {Kp : KP}
private theorem follows_BVcJI : Tryz.prog.follows .mixedOrders = true := by kernel_rfl
def vc135 (S : Sig) (a0 : Value) (w : World) (K : KV) (Kp : KP) : Prop :=
 S.op (.nilCheck a0) w (fun v3 w =>
 S.op (.fieldAddr 218 v3 0) w (fun v4 w =>
 S.op (.load 135 v4) w (fun v5 w =>
 S.op (.nilCheck v5) w (fun v6 w =>
 S.op (.fieldAddr 210 v6 1) w (fun v7 w =>
 S.op (.load 208 v7) w (fun v8 w =>
 S.op (.bin .eql 208 false true v8 .nilIface) w (fun v9 w =>
 Br v9 (
 S.op (.nilCheck a0) w (fun v11 w =>
 S.op (.fieldAddr 218 v11 2) w (fun v12 w =>
 S.op (.store 3 v12 (.int .i64 (-1))) w (fun _ w =>
 K (.tuple #[]) w) Kp) Kp) Kp) (
 S.pur (.nilCheck a0) (fun v15 =>
 S.pur (.fieldAddr 218 v15 0) (fun v16 =>
 S.ld (.load 135 v16) w.drew (fun v17 =>
 S.pur (.nilCheck v17) (fun v18 =>
 S.pur (.fieldAddr 210 v18 1) (fun v19 =>
 S.ld (.load 208 v19) w.drew (fun v20 =>
 S.pur (.build 215 [(0, v20)]) (fun v21 =>
 S.pur (.nilCheck a0) (fun v22 =>
 S.pur (.fieldAddr 218 v22 1) (fun v23 =>
 S.pur (.indexAddr 216 v23 (.int .i64 0)) (fun v24 =>
 S.op (.store 215 v24 v21) w.drew (fun _ w =>
 S.op (.nilCheck a0) w (fun v26 w =>
 S.op (.fieldAddr 218 v26 2) w (fun v27 w =>
 S.op (.store 3 v27 (.int .i64 0)) w (fun _ w =>
 S.call (.fn 178) [a0] w (fun v29 w =>
 K (.tuple #[]) w) Kp) Kp) Kp) Kp) Kp)))))))))))) Kp) Kp) Kp) Kp) Kp) Kp) Kp
theorem vc135_eq : vc135 S a0 w K Kp = fVC S [] [] Tryz.f135 [a0] w K Kp := by kernel_rfl
theorem vc135_calls (h : vc135 nP a0 w K Kp) : Calls Tryz.prog 135 #[a0] w (ret K Kp) :=
 fVC_sound (args := [a0]) nice_le follows_BVcJI Tryz.func135 (by kernel_rfl) (Eq.mp vc135_eq h)
def vc178 (S : Sig) (a0 : Value) (w : World) (K : KV) (Kp : KP) : Prop :=
 Lp fun (I0 : World → Prop) (μ0 : World → Nat) => I0 w ∧
 ∀ (wl0 : World) (_ : Nat → Value), I0 wl0 →
 S.pur (.nilCheck a0) (fun v7 =>
 S.pur (.fieldAddr 218 v7 2) (fun v8 =>
 S.ld (.load 3 v8) wl0.drew (fun v9 =>
 S.pur (.nilCheck a0) (fun v10 =>
 S.pur (.fieldAddr 218 v10 1) (fun v11 =>
 S.pur (.indexAddr 216 v11 v9) (fun v12 =>
 S.op (.nilCheck v12) wl0.drew (fun v14 w =>
 S.op (.fieldAddr 215 v14 1) w (fun v15 w =>
 S.op (.store 3 v15 (.int .i64 0)) w (fun _ w =>
 S.op (.nilCheck v12) w (fun v17 w =>
 S.op (.fieldAddr 215 v17 0) w (fun v18 w =>
 S.op (.load 208 v18) w (fun v19 w =>
 S.op (.tassert v19 208 279 true) w (fun v20 w =>
 S.op (.extract v20 1) w (fun v21 w =>
 S.op (.extract v20 0) w (fun v22 w =>
 Br v21 (
 S.pur (.nilCheck a0) (fun v25 =>
 S.pur (.fieldAddr 218 v25 2) (fun v26 =>
 S.ld (.load 3 v26) w.drew (fun v27 =>
 S.pur (.bin .add 3 false true v27 (.int .i64 1)) (fun v28 =>
 S.pur (.nilCheck v22) (fun v30 =>
 S.pur (.fieldAddr 284 v30 0) (fun v31 =>
 S.ld (.load 282 v31) w.drew (fun v32 =>
 S.pur (.nilCheck v12) (fun v34 =>
 S.pur (.fieldAddr 215 v34 1) (fun v35 =>
 S.ld (.load 3 v35) w.drew (fun v36 =>
 S.pur (.indexAddr 282 v32 v36) (fun v37 =>
 S.pur (.fieldAddr 286 v37 1) (fun v38 =>
 S.ld (.load 208 v38) w.drew (fun v39 =>
 S.pur (.build 215 [(0, v39)]) (fun v40 =>
 S.pur (.nilCheck a0) (fun v41 =>
 S.pur (.fieldAddr 218 v41 1) (fun v42 =>
 S.pur (.indexAddr 216 v42 v28) (fun v43 =>
 S.op (.store 215 v43 v40) w.drew (fun _ w =>
 S.op (.nilCheck a0) w (fun v45 w =>
 S.op (.fieldAddr 218 v45 2) w (fun v46 w =>
 S.op (.load 3 v46) w (fun v47 w =>
 S.op (.bin .add 3 false true v47 (.int .i64 1)) w (fun v48 w =>
 S.op (.nilCheck a0) w (fun v49 w =>
 S.op (.fieldAddr 218 v49 2) w (fun v50 w =>
 S.op (.store 3 v50 v48) w (fun _ w =>
 I0 w ∧ μ0 w < μ0 wl0) Kp) Kp) Kp) Kp) Kp) Kp) Kp) Kp)))))))))))))))))) (
 S.op (.tassert v19 208 220 true) w (fun v51 w =>
 S.op (.extract v51 1) w (fun v52 w =>
 S.op (.extract v51 0) w (fun v53 w =>
 Br v52 (
 K (.tuple #[]) w) (
 I0 w ∧ μ0 w < μ0 wl0)) Kp) Kp) Kp)) Kp) Kp) Kp) Kp) Kp) Kp) Kp) Kp) Kp))))))
theorem vc178_eq : vc178 S a0 w K Kp = fVC S [(0, [])] [] Tryz.f178 [a0] w K Kp := by kernel_rfl
theorem vc178_calls (h : vc178 nP a0 w K Kp) : Calls Tryz.prog 178 #[a0] w (ret K Kp) :=
 fVC_sound (args := [a0]) nice_le follows_BVcJI Tryz.func178 (by kernel_rfl) (Eq.mp vc178_eq h)
def vc86 (S : Sig) (a0 : Value) (w : World) (K : KV) (Kp : KP) : Prop :=
 S.op (.nilCheck a0) w (fun v3 w =>
 S.op (.fieldAddr 218 v3 0) w (fun v4 w =>
 S.op (.load 135 v4) w (fun v5 w =>
 S.op (.nilCheck v5) w (fun v6 w =>
 S.op (.fieldAddr 210 v6 1) w (fun v7 w =>
 S.op (.load 208 v7) w (fun v8 w =>
 S.op (.bin .eql 208 false true v8 .nilIface) w (fun v9 w =>
 Br v9 (
 S.op (.nilCheck a0) w (fun v11 w =>
 S.op (.fieldAddr 218 v11 2) w (fun v12 w =>
 S.op (.store 3 v12 (.int .i64 (-1))) w (fun _ w =>
 K (.tuple #[]) w) Kp) Kp) Kp) (
 S.pur (.nilCheck a0) (fun v15 =>
 S.pur (.fieldAddr 218 v15 0) (fun v16 =>
 S.ld (.load 135 v16) w.drew (fun v17 =>
 S.pur (.nilCheck v17) (fun v18 =>
 S.pur (.fieldAddr 210 v18 1) (fun v19 =>
 S.ld (.load 208 v19) w.drew (fun v20 =>
 S.pur (.build 215 [(0, v20)]) (fun v21 =>
 S.pur (.nilCheck a0) (fun v22 =>
 S.pur (.fieldAddr 218 v22 1) (fun v23 =>
 S.pur (.indexAddr 216 v23 (.int .i64 0)) (fun v24 =>
 S.op (.store 215 v24 v21) w.drew (fun _ w =>
 S.op (.nilCheck a0) w (fun v26 w =>
 S.op (.fieldAddr 218 v26 2) w (fun v27 w =>
 S.op (.store 3 v27 (.int .i64 0)) w (fun _ w =>
 S.call (.fn 148) [a0] w (fun v29 w =>
 K (.tuple #[]) w) Kp) Kp) Kp) Kp) Kp)))))))))))) Kp) Kp) Kp) Kp) Kp) Kp) Kp
theorem vc86_eq : vc86 S a0 w K Kp = fVC S [] [] Tryz.f86 [a0] w K Kp := by kernel_rfl
theorem vc86_calls (h : vc86 nP a0 w K Kp) : Calls Tryz.prog 86 #[a0] w (ret K Kp) :=
 fVC_sound (args := [a0]) nice_le follows_BVcJI Tryz.func86 (by kernel_rfl) (Eq.mp vc86_eq h)
def vc148 (S : Sig) (a0 : Value) (w : World) (K : KV) (Kp : KP) : Prop :=
 Lp fun (I0 : World → Prop) (μ0 : World → Nat) => I0 w ∧
 ∀ (wl0 : World) (_ : Nat → Value), I0 wl0 →
 S.pur (.nilCheck a0) (fun v7 =>
 S.pur (.fieldAddr 218 v7 2) (fun v8 =>
 S.ld (.load 3 v8) wl0.drew (fun v9 =>
 S.pur (.nilCheck a0) (fun v10 =>
 S.pur (.fieldAddr 218 v10 1) (fun v11 =>
 S.pur (.indexAddr 216 v11 v9) (fun v12 =>
 S.op (.nilCheck v12) wl0.drew (fun v14 w =>
 S.op (.fieldAddr 215 v14 0) w (fun v15 w =>
 S.op (.load 208 v15) w (fun v16 w =>
 S.op (.tassert v16 208 279 true) w (fun v17 w =>
 S.op (.extract v17 1) w (fun v18 w =>
 S.op (.extract v17 0) w (fun v19 w =>
 Br v18 (
 S.op (.nilCheck v19) w (fun v22 w =>
 S.op (.fieldAddr 284 v22 0) w (fun v23 w =>
 S.op (.load 282 v23) w (fun v24 w =>
 S.op (.blt .len [282] 3 [v24]) w (fun v25 w =>
 S.op (.bin .sub 3 false true v25 (.int .i64 1)) w (fun v26 w =>
 S.op (.nilCheck v12) w (fun v27 w =>
 S.op (.fieldAddr 215 v27 1) w (fun v28 w =>
 S.op (.store 3 v28 v26) w (fun _ w =>
 S.pur (.nilCheck a0) (fun v31 =>
 S.pur (.fieldAddr 218 v31 2) (fun v32 =>
 S.ld (.load 3 v32) w.drew (fun v33 =>
 S.pur (.bin .add 3 false true v33 (.int .i64 1)) (fun v34 =>
 S.pur (.nilCheck v19) (fun v36 =>
 S.pur (.fieldAddr 284 v36 0) (fun v37 =>
 S.ld (.load 282 v37) w.drew (fun v38 =>
 S.pur (.nilCheck v12) (fun v40 =>
 S.pur (.fieldAddr 215 v40 1) (fun v41 =>
 S.ld (.load 3 v41) w.drew (fun v42 =>
 S.pur (.indexAddr 282 v38 v42) (fun v43 =>
 S.pur (.fieldAddr 286 v43 1) (fun v44 =>
 S.ld (.load 208 v44) w.drew (fun v45 =>
 S.pur (.build 215 [(0, v45)]) (fun v46 =>
 S.pur (.nilCheck a0) (fun v47 =>
 S.pur (.fieldAddr 218 v47 1) (fun v48 =>
 S.pur (.indexAddr 216 v48 v34) (fun v49 =>
 S.op (.store 215 v49 v46) w.drew (fun _ w =>
 S.op (.nilCheck a0) w (fun v51 w =>
 S.op (.fieldAddr 218 v51 2) w (fun v52 w =>
 S.op (.load 3 v52) w (fun v53 w =>
 S.op (.bin .add 3 false true v53 (.int .i64 1)) w (fun v54 w =>
 S.op (.nilCheck a0) w (fun v55 w =>
 S.op (.fieldAddr 218 v55 2) w (fun v56 w =>
 S.op (.store 3 v56 v54) w (fun _ w =>
 I0 w ∧ μ0 w < μ0 wl0) Kp) Kp) Kp) Kp) Kp) Kp) Kp) Kp)))))))))))))))))) Kp) Kp) Kp) Kp) Kp) Kp) Kp) Kp) (
 S.op (.tassert v16 208 220 true) w (fun v57 w =>
 S.op (.extract v57 1) w (fun v58 w =>
 S.op (.extract v57 0) w (fun v59 w =>
 Br v58 (
 S.op (.nilCheck v59) w (fun v62 w =>
 S.op (.fieldAddr 226 v62 0) w (fun v63 w =>
 S.op (.load 224 v63) w (fun v64 w =>
 S.op (.blt .len [224] 3 [v64]) w (fun v65 w =>
 S.op (.bin .sub 3 false true v65 (.int .i64 1)) w (fun v66 w =>
 S.op (.nilCheck v12) w (fun v67 w =>
 S.op (.fieldAddr 215 v67 1) w (fun v68 w =>
 S.op (.store 3 v68 v66) w (fun _ w =>
 K (.tuple #[]) w) Kp) Kp) Kp) Kp) Kp) Kp) Kp) Kp) (
 I0 w ∧ μ0 w < μ0 wl0)) Kp) Kp) Kp)) Kp) Kp) Kp) Kp) Kp) Kp))))))
theorem vc148_eq : vc148 S a0 w K Kp = fVC S [(0, [])] [] Tryz.f148 [a0] w K Kp := by kernel_rfl
theorem vc148_calls (h : vc148 nP a0 w K Kp) : Calls Tryz.prog 148 #[a0] w (ret K Kp) :=
 fVC_sound (args := [a0]) nice_le follows_BVcJI Tryz.func148 (by kernel_rfl) (Eq.mp vc148_eq h)
def vc138 (S : Sig) (a0 : Value) (w : World) (K : KV) (Kp : KP) : Prop :=
 S.call (.fn 87) [a0] w (fun v9 w =>
 Br v9 (
 K (.tuple #[(.int .i64 0), (.int .i64 0), (.bool false)]) w) (
 S.pur (.nilCheck a0) (fun v14 =>
 S.pur (.fieldAddr 218 v14 2) (fun v15 =>
 S.ld (.load 3 v15) w.drew (fun v16 =>
 S.pur (.nilCheck a0) (fun v17 =>
 S.pur (.fieldAddr 218 v17 1) (fun v18 =>
 S.pur (.indexAddr 216 v18 v16) (fun v19 =>
 S.op (.nilCheck v19) w.drew (fun v21 w =>
 S.op (.fieldAddr 215 v21 0) w (fun v22 w =>
 S.op (.load 208 v22) w (fun v23 w =>
 S.op (.tassert v23 208 220 false) w (fun v24 w =>
 S.pur (.nilCheck v24) (fun v26 =>
 S.pur (.fieldAddr 226 v26 0) (fun v27 =>
 S.ld (.load 224 v27) w.drew (fun v28 =>
 S.pur (.nilCheck v19) (fun v30 =>
 S.pur (.fieldAddr 215 v30 1) (fun v31 =>
 S.ld (.load 3 v31) w.drew (fun v32 =>
 S.pur (.indexAddr 224 v28 v32) (fun v33 =>
 S.pur (.nilCheck v33) (fun v35 =>
 S.pur (.fieldAddr 223 v35 0) (fun v36 =>
 S.ld (.load 2 v36) w.drew.drew (fun v37 =>
 S.pur (.nilCheck v33) (fun v39 =>
 S.pur (.fieldAddr 223 v39 1) (fun v40 =>
 S.ld (.load 2 v40) w.drew.drew (fun v41 =>
 S.same (.load 2 v40) v41 w.drew.drew ∧
 S.call (.fn 180) [a0] w.drew.drew (fun v43 w =>
 K (.tuple #[v37, v41, (.bool true)]) w) Kp)))))))))))))) Kp) Kp) Kp) Kp)))))))) Kp
theorem vc138_eq : vc138 S a0 w K Kp = fVC S [] [] Tryz.f138 [a0] w K Kp := by kernel_rfl
theorem vc138_calls (h : vc138 nP a0 w K Kp) : Calls Tryz.prog 138 #[a0] w (ret K Kp) :=
 fVC_sound (args := [a0]) nice_le follows_BVcJI Tryz.func138 (by kernel_rfl) (Eq.mp vc138_eq h)
def vc180 (S : Sig) (a0 : Value) (w : World) (K : KV) (Kp : KP) : Prop :=
 Lp fun (I0 : World → Prop) (μ0 : World → Nat) => I0 w ∧
 ∀ (wl0 : World) (_ : Nat → Value), I0 wl0 →
 S.op (.nilCheck a0) wl0 (fun v6 w =>
 S.op (.fieldAddr 218 v6 2) w (fun v7 w =>
 S.op (.load 3 v7) w (fun v8 w =>
 S.op (.bin .geq 3 false true v8 (.int .i64 0)) w (fun v9 w =>
 Br v9 (
 S.pur (.nilCheck a0) (fun v19 =>
 S.pur (.fieldAddr 218 v19 2) (fun v20 =>
 S.ld (.load 3 v20) w.drew (fun v21 =>
 S.pur (.nilCheck a0) (fun v22 =>
 S.pur (.fieldAddr 218 v22 1) (fun v23 =>
 S.pur (.indexAddr 216 v23 v21) (fun v24 =>
 S.op (.nilCheck v24) w.drew (fun v26 w =>
 S.op (.fieldAddr 215 v26 0) w (fun v27 w =>
 S.op (.load 208 v27) w (fun v28 w =>
 S.op (.tassert v28 208 220 true) w (fun v29 w =>
 S.op (.extract v29 1) w (fun v30 w =>
 S.op (.extract v29 0) w (fun v31 w =>
 Br v30 (
 S.pur (.nilCheck v24) (fun v33 =>
 S.pur (.fieldAddr 215 v33 1) (fun v34 =>
 S.ld (.load 3 v34) w.drew (fun v35 =>
 S.pur (.nilCheck v31) (fun v37 =>
 S.pur (.fieldAddr 226 v37 0) (fun v38 =>
 S.ld (.load 224 v38) w.drew (fun v39 =>
 S.ld (.blt .len [224] 3 [v39]) w.drew (fun v40 =>
 S.pur (.bin .sub 3 false true v40 (.int .i64 1)) (fun v41 =>
 S.pur (.bin .lss 3 false false v35 v41) (fun v42 =>
 Br v42 (
 S.op (.nilCheck v24) w.drew (fun v44 w =>
 S.op (.fieldAddr 215 v44 1) w (fun v45 w =>
 S.op (.load 3 v45) w (fun v46 w =>
 S.op (.bin .add 3 false true v46 (.int .i64 1)) w (fun v47 w =>
 S.op (.nilCheck v24) w (fun v48 w =>
 S.op (.fieldAddr 215 v48 1) w (fun v49 w =>
 S.op (.store 3 v49 v47) w (fun _ w =>
 K (.tuple #[]) w) Kp) Kp) Kp) Kp) Kp) Kp) Kp) (
 S.op (.nilCheck a0) w.drew (fun v11 w =>
 S.op (.fieldAddr 218 v11 2) w (fun v12 w =>
 S.op (.load 3 v12) w (fun v13 w =>
 S.op (.bin .sub 3 false true v13 (.int .i64 1)) w (fun v14 w =>
 S.op (.nilCheck a0) w (fun v15 w =>
 S.op (.fieldAddr 218 v15 2) w (fun v16 w =>
 S.op (.store 3 v16 v14) w (fun _ w =>
 I0 w ∧ μ0 w < μ0 wl0) Kp) Kp) Kp) Kp) Kp) Kp) Kp))))))))))) (
 S.op (.tassert v28 208 279 true) w (fun v50 w =>
 S.op (.extract v50 1) w (fun v51 w =>
 S.op (.extract v50 0) w (fun v52 w =>
 Br v51 (
 S.pur (.nilCheck v24) (fun v54 =>
 S.pur (.fieldAddr 215 v54 1) (fun v55 =>
 S.ld (.load 3 v55) w.drew (fun v56 =>
 S.pur (.nilCheck v52) (fun v58 =>
 S.pur (.fieldAddr 284 v58 0) (fun v59 =>
 S.ld (.load 282 v59) w.drew (fun v60 =>
 S.ld (.blt .len [282] 3 [v60]) w.drew (fun v61 =>
 S.pur (.bin .sub 3 false true v61 (.int .i64 1)) (fun v62 =>
 S.pur (.bin .lss 3 false false v56 v62) (fun v63 =>
 Br v63 (
 S.op (.nilCheck v24) w.drew (fun v65 w =>
 S.op (.fieldAddr 215 v65 1) w (fun v66 w =>
 S.op (.load 3 v66) w (fun v67 w =>
 S.op (.bin .add 3 false true v67 (.int .i64 1)) w (fun v68 w =>
 S.op (.nilCheck v24) w (fun v69 w =>
 S.op (.fieldAddr 215 v69 1) w (fun v70 w =>
 S.op (.store 3 v70 v68) w (fun _ w =>
 S.pur (.nilCheck a0) (fun v73 =>
 S.pur (.fieldAddr 218 v73 2) (fun v74 =>
 S.ld (.load 3 v74) w.drew (fun v75 =>
 S.pur (.bin .add 3 false true v75 (.int .i64 1)) (fun v76 =>
 S.pur (.nilCheck v52) (fun v78 =>
 S.pur (.fieldAddr 284 v78 0) (fun v79 =>
 S.ld (.load 282 v79) w.drew (fun v80 =>
 S.pur (.nilCheck v24) (fun v82 =>
 S.pur (.fieldAddr 215 v82 1) (fun v83 =>
 S.ld (.load 3 v83) w.drew (fun v84 =>
 S.pur (.indexAddr 282 v80 v84) (fun v85 =>
 S.pur (.fieldAddr 286 v85 1) (fun v86 =>
 S.ld (.load 208 v86) w.drew (fun v87 =>
 S.pur (.nilCheck a0) (fun v88 =>
 S.pur (.fieldAddr 218 v88 1) (fun v89 =>
 S.pur (.indexAddr 216 v89 v76) (fun v90 =>
 S.pur (.fieldAddr 215 v90 0) (fun v91 =>
 S.op (.store 208 v91 v87) w.drew (fun _ w =>
 S.op (.nilCheck a0) w (fun v93 w =>
 S.op (.fieldAddr 218 v93 2) w (fun v94 w =>
 S.op (.load 3 v94) w (fun v95 w =>
 S.op (.bin .add 3 false true v95 (.int .i64 1)) w (fun v96 w =>
 S.op (.nilCheck a0) w (fun v97 w =>
 S.op (.fieldAddr 218 v97 2) w (fun v98 w =>
 S.op (.store 3 v98 v96) w (fun _ w =>
 S.call (.fn 178) [a0] w (fun v100 w =>
 K (.tuple #[]) w) Kp) Kp) Kp) Kp) Kp) Kp) Kp) Kp) Kp)))))))))))))))))) Kp) Kp) Kp) Kp) Kp) Kp) Kp) (
 S.op (.nilCheck a0) w.drew (fun v11 w =>
 S.op (.fieldAddr 218 v11 2) w (fun v12 w =>
 S.op (.load 3 v12) w (fun v13 w =>
 S.op (.bin .sub 3 false true v13 (.int .i64 1)) w (fun v14 w =>
 S.op (.nilCheck a0) w (fun v15 w =>
 S.op (.fieldAddr 218 v15 2) w (fun v16 w =>
 S.op (.store 3 v16 v14) w (fun _ w =>
 I0 w ∧ μ0 w < μ0 wl0) Kp) Kp) Kp) Kp) Kp) Kp) Kp))))))))))) (
 S.op (.nilCheck a0) w (fun v11 w =>
 S.op (.fieldAddr 218 v11 2) w (fun v12 w =>
 S.op (.load 3 v12) w (fun v13 w =>
 S.op (.bin .sub 3 false true v13 (.int .i64 1)) w (fun v14 w =>
 S.op (.nilCheck a0) w (fun v15 w =>
 S.op (.fieldAddr 218 v15 2) w (fun v16 w =>
 S.op (.store 3 v16 v14) w (fun _ w =>
 I0 w ∧ μ0 w < μ0 wl0) Kp) Kp) Kp) Kp) Kp) Kp) Kp)) Kp) Kp) Kp)) Kp) Kp) Kp) Kp) Kp) Kp))))))) (
 K (.tuple #[]) w)) Kp) Kp) Kp) Kp
theorem vc180_eq : vc180 S a0 w K Kp = fVC S [(0, [])] [] Tryz.f180 [a0] w K Kp := by kernel_rfl
theorem vc180_calls (h : vc180 nP a0 w K Kp) : Calls Tryz.prog 180 #[a0] w (ret K Kp) :=
 fVC_sound (args := [a0]) nice_le follows_BVcJI Tryz.func180 (by kernel_rfl) (Eq.mp vc180_eq h)
def vc88 (S : Sig) (a0 : Value) (w : World) (K : KV) (Kp : KP) : Prop :=
 S.call (.fn 87) [a0] w (fun v9 w =>
 Br v9 (
 K (.tuple #[(.int .i64 0), (.int .i64 0), (.bool false)]) w) (
 S.pur (.nilCheck a0) (fun v14 =>
 S.pur (.fieldAddr 218 v14 2) (fun v15 =>
 S.ld (.load 3 v15) w.drew (fun v16 =>
 S.pur (.nilCheck a0) (fun v17 =>
 S.pur (.fieldAddr 218 v17 1) (fun v18 =>
 S.pur (.indexAddr 216 v18 v16) (fun v19 =>
 S.op (.nilCheck v19) w.drew (fun v21 w =>
 S.op (.fieldAddr 215 v21 0) w (fun v22 w =>
 S.op (.load 208 v22) w (fun v23 w =>
 S.op (.tassert v23 208 220 false) w (fun v24 w =>
 S.pur (.nilCheck v24) (fun v26 =>
 S.pur (.fieldAddr 226 v26 0) (fun v27 =>
 S.ld (.load 224 v27) w.drew (fun v28 =>
 S.pur (.nilCheck v19) (fun v30 =>
 S.pur (.fieldAddr 215 v30 1) (fun v31 =>
 S.ld (.load 3 v31) w.drew (fun v32 =>
 S.pur (.indexAddr 224 v28 v32) (fun v33 =>
 S.pur (.nilCheck v33) (fun v35 =>
 S.pur (.fieldAddr 223 v35 0) (fun v36 =>
 S.ld (.load 2 v36) w.drew.drew (fun v37 =>
 S.pur (.nilCheck v33) (fun v39 =>
 S.pur (.fieldAddr 223 v39 1) (fun v40 =>
 S.ld (.load 2 v40) w.drew.drew (fun v41 =>
 S.same (.load 2 v40) v41 w.drew.drew ∧
 S.call (.fn 149) [a0] w.drew.drew (fun v43 w =>
 K (.tuple #[v37, v41, (.bool true)]) w) Kp)))))))))))))) Kp) Kp) Kp) Kp)))))))) Kp
theorem vc88_eq : vc88 S a0 w K Kp = fVC S [] [] Tryz.f88 [a0] w K Kp := by kernel_rfl
theorem vc88_calls (h : vc88 nP a0 w K Kp) : Calls Tryz.prog 88 #[a0] w (ret K Kp) :=
 fVC_sound (args := [a0]) nice_le follows_BVcJI Tryz.func88 (by kernel_rfl) (Eq.mp vc88_eq h)
def vc149 (S : Sig) (a0 : Value) (w : World) (K : KV) (Kp : KP) : Prop :=
 Lp fun (I0 : World → Prop) (μ0 : World → Nat) => I0 w ∧
 ∀ (wl0 : World) (_ : Nat → Value), I0 wl0 →
 S.op (.nilCheck a0) wl0 (fun v6 w =>
 S.op (.fieldAddr 218 v6 2) w (fun v7 w =>
 S.op (.load 3 v7) w (fun v8 w =>
 S.op (.bin .geq 3 false true v8 (.int .i64 0)) w (fun v9 w =>
 Br v9 (
 S.pur (.nilCheck a0) (fun v19 =>
 S.pur (.fieldAddr 218 v19 2) (fun v20 =>
 S.ld (.load 3 v20) w.drew (fun v21 =>
 S.pur (.nilCheck a0) (fun v22 =>
 S.pur (.fieldAddr 218 v22 1) (fun v23 =>
 S.pur (.indexAddr 216 v23 v21) (fun v24 =>
 S.op (.nilCheck v24) w.drew (fun v26 w =>
 S.op (.fieldAddr 215 v26 0) w (fun v27 w =>
 S.op (.load 208 v27) w (fun v28 w =>
 S.op (.tassert v28 208 220 true) w (fun v29 w =>
 S.op (.extract v29 1) w (fun v30 w =>
 S.op (.extract v29 0) w (fun v31 w =>
 Br v30 (
 S.op (.nilCheck v24) w (fun v33 w =>
 S.op (.fieldAddr 215 v33 1) w (fun v34 w =>
 S.op (.load 3 v34) w (fun v35 w =>
 S.op (.bin .gtr 3 false true v35 (.int .i64 0)) w (fun v36 w =>
 Br v36 (
 S.op (.nilCheck v24) w (fun v38 w =>
 S.op (.fieldAddr 215 v38 1) w (fun v39 w =>
 S.op (.load 3 v39) w (fun v40 w =>
 S.op (.bin .sub 3 false true v40 (.int .i64 1)) w (fun v41 w =>
 S.op (.nilCheck v24) w (fun v42 w =>
 S.op (.fieldAddr 215 v42 1) w (fun v43 w =>
 S.op (.store 3 v43 v41) w (fun _ w =>
 K (.tuple #[]) w) Kp) Kp) Kp) Kp) Kp) Kp) Kp) (
 S.op (.nilCheck a0) w (fun v11 w =>
 S.op (.fieldAddr 218 v11 2) w (fun v12 w =>
 S.op (.load 3 v12) w (fun v13 w =>
 S.op (.bin .sub 3 false true v13 (.int .i64 1)) w (fun v14 w =>
 S.op (.nilCheck a0) w (fun v15 w =>
 S.op (.fieldAddr 218 v15 2) w (fun v16 w =>
 S.op (.store 3 v16 v14) w (fun _ w =>
 I0 w ∧ μ0 w < μ0 wl0) Kp) Kp) Kp) Kp) Kp) Kp) Kp)) Kp) Kp) Kp) Kp) (
 S.op (.tassert v28 208 279 true) w (fun v44 w =>
 S.op (.extract v44 1) w (fun v45 w =>
 S.op (.extract v44 0) w (fun v46 w =>
 Br v45 (
 S.op (.nilCheck v24) w (fun v48 w =>
 S.op (.fieldAddr 215 v48 1) w (fun v49 w =>
 S.op (.load 3 v49) w (fun v50 w =>
 S.op (.bin .gtr 3 false true v50 (.int .i64 0)) w (fun v51 w =>
 Br v51 (
 S.op (.nilCheck v24) w (fun v53 w =>
 S.op (.fieldAddr 215 v53 1) w (fun v54 w =>
 S.op (.load 3 v54) w (fun v55 w =>
 S.op (.bin .sub 3 false true v55 (.int .i64 1)) w (fun v56 w =>
 S.op (.nilCheck v24) w (fun v57 w =>
 S.op (.fieldAddr 215 v57 1) w (fun v58 w =>
 S.op (.store 3 v58 v56) w (fun _ w =>
 S.pur (.nilCheck a0) (fun v61 =>
 S.pur (.fieldAddr 218 v61 2) (fun v62 =>
 S.ld (.load 3 v62) w.drew (fun v63 =>
 S.pur (.bin .add 3 false true v63 (.int .i64 1)) (fun v64 =>
 S.pur (.nilCheck v46) (fun v66 =>
 S.pur (.fieldAddr 284 v66 0) (fun v67 =>
 S.ld (.load 282 v67) w.drew (fun v68 =>
 S.pur (.nilCheck v24) (fun v70 =>
 S.pur (.fieldAddr 215 v70 1) (fun v71 =>
 S.ld (.load 3 v71) w.drew (fun v72 =>
 S.pur (.indexAddr 282 v68 v72) (fun v73 =>
 S.pur (.fieldAddr 286 v73 1) (fun v74 =>
 S.ld (.load 208 v74) w.drew (fun v75 =>
 S.pur (.nilCheck a0) (fun v76 =>
 S.pur (.fieldAddr 218 v76 1) (fun v77 =>
 S.pur (.indexAddr 216 v77 v64) (fun v78 =>
 S.pur (.fieldAddr 215 v78 0) (fun v79 =>
 S.op (.store 208 v79 v75) w.drew (fun _ w =>
 S.op (.nilCheck a0) w (fun v81 w =>
 S.op (.fieldAddr 218 v81 2) w (fun v82 w =>
 S.op (.load 3 v82) w (fun v83 w =>
 S.op (.bin .add 3 false true v83 (.int .i64 1)) w (fun v84 w =>
 S.op (.nilCheck a0) w (fun v85 w =>
 S.op (.fieldAddr 218 v85 2) w (fun v86 w =>
 S.op (.store 3 v86 v84) w (fun _ w =>
 S.call (.fn 148) [a0] w (fun v88 w =>
 K (.tuple #[]) w) Kp) Kp) Kp) Kp) Kp) Kp) Kp) Kp) Kp)))))))))))))))))) Kp) Kp) Kp) Kp) Kp) Kp) Kp) (
 S.op (.nilCheck a0) w (fun v11 w =>
 S.op (.fieldAddr 218 v11 2) w (fun v12 w =>
 S.op (.load 3 v12) w (fun v13 w =>
 S.op (.bin .sub 3 false true v13 (.int .i64 1)) w (fun v14 w =>
 S.op (.nilCheck a0) w (fun v15 w =>
 S.op (.fieldAddr 218 v15 2) w (fun v16 w =>
 S.op (.store 3 v16 v14) w (fun _ w =>
 I0 w ∧ μ0 w < μ0 wl0) Kp) Kp) Kp) Kp) Kp) Kp) Kp)) Kp) Kp) Kp) Kp) (
 S.op (.nilCheck a0) w (fun v11 w =>
 S.op (.fieldAddr 218 v11 2) w (fun v12 w =>
 S.op (.load 3 v12) w (fun v13 w =>
 S.op (.bin .sub 3 false true v13 (.int .i64 1)) w (fun v14 w =>
 S.op (.nilCheck a0) w (fun v15 w =>
 S.op (.fieldAddr 218 v15 2) w (fun v16 w =>
 S.op (.store 3 v16 v14) w (fun _ w =>
 I0 w ∧ μ0 w < μ0 wl0) Kp) Kp) Kp) Kp) Kp) Kp) Kp)) Kp) Kp) Kp)) Kp) Kp) Kp) Kp) Kp) Kp))))))) (
 K (.tuple #[]) w)) Kp) Kp) Kp) Kp
theorem vc149_eq : vc149 S a0 w K Kp = fVC S [(0, [])] [] Tryz.f149 [a0] w K Kp := by kernel_rfl
theorem vc149_calls (h : vc149 nP a0 w K Kp) : Calls Tryz.prog 149 #[a0] w (ret K Kp) :=
 fVC_sound (args := [a0]) nice_le follows_BVcJI Tryz.func149 (by kernel_rfl) (Eq.mp vc149_eq h)
def vc87 (S : Sig) (a0 : Value) (w : World) (K : KV) (Kp : KP) : Prop :=
 S.op (.nilCheck a0) w (fun v4 w =>
 S.op (.fieldAddr 218 v4 2) w (fun v5 w =>
 S.op (.load 3 v5) w (fun v6 w =>
 S.op (.bin .eql 3 false true v6 (.int .i64 (-1))) w (fun v7 w =>
 K v7 w) Kp) Kp) Kp) Kp
theorem vc87_eq : vc87 S a0 w K Kp = fVC S [] [] Tryz.f87 [a0] w K Kp := by kernel_rfl
theorem vc87_calls (h : vc87 nP a0 w K Kp) : Calls Tryz.prog 87 #[a0] w (ret K Kp) :=
 fVC_sound (args := [a0]) nice_le follows_BVcJI Tryz.func87 (by kernel_rfl) (Eq.mp vc87_eq h)
end Go.Proofs.YtodjijfblgnfmaaGreatDoor
end
section
namespace Go.Proofs.YtodjijfblgnfmaaGreatDoor.I
open Go.Vc Go.Proofs Go.Proofs.YtodjijfblgnfmaaGreatDoor Go.Vc.Bt
variable {w w' : World} {v : Value} {K : KV} {Kp : KP} {ib mb d p : Nat} {L : List (Ky × Vl)} {cs cs' : Array Value} {s : Tr}
theorem set_at {cs : Array Value} {i j : Nat} {u : Value} (h : j < cs.size) : (cs.setIfInBounds j u)[i]? = if j = i then some u else cs[i]? := by
  rw [Array.getElem?_setIfInBounds]
  split
  · rename_i e; subst e; simp [h]
  · rfl
structure Fr where
  s : Tr
  v : Value
  i : Nat
def Fr.fm (r : Fr) : Fm Ky Vl := (r.s, r.i)
def fms (up : List Fr) : List (Fm Ky Vl) := up.map Fr.fm
def Stk (w : World) (cs : Array Value) : Nat → List Fr → Prop
  | _, [] => True
  | d, r :: fs => cs[1 + fs.length * 2]? = some r.v ∧ cs[1 + fs.length * 2 + 1]? = some (.int .i64 r.i) ∧ Rep w d r.s r.v ∧ WF d r.s ∧ Stk w cs (d + 1) fs
theorem Stk.off (ho : Off w ib) (hf : Frm (· = ib) w w') : ∀ {fs : List Fr} {d : Nat}, Stk w cs d fs → Stk w' cs d fs
  | [], _, _ => trivial
  | r :: fs, d, h => ⟨h.1, h.2.1, h.2.2.1.off ho hf, h.2.2.2.1, Stk.off ho hf h.2.2.2.2⟩
theorem Stk.still (hf : Frm (fun _ => False) w w') : ∀ {fs : List Fr} {d : Nat}, Stk w cs d fs → Stk w' cs d fs
  | [], _, _ => trivial
  | r :: fs, d, h => ⟨h.1, h.2.1, h.2.2.1.still hf, h.2.2.2.1, Stk.still hf h.2.2.2.2⟩
theorem Stk.cells : ∀ {fs : List Fr} {d : Nat}, Stk w cs d fs → (∀ i, i < 1 + fs.length * 2 → cs'[i]? = cs[i]?) → Stk w cs' d fs
  | [], _, _, _ => trivial
  | r :: fs, d, h, hc => by
    simp only [List.length_cons] at hc
    exact ⟨by rw [hc _ (by omega)]; exact h.1, by rw [hc _ (by omega)]; exact h.2.1, h.2.2.1, h.2.2.2.1, Stk.cells h.2.2.2.2 fun i hi => hc i (by omega)⟩
structure Low (w : World) (ib mb d : Nat) (cs : Array Value) (s : Tr) (v : Value) (up : List Fr) : Prop where
  hb : w.heap[ib]? = some (.cells cs 218 (0, 0))
  sz : cs.size = 66
  m : cs[0]? = some (ptr mb)
  dep : cs[65]? = some (.int .i64 (up.length : Int))
  node : cs[1 + up.length * 2]? = some v
  rep : Rep w d s v
  wf : WF d s
  stk : Stk w cs (d + 1) up
  ab : Above d s (fms up)
  len : d + up.length ≤ 31
def depthOf (w : World) (ib : Nat) : Nat := match w.heap[ib]? with
  | some (.cells cs _ _) => match (cs[65]?).getD undef with
    | .int _ j => (j + 1).toNat
    | _ => 0
  | _ => 0
theorem depthOf_eq {ib : Nat} {d : Int} {cs : Array Value} {e : TypeId} {fz : Nat × Nat} (h : w.heap[ib]? = some (.cells cs e fz)) (hd : cs[65]? = some (.int .i64 d)) : depthOf w ib = (d + 1).toNat := by
  simp only [depthOf, h, hd, Option.getD_some]
def At (w : World) (ib mb : Nat) (L : List (Ky × Vl)) : Option Nat → Prop
  | none => ∃ cs, w.heap[ib]? = some (.cells cs 218 (0, 0)) ∧ cs.size = 66 ∧ cs[0]? = some (ptr mb) ∧ cs[65]? = some (.int .i64 (-1))
  | some p => ∃ (cs : Array Value) (es : List (Ky × Vl)) (v : Value) (up : List Fr) (j : Nat), Low w ib mb 0 cs (.leaf es) v up ∧ cs[1 + up.length * 2 + 1]? = some (.int .i64 (j : Int)) ∧ j < es.length ∧ L = bw 1 (fms up) ++ (es ++ fw 1 (fms up)) ∧ p = (bw 1 (fms up)).length + j
theorem off_Q (h : w.heap[ib]? = some (.cells cs 218 (0, 0))) : Off w ib := ⟨_, _, _, h, by decide, by decide, by decide, by decide⟩
theorem Low.still {up : List Fr} (h : Low w ib mb d cs s v up) (hf : Frm (fun _ => False) w w') : Low w' ib mb d cs s v up :=
  ⟨hf.get h.hb fun h => h, h.sz, h.m, h.dep, h.node, h.rep.still hf, h.wf, h.stk.still hf, h.ab, h.len⟩
theorem At.still {q : Option Nat} (h : At w ib mb L q) (hf : Frm (fun _ => False) w w') : At w' ib mb L q := by
  match q, h with
  | none, ⟨cs, h1, h2⟩ => exact ⟨cs, hf.get h1 fun h => h, h2⟩
  | some p, ⟨cs, es, v, up, j, h1, h2⟩ => exact ⟨cs, es, v, up, j, h1.still hf, h2⟩
theorem bw_cons {ks : List Tr} {i : Nat} {up : List Fr} : bw (d + 1) (fms (⟨.br ks, v, i⟩ :: up)) = bw (d + 1 + 1) (fms up) ++ (ks.take i).flatMap (toL d) := rfl
theorem fw_cons {ks : List Tr} {i : Nat} {up : List Fr} : fw (d + 1) (fms (⟨.br ks, v, i⟩ :: up)) = (ks.drop (i + 1)).flatMap (toL d) ++ fw (d + 1 + 1) (fms up) := rfl
theorem frame_eq {ks : List Tr} {i : Nat} {up : List Fr} {t : Tr} (hi : ks[i]? = some t) : bw (d + 1) (fms (⟨.br ks, v, i⟩ :: up)) ++ (toL d t ++ fw (d + 1) (fms (⟨.br ks, v, i⟩ :: up))) = bw (d + 1 + 1) (fms up) ++ (toL (d + 1) (.br ks) ++ fw (d + 1 + 1) (fms up)) := by
  obtain ⟨hil, hie⟩ := List.getElem?_eq_some_iff.1 hi
  rw [bw_cons, fw_cons, toL_split hil, hie]
  simp only [List.append_assoc]
theorem first_ok {up : List Fr} (h : Low w ib mb d cs s v up) (hK : ∀ w', Frm (· = ib) w w' → At w' ib mb (bw (d + 1) (fms up) ++ (toL d s ++ fw (d + 1) (fms up))) (some (bw (d + 1) (fms up)).length) → K (.tuple #[]) w') :
    Calls Tryz.prog 178 #[ptr ib] w (ret K Kp) := by
  refine vc178_calls ?_
  delta vc178
  obtain ⟨L, hL⟩ : ∃ L, L = bw (d + 1) (fms up) ++ (toL d s ++ fw (d + 1) (fms up)) := ⟨_, rfl⟩
  obtain ⟨p, hp⟩ : ∃ p, p = (bw (d + 1) (fms up)).length := ⟨_, rfl⟩
  rw [← hL, ← hp] at hK
  obtain ⟨I, hI⟩ : ∃ I : World → Prop, ∀ wl, I wl ↔ ∃ d cs s v up, Low wl ib mb d cs s v up ∧ Frm (· = ib) w wl ∧ L = bw (d + 1) (fms up) ++ (toL d s ++ fw (d + 1) (fms up)) ∧ p = (bw (d + 1) (fms up)).length := ⟨_, fun _ => Iff.rfl⟩
  refine Lp.intro I (fun wl => 40 - depthOf wl ib) ⟨(hI _).2 ⟨d, cs, s, v, up, h, Frm.refl, hL, hp⟩, ?_⟩
  clear hL hp h
  intro wl _ hi
  obtain ⟨d, cs, s, v, up, h, hf, hL, hp⟩ := (hI _).1 hi
  have hu := h.len
  have hd0 := depthOf_eq h.hb h.dep
  have hsz := h.sz
  have hoff := off_Q h.hb
  simp [-getElem?_pos, -Array.getElem?_eq_getElem, -Int.natCast_add, -op_st_3, -op_st_215, ptr, h.hb, h.dep]
  refine ⟨by omega, ?_⟩
  refine op_store_ok (by kernel_rfl) h.hb (by omega) rfl fun w1 k1 z1 b1 => ?_
  have k1 := Frm.dr k1
  have r1 := h.rep.off hoff k1
  have t1 := h.stk.off hoff k1
  have g1 : ∀ i, (cs.setIfInBounds (1 + up.length * 2 + 1) (.int .i64 0))[i]? = if 1 + up.length * 2 + 1 = i then some (.int .i64 0) else cs[i]? := fun i => set_at (by omega)
  have n1 : (cs.setIfInBounds (1 + up.length * 2 + 1) (.int .i64 0))[1 + up.length * 2]? = some v := by rw [g1, if_neg (by omega)]; exact h.node
  have i1 : (cs.setIfInBounds (1 + up.length * 2 + 1) (.int .i64 0))[1 + up.length * 2 + 1]? = some (.int .i64 0) := by rw [g1, if_pos rfl]
  have d1 : (cs.setIfInBounds (1 + up.length * 2 + 1) (.int .i64 0))[65]? = some (.int .i64 (up.length : Int)) := by rw [g1, if_neg (by omega)]; exact h.dep
  have m1 : (cs.setIfInBounds (1 + up.length * 2 + 1) (.int .i64 0))[0]? = some (ptr mb) := by rw [g1, if_neg (by omega)]; exact h.m
  have z1' : (cs.setIfInBounds (1 + up.length * 2 + 1) (.int .i64 0)).size = 66 := by simp [hsz]
  have st1 : Stk w1 (cs.setIfInBounds (1 + up.length * 2 + 1) (.int .i64 0)) (d + 1) up := t1.cells fun i hi => by rw [g1, if_neg (by omega)]
  generalize hcs : cs.setIfInBounds (1 + up.length * 2 + 1) (.int .i64 0) = c1 at *
  have hwf := h.wf
  have hab := h.ab
  have hf1 : Frm (· = ib) w w1 := hf.trans k1 fun _ h _ => h
  simp [-getElem?_pos, -Array.getElem?_eq_getElem, -Int.natCast_add, -op_st_3, -op_st_215, b1, n1]
  match d, hwf, r1 with
  | 0, hwf, r1 =>
    obtain ⟨es, rfl, e1, e2⟩ := wf_zero.1 hwf
    have r1' := r1
    obtain ⟨b, g, o, c, rfl, hb, hg⟩ := r1
    simp [-getElem?_pos, -Array.getElem?_eq_getElem, -Int.natCast_add, -op_st_3, -op_st_215]
    refine hK w1 hf1 ⟨c1, es, _, up, 0, ⟨b1, z1', m1, d1, n1, r1', hwf, st1, hab, hu⟩, i1, by have := List.length_pos_iff.2 e1; omega, hL, by rw [hp]; rfl⟩
  | d + 1, hwf, r1 =>
    obtain ⟨ks, rfl, e1, e2, e3⟩ := wf_succ.1 hwf
    have r1' := r1
    obtain ⟨b, g, o, c, ps, rfl, hb, hps, hg, hc⟩ := r1
    have hl : ps.length = ks.length := by rw [hps, List.length_map]
    rw [← hl] at hb hg
    obtain ⟨cur, hcur, hk⟩ := elCells hg
    have h0 : 0 < ps.length := by rw [hl]; exact List.length_pos_iff.2 e1
    have hk0 := (hk 0 h0).2
    rw [Nat.zero_mul, Nat.add_zero] at hk0
    have hr0 := hc _ (List.getElem_mem h0)
    obtain ⟨uc, pc, hcv⟩ := hr0.iface
    rw [hcv] at hk0
    have ewd : IntKind.i64.wrap ((up.length : Int) + 1) = ((up.length + 1 : Nat) : Int) := by rw [IntKind.wrap_i64]; omega
    simp [-getElem?_pos, -Array.getElem?_eq_getElem, -Int.natCast_add, -op_st_3, -op_st_215, ptr, b1, d1, i1, hb, hcur, hk0, ewd]
    refine ⟨h0, by omega, ?_⟩
    refine op_storeN_ok (n := 2) (by kernel_rfl) b1 rfl (by omega) (fun u hu => ?_) fun w2 k2 z2 b2 => ?_
    · simp only [List.mem_toArray, List.mem_cons, List.not_mem_nil, or_false] at hu
      rcases hu with rfl | rfl <;> rfl
    · have k2 := Frm.dr k2
      have g2 : ∀ j, (ow c1 (1 + (up.length + 1) * 2) [Value.iface uc pc, .int .i64 0])[j]? = if 1 + (up.length + 1) * 2 ≤ j ∧ j < 1 + (up.length + 1) * 2 + 2 then [Value.iface uc pc, .int .i64 0][j - (1 + (up.length + 1) * 2)]? else c1[j]? := fun j => ow_get (by simp; omega)
      have z2' : (ow c1 (1 + (up.length + 1) * 2) [Value.iface uc pc, .int .i64 0]).size = 66 := by rw [ow_size, z1']
      have d2 : (ow c1 (1 + (up.length + 1) * 2) [Value.iface uc pc, .int .i64 0])[65]? = some (.int .i64 (up.length : Int)) := by rw [g2, if_neg (by omega)]; exact d1
      simp [-getElem?_pos, -Array.getElem?_eq_getElem, -Int.natCast_add, -op_st_3, -op_st_215, b2, d2, ewd]
      refine op_store_ok (by kernel_rfl) b2 (by rw [ow_size]; omega) rfl fun w3 k3 z3 b3 => ?_
      have g3 : ∀ j, ((ow c1 (1 + (up.length + 1) * 2) [Value.iface uc pc, .int .i64 0]).setIfInBounds 65 (.int .i64 ((up.length + 1 : Nat) : Int)))[j]? = if 65 = j then some (.int .i64 ((up.length + 1 : Nat) : Int)) else (ow c1 (1 + (up.length + 1) * 2) [Value.iface uc pc, .int .i64 0])[j]? := fun j => set_at (by omega)
      have k13 : Frm (· = ib) w1 w3 := k2.trans k3 fun _ h _ => h
      have hm0 : ps[0].1 ∈ ks := by rw [hps]; exact List.mem_map.2 ⟨_, List.getElem_mem h0, rfl⟩
      have hks0 : ks[0]? = some ps[0].1 := by rw [hps, List.getElem?_map, List.getElem?_eq_getElem h0]; rfl
      have off1 := off_Q b1
      rw [hcv] at hr0
      have hst3 : Stk w3 ((ow c1 (1 + (up.length + 1) * 2) [Value.iface uc pc, .int .i64 0]).setIfInBounds 65 (.int .i64 ((up.length + 1 : Nat) : Int))) (d + 1 + 1) up := (st1.off off1 k13).cells fun j hj => by rw [g3, if_neg (by omega), g2, if_neg (by omega)]
      have hlow : Low w3 ib mb d ((ow c1 (1 + (up.length + 1) * 2) [Value.iface uc pc, .int .i64 0]).setIfInBounds 65 (.int .i64 ((up.length + 1 : Nat) : Int))) ps[0].1 (.iface uc pc) (⟨.br ks, .iface 279 (ptr b), 0⟩ :: up) := by
        refine ⟨by simpa using b3, by simp [z2'], ?_, ?_, ?_, hr0.off off1 k13, e3 _ hm0, ⟨?_, ?_, r1'.off off1 k13, hwf, hst3⟩, ⟨hwf, ⟨ks, rfl, hks0⟩, hab⟩, by simp only [List.length_cons]; omega⟩
        · rw [g3, if_neg (by omega), g2, if_neg (by omega)]; exact m1
        · rw [g3, if_pos rfl]; rfl
        · rw [g3, if_neg (by simp only [List.length_cons]; omega), g2, if_pos (by simp only [List.length_cons]; omega)]
          simp
        · rw [g3, if_neg (by omega), g2, if_neg (by omega)]; exact n1
        · rw [g3, if_neg (by omega), g2, if_neg (by omega)]; exact i1
      have hd3 := depthOf_eq hlow.hb hlow.dep
      refine ⟨(hI _).2 ⟨d, _, _, _, _, hlow, hf1.trans k13 fun _ h _ => h, ?_, ?_⟩, ?_⟩
      · rw [hL]; exact (frame_eq hks0).symm
      · rw [hp, bw_cons]; simp [aheadF]
      · rw [hd0, hd3]; simp only [List.length_cons]; omega
end Go.Proofs.YtodjijfblgnfmaaGreatDoor.I
end
section
namespace Go.Proofs.YtodjijfblgnfmaaGreatDoor.I
open Go.Vc Go.Proofs Go.Proofs.YtodjijfblgnfmaaGreatDoor Go.Vc.Bt
variable {w w' : World} {v : Value} {K : KV} {Kp : KP} {ib mb d p : Nat} {L : List (Ky × Vl)} {cs : Array Value} {s : Tr}
theorem last_ok {up : List Fr} (h : Low w ib mb d cs s v up) (hK : ∀ w', Frm (· = ib) w w' → At w' ib mb (bw (d + 1) (fms up) ++ (toL d s ++ fw (d + 1) (fms up))) (some ((bw (d + 1) (fms up)).length + (toL d s).length - 1)) → K (.tuple #[]) w') :
    Calls Tryz.prog 148 #[ptr ib] w (ret K Kp) := by
  refine vc148_calls ?_
  delta vc148
  obtain ⟨L, hL⟩ : ∃ L, L = bw (d + 1) (fms up) ++ (toL d s ++ fw (d + 1) (fms up)) := ⟨_, rfl⟩
  obtain ⟨p, hp⟩ : ∃ p, p = (bw (d + 1) (fms up)).length + (toL d s).length - 1 := ⟨_, rfl⟩
  rw [← hL, ← hp] at hK
  obtain ⟨I, hI⟩ : ∃ I : World → Prop, ∀ wl, I wl ↔ ∃ d cs s v up, Low wl ib mb d cs s v up ∧ Frm (· = ib) w wl ∧ L = bw (d + 1) (fms up) ++ (toL d s ++ fw (d + 1) (fms up)) ∧ p = (bw (d + 1) (fms up)).length + (toL d s).length - 1 := ⟨_, fun _ => Iff.rfl⟩
  refine Lp.intro I (fun wl => 40 - depthOf wl ib) ⟨(hI _).2 ⟨d, cs, s, v, up, h, Frm.refl, hL, hp⟩, ?_⟩
  clear hL hp h
  intro wl _ hi
  obtain ⟨d, cs, s, v, up, h, hf, hL, hp⟩ := (hI _).1 hi
  have hu := h.len
  have hd0 := depthOf_eq h.hb h.dep
  have hsz := h.sz
  have hoff := off_Q h.hb
  have hwf := h.wf
  have hab := h.ab
  have r0 := h.rep
  simp [-getElem?_pos, -Array.getElem?_eq_getElem, -Int.natCast_add, -op_st_3, -op_st_215, ptr, h.hb, h.dep, h.node]
  refine ⟨by omega, ?_⟩
  match d, hwf, r0 with
  | 0, hwf, r0 =>
    obtain ⟨es, rfl, e1, e2⟩ := wf_zero.1 hwf
    have r0' := r0
    obtain ⟨b, g, o, c, rfl, hb, hg⟩ := r0
    have h0 : 0 < es.length := List.length_pos_iff.2 e1
    have ewl : IntKind.i64.wrap ((es.length : Int) - 1) = ((es.length - 1 : Nat) : Int) := by rw [IntKind.wrap_i64]; omega
    simp [-getElem?_pos, -Array.getElem?_eq_getElem, -Int.natCast_add, -op_st_3, -op_st_215, ptr, hb, ewl]
    refine op_store_ok (by kernel_rfl) h.hb (by omega) rfl fun w1 k1 z1 b1 => ?_
    have k1 := Frm.dr k1
    have g1 : ∀ i, (cs.setIfInBounds (1 + up.length * 2 + 1) (.int .i64 ((es.length - 1 : Nat) : Int)))[i]? = if 1 + up.length * 2 + 1 = i then some (.int .i64 ((es.length - 1 : Nat) : Int)) else cs[i]? := fun i => set_at (by omega)
    refine hK w1 (hf.trans k1 fun _ h _ => h) ⟨_, es, _, up, es.length - 1, ⟨b1, by simp [hsz], ?_, ?_, ?_, r0'.off hoff k1, hwf, (h.stk.off hoff k1).cells fun i hi => by rw [g1, if_neg (by omega)], hab, hu⟩, ?_, by omega, hL, by rw [hp]; show (bw (0 + 1) (fms up)).length + es.length - 1 = (bw (0 + 1) (fms up)).length + _; omega⟩
    · rw [g1, if_neg (by omega)]; exact h.m
    · rw [g1, if_neg (by omega)]; exact h.dep
    · rw [g1, if_neg (by omega)]; exact h.node
    · rw [g1, if_pos rfl]
  | d + 1, hwf, r0 =>
    obtain ⟨ks, rfl, e1, e2, e3⟩ := wf_succ.1 hwf
    have r0' := r0
    obtain ⟨b, g, o, c, ps, rfl, hb, hps, hg, hc⟩ := r0
    have hl : ps.length = ks.length := by rw [hps, List.length_map]
    rw [← hl] at hb hg
    have h0 : 0 < ps.length := by rw [hl]; exact List.length_pos_iff.2 e1
    have ewl : IntKind.i64.wrap ((ps.length : Int) - 1) = ((ps.length - 1 : Nat) : Int) := by rw [IntKind.wrap_i64]; omega
    have ewd : IntKind.i64.wrap ((up.length : Int) + 1) = ((up.length + 1 : Nat) : Int) := by rw [IntKind.wrap_i64]; omega
    simp [-getElem?_pos, -Array.getElem?_eq_getElem, -Int.natCast_add, -op_st_3, -op_st_215, ptr, hb, ewl]
    refine op_store_ok (by kernel_rfl) h.hb (by omega) rfl fun w1 k1 z1 b1 => ?_
    have k1 := Frm.dr k1
    obtain ⟨m, hm⟩ : ∃ m, m = ps.length - 1 := ⟨_, rfl⟩
    rw [← hm] at b1
    have h0 : m < ps.length := by omega
    have t1 := h.stk.off hoff k1
    have g1 : ∀ i, (cs.setIfInBounds (1 + up.length * 2 + 1) (.int .i64 (m : Int)))[i]? = if 1 + up.length * 2 + 1 = i then some (.int .i64 (m : Int)) else cs[i]? := fun i => set_at (by omega)
    have n1 : (cs.setIfInBounds (1 + up.length * 2 + 1) (.int .i64 (m : Int)))[1 + up.length * 2]? = some (.iface 279 (ptr b)) := by rw [g1, if_neg (by omega)]; exact h.node
    have i1 : (cs.setIfInBounds (1 + up.length * 2 + 1) (.int .i64 (m : Int)))[1 + up.length * 2 + 1]? = some (.int .i64 (m : Int)) := by rw [g1, if_pos rfl]
    have d1 : (cs.setIfInBounds (1 + up.length * 2 + 1) (.int .i64 (m : Int)))[65]? = some (.int .i64 (up.length : Int)) := by rw [g1, if_neg (by omega)]; exact h.dep
    have m1 : (cs.setIfInBounds (1 + up.length * 2 + 1) (.int .i64 (m : Int)))[0]? = some (ptr mb) := by rw [g1, if_neg (by omega)]; exact h.m
    have z1' : (cs.setIfInBounds (1 + up.length * 2 + 1) (.int .i64 (m : Int))).size = 66 := by simp [hsz]
    have st1 : Stk w1 (cs.setIfInBounds (1 + up.length * 2 + 1) (.int .i64 (m : Int))) (d + 1 + 1) up := t1.cells fun i hi => by rw [g1, if_neg (by omega)]
    generalize hcs : cs.setIfInBounds (1 + up.length * 2 + 1) (.int .i64 (m : Int)) = c1 at *
    have hf1 : Frm (· = ib) w w1 := hf.trans k1 fun _ h _ => h
    have r1' := r0'.off hoff k1
    obtain ⟨bs, q1, q2, q3⟩ := id hg
    obtain ⟨co, ce, cz, p1, p2, p3, p4, p5⟩ := id hoff
    have nb : b ≠ ib := fun e => by rw [e, p1] at hb; cases hb; exact p4 rfl
    have ng : g ≠ ib := fun e => by rw [e, p1] at q1; cases q1; exact p5 rfl
    have hb1 := k1.get hb nb
    obtain ⟨cur, hcur, hk⟩ := elCells (hg.frame k1 ng)
    have hk0 := (hk m h0).2
    have hr0 := (hc _ (List.getElem_mem h0)).off hoff k1
    obtain ⟨uc, pc, hcv⟩ := hr0.iface
    rw [hcv] at hk0
    simp [-getElem?_pos, -Array.getElem?_eq_getElem, -Int.natCast_add, -op_st_3, -op_st_215, ptr, b1, d1, i1, hb1, hcur, hk0, ewd]
    refine ⟨h0, by omega, ?_⟩
    refine op_storeN_ok (n := 2) (by kernel_rfl) b1 rfl (by omega) (fun u hu => ?_) fun w2 k2 z2 b2 => ?_
    · simp only [List.mem_toArray, List.mem_cons, List.not_mem_nil, or_false] at hu
      rcases hu with rfl | rfl <;> rfl
    · have k2 := Frm.dr k2
      have g2 : ∀ j, (ow c1 (1 + (up.length + 1) * 2) [Value.iface uc pc, .int .i64 0])[j]? = if 1 + (up.length + 1) * 2 ≤ j ∧ j < 1 + (up.length + 1) * 2 + 2 then [Value.iface uc pc, .int .i64 0][j - (1 + (up.length + 1) * 2)]? else c1[j]? := fun j => ow_get (by simp; omega)
      have z2' : (ow c1 (1 + (up.length + 1) * 2) [Value.iface uc pc, .int .i64 0]).size = 66 := by rw [ow_size, z1']
      have d2 : (ow c1 (1 + (up.length + 1) * 2) [Value.iface uc pc, .int .i64 0])[65]? = some (.int .i64 (up.length : Int)) := by rw [g2, if_neg (by omega)]; exact d1
      simp [-getElem?_pos, -Array.getElem?_eq_getElem, -Int.natCast_add, -op_st_3, -op_st_215, b2, d2, ewd]
      refine op_store_ok (by kernel_rfl) b2 (by rw [ow_size]; omega) rfl fun w3 k3 z3 b3 => ?_
      have g3 : ∀ j, ((ow c1 (1 + (up.length + 1) * 2) [Value.iface uc pc, .int .i64 0]).setIfInBounds 65 (.int .i64 ((up.length + 1 : Nat) : Int)))[j]? = if 65 = j then some (.int .i64 ((up.length + 1 : Nat) : Int)) else (ow c1 (1 + (up.length + 1) * 2) [Value.iface uc pc, .int .i64 0])[j]? := fun j => set_at (by omega)
      have k13 : Frm (· = ib) w1 w3 := k2.trans k3 fun _ h _ => h
      have hm0 : ps[m].1 ∈ ks := by rw [hps]; exact List.mem_map.2 ⟨_, List.getElem_mem h0, rfl⟩
      have hks0 : ks[m]? = some ps[m].1 := by rw [hps, List.getElem?_map, List.getElem?_eq_getElem h0]; rfl
      have off1 := off_Q b1
      rw [hcv] at hr0
      have hst3 : Stk w3 ((ow c1 (1 + (up.length + 1) * 2) [Value.iface uc pc, .int .i64 0]).setIfInBounds 65 (.int .i64 ((up.length + 1 : Nat) : Int))) (d + 1 + 1) up := (st1.off off1 k13).cells fun j hj => by rw [g3, if_neg (by omega), g2, if_neg (by omega)]
      have hlow : Low w3 ib mb d ((ow c1 (1 + (up.length + 1) * 2) [Value.iface uc pc, .int .i64 0]).setIfInBounds 65 (.int .i64 ((up.length + 1 : Nat) : Int))) ps[m].1 (.iface uc pc) (⟨.br ks, .iface 279 (ptr b), m⟩ :: up) := by
        refine ⟨by simpa using b3, by simp [z2'], ?_, ?_, ?_, hr0.off off1 k13, e3 _ hm0, ⟨?_, ?_, r1'.off off1 k13, hwf, hst3⟩, ⟨hwf, ⟨ks, rfl, hks0⟩, hab⟩, by simp only [List.length_cons]; omega⟩
        · rw [g3, if_neg (by omega), g2, if_neg (by omega)]; exact m1
        · rw [g3, if_pos rfl]; rfl
        · rw [g3, if_neg (by simp only [List.length_cons]; omega), g2, if_pos (by simp only [List.length_cons]; omega)]
          simp
        · rw [g3, if_neg (by omega), g2, if_neg (by omega)]; exact n1
        · rw [g3, if_neg (by omega), g2, if_neg (by omega)]; exact i1
      have hd3 := depthOf_eq hlow.hb hlow.dep
      refine ⟨(hI _).2 ⟨d, _, _, _, _, hlow, hf1.trans k13 fun _ h _ => h, ?_, ?_⟩, ?_⟩
      · rw [hL]; exact (frame_eq hks0).symm
      · obtain ⟨hil, hie⟩ := List.getElem?_eq_some_iff.1 hks0
        have hdr : ks.drop (m + 1) = [] := List.drop_of_length_le (by omega)
        rw [hp, bw_cons, toL_split hil, hie, hdr]
        simp only [List.flatMap_nil, List.append_nil, List.length_append]; omega
      · rw [hd0, hd3]; simp only [List.length_cons]; omega
end Go.Proofs.YtodjijfblgnfmaaGreatDoor.I
end
section
namespace Go.Proofs.YtodjijfblgnfmaaGreatDoor.I
open Go.Vc Go.Proofs Go.Proofs.YtodjijfblgnfmaaGreatDoor Go.Vc.Bt
variable {w w' : World} {v : Value} {K : KV} {Kp : KP} {ib mb d : Nat} {L : List (Ky × Vl)} {cs : Array Value}
structure Pop (w : World) (ib mb d : Nat) (cs : Array Value) (r : Fr) (up : List Fr) : Prop where
  hb : w.heap[ib]? = some (.cells cs 218 (0, 0))
  sz : cs.size = 66
  m : cs[0]? = some (ptr mb)
  dep : cs[65]? = some (.int .i64 (up.length : Int))
  stk : Stk w cs d (r :: up)
  ab : Above d r.s (fms up)
  len : d + up.length ≤ 31
  inr : r.i < r.s.size ∨ d = 0 ∧ r.i = r.s.size
theorem at_pop {q : Nat} (h : At w ib mb L (some q)) : ∃ cs r up, Pop w ib mb 0 cs r up ∧ L = bw 1 (fms up) ++ (toL 0 r.s ++ fw 1 (fms up)) ∧ q + 1 + (fw 0 (fms (r :: up))).length = L.length := by
  obtain ⟨cs, es, v, up, j, h1, h2, h3, h4, h5⟩ := h
  refine ⟨cs, ⟨.leaf es, v, j⟩, up, ⟨h1.hb, h1.sz, h1.m, h1.dep, ⟨h1.node, h2, h1.rep, h1.wf, h1.stk⟩, h1.ab, h1.len, .inl h3⟩, h4, ?_⟩
  have e : fw 0 (fms (⟨.leaf es, v, j⟩ :: up)) = es.drop (j + 1) ++ fw 1 (fms up) := rfl
  rw [e, h4, h5]
  simp only [List.length_append, List.length_drop]; omega
theorem next_pop {q : Nat} (h : ∃ cs r up, Pop w ib mb 0 cs r up ∧ L = bw 1 (fms up) ++ (toL 0 r.s ++ fw 1 (fms up)) ∧ q + 1 + (fw 0 (fms (r :: up))).length = L.length) (hK : ∀ w', Frm (· = ib) w w' → At w' ib mb L (if q + 1 < L.length then some (q + 1) else none) → K (.tuple #[]) w') :
    Calls Tryz.prog 180 #[ptr ib] w (ret K Kp) := by
  refine vc180_calls ?_
  delta vc180
  obtain ⟨I, hI⟩ : ∃ I : World → Prop, ∀ wl, I wl ↔ Frm (· = ib) w wl ∧ ((∃ d cs r up, Pop wl ib mb d cs r up ∧ L = bw (d + 1) (fms up) ++ (toL d r.s ++ fw (d + 1) (fms up)) ∧ q + 1 + (fw d (fms (r :: up))).length = L.length) ∨ (At wl ib mb L none ∧ q + 1 = L.length)) := ⟨_, fun _ => Iff.rfl⟩
  refine Lp.intro I (fun wl => depthOf wl ib) ⟨(hI _).2 ⟨Frm.refl, .inl ?_⟩, ?_⟩
  · obtain ⟨cs, r, up, h1, h2, h3⟩ := h
    exact ⟨0, cs, r, up, h1, h2, h3⟩
  intro wl _ hi
  obtain ⟨hf, hi | ⟨⟨cs, h1, h2, h3, h4⟩, hq⟩⟩ := (hI _).1 hi
  · obtain ⟨d, cs, r, up, h1, hL, hq⟩ := hi
    have hd0 := depthOf_eq h1.hb h1.dep
    have hsz := h1.sz
    have hlen := h1.len
    obtain ⟨k1, k2, k3, k4, k5⟩ := h1.stk
    have hab := h1.ab
    have hinr := h1.inr
    have hoff := off_Q h1.hb
    have hpop : ∀ w1, Frm (· = ib) wl w1 → w1.heap[ib]? = some (.cells (cs.setIfInBounds 65 (.int .i64 ((up.length : Int) - 1))) 218 (0, 0)) → fw d (fms (r :: up)) = fw (d + 1) (fms up) → I w1 ∧ depthOf w1 ib < depthOf wl ib := by
      intro w1 k1' b1 he
      have g1 : ∀ i, (cs.setIfInBounds 65 (.int .i64 ((up.length : Int) - 1)))[i]? = if 65 = i then some (.int .i64 ((up.length : Int) - 1)) else cs[i]? := fun i => set_at (by omega)
      have hd1 := depthOf_eq b1 (by rw [g1, if_pos rfl])
      have hf1 : Frm (· = ib) w w1 := hf.trans k1' fun _ h _ => h
      refine ⟨(hI _).2 ⟨hf1, ?_⟩, by rw [hd1, hd0]; omega⟩
      cases up with
      | nil =>
        refine .inr ⟨⟨_, b1, by simp [hsz], by rw [g1, if_neg (by omega)]; exact h1.m, by rw [g1, if_pos rfl]; rfl⟩, ?_⟩
        rw [he] at hq
        have : (fw (d + 1) (fms ([] : List Fr))).length = 0 := rfl
        omega
      | cons r' up' =>
        obtain ⟨s', v', i'⟩ := r'
        obtain ⟨a1, ⟨ks, a2, a3⟩, a4⟩ := hab
        obtain rfl : s' = .br ks := a2
        obtain ⟨hil, hie⟩ := List.getElem?_eq_some_iff.1 a3
        refine .inl ⟨d + 1, _, ⟨.br ks, v', i'⟩, up', ⟨b1, by simp [hsz], by rw [g1, if_neg (by omega)]; exact h1.m, ?_, (k5.off hoff k1').cells fun j hj => ?_, a4, ?_, .inl hil⟩, ?_, ?_⟩
        · rw [g1, if_pos rfl]; simp
        · simp only [List.length_cons] at hj hlen
          rw [g1, if_neg (by omega)]
        · simp only [List.length_cons] at hlen; omega
        · rw [hL]; exact frame_eq a3
        · rw [← he]; exact hq
    simp [-getElem?_pos, -Array.getElem?_eq_getElem, -Int.natCast_add, -op_st_3, -op_st_208, ptr, h1.hb, h1.dep, k1]
    refine ⟨by omega, ?_⟩
    have ewm : IntKind.i64.wrap ((up.length : Int) - 1) = (up.length : Int) - 1 := by rw [IntKind.wrap_i64]; omega
    obtain ⟨rs, rv, ri⟩ := r
    match d, k4, k3 with
    | 0, k4, k3 =>
      obtain ⟨es, rfl, e1, e2⟩ := wf_zero.1 k4
      have k3' := k3
      obtain ⟨b, g, o, c, rfl, hb, hg⟩ := k3
      have hri : ri ≤ es.length := by
        rcases hinr with h | ⟨_, h⟩
        · exact Nat.le_of_lt h
        · exact Nat.le_of_eq h
      have h0 : 0 < es.length := List.length_pos_iff.2 e1
      have ewl : IntKind.i64.wrap ((es.length : Int) - 1) = (es.length : Int) - 1 := by rw [IntKind.wrap_i64]; omega
      have ewi : IntKind.i64.wrap ((ri : Int) + 1) = ((ri + 1 : Nat) : Int) := by rw [IntKind.wrap_i64]; omega
      simp [-getElem?_pos, -Array.getElem?_eq_getElem, -Int.natCast_add, -op_st_3, -op_st_208, ptr, h1.hb, h1.dep, k2, hb, ewl, ewi, ewm]
      refine ⟨fun hlt => ?_, fun hge => ?_⟩
      · refine op_store_ok (by kernel_rfl) h1.hb (by omega) rfl fun w1 p1 z1 b1 => ?_
        have p1 := Frm.dr (Frm.dr p1)
        have g1 : ∀ i, (cs.setIfInBounds (1 + up.length * 2 + 1) (.int .i64 ((ri + 1 : Nat) : Int)))[i]? = if 1 + up.length * 2 + 1 = i then some (.int .i64 ((ri + 1 : Nat) : Int)) else cs[i]? := fun i => set_at (by omega)
        have hz : (bw (0 + 1) (fms up)).length + es.length + (fw (0 + 1) (fms up)).length = L.length := by rw [hL]; simp only [List.length_append, toL_zero]; omega
        have hz2 : q + 1 + (es.length - (ri + 1) + (fw (0 + 1) (fms up)).length) = L.length := by
          rw [← hq]; show _ = q + 1 + (es.drop (ri + 1) ++ fw (0 + 1) (fms up)).length
          rw [List.length_append, List.length_drop]
        refine hK w1 (hf.trans p1 fun _ h _ => h) ?_
        rw [if_pos (by omega)]
        refine ⟨_, es, _, up, ri + 1, ⟨b1, by simp [hsz], ?_, ?_, ?_, k3'.off hoff p1, k4, (k5.off hoff p1).cells fun i hi => by rw [g1, if_neg (by omega)], hab, hlen⟩, by rw [g1, if_pos rfl], by omega, hL, ?_⟩
        · rw [g1, if_neg (by omega)]; exact h1.m
        · rw [g1, if_neg (by omega)]; exact h1.dep
        · rw [g1, if_neg (by omega)]; exact k1
        · show q + 1 = (bw (0 + 1) (fms up)).length + _; omega
      · refine op_store_ok (by kernel_rfl) h1.hb (by omega) rfl fun w1 p1 z1 b1 => ?_
        refine hpop w1 (Frm.dr (Frm.dr p1)) b1 ?_
        have e : fw 0 (fms (⟨.leaf es, .iface 220 (ptr b), ri⟩ :: up)) = es.drop (ri + 1) ++ fw 1 (fms up) := rfl
        rw [e, List.drop_of_length_le (by omega)]; rfl
    | d + 1, k4, k3 =>
      obtain ⟨ks, rfl, e1, e2, e3⟩ := wf_succ.1 k4
      have k3' := k3
      obtain ⟨b, g, o, c, ps, rfl, hb, hps, hg, hc⟩ := k3
      have hl : ps.length = ks.length := by rw [hps, List.length_map]
      rw [← hl] at hb hg
      have hri : ri < ks.length := hinr.resolve_right (by omega)
      have ewl : IntKind.i64.wrap ((ps.length : Int) - 1) = (ps.length : Int) - 1 := by rw [IntKind.wrap_i64]; omega
      have ewi : IntKind.i64.wrap ((ri : Int) + 1) = ((ri + 1 : Nat) : Int) := by rw [IntKind.wrap_i64]; omega
      have ewd : IntKind.i64.wrap ((up.length : Int) + 1) = ((up.length + 1 : Nat) : Int) := by rw [IntKind.wrap_i64]; omega
      simp [-getElem?_pos, -Array.getElem?_eq_getElem, -Int.natCast_add, -op_st_3, -op_st_208, ptr, h1.hb, h1.dep, k2, hb, ewl, ewi, ewm]
      refine ⟨fun hlt => ?_, fun hge => ?_⟩
      · refine op_store_ok (by kernel_rfl) h1.hb (by omega) rfl fun w1 p1 z1 b1 => ?_
        have p1 := Frm.dr (Frm.dr p1)
        obtain ⟨m, hm⟩ : ∃ m, m = ri + 1 := ⟨_, rfl⟩
        rw [← hm] at b1
        have h0 : m < ps.length := by omega
        have g1 : ∀ i, (cs.setIfInBounds (1 + up.length * 2 + 1) (.int .i64 (m : Int)))[i]? = if 1 + up.length * 2 + 1 = i then some (.int .i64 (m : Int)) else cs[i]? := fun i => set_at (by omega)
        have n1 : (cs.setIfInBounds (1 + up.length * 2 + 1) (.int .i64 (m : Int)))[1 + up.length * 2]? = some (.iface 279 (ptr b)) := by rw [g1, if_neg (by omega)]; exact k1
        have i1 : (cs.setIfInBounds (1 + up.length * 2 + 1) (.int .i64 (m : Int)))[1 + up.length * 2 + 1]? = some (.int .i64 (m : Int)) := by rw [g1, if_pos rfl]
        have d1 : (cs.setIfInBounds (1 + up.length * 2 + 1) (.int .i64 (m : Int)))[65]? = some (.int .i64 (up.length : Int)) := by rw [g1, if_neg (by omega)]; exact h1.dep
        have m1 : (cs.setIfInBounds (1 + up.length * 2 + 1) (.int .i64 (m : Int)))[0]? = some (ptr mb) := by rw [g1, if_neg (by omega)]; exact h1.m
        have z1' : (cs.setIfInBounds (1 + up.length * 2 + 1) (.int .i64 (m : Int))).size = 66 := by simp [hsz]
        have st1 : Stk w1 (cs.setIfInBounds (1 + up.length * 2 + 1) (.int .i64 (m : Int))) (d + 1 + 1) up := (k5.off hoff p1).cells fun i hi => by rw [g1, if_neg (by omega)]
        generalize hcs : cs.setIfInBounds (1 + up.length * 2 + 1) (.int .i64 (m : Int)) = c1 at *
        have hf1 : Frm (· = ib) w w1 := hf.trans p1 fun _ h _ => h
        have r1' := k3'.off hoff p1
        obtain ⟨bs, q1, q2, q3⟩ := id hg
        obtain ⟨co, ce, cz, o1, o2, o3, o4, o5⟩ := id hoff
        have nb : b ≠ ib := fun e => by rw [e, o1] at hb; cases hb; exact o4 rfl
        have ng : g ≠ ib := fun e => by rw [e, o1] at q1; cases q1; exact o5 rfl
        have hb1 := p1.get hb nb
        obtain ⟨cur, hcur, hk⟩ := elCells (hg.frame p1 ng)
        have hk0 := (hk m h0).2
        have hr0 := (hc _ (List.getElem_mem h0)).off hoff p1
        obtain ⟨uc, pc, hcv⟩ := hr0.iface
        rw [hcv] at hk0
        simp [-getElem?_pos, -Array.getElem?_eq_getElem, -Int.natCast_add, -op_st_3, -op_st_208, ptr, b1, d1, i1, hb1, hcur, hk0, ewd]
        refine ⟨h0, by omega, ?_⟩
        refine op_store_ok (by kernel_rfl) b1 (by omega) rfl fun w2 k2 z2 b2 => ?_
        have k2 := Frm.dr k2
        have g2 : ∀ j, (c1.setIfInBounds (1 + (up.length + 1) * 2) (.iface uc pc))[j]? = if 1 + (up.length + 1) * 2 = j then some (.iface uc pc) else c1[j]? := fun j => set_at (by omega)
        have d2 : (c1.setIfInBounds (1 + (up.length + 1) * 2) (.iface uc pc))[65]? = some (.int .i64 (up.length : Int)) := by rw [g2, if_neg (by omega)]; exact d1
        have z2' : (c1.setIfInBounds (1 + (up.length + 1) * 2) (.iface uc pc)).size = 66 := by simp [z1']
        simp [-getElem?_pos, -Array.getElem?_eq_getElem, -Int.natCast_add, -op_st_3, -op_st_208, b2, d2, ewd]
        refine op_store_ok (by kernel_rfl) b2 (by omega) rfl fun w3 k3 z3 b3 => ?_
        have g3 : ∀ j, ((c1.setIfInBounds (1 + (up.length + 1) * 2) (.iface uc pc)).setIfInBounds 65 (.int .i64 ((up.length + 1 : Nat) : Int)))[j]? = if 65 = j then some (.int .i64 ((up.length + 1 : Nat) : Int)) else (c1.setIfInBounds (1 + (up.length + 1) * 2) (.iface uc pc))[j]? := fun j => set_at (by omega)
        have k13 : Frm (· = ib) w1 w3 := k2.trans k3 fun _ h _ => h
        have hm0 : ps[m].1 ∈ ks := by rw [hps]; exact List.mem_map.2 ⟨_, List.getElem_mem h0, rfl⟩
        have hks0 : ks[m]? = some ps[m].1 := by rw [hps, List.getElem?_map, List.getElem?_eq_getElem h0]; rfl
        have off1 := off_Q b1
        rw [hcv] at hr0
        have hst3 : Stk w3 ((c1.setIfInBounds (1 + (up.length + 1) * 2) (.iface uc pc)).setIfInBounds 65 (.int .i64 ((up.length + 1 : Nat) : Int))) (d + 1 + 1) up := (st1.off off1 k13).cells fun j hj => by rw [g3, if_neg (by omega), g2, if_neg (by omega)]
        have hlow : Low w3 ib mb d ((c1.setIfInBounds (1 + (up.length + 1) * 2) (.iface uc pc)).setIfInBounds 65 (.int .i64 ((up.length + 1 : Nat) : Int))) ps[m].1 (.iface uc pc) (⟨.br ks, .iface 279 (ptr b), m⟩ :: up) := by
          refine ⟨by simpa using b3, by simp [z2'], ?_, ?_, ?_, hr0.off off1 k13, e3 _ hm0, ⟨?_, ?_, r1'.off off1 k13, k4, hst3⟩, ⟨k4, ⟨ks, rfl, hks0⟩, hab⟩, by simp only [List.length_cons]; omega⟩
          · rw [g3, if_neg (by omega), g2, if_neg (by omega)]; exact m1
          · rw [g3, if_pos rfl]; rfl
          · rw [g3, if_neg (by simp only [List.length_cons]; omega), g2, if_pos (by simp only [List.length_cons])]
          · rw [g3, if_neg (by omega), g2, if_neg (by omega)]; exact n1
          · rw [g3, if_neg (by omega), g2, if_neg (by omega)]; exact i1
        have hne : 0 < (toL d ps[m].1).length := List.length_pos_iff.2 (toL_ne d _ (e3 _ hm0))
        refine first_ok hlow fun w4 k4' hat => ?_
        have hf4 : Frm (· = ib) w w4 := (hf1.trans k13 fun _ h _ => h).trans k4' fun _ h _ => h
        rw [frame_eq hks0, ← hL] at hat
        have hfw : q + 1 + ((ks.drop m).flatMap (toL d)).length + (fw (d + 1 + 1) (fms up)).length = L.length := by
          rw [← hq, fw_cons, hm, List.length_append]; omega
        have hsum : ((ks.take m).flatMap (toL d)).length + ((ks.drop m).flatMap (toL d)).length = (toL (d + 1) (.br ks)).length := by
          rw [toL_succ, ← List.length_append, ← List.flatMap_append, List.take_append_drop]
        have hall : L.length = (bw (d + 1 + 1) (fms up)).length + ((toL (d + 1) (.br ks)).length + (fw (d + 1 + 1) (fms up)).length) := by rw [hL, List.length_append, List.length_append]
        have hdm : (toL d ps[m].1).length ≤ ((ks.drop m).flatMap (toL d)).length := by
          obtain ⟨hil, hie⟩ := List.getElem?_eq_some_iff.1 hks0
          rw [List.drop_eq_getElem_cons hil, List.flatMap_cons, hie, List.length_append]; omega
        have hpos : (bw (d + 1) (fms (⟨.br ks, .iface 279 (ptr b), m⟩ :: up))).length = q + 1 := by
          rw [bw_cons, List.length_append]; omega
        rw [hpos] at hat
        refine hK w4 hf4 ?_
        rw [if_pos (by omega)]
        exact hat
      · refine op_store_ok (by kernel_rfl) h1.hb (by omega) rfl fun w1 p1 z1 b1 => ?_
        refine hpop w1 (Frm.dr (Frm.dr p1)) b1 ?_
        rw [fw_cons, List.drop_of_length_le (by omega)]; rfl
  · simp [-getElem?_pos, -Array.getElem?_eq_getElem, -Int.natCast_add, -op_st_3, -op_st_208, ptr, h1, h4]
    refine hK wl hf ?_
    rw [if_neg (by omega)]
    exact ⟨cs, h1, h2, h3, h4⟩
theorem next_ok {q : Nat} (h : At w ib mb L (some q)) (hK : ∀ w', Frm (· = ib) w w' → At w' ib mb L (if q + 1 < L.length then some (q + 1) else none) → K (.tuple #[]) w') :
    Calls Tryz.prog 180 #[ptr ib] w (ret K Kp) := next_pop (at_pop h) hK
end Go.Proofs.YtodjijfblgnfmaaGreatDoor.I
end
section
namespace Go.Proofs.YtodjijfblgnfmaaGreatDoor.I
open Go.Vc Go.Proofs Go.Proofs.YtodjijfblgnfmaaGreatDoor Go.Vc.Bt
variable {w w' : World} {v : Value} {K : KV} {Kp : KP} {ib mb d : Nat} {L : List (Ky × Vl)} {cs : Array Value}
theorem at_pop' {q : Nat} (h : At w ib mb L (some q)) : ∃ cs r up, Pop w ib mb 0 cs r up ∧ L = bw 1 (fms up) ++ (toL 0 r.s ++ fw 1 (fms up)) ∧ (bw 0 (fms (r :: up))).length = q := by
  obtain ⟨cs, es, v, up, j, h1, h2, h3, h4, h5⟩ := h
  refine ⟨cs, ⟨.leaf es, v, j⟩, up, ⟨h1.hb, h1.sz, h1.m, h1.dep, ⟨h1.node, h2, h1.rep, h1.wf, h1.stk⟩, h1.ab, h1.len, .inl h3⟩, h4, ?_⟩
  have e : bw 0 (fms (⟨.leaf es, v, j⟩ :: up)) = bw 1 (fms up) ++ es.take j := rfl
  rw [e, h5]
  simp only [List.length_append, List.length_take]; omega
theorem prev_ok {q : Nat} (h : At w ib mb L (some q)) (hK : ∀ w', Frm (· = ib) w w' → At w' ib mb L (if 0 < q then some (q - 1) else none) → K (.tuple #[]) w') :
    Calls Tryz.prog 149 #[ptr ib] w (ret K Kp) := by
  refine vc149_calls ?_
  delta vc149
  obtain ⟨I, hI⟩ : ∃ I : World → Prop, ∀ wl, I wl ↔ Frm (· = ib) w wl ∧ ((∃ d cs r up, Pop wl ib mb d cs r up ∧ L = bw (d + 1) (fms up) ++ (toL d r.s ++ fw (d + 1) (fms up)) ∧ (bw d (fms (r :: up))).length = q) ∨ (At wl ib mb L none ∧ q = 0)) := ⟨_, fun _ => Iff.rfl⟩
  refine Lp.intro I (fun wl => depthOf wl ib) ⟨(hI _).2 ⟨Frm.refl, .inl ?_⟩, ?_⟩
  · obtain ⟨cs, r, up, h1, h2, h3⟩ := at_pop' h
    exact ⟨0, cs, r, up, h1, h2, h3⟩
  intro wl _ hi
  obtain ⟨hf, hi | ⟨⟨cs, h1, h2, h3, h4⟩, hq⟩⟩ := (hI _).1 hi
  · obtain ⟨d, cs, r, up, h1, hL, hq⟩ := hi
    have hd0 := depthOf_eq h1.hb h1.dep
    have hsz := h1.sz
    have hlen := h1.len
    obtain ⟨k1, k2, k3, k4, k5⟩ := h1.stk
    have hab := h1.ab
    have hinr := h1.inr
    have hoff := off_Q h1.hb
    have hpop : ∀ w1, Frm (· = ib) wl w1 → w1.heap[ib]? = some (.cells (cs.setIfInBounds 65 (.int .i64 ((up.length : Int) - 1))) 218 (0, 0)) → bw d (fms (r :: up)) = bw (d + 1) (fms up) → I w1 ∧ depthOf w1 ib < depthOf wl ib := by
      intro w1 k1' b1 he
      have g1 : ∀ i, (cs.setIfInBounds 65 (.int .i64 ((up.length : Int) - 1)))[i]? = if 65 = i then some (.int .i64 ((up.length : Int) - 1)) else cs[i]? := fun i => set_at (by omega)
      have hd1 := depthOf_eq b1 (by rw [g1, if_pos rfl])
      have hf1 : Frm (· = ib) w w1 := hf.trans k1' fun _ h _ => h
      refine ⟨(hI _).2 ⟨hf1, ?_⟩, by rw [hd1, hd0]; omega⟩
      cases up with
      | nil =>
        refine .inr ⟨⟨_, b1, by simp [hsz], by rw [g1, if_neg (by omega)]; exact h1.m, by rw [g1, if_pos rfl]; rfl⟩, ?_⟩
        rw [he] at hq
        have : (bw (d + 1) (fms ([] : List Fr))).length = 0 := rfl
        omega
      | cons r' up' =>
        obtain ⟨s', v', i'⟩ := r'
        obtain ⟨a1, ⟨ks, a2, a3⟩, a4⟩ := hab
        obtain rfl : s' = .br ks := a2
        obtain ⟨hil, hie⟩ := List.getElem?_eq_some_iff.1 a3
        refine .inl ⟨d + 1, _, ⟨.br ks, v', i'⟩, up', ⟨b1, by simp [hsz], by rw [g1, if_neg (by omega)]; exact h1.m, ?_, (k5.off hoff k1').cells fun j hj => ?_, a4, ?_, .inl hil⟩, ?_, ?_⟩
        · rw [g1, if_pos rfl]; simp
        · simp only [List.length_cons] at hj hlen
          rw [g1, if_neg (by omega)]
        · simp only [List.length_cons] at hlen; omega
        · rw [hL]; exact frame_eq a3
        · rw [← he]; exact hq
    simp [-getElem?_pos, -Array.getElem?_eq_getElem, -Int.natCast_add, -op_st_3, -op_st_208, ptr, h1.hb, h1.dep, k1]
    refine ⟨by omega, ?_⟩
    have ewm : IntKind.i64.wrap ((up.length : Int) - 1) = (up.length : Int) - 1 := by rw [IntKind.wrap_i64]; omega
    obtain ⟨rs, rv, ri⟩ := r
    match d, k4, k3 with
    | 0, k4, k3 =>
      obtain ⟨es, rfl, e1, e2⟩ := wf_zero.1 k4
      have k3' := k3
      obtain ⟨b, g, o, c, rfl, hb, hg⟩ := k3
      have hri : ri ≤ es.length := by
        rcases hinr with h | ⟨_, h⟩
        · exact Nat.le_of_lt h
        · exact Nat.le_of_eq h
      have h0 : 0 < es.length := List.length_pos_iff.2 e1
      have ewl : IntKind.i64.wrap ((es.length : Int) - 1) = (es.length : Int) - 1 := by rw [IntKind.wrap_i64]; omega
      have ewi : 0 < ri → IntKind.i64.wrap ((ri : Int) - 1) = ((ri - 1 : Nat) : Int) := fun _ => by rw [IntKind.wrap_i64]; omega
      simp [-getElem?_pos, -Array.getElem?_eq_getElem, -Int.natCast_add, -op_st_3, -op_st_208, ptr, h1.hb, h1.dep, k2, hb, ewm]
      refine ⟨fun hlt => ?_, fun hge => ?_⟩
      · rw [ewi (by omega)]
        refine op_store_ok (by kernel_rfl) h1.hb (by omega) rfl fun w1 p1 z1 b1 => ?_
        have p1 := Frm.dr p1
        have g1 : ∀ i, (cs.setIfInBounds (1 + up.length * 2 + 1) (.int .i64 ((ri - 1 : Nat) : Int)))[i]? = if 1 + up.length * 2 + 1 = i then some (.int .i64 ((ri - 1 : Nat) : Int)) else cs[i]? := fun i => set_at (by omega)
        have hz : (bw (0 + 1) (fms up) ++ es.take ri).length = q := hq
        rw [List.length_append, List.length_take] at hz
        refine hK w1 (hf.trans p1 fun _ h _ => h) ?_
        rw [if_pos (by omega)]
        refine ⟨_, es, _, up, ri - 1, ⟨b1, by simp [hsz], ?_, ?_, ?_, k3'.off hoff p1, k4, (k5.off hoff p1).cells fun i hi => by rw [g1, if_neg (by omega)], hab, hlen⟩, by rw [g1, if_pos rfl], by omega, hL, ?_⟩
        · rw [g1, if_neg (by omega)]; exact h1.m
        · rw [g1, if_neg (by omega)]; exact h1.dep
        · rw [g1, if_neg (by omega)]; exact k1
        · show q - 1 = (bw (0 + 1) (fms up)).length + _; omega
      · refine op_store_ok (by kernel_rfl) h1.hb (by omega) rfl fun w1 p1 z1 b1 => ?_
        refine hpop w1 (Frm.dr p1) b1 ?_
        have e : bw 0 (fms (⟨.leaf es, .iface 220 (ptr b), ri⟩ :: up)) = bw 1 (fms up) ++ es.take ri := rfl
        have h0' : ri = 0 := by omega
        rw [e, h0']; simp
    | d + 1, k4, k3 =>
      obtain ⟨ks, rfl, e1, e2, e3⟩ := wf_succ.1 k4
      have k3' := k3
      obtain ⟨b, g, o, c, ps, rfl, hb, hps, hg, hc⟩ := k3
      have hl : ps.length = ks.length := by rw [hps, List.length_map]
      rw [← hl] at hb hg
      have hri : ri < ks.length := hinr.resolve_right (by omega)
      have ewl : IntKind.i64.wrap ((ps.length : Int) - 1) = (ps.length : Int) - 1 := by rw [IntKind.wrap_i64]; omega
      have ewi : 0 < ri → IntKind.i64.wrap ((ri : Int) - 1) = ((ri - 1 : Nat) : Int) := fun _ => by rw [IntKind.wrap_i64]; omega
      have ewd : IntKind.i64.wrap ((up.length : Int) + 1) = ((up.length + 1 : Nat) : Int) := by rw [IntKind.wrap_i64]; omega
      simp [-getElem?_pos, -Array.getElem?_eq_getElem, -Int.natCast_add, -op_st_3, -op_st_208, ptr, h1.hb, h1.dep, k2, hb, ewm]
      refine ⟨fun hlt => ?_, fun hge => ?_⟩
      · rw [ewi (by omega)]
        refine op_store_ok (by kernel_rfl) h1.hb (by omega) rfl fun w1 p1 z1 b1 => ?_
        have p1 := Frm.dr p1
        obtain ⟨m, hm⟩ : ∃ m, m = ri - 1 := ⟨_, rfl⟩
        rw [← hm] at b1
        have h0 : m < ps.length := by omega
        have g1 : ∀ i, (cs.setIfInBounds (1 + up.length * 2 + 1) (.int .i64 (m : Int)))[i]? = if 1 + up.length * 2 + 1 = i then some (.int .i64 (m : Int)) else cs[i]? := fun i => set_at (by omega)
        have n1 : (cs.setIfInBounds (1 + up.length * 2 + 1) (.int .i64 (m : Int)))[1 + up.length * 2]? = some (.iface 279 (ptr b)) := by rw [g1, if_neg (by omega)]; exact k1
        have i1 : (cs.setIfInBounds (1 + up.length * 2 + 1) (.int .i64 (m : Int)))[1 + up.length * 2 + 1]? = some (.int .i64 (m : Int)) := by rw [g1, if_pos rfl]
        have d1 : (cs.setIfInBounds (1 + up.length * 2 + 1) (.int .i64 (m : Int)))[65]? = some (.int .i64 (up.length : Int)) := by rw [g1, if_neg (by omega)]; exact h1.dep
        have m1 : (cs.setIfInBounds (1 + up.length * 2 + 1) (.int .i64 (m : Int)))[0]? = some (ptr mb) := by rw [g1, if_neg (by omega)]; exact h1.m
        have z1' : (cs.setIfInBounds (1 + up.length * 2 + 1) (.int .i64 (m : Int))).size = 66 := by simp [hsz]
        have st1 : Stk w1 (cs.setIfInBounds (1 + up.length * 2 + 1) (.int .i64 (m : Int))) (d + 1 + 1) up := (k5.off hoff p1).cells fun i hi => by rw [g1, if_neg (by omega)]
        generalize hcs : cs.setIfInBounds (1 + up.length * 2 + 1) (.int .i64 (m : Int)) = c1 at *
        have hf1 : Frm (· = ib) w w1 := hf.trans p1 fun _ h _ => h
        have r1' := k3'.off hoff p1
        obtain ⟨bs, q1, q2, q3⟩ := id hg
        obtain ⟨co, ce, cz, o1, o2, o3, o4, o5⟩ := id hoff
        have nb : b ≠ ib := fun e => by rw [e, o1] at hb; cases hb; exact o4 rfl
        have ng : g ≠ ib := fun e => by rw [e, o1] at q1; cases q1; exact o5 rfl
        have hb1 := p1.get hb nb
        obtain ⟨cur, hcur, hk⟩ := elCells (hg.frame p1 ng)
        have hk0 := (hk m h0).2
        have hr0 := (hc _ (List.getElem_mem h0)).off hoff p1
        obtain ⟨uc, pc, hcv⟩ := hr0.iface
        rw [hcv] at hk0
        simp [-getElem?_pos, -Array.getElem?_eq_getElem, -Int.natCast_add, -op_st_3, -op_st_208, ptr, b1, d1, i1, hb1, hcur, hk0, ewd]
        refine ⟨h0, by omega, ?_⟩
        refine op_store_ok (by kernel_rfl) b1 (by omega) rfl fun w2 k2 z2 b2 => ?_
        have k2 := Frm.dr k2
        have g2 : ∀ j, (c1.setIfInBounds (1 + (up.length + 1) * 2) (.iface uc pc))[j]? = if 1 + (up.length + 1) * 2 = j then some (.iface uc pc) else c1[j]? := fun j => set_at (by omega)
        have d2 : (c1.setIfInBounds (1 + (up.length + 1) * 2) (.iface uc pc))[65]? = some (.int .i64 (up.length : Int)) := by rw [g2, if_neg (by omega)]; exact d1
        have z2' : (c1.setIfInBounds (1 + (up.length + 1) * 2) (.iface uc pc)).size = 66 := by simp [z1']
        simp [-getElem?_pos, -Array.getElem?_eq_getElem, -Int.natCast_add, -op_st_3, -op_st_208, b2, d2, ewd]
        refine op_store_ok (by kernel_rfl) b2 (by omega) rfl fun w3 k3 z3 b3 => ?_
        have g3 : ∀ j, ((c1.setIfInBounds (1 + (up.length + 1) * 2) (.iface uc pc)).setIfInBounds 65 (.int .i64 ((up.length + 1 : Nat) : Int)))[j]? = if 65 = j then some (.int .i64 ((up.length + 1 : Nat) : Int)) else (c1.setIfInBounds (1 + (up.length + 1) * 2) (.iface uc pc))[j]? := fun j => set_at (by omega)
        have k13 : Frm (· = ib) w1 w3 := k2.trans k3 fun _ h _ => h
        have hm0 : ps[m].1 ∈ ks := by rw [hps]; exact List.mem_map.2 ⟨_, List.getElem_mem h0, rfl⟩
        have hks0 : ks[m]? = some ps[m].1 := by rw [hps, List.getElem?_map, List.getElem?_eq_getElem h0]; rfl
        have off1 := off_Q b1
        rw [hcv] at hr0
        have hst3 : Stk w3 ((c1.setIfInBounds (1 + (up.length + 1) * 2) (.iface uc pc)).setIfInBounds 65 (.int .i64 ((up.length + 1 : Nat) : Int))) (d + 1 + 1) up := (st1.off off1 k13).cells fun j hj => by rw [g3, if_neg (by omega), g2, if_neg (by omega)]
        have hlow : Low w3 ib mb d ((c1.setIfInBounds (1 + (up.length + 1) * 2) (.iface uc pc)).setIfInBounds 65 (.int .i64 ((up.length + 1 : Nat) : Int))) ps[m].1 (.iface uc pc) (⟨.br ks, .iface 279 (ptr b), m⟩ :: up) := by
          refine ⟨by simpa using b3, by simp [z2'], ?_, ?_, ?_, hr0.off off1 k13, e3 _ hm0, ⟨?_, ?_, r1'.off off1 k13, k4, hst3⟩, ⟨k4, ⟨ks, rfl, hks0⟩, hab⟩, by simp only [List.length_cons]; omega⟩
          · rw [g3, if_neg (by omega), g2, if_neg (by omega)]; exact m1
          · rw [g3, if_pos rfl]; rfl
          · rw [g3, if_neg (by simp only [List.length_cons]; omega), g2, if_pos (by simp only [List.length_cons])]
          · rw [g3, if_neg (by omega), g2, if_neg (by omega)]; exact n1
          · rw [g3, if_neg (by omega), g2, if_neg (by omega)]; exact i1
        have hne : 0 < (toL d ps[m].1).length := List.length_pos_iff.2 (toL_ne d _ (e3 _ hm0))
        refine last_ok hlow fun w4 k4' hat => ?_
        have hf4 : Frm (· = ib) w w4 := (hf1.trans k13 fun _ h _ => h).trans k4' fun _ h _ => h
        rw [frame_eq hks0, ← hL] at hat
        have hbw : (bw (d + 1 + 1) (fms up)).length + ((ks.take ri).flatMap (toL d)).length = q := by
          rw [← hq, bw_cons, List.length_append]
        have htk : ks.take ri = ks.take m ++ [ps[m].1] := by
          rw [show ri = m + 1 from by omega, List.take_add_one, hks0]; rfl
        rw [htk, List.flatMap_append, List.length_append, List.flatMap_cons, List.flatMap_nil, List.append_nil] at hbw
        have hpos : (bw (d + 1) (fms (⟨.br ks, .iface 279 (ptr b), m⟩ :: up))).length + (toL d ps[m].1).length - 1 = q - 1 := by
          rw [bw_cons, List.length_append]; omega
        rw [hpos] at hat
        refine hK w4 hf4 ?_
        rw [if_pos (by omega)]
        exact hat
      · refine op_store_ok (by kernel_rfl) h1.hb (by omega) rfl fun w1 p1 z1 b1 => ?_
        refine hpop w1 (Frm.dr p1) b1 ?_
        rw [bw_cons, show ri = 0 from by omega]; simp
  · simp [-getElem?_pos, -Array.getElem?_eq_getElem, -Int.natCast_add, -op_st_3, -op_st_208, ptr, h1, h4]
    refine hK wl hf ?_
    rw [if_neg (by omega)]
    exact ⟨cs, h1, h2, h3, h4⟩
end Go.Proofs.YtodjijfblgnfmaaGreatDoor.I
end
section
namespace Go.Proofs.YtodjijfblgnfmaaGreatDoor.I
open Go.Vc Go.Proofs Go.Proofs.YtodjijfblgnfmaaGreatDoor Go.Vc.Bt
variable {w w' : World} {v cv : Value} {K : KV} {Kp : KP} {lt : Ky → Ky → Bool} {ib mb p : Nat} {L : List (Ky × Vl)} {cs : Array Value} {r : Root Ky Vl} {n : Nat}
theorem done_ok {q : Option Nat} (h : At w ib mb L q) (hK : K (.bool q.isNone) w) : Calls Tryz.prog 87 #[ptr ib] w (ret K Kp) := by
  refine vc87_calls ?_
  delta vc87
  match q, h with
  | none, ⟨cs, h1, h2, h3, h4⟩ =>
    simp [-getElem?_pos, -Array.getElem?_eq_getElem, -Int.natCast_add, -op_st_3, -op_st_215, ptr, h1, h4]
    exact hK
  | some q, ⟨cs, es, v, up, j, h1, h2⟩ =>
    have hne : ¬ ((up.length : Int) = -1) := by omega
    simp [-getElem?_pos, -Array.getElem?_eq_getElem, -Int.natCast_add, -op_st_3, -op_st_215, ptr, h1.hb, h1.dep, hne]
    exact hK
def It (w : World) (ib mb : Nat) : Prop := ∃ cs, w.heap[ib]? = some (.cells cs 218 (0, 0)) ∧ cs.size = 66 ∧ cs[0]? = some (ptr mb)
theorem At.it {q : Option Nat} (h : At w ib mb L q) : It w ib mb := by
  match q, h with
  | none, ⟨cs, h1, h2, h3, h4⟩ => exact ⟨cs, h1, h2, h3⟩
  | some q, ⟨cs, es, v, up, j, h1, h2⟩ => exact ⟨cs, h1.hb, h1.sz, h1.m⟩
theorem high {h : Nat} (h1 : 16 ^ h ≤ n + 1) (h2 : n < 2 ^ 60) : h ≤ 31 := by
  refine Classical.byContradiction fun hn => ?_
  have : 16 ^ 32 ≤ 16 ^ h := Nat.pow_le_pow_right (by decide) (by omega)
  have e : (16 : Nat) ^ 32 = 340282366920938463463374607431768211456 := by decide
  omega
theorem itFirst_ok (hi : It w ib mb) (hm : RepM w mb lt r) (hok : Ok lt n r) (hn : n < 2 ^ 60)
    (hK : ∀ w', Frm (· = ib) w w' → At w' ib mb (rL r) (if (rL r).length = 0 then none else some 0) → K (.tuple #[]) w') : Calls Tryz.prog 135 #[ptr ib] w (ret K Kp) := by
  refine vc135_calls ?_
  delta vc135
  obtain ⟨cs, h1, h2, h3⟩ := hi
  obtain ⟨rv, cv, m1, m2, m3⟩ := hm
  have hoff := off_Q h1
  match r, m2, hok with
  | none, m2, _ =>
    obtain rfl : rv = .nilIface := m2
    simp [-getElem?_pos, -Array.getElem?_eq_getElem, -Int.natCast_add, -op_st_3, -op_st_215, ptr, h1, h3, m1]
    refine op_store_ok (by kernel_rfl) h1 (by omega) rfl fun w1 k1 z1 b1 => ?_
    refine hK w1 k1 ⟨_, b1, by simp [h2], ?_, ?_⟩
    · rw [set_at (by omega), if_neg (by omega)]; exact h3
    · rw [set_at (by omega), if_pos rfl]
  | some (h, t), m2, hok =>
    obtain ⟨o1, o2, o3, o4⟩ := hok
    have hr : Rep w h t rv := m2
    obtain ⟨u, p, rfl⟩ := hr.iface
    have hh := high o4 hn
    simp [-getElem?_pos, -Array.getElem?_eq_getElem, -Int.natCast_add, -op_st_3, -op_st_215, ptr, h1, h3, m1]
    refine op_storeN_ok (n := 2) (by kernel_rfl) h1 rfl (by omega) (fun u hu => ?_) fun w2 k2 z2 b2 => ?_
    · simp only [List.mem_toArray, List.mem_cons, List.not_mem_nil, or_false] at hu
      rcases hu with rfl | rfl <;> rfl
    · have k2 := Frm.dr k2
      have g2 : ∀ j, (ow cs 1 [Value.iface u p, .int .i64 0])[j]? = if 1 ≤ j ∧ j < 1 + 2 then [Value.iface u p, .int .i64 0][j - 1]? else cs[j]? := fun j => ow_get (by simp; omega)
      refine op_store_ok (by kernel_rfl) b2 (by rw [ow_size]; omega) rfl fun w3 k3 z3 b3 => ?_
      have g3 : ∀ j, ((ow cs 1 [Value.iface u p, .int .i64 0]).setIfInBounds 65 (.int .i64 0))[j]? = if 65 = j then some (.int .i64 0) else (ow cs 1 [Value.iface u p, .int .i64 0])[j]? := fun j => set_at (by rw [ow_size]; omega)
      have k13 : Frm (· = ib) w w3 := k2.trans k3 fun _ h _ => h
      have hlow : Low w3 ib mb h ((ow cs 1 [Value.iface u p, .int .i64 0]).setIfInBounds 65 (.int .i64 0)) t (.iface u p) [] :=
        ⟨b3, by simp [ow_size, h2], by rw [g3, if_neg (by omega), g2, if_neg (by omega)]; exact h3, by rw [g3, if_pos rfl]; rfl, by rw [g3, if_neg (by simp), g2, if_pos (by simp)]; rfl, hr.off hoff k13, o1, trivial, trivial, by simpa using hh⟩
      have hne : 0 < (toL h t).length := List.length_pos_iff.2 (toL_ne h t o1)
      refine first_ok hlow fun w4 k4 hat => ?_
      refine hK w4 (k13.trans k4 fun _ h _ => h) ?_
      rw [if_neg (by show ¬ (toL h t).length = 0; omega)]
      have e1 : bw (h + 1) (fms []) ++ (toL h t ++ fw (h + 1) (fms [])) = rL (some (h, t)) := by
        show [] ++ (toL h t ++ []) = toL h t
        simp
      rw [e1] at hat
      exact hat
theorem itLast_ok (hi : It w ib mb) (hm : RepM w mb lt r) (hok : Ok lt n r) (hn : n < 2 ^ 60)
    (hK : ∀ w', Frm (· = ib) w w' → At w' ib mb (rL r) (if (rL r).length = 0 then none else some ((rL r).length - 1)) → K (.tuple #[]) w') : Calls Tryz.prog 86 #[ptr ib] w (ret K Kp) := by
  refine vc86_calls ?_
  delta vc86
  obtain ⟨cs, h1, h2, h3⟩ := hi
  obtain ⟨rv, cv, m1, m2, m3⟩ := hm
  have hoff := off_Q h1
  match r, m2, hok with
  | none, m2, _ =>
    obtain rfl : rv = .nilIface := m2
    simp [-getElem?_pos, -Array.getElem?_eq_getElem, -Int.natCast_add, -op_st_3, -op_st_215, ptr, h1, h3, m1]
    refine op_store_ok (by kernel_rfl) h1 (by omega) rfl fun w1 k1 z1 b1 => ?_
    refine hK w1 k1 ⟨_, b1, by simp [h2], ?_, ?_⟩
    · rw [set_at (by omega), if_neg (by omega)]; exact h3
    · rw [set_at (by omega), if_pos rfl]
  | some (h, t), m2, hok =>
    obtain ⟨o1, o2, o3, o4⟩ := hok
    have hr : Rep w h t rv := m2
    obtain ⟨u, p, rfl⟩ := hr.iface
    have hh := high o4 hn
    simp [-getElem?_pos, -Array.getElem?_eq_getElem, -Int.natCast_add, -op_st_3, -op_st_215, ptr, h1, h3, m1]
    refine op_storeN_ok (n := 2) (by kernel_rfl) h1 rfl (by omega) (fun u hu => ?_) fun w2 k2 z2 b2 => ?_
    · simp only [List.mem_toArray, List.mem_cons, List.not_mem_nil, or_false] at hu
      rcases hu with rfl | rfl <;> rfl
    · have k2 := Frm.dr k2
      have g2 : ∀ j, (ow cs 1 [Value.iface u p, .int .i64 0])[j]? = if 1 ≤ j ∧ j < 1 + 2 then [Value.iface u p, .int .i64 0][j - 1]? else cs[j]? := fun j => ow_get (by simp; omega)
      refine op_store_ok (by kernel_rfl) b2 (by rw [ow_size]; omega) rfl fun w3 k3 z3 b3 => ?_
      have g3 : ∀ j, ((ow cs 1 [Value.iface u p, .int .i64 0]).setIfInBounds 65 (.int .i64 0))[j]? = if 65 = j then some (.int .i64 0) else (ow cs 1 [Value.iface u p, .int .i64 0])[j]? := fun j => set_at (by rw [ow_size]; omega)
      have k13 : Frm (· = ib) w w3 := k2.trans k3 fun _ h _ => h
      have hlow : Low w3 ib mb h ((ow cs 1 [Value.iface u p, .int .i64 0]).setIfInBounds 65 (.int .i64 0)) t (.iface u p) [] :=
        ⟨b3, by simp [ow_size, h2], by rw [g3, if_neg (by omega), g2, if_neg (by omega)]; exact h3, by rw [g3, if_pos rfl]; rfl, by rw [g3, if_neg (by simp), g2, if_pos (by simp)]; rfl, hr.off hoff k13, o1, trivial, trivial, by simpa using hh⟩
      have hne : 0 < (toL h t).length := List.length_pos_iff.2 (toL_ne h t o1)
      refine last_ok hlow fun w4 k4 hat => ?_
      refine hK w4 (k13.trans k4 fun _ h _ => h) ?_
      rw [if_neg (by show ¬ (toL h t).length = 0; omega)]
      have e1 : bw (h + 1) (fms []) ++ (toL h t ++ fw (h + 1) (fms [])) = rL (some (h, t)) := by
        show [] ++ (toL h t ++ []) = toL h t
        simp
      rw [e1, show (bw (h + 1) (fms ([] : List Fr))).length + (toL h t).length - 1 = (toL h t).length - 1 from by show 0 + _ - 1 = _; rw [Nat.zero_add]] at hat
      exact hat
end Go.Proofs.YtodjijfblgnfmaaGreatDoor.I
end
section
namespace Go.Proofs.YtodjijfblgnfmaaGreatDoor.I
open Go.Vc Go.Proofs Go.Proofs.YtodjijfblgnfmaaGreatDoor Go.Vc.Bt
variable {w w' : World} {v : Value} {K : KV} {Kp : KP} {lt : Ky → Ky → Bool} {ib mb : Nat} {L : List (Ky × Vl)} {cs : Array Value} {r : Root Ky Vl} {n : Nat}
theorem itNext_ok {q : Nat} (h : At w ib mb L (some q)) (hK : ∀ w', Frm (· = ib) w w' → ∀ e, L[q]? = some e → At w' ib mb L (if q + 1 < L.length then some (q + 1) else none) → K (.tuple #[ek e.1, ev e.2, .bool true]) w') : Calls Tryz.prog 138 #[ptr ib] w (ret K Kp) := by
  refine vc138_calls ?_
  simp only [vc138, call_87, call_180]
  refine done_ok h ?_
  have h' := h
  obtain ⟨cs, es, v, up, j, h1, h2, h3, h4, h5⟩ := h
  have hr := h1.rep
  obtain ⟨b, g, o, c, rfl, hb, hg⟩ := hr
  obtain ⟨cur, hcur, hk⟩ := leafVal hg
  have hkj := hk j h3
  have hu := h1.len
  simp [-getElem?_pos, -Array.getElem?_eq_getElem, -Int.natCast_add, -op_st_3, -op_st_208, -op_st_215, ptr, h1.hb, h1.dep, h1.node, h2, hb, hcur, hkj]
  refine ⟨by omega, h3, ?_⟩
  have f3 : Frm (fun _ => False) w w.drew.drew.drew := ((Frm.drew _).no (Frm.drew _)).no (Frm.drew _)
  refine next_ok (h'.still f3) fun w' hf hat => ?_
  refine hK w' (f3.fst hf) es[j] ?_ hat
  have e : (es ++ fw 1 (fms up))[j]? = some es[j] := by rw [List.getElem?_append_left h3, List.getElem?_eq_getElem h3]
  rw [h4, h5, List.getElem?_append_right (by omega), Nat.add_sub_cancel_left]; exact e
theorem itPrev_ok {q : Nat} (h : At w ib mb L (some q)) (hK : ∀ w', Frm (· = ib) w w' → ∀ e, L[q]? = some e → At w' ib mb L (if 0 < q then some (q - 1) else none) → K (.tuple #[ek e.1, ev e.2, .bool true]) w') : Calls Tryz.prog 88 #[ptr ib] w (ret K Kp) := by
  refine vc88_calls ?_
  simp only [vc88, call_87, call_149]
  refine done_ok h ?_
  have h' := h
  obtain ⟨cs, es, v, up, j, h1, h2, h3, h4, h5⟩ := h
  have hr := h1.rep
  obtain ⟨b, g, o, c, rfl, hb, hg⟩ := hr
  obtain ⟨cur, hcur, hk⟩ := leafVal hg
  have hkj := hk j h3
  have hu := h1.len
  simp [-getElem?_pos, -Array.getElem?_eq_getElem, -Int.natCast_add, -op_st_3, -op_st_208, -op_st_215, ptr, h1.hb, h1.dep, h1.node, h2, hb, hcur, hkj]
  refine ⟨by omega, h3, ?_⟩
  have f3 : Frm (fun _ => False) w w.drew.drew.drew := ((Frm.drew _).no (Frm.drew _)).no (Frm.drew _)
  refine prev_ok (h'.still f3) fun w' hf hat => ?_
  refine hK w' (f3.fst hf) es[j] ?_ hat
  have e : (es ++ fw 1 (fms up))[j]? = some es[j] := by rw [List.getElem?_append_left h3, List.getElem?_eq_getElem h3]
  rw [h4, h5, List.getElem?_append_right (by omega), Nat.add_sub_cancel_left]; exact e
theorem iter_ok (hm : RepM w mb lt r) (hok : Ok lt n r) (hn : n < 2 ^ 60)
    (hK : ∀ w' ib, Frm (fun _ => False) w w' → w.heap.size ≤ ib → At w' ib mb (rL r) (if (rL r).length = 0 then none else some 0) → K (ptr ib) w') : Calls Tryz.prog 84 #[ptr mb] w (ret K Kp) := by
  refine vc84_calls ?_
  simp only [vc84, call_135]
  rw [op_build_218_0 (x0 := ptr mb) rfl]
  refine op_box_ok fun w1 k1 z1 b1 => ?_
  simp only [cells_agg] at b1
  refine itFirst_ok ⟨_, b1, rfl, rfl⟩ (hm.still k1) hok hn fun w2 k2 hat => ?_
  exact hK w2 _ (k1.old k2 fun b hb => .inr (by omega)) (Nat.le_refl _) hat
end Go.Proofs.YtodjijfblgnfmaaGreatDoor.I
end
section
namespace Go.Vc.Bt
structure SPr where
  key : Int
  text : ByteArray
  val : Int
deriving DecidableEq
def SPr.cells (p : SPr) : List Value := [.int .i64 p.key, .string p.text, .int .i64 p.val]
theorem SPr.len (p : SPr) : p.cells.length = 3 := rfl
theorem SPr.one (p : SPr) : ∀ u ∈ p.cells, u.oneCell' = true := fun u hu => by
  simp only [SPr.cells, List.mem_cons, List.not_mem_nil, or_false] at hu
  rcases hu with rfl | rfl | rfl <;> rfl
def decI (n : Int) : ByteArray := ⟨(Lib.itoa n).toArray⟩
structure SSt where
  op : Nat
  fro : Int
  key : Int
  text : ByteArray
  value : Int
  count : Int
  by' : Int
def SSt.cells (s : SSt) : List Value := [.int .u8 s.op, .int .i64 s.fro, .int .i64 s.key, .string s.text, .int .i64 s.value, .int .i64 s.count, .int .i64 s.by']
theorem SSt.len (s : SSt) : s.cells.length = 7 := rfl
theorem SSt.one (s : SSt) : ∀ u ∈ s.cells, u.oneCell' = true := fun u hu => by
  simp only [SSt.cells, List.mem_cons, List.not_mem_nil, or_false] at hu
  rcases hu with rfl | rfl | rfl | rfl | rfl | rfl | rfl <;> rfl
structure SAns where
  value : Int
  n : Int
  ok : Bool
  list : List SPr
def zeroA : SAns := ⟨0, 0, false, []⟩
structure Kd (κ : Type) where
  key : Int → ByteArray → κ
  many : SSt → Nat → κ
  pair : κ → Int → SPr
section
variable {κ : Type} [DecidableEq κ] {lt : κ → κ → Bool} {kd : Kd κ}
abbrev Vn (κ : Type) := List (κ × Int)
def putN (lt : κ → κ → Bool) (kd : Kd κ) (s : SSt) : Nat → Vn κ → Vn κ
  | 0, L => L
  | n + 1, L => put lt (putN lt kd s n L) (kd.many s n) (IntKind.i64.wrap (s.value + n))
def remN (lt : κ → κ → Bool) (kd : Kd κ) (s : SSt) : Nat → Vn κ → Vn κ
  | 0, L => L
  | n + 1, L => rem lt (remN lt kd s n L) (kd.many s n)
def newV (lt : κ → κ → Bool) (kd : Kd κ) (s : SSt) (L : Vn κ) : Option (Vn κ) :=
  if s.op = 0 then some (put lt L (kd.key s.key s.text) s.value)
  else if s.op = 1 then some (rem lt L (kd.key s.key s.text))
  else if s.op = 5 then some (putN lt kd s s.count.toNat L)
  else if s.op = 6 then some (remN lt kd s s.count.toNat L)
  else none
def ansV (lt : κ → κ → Bool) (kd : Kd κ) (s : SSt) (L : Vn κ) : SAns :=
  if s.op = 2 then match got lt L (kd.key s.key s.text) with
    | some v => ⟨v, 0, true, []⟩
    | none => zeroA
  else if s.op = 3 then ⟨0, L.length, false, L.map fun e => kd.pair e.1 e.2⟩
  else if s.op = 4 then ⟨0, L.length, false, L.reverse.map fun e => kd.pair e.1 e.2⟩
  else match newV lt kd s L with
    | some m => ⟨0, m.length, false, []⟩
    | none => zeroA
def atV (s : SSt) (n : Nat) : Nat := (s.fro % (n : Int)).toNat
def oneS (lt : κ → κ → Bool) (kd : Kd κ) (q : List (Vn κ) × List SAns) (s : SSt) : List (Vn κ) × List SAns :=
  (q.1 ++ (newV lt kd s (q.1[atV s q.1.length]?.getD [])).toList, q.2 ++ [ansV lt kd s (q.1[atV s q.1.length]?.getD [])])
def runS (lt : κ → κ → Bool) (kd : Kd κ) (steps : List SSt) : List (Vn κ) × List SAns := steps.foldl (oneS lt kd) ([[]], [])
theorem runS_snoc (steps : List SSt) (s : SSt) : runS lt kd (steps ++ [s]) = oneS lt kd (runS lt kd steps) s := by simp [runS]
theorem oneS_len (q : List (Vn κ) × List SAns) (s : SSt) : q.1.length ≤ (oneS lt kd q s).1.length ∧ (oneS lt kd q s).1.length ≤ q.1.length + 1 ∧ (oneS lt kd q s).2.length = q.2.length + 1 := by
  unfold oneS
  refine ⟨by simp, ?_, by simp⟩
  cases newV lt kd s (q.1[atV s q.1.length]?.getD []) <;> simp
theorem runS_len (steps : List SSt) : 1 ≤ (runS lt kd steps).1.length ∧ (runS lt kd steps).1.length ≤ steps.length + 1 ∧ (runS lt kd steps).2.length = steps.length := by
  rw [← List.reverse_reverse steps]
  generalize steps.reverse = r
  induction r with
  | nil => exact ⟨by simp [runS], by simp [runS], by simp [runS]⟩
  | cons s r ih =>
    rw [List.reverse_cons, runS_snoc]
    have := oneS_len (lt := lt) (kd := kd) (runS lt kd r.reverse) s
    simp only [List.length_append, List.length_singleton]
    omega
theorem atV_lt {s : SSt} {n : Nat} (h : 1 ≤ n) : atV s n < n := by
  unfold atV
  have h1 := Int.emod_nonneg s.fro (b := (n : Int)) (by omega)
  have h2 := Int.emod_lt_of_pos s.fro (b := (n : Int)) (by omega)
  omega
def SSt.cost (s : SSt) : Nat := 1 + s.count.toNat
def scost (steps : List SSt) : Nat := (steps.map SSt.cost).sum
theorem scost_snoc (steps : List SSt) (s : SSt) : scost (steps ++ [s]) = scost steps + s.cost := by simp [scost]
theorem scost_app (a b : List SSt) : scost (a ++ b) = scost a + scost b := by simp [scost]
theorem scost_take (steps : List SSt) (n : Nat) : scost (steps.take n) ≤ scost steps := by
  have := scost_app (steps.take n) (steps.drop n)
  rw [List.take_append_drop] at this; omega
theorem scost_len : ∀ steps : List SSt, steps.length ≤ scost steps
  | [] => Nat.zero_le _
  | s :: l => by
    have := scost_len l
    have e : scost (s :: l) = s.cost + scost l := by simp [scost]
    have : 1 ≤ s.cost := by unfold SSt.cost; omega
    rw [e, List.length_cons]; omega
theorem rem_le {L : Vn κ} {k : κ} : (rem lt L k).length ≤ L.length := (rem_sub (lt := lt)).length_le
theorem put_le {L : Vn κ} {k : κ} {v : Int} : (put lt L k v).length ≤ L.length + 1 := by rw [put_len]; split <;> omega
theorem newV_some (s : SSt) (L : Vn κ) : (newV lt kd s L).isSome = decide (s.op = 0 ∨ s.op = 1 ∨ s.op = 5 ∨ s.op = 6) := by
  unfold newV
  by_cases h0 : s.op = 0
  · simp [h0]
  · by_cases h1 : s.op = 1
    · simp [h1]
    · by_cases h5 : s.op = 5
      · simp [h5]
      · by_cases h6 : s.op = 6
        · simp [h6]
        · simp [h0, h1, h5, h6]
theorem ansV_new {s : SSt} {L m : Vn κ} (h : newV lt kd s L = some m) : ansV lt kd s L = ⟨0, m.length, false, []⟩ := by
  have hs := newV_some (lt := lt) (kd := kd) s L
  rw [h] at hs
  have hs : s.op = 0 ∨ s.op = 1 ∨ s.op = 5 ∨ s.op = 6 := by simpa using hs
  unfold ansV
  rw [if_neg (by omega), if_neg (by omega), if_neg (by omega), h]
theorem putN_le (s : SSt) (L : Vn κ) : ∀ n, (putN lt kd s n L).length ≤ L.length + n
  | 0 => Nat.le_refl _
  | n + 1 => by have := putN_le s L n; have := put_le (lt := lt) (L := putN lt kd s n L) (k := kd.many s n) (v := IntKind.i64.wrap (s.value + n)); rw [putN]; omega
theorem remN_le (s : SSt) (L : Vn κ) : ∀ n, (remN lt kd s n L).length ≤ L.length
  | 0 => Nat.le_refl _
  | n + 1 => by have := remN_le s L n; have := rem_le (lt := lt) (L := remN lt kd s n L) (k := kd.many s n); rw [remN]; omega
theorem newV_le {s : SSt} {L m : Vn κ} (h : newV lt kd s L = some m) : m.length ≤ L.length + s.cost := by
  unfold newV at h
  unfold SSt.cost
  split at h
  · cases h; have := put_le (lt := lt) (L := L) (k := kd.key s.key s.text) (v := s.value); omega
  · split at h
    · cases h; have := rem_le (lt := lt) (L := L) (k := kd.key s.key s.text); omega
    · split at h
      · cases h; have := putN_le (lt := lt) (kd := kd) s L s.count.toNat; omega
      · split at h
        · cases h; have := remN_le (lt := lt) (kd := kd) s L s.count.toNat; omega
        · cases h
end
end Go.Vc.Bt
end
section
namespace Go.Proofs.YtodjijfblgnfmaaGreatDoor
open Go.Vc Go.Proofs
variable {w : World} {K : KV} {Kp : KP} {K1 : Value → Prop}
@[simp] theorem op_alloc_98 : nP.op (.alloc 98) w K Kp = K (.pointer (some ⟨w.heap.size, 0, none⟩)) (w.alloc (.cells #[Value.nilFunc, Value.nilFunc, Value.nilFunc] 98)) := op_alloc (z := (.agg #[(Value.nilFunc), (Value.nilFunc), (Value.nilFunc)])) (by kernel_rfl)
theorem build_98_0_1_2 {x0 : Value} {x1 : Value} {x2 : Value} (h0 : x0.oneCell' = true) (h1 : x1.oneCell' = true) (h2 : x2.oneCell' = true) : buildV Tryz.prog 98 [(0, x0), (1, x1), (2, x2)] = some (.agg (#[x0, x1, x2])) := by
  have e : buildV Tryz.prog 98 [(0, x0), (1, x1), (2, x2)] = (Instr.fill ((#[(0, 1), (1, 1), (2, 1)] : Array (Nat × Nat))[·]?) (#[Value.nilFunc, Value.nilFunc, Value.nilFunc]) [(0, x0), (1, x1), (2, x2)]).map .agg := by kernel_rfl
  rw [e]; simp [Instr.fill, cells_of_one h0, cells_of_one h1, cells_of_one h2]
@[simp] theorem op_build_98_0_1_2 {x0 : Value} {x1 : Value} {x2 : Value} (h0 : x0.oneCell' = true) (h1 : x1.oneCell' = true) (h2 : x2.oneCell' = true) : nP.op (.build 98 [(0, x0), (1, x1), (2, x2)]) w K Kp = K (.agg (#[x0, x1, x2])) w := op_build (build_98_0_1_2 h0 h1 h2)
@[simp] theorem pur_build_98_0_1_2 {x0 : Value} {x1 : Value} {x2 : Value} (h0 : x0.oneCell' = true) (h1 : x1.oneCell' = true) (h2 : x2.oneCell' = true) : nP.pur (.build 98 [(0, x0), (1, x1), (2, x2)]) K1 = K1 (.agg (#[x0, x1, x2])) := pur_build (build_98_0_1_2 h0 h1 h2)
@[simp] theorem op_ld_98 {p : Addr} : nP.op (.load 98 (.pointer (some p))) w K Kp = ∃ cs e fz, w.heap[p.block]? = some (.cells cs e fz) ∧ p.spot = none ∧ p.off + 3 ≤ cs.size ∧ K (.agg (cs.extract p.off (p.off + 3))) w := op_ldn (by kernel_rfl)
@[simp] theorem ld_ld_98 {p : Addr} : nP.ld (.load 98 (.pointer (some p))) w K1 = ∃ cs e fz, w.heap[p.block]? = some (.cells cs e fz) ∧ p.spot = none ∧ p.off + 3 ≤ cs.size ∧ K1 (.agg (cs.extract p.off (p.off + 3))) := ld_ldn (by kernel_rfl)
@[simp] theorem same_ld_98 {p : Addr} {v : Value} : nP.same (.load 98 (.pointer (some p))) v w = ∃ cs e fz, w.heap[p.block]? = some (.cells cs e fz) ∧ p.spot = none ∧ p.off + 3 ≤ cs.size ∧ .agg (cs.extract p.off (p.off + 3)) = v := same_ldn (by kernel_rfl)
@[simp] theorem op_st_98 {p : Addr} {vs : Array Value} : nP.op (.store 98 (.pointer (some p)) (.agg vs)) w K Kp = (vs.size = 3 ∧ (∀ u ∈ vs.toList, u.oneCell' = true) ∧ ∃ cs e, w.heap[p.block]? = some (.cells cs e (0, 0)) ∧ p.spot = none ∧ p.off + 3 ≤ cs.size ∧ K undef (w.upd p.block (.cells (ow cs p.off vs.toList) e (0, 0)))) := op_stn (by kernel_rfl)
@[simp] theorem op_fa_54_2 {p : Addr} : nP.op (.fieldAddr 54 (.pointer (some p)) 2) w K Kp = K (.pointer (some (p.add 2))) w := op_fa (k := .one) (by kernel_rfl)
@[simp] theorem pur_fa_54_2 {p : Addr} : nP.pur (.fieldAddr 54 (.pointer (some p)) 2) K1 = K1 (.pointer (some (p.add 2))) := pur_fa (k := .one) (by kernel_rfl)
@[simp] theorem op_fa_54_6 {p : Addr} : nP.op (.fieldAddr 54 (.pointer (some p)) 6) w K Kp = K (.pointer (some (p.add 6))) w := op_fa (k := .one) (by kernel_rfl)
@[simp] theorem pur_fa_54_6 {p : Addr} : nP.pur (.fieldAddr 54 (.pointer (some p)) 6) K1 = K1 (.pointer (some (p.add 6))) := pur_fa (k := .one) (by kernel_rfl)
@[simp] theorem op_alloc_49 : nP.op (.alloc 49) w K Kp = K (.pointer (some ⟨w.heap.size, 0, none⟩)) (w.alloc (.cells #[Value.int IntKind.i64 0, Value.string ByteArray.empty, Value.int IntKind.i64 0] 49)) := op_alloc (z := (.agg #[(Value.int IntKind.i64 0), (Value.string ByteArray.empty), (Value.int IntKind.i64 0)])) (by kernel_rfl)
theorem build_49_0_2 {x0 : Value} {x2 : Value} (h0 : x0.oneCell' = true) (h2 : x2.oneCell' = true) : buildV Tryz.prog 49 [(0, x0), (2, x2)] = some (.agg (#[x0, Value.string ByteArray.empty, x2])) := by
  have e : buildV Tryz.prog 49 [(0, x0), (2, x2)] = (Instr.fill ((#[(0, 1), (1, 1), (2, 1)] : Array (Nat × Nat))[·]?) (#[Value.int IntKind.i64 0, Value.string ByteArray.empty, Value.int IntKind.i64 0]) [(0, x0), (2, x2)]).map .agg := by kernel_rfl
  rw [e]; simp [Instr.fill, cells_of_one h0, cells_of_one h2]
@[simp] theorem op_build_49_0_2 {x0 : Value} {x2 : Value} (h0 : x0.oneCell' = true) (h2 : x2.oneCell' = true) : nP.op (.build 49 [(0, x0), (2, x2)]) w K Kp = K (.agg (#[x0, Value.string ByteArray.empty, x2])) w := op_build (build_49_0_2 h0 h2)
@[simp] theorem pur_build_49_0_2 {x0 : Value} {x2 : Value} (h0 : x0.oneCell' = true) (h2 : x2.oneCell' = true) : nP.pur (.build 49 [(0, x0), (2, x2)]) K1 = K1 (.agg (#[x0, Value.string ByteArray.empty, x2])) := pur_build (build_49_0_2 h0 h2)
@[simp] theorem op_ld_49 {p : Addr} : nP.op (.load 49 (.pointer (some p))) w K Kp = ∃ cs e fz, w.heap[p.block]? = some (.cells cs e fz) ∧ p.spot = none ∧ p.off + 3 ≤ cs.size ∧ K (.agg (cs.extract p.off (p.off + 3))) w := op_ldn (by kernel_rfl)
@[simp] theorem ld_ld_49 {p : Addr} : nP.ld (.load 49 (.pointer (some p))) w K1 = ∃ cs e fz, w.heap[p.block]? = some (.cells cs e fz) ∧ p.spot = none ∧ p.off + 3 ≤ cs.size ∧ K1 (.agg (cs.extract p.off (p.off + 3))) := ld_ldn (by kernel_rfl)
@[simp] theorem same_ld_49 {p : Addr} {v : Value} : nP.same (.load 49 (.pointer (some p))) v w = ∃ cs e fz, w.heap[p.block]? = some (.cells cs e fz) ∧ p.spot = none ∧ p.off + 3 ≤ cs.size ∧ .agg (cs.extract p.off (p.off + 3)) = v := same_ldn (by kernel_rfl)
@[simp] theorem op_st_49 {p : Addr} {vs : Array Value} : nP.op (.store 49 (.pointer (some p)) (.agg vs)) w K Kp = (vs.size = 3 ∧ (∀ u ∈ vs.toList, u.oneCell' = true) ∧ ∃ cs e, w.heap[p.block]? = some (.cells cs e (0, 0)) ∧ p.spot = none ∧ p.off + 3 ≤ cs.size ∧ K undef (w.upd p.block (.cells (ow cs p.off vs.toList) e (0, 0)))) := op_stn (by kernel_rfl)
@[simp] theorem op_alloc_88 : nP.op (.alloc 88) w K Kp = K (.pointer (some ⟨w.heap.size, 0, none⟩)) (w.alloc (.cells #[Value.nilFunc, Value.nilFunc, Value.nilFunc] 88)) := op_alloc (z := (.agg #[(Value.nilFunc), (Value.nilFunc), (Value.nilFunc)])) (by kernel_rfl)
theorem build_88_0_1_2 {x0 : Value} {x1 : Value} {x2 : Value} (h0 : x0.oneCell' = true) (h1 : x1.oneCell' = true) (h2 : x2.oneCell' = true) : buildV Tryz.prog 88 [(0, x0), (1, x1), (2, x2)] = some (.agg (#[x0, x1, x2])) := by
  have e : buildV Tryz.prog 88 [(0, x0), (1, x1), (2, x2)] = (Instr.fill ((#[(0, 1), (1, 1), (2, 1)] : Array (Nat × Nat))[·]?) (#[Value.nilFunc, Value.nilFunc, Value.nilFunc]) [(0, x0), (1, x1), (2, x2)]).map .agg := by kernel_rfl
  rw [e]; simp [Instr.fill, cells_of_one h0, cells_of_one h1, cells_of_one h2]
@[simp] theorem op_build_88_0_1_2 {x0 : Value} {x1 : Value} {x2 : Value} (h0 : x0.oneCell' = true) (h1 : x1.oneCell' = true) (h2 : x2.oneCell' = true) : nP.op (.build 88 [(0, x0), (1, x1), (2, x2)]) w K Kp = K (.agg (#[x0, x1, x2])) w := op_build (build_88_0_1_2 h0 h1 h2)
@[simp] theorem pur_build_88_0_1_2 {x0 : Value} {x1 : Value} {x2 : Value} (h0 : x0.oneCell' = true) (h1 : x1.oneCell' = true) (h2 : x2.oneCell' = true) : nP.pur (.build 88 [(0, x0), (1, x1), (2, x2)]) K1 = K1 (.agg (#[x0, x1, x2])) := pur_build (build_88_0_1_2 h0 h1 h2)
@[simp] theorem op_ld_88 {p : Addr} : nP.op (.load 88 (.pointer (some p))) w K Kp = ∃ cs e fz, w.heap[p.block]? = some (.cells cs e fz) ∧ p.spot = none ∧ p.off + 3 ≤ cs.size ∧ K (.agg (cs.extract p.off (p.off + 3))) w := op_ldn (by kernel_rfl)
@[simp] theorem ld_ld_88 {p : Addr} : nP.ld (.load 88 (.pointer (some p))) w K1 = ∃ cs e fz, w.heap[p.block]? = some (.cells cs e fz) ∧ p.spot = none ∧ p.off + 3 ≤ cs.size ∧ K1 (.agg (cs.extract p.off (p.off + 3))) := ld_ldn (by kernel_rfl)
@[simp] theorem same_ld_88 {p : Addr} {v : Value} : nP.same (.load 88 (.pointer (some p))) v w = ∃ cs e fz, w.heap[p.block]? = some (.cells cs e fz) ∧ p.spot = none ∧ p.off + 3 ≤ cs.size ∧ .agg (cs.extract p.off (p.off + 3)) = v := same_ldn (by kernel_rfl)
@[simp] theorem op_st_88 {p : Addr} {vs : Array Value} : nP.op (.store 88 (.pointer (some p)) (.agg vs)) w K Kp = (vs.size = 3 ∧ (∀ u ∈ vs.toList, u.oneCell' = true) ∧ ∃ cs e, w.heap[p.block]? = some (.cells cs e (0, 0)) ∧ p.spot = none ∧ p.off + 3 ≤ cs.size ∧ K undef (w.upd p.block (.cells (ow cs p.off vs.toList) e (0, 0)))) := op_stn (by kernel_rfl)
@[simp] theorem op_fa_54_3 {p : Addr} : nP.op (.fieldAddr 54 (.pointer (some p)) 3) w K Kp = K (.pointer (some (p.add 3))) w := op_fa (k := .one) (by kernel_rfl)
@[simp] theorem pur_fa_54_3 {p : Addr} : nP.pur (.fieldAddr 54 (.pointer (some p)) 3) K1 = K1 (.pointer (some (p.add 3))) := pur_fa (k := .one) (by kernel_rfl)
@[simp] theorem call_77 {args : List Value} : nP.call (.fn 77) args w K Kp = Calls Tryz.prog 77 args.toArray w (ret K Kp) := call_fn (by kernel_rfl)
theorem build_49_1_2 {x1 : Value} {x2 : Value} (h1 : x1.oneCell' = true) (h2 : x2.oneCell' = true) : buildV Tryz.prog 49 [(1, x1), (2, x2)] = some (.agg (#[Value.int IntKind.i64 0, x1, x2])) := by
  have e : buildV Tryz.prog 49 [(1, x1), (2, x2)] = (Instr.fill ((#[(0, 1), (1, 1), (2, 1)] : Array (Nat × Nat))[·]?) (#[Value.int IntKind.i64 0, Value.string ByteArray.empty, Value.int IntKind.i64 0]) [(1, x1), (2, x2)]).map .agg := by kernel_rfl
  rw [e]; simp [Instr.fill, cells_of_one h1, cells_of_one h2]
@[simp] theorem op_build_49_1_2 {x1 : Value} {x2 : Value} (h1 : x1.oneCell' = true) (h2 : x2.oneCell' = true) : nP.op (.build 49 [(1, x1), (2, x2)]) w K Kp = K (.agg (#[Value.int IntKind.i64 0, x1, x2])) w := op_build (build_49_1_2 h1 h2)
@[simp] theorem pur_build_49_1_2 {x1 : Value} {x2 : Value} (h1 : x1.oneCell' = true) (h2 : x2.oneCell' = true) : nP.pur (.build 49 [(1, x1), (2, x2)]) K1 = K1 (.agg (#[Value.int IntKind.i64 0, x1, x2])) := pur_build (build_49_1_2 h1 h2)
@[simp] theorem op_ld_31 {p : Addr} : nP.op (.load 31 (.pointer (some p))) w K Kp = ∃ cs e fz, w.heap[p.block]? = some (.cells cs e fz) ∧ p.spot = none ∧ p.off + 2 ≤ cs.size ∧ K (.agg (cs.extract p.off (p.off + 2))) w := op_ldn (by kernel_rfl)
@[simp] theorem ld_ld_31 {p : Addr} : nP.ld (.load 31 (.pointer (some p))) w K1 = ∃ cs e fz, w.heap[p.block]? = some (.cells cs e fz) ∧ p.spot = none ∧ p.off + 2 ≤ cs.size ∧ K1 (.agg (cs.extract p.off (p.off + 2))) := ld_ldn (by kernel_rfl)
@[simp] theorem same_ld_31 {p : Addr} {v : Value} : nP.same (.load 31 (.pointer (some p))) v w = ∃ cs e fz, w.heap[p.block]? = some (.cells cs e fz) ∧ p.spot = none ∧ p.off + 2 ≤ cs.size ∧ .agg (cs.extract p.off (p.off + 2)) = v := same_ldn (by kernel_rfl)
theorem build_146_0 {y0_0 y0_1 : Value} : buildV Tryz.prog 146 [(0, .agg #[y0_0, y0_1])] = some (.agg (#[y0_0, y0_1])) := by
  have e : buildV Tryz.prog 146 [(0, .agg #[y0_0, y0_1])] = (Instr.fill ((#[(0, 2)] : Array (Nat × Nat))[·]?) (#[Value.int IntKind.u8 0, Value.int IntKind.i64 0]) [(0, .agg #[y0_0, y0_1])]).map .agg := by kernel_rfl
  rw [e]; simp [Instr.fill, Value.cells]
@[simp] theorem op_build_146_0 {y0_0 y0_1 : Value} : nP.op (.build 146 [(0, .agg #[y0_0, y0_1])]) w K Kp = K (.agg (#[y0_0, y0_1])) w := op_build (build_146_0)
@[simp] theorem pur_build_146_0 {y0_0 y0_1 : Value} : nP.pur (.build 146 [(0, .agg #[y0_0, y0_1])]) K1 = K1 (.agg (#[y0_0, y0_1])) := pur_build (build_146_0)
@[simp] theorem op_mki_146 {v : Value} : nP.op (.mkIface 146 v) w K Kp = K (.iface 146 v) w := op_mkIface (by kernel_rfl) (by kernel_rfl)
@[simp] theorem pur_mki_146 {v : Value} : nP.pur (.mkIface 146 v) K1 = K1 (.iface 146 v) := pur_mkIface (by kernel_rfl) (by kernel_rfl)
theorem build_134_0 {y0_0 y0_1 : Value} : buildV Tryz.prog 134 [(0, .agg #[y0_0, y0_1])] = some (.agg (#[y0_0, y0_1])) := by
  have e : buildV Tryz.prog 134 [(0, .agg #[y0_0, y0_1])] = (Instr.fill ((#[(0, 2)] : Array (Nat × Nat))[·]?) (#[Value.int IntKind.u8 0, Value.int IntKind.i64 0]) [(0, .agg #[y0_0, y0_1])]).map .agg := by kernel_rfl
  rw [e]; simp [Instr.fill, Value.cells]
@[simp] theorem op_build_134_0 {y0_0 y0_1 : Value} : nP.op (.build 134 [(0, .agg #[y0_0, y0_1])]) w K Kp = K (.agg (#[y0_0, y0_1])) w := op_build (build_134_0)
@[simp] theorem pur_build_134_0 {y0_0 y0_1 : Value} : nP.pur (.build 134 [(0, .agg #[y0_0, y0_1])]) K1 = K1 (.agg (#[y0_0, y0_1])) := pur_build (build_134_0)
@[simp] theorem op_mki_134 {v : Value} : nP.op (.mkIface 134 v) w K Kp = K (.iface 134 v) w := op_mkIface (by kernel_rfl) (by kernel_rfl)
@[simp] theorem pur_mki_134 {v : Value} : nP.pur (.mkIface 134 v) K1 = K1 (.iface 134 v) := pur_mkIface (by kernel_rfl) (by kernel_rfl)
@[simp] theorem op_alloc_28 : nP.op (.alloc 28) w K Kp = K (.pointer (some ⟨w.heap.size, 0, none⟩)) (w.alloc (.cells #[Value.slice none 0 0] 28)) := op_alloc (z := (Value.slice none 0 0)) (by kernel_rfl)
@[simp] theorem call_37 {args : List Value} : nP.call (.fn 37) args w K Kp = Calls Tryz.prog 37 args.toArray w (ret K Kp) := call_fn (by kernel_rfl)
@[simp] theorem op_ld_28 {p : Addr} : nP.op (.load 28 (.pointer (some p))) w K Kp = ∃ cs e fz, w.heap[p.block]? = some (.cells cs e fz) ∧ p.spot = none ∧ ∃ v, cs[p.off]? = some v ∧ K v w := op_ld (by kernel_rfl)
@[simp] theorem ld_ld_28 {p : Addr} : nP.ld (.load 28 (.pointer (some p))) w K1 = ∃ cs e fz, w.heap[p.block]? = some (.cells cs e fz) ∧ p.spot = none ∧ ∃ v, cs[p.off]? = some v ∧ K1 v := ld_ld (by kernel_rfl)
@[simp] theorem same_ld_28 {p : Addr} {v : Value} : nP.same (.load 28 (.pointer (some p))) v w = ∃ cs e fz, w.heap[p.block]? = some (.cells cs e fz) ∧ p.spot = none ∧ cs[p.off]? = some v := same_ld (by kernel_rfl)
@[simp] theorem op_st_28 {p : Addr} {v : Value} : nP.op (.store 28 (.pointer (some p)) v) w K Kp = ∃ cs e, w.heap[p.block]? = some (.cells cs e (0, 0)) ∧ p.spot = none ∧ p.off < cs.size ∧ v.oneCell' = true ∧ K undef (w.upd p.block (.cells (cs.setIfInBounds p.off v) e (0, 0))) := op_st (by kernel_rfl)
@[simp] theorem call_40 {args : List Value} : nP.call (.fn 40) args w K Kp = Calls Tryz.prog 40 args.toArray w (ret K Kp) := call_fn (by kernel_rfl)
@[simp] theorem call_41 {args : List Value} : nP.call (.fn 41) args w K Kp = Calls Tryz.prog 41 args.toArray w (ret K Kp) := call_fn (by kernel_rfl)
@[simp] theorem op_ld_32 {p : Addr} : nP.op (.load 32 (.pointer (some p))) w K Kp = ∃ cs e fz, w.heap[p.block]? = some (.cells cs e fz) ∧ p.spot = none ∧ ∃ v, cs[p.off]? = some v ∧ K v w := op_ld (by kernel_rfl)
@[simp] theorem ld_ld_32 {p : Addr} : nP.ld (.load 32 (.pointer (some p))) w K1 = ∃ cs e fz, w.heap[p.block]? = some (.cells cs e fz) ∧ p.spot = none ∧ ∃ v, cs[p.off]? = some v ∧ K1 v := ld_ld (by kernel_rfl)
@[simp] theorem same_ld_32 {p : Addr} {v : Value} : nP.same (.load 32 (.pointer (some p))) v w = ∃ cs e fz, w.heap[p.block]? = some (.cells cs e fz) ∧ p.spot = none ∧ cs[p.off]? = some v := same_ld (by kernel_rfl)
@[simp] theorem call_39 {args : List Value} : nP.call (.fn 39) args w K Kp = Calls Tryz.prog 39 args.toArray w (ret K Kp) := call_fn (by kernel_rfl)
@[simp] theorem call_43 {args : List Value} : nP.call (.fn 43) args w K Kp = Calls Tryz.prog 43 args.toArray w (ret K Kp) := call_fn (by kernel_rfl)
@[simp] theorem call_44 {args : List Value} : nP.call (.fn 44) args w K Kp = Calls Tryz.prog 44 args.toArray w (ret K Kp) := call_fn (by kernel_rfl)
@[simp] theorem call_42 {args : List Value} : nP.call (.fn 42) args w K Kp = Calls Tryz.prog 42 args.toArray w (ret K Kp) := call_fn (by kernel_rfl)
@[simp] theorem call_138 {args : List Value} : nP.call (.fn 138) args w K Kp = Calls Tryz.prog 138 args.toArray w (ret K Kp) := call_fn (by kernel_rfl)
@[simp] theorem op_fa_98_2 {p : Addr} : nP.op (.fieldAddr 98 (.pointer (some p)) 2) w K Kp = K (.pointer (some (p.add 2))) w := op_fa (k := .one) (by kernel_rfl)
@[simp] theorem pur_fa_98_2 {p : Addr} : nP.pur (.fieldAddr 98 (.pointer (some p)) 2) K1 = K1 (.pointer (some (p.add 2))) := pur_fa (k := .one) (by kernel_rfl)
@[simp] theorem op_ld_96 {p : Addr} : nP.op (.load 96 (.pointer (some p))) w K Kp = ∃ cs e fz, w.heap[p.block]? = some (.cells cs e fz) ∧ p.spot = none ∧ ∃ v, cs[p.off]? = some v ∧ K v w := op_ld (by kernel_rfl)
@[simp] theorem ld_ld_96 {p : Addr} : nP.ld (.load 96 (.pointer (some p))) w K1 = ∃ cs e fz, w.heap[p.block]? = some (.cells cs e fz) ∧ p.spot = none ∧ ∃ v, cs[p.off]? = some v ∧ K1 v := ld_ld (by kernel_rfl)
@[simp] theorem same_ld_96 {p : Addr} {v : Value} : nP.same (.load 96 (.pointer (some p))) v w = ∃ cs e fz, w.heap[p.block]? = some (.cells cs e fz) ∧ p.spot = none ∧ cs[p.off]? = some v := same_ld (by kernel_rfl)
theorem lit_46_1 {y0_0 y0_1 y0_2 : Value} : sliceLit Tryz.prog 46 1 [(0, .agg #[y0_0, y0_1, y0_2])] = some (49, #[y0_0, y0_1, y0_2]) := by
  have e : sliceLit Tryz.prog 46 1 [(0, .agg #[y0_0, y0_1, y0_2])] = (Instr.fill (fun i => some (i * 3, 3)) (#[Value.int IntKind.i64 0, Value.string ByteArray.empty, Value.int IntKind.i64 0]) [(0, .agg #[y0_0, y0_1, y0_2])]).map fun cs => (49, cs) := by kernel_rfl
  rw [e]; simp [Instr.fill, Value.cells]
@[simp] theorem op_lit_46_1 {y0_0 y0_1 y0_2 : Value} : nP.op (.buildSlice 46 1 [(0, .agg #[y0_0, y0_1, y0_2])]) w K Kp = K (.slice (some ⟨w.heap.size, 0, none⟩) 1 1) (w.alloc (.cells #[y0_0, y0_1, y0_2] 49)) := op_lit (lit_46_1)
@[simp] theorem call_79 {args : List Value} : nP.call (.fn 79) args w K Kp = Calls Tryz.prog 79 args.toArray w (ret K Kp) := call_fn (by kernel_rfl)
theorem lit_137_1 {x0 : Value} (h0 : x0.oneCell' = true) : sliceLit Tryz.prog 137 1 [(0, x0)] = some (135, #[x0]) := by
  have e : sliceLit Tryz.prog 137 1 [(0, x0)] = (Instr.fill (fun i => some (i * 1, 1)) (#[Value.pointer none]) [(0, x0)]).map fun cs => (135, cs) := by kernel_rfl
  rw [e]; simp [Instr.fill, cells_of_one h0]
@[simp] theorem op_lit_137_1 {x0 : Value} (h0 : x0.oneCell' = true) : nP.op (.buildSlice 137 1 [(0, x0)]) w K Kp = K (.slice (some ⟨w.heap.size, 0, none⟩) 1 1) (w.alloc (.cells #[x0] 135)) := op_lit (lit_137_1 h0)
@[simp] theorem op_len_32 {a : Option Addr} {n c ty : Nat} : nP.op (.blt .len [32] ty [.slice a n c]) w K Kp = K (.int .i64 n) w := op_len_slice (by kernel_rfl)
@[simp] theorem pur_len_32 {a : Option Addr} {n c ty : Nat} : nP.pur (.blt .len [32] ty [.slice a n c]) K1 = K1 (.int .i64 n) := pur_len_slice (by kernel_rfl)
@[simp] theorem ld_len_32 {a : Option Addr} {n c ty : Nat} : nP.ld (.blt .len [32] ty [.slice a n c]) w K1 = K1 (.int .i64 n) := ld_len_slice (by kernel_rfl)
@[simp] theorem same_len_32 {a : Option Addr} {n c ty : Nat} {u : Value} : nP.same (.blt .len [32] ty [.slice a n c]) u w = (.int .i64 n = u) := same_len_slice (by kernel_rfl)
@[simp] theorem op_ix_32 {p : Addr} {len cap : Nat} {k : IntKind} {j : Int} : nP.op (.indexAddr 32 (.slice (some p) len cap) (.int k j)) w K Kp = ((0 ≤ j ∧ j < (len : Int)) ∧ K (.pointer (some (p.add (j.toNat * 7)))) w) := op_ix_slice (e := 54) (by kernel_rfl)
@[simp] theorem pur_ix_32 {p : Addr} {len cap : Nat} {k : IntKind} {j : Int} : nP.pur (.indexAddr 32 (.slice (some p) len cap) (.int k j)) K1 = ((0 ≤ j ∧ j < (len : Int)) ∧ K1 (.pointer (some (p.add (j.toNat * 7))))) := pur_ix_slice (e := 54) (by kernel_rfl)
@[simp] theorem op_ld_54 {p : Addr} : nP.op (.load 54 (.pointer (some p))) w K Kp = ∃ cs e fz, w.heap[p.block]? = some (.cells cs e fz) ∧ p.spot = none ∧ p.off + 7 ≤ cs.size ∧ K (.agg (cs.extract p.off (p.off + 7))) w := op_ldn (by kernel_rfl)
@[simp] theorem ld_ld_54 {p : Addr} : nP.ld (.load 54 (.pointer (some p))) w K1 = ∃ cs e fz, w.heap[p.block]? = some (.cells cs e fz) ∧ p.spot = none ∧ p.off + 7 ≤ cs.size ∧ K1 (.agg (cs.extract p.off (p.off + 7))) := ld_ldn (by kernel_rfl)
@[simp] theorem same_ld_54 {p : Addr} {v : Value} : nP.same (.load 54 (.pointer (some p))) v w = ∃ cs e fz, w.heap[p.block]? = some (.cells cs e fz) ∧ p.spot = none ∧ p.off + 7 ≤ cs.size ∧ .agg (cs.extract p.off (p.off + 7)) = v := same_ldn (by kernel_rfl)
@[simp] theorem op_st_54 {p : Addr} {vs : Array Value} : nP.op (.store 54 (.pointer (some p)) (.agg vs)) w K Kp = (vs.size = 7 ∧ (∀ u ∈ vs.toList, u.oneCell' = true) ∧ ∃ cs e, w.heap[p.block]? = some (.cells cs e (0, 0)) ∧ p.spot = none ∧ p.off + 7 ≤ cs.size ∧ K undef (w.upd p.block (.cells (ow cs p.off vs.toList) e (0, 0)))) := op_stn (by kernel_rfl)
@[simp] theorem op_alloc_54 : nP.op (.alloc 54) w K Kp = K (.pointer (some ⟨w.heap.size, 0, none⟩)) (w.alloc (.cells #[Value.int IntKind.u8 0, Value.int IntKind.i64 0, Value.int IntKind.i64 0, Value.string ByteArray.empty, Value.int IntKind.i64 0, Value.int IntKind.i64 0, Value.int IntKind.i64 0] 54)) := op_alloc (z := (.agg #[(Value.int IntKind.u8 0), (Value.int IntKind.i64 0), (Value.int IntKind.i64 0), (Value.string ByteArray.empty), (Value.int IntKind.i64 0), (Value.int IntKind.i64 0), (Value.int IntKind.i64 0)])) (by kernel_rfl)
@[simp] theorem op_fa_54_1 {p : Addr} : nP.op (.fieldAddr 54 (.pointer (some p)) 1) w K Kp = K (.pointer (some (p.add 1))) w := op_fa (k := .one) (by kernel_rfl)
@[simp] theorem pur_fa_54_1 {p : Addr} : nP.pur (.fieldAddr 54 (.pointer (some p)) 1) K1 = K1 (.pointer (some (p.add 1))) := pur_fa (k := .one) (by kernel_rfl)
@[simp] theorem op_len_137 {a : Option Addr} {n c ty : Nat} : nP.op (.blt .len [137] ty [.slice a n c]) w K Kp = K (.int .i64 n) w := op_len_slice (by kernel_rfl)
@[simp] theorem pur_len_137 {a : Option Addr} {n c ty : Nat} : nP.pur (.blt .len [137] ty [.slice a n c]) K1 = K1 (.int .i64 n) := pur_len_slice (by kernel_rfl)
@[simp] theorem ld_len_137 {a : Option Addr} {n c ty : Nat} : nP.ld (.blt .len [137] ty [.slice a n c]) w K1 = K1 (.int .i64 n) := ld_len_slice (by kernel_rfl)
@[simp] theorem same_len_137 {a : Option Addr} {n c ty : Nat} {u : Value} : nP.same (.blt .len [137] ty [.slice a n c]) u w = (.int .i64 n = u) := same_len_slice (by kernel_rfl)
@[simp] theorem call_65 {args : List Value} : nP.call (.fn 65) args w K Kp = Calls Tryz.prog 65 args.toArray w (ret K Kp) := call_fn (by kernel_rfl)
@[simp] theorem op_ix_137 {p : Addr} {len cap : Nat} {k : IntKind} {j : Int} : nP.op (.indexAddr 137 (.slice (some p) len cap) (.int k j)) w K Kp = ((0 ≤ j ∧ j < (len : Int)) ∧ K (.pointer (some (p.add (j.toNat * 1)))) w) := op_ix_slice (e := 135) (by kernel_rfl)
@[simp] theorem pur_ix_137 {p : Addr} {len cap : Nat} {k : IntKind} {j : Int} : nP.pur (.indexAddr 137 (.slice (some p) len cap) (.int k j)) K1 = ((0 ≤ j ∧ j < (len : Int)) ∧ K1 (.pointer (some (p.add (j.toNat * 1))))) := pur_ix_slice (e := 135) (by kernel_rfl)
@[simp] theorem op_alloc_56 : nP.op (.alloc 56) w K Kp = K (.pointer (some ⟨w.heap.size, 0, none⟩)) (w.alloc (.cells #[Value.int IntKind.i64 0, Value.int IntKind.i64 0, Value.bool false, Value.slice none 0 0] 56)) := op_alloc (z := (.agg #[(Value.int IntKind.i64 0), (Value.int IntKind.i64 0), (Value.bool false), (Value.slice none 0 0)])) (by kernel_rfl)
@[simp] theorem op_fa_54_0 {p : Addr} : nP.op (.fieldAddr 54 (.pointer (some p)) 0) w K Kp = K (.pointer (some (p.add 0))) w := op_fa (k := .one) (by kernel_rfl)
@[simp] theorem pur_fa_54_0 {p : Addr} : nP.pur (.fieldAddr 54 (.pointer (some p)) 0) K1 = K1 (.pointer (some (p.add 0))) := pur_fa (k := .one) (by kernel_rfl)
@[simp] theorem op_fa_98_0 {p : Addr} : nP.op (.fieldAddr 98 (.pointer (some p)) 0) w K Kp = K (.pointer (some (p.add 0))) w := op_fa (k := .one) (by kernel_rfl)
@[simp] theorem pur_fa_98_0 {p : Addr} : nP.pur (.fieldAddr 98 (.pointer (some p)) 0) K1 = K1 (.pointer (some (p.add 0))) := pur_fa (k := .one) (by kernel_rfl)
@[simp] theorem op_ld_94 {p : Addr} : nP.op (.load 94 (.pointer (some p))) w K Kp = ∃ cs e fz, w.heap[p.block]? = some (.cells cs e fz) ∧ p.spot = none ∧ ∃ v, cs[p.off]? = some v ∧ K v w := op_ld (by kernel_rfl)
@[simp] theorem ld_ld_94 {p : Addr} : nP.ld (.load 94 (.pointer (some p))) w K1 = ∃ cs e fz, w.heap[p.block]? = some (.cells cs e fz) ∧ p.spot = none ∧ ∃ v, cs[p.off]? = some v ∧ K1 v := ld_ld (by kernel_rfl)
@[simp] theorem same_ld_94 {p : Addr} {v : Value} : nP.same (.load 94 (.pointer (some p))) v w = ∃ cs e fz, w.heap[p.block]? = some (.cells cs e fz) ∧ p.spot = none ∧ cs[p.off]? = some v := same_ld (by kernel_rfl)
@[simp] theorem op_fa_54_4 {p : Addr} : nP.op (.fieldAddr 54 (.pointer (some p)) 4) w K Kp = K (.pointer (some (p.add 4))) w := op_fa (k := .one) (by kernel_rfl)
@[simp] theorem pur_fa_54_4 {p : Addr} : nP.pur (.fieldAddr 54 (.pointer (some p)) 4) K1 = K1 (.pointer (some (p.add 4))) := pur_fa (k := .one) (by kernel_rfl)
@[simp] theorem call_80 {args : List Value} : nP.call (.fn 80) args w K Kp = Calls Tryz.prog 80 args.toArray w (ret K Kp) := call_fn (by kernel_rfl)
@[simp] theorem call_81 {args : List Value} : nP.call (.fn 81) args w K Kp = Calls Tryz.prog 81 args.toArray w (ret K Kp) := call_fn (by kernel_rfl)
@[simp] theorem call_82 {args : List Value} : nP.call (.fn 82) args w K Kp = Calls Tryz.prog 82 args.toArray w (ret K Kp) := call_fn (by kernel_rfl)
@[simp] theorem op_fa_56_0 {p : Addr} : nP.op (.fieldAddr 56 (.pointer (some p)) 0) w K Kp = K (.pointer (some (p.add 0))) w := op_fa (k := .one) (by kernel_rfl)
@[simp] theorem pur_fa_56_0 {p : Addr} : nP.pur (.fieldAddr 56 (.pointer (some p)) 0) K1 = K1 (.pointer (some (p.add 0))) := pur_fa (k := .one) (by kernel_rfl)
@[simp] theorem op_fa_56_2 {p : Addr} : nP.op (.fieldAddr 56 (.pointer (some p)) 2) w K Kp = K (.pointer (some (p.add 2))) w := op_fa (k := .one) (by kernel_rfl)
@[simp] theorem pur_fa_56_2 {p : Addr} : nP.pur (.fieldAddr 56 (.pointer (some p)) 2) K1 = K1 (.pointer (some (p.add 2))) := pur_fa (k := .one) (by kernel_rfl)
@[simp] theorem call_84 {args : List Value} : nP.call (.fn 84) args w K Kp = Calls Tryz.prog 84 args.toArray w (ret K Kp) := call_fn (by kernel_rfl)
@[simp] theorem call_83 {args : List Value} : nP.call (.fn 83) args w K Kp = Calls Tryz.prog 83 args.toArray w (ret K Kp) := call_fn (by kernel_rfl)
@[simp] theorem call_85 {args : List Value} : nP.call (.fn 85) args w K Kp = Calls Tryz.prog 85 args.toArray w (ret K Kp) := call_fn (by kernel_rfl)
@[simp] theorem op_fa_56_3 {p : Addr} : nP.op (.fieldAddr 56 (.pointer (some p)) 3) w K Kp = K (.pointer (some (p.add 3))) w := op_fa (k := .one) (by kernel_rfl)
@[simp] theorem pur_fa_56_3 {p : Addr} : nP.pur (.fieldAddr 56 (.pointer (some p)) 3) K1 = K1 (.pointer (some (p.add 3))) := pur_fa (k := .one) (by kernel_rfl)
@[simp] theorem op_ld_46 {p : Addr} : nP.op (.load 46 (.pointer (some p))) w K Kp = ∃ cs e fz, w.heap[p.block]? = some (.cells cs e fz) ∧ p.spot = none ∧ ∃ v, cs[p.off]? = some v ∧ K v w := op_ld (by kernel_rfl)
@[simp] theorem ld_ld_46 {p : Addr} : nP.ld (.load 46 (.pointer (some p))) w K1 = ∃ cs e fz, w.heap[p.block]? = some (.cells cs e fz) ∧ p.spot = none ∧ ∃ v, cs[p.off]? = some v ∧ K1 v := ld_ld (by kernel_rfl)
@[simp] theorem same_ld_46 {p : Addr} {v : Value} : nP.same (.load 46 (.pointer (some p))) v w = ∃ cs e fz, w.heap[p.block]? = some (.cells cs e fz) ∧ p.spot = none ∧ cs[p.off]? = some v := same_ld (by kernel_rfl)
@[simp] theorem op_st_46 {p : Addr} {v : Value} : nP.op (.store 46 (.pointer (some p)) v) w K Kp = ∃ cs e, w.heap[p.block]? = some (.cells cs e (0, 0)) ∧ p.spot = none ∧ p.off < cs.size ∧ v.oneCell' = true ∧ K undef (w.upd p.block (.cells (cs.setIfInBounds p.off v) e (0, 0))) := op_st (by kernel_rfl)
@[simp] theorem op_fa_56_1 {p : Addr} : nP.op (.fieldAddr 56 (.pointer (some p)) 1) w K Kp = K (.pointer (some (p.add 1))) w := op_fa (k := .one) (by kernel_rfl)
@[simp] theorem pur_fa_56_1 {p : Addr} : nP.pur (.fieldAddr 56 (.pointer (some p)) 1) K1 = K1 (.pointer (some (p.add 1))) := pur_fa (k := .one) (by kernel_rfl)
@[simp] theorem call_86 {args : List Value} : nP.call (.fn 86) args w K Kp = Calls Tryz.prog 86 args.toArray w (ret K Kp) := call_fn (by kernel_rfl)
@[simp] theorem call_88 {args : List Value} : nP.call (.fn 88) args w K Kp = Calls Tryz.prog 88 args.toArray w (ret K Kp) := call_fn (by kernel_rfl)
@[simp] theorem op_fa_54_5 {p : Addr} : nP.op (.fieldAddr 54 (.pointer (some p)) 5) w K Kp = K (.pointer (some (p.add 5))) w := op_fa (k := .one) (by kernel_rfl)
@[simp] theorem pur_fa_54_5 {p : Addr} : nP.pur (.fieldAddr 54 (.pointer (some p)) 5) K1 = K1 (.pointer (some (p.add 5))) := pur_fa (k := .one) (by kernel_rfl)
@[simp] theorem op_fa_98_1 {p : Addr} : nP.op (.fieldAddr 98 (.pointer (some p)) 1) w K Kp = K (.pointer (some (p.add 1))) w := op_fa (k := .one) (by kernel_rfl)
@[simp] theorem pur_fa_98_1 {p : Addr} : nP.pur (.fieldAddr 98 (.pointer (some p)) 1) K1 = K1 (.pointer (some (p.add 1))) := pur_fa (k := .one) (by kernel_rfl)
@[simp] theorem op_ld_95 {p : Addr} : nP.op (.load 95 (.pointer (some p))) w K Kp = ∃ cs e fz, w.heap[p.block]? = some (.cells cs e fz) ∧ p.spot = none ∧ ∃ v, cs[p.off]? = some v ∧ K v w := op_ld (by kernel_rfl)
@[simp] theorem ld_ld_95 {p : Addr} : nP.ld (.load 95 (.pointer (some p))) w K1 = ∃ cs e fz, w.heap[p.block]? = some (.cells cs e fz) ∧ p.spot = none ∧ ∃ v, cs[p.off]? = some v ∧ K1 v := ld_ld (by kernel_rfl)
@[simp] theorem same_ld_95 {p : Addr} {v : Value} : nP.same (.load 95 (.pointer (some p))) v w = ∃ cs e fz, w.heap[p.block]? = some (.cells cs e fz) ∧ p.spot = none ∧ cs[p.off]? = some v := same_ld (by kernel_rfl)
@[simp] theorem op_ld_56 {p : Addr} : nP.op (.load 56 (.pointer (some p))) w K Kp = ∃ cs e fz, w.heap[p.block]? = some (.cells cs e fz) ∧ p.spot = none ∧ p.off + 4 ≤ cs.size ∧ K (.agg (cs.extract p.off (p.off + 4))) w := op_ldn (by kernel_rfl)
@[simp] theorem ld_ld_56 {p : Addr} : nP.ld (.load 56 (.pointer (some p))) w K1 = ∃ cs e fz, w.heap[p.block]? = some (.cells cs e fz) ∧ p.spot = none ∧ p.off + 4 ≤ cs.size ∧ K1 (.agg (cs.extract p.off (p.off + 4))) := ld_ldn (by kernel_rfl)
@[simp] theorem same_ld_56 {p : Addr} {v : Value} : nP.same (.load 56 (.pointer (some p))) v w = ∃ cs e fz, w.heap[p.block]? = some (.cells cs e fz) ∧ p.spot = none ∧ p.off + 4 ≤ cs.size ∧ .agg (cs.extract p.off (p.off + 4)) = v := same_ldn (by kernel_rfl)
theorem lit_28_1 {y0_0 y0_1 y0_2 y0_3 : Value} : sliceLit Tryz.prog 28 1 [(0, .agg #[y0_0, y0_1, y0_2, y0_3])] = some (56, #[y0_0, y0_1, y0_2, y0_3]) := by
  have e : sliceLit Tryz.prog 28 1 [(0, .agg #[y0_0, y0_1, y0_2, y0_3])] = (Instr.fill (fun i => some (i * 4, 4)) (#[Value.int IntKind.i64 0, Value.int IntKind.i64 0, Value.bool false, Value.slice none 0 0]) [(0, .agg #[y0_0, y0_1, y0_2, y0_3])]).map fun cs => (56, cs) := by kernel_rfl
  rw [e]; simp [Instr.fill, Value.cells]
@[simp] theorem op_lit_28_1 {y0_0 y0_1 y0_2 y0_3 : Value} : nP.op (.buildSlice 28 1 [(0, .agg #[y0_0, y0_1, y0_2, y0_3])]) w K Kp = K (.slice (some ⟨w.heap.size, 0, none⟩) 1 1) (w.alloc (.cells #[y0_0, y0_1, y0_2, y0_3] 56)) := op_lit (lit_28_1)
@[simp] theorem call_132 {args : List Value} : nP.call (.fn 132) args w K Kp = Calls Tryz.prog 132 args.toArray w (ret K Kp) := call_fn (by kernel_rfl)
@[simp] theorem op_fa_88_2 {p : Addr} : nP.op (.fieldAddr 88 (.pointer (some p)) 2) w K Kp = K (.pointer (some (p.add 2))) w := op_fa (k := .one) (by kernel_rfl)
@[simp] theorem pur_fa_88_2 {p : Addr} : nP.pur (.fieldAddr 88 (.pointer (some p)) 2) K1 = K1 (.pointer (some (p.add 2))) := pur_fa (k := .one) (by kernel_rfl)
@[simp] theorem op_ld_86 {p : Addr} : nP.op (.load 86 (.pointer (some p))) w K Kp = ∃ cs e fz, w.heap[p.block]? = some (.cells cs e fz) ∧ p.spot = none ∧ ∃ v, cs[p.off]? = some v ∧ K v w := op_ld (by kernel_rfl)
@[simp] theorem ld_ld_86 {p : Addr} : nP.ld (.load 86 (.pointer (some p))) w K1 = ∃ cs e fz, w.heap[p.block]? = some (.cells cs e fz) ∧ p.spot = none ∧ ∃ v, cs[p.off]? = some v ∧ K1 v := ld_ld (by kernel_rfl)
@[simp] theorem same_ld_86 {p : Addr} {v : Value} : nP.same (.load 86 (.pointer (some p))) v w = ∃ cs e fz, w.heap[p.block]? = some (.cells cs e fz) ∧ p.spot = none ∧ cs[p.off]? = some v := same_ld (by kernel_rfl)
@[simp] theorem call_64 {args : List Value} : nP.call (.fn 64) args w K Kp = Calls Tryz.prog 64 args.toArray w (ret K Kp) := call_fn (by kernel_rfl)
theorem lit_120_1 {x0 : Value} (h0 : x0.oneCell' = true) : sliceLit Tryz.prog 120 1 [(0, x0)] = some (118, #[x0]) := by
  have e : sliceLit Tryz.prog 120 1 [(0, x0)] = (Instr.fill (fun i => some (i * 1, 1)) (#[Value.pointer none]) [(0, x0)]).map fun cs => (118, cs) := by kernel_rfl
  rw [e]; simp [Instr.fill, cells_of_one h0]
@[simp] theorem op_lit_120_1 {x0 : Value} (h0 : x0.oneCell' = true) : nP.op (.buildSlice 120 1 [(0, x0)]) w K Kp = K (.slice (some ⟨w.heap.size, 0, none⟩) 1 1) (w.alloc (.cells #[x0] 118)) := op_lit (lit_120_1 h0)
@[simp] theorem op_len_120 {a : Option Addr} {n c ty : Nat} : nP.op (.blt .len [120] ty [.slice a n c]) w K Kp = K (.int .i64 n) w := op_len_slice (by kernel_rfl)
@[simp] theorem pur_len_120 {a : Option Addr} {n c ty : Nat} : nP.pur (.blt .len [120] ty [.slice a n c]) K1 = K1 (.int .i64 n) := pur_len_slice (by kernel_rfl)
@[simp] theorem ld_len_120 {a : Option Addr} {n c ty : Nat} : nP.ld (.blt .len [120] ty [.slice a n c]) w K1 = K1 (.int .i64 n) := ld_len_slice (by kernel_rfl)
@[simp] theorem same_len_120 {a : Option Addr} {n c ty : Nat} {u : Value} : nP.same (.blt .len [120] ty [.slice a n c]) u w = (.int .i64 n = u) := same_len_slice (by kernel_rfl)
@[simp] theorem op_ix_120 {p : Addr} {len cap : Nat} {k : IntKind} {j : Int} : nP.op (.indexAddr 120 (.slice (some p) len cap) (.int k j)) w K Kp = ((0 ≤ j ∧ j < (len : Int)) ∧ K (.pointer (some (p.add (j.toNat * 1)))) w) := op_ix_slice (e := 118) (by kernel_rfl)
@[simp] theorem pur_ix_120 {p : Addr} {len cap : Nat} {k : IntKind} {j : Int} : nP.pur (.indexAddr 120 (.slice (some p) len cap) (.int k j)) K1 = ((0 ≤ j ∧ j < (len : Int)) ∧ K1 (.pointer (some (p.add (j.toNat * 1))))) := pur_ix_slice (e := 118) (by kernel_rfl)
@[simp] theorem op_fa_88_0 {p : Addr} : nP.op (.fieldAddr 88 (.pointer (some p)) 0) w K Kp = K (.pointer (some (p.add 0))) w := op_fa (k := .one) (by kernel_rfl)
@[simp] theorem pur_fa_88_0 {p : Addr} : nP.pur (.fieldAddr 88 (.pointer (some p)) 0) K1 = K1 (.pointer (some (p.add 0))) := pur_fa (k := .one) (by kernel_rfl)
@[simp] theorem op_ld_84 {p : Addr} : nP.op (.load 84 (.pointer (some p))) w K Kp = ∃ cs e fz, w.heap[p.block]? = some (.cells cs e fz) ∧ p.spot = none ∧ ∃ v, cs[p.off]? = some v ∧ K v w := op_ld (by kernel_rfl)
@[simp] theorem ld_ld_84 {p : Addr} : nP.ld (.load 84 (.pointer (some p))) w K1 = ∃ cs e fz, w.heap[p.block]? = some (.cells cs e fz) ∧ p.spot = none ∧ ∃ v, cs[p.off]? = some v ∧ K1 v := ld_ld (by kernel_rfl)
@[simp] theorem same_ld_84 {p : Addr} {v : Value} : nP.same (.load 84 (.pointer (some p))) v w = ∃ cs e fz, w.heap[p.block]? = some (.cells cs e fz) ∧ p.spot = none ∧ cs[p.off]? = some v := same_ld (by kernel_rfl)
@[simp] theorem call_66 {args : List Value} : nP.call (.fn 66) args w K Kp = Calls Tryz.prog 66 args.toArray w (ret K Kp) := call_fn (by kernel_rfl)
@[simp] theorem call_67 {args : List Value} : nP.call (.fn 67) args w K Kp = Calls Tryz.prog 67 args.toArray w (ret K Kp) := call_fn (by kernel_rfl)
@[simp] theorem call_68 {args : List Value} : nP.call (.fn 68) args w K Kp = Calls Tryz.prog 68 args.toArray w (ret K Kp) := call_fn (by kernel_rfl)
@[simp] theorem call_70 {args : List Value} : nP.call (.fn 70) args w K Kp = Calls Tryz.prog 70 args.toArray w (ret K Kp) := call_fn (by kernel_rfl)
@[simp] theorem call_69 {args : List Value} : nP.call (.fn 69) args w K Kp = Calls Tryz.prog 69 args.toArray w (ret K Kp) := call_fn (by kernel_rfl)
@[simp] theorem call_71 {args : List Value} : nP.call (.fn 71) args w K Kp = Calls Tryz.prog 71 args.toArray w (ret K Kp) := call_fn (by kernel_rfl)
@[simp] theorem call_72 {args : List Value} : nP.call (.fn 72) args w K Kp = Calls Tryz.prog 72 args.toArray w (ret K Kp) := call_fn (by kernel_rfl)
@[simp] theorem call_74 {args : List Value} : nP.call (.fn 74) args w K Kp = Calls Tryz.prog 74 args.toArray w (ret K Kp) := call_fn (by kernel_rfl)
@[simp] theorem op_fa_88_1 {p : Addr} : nP.op (.fieldAddr 88 (.pointer (some p)) 1) w K Kp = K (.pointer (some (p.add 1))) w := op_fa (k := .one) (by kernel_rfl)
@[simp] theorem pur_fa_88_1 {p : Addr} : nP.pur (.fieldAddr 88 (.pointer (some p)) 1) K1 = K1 (.pointer (some (p.add 1))) := pur_fa (k := .one) (by kernel_rfl)
@[simp] theorem op_ld_85 {p : Addr} : nP.op (.load 85 (.pointer (some p))) w K Kp = ∃ cs e fz, w.heap[p.block]? = some (.cells cs e fz) ∧ p.spot = none ∧ ∃ v, cs[p.off]? = some v ∧ K v w := op_ld (by kernel_rfl)
@[simp] theorem ld_ld_85 {p : Addr} : nP.ld (.load 85 (.pointer (some p))) w K1 = ∃ cs e fz, w.heap[p.block]? = some (.cells cs e fz) ∧ p.spot = none ∧ ∃ v, cs[p.off]? = some v ∧ K1 v := ld_ld (by kernel_rfl)
@[simp] theorem same_ld_85 {p : Addr} {v : Value} : nP.same (.load 85 (.pointer (some p))) v w = ∃ cs e fz, w.heap[p.block]? = some (.cells cs e fz) ∧ p.spot = none ∧ cs[p.off]? = some v := same_ld (by kernel_rfl)
end Go.Proofs.YtodjijfblgnfmaaGreatDoor
end
