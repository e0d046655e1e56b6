import Derived.Test.YtodjijfblgnfmaaGreatDoorX1
import Derived.Test.YtodjijfblgnfmaaGreatDoorX0
import Derived.Lib.Bytealg
import Derived.Lib.Strings
import Derived.Laws.StructEq
import Derived.Lib.ItoaNum
set_option linter.unusedSimpArgs false
set_option linter.unusedVariables false
set_option linter.unusedSectionVars false
set_option maxRecDepth 100000
set_option maxHeartbeats 4000000
section
namespace Go.Proofs.YtodjijfblgnfmaaGreatDoor.I
open Go.Vc Go.Proofs Go.Proofs.YtodjijfblgnfmaaGreatDoor Go.Vc.Bt
variable {w w' : World} {v cv : Value} {t : Tr} {K : KV} {Kp : KP} {lt : Ky → Ky → Bool} {k : Ky} {x : Vl} {rb : Nat} {r0 : Bool} {b g o c h : Nat} {ks : List Tr}
theorem apX : apOf Tryz.prog 282 = some (286, 2, 24) := by kernel_rfl
theorem Rep.iface : ∀ {h : Nat} {t : Tr} {v : Value}, Rep w h t v → ∃ u p, v = .iface u p
  | 0, .leaf es, v, ⟨b, g, o, c, h1, h2⟩ => ⟨_, _, h1⟩
  | h + 1, .br ks, v, ⟨b, g, o, c, ps, h1, h2⟩ => ⟨_, _, h1⟩
  | 0, .br ks, v, hr => hr.elim
  | h + 1, .leaf es, v, hr => hr.elim
theorem els_one {ps : List (Tr × Value)} (hp : ∀ p ∈ ps, Rep w h p.1 p.2) : ∀ u ∈ els h ps, u.oneCell' = true := fun u hu => by
  obtain ⟨p, hp', he⟩ := List.mem_flatMap.1 hu
  simp only [el, List.mem_cons, List.not_mem_nil, or_false] at he
  rcases he with rfl | rfl
  · cases fstK h p.1 with
    | none => rfl
    | some m => rfl
  · obtain ⟨a, q, hq⟩ := (hp p hp').iface
    rw [hq]; rfl
theorem el_of {s : Tr} {n : Value} {m : Ky} (h1 : fstK h s = some m) : el h (s, n) = [ek m, n] := by unfold el; rw [h1]; rfl
theorem els_take (ps : List (Tr × Value)) (i : Nat) : els h (ps.take i) = (els h ps).take (i * 2) := fm_take (el_len h) ps i
theorem els_drop (ps : List (Tr × Value)) (i : Nat) : els h (ps.drop i) = (els h ps).drop (i * 2) := fm_drop (el_len h) ps i
theorem op_storeX {m : Ky} {n : Value} {o cap : Nat} {zs : List Value} (hn : n.oneCell' = true) (hr : Rw w 286 2 g cap zs) (ho : o + 2 ≤ zs.length) (hK : ∀ w', Frm (· = g) w w' → w'.heap.size = w.heap.size → Rw w' 286 2 g cap (lw zs o [ek m, n]) → K undef w') : nP.op (.store 286 (.pointer (some ⟨g, o, none⟩)) (.agg #[ek m, n])) w K Kp :=
  op_storeRN (n := 2) (by kernel_rfl) rfl hr ho (fun u hu => by simp only [List.mem_toArray, List.mem_cons, List.not_mem_nil, or_false] at hu; rcases hu with rfl | rfl; rfl; exact hn) hK
@[simp] theorem op_elB {m : Ky} {u : TypeId} {p : Value} {w : World} {K : KV} {Kp : KP} : nP.op (.build 286 [(0, ek m), (1, .iface u p)]) w K Kp = K (.agg #[ek m, .iface u p]) w := op_build_286_0_1 (one_ek m) rfl
@[simp] theorem pur_elB {m : Ky} {u : TypeId} {p : Value} {K1 : Value → Prop} : nP.pur (.build 286 [(0, ek m), (1, .iface u p)]) K1 = K1 (.agg #[ek m, .iface u p]) := pur_build_286_0_1 (one_ek m) rfl
theorem Reps.one {l : List Tr} {ns : List Value} (hr : Reps w h l ns) (hl : l.length = 1) : ∃ s n, l = [s] ∧ ns = [n] ∧ Rep w h s n := by
  match l, ns, hr, hl with
  | [s], [n], hr, _ => exact ⟨s, n, rfl, rfl, hr.1⟩
theorem Reps.pair {l : List Tr} {ns : List Value} (hr : Reps w h l ns) (hl : l.length = 2) : ∃ s n s2 n2, l = [s, s2] ∧ ns = [n, n2] ∧ Rep w h s n ∧ Rep w h s2 n2 := by
  match l, ns, hr, hl with
  | [s, s2], [n, n2], hr, _ => exact ⟨s, n, s2, n2, rfl, rfl, hr.1, hr.2.1⟩
def Made (w : World) (h ob : Nat) (new : List Tr) : Prop := ∃ q ps, w.heap[ob]? = some (.cells #[.slice (some ⟨q, 0, none⟩) new.length new.length] 284 (0, 0)) ∧ new = ps.map (·.1) ∧ Rw w 286 2 q new.length (els h ps) ∧ ∀ p ∈ ps, Rep w h p.1 p.2
def brTail (ob : Nat) (w : World) (K : KV) (Kp : KP) : Prop :=
  nP.op (.fieldAddr 284 (.pointer (some ⟨ob, 0, none⟩)) 0) w (fun v200 w => nP.op (.load 282 v200) w (fun v201 w => nP.op (.blt Builtin.len [282] 3 [v201]) w (fun v202 w =>
      nP.op (.bin BinOp.gtr 3 false true v202 (Value.int IntKind.i64 32)) w (fun v203 w =>
      Br v203 (
        nP.op (.fieldAddr 284 (.pointer (some ⟨ob, 0, none⟩)) 0) w (fun v204 w =>
        nP.op (.load 282 v204) w (fun v205 w =>
        nP.op (.blt Builtin.len [282] 3 [v205]) w (fun v206 w =>
        nP.op (.bin BinOp.quo 3 false true v206 (Value.int IntKind.i64 2)) w (fun v207 w =>
        nP.op (.fieldAddr 284 (.pointer (some ⟨ob, 0, none⟩)) 0) w (fun v208 w =>
        nP.op (.load 282 v208) w (fun v209 w =>
        nP.op (.slice 282 v209 none (some v207) (some v207)) w (fun v212 w =>
        nP.op (.build 284 [(0, v212)]) w (fun v213 w =>
        nP.op (.box 284 v213) w (fun v214 w =>
        nP.op (.fieldAddr 284 (.pointer (some ⟨ob, 0, none⟩)) 0) w (fun v215 w =>
        nP.op (.load 282 v215) w (fun v216 w =>
        nP.op (.slice 282 v216 (some v207) none none) w (fun v218 w =>
        nP.op (.build 284 [(0, v218)]) w (fun v219 w =>
        nP.op (.box 284 v219) w (fun v220 w =>
        K (Value.tuple #[.iface 279 v214, .iface 279 v220]) w) Kp) Kp) Kp) Kp) Kp) Kp) Kp) Kp) Kp) Kp) Kp) Kp) Kp) Kp) (
        K (Value.tuple #[.iface 279 (.pointer (some ⟨ob, 0, none⟩)), Value.nilIface]) w)) Kp) Kp) Kp) Kp
theorem brTail_ok {new : List Tr} {ob : Nat} (hm : Made w h ob new) (h33 : new.length ≤ 33) (hKK : ∀ w' ns, Frm (fun _ => False) w w' → Reps w' (h + 1) ((split new).map .br) ns → K (two ns) w') : brTail ob w K Kp := by
  obtain ⟨q, qs, hob, hqs, hrw, hqr⟩ := hm
  unfold brTail
  have hql : qs.length = new.length := by rw [hqs, List.length_map]
  have hsg := hrw.sg (by rw [els_len, hql]) (Nat.le_refl _)
  simp [-getElem?_pos, -Array.getElem?_eq_getElem, -Int.natCast_add, -op_alloc_284, hob]
  refine ⟨fun hgt => ?_, fun hle => ?_⟩
  · have e33 : new.length = 33 := by omega
    rw [split_two e33] at hKK
    rw [e33] at hsg
    have a1 := Sg.mx (i := 16) hsg (by omega)
    have a2 := Sg.lo (i := 16) hsg (by omega)
    have e16 : IntKind.i64.wrap 16 = 16 := by rw [IntKind.wrap_i64]; rfl
    have e16' : IntKind.i64.wrap (((33 : Nat) : Int).tdiv 2) = 16 := by rw [IntKind.wrap_i64]; rfl
    simp [-getElem?_pos, -Array.getElem?_eq_getElem, -Int.natCast_add, -op_alloc_284, e33, e16, e16']
    refine op_box_ok fun w4 k4 z4 b4 => ?_
    have hob4 := k4.get hob fun h => h
    simp [-getElem?_pos, -Array.getElem?_eq_getElem, -Int.natCast_add, -op_alloc_284, hob4, e33, e16, e16']
    refine op_box_ok fun w5 k5 z5 b5 => ?_
    try simp [-getElem?_pos, -Array.getElem?_eq_getElem, -Int.natCast_add, -op_alloc_284, e16]
    have c4 := k5.get b4 fun h => h
    have f2 := Frm.no k4 k5
    refine hKK w5 [.iface 279 (ptr w.heap.size), .iface 279 (ptr w4.heap.size)] f2 ⟨⟨_, q, 0, 16, qs.take 16, rfl, ?_, by rw [hqs, List.map_take], ?_, fun p hp => (hqr p (List.mem_of_mem_take hp)).still f2⟩, ⟨_, q, 16 * 2, 17, qs.drop 16, rfl, ?_, by rw [hqs, List.map_drop], ?_, fun p hp => (hqr p (List.mem_of_mem_drop hp)).still f2⟩, trivial⟩
    · simpa [cells_agg, e33] using c4
    · have := a1.still f2
      rw [← els_take] at this
      have e : (new.take 16).length = 16 := by simp [e33]
      rw [e]; exact this
    · simpa [cells_agg, e33] using b5
    · have := a2.still f2
      rw [← els_drop] at this
      have e : (new.drop 16).length = 17 := by simp [e33]
      rw [e]; simpa using this
  · rw [split_one (by omega)] at hKK
    exact hKK w [.iface 279 (ptr ob)] Frm.refl ⟨⟨_, q, 0, new.length, qs, rfl, hob, hqs, hsg, hqr⟩, trivial⟩
theorem brSet_ok (hC : IsC cv lt) (hr : Rep w (h + 1) (.br ks) v) (hw : WF (h + 1) (.br ks)) (hs : Sd lt (toL (h + 1) (.br ks))) (hfl : flag w rb r0)
    (ih : ∀ {t : Tr} {v : Value} {w : World} {K : KV} {Kp : KP}, Rep w h t v → WF h t → Sd lt (toL h t) → flag w rb r0 → (∀ w' ns, Frm (· = rb) w w' → flag w' rb (r0 || !has lt (toL h t) k) → Reps w' h (setT lt h t k x) ns → K (two ns) w') →
      nP.call (.inv v "pub-bracken/pub/immutable.set") [ek k, ev x, cv, .bool false, .pointer (some ⟨rb, 0, none⟩)] w K Kp)
    (hK : ∀ w' ns, Frm (· = rb) w w' → flag w' rb (r0 || !has lt (toL (h + 1) (.br ks)) k) → Reps w' (h + 1) (setT lt (h + 1) (.br ks) k x) ns → K (two ns) w') :
    nP.call (.inv v "pub-bracken/pub/immutable.set") [ek k, ev x, cv, .bool false, .pointer (some ⟨rb, 0, none⟩)] w K Kp := by
  obtain ⟨h1, h2, h3⟩ : ks ≠ [] ∧ ks.length ≤ 32 ∧ ∀ t ∈ ks, WF h t := id hw
  obtain ⟨b, g, o, c, ps, rfl, hb, hps, hg, hc⟩ := hr
  have hl : ps.length = ks.length := by rw [hps, List.length_map]
  rw [← hl] at hb hg
  simp only [inv_279_261]
  refine vc261_calls ?_
  delta vc261
  simp only [call_259]
  refine brIdx_ok hC hw hs hps hb hg fun w1 f1 => ?_
  have hi := kid_lt (lt := lt) (h := h) (k := k) h1
  have hA := kid_ahead hC.lin hw hs k
  have hB := kid_behind hC.lin hw hs k
  have hsp := toL_split (h := h) hi
  rw [setT_succ hi] at hK
  generalize kid lt h ks k = i at *
  have hs2 : Sd lt (toL h ks[i]) := by
    rw [hsp] at hs
    exact (List.pairwise_append.1 (List.pairwise_append.1 hs).2.1).1
  rw [hsp, has_mid hC.lin hA hB] at hK
  have hip : i < ps.length := by omega
  have hb1 := f1.get hb fun h => h
  have hg1 := hg.still f1
  have hfl1 := hfl.frame f1 fun h => h
  obtain ⟨cur, hcur, hk⟩ := elCells hg1
  have hki := (hk i hip).2
  have hpi : ps[i].1 = ks[i] := by simp [hps]
  have hr' := (hc _ (List.getElem_mem hip)).still f1
  rw [hpi] at hr'
  obtain ⟨g1, g2, g3, g4⟩ := setT_spec hC.lin h ks[i] k x (h3 _ (List.getElem_mem hi)) hs2
  simp [-getElem?_pos, -Array.getElem?_eq_getElem, -Int.natCast_add, -op_alloc_284, ptr, hb1, hcur, hki]
  refine ⟨hip, ih hr' (h3 _ (List.getElem_mem hi)) hs2 hfl1 fun w2 ns f2 fl2 hrs => ?_⟩
  have hb2 := f2.get hb1 (hfl1.typed hb1 (by decide))
  have hg2 := Sg.past hg1 hfl1 (by decide) f2
  have hc2 : ∀ p ∈ ps, Rep w2 h p.1 p.2 := fun p hp => ((hc p hp).still f1).past hfl1 f2
  have F2 : Frm (· = rb) w w2 := f1.fst f2
  generalize setT lt h ks[i] k x = l at *
  generalize (r0 || !has lt (toL h ks[i]) k) = fl at *
  have hl12 : l.length = 1 ∨ l.length = 2 := by have := List.length_pos_iff.2 g4; omega
  have hkp : ∀ (qs : List (Tr × Value)) (j : Nat), (∀ p ∈ qs, Rep w2 h p.1 p.2) → ∀ p ∈ ps.take j ++ qs ++ ps.drop (i + 1), Rep w2 h p.1 p.2 := fun qs j hq p hp => by
    rcases List.mem_append.1 hp with hp | hp
    · rcases List.mem_append.1 hp with hp | hp
      · exact hc2 p (List.mem_of_mem_take hp)
      · exact hq p hp
    · exact hc2 p (List.mem_of_mem_drop hp)
  have hel := els_len h ps
  have hgl := hg2.le
  obtain ⟨J, hJ⟩ : ∃ J : World → Prop, ∀ wl, J wl ↔ Made wl h w2.heap.size (ks.take i ++ l ++ ks.drop (i + 1)) ∧ Frm (· = rb) w wl ∧ flag wl rb fl := ⟨_, fun _ => Iff.rfl⟩
  have hJK : ∀ w3, J w3 → brTail w2.heap.size w3 K Kp := fun w3 hj => by
    obtain ⟨hm, hf3, hfl3⟩ := (hJ _).1 hj
    exact brTail_ok hm (by simp; omega) fun w' ns hf hrs => hK w' ns (hf3.old hf fun _ h => h.elim) (hfl3.frame hf fun h => h) hrs
  rcases hl12 with hl1 | hl1
  · obtain ⟨s, n, rfl, rfl, hn⟩ := hrs.one hl1
    obtain ⟨un, pn, rfl⟩ := hn.iface
    simp only [two]
    simp [-getElem?_pos, -Array.getElem?_eq_getElem, -Int.natCast_add, -op_alloc_284]
    refine op_alloc_ok (z := .agg #[.slice none 0 0]) (by kernel_rfl) fun w3 k3 z3 b3 => ?_
    refine Jn.intro J ⟨?_, fun w hj => hJK w hj⟩
    clear hJK
    have hb3 := k3.get hb2 fun h => h
    simp [-getElem?_pos, -Array.getElem?_eq_getElem, -Int.natCast_add, -op_alloc_284, hb3]
    simp only [cells_agg] at b3
    have hnew : ks.take i ++ [s] ++ ks.drop (i + 1) = ks.set i s := by rw [List.set_eq_take_append_cons_drop, if_pos hi]; simp
    rw [hnew] at hJ
    refine op_make_ok apX rfl (by omega) fun w4 zs k4 z4 hz r4 => ?_
    have b4 := k4.get b3 fun h => h
    refine op_store_ok (by kernel_rfl) b4 (by simp) rfl fun w5 k5 z5 b5 => ?_
    have r5 := r4.frame k5 (by omega)
    have f4 := k3.no k4
    have f5 := f4.old k5 fun b hb => .inr (by omega)
    have hb5 := f5.get hb2 fun h => h
    have hg5 := hg2.still f5
    simp [-getElem?_pos, -Array.getElem?_eq_getElem, -Int.natCast_add, -op_alloc_284, b5, hb5]
    refine op_copySg (n := ps.length) (i := 0) (i1 := 0) (c1 := ps.length) (by kernel_rfl) r5.drew (hg5.still (Frm.drew _)) partAt_zero.symm partAt_zero.symm rfl (by omega) (by omega) (by omega) (by rw [hz]; omega) (els_one hc2) fun w6 k6 z6 r6 => ?_
    have e6 : lw zs (0 * 2) (((els h ps).drop (0 * 2)).take (ps.length * 2)) = els h ps := by
      rw [Nat.zero_mul, List.drop_zero, List.take_of_length_le (by omega)]
      unfold lw
      rw [List.take_zero, List.drop_of_length_le (by omega)]; simp
    rw [e6] at r6
    have f6 := f5.old (Frm.dr k6) fun b hb => .inr (by omega)
    have b6 := (Frm.dr k6).get b5 (by omega)
    simp [-getElem?_pos, -Array.getElem?_eq_getElem, -Int.natCast_add, -op_alloc_284, b6]
    refine minKey_ok ((hn.still f6).still (Frm.drew _)) (g2 s (by simp)) fun w7 m f7 hm => ?_
    have b7 := (Frm.dr f7).get b6 fun h => h
    simp [-getElem?_pos, -Array.getElem?_eq_getElem, -Int.natCast_add, -op_alloc_284, b7]
    refine ⟨hip, op_storeX rfl (r6.frame (Frm.dr f7) fun h => h) (by rw [hel]; omega) fun w8 k8 z8 r8 => ?_⟩
    have f8 := (f6.no (Frm.dr f7)).old k8 fun b hb => .inr (by omega)
    have b8 := k8.get b7 (by omega)
    refine (hJ _).2 ⟨⟨w3.heap.size, ps.set i ((s, Value.iface un pn) : Tr × Value), ?_, ?_, ?_, fun p hp => ?_⟩, F2.old f8 fun _ h => h.elim, fl2.frame f8 fun h => h⟩
    · rw [List.length_set, ← hl]; simpa using b8
    · rw [hps, List.map_set]
    · rw [List.length_set, ← hl]
      have : els h (ps.set i (s, .iface un pn)) = lw (els h ps) (i * 2) [ek m, .iface un pn] := by
        rw [← el_of hm]; exact fm_set (el_len h) hip
      rw [this]; exact r8
    · rcases List.mem_or_eq_of_mem_set hp with hp | rfl
      · exact (hc2 p hp).still f8
      · exact hn.still f8
  · obtain ⟨s, n, s2, n2, rfl, rfl, hn, hn2⟩ := hrs.pair hl1
    obtain ⟨un, pn, rfl⟩ := hn.iface
    obtain ⟨un2, pn2, rfl⟩ := hn2.iface
    simp only [two]
    simp [-getElem?_pos, -Array.getElem?_eq_getElem, -Int.natCast_add, -op_alloc_284]
    refine op_alloc_ok (z := .agg #[.slice none 0 0]) (by kernel_rfl) fun w3 k3 z3 b3 => ?_
    refine Jn.intro J ⟨?_, fun w hj => hJK w hj⟩
    clear hJK
    have hb3 := k3.get hb2 fun h => h
    have ewl : IntKind.i64.wrap ((ps.length : Int) + 1) = ((ps.length + 1 : Nat) : Int) := by rw [IntKind.wrap_i64]; omega
    have ewp : IntKind.i64.wrap ((i : Int) + 1) = ((i + 1 : Nat) : Int) := by rw [IntKind.wrap_i64]; omega
    simp [-getElem?_pos, -Array.getElem?_eq_getElem, -Int.natCast_add, -op_alloc_284, hb3, ewl, ewp]
    simp only [cells_agg] at b3
    have hnl : (ks.take i ++ [s, s2] ++ ks.drop (i + 1)).length = ps.length + 1 := by simp; omega
    refine op_make_ok apX rfl (by omega) fun w4 zs k4 z4 hz r4 => ?_
    have b4 := k4.get b3 fun h => h
    refine op_store_ok (by kernel_rfl) b4 (by simp) rfl fun w5 k5 z5 b5 => ?_
    have r5 := r4.frame k5 (by omega)
    have f4 := k3.no k4
    have f5 := f4.old k5 fun b hb => .inr (by omega)
    have hb5 := f5.get hb2 fun h => h
    have hg5 := hg2.still f5
    simp [-getElem?_pos, -Array.getElem?_eq_getElem, -Int.natCast_add, -op_alloc_284, b5, hb5]
    refine ⟨by omega, by omega, ?_⟩
    refine op_copySg (n := i) (i := 0) (i1 := 0) (c1 := ps.length + 1) (by kernel_rfl) r5.drew ((hg5.hi (i := i) (by omega)).still (Frm.drew _)) partAt_zero.symm partAt_zero.symm rfl (by omega) (by omega) (by omega) (by rw [hz, Nat.succ_mul]; omega) (fun v hv => els_one hc2 v (List.mem_of_mem_take hv)) fun w6 k6 z6 r6 => ?_
    rw [show lw zs (0 * 2) ((((els h ps).take (i * 2)).drop (0 * 2)).take (i * 2)) = lw zs 0 ((els h ps).take (i * 2)) from by rw [Nat.zero_mul, List.drop_zero, List.take_take, Nat.min_self]] at r6
    have l6 : (lw zs 0 ((els h ps).take (i * 2))).length = (ps.length + 1) * 2 := by rw [lw_len (by simp; omega), hz]
    have f6 := f5.old (Frm.dr k6) fun b hb => .inr (by omega)
    have b6 := (Frm.dr k6).get b5 (by omega)
    have hb6 := f6.get hb2 fun h => h
    simp [-getElem?_pos, -Array.getElem?_eq_getElem, -Int.natCast_add, -op_alloc_284, b6, hb6]
    refine ⟨by omega, by omega, ?_⟩
    refine op_copySg (n := ps.length - i) (i := i) (i1 := i + 1) (c1 := ps.length + 1) (by kernel_rfl) r6.drew ((hg2.still f6).still (Frm.drew _)) partAt_suc rfl rfl (by omega) (by omega) (by omega) (by rw [l6]; omega) (els_one hc2) fun w7 k7 z7 r7 => ?_
    rw [List.take_of_length_le (l := (els h ps).drop (i * 2)) (by rw [List.length_drop]; omega)] at r7
    have l7 : (lw (lw zs 0 ((els h ps).take (i * 2))) ((i + 1) * 2) ((els h ps).drop (i * 2))).length = (ps.length + 1) * 2 := by rw [lw_len (by rw [l6, List.length_drop]; omega), l6]
    have f7 := f6.old (Frm.dr k7) fun b hb => .inr (by omega)
    have b7 := (Frm.dr k7).get b6 (by omega)
    simp [-getElem?_pos, -Array.getElem?_eq_getElem, -Int.natCast_add, -op_alloc_284, b7]
    refine minKey_ok ((hn.still f7).still (Frm.drew _)) (g2 s (by simp)) fun w8 m k8 hm => ?_
    have b8 := (Frm.dr k8).get b7 fun h => h
    have f8 := f7.no (Frm.dr k8)
    have s8 := f8.size
    simp [-getElem?_pos, -Array.getElem?_eq_getElem, -Int.natCast_add, -op_alloc_284, b8]
    refine ⟨by omega, op_storeX rfl (r7.frame (Frm.dr k8) fun h => h) (by rw [l7]; omega) fun w9 k9 z9 r9 => ?_⟩
    have l9 : (lw (lw (lw zs 0 ((els h ps).take (i * 2))) ((i + 1) * 2) ((els h ps).drop (i * 2))) (i * 2) [ek m, .iface un pn]).length = (ps.length + 1) * 2 := by rw [lw_len (by rw [l7]; simp; omega), l7]
    have f9 := f8.old k9 fun b hb => .inr (by omega)
    have b9 := k9.get b8 (by omega)
    simp [-getElem?_pos, -Array.getElem?_eq_getElem, -Int.natCast_add, -op_alloc_284, b9]
    refine minKey_ok ((hn2.still f9).still (Frm.drew _)) (g2 s2 (by simp)) fun w10 m2 k10 hm2 => ?_
    have b10 := (Frm.dr k10).get b9 fun h => h
    have f10 := f9.no (Frm.dr k10)
    have s10 := f10.size
    simp [-getElem?_pos, -Array.getElem?_eq_getElem, -Int.natCast_add, -op_alloc_284, b10]
    refine ⟨by omega, op_storeX rfl (r9.frame (Frm.dr k10) fun h => h) (by rw [l9]; omega) fun w11 k11 z11 r11 => ?_⟩
    have f11 := f10.old k11 fun b hb => .inr (by omega)
    have b11 := k11.get b10 (by omega)
    have hqs : els h (ps.take i ++ [(s, Value.iface un pn), (s2, Value.iface un2 pn2)] ++ ps.drop (i + 1)) = (els h ps).take (i * 2) ++ ([ek m, .iface un pn] ++ ([ek m2, .iface un2 pn2] ++ (els h ps).drop (i * 2 + 2))) := by
      rw [← el_of hm, ← el_of hm2]; exact fm_two (el_len h)
    refine (hJ _).2 ⟨⟨w3.heap.size, ps.take i ++ [((s, Value.iface un pn) : Tr × Value), (s2, Value.iface un2 pn2)] ++ ps.drop (i + 1), ?_, ?_, ?_, fun p hp => ?_⟩, F2.old f11 fun _ h => h.elim, fl2.frame f11 fun h => h⟩
    · rw [hnl]; simpa using b11
    · rw [hps]; simp [List.map_take, List.map_drop]
    · rw [hnl, hqs]
      have := two_row (A := els h ps) (zs := zs) (e1 := [ek m, .iface un pn]) (e2 := [ek m2, .iface un2 pn2]) (r := i * 2) (m := 2) rfl rfl (by omega) (by omega)
      rw [← this]
      rw [show (i + 1) * 2 = i * 2 + 2 from by omega] at r11
      exact r11
    · refine (hkp _ i (fun p hp => ?_) p hp).still f11
      simp only [List.mem_cons, List.not_mem_nil, or_false] at hp
      rcases hp with rfl | rfl
      · exact hn
      · exact hn2
theorem set_ok (hC : IsC cv lt) : ∀ {h : Nat} {t : Tr} {v : Value} {w : World} {K : KV} {Kp : KP}, Rep w h t v → WF h t → Sd lt (toL h t) → flag w rb r0 → (∀ w' ns, Frm (· = rb) w w' → flag w' rb (r0 || !has lt (toL h t) k) → Reps w' h (setT lt h t k x) ns → K (two ns) w') →
      nP.call (.inv v "pub-bracken/pub/immutable.set") [ek k, ev x, cv, .bool false, .pointer (some ⟨rb, 0, none⟩)] w K Kp
  | 0, t, v, w, K, Kp, hr, hw, hs, hfl, hK => by
    obtain ⟨es, rfl, h1, h2⟩ := wf_zero.1 hw
    exact leafSet_ok hC hr hw hs hfl hK
  | h + 1, t, v, w, K, Kp, hr, hw, hs, hfl, hK => by
    obtain ⟨ks, rfl, h1, h2, h3⟩ := wf_succ.1 hw
    exact brSet_ok hC hr hw hs hfl (fun hr' hw' hs' hfl' hK' => set_ok hC hr' hw' hs' hfl' hK') hK
end Go.Proofs.YtodjijfblgnfmaaGreatDoor.I
end
section
namespace Go.Proofs.YtodjijfblgnfmaaGreatDoor.I
open Go.Vc Go.Proofs Go.Proofs.YtodjijfblgnfmaaGreatDoor Go.Vc.Bt

end Go.Proofs.YtodjijfblgnfmaaGreatDoor.I
end
section
namespace Go.Proofs.YtodjijfblgnfmaaGreatDoor.I
open Go.Vc Go.Proofs Go.Proofs.YtodjijfblgnfmaaGreatDoor Go.Vc.Bt

end Go.Proofs.YtodjijfblgnfmaaGreatDoor.I
end
section
namespace Go.Proofs.YtodjijfblgnfmaaGreatDoor.I
open Go.Vc Go.Proofs Go.Proofs.YtodjijfblgnfmaaGreatDoor Go.Vc.Bt
variable {w w' : World} {v cv : Value} {t : Tr} {K : KV} {Kp : KP} {lt : Ky → Ky → Bool} {k : Ky} {n : Nat} {b h : Nat} {r : Root Ky Vl}
def RepR (w : World) : Root Ky Vl → Value → Prop
  | none, v => v = .nilIface
  | some (h, t), v => Rep w h t v
theorem RepR.still (h : RepR w r v) (hf : Frm (fun _ => False) w w') : RepR w' r v := by
  match r, h with
  | none, h => exact h
  | some (h, t), hr => exact Rep.still hr hf
theorem RepR.one (h : RepR w r v) : v.oneCell' = true := by
  match r, h with
  | none, h => rw [show v = .nilIface from h]; rfl
  | some (h, t), hr => obtain ⟨u, p, rfl⟩ := Rep.iface hr; rfl
def Dflt (lt : Ky → Ky → Bool) : Prop := ∀ {k : Ky} {w : World} {K : KV} {Kp : KP}, (∀ w' cv, Frm (fun _ => False) w w' → IsC cv lt → K cv w') → Calls Tryz.prog 190 #[ek k] w (ret K Kp)
def CmpOk (cv : Value) (lt : Ky → Ky → Bool) (r : Root Ky Vl) : Prop := IsC cv lt ∨ cv = .nilIface ∧ Dflt lt ∧ r = none
theorem CmpOk.one (h : CmpOk cv lt r) : cv.oneCell' = true := by
  rcases h with h | h
  · obtain ⟨u, p, rfl⟩ := h.iface; rfl
  · rw [h.1]; rfl
def RepM (w : World) (b : Nat) (lt : Ky → Ky → Bool) (r : Root Ky Vl) : Prop := ∃ rv cv, w.heap[b]? = some (.cells #[.int .i64 (rL r).length, rv, cv] 210 (0, 0)) ∧ RepR w r rv ∧ CmpOk cv lt r
theorem RepM.still (h : RepM w b lt r) (hf : Frm (fun _ => False) w w') : RepM w' b lt r := by
  obtain ⟨rv, cv, h1, h2, h3⟩ := h
  exact ⟨rv, cv, hf.get h1 fun h => h, h2.still hf, h3⟩
theorem RepM.below (h : RepM w b lt r) : b < w.heap.size := by obtain ⟨rv, cv, h1, _⟩ := h; exact lt_of_get h1
theorem new_ok (hc : CmpOk cv lt none) (hK : ∀ w' b, Frm (fun _ => False) w w' → w.heap.size ≤ b → RepM w' b lt none → K (ptr b) w') : Calls Tryz.prog 79 #[cv] w (ret K Kp) := by
  refine vc79_calls ?_
  delta vc79
  rw [op_build_210_2 hc.one]
  refine op_box_ok fun w1 k1 z1 b1 => ?_
  simp only [cells_agg] at b1
  exact hK w1 _ k1 (Nat.le_refl _) ⟨.nilIface, cv, b1, rfl, hc⟩
theorem len_ok (hm : RepM w b lt r) (hK : K (.int .i64 (rL r).length) w) : Calls Tryz.prog 85 #[ptr b] w (ret K Kp) := by
  obtain ⟨rv, cv, h1, h2, h3⟩ := hm
  refine vc85_calls ?_
  delta vc85
  simp [-getElem?_pos, -Array.getElem?_eq_getElem, -Int.natCast_add, ptr, h1]
  exact hK
theorem mapGet_ok (hm : RepM w b lt r) (hok : Ok lt n r) (hK : ∀ w', Frm (fun _ => False) w w' → K (gotV (getR lt r k)) w') : Calls Tryz.prog 82 #[ptr b, ek k] w (ret K Kp) := by
  obtain ⟨rv, cv, h1, h2, h3⟩ := hm
  refine vc82_calls ?_
  delta vc82
  match r, h2, h3, hok with
  | none, h2, h3, _ =>
    obtain rfl : rv = .nilIface := h2
    simp [-getElem?_pos, -Array.getElem?_eq_getElem, -Int.natCast_add, ptr, h1]
    exact hK _ Frm.refl
  | some (h, t), h2, h3, hok =>
    have hC : IsC cv lt := h3.resolve_right fun h => nomatch h.2.2
    obtain ⟨o1, o2, o3, o4⟩ := hok
    have hr : Rep w h t rv := h2
    obtain ⟨u, p, rfl⟩ := hr.iface
    simp [-getElem?_pos, -Array.getElem?_eq_getElem, -Int.natCast_add, ptr, h1]
    refine get_ok hC (hr.still (Frm.drew _)) o1 o2 fun w2 f2 => ?_
    have := hK w2 (Frm.dr f2)
    rw [getR] at this
    cases hgg : getT lt h t k with
    | none =>
      rw [hgg] at this
      simp [-getElem?_pos, -Array.getElem?_eq_getElem, -Int.natCast_add, gotV]
      exact this
    | some y =>
      rw [hgg] at this
      simp [-getElem?_pos, -Array.getElem?_eq_getElem, -Int.natCast_add, gotV]
      exact this
theorem clone_ok {a d e : Value} (hb : w.heap[b]? = some (.cells #[a, d, e] 210 (0, 0))) (h1 : ∀ u ∈ (#[a, d, e] : Array Value), u.oneCell' = true)
    (hK : ∀ w', Frm (fun _ => False) w w' → w'.heap.size = w.heap.size + 1 → w'.heap[w.heap.size]? = some (.cells #[a, d, e] 210 (0, 0)) → K (ptr w.heap.size) w') : Calls Tryz.prog 191 #[ptr b] w (ret K Kp) := by
  refine vc191_calls ?_
  delta vc191
  have hx : (#[a, d, e] : Array Value).extract 0 3 = #[a, d, e] := rfl
  simp [-getElem?_pos, -Array.getElem?_eq_getElem, -Int.natCast_add, ptr, hb, hx]
  refine op_alloc_ok (z := .agg #[.int .i64 0, .nilIface, .nilIface]) (by kernel_rfl) fun w1 k1 z1 b1 => ?_
  simp only [cells_agg] at b1
  refine op_storeN_ok (n := 3) (by kernel_rfl) b1 rfl (by simp) h1 fun w2 k2 z2 b2 => ?_
  refine hK w2 (k1.old k2 fun b hb => .inr (by omega)) (by omega) ?_
  simpa [ow] using b2
end Go.Proofs.YtodjijfblgnfmaaGreatDoor.I
end
section
namespace Go.Proofs.YtodjijfblgnfmaaGreatDoor.I
open Go.Vc Go.Proofs Go.Proofs.YtodjijfblgnfmaaGreatDoor Go.Vc.Bt
variable {w w' : World} {v cv : Value} {t : Tr} {K : KV} {Kp : KP} {lt : Ky → Ky → Bool} {k : Ky} {x : Vl} {rb n : Nat} {r0 : Bool} {b g o c h : Nat} {ks : List Tr} {r : Root Ky Vl}
def Off (w : World) (c : Nat) : Prop := ∃ cs e fz, w.heap[c]? = some (.cells cs e fz) ∧ e ≠ 226 ∧ e ≠ 223 ∧ e ≠ 284 ∧ e ≠ 286
theorem Rep.off {z : Nat} (ho : Off w z) (hf : Frm (· = z) w w') : ∀ {h : Nat} {t : Tr} {v : Value}, Rep w h t v → Rep w' h t v
  | 0, .leaf es, v, hr => by
    obtain ⟨b, g, o, c, h1, h2, h3⟩ := hr
    obtain ⟨cs, e, fz, q1, q2, q3, q4, q5⟩ := ho
    have n1 : b ≠ z := fun e' => by rw [e', q1] at h2; cases h2; exact q2 rfl
    obtain ⟨cs', p1, p2⟩ := id h3
    have n2 : g ≠ z := fun e' => by rw [e', q1] at p1; cases p1; exact q3 rfl
    exact ⟨b, g, o, c, h1, hf.get h2 n1, h3.frame hf n2⟩
  | h + 1, .br ks, v, hr => by
    obtain ⟨b, g, o, c, ps, h1, h2, h3, h4, h5⟩ := hr
    have hrec := fun p hp => Rep.off ho hf (h5 p hp)
    obtain ⟨cs, e, fz, q1, q2, q3, q4, q5⟩ := ho
    have n1 : b ≠ z := fun e' => by rw [e', q1] at h2; cases h2; exact q4 rfl
    obtain ⟨cs', p1, p2⟩ := id h4
    have n2 : g ≠ z := fun e' => by rw [e', q1] at p1; cases p1; exact q5 rfl
    exact ⟨b, g, o, c, ps, h1, hf.get h2 n1, h3, h4.frame hf n2, hrec⟩
  | 0, .br ks, v, hr => hr.elim
  | h + 1, .leaf es, v, hr => hr.elim
theorem RepR.off {c : Nat} (h : RepR w r v) (ho : Off w c) (hf : Frm (· = c) w w') : RepR w' r v := by
  match r, h with
  | none, h => exact h
  | some (h, t), hr => exact Rep.off ho hf hr
theorem off_O {a d e : Value} {c : Nat} (h : w.heap[c]? = some (.cells #[a, d, e] 210 (0, 0))) : Off w c := ⟨_, _, _, h, by decide, by decide, by decide, by decide⟩
theorem newBr0_ok {q : Nat} {s s2 : Tr} {n1 n2 : Value} (hq : w.heap[q]? = some (.cells #[n1, n2] 208 (0, 0))) (h1 : Rep w h s n1) (h2 : Rep w h s2 n2) (hw1 : WF h s) (hw2 : WF h s2)
    (hK : ∀ w' b, Frm (fun _ => False) w w' → w.heap.size < b → w'.heap[b]? = some (.cells #[.slice (some ⟨w.heap.size, 0, none⟩) 2 2] 284 (0, 0)) → Sg w' 286 2 w.heap.size 0 2 2 (els h [(s, n1), (s2, n2)]) → K (ptr b) w') : Calls Tryz.prog 192 #[.slice (some ⟨q, 0, none⟩) 2 2] w (ret K Kp) := by
  refine vc192_calls ?_
  delta vc192
  simp [-getElem?_pos, -Array.getElem?_eq_getElem, -Int.natCast_add, -op_lit_224_1]
  refine op_make_ok (n := 2) apX rfl (by omega) fun w1 zs k1 z1 hz r1 => ?_
  obtain ⟨L, hL⟩ : ∃ L : List (Tr × Value), L = [(s, n1), (s2, n2)] := ⟨_, rfl⟩
  have hLn : L.length = 2 := by rw [hL]; rfl
  have hLq : ∀ j (hj : j < L.length), (#[n1, n2] : Array Value)[j]? = some L[j].2 := fun j hj => by
    subst hL
    have : j = 0 ∨ j = 1 := by simp at hj; omega
    rcases this with rfl | rfl <;> rfl
  have hLr : ∀ p ∈ L, Rep w h p.1 p.2 ∧ WF h p.1 := fun p hp => by
    subst hL
    simp only [List.mem_cons, List.not_mem_nil, or_false] at hp
    rcases hp with rfl | rfl
    · exact ⟨h1, hw1⟩
    · exact ⟨h2, hw2⟩
  obtain ⟨I, hI⟩ : ∃ I : KV, ∀ z wl, I z wl ↔ ∃ (j : Nat) (xs : List Value), z = .int .i64 j ∧ j ≤ 2 ∧ Frm (fun _ => False) w wl ∧ Rw wl 286 2 w.heap.size 2 xs ∧ xs.length = 4 ∧ xs.take (j * 2) = els h (L.take j) := ⟨_, fun _ _ => Iff.rfl⟩
  simp [-getElem?_pos, -Array.getElem?_eq_getElem, -Int.natCast_add, -op_lit_224_1]
  refine Lp.intro I (fun z _ => 2 - nOf z) ⟨(hI _ _).2 ⟨0, zs, rfl, by omega, k1, r1, by omega, rfl⟩, ?_⟩
  intro wl z hz'
  obtain ⟨j, xs, rfl, hj, hf, hr, hx, hxt⟩ := (hI _ _).1 hz'
  simp only [op_lss, Br_dec]
  refine ⟨fun hlt => ?_, fun hge => ?_⟩
  · have hjl : j < L.length := by omega
    have hql := hf.get hq fun h => h
    have hqj := hLq j hjl
    obtain ⟨hrj, hwj⟩ := hLr _ (List.getElem_mem hjl)
    obtain ⟨u, p, hup⟩ := hrj.iface
    rw [hup] at hqj
    simp [-getElem?_pos, -Array.getElem?_eq_getElem, -Int.natCast_add, -op_lit_224_1, hql, hqj]
    refine ⟨by omega, ?_⟩
    rw [hup] at hrj
    refine minKey_ok (hrj.still hf) hwj fun w2 m f2 hm => ?_
    try simp [-getElem?_pos, -Array.getElem?_eq_getElem, -Int.natCast_add, -op_lit_224_1]
    refine ⟨by omega, op_storeX rfl (hr.frame f2 fun h => h) (by omega) fun w3 k3 z3 r3 => ?_⟩
    try simp [-getElem?_pos, -Array.getElem?_eq_getElem, -Int.natCast_add, -op_lit_224_1]
    rw [show IntKind.i64.wrap ((j : Int) + 1) = ((j + 1 : Nat) : Int) from by rw [IntKind.wrap_i64]; omega]
    have hs := hf.size
    refine ⟨(hI _ _).2 ⟨j + 1, _, rfl, by omega, (hf.no f2).old k3 fun b hb => .inr (by omega), r3, by rw [lw_len (by simp; omega), hx], ?_⟩, by simp only [nOf_int]; omega⟩
    have e1 : els h (L.take (j + 1)) = els h (L.take j) ++ [ek m, .iface u p] := by
      rw [List.take_add_one, List.getElem?_eq_getElem hjl, Option.toList_some]
      unfold els
      rw [List.flatMap_append, List.flatMap_cons, List.flatMap_nil, List.append_nil, ← el_of hm, ← hup]
    rw [e1, ← hxt]
    unfold lw
    rw [List.take_append_of_le_length (by simp; omega), List.take_of_length_le (by simp; omega)]
  · obtain rfl : j = 2 := by omega
    have hxs : xs = els h L := by
      rw [List.take_of_length_le (by omega), List.take_of_length_le (by omega)] at hxt; exact hxt
    subst hxs
    try simp [-getElem?_pos, -Array.getElem?_eq_getElem, -Int.natCast_add, -op_lit_224_1]
    refine op_box_ok fun w2 k2 z2 b2 => ?_
    simp only [cells_agg] at b2
    have hsg := hr.sg (n := 2) (by rw [els_len, hLn]) (Nat.le_refl _)
    exact hK w2 _ (hf.no k2) hsg.lt b2 (by rw [← hL]; exact hsg.still k2)
theorem newBr_ok {q : Nat} {s s2 : Tr} {n1 n2 : Value} (hq : w.heap[q]? = some (.cells #[n1, n2] 208 (0, 0))) (h1 : Rep w h s n1) (h2 : Rep w h s2 n2) (hw1 : WF h s) (hw2 : WF h s2)
    (hK : ∀ w' b, Frm (fun _ => False) w w' → Rep w' (h + 1) (.br [s, s2]) (.iface 279 (ptr b)) → K (ptr b) w') : Calls Tryz.prog 192 #[.slice (some ⟨q, 0, none⟩) 2 2] w (ret K Kp) :=
  newBr0_ok hq h1 h2 hw1 hw2 fun w' b hf _ hb hg => hK w' b hf ⟨b, w.heap.size, 0, 2, [(s, n1), (s2, n2)], rfl, hb, rfl, hg, fun p hp => by
    simp only [List.mem_cons, List.not_mem_nil, or_false] at hp
    rcases hp with rfl | rfl
    · exact h1.still hf
    · exact h2.still hf⟩
theorem mapSet_ok (hl : Lin lt) (hm : RepM w b lt r) (hok : Ok lt n r) (hn : (rL r).length < 2 ^ 60)
    (hK : ∀ w' b', Frm (fun _ => False) w w' → w.heap.size ≤ b' → RepM w' b' lt (some (setR lt r k x)) → K (ptr b') w') : Calls Tryz.prog 80 #[ptr b, ek k, ev x] w (ret K Kp) := by
  refine vc80_calls ?_
  delta vc80
  simp only [call_146]
  refine vc146_calls ?_
  delta vc146
  obtain ⟨rv, cv, h1, h2, h3⟩ := hm
  have hsz := put_len (lt := lt) (L := rL r) (k := k) (v := x)
  have hspec := setR_spec hl hok k x
  simp [-getElem?_pos, -Array.getElem?_eq_getElem, -Int.natCast_add, -op_lit_224_1, ptr, h1]
  obtain ⟨J, hJ⟩ : ∃ J : KV, ∀ e wl, J e wl ↔ IsC e lt ∧ Frm (fun _ => False) w wl := ⟨_, fun _ _ => Iff.rfl⟩
  refine Jn.intro J ⟨?_, ?_⟩
  · rcases h3 with h3 | ⟨rfl, hd, _⟩
    · obtain ⟨u, p, rfl⟩ := h3.iface
      simp [-getElem?_pos, -Array.getElem?_eq_getElem, -Int.natCast_add, -op_lit_224_1]
      exact (hJ _ _).2 ⟨h3, Frm.refl⟩
    · simp [-getElem?_pos, -Array.getElem?_eq_getElem, -Int.natCast_add, -op_lit_224_1]
      exact hd fun w' cv hf hc => (hJ _ _).2 ⟨hc, hf⟩
  · intro w1 cv1 hj
    obtain ⟨hC, f1⟩ := (hJ _ _).1 hj
    clear hJ hj J
    have a1 := f1.get h1 fun h => h
    have r1 := h2.still f1
    have c1 := CmpOk.one (lt := lt) (r := none) (.inl hC)
    obtain ⟨J, hJ⟩ : ∃ J : KV, ∀ e wl, J e wl ↔ ∃ ob, e = ptr ob ∧ w.heap.size ≤ ob ∧ Frm (fun _ => False) w wl ∧ wl.heap[ob]? = some (.cells #[.int .i64 (rL r).length, rv, cv] 210 (0, 0)) := ⟨_, fun _ _ => Iff.rfl⟩
    have s1 := f1.size
    refine Jn.intro J ⟨clone_ok a1 (fun u hu => ?_) fun w2 k2 z2 b2 => (hJ _ _).2 ⟨_, rfl, s1, f1.no k2, b2⟩, ?_⟩
    · simp only [List.mem_toArray, List.mem_cons, List.not_mem_nil, or_false] at hu
      rcases hu with rfl | rfl | rfl
      · rfl
      · exact h2.one
      · exact h3.one
    · intro w2 o2 hj
      obtain ⟨ob, rfl, hob, f2, b2⟩ := (hJ _ _).1 hj
      clear hJ hj J
      have a2 := f2.get h1 fun h => h
      have hbo : b ≠ ob := by have := lt_of_get h1; omega
      simp [-getElem?_pos, -Array.getElem?_eq_getElem, -Int.natCast_add, -op_lit_224_1, ptr]
      refine op_store_ok (by kernel_rfl) b2 (by simp) c1 fun w3 k3 z3 b3 => ?_
      have f3 := f2.old k3 fun b hb => .inr (by omega)
      have a3 := f3.get h1 fun h => h
      have b3 : w3.heap[ob]? = some (.cells #[.int .i64 (rL r).length, rv, cv1] 210 (0, 0)) := by simpa using b3
      match r, h2, hok with
      | none, h2, _ =>
        obtain rfl : rv = .nilIface := h2
        simp [-getElem?_pos, -Array.getElem?_eq_getElem, -Int.natCast_add, -op_lit_224_1, a3]
        refine op_store_ok (by kernel_rfl) b3 (by simp) rfl fun w4 k4 z4 b4 => ?_
        refine op_lit_ok lit_224_1 fun w5 k5 z5 b5 => ?_
        simp [-getElem?_pos, -Array.getElem?_eq_getElem, -Int.natCast_add, -op_lit_224_1]
        refine op_box_ok fun w6 k6 z6 b6 => ?_
        simp only [cells_agg] at b6
        have f4 := f3.old k4 fun b hb => .inr (by omega)
        have g6 := k5.no k6
        have f6 := f4.no g6
        have b4' := g6.get b4 fun h => h
        have hl4 := lt_of_get b4
        refine op_store_ok (by kernel_rfl) b4' (by simp) rfl fun w7 k7 z7 b7 => ?_
        have f7 := f6.old k7 fun b hb => .inr (by omega)
        refine hK w7 ob f7 hob ⟨.iface 220 (ptr w5.heap.size), cv1, by simpa [rL, setR, toL, ptr] using b7, ?_, .inl hC⟩
        refine ⟨_, w4.heap.size, 0, 1, rfl, k7.get b6 (by omega), _, (k6.get b5 fun h => h) |> fun q => k7.get q (by omega), rfl, Nat.le_refl _, by simp, rfl, by decide⟩
      | some (h, t), h2, hok =>
        obtain ⟨o1, o2, o3, o4⟩ := hok
        have hr : Rep w h t rv := h2
        obtain ⟨u, p, rfl⟩ := hr.iface
        simp [-getElem?_pos, -Array.getElem?_eq_getElem, -Int.natCast_add, -op_lit_224_1, a3]
        refine op_alloc_ok (z := .bool false) (by kernel_rfl) fun w4 k4 z4 fl4 => ?_
        have hl3 := lt_of_get b3
        have f4 := f3.no k4
        have a4 := f4.get h1 fun h => h
        have b4 := k4.get b3 fun h => h
        simp [-getElem?_pos, -Array.getElem?_eq_getElem, -Int.natCast_add, -op_lit_224_1, a4]
        obtain ⟨g1, g2, g3, g4⟩ := setT_spec hl h t k x o1 o2
        have hl12 : (setT lt h t k x).length = 1 ∨ (setT lt h t k x).length = 2 := by have := List.length_pos_iff.2 g4; omega
        refine set_ok (rb := w3.heap.size) (r0 := false) hC (hr.still f4) o1 o2 fl4 fun w5 ns k5 fl5 hrs => ?_
        have f5 := f4.old k5 fun b hb => .inr (by have := f3.size; omega)
        have b5 := k5.get b4 (by omega)
        rw [Bool.false_or] at fl5
        obtain ⟨J, hJ⟩ : ∃ J : KV, ∀ e wl, J e wl ↔ RepR wl (some (setR lt (some (h, t)) k x)) e ∧ Frm (fun _ => False) w5 wl := ⟨_, fun _ _ => Iff.rfl⟩
        have hJ1 : ∃ e1 e2, two ns = .tuple #[e1, e2] := by
          rcases hl12 with h' | h'
          · obtain ⟨s, n, _, rfl, _⟩ := hrs.one h'; exact ⟨_, _, rfl⟩
          · obtain ⟨s, n, s2, n2, _, rfl, _⟩ := hrs.pair h'; exact ⟨_, _, rfl⟩
        obtain ⟨e1, e2, he⟩ := hJ1
        rw [he]
        simp [-getElem?_pos, -Array.getElem?_eq_getElem, -Int.natCast_add, -op_lit_224_1]
        refine Jn.intro J ⟨?_, ?_⟩
        · rcases hl12 with h' | h'
          · obtain ⟨s, n, hs1, rfl, hn1⟩ := hrs.one h'
            simp only [two, Value.tuple.injEq, Array.mk.injEq, List.cons.injEq, and_true] at he
            obtain ⟨rfl, rfl⟩ := he
            simp [-getElem?_pos, -Array.getElem?_eq_getElem, -Int.natCast_add, -op_lit_224_1]
            refine (hJ _ _).2 ⟨?_, Frm.refl⟩
            rw [setR, hs1]; exact hn1
          · obtain ⟨s, n, s2, n2, hs1, rfl, hn1, hn2⟩ := hrs.pair h'
            simp only [two, Value.tuple.injEq, Array.mk.injEq, List.cons.injEq, and_true] at he
            obtain ⟨rfl, rfl⟩ := he
            obtain ⟨u1, p1, rfl⟩ := hn1.iface
            obtain ⟨u2, p2, rfl⟩ := hn2.iface
            simp [-getElem?_pos, -Array.getElem?_eq_getElem, -Int.natCast_add, -op_lit_224_1]
            refine op_lit_ok (lit_353_2 rfl rfl) fun w6 k6 z6 b6 => ?_
            refine newBr_ok b6 (hn1.still k6) (hn2.still k6) (g2 s (by rw [hs1]; simp)) (g2 s2 (by rw [hs1]; simp)) fun w7 b' k7 hr7 => ?_
            refine (hJ _ _).2 ⟨?_, k6.no k7⟩
            rw [setR, hs1]; exact hr7
        · intro w6 rt hj
          obtain ⟨hr6, f6⟩ := (hJ _ _).1 hj
          have one6 := hr6.one
          have g6 := f5.no f6
          have a6 := g6.get h1 fun h => h
          have b6 := f6.get b5 fun h => h
          have fl6 := f6.get (show w5.heap[w3.heap.size]? = _ from fl5) fun h => h
          have hl6 := lt_of_get b6
          simp [-getElem?_pos, -Array.getElem?_eq_getElem, -Int.natCast_add, -op_lit_224_1, a6]
          refine op_store_ok (by kernel_rfl) b6 (by simp) rfl fun w7 k7 z7 b7 => ?_
          refine op_store_ok (by kernel_rfl) b7 (by simp) one6 fun w8 k8 z8 b8 => ?_
          have g8 := (g6.old k7 fun b hb => .inr (by omega)).old k8 fun b hb => .inr (by omega)
          have fl8 := k8.get (k7.get fl6 (by omega)) (by omega)
          have b8 : w8.heap[ob]? = some (.cells #[.int .i64 (rL (some (h, t))).length, rt, cv1] 210 (0, 0)) := by simpa using b8
          have b7' : w7.heap[ob]? = some (.cells #[.int .i64 (rL (some (h, t))).length, .iface u p, cv1] 210 (0, 0)) := by simpa using b7
          have hr8 : RepR w8 (some (setR lt (some (h, t)) k x)) rt := (hr6.off (off_O b6) k7).off (off_O b7') k8
          have hlen : (rL (some (setR lt (some (h, t)) k x))).length = (rL (some (h, t))).length + if has lt (toL h t) k then 0 else 1 := by rw [hspec.1, hsz]; rfl
          simp [-getElem?_pos, -Array.getElem?_eq_getElem, -Int.natCast_add, -op_lit_224_1, fl8]
          cases hh : has lt (toL h t) k with
          | true =>
            simp [-getElem?_pos, -Array.getElem?_eq_getElem, -Int.natCast_add, -op_lit_224_1]
            rw [hh] at hlen
            refine hK w8 ob g8 hob ⟨rt, cv1, ?_, hr8, .inl hC⟩
            rw [hlen]; simpa using b8
          | false =>
            rw [hh] at hlen
            simp [-getElem?_pos, -Array.getElem?_eq_getElem, -Int.natCast_add, -op_lit_224_1, b8]
            refine op_store_ok (by kernel_rfl) b8 (by simp) rfl fun w9 k9 z9 b9 => ?_
            refine hK w9 ob (g8.old k9 fun b hb => .inr (by omega)) hob ⟨rt, cv1, ?_, ?_, .inl hC⟩
            · rw [hlen]
              rw [show IntKind.i64.wrap (((rL (some (h, t))).length : Int) + 1) = (((rL (some (h, t))).length + 1 : Nat) : Int) from by rw [IntKind.wrap_i64]; omega] at b9
              simpa using b9
            · exact hr8.off (off_O b8) k9
end Go.Proofs.YtodjijfblgnfmaaGreatDoor.I
end
section
namespace Go.Proofs.YtodjijfblgnfmaaGreatDoor.I
open Go.Vc Go.Proofs Go.Proofs.YtodjijfblgnfmaaGreatDoor Go.Vc.Bt

end Go.Proofs.YtodjijfblgnfmaaGreatDoor.I
end
section
namespace Go.Vc.Bt
section
variable {α : Type} [DecidableEq α] {lt : α → α → Bool}
theorem Lin.flip (h : Lin lt) : Lin (fun a b => lt b a) := ⟨h.irr, fun hab hbc => h.tr hbc hab, fun hab hba => (h.tri hba hab)⟩
def by1 (f : α → Int) (lt : α → α → Bool) (a b : α) : Bool := if f a = f b then lt a b else decide (f a < f b)
theorem Lin.by1 (h : Lin lt) (f : α → Int) : Lin (Bt.by1 f lt) := by
  refine ⟨fun a => by simp [Bt.by1, h.irr], fun {a b c} hab hbc => ?_, fun {a b} hab hba => ?_⟩
  · unfold Bt.by1 at *
    split at hab <;> split at hbc
    · rename_i h1 h2
      rw [if_pos (by omega)]; exact h.tr hab hbc
    · rename_i h1 h2
      simp only [decide_eq_true_eq] at hbc
      rw [if_neg (by omega)]; exact decide_eq_true (by omega)
    · rename_i h1 h2
      simp only [decide_eq_true_eq] at hab
      rw [if_neg (by omega)]; exact decide_eq_true (by omega)
    · simp only [decide_eq_true_eq] at hab hbc
      rw [if_neg (by omega)]; exact decide_eq_true (by omega)
  · unfold Bt.by1 at *
    by_cases e : f a = f b
    · rw [if_pos e] at hab; rw [if_pos e.symm] at hba; exact h.tri hab hba
    · rw [if_neg e] at hab; rw [if_neg (fun h => e h.symm)] at hba
      simp only [decide_eq_false_iff_not] at hab hba
      omega
def ltInt (a b : Int) : Bool := decide (a < b)
theorem lin_int : Lin ltInt := ⟨fun a => by simp [ltInt], fun hab hbc => by simp only [ltInt, decide_eq_true_eq] at *; omega, fun hab hba => by simp only [ltInt, decide_eq_false_iff_not] at *; omega⟩
end
end Go.Vc.Bt
end
section
namespace Go.Vc.Bt
theorem less_irr : ∀ x : List UInt8, Op.bytesLess x x = false
  | [] => rfl
  | a :: x => by simp [Op.bytesLess, less_irr x, UInt8.lt_irrefl]
theorem less_tr : ∀ x y z : List UInt8, Op.bytesLess x y = true → Op.bytesLess y z = true → Op.bytesLess x z = true
  | [], [], _, h, _ => by simp [Op.bytesLess] at h
  | [], _ :: _, [], _, h => by simp [Op.bytesLess] at h
  | [], _ :: _, _ :: _, _, _ => by simp [Op.bytesLess]
  | _ :: _, [], _, h, _ => by simp [Op.bytesLess] at h
  | _ :: _, _ :: _, [], _, h => by simp [Op.bytesLess] at h
  | a :: x, b :: y, c :: z, h1, h2 => by
    simp only [Op.bytesLess, Bool.or_eq_true, decide_eq_true_eq, Bool.and_eq_true, beq_iff_eq] at h1 h2 ⊢
    rcases h1 with h1 | ⟨rfl, h1⟩
    · rcases h2 with h2 | ⟨rfl, h2⟩
      · exact .inl (UInt8.lt_trans h1 h2)
      · exact .inl h1
    · rcases h2 with h2 | ⟨rfl, h2⟩
      · exact .inl h2
      · exact .inr ⟨rfl, less_tr x y z h1 h2⟩
theorem less_tri : ∀ x y : List UInt8, Op.bytesLess x y = false → Op.bytesLess y x = false → x = y
  | [], [], _, _ => rfl
  | [], _ :: _, h, _ => by simp [Op.bytesLess] at h
  | _ :: _, [], _, h => by simp [Op.bytesLess] at h
  | a :: x, b :: y, h1, h2 => by
    simp only [Op.bytesLess, Bool.or_eq_false_iff, decide_eq_false_iff_not, Bool.and_eq_false_iff, beq_eq_false_iff_ne] at h1 h2
    have e : a = b := UInt8.le_antisymm (UInt8.not_lt.1 h2.1) (UInt8.not_lt.1 h1.1)
    subst e
    have h1' : Op.bytesLess x y = false := h1.2.resolve_left fun h => h rfl
    have h2' : Op.bytesLess y x = false := h2.2.resolve_left fun h => h rfl
    rw [less_tri x y h1' h2']
theorem Lin.comap {α β : Type} [DecidableEq α] [DecidableEq β] {lt : β → β → Bool} (h : Lin lt) {f : α → β} (hf : ∀ a b, f a = f b → a = b) : Lin (fun a b => lt (f a) (f b)) :=
  ⟨fun a => h.irr _, fun h1 h2 => h.tr h1 h2, fun h1 h2 => hf _ _ (h.tri h1 h2)⟩
theorem lin_less : Lin Op.bytesLess := ⟨less_irr, fun {a b c} h1 h2 => less_tr a b c h1 h2, fun {a b} h1 h2 => less_tri a b h1 h2⟩
theorem compare_less : ∀ x y : List UInt8, Lib.compareBytes x y = cmp Op.bytesLess x y
  | [], [] => rfl
  | [], _ :: _ => by simp [Lib.compareBytes, cmp, Op.bytesLess]
  | _ :: _, [] => by simp [Lib.compareBytes, cmp, Op.bytesLess]
  | a :: x, b :: y => by
    have ih := compare_less x y
    unfold cmp at ih ⊢
    simp only [Lib.compareBytes, Op.bytesLess, Bool.or_eq_true, decide_eq_true_eq, Bool.and_eq_true, beq_iff_eq]
    by_cases h1 : a < b
    · simp [h1]
    · by_cases h2 : b < a
      · have hne : ¬ a = b := fun e => by subst e; exact UInt8.lt_irrefl _ h2
        simp [h1, h2, hne]
      · have e : a = b := UInt8.le_antisymm (UInt8.not_lt.1 h2) (UInt8.not_lt.1 h1)
        subst e
        simp only [UInt8.lt_irrefl, if_false, false_or, true_and]
        exact ih
def lessB (a b : ByteArray) : Bool := Op.bytesLess a.toList b.toList
theorem lin_lessB : Lin lessB := lin_less.comap (f := ByteArray.toList) fun a b h => by
  rw [Lib.toList_data, Lib.toList_data] at h
  cases a; cases b
  congr
  exact Array.ext' h
theorem compare_lessB (a b : ByteArray) : Lib.compareBytes a.data.toList b.data.toList = cmp lessB a b := by
  rw [compare_less]; unfold cmp lessB; rw [Lib.toList_data, Lib.toList_data]
end Go.Vc.Bt
end
section
namespace Go.Proofs.YtodjijfblgnfmaaGreatDoor.I
open Go.Vc Go.Proofs Go.Proofs.YtodjijfblgnfmaaGreatDoor Go.Vc.Bt
variable {w w' : World} {K : KV} {Kp : KP} {kd : Nat} {n : Int}
theorem cmp_by1 {α : Type} {f : α → Int} {lt : α → α → Bool} (a b : α) : Bt.cmp (by1 f lt) a b = if f a = f b then Bt.cmp lt a b else Bt.cmp ltInt (f a) (f b) := by
  by_cases h : f a = f b
  · have e1 : by1 f lt a b = lt a b := by unfold by1; rw [if_pos h]
    have e2 : by1 f lt b a = lt b a := by unfold by1; rw [if_pos h.symm]
    unfold Bt.cmp; rw [e1, e2, if_pos h]
  · have e1 : by1 f lt a b = ltInt (f a) (f b) := by unfold by1; rw [if_neg h]; rfl
    have e2 : by1 f lt b a = ltInt (f b) (f a) := by unfold by1; rw [if_neg fun e => h e.symm]; rfl
    unfold Bt.cmp; rw [e1, e2, if_neg h]
theorem tmod_pos {a m : Int} (hm : 0 < m) : -m < a.tmod m ∧ a.tmod m < m ∧ a % m = if a.tmod m < 0 then a.tmod m + m else a.tmod m := by
  have h1 := Int.tmod_lt_of_pos a hm
  have h2 := Int.lt_tmod_of_pos a hm
  have h3 : a % m = (a.tmod m) % m := by
    conv => lhs; rw [← Int.mul_tdiv_add_tmod a m]
    rw [Int.add_comm, Int.add_mul_emod_self_left]
  refine ⟨h2, h1, ?_⟩
  rw [h3]
  split
  · rename_i h
    rw [← Int.add_emod_right, Int.emod_eq_of_lt (by omega) (by omega)]
  · rename_i h
    exact Int.emod_eq_of_lt (by omega) h1
theorem tmod_any {a n : Int} (hn : n ≠ 0) : a % n = if a.tmod n < 0 then (if 0 < n then a.tmod n + n else a.tmod n - n) else a.tmod n := by
  by_cases h : 0 < n
  · rw [(tmod_pos h).2.2]; simp [h]
  · obtain ⟨m, rfl⟩ : ∃ m, n = -m := ⟨-n, by omega⟩
    rw [Int.emod_neg, Int.tmod_neg, (tmod_pos (a := a) (m := m) (by omega)).2.2]
    simp [show ¬ 0 < -m from h]; omega
theorem compared_ok {a b : Int} (hK : K (.int .i64 (Bt.cmp ltInt a b)) w) : Calls Tryz.prog 238 #[.int .i64 a, .int .i64 b] w (ret K Kp) := by
  refine vc238_calls ?_
  delta vc238
  simp only [op_lss, op_gtr, Br_dec]
  unfold Bt.cmp ltInt at hK
  refine ⟨fun h => ?_, fun h => ⟨fun h' => ?_, fun h' => ?_⟩⟩
  · rw [if_pos (decide_eq_true h)] at hK; exact hK
  · rw [if_neg (by simpa using h), if_pos (by simpa using h')] at hK; exact hK
  · rw [if_neg (by simpa using h), if_neg (by simpa using h')] at hK; exact hK
theorem remainder_ok {a : Int} (hn : n ≠ 0) (h1 : -9223372036854775808 ≤ n) (h2 : n ≤ 9223372036854775807) (hK : K (.int .i64 (a % n)) w) : Calls Tryz.prog 240 #[.int .i64 a, .int .i64 n] w (ret K Kp) := by
  refine vc240_calls ?_
  delta vc240
  simp [-getElem?_pos, -Array.getElem?_eq_getElem, -Int.natCast_add, add_spot, and_assoc, Br_dec]
  have ha := tmod_any (a := a) hn
  have hm : -(n.natAbs : Int) < a.tmod n ∧ a.tmod n < n.natAbs := by
    by_cases h : 0 < n
    · have := tmod_pos (a := a) h; omega
    · have := tmod_pos (a := a) (m := -n) (by omega)
      rw [Int.tmod_neg] at this; omega
  refine ⟨hn, fun h => ⟨fun h' => ?_, fun h' => ⟨fun _ => ?_, fun h2 => by omega⟩⟩, fun h => ⟨fun h2 => by omega, fun _ => ?_⟩⟩
  · rw [if_pos h, if_pos h'] at ha
    rw [show IntKind.i64.wrap (a.tmod n + n) = a.tmod n + n from by rw [IntKind.wrap_i64]; omega, ← ha]; exact hK
  · rw [if_pos h, if_neg (by omega)] at ha
    rw [show IntKind.i64.wrap (a.tmod n - n) = a.tmod n - n from by rw [IntKind.wrap_i64]; omega, ← ha]; exact hK
  · rw [if_neg (by omega)] at ha
    rw [← ha]; exact hK
def ordI (kd : Nat) (n : Int) : Int → Int → Bool := if kd = 2 then fun a b => ltInt b a else if kd = 3 ∧ n ≠ 0 then by1 (· % n) ltInt else ltInt
theorem ordI_lin : Lin (ordI kd n) := by
  unfold ordI
  split
  · exact lin_int.flip
  · split
    · exact lin_int.by1 _
    · exact lin_int
def cmpV (kd : Nat) (n : Int) : Value := .iface 146 (.agg #[.int .u8 kd, .int .i64 n])
theorem cmpV_ok (h1 : -9223372036854775808 ≤ n) (h2 : n ≤ 9223372036854775807) : IsC (cmpV kd n) (ordI kd n) where
  lin := ordI_lin
  cmp := fun {a b w K Kp} hK => by
    simp only [cmpV, inv_146_232]
    refine vc232_calls ?_
    simp only [vc232]
    refine op_box_ok fun w1 k1 z1 b1 => ?_
    simp only [cells_agg] at b1
    have hK1 := fun w' hf => hK w' (k1.no hf)
    unfold ordI at hK1
    by_cases e2 : kd = 2
    · subst e2
      rw [if_pos rfl] at hK1
      simp [-getElem?_pos, -Array.getElem?_eq_getElem, -Int.natCast_add, b1, ek]
      exact compared_ok (hK1 w1 Frm.refl)
    · rw [if_neg e2] at hK1
      have e2' : ¬ ((kd : Int) = 2) := by omega
      by_cases e3 : kd = 3
      · subst e3
        by_cases e0 : n = 0
        · subst e0
          rw [if_neg (by simp)] at hK1
          simp [-getElem?_pos, -Array.getElem?_eq_getElem, -Int.natCast_add, b1, ek]
          exact compared_ok (hK1 w1 Frm.refl)
        · rw [if_pos ⟨rfl, e0⟩] at hK1
          have hd := hK1 w1.drew (Frm.drew _)
          simp [-getElem?_pos, -Array.getElem?_eq_getElem, -Int.natCast_add, b1, ek, e0]
          refine remainder_ok e0 h1 h2 ?_
          simp [-getElem?_pos, -Array.getElem?_eq_getElem, -Int.natCast_add, b1]
          refine remainder_ok e0 h1 h2 ?_
          simp [-getElem?_pos, -Array.getElem?_eq_getElem, -Int.natCast_add, add_spot, and_assoc, Br_dec]
          rw [cmp_by1] at hd
          refine ⟨fun h => ?_, fun h => ?_⟩
          · rw [if_neg h] at hd; exact compared_ok hd
          · rw [if_pos h] at hd; exact compared_ok hd
      · have e3' : ¬ ((kd : Int) = 3) := by omega
        rw [if_neg (fun h => e3 h.1)] at hK1
        simp [-getElem?_pos, -Array.getElem?_eq_getElem, -Int.natCast_add, b1, ek, e2', e3']
        exact compared_ok (hK1 w1 Frm.refl)
  nilC := by intro K1; simp [cmpV]
  iface := ⟨_, _, rfl⟩
end Go.Proofs.YtodjijfblgnfmaaGreatDoor.I
end
section
namespace Go.Vc
variable {S : Sig} {all rest : List Oper} {o : Oper} {e : Env} {k : Known} {w : World} {K : KE} {Kp : KP}
def plain : Op → Bool
  | .move _ | .assign _ | .pick .. => false
  | _ => true
theorem ops_op {x : VOp} (hg : o.guard = none) (hp : plain o.op = true) (hx : toV (evalE e) o.type o.op = some x)
    (h : S.op x w (fun v w' => opsVC S all rest (put e o.dst v) (putK k o.dst none) w' K Kp) Kp) : opsVC S all (o :: rest) e k w K Kp := by
  simp only [opsVC, hg]
  unfold opVC
  split
  · rename_i h1; rw [h1] at hp; cases hp
  · rename_i h1; rw [h1] at hp; cases hp
  · rename_i h1; rw [h1] at hp; cases hp
  · rw [hx]; exact h
theorem ops_pick {c x y : Operand} {b : Bool} (hg : o.guard = none) (hp : o.op = .pick c x y) (hk : kn k c = none) (hb : evalE e c = .bool b)
    (h : opsVC S all rest (put e o.dst (evalE e (bif b then x else y))) (putK k o.dst (kn k (bif b then x else y))) w K Kp) : opsVC S all (o :: rest) e k w K Kp := by
  simp only [opsVC, hg]
  unfold opVC
  rw [hp]
  simp only [hk]
  refine ⟨b, hb, fun ht => ?_, fun hf => ?_⟩
  · subst ht; exact h
  · subst hf; exact h
theorem ops_move {x : Operand} (hg : o.guard = none) (hp : o.op = .move x ∨ o.op = .assign x) (h : opsVC S all rest (put e o.dst (evalE e x)) (putK k o.dst (kn k x)) w K Kp) : opsVC S all (o :: rest) e k w K Kp := by
  simp only [opsVC, hg]
  unfold opVC
  rcases hp with h1 | h1 <;> rw [h1] <;> exact h
theorem ite_no {c : Prop} [Decidable c] {A B : Prop} (hc : ¬ c) (h : B) : if c then A else B := by rw [if_neg hc]; exact h
theorem ite_yes {c : Prop} [Decidable c] {A B : Prop} (hc : c) (h : A) : if c then A else B := by rw [if_pos hc]; exact h
theorem ops_end {Q : QE} (h : K e k w) : opsVC S all [] e k w (thenQ K Q .normal) Kp := h
end Go.Vc
namespace Go.Vc
variable {S : Sig} {e : Env} {k : Known} {w : World} {Q : QE} {Kp : KP} {a b : Code}
theorem fVC_of {fn : Func} {c : Code} {args : List Value} {K : Value → World → Prop} (h : fn.body = some c)
    (hc : codeVC S [] [] c (nthD args) (fun _ => none) w (fun ex e _ w => match ex with
      | .normal => resVC S fn.results.toList e w K
      | .ret => resVC S fn.results.toList e w K
      | _ => False) Kp) : fVC S [] [] fn args w K Kp := by
  unfold fVC
  rw [h]; exact hc
theorem code_seq (h : codeVC S [] [] a e k w (thenQ (fun e k w => codeVC S [] [] b e k w Q Kp) Q) Kp) : codeVC S [] [] (.seq a b) e k w Q Kp := by
  unfold codeVC
  have : (firstRegion b).bind (lk · []) = none := by cases firstRegion b <;> rfl
  rw [this]; exact h
theorem code_region {id : Nat} {ops : Array Oper} (h : opsVC S ops.toList ops.toList e k w (Q .normal) Kp) : codeVC S [] [] (.region id ops false) e k w Q Kp := by
  unfold codeVC; exact h
theorem code_block {id : Nat} (h : codeVC S [] [] a e k w (blockQ id Q) Kp) : codeVC S [] [] (.block id a) e k w Q Kp := by
  unfold codeVC; exact h
theorem code_cond {c : Operand} {t : Bool} (hb : evalE e c = .bool t) (hk : kn k c = none ∨ kn k c = some (some t)) (h : codeVC S [] [] (bif t then a else b) e k w Q Kp) : codeVC S [] [] (.cond c a b) e k w Q Kp := by
  unfold codeVC
  rcases hk with hk | hk
  · rw [hk]
    refine ⟨t, hb, fun ht => ?_, fun hf => ?_⟩
    · subst ht; exact h
    · subst hf; exact h
  · rw [hk]
    cases t <;> exact h
theorem code_ret (h : Q .ret e k w) : codeVC S [] [] .ret e k w Q Kp := h
end Go.Vc
end
section
namespace Go.Vc
variable {P : Program} {w : World} {K : Value → World → Prop} {Kp : KP} {t u : TypeId}
theorem toList_inj {a b : ByteArray} : a.toList = b.toList ↔ a = b := by
  rw [ByteArray.toList_eq, ByteArray.toList_eq]
  constructor
  · intro h
    have : a.data = b.data := Array.toList_inj.1 h
    cases a; cases b; simp_all
  · rintro rfl; rfl
end Go.Vc
end
section
namespace Go.Proofs.YtodjijfblgnfmaaGreatDoor.I
open Go.Vc Go.Proofs Go.Proofs.YtodjijfblgnfmaaGreatDoor Go.Vc.Bt
variable {w w' : World} {K : KV} {Kp : KP}
theorem defCmp_ok {a b : Int} (hK : K (.int .i64 (Bt.cmp ltInt a b)) w) : Calls Tryz.prog 292 #[.int .i64 a, .int .i64 b] w (ret K Kp) := by
  refine vc292_calls ?_
  delta vc292
  simp only [op_lss, op_gtr, Br_dec]
  unfold Bt.cmp ltInt at hK
  refine ⟨fun h => ?_, fun h => ⟨fun h' => ?_, fun h' => ?_⟩⟩
  · rw [if_pos (decide_eq_true h)] at hK; exact hK
  · rw [if_neg (by simpa using h), if_pos (by simpa using h')] at hK; exact hK
  · rw [if_neg (by simpa using h), if_neg (by simpa using h')] at hK; exact hK
def dfltV (p : Addr) : Value := .iface 351 (.pointer (some p))
theorem dfltV_ok (p : Addr) : IsC (dfltV p) (ordI 0 0) where
  lin := ordI_lin
  cmp := fun {a b w K Kp} hK => by
    simp only [dfltV, inv_351_300]
    refine vc300_calls ?_
    simp only [vc300]
    simp [-getElem?_pos, -Array.getElem?_eq_getElem, -Int.natCast_add, ek]
    exact defCmp_ok (hK w Frm.refl)
  nilC := by intro K1; simp [dfltV]
  iface := ⟨_, _, rfl⟩
private theorem mixed : Tryz.prog.follows .mixedOrders = true := by kernel_rfl
set_option maxHeartbeats 4000000 in
theorem newCmp_ok {k : Ky} (hK : ∀ p w', Frm (fun _ => False) w w' → K (dfltV p) w') : Calls Tryz.prog 190 #[ek k] w (ret K Kp) := by
  refine fVC_sound (args := [ek k]) (aL := []) (aJ := []) nice_le mixed Tryz.func190 (by kernel_rfl) ?_
  refine fVC_of (c := _) rfl ?_
  refine code_seq ?_
  refine code_region ?_
  refine ops_move rfl (.inr rfl) ?_
  refine ops_end ?_
  refine code_seq ?_
  refine code_seq ?_
  refine code_region ?_
  refine ops_move rfl (.inl rfl) ?_
  refine ops_op rfl rfl rfl ?_
  refine Eq.mpr (op_mki_2 (v := ek k)) ?_
  refine ops_end ?_
  refine code_block ?_
  refine code_seq ?_
  refine code_region ?_
  refine ops_op rfl rfl rfl ?_
  refine Eq.mpr (op_ta_20_3 (u := 2) (v := ek k)) ?_
  refine ite_no (by decide) ?_
  refine ops_op rfl rfl rfl ?_
  refine Eq.mpr op_ext2_1 ?_
  refine ops_op rfl rfl rfl ?_
  refine Eq.mpr op_ext2_0 ?_
  refine ops_op rfl rfl rfl ?_
  refine Eq.mpr (op_ta_20_337 (u := 2) (v := ek k)) ?_
  refine ite_no (by decide) ?_
  refine ops_op rfl rfl rfl ?_
  refine Eq.mpr op_ext2_1 ?_
  refine ops_op rfl rfl rfl ?_
  refine Eq.mpr op_ext2_0 ?_
  refine ops_op rfl rfl rfl ?_
  refine Eq.mpr (op_ta_20_338 (u := 2) (v := ek k)) ?_
  refine ite_no (by decide) ?_
  refine ops_op rfl rfl rfl ?_
  refine Eq.mpr op_ext2_1 ?_
  refine ops_op rfl rfl rfl ?_
  refine Eq.mpr op_ext2_0 ?_
  refine ops_op rfl rfl rfl ?_
  refine Eq.mpr (op_ta_20_21 (u := 2) (v := ek k)) ?_
  refine ite_no (by decide) ?_
  refine ops_op rfl rfl rfl ?_
  refine Eq.mpr op_ext2_1 ?_
  refine ops_op rfl rfl rfl ?_
  refine Eq.mpr op_ext2_0 ?_
  refine ops_op rfl rfl rfl ?_
  refine Eq.mpr (op_ta_20_2 (u := 2) (v := ek k)) ?_
  refine ite_yes rfl ?_
  refine ops_op rfl rfl rfl ?_
  refine Eq.mpr op_ext2_1 ?_
  refine ops_op rfl rfl rfl ?_
  refine Eq.mpr op_ext2_0 ?_
  refine ops_op rfl rfl rfl ?_
  refine Eq.mpr (op_ta_20_339 (u := 2) (v := ek k)) ?_
  refine ite_no (by decide) ?_
  refine ops_op rfl rfl rfl ?_
  refine Eq.mpr op_ext2_1 ?_
  refine ops_op rfl rfl rfl ?_
  refine Eq.mpr op_ext2_0 ?_
  refine ops_op rfl rfl rfl ?_
  refine Eq.mpr (op_ta_20_5 (u := 2) (v := ek k)) ?_
  refine ite_no (by decide) ?_
  refine ops_op rfl rfl rfl ?_
  refine Eq.mpr op_ext2_1 ?_
  refine ops_op rfl rfl rfl ?_
  refine Eq.mpr op_ext2_0 ?_
  refine ops_op rfl rfl rfl ?_
  refine Eq.mpr (op_ta_20_43 (u := 2) (v := ek k)) ?_
  refine ite_no (by decide) ?_
  refine ops_op rfl rfl rfl ?_
  refine Eq.mpr op_ext2_1 ?_
  refine ops_op rfl rfl rfl ?_
  refine Eq.mpr op_ext2_0 ?_
  refine ops_op rfl rfl rfl ?_
  refine Eq.mpr (op_ta_20_340 (u := 2) (v := ek k)) ?_
  refine ite_no (by decide) ?_
  refine ops_op rfl rfl rfl ?_
  refine Eq.mpr op_ext2_1 ?_
  refine ops_op rfl rfl rfl ?_
  refine Eq.mpr op_ext2_0 ?_
  refine ops_op rfl rfl rfl ?_
  refine Eq.mpr (op_ta_20_227 (u := 2) (v := ek k)) ?_
  refine ite_no (by decide) ?_
  refine ops_op rfl rfl rfl ?_
  refine Eq.mpr op_ext2_1 ?_
  refine ops_op rfl rfl rfl ?_
  refine Eq.mpr op_ext2_0 ?_
  refine ops_op rfl rfl rfl ?_
  refine Eq.mpr (op_ta_20_12 (u := 2) (v := ek k)) ?_
  refine ite_no (by decide) ?_
  refine ops_op rfl rfl rfl ?_
  refine Eq.mpr op_ext2_1 ?_
  refine ops_op rfl rfl rfl ?_
  refine Eq.mpr op_ext2_0 ?_
  refine ops_op rfl rfl rfl ?_
  refine Eq.mpr (op_ta_20_9 (u := 2) (v := ek k)) ?_
  refine ite_no (by decide) ?_
  refine ops_op rfl rfl rfl ?_
  refine Eq.mpr op_ext2_1 ?_
  refine ops_op rfl rfl rfl ?_
  refine Eq.mpr op_ext2_0 ?_
  refine ops_pick (b := false) rfl rfl rfl rfl ?_
  refine ops_pick (b := false) rfl rfl rfl rfl ?_
  refine ops_pick (b := false) rfl rfl rfl rfl ?_
  refine ops_pick (b := false) rfl rfl rfl rfl ?_
  refine ops_pick (b := false) rfl rfl rfl rfl ?_
  refine ops_pick (b := false) rfl rfl rfl rfl ?_
  refine ops_pick (b := true) rfl rfl rfl rfl ?_
  refine ops_pick (b := false) rfl rfl rfl rfl ?_
  refine ops_pick (b := false) rfl rfl rfl rfl ?_
  refine ops_pick (b := false) rfl rfl rfl rfl ?_
  refine ops_pick (b := false) rfl rfl rfl rfl ?_
  refine ops_end ?_
  refine code_cond (t := true) rfl (.inr rfl) ?_
  refine code_seq ?_
  refine code_region ?_
  refine ops_op rfl rfl rfl ?_
  refine Eq.mpr (op_build (v := .agg #[]) (by kernel_rfl)) ?_
  refine ops_op rfl rfl rfl ?_
  refine op_box_ok fun w1 k1 z1 b1 => ?_
  refine ops_op rfl rfl rfl ?_
  refine Eq.mpr (op_mki_351 (v := ptr w.heap.size)) ?_
  refine ops_move rfl (.inr rfl) ?_
  refine ops_end ?_
  refine code_ret ?_
  exact hK _ w1 k1
theorem dflt_ok : Dflt (ordI 0 0) := fun hK => newCmp_ok fun p w' hf => hK w' _ hf (dfltV_ok p)
end Go.Proofs.YtodjijfblgnfmaaGreatDoor.I
end
section
namespace Go.Proofs.YtodjijfblgnfmaaGreatDoor
open Go.Vc Go.Proofs
variable {w : World} {K : KV} {Kp : KP} {K1 : Value → Prop}
@[simp] theorem op_fa_218_0 {p : Addr} : nP.op (.fieldAddr 218 (.pointer (some p)) 0) w K Kp = K (.pointer (some (p.add 0))) w := op_fa (k := .one) (by kernel_rfl)
@[simp] theorem pur_fa_218_0 {p : Addr} : nP.pur (.fieldAddr 218 (.pointer (some p)) 0) K1 = K1 (.pointer (some (p.add 0))) := pur_fa (k := .one) (by kernel_rfl)
@[simp] theorem op_ld_135 {p : Addr} : nP.op (.load 135 (.pointer (some p))) w K Kp = ∃ cs e fz, w.heap[p.block]? = some (.cells cs e fz) ∧ p.spot = none ∧ ∃ v, cs[p.off]? = some v ∧ K v w := op_ld (by kernel_rfl)
@[simp] theorem ld_ld_135 {p : Addr} : nP.ld (.load 135 (.pointer (some p))) w K1 = ∃ cs e fz, w.heap[p.block]? = some (.cells cs e fz) ∧ p.spot = none ∧ ∃ v, cs[p.off]? = some v ∧ K1 v := ld_ld (by kernel_rfl)
@[simp] theorem same_ld_135 {p : Addr} {v : Value} : nP.same (.load 135 (.pointer (some p))) v w = ∃ cs e fz, w.heap[p.block]? = some (.cells cs e fz) ∧ p.spot = none ∧ cs[p.off]? = some v := same_ld (by kernel_rfl)
@[simp] theorem op_fa_218_2 {p : Addr} : nP.op (.fieldAddr 218 (.pointer (some p)) 2) w K Kp = K (.pointer (some (p.add 65))) w := op_fa (k := .one) (by kernel_rfl)
@[simp] theorem pur_fa_218_2 {p : Addr} : nP.pur (.fieldAddr 218 (.pointer (some p)) 2) K1 = K1 (.pointer (some (p.add 65))) := pur_fa (k := .one) (by kernel_rfl)
theorem build_215_0 {x0 : Value} (h0 : x0.oneCell' = true) : buildV Tryz.prog 215 [(0, x0)] = some (.agg (#[x0, Value.int IntKind.i64 0])) := by
  have e : buildV Tryz.prog 215 [(0, x0)] = (Instr.fill ((#[(0, 1), (1, 1)] : Array (Nat × Nat))[·]?) (#[Value.nilIface, Value.int IntKind.i64 0]) [(0, x0)]).map .agg := by kernel_rfl
  rw [e]; simp [Instr.fill, cells_of_one h0]
@[simp] theorem op_build_215_0 {x0 : Value} (h0 : x0.oneCell' = true) : nP.op (.build 215 [(0, x0)]) w K Kp = K (.agg (#[x0, Value.int IntKind.i64 0])) w := op_build (build_215_0 h0)
@[simp] theorem pur_build_215_0 {x0 : Value} (h0 : x0.oneCell' = true) : nP.pur (.build 215 [(0, x0)]) K1 = K1 (.agg (#[x0, Value.int IntKind.i64 0])) := pur_build (build_215_0 h0)
@[simp] theorem op_fa_218_1 {p : Addr} : nP.op (.fieldAddr 218 (.pointer (some p)) 1) w K Kp = K (.pointer (some (p.add 1))) w := op_fa (k := (.agg 64)) (by kernel_rfl)
@[simp] theorem pur_fa_218_1 {p : Addr} : nP.pur (.fieldAddr 218 (.pointer (some p)) 1) K1 = K1 (.pointer (some (p.add 1))) := pur_fa (k := (.agg 64)) (by kernel_rfl)
@[simp] theorem op_ix_216 {p : Addr} {k : IntKind} {j : Int} : nP.op (.indexAddr 216 (.pointer (some p)) (.int k j)) w K Kp = ((0 ≤ j ∧ j < 32) ∧ K (.pointer (some (p.add (j.toNat * 2)))) w) := op_ix_arr (by kernel_rfl)
@[simp] theorem pur_ix_216 {p : Addr} {k : IntKind} {j : Int} : nP.pur (.indexAddr 216 (.pointer (some p)) (.int k j)) K1 = ((0 ≤ j ∧ j < 32) ∧ K1 (.pointer (some (p.add (j.toNat * 2))))) := pur_ix_arr (by kernel_rfl)
@[simp] theorem call_178 {args : List Value} : nP.call (.fn 178) args w K Kp = Calls Tryz.prog 178 args.toArray w (ret K Kp) := call_fn (by kernel_rfl)
@[simp] theorem op_fa_215_1 {p : Addr} : nP.op (.fieldAddr 215 (.pointer (some p)) 1) w K Kp = K (.pointer (some (p.add 1))) w := op_fa (k := .one) (by kernel_rfl)
@[simp] theorem pur_fa_215_1 {p : Addr} : nP.pur (.fieldAddr 215 (.pointer (some p)) 1) K1 = K1 (.pointer (some (p.add 1))) := pur_fa (k := .one) (by kernel_rfl)
@[simp] theorem op_fa_215_0 {p : Addr} : nP.op (.fieldAddr 215 (.pointer (some p)) 0) w K Kp = K (.pointer (some (p.add 0))) w := op_fa (k := .one) (by kernel_rfl)
@[simp] theorem pur_fa_215_0 {p : Addr} : nP.pur (.fieldAddr 215 (.pointer (some p)) 0) K1 = K1 (.pointer (some (p.add 0))) := pur_fa (k := .one) (by kernel_rfl)
@[simp] theorem op_ta_208_279 {u : TypeId} {v : Value} : nP.op (.tassert (.iface u v) 208 279 true) w K Kp = if u = 279 then K (.tuple #[v, .bool true]) w else K (.tuple #[(Value.pointer none), .bool false]) w := op_tassert_ok (by kernel_rfl) (by kernel_rfl) (by kernel_rfl)
@[simp] theorem op_tan_208_279 : nP.op (.tassert .nilIface 208 279 true) w K Kp = K (.tuple #[(Value.pointer none), .bool false]) w := op_tassert_ok_nil (by kernel_rfl) (by kernel_rfl) (by kernel_rfl)
@[simp] theorem op_ta_208_220 {u : TypeId} {v : Value} : nP.op (.tassert (.iface u v) 208 220 true) w K Kp = if u = 220 then K (.tuple #[v, .bool true]) w else K (.tuple #[(Value.pointer none), .bool false]) w := op_tassert_ok (by kernel_rfl) (by kernel_rfl) (by kernel_rfl)
@[simp] theorem op_tan_208_220 : nP.op (.tassert .nilIface 208 220 true) w K Kp = K (.tuple #[(Value.pointer none), .bool false]) w := op_tassert_ok_nil (by kernel_rfl) (by kernel_rfl) (by kernel_rfl)
@[simp] theorem call_87 {args : List Value} : nP.call (.fn 87) args w K Kp = Calls Tryz.prog 87 args.toArray w (ret K Kp) := call_fn (by kernel_rfl)
@[simp] theorem op_tay_208_220 {v : Value} : nP.op (.tassert (.iface 220 v) 208 220 false) w K Kp = K v w := op_tassert_yes (by kernel_rfl) (by kernel_rfl)
@[simp] theorem pur_tay_208_220 {v : Value} : nP.pur (.tassert (.iface 220 v) 208 220 false) K1 = K1 v := pur_tassert_yes (by kernel_rfl) (by kernel_rfl)
@[simp] theorem call_180 {args : List Value} : nP.call (.fn 180) args w K Kp = Calls Tryz.prog 180 args.toArray w (ret K Kp) := call_fn (by kernel_rfl)
@[simp] theorem inv_200_235 {v : Value} {args : List Value} : nP.call (.inv (.iface 200 v) "pub-bracken/pub/immutable.indexOf") args w K Kp = Calls Tryz.prog 235 (v :: args).toArray w (ret K Kp) := call_inv (fun _ => by kernel_rfl) (by kernel_rfl)
@[simp] theorem inv_220_247 {v : Value} {args : List Value} : nP.call (.inv (.iface 220 v) "pub-bracken/pub/immutable.indexOf") args w K Kp = Calls Tryz.prog 247 (v :: args).toArray w (ret K Kp) := call_inv (fun _ => by kernel_rfl) (by kernel_rfl)
@[simp] theorem inv_262_253 {v : Value} {args : List Value} : nP.call (.inv (.iface 262 v) "pub-bracken/pub/immutable.indexOf") args w K Kp = Calls Tryz.prog 253 (v :: args).toArray w (ret K Kp) := call_inv (fun _ => by kernel_rfl) (by kernel_rfl)
@[simp] theorem inv_279_259 {v : Value} {args : List Value} : nP.call (.inv (.iface 279 v) "pub-bracken/pub/immutable.indexOf") args w K Kp = Calls Tryz.prog 259 (v :: args).toArray w (ret K Kp) := call_inv (fun _ => by kernel_rfl) (by kernel_rfl)
@[simp] theorem inv_292_265 {v : Value} {args : List Value} : nP.call (.inv (.iface 292 v) "pub-bracken/pub/immutable.indexOf") args w K Kp = Calls Tryz.prog 265 (v :: args).toArray w (ret K Kp) := call_inv (fun _ => by kernel_rfl) (by kernel_rfl)
@[simp] theorem inv_300_271 {v : Value} {args : List Value} : nP.call (.inv (.iface 300 v) "pub-bracken/pub/immutable.indexOf") args w K Kp = Calls Tryz.prog 271 (v :: args).toArray w (ret K Kp) := call_inv (fun _ => by kernel_rfl) (by kernel_rfl)
@[simp] theorem inv_316_277 {v : Value} {args : List Value} : nP.call (.inv (.iface 316 v) "pub-bracken/pub/immutable.indexOf") args w K Kp = Calls Tryz.prog 277 (v :: args).toArray w (ret K Kp) := call_inv (fun _ => by kernel_rfl) (by kernel_rfl)
@[simp] theorem inv_324_283 {v : Value} {args : List Value} : nP.call (.inv (.iface 324 v) "pub-bracken/pub/immutable.indexOf") args w K Kp = Calls Tryz.prog 283 (v :: args).toArray w (ret K Kp) := call_inv (fun _ => by kernel_rfl) (by kernel_rfl)
@[simp] theorem op_fa_198_0 {p : Addr} : nP.op (.fieldAddr 198 (.pointer (some p)) 0) w K Kp = K (.pointer (some (p.add 0))) w := op_fa (k := .one) (by kernel_rfl)
@[simp] theorem pur_fa_198_0 {p : Addr} : nP.pur (.fieldAddr 198 (.pointer (some p)) 0) K1 = K1 (.pointer (some (p.add 0))) := pur_fa (k := .one) (by kernel_rfl)
@[simp] theorem op_ld_118 {p : Addr} : nP.op (.load 118 (.pointer (some p))) w K Kp = ∃ cs e fz, w.heap[p.block]? = some (.cells cs e fz) ∧ p.spot = none ∧ ∃ v, cs[p.off]? = some v ∧ K v w := op_ld (by kernel_rfl)
@[simp] theorem ld_ld_118 {p : Addr} : nP.ld (.load 118 (.pointer (some p))) w K1 = ∃ cs e fz, w.heap[p.block]? = some (.cells cs e fz) ∧ p.spot = none ∧ ∃ v, cs[p.off]? = some v ∧ K1 v := ld_ld (by kernel_rfl)
@[simp] theorem same_ld_118 {p : Addr} {v : Value} : nP.same (.load 118 (.pointer (some p))) v w = ∃ cs e fz, w.heap[p.block]? = some (.cells cs e fz) ∧ p.spot = none ∧ cs[p.off]? = some v := same_ld (by kernel_rfl)
@[simp] theorem op_fa_198_2 {p : Addr} : nP.op (.fieldAddr 198 (.pointer (some p)) 2) w K Kp = K (.pointer (some (p.add 65))) w := op_fa (k := .one) (by kernel_rfl)
@[simp] theorem pur_fa_198_2 {p : Addr} : nP.pur (.fieldAddr 198 (.pointer (some p)) 2) K1 = K1 (.pointer (some (p.add 65))) := pur_fa (k := .one) (by kernel_rfl)
theorem build_195_0 {x0 : Value} (h0 : x0.oneCell' = true) : buildV Tryz.prog 195 [(0, x0)] = some (.agg (#[x0, Value.int IntKind.i64 0])) := by
  have e : buildV Tryz.prog 195 [(0, x0)] = (Instr.fill ((#[(0, 1), (1, 1)] : Array (Nat × Nat))[·]?) (#[Value.nilIface, Value.int IntKind.i64 0]) [(0, x0)]).map .agg := by kernel_rfl
  rw [e]; simp [Instr.fill, cells_of_one h0]
@[simp] theorem op_build_195_0 {x0 : Value} (h0 : x0.oneCell' = true) : nP.op (.build 195 [(0, x0)]) w K Kp = K (.agg (#[x0, Value.int IntKind.i64 0])) w := op_build (build_195_0 h0)
@[simp] theorem pur_build_195_0 {x0 : Value} (h0 : x0.oneCell' = true) : nP.pur (.build 195 [(0, x0)]) K1 = K1 (.agg (#[x0, Value.int IntKind.i64 0])) := pur_build (build_195_0 h0)
@[simp] theorem op_fa_198_1 {p : Addr} : nP.op (.fieldAddr 198 (.pointer (some p)) 1) w K Kp = K (.pointer (some (p.add 1))) w := op_fa (k := (.agg 64)) (by kernel_rfl)
@[simp] theorem pur_fa_198_1 {p : Addr} : nP.pur (.fieldAddr 198 (.pointer (some p)) 1) K1 = K1 (.pointer (some (p.add 1))) := pur_fa (k := (.agg 64)) (by kernel_rfl)
@[simp] theorem op_ix_196 {p : Addr} {k : IntKind} {j : Int} : nP.op (.indexAddr 196 (.pointer (some p)) (.int k j)) w K Kp = ((0 ≤ j ∧ j < 32) ∧ K (.pointer (some (p.add (j.toNat * 2)))) w) := op_ix_arr (by kernel_rfl)
@[simp] theorem pur_ix_196 {p : Addr} {k : IntKind} {j : Int} : nP.pur (.indexAddr 196 (.pointer (some p)) (.int k j)) K1 = ((0 ≤ j ∧ j < 32) ∧ K1 (.pointer (some (p.add (j.toNat * 2))))) := pur_ix_arr (by kernel_rfl)
@[simp] theorem call_173 {args : List Value} : nP.call (.fn 173) args w K Kp = Calls Tryz.prog 173 args.toArray w (ret K Kp) := call_fn (by kernel_rfl)
@[simp] theorem op_fa_195_1 {p : Addr} : nP.op (.fieldAddr 195 (.pointer (some p)) 1) w K Kp = K (.pointer (some (p.add 1))) w := op_fa (k := .one) (by kernel_rfl)
@[simp] theorem pur_fa_195_1 {p : Addr} : nP.pur (.fieldAddr 195 (.pointer (some p)) 1) K1 = K1 (.pointer (some (p.add 1))) := pur_fa (k := .one) (by kernel_rfl)
@[simp] theorem op_fa_195_0 {p : Addr} : nP.op (.fieldAddr 195 (.pointer (some p)) 0) w K Kp = K (.pointer (some (p.add 0))) w := op_fa (k := .one) (by kernel_rfl)
@[simp] theorem pur_fa_195_0 {p : Addr} : nP.pur (.fieldAddr 195 (.pointer (some p)) 0) K1 = K1 (.pointer (some (p.add 0))) := pur_fa (k := .one) (by kernel_rfl)
@[simp] theorem op_ta_188_262 {u : TypeId} {v : Value} : nP.op (.tassert (.iface u v) 188 262 true) w K Kp = if u = 262 then K (.tuple #[v, .bool true]) w else K (.tuple #[(Value.pointer none), .bool false]) w := op_tassert_ok (by kernel_rfl) (by kernel_rfl) (by kernel_rfl)
@[simp] theorem op_tan_188_262 : nP.op (.tassert .nilIface 188 262 true) w K Kp = K (.tuple #[(Value.pointer none), .bool false]) w := op_tassert_ok_nil (by kernel_rfl) (by kernel_rfl) (by kernel_rfl)
@[simp] theorem op_ta_188_200 {u : TypeId} {v : Value} : nP.op (.tassert (.iface u v) 188 200 true) w K Kp = if u = 200 then K (.tuple #[v, .bool true]) w else K (.tuple #[(Value.pointer none), .bool false]) w := op_tassert_ok (by kernel_rfl) (by kernel_rfl) (by kernel_rfl)
@[simp] theorem op_tan_188_200 : nP.op (.tassert .nilIface 188 200 true) w K Kp = K (.tuple #[(Value.pointer none), .bool false]) w := op_tassert_ok_nil (by kernel_rfl) (by kernel_rfl) (by kernel_rfl)
@[simp] theorem call_73 {args : List Value} : nP.call (.fn 73) args w K Kp = Calls Tryz.prog 73 args.toArray w (ret K Kp) := call_fn (by kernel_rfl)
@[simp] theorem op_tay_188_200 {v : Value} : nP.op (.tassert (.iface 200 v) 188 200 false) w K Kp = K v w := op_tassert_yes (by kernel_rfl) (by kernel_rfl)
@[simp] theorem pur_tay_188_200 {v : Value} : nP.pur (.tassert (.iface 200 v) 188 200 false) K1 = K1 v := pur_tassert_yes (by kernel_rfl) (by kernel_rfl)
@[simp] theorem call_175 {args : List Value} : nP.call (.fn 175) args w K Kp = Calls Tryz.prog 175 args.toArray w (ret K Kp) := call_fn (by kernel_rfl)
end Go.Proofs.YtodjijfblgnfmaaGreatDoor
end
section
namespace Go.Proofs.YtodjijfblgnfmaaGreatDoor
open Go.Vc Go.Proofs
variable {S : Sig} {a0 a1 a2 a3 a4 a5 a6 a7 a8 a9 : Value} {w : World} {K : KV} {Kp : KP}
private theorem follows_BVcJI : Tryz.prog.follows .mixedOrders = true := by kernel_rfl
def vc135 (S : Sig) (a0 : Value) (w : World) (K : KV) (Kp : KP) : Prop :=
 S.op (.nilCheck a0) w (fun v3 w =>
 S.op (.fieldAddr 218 v3 0) w (fun v4 w =>
 S.op (.load 135 v4) w (fun v5 w =>
 S.op (.nilCheck v5) w (fun v6 w =>
 S.op (.fieldAddr 210 v6 1) w (fun v7 w =>
 S.op (.load 208 v7) w (fun v8 w =>
 S.op (.bin .eql 208 false true v8 .nilIface) w (fun v9 w =>
 Br v9 (
 S.op (.nilCheck a0) w (fun v11 w =>
 S.op (.fieldAddr 218 v11 2) w (fun v12 w =>
 S.op (.store 3 v12 (.int .i64 (-1))) w (fun _ w =>
 K (.tuple #[]) w) Kp) Kp) Kp) (
 S.pur (.nilCheck a0) (fun v15 =>
 S.pur (.fieldAddr 218 v15 0) (fun v16 =>
 S.ld (.load 135 v16) w.drew (fun v17 =>
 S.pur (.nilCheck v17) (fun v18 =>
 S.pur (.fieldAddr 210 v18 1) (fun v19 =>
 S.ld (.load 208 v19) w.drew (fun v20 =>
 S.pur (.build 215 [(0, v20)]) (fun v21 =>
 S.pur (.nilCheck a0) (fun v22 =>
 S.pur (.fieldAddr 218 v22 1) (fun v23 =>
 S.pur (.indexAddr 216 v23 (.int .i64 0)) (fun v24 =>
 S.op (.store 215 v24 v21) w.drew (fun _ w =>
 S.op (.nilCheck a0) w (fun v26 w =>
 S.op (.fieldAddr 218 v26 2) w (fun v27 w =>
 S.op (.store 3 v27 (.int .i64 0)) w (fun _ w =>
 S.call (.fn 178) [a0] w (fun v29 w =>
 K (.tuple #[]) w) Kp) Kp) Kp) Kp) Kp)))))))))))) Kp) Kp) Kp) Kp) Kp) Kp) Kp
theorem vc135_eq : vc135 S a0 w K Kp = fVC S [] [] Tryz.f135 [a0] w K Kp := by kernel_rfl
theorem vc135_calls (h : vc135 nP a0 w K Kp) : Calls Tryz.prog 135 #[a0] w (ret K Kp) :=
 fVC_sound (args := [a0]) nice_le follows_BVcJI Tryz.func135 (by kernel_rfl) (Eq.mp vc135_eq h)
def vc178 (S : Sig) (a0 : Value) (w : World) (K : KV) (Kp : KP) : Prop :=
 Lp fun (I0 : World → Prop) (μ0 : World → Nat) => I0 w ∧
 ∀ (wl0 : World) (_ : Nat → Value), I0 wl0 →
 S.pur (.nilCheck a0) (fun v7 =>
 S.pur (.fieldAddr 218 v7 2) (fun v8 =>
 S.ld (.load 3 v8) wl0.drew (fun v9 =>
 S.pur (.nilCheck a0) (fun v10 =>
 S.pur (.fieldAddr 218 v10 1) (fun v11 =>
 S.pur (.indexAddr 216 v11 v9) (fun v12 =>
 S.op (.nilCheck v12) wl0.drew (fun v14 w =>
 S.op (.fieldAddr 215 v14 1) w (fun v15 w =>
 S.op (.store 3 v15 (.int .i64 0)) w (fun _ w =>
 S.op (.nilCheck v12) w (fun v17 w =>
 S.op (.fieldAddr 215 v17 0) w (fun v18 w =>
 S.op (.load 208 v18) w (fun v19 w =>
 S.op (.tassert v19 208 279 true) w (fun v20 w =>
 S.op (.extract v20 1) w (fun v21 w =>
 S.op (.extract v20 0) w (fun v22 w =>
 Br v21 (
 S.pur (.nilCheck a0) (fun v25 =>
 S.pur (.fieldAddr 218 v25 2) (fun v26 =>
 S.ld (.load 3 v26) w.drew (fun v27 =>
 S.pur (.bin .add 3 false true v27 (.int .i64 1)) (fun v28 =>
 S.pur (.nilCheck v22) (fun v30 =>
 S.pur (.fieldAddr 284 v30 0) (fun v31 =>
 S.ld (.load 282 v31) w.drew (fun v32 =>
 S.pur (.nilCheck v12) (fun v34 =>
 S.pur (.fieldAddr 215 v34 1) (fun v35 =>
 S.ld (.load 3 v35) w.drew (fun v36 =>
 S.pur (.indexAddr 282 v32 v36) (fun v37 =>
 S.pur (.fieldAddr 286 v37 1) (fun v38 =>
 S.ld (.load 208 v38) w.drew (fun v39 =>
 S.pur (.build 215 [(0, v39)]) (fun v40 =>
 S.pur (.nilCheck a0) (fun v41 =>
 S.pur (.fieldAddr 218 v41 1) (fun v42 =>
 S.pur (.indexAddr 216 v42 v28) (fun v43 =>
 S.op (.store 215 v43 v40) w.drew (fun _ w =>
 S.op (.nilCheck a0) w (fun v45 w =>
 S.op (.fieldAddr 218 v45 2) w (fun v46 w =>
 S.op (.load 3 v46) w (fun v47 w =>
 S.op (.bin .add 3 false true v47 (.int .i64 1)) w (fun v48 w =>
 S.op (.nilCheck a0) w (fun v49 w =>
 S.op (.fieldAddr 218 v49 2) w (fun v50 w =>
 S.op (.store 3 v50 v48) w (fun _ w =>
 I0 w ∧ μ0 w < μ0 wl0) Kp) Kp) Kp) Kp) Kp) Kp) Kp) Kp)))))))))))))))))) (
 S.op (.tassert v19 208 220 true) w (fun v51 w =>
 S.op (.extract v51 1) w (fun v52 w =>
 S.op (.extract v51 0) w (fun v53 w =>
 Br v52 (
 K (.tuple #[]) w) (
 I0 w ∧ μ0 w < μ0 wl0)) Kp) Kp) Kp)) Kp) Kp) Kp) Kp) Kp) Kp) Kp) Kp) Kp))))))
theorem vc178_eq : vc178 S a0 w K Kp = fVC S [(0, [])] [] Tryz.f178 [a0] w K Kp := by kernel_rfl
theorem vc178_calls (h : vc178 nP a0 w K Kp) : Calls Tryz.prog 178 #[a0] w (ret K Kp) :=
 fVC_sound (args := [a0]) nice_le follows_BVcJI Tryz.func178 (by kernel_rfl) (Eq.mp vc178_eq h)
def vc138 (S : Sig) (a0 : Value) (w : World) (K : KV) (Kp : KP) : Prop :=
 S.call (.fn 87) [a0] w (fun v9 w =>
 Br v9 (
 K (.tuple #[(.int .i64 0), (.int .i64 0), (.bool false)]) w) (
 S.pur (.nilCheck a0) (fun v14 =>
 S.pur (.fieldAddr 218 v14 2) (fun v15 =>
 S.ld (.load 3 v15) w.drew (fun v16 =>
 S.pur (.nilCheck a0) (fun v17 =>
 S.pur (.fieldAddr 218 v17 1) (fun v18 =>
 S.pur (.indexAddr 216 v18 v16) (fun v19 =>
 S.op (.nilCheck v19) w.drew (fun v21 w =>
 S.op (.fieldAddr 215 v21 0) w (fun v22 w =>
 S.op (.load 208 v22) w (fun v23 w =>
 S.op (.tassert v23 208 220 false) w (fun v24 w =>
 S.pur (.nilCheck v24) (fun v26 =>
 S.pur (.fieldAddr 226 v26 0) (fun v27 =>
 S.ld (.load 224 v27) w.drew (fun v28 =>
 S.pur (.nilCheck v19) (fun v30 =>
 S.pur (.fieldAddr 215 v30 1) (fun v31 =>
 S.ld (.load 3 v31) w.drew (fun v32 =>
 S.pur (.indexAddr 224 v28 v32) (fun v33 =>
 S.pur (.nilCheck v33) (fun v35 =>
 S.pur (.fieldAddr 223 v35 0) (fun v36 =>
 S.ld (.load 2 v36) w.drew.drew (fun v37 =>
 S.pur (.nilCheck v33) (fun v39 =>
 S.pur (.fieldAddr 223 v39 1) (fun v40 =>
 S.ld (.load 2 v40) w.drew.drew (fun v41 =>
 S.same (.load 2 v40) v41 w.drew.drew ∧
 S.call (.fn 180) [a0] w.drew.drew (fun v43 w =>
 K (.tuple #[v37, v41, (.bool true)]) w) Kp)))))))))))))) Kp) Kp) Kp) Kp)))))))) Kp
theorem vc138_eq : vc138 S a0 w K Kp = fVC S [] [] Tryz.f138 [a0] w K Kp := by kernel_rfl
theorem vc138_calls (h : vc138 nP a0 w K Kp) : Calls Tryz.prog 138 #[a0] w (ret K Kp) :=
 fVC_sound (args := [a0]) nice_le follows_BVcJI Tryz.func138 (by kernel_rfl) (Eq.mp vc138_eq h)
def vc180 (S : Sig) (a0 : Value) (w : World) (K : KV) (Kp : KP) : Prop :=
 Lp fun (I0 : World → Prop) (μ0 : World → Nat) => I0 w ∧
 ∀ (wl0 : World) (_ : Nat → Value), I0 wl0 →
 S.op (.nilCheck a0) wl0 (fun v6 w =>
 S.op (.fieldAddr 218 v6 2) w (fun v7 w =>
 S.op (.load 3 v7) w (fun v8 w =>
 S.op (.bin .geq 3 false true v8 (.int .i64 0)) w (fun v9 w =>
 Br v9 (
 S.pur (.nilCheck a0) (fun v19 =>
 S.pur (.fieldAddr 218 v19 2) (fun v20 =>
 S.ld (.load 3 v20) w.drew (fun v21 =>
 S.pur (.nilCheck a0) (fun v22 =>
 S.pur (.fieldAddr 218 v22 1) (fun v23 =>
 S.pur (.indexAddr 216 v23 v21) (fun v24 =>
 S.op (.nilCheck v24) w.drew (fun v26 w =>
 S.op (.fieldAddr 215 v26 0) w (fun v27 w =>
 S.op (.load 208 v27) w (fun v28 w =>
 S.op (.tassert v28 208 220 true) w (fun v29 w =>
 S.op (.extract v29 1) w (fun v30 w =>
 S.op (.extract v29 0) w (fun v31 w =>
 Br v30 (
 S.pur (.nilCheck v24) (fun v33 =>
 S.pur (.fieldAddr 215 v33 1) (fun v34 =>
 S.ld (.load 3 v34) w.drew (fun v35 =>
 S.pur (.nilCheck v31) (fun v37 =>
 S.pur (.fieldAddr 226 v37 0) (fun v38 =>
 S.ld (.load 224 v38) w.drew (fun v39 =>
 S.ld (.blt .len [224] 3 [v39]) w.drew (fun v40 =>
 S.pur (.bin .sub 3 false true v40 (.int .i64 1)) (fun v41 =>
 S.pur (.bin .lss 3 false false v35 v41) (fun v42 =>
 Br v42 (
 S.op (.nilCheck v24) w.drew (fun v44 w =>
 S.op (.fieldAddr 215 v44 1) w (fun v45 w =>
 S.op (.load 3 v45) w (fun v46 w =>
 S.op (.bin .add 3 false true v46 (.int .i64 1)) w (fun v47 w =>
 S.op (.nilCheck v24) w (fun v48 w =>
 S.op (.fieldAddr 215 v48 1) w (fun v49 w =>
 S.op (.store 3 v49 v47) w (fun _ w =>
 K (.tuple #[]) w) Kp) Kp) Kp) Kp) Kp) Kp) Kp) (
 S.op (.nilCheck a0) w.drew (fun v11 w =>
 S.op (.fieldAddr 218 v11 2) w (fun v12 w =>
 S.op (.load 3 v12) w (fun v13 w =>
 S.op (.bin .sub 3 false true v13 (.int .i64 1)) w (fun v14 w =>
 S.op (.nilCheck a0) w (fun v15 w =>
 S.op (.fieldAddr 218 v15 2) w (fun v16 w =>
 S.op (.store 3 v16 v14) w (fun _ w =>
 I0 w ∧ μ0 w < μ0 wl0) Kp) Kp) Kp) Kp) Kp) Kp) Kp))))))))))) (
 S.op (.tassert v28 208 279 true) w (fun v50 w =>
 S.op (.extract v50 1) w (fun v51 w =>
 S.op (.extract v50 0) w (fun v52 w =>
 Br v51 (
 S.pur (.nilCheck v24) (fun v54 =>
 S.pur (.fieldAddr 215 v54 1) (fun v55 =>
 S.ld (.load 3 v55) w.drew (fun v56 =>
 S.pur (.nilCheck v52) (fun v58 =>
 S.pur (.fieldAddr 284 v58 0) (fun v59 =>
 S.ld (.load 282 v59) w.drew (fun v60 =>
 S.ld (.blt .len [282] 3 [v60]) w.drew (fun v61 =>
 S.pur (.bin .sub 3 false true v61 (.int .i64 1)) (fun v62 =>
 S.pur (.bin .lss 3 false false v56 v62) (fun v63 =>
 Br v63 (
 S.op (.nilCheck v24) w.drew (fun v65 w =>
 S.op (.fieldAddr 215 v65 1) w (fun v66 w =>
 S.op (.load 3 v66) w (fun v67 w =>
 S.op (.bin .add 3 false true v67 (.int .i64 1)) w (fun v68 w =>
 S.op (.nilCheck v24) w (fun v69 w =>
 S.op (.fieldAddr 215 v69 1) w (fun v70 w =>
 S.op (.store 3 v70 v68) w (fun _ w =>
 S.pur (.nilCheck a0) (fun v73 =>
 S.pur (.fieldAddr 218 v73 2) (fun v74 =>
 S.ld (.load 3 v74) w.drew (fun v75 =>
 S.pur (.bin .add 3 false true v75 (.int .i64 1)) (fun v76 =>
 S.pur (.nilCheck v52) (fun v78 =>
 S.pur (.fieldAddr 284 v78 0) (fun v79 =>
 S.ld (.load 282 v79) w.drew (fun v80 =>
 S.pur (.nilCheck v24) (fun v82 =>
 S.pur (.fieldAddr 215 v82 1) (fun v83 =>
 S.ld (.load 3 v83) w.drew (fun v84 =>
 S.pur (.indexAddr 282 v80 v84) (fun v85 =>
 S.pur (.fieldAddr 286 v85 1) (fun v86 =>
 S.ld (.load 208 v86) w.drew (fun v87 =>
 S.pur (.nilCheck a0) (fun v88 =>
 S.pur (.fieldAddr 218 v88 1) (fun v89 =>
 S.pur (.indexAddr 216 v89 v76) (fun v90 =>
 S.pur (.fieldAddr 215 v90 0) (fun v91 =>
 S.op (.store 208 v91 v87) w.drew (fun _ w =>
 S.op (.nilCheck a0) w (fun v93 w =>
 S.op (.fieldAddr 218 v93 2) w (fun v94 w =>
 S.op (.load 3 v94) w (fun v95 w =>
 S.op (.bin .add 3 false true v95 (.int .i64 1)) w (fun v96 w =>
 S.op (.nilCheck a0) w (fun v97 w =>
 S.op (.fieldAddr 218 v97 2) w (fun v98 w =>
 S.op (.store 3 v98 v96) w (fun _ w =>
 S.call (.fn 178) [a0] w (fun v100 w =>
 K (.tuple #[]) w) Kp) Kp) Kp) Kp) Kp) Kp) Kp) Kp) Kp)))))))))))))))))) Kp) Kp) Kp) Kp) Kp) Kp) Kp) (
 S.op (.nilCheck a0) w.drew (fun v11 w =>
 S.op (.fieldAddr 218 v11 2) w (fun v12 w =>
 S.op (.load 3 v12) w (fun v13 w =>
 S.op (.bin .sub 3 false true v13 (.int .i64 1)) w (fun v14 w =>
 S.op (.nilCheck a0) w (fun v15 w =>
 S.op (.fieldAddr 218 v15 2) w (fun v16 w =>
 S.op (.store 3 v16 v14) w (fun _ w =>
 I0 w ∧ μ0 w < μ0 wl0) Kp) Kp) Kp) Kp) Kp) Kp) Kp))))))))))) (
 S.op (.nilCheck a0) w (fun v11 w =>
 S.op (.fieldAddr 218 v11 2) w (fun v12 w =>
 S.op (.load 3 v12) w (fun v13 w =>
 S.op (.bin .sub 3 false true v13 (.int .i64 1)) w (fun v14 w =>
 S.op (.nilCheck a0) w (fun v15 w =>
 S.op (.fieldAddr 218 v15 2) w (fun v16 w =>
 S.op (.store 3 v16 v14) w (fun _ w =>
 I0 w ∧ μ0 w < μ0 wl0) Kp) Kp) Kp) Kp) Kp) Kp) Kp)) Kp) Kp) Kp)) Kp) Kp) Kp) Kp) Kp) Kp))))))) (
 K (.tuple #[]) w)) Kp) Kp) Kp) Kp
theorem vc180_eq : vc180 S a0 w K Kp = fVC S [(0, [])] [] Tryz.f180 [a0] w K Kp := by kernel_rfl
theorem vc180_calls (h : vc180 nP a0 w K Kp) : Calls Tryz.prog 180 #[a0] w (ret K Kp) :=
 fVC_sound (args := [a0]) nice_le follows_BVcJI Tryz.func180 (by kernel_rfl) (Eq.mp vc180_eq h)
def vc87 (S : Sig) (a0 : Value) (w : World) (K : KV) (Kp : KP) : Prop :=
 S.op (.nilCheck a0) w (fun v4 w =>
 S.op (.fieldAddr 218 v4 2) w (fun v5 w =>
 S.op (.load 3 v5) w (fun v6 w =>
 S.op (.bin .eql 3 false true v6 (.int .i64 (-1))) w (fun v7 w =>
 K v7 w) Kp) Kp) Kp) Kp
theorem vc87_eq : vc87 S a0 w K Kp = fVC S [] [] Tryz.f87 [a0] w K Kp := by kernel_rfl
theorem vc87_calls (h : vc87 nP a0 w K Kp) : Calls Tryz.prog 87 #[a0] w (ret K Kp) :=
 fVC_sound (args := [a0]) nice_le follows_BVcJI Tryz.func87 (by kernel_rfl) (Eq.mp vc87_eq h)
end Go.Proofs.YtodjijfblgnfmaaGreatDoor
end
section
namespace Go.Proofs.YtodjijfblgnfmaaGreatDoor.I
open Go.Vc Go.Proofs Go.Proofs.YtodjijfblgnfmaaGreatDoor Go.Vc.Bt
variable {w w' : World} {v : Value} {K : KV} {Kp : KP} {ib mb d p : Nat} {L : List (Ky × Vl)} {cs cs' : Array Value} {s : Tr}
theorem set_at {cs : Array Value} {i j : Nat} {u : Value} (h : j < cs.size) : (cs.setIfInBounds j u)[i]? = if j = i then some u else cs[i]? := by
  rw [Array.getElem?_setIfInBounds]
  split
  · rename_i e; subst e; simp [h]
  · rfl
structure Fr where
  s : Tr
  v : Value
  i : Nat
def Fr.fm (r : Fr) : Fm Ky Vl := (r.s, r.i)
def fms (up : List Fr) : List (Fm Ky Vl) := up.map Fr.fm
def Stk (w : World) (cs : Array Value) : Nat → List Fr → Prop
  | _, [] => True
  | d, r :: fs => cs[1 + fs.length * 2]? = some r.v ∧ cs[1 + fs.length * 2 + 1]? = some (.int .i64 r.i) ∧ Rep w d r.s r.v ∧ WF d r.s ∧ Stk w cs (d + 1) fs
theorem Stk.off (ho : Off w ib) (hf : Frm (· = ib) w w') : ∀ {fs : List Fr} {d : Nat}, Stk w cs d fs → Stk w' cs d fs
  | [], _, _ => trivial
  | r :: fs, d, h => ⟨h.1, h.2.1, h.2.2.1.off ho hf, h.2.2.2.1, Stk.off ho hf h.2.2.2.2⟩
theorem Stk.still (hf : Frm (fun _ => False) w w') : ∀ {fs : List Fr} {d : Nat}, Stk w cs d fs → Stk w' cs d fs
  | [], _, _ => trivial
  | r :: fs, d, h => ⟨h.1, h.2.1, h.2.2.1.still hf, h.2.2.2.1, Stk.still hf h.2.2.2.2⟩
theorem Stk.cells : ∀ {fs : List Fr} {d : Nat}, Stk w cs d fs → (∀ i, i < 1 + fs.length * 2 → cs'[i]? = cs[i]?) → Stk w cs' d fs
  | [], _, _, _ => trivial
  | r :: fs, d, h, hc => by
    simp only [List.length_cons] at hc
    exact ⟨by rw [hc _ (by omega)]; exact h.1, by rw [hc _ (by omega)]; exact h.2.1, h.2.2.1, h.2.2.2.1, Stk.cells h.2.2.2.2 fun i hi => hc i (by omega)⟩
structure Low (w : World) (ib mb d : Nat) (cs : Array Value) (s : Tr) (v : Value) (up : List Fr) : Prop where
  hb : w.heap[ib]? = some (.cells cs 218 (0, 0))
  sz : cs.size = 66
  m : cs[0]? = some (ptr mb)
  dep : cs[65]? = some (.int .i64 (up.length : Int))
  node : cs[1 + up.length * 2]? = some v
  rep : Rep w d s v
  wf : WF d s
  stk : Stk w cs (d + 1) up
  ab : Above d s (fms up)
  len : d + up.length ≤ 31
def depthOf (w : World) (ib : Nat) : Nat := match w.heap[ib]? with
  | some (.cells cs _ _) => match (cs[65]?).getD undef with
    | .int _ j => (j + 1).toNat
    | _ => 0
  | _ => 0
theorem depthOf_eq {ib : Nat} {d : Int} {cs : Array Value} {e : TypeId} {fz : Nat × Nat} (h : w.heap[ib]? = some (.cells cs e fz)) (hd : cs[65]? = some (.int .i64 d)) : depthOf w ib = (d + 1).toNat := by
  simp only [depthOf, h, hd, Option.getD_some]
def At (w : World) (ib mb : Nat) (L : List (Ky × Vl)) : Option Nat → Prop
  | none => ∃ cs, w.heap[ib]? = some (.cells cs 218 (0, 0)) ∧ cs.size = 66 ∧ cs[0]? = some (ptr mb) ∧ cs[65]? = some (.int .i64 (-1))
  | some p => ∃ (cs : Array Value) (es : List (Ky × Vl)) (v : Value) (up : List Fr) (j : Nat), Low w ib mb 0 cs (.leaf es) v up ∧ cs[1 + up.length * 2 + 1]? = some (.int .i64 (j : Int)) ∧ j < es.length ∧ L = bw 1 (fms up) ++ (es ++ fw 1 (fms up)) ∧ p = (bw 1 (fms up)).length + j
theorem off_Q (h : w.heap[ib]? = some (.cells cs 218 (0, 0))) : Off w ib := ⟨_, _, _, h, by decide, by decide, by decide, by decide⟩
theorem Low.still {up : List Fr} (h : Low w ib mb d cs s v up) (hf : Frm (fun _ => False) w w') : Low w' ib mb d cs s v up :=
  ⟨hf.get h.hb fun h => h, h.sz, h.m, h.dep, h.node, h.rep.still hf, h.wf, h.stk.still hf, h.ab, h.len⟩
theorem At.still {q : Option Nat} (h : At w ib mb L q) (hf : Frm (fun _ => False) w w') : At w' ib mb L q := by
  match q, h with
  | none, ⟨cs, h1, h2⟩ => exact ⟨cs, hf.get h1 fun h => h, h2⟩
  | some p, ⟨cs, es, v, up, j, h1, h2⟩ => exact ⟨cs, es, v, up, j, h1.still hf, h2⟩
theorem bw_cons {ks : List Tr} {i : Nat} {up : List Fr} : bw (d + 1) (fms (⟨.br ks, v, i⟩ :: up)) = bw (d + 1 + 1) (fms up) ++ (ks.take i).flatMap (toL d) := rfl
theorem fw_cons {ks : List Tr} {i : Nat} {up : List Fr} : fw (d + 1) (fms (⟨.br ks, v, i⟩ :: up)) = (ks.drop (i + 1)).flatMap (toL d) ++ fw (d + 1 + 1) (fms up) := rfl
theorem frame_eq {ks : List Tr} {i : Nat} {up : List Fr} {t : Tr} (hi : ks[i]? = some t) : bw (d + 1) (fms (⟨.br ks, v, i⟩ :: up)) ++ (toL d t ++ fw (d + 1) (fms (⟨.br ks, v, i⟩ :: up))) = bw (d + 1 + 1) (fms up) ++ (toL (d + 1) (.br ks) ++ fw (d + 1 + 1) (fms up)) := by
  obtain ⟨hil, hie⟩ := List.getElem?_eq_some_iff.1 hi
  rw [bw_cons, fw_cons, toL_split hil, hie]
  simp only [List.append_assoc]
theorem first_ok {up : List Fr} (h : Low w ib mb d cs s v up) (hK : ∀ w', Frm (· = ib) w w' → At w' ib mb (bw (d + 1) (fms up) ++ (toL d s ++ fw (d + 1) (fms up))) (some (bw (d + 1) (fms up)).length) → K (.tuple #[]) w') :
    Calls Tryz.prog 178 #[ptr ib] w (ret K Kp) := by
  refine vc178_calls ?_
  delta vc178
  obtain ⟨L, hL⟩ : ∃ L, L = bw (d + 1) (fms up) ++ (toL d s ++ fw (d + 1) (fms up)) := ⟨_, rfl⟩
  obtain ⟨p, hp⟩ : ∃ p, p = (bw (d + 1) (fms up)).length := ⟨_, rfl⟩
  rw [← hL, ← hp] at hK
  obtain ⟨I, hI⟩ : ∃ I : World → Prop, ∀ wl, I wl ↔ ∃ d cs s v up, Low wl ib mb d cs s v up ∧ Frm (· = ib) w wl ∧ L = bw (d + 1) (fms up) ++ (toL d s ++ fw (d + 1) (fms up)) ∧ p = (bw (d + 1) (fms up)).length := ⟨_, fun _ => Iff.rfl⟩
  refine Lp.intro I (fun wl => 40 - depthOf wl ib) ⟨(hI _).2 ⟨d, cs, s, v, up, h, Frm.refl, hL, hp⟩, ?_⟩
  clear hL hp h
  intro wl _ hi
  obtain ⟨d, cs, s, v, up, h, hf, hL, hp⟩ := (hI _).1 hi
  have hu := h.len
  have hd0 := depthOf_eq h.hb h.dep
  have hsz := h.sz
  have hoff := off_Q h.hb
  simp [-getElem?_pos, -Array.getElem?_eq_getElem, -Int.natCast_add, ptr, h.hb, h.dep]
  refine ⟨by omega, ?_⟩
  refine op_store_ok (by kernel_rfl) h.hb (by omega) rfl fun w1 k1 z1 b1 => ?_
  have k1 := Frm.dr k1
  have r1 := h.rep.off hoff k1
  have t1 := h.stk.off hoff k1
  have g1 : ∀ i, (cs.setIfInBounds (1 + up.length * 2 + 1) (.int .i64 0))[i]? = if 1 + up.length * 2 + 1 = i then some (.int .i64 0) else cs[i]? := fun i => set_at (by omega)
  have n1 : (cs.setIfInBounds (1 + up.length * 2 + 1) (.int .i64 0))[1 + up.length * 2]? = some v := by rw [g1, if_neg (by omega)]; exact h.node
  have i1 : (cs.setIfInBounds (1 + up.length * 2 + 1) (.int .i64 0))[1 + up.length * 2 + 1]? = some (.int .i64 0) := by rw [g1, if_pos rfl]
  have d1 : (cs.setIfInBounds (1 + up.length * 2 + 1) (.int .i64 0))[65]? = some (.int .i64 (up.length : Int)) := by rw [g1, if_neg (by omega)]; exact h.dep
  have m1 : (cs.setIfInBounds (1 + up.length * 2 + 1) (.int .i64 0))[0]? = some (ptr mb) := by rw [g1, if_neg (by omega)]; exact h.m
  have z1' : (cs.setIfInBounds (1 + up.length * 2 + 1) (.int .i64 0)).size = 66 := by simp [hsz]
  have st1 : Stk w1 (cs.setIfInBounds (1 + up.length * 2 + 1) (.int .i64 0)) (d + 1) up := t1.cells fun i hi => by rw [g1, if_neg (by omega)]
  generalize hcs : cs.setIfInBounds (1 + up.length * 2 + 1) (.int .i64 0) = c1 at *
  have hwf := h.wf
  have hab := h.ab
  have hf1 : Frm (· = ib) w w1 := hf.trans k1 fun _ h _ => h
  simp [-getElem?_pos, -Array.getElem?_eq_getElem, -Int.natCast_add, b1, n1]
  match d, hwf, r1 with
  | 0, hwf, r1 =>
    obtain ⟨es, rfl, e1, e2⟩ := wf_zero.1 hwf
    have r1' := r1
    obtain ⟨b, g, o, c, rfl, hb, hg⟩ := r1
    simp [-getElem?_pos, -Array.getElem?_eq_getElem, -Int.natCast_add]
    refine hK w1 hf1 ⟨c1, es, _, up, 0, ⟨b1, z1', m1, d1, n1, r1', hwf, st1, hab, hu⟩, i1, by have := List.length_pos_iff.2 e1; omega, hL, by rw [hp]; rfl⟩
  | d + 1, hwf, r1 =>
    obtain ⟨ks, rfl, e1, e2, e3⟩ := wf_succ.1 hwf
    have r1' := r1
    obtain ⟨b, g, o, c, ps, rfl, hb, hps, hg, hc⟩ := r1
    have hl : ps.length = ks.length := by rw [hps, List.length_map]
    rw [← hl] at hb hg
    obtain ⟨cur, hcur, hk⟩ := elCells hg
    have h0 : 0 < ps.length := by rw [hl]; exact List.length_pos_iff.2 e1
    have hk0 := (hk 0 h0).2
    rw [Nat.zero_mul, Nat.add_zero] at hk0
    have hr0 := hc _ (List.getElem_mem h0)
    obtain ⟨uc, pc, hcv⟩ := hr0.iface
    rw [hcv] at hk0
    have ewd : IntKind.i64.wrap ((up.length : Int) + 1) = ((up.length + 1 : Nat) : Int) := by rw [IntKind.wrap_i64]; omega
    simp [-getElem?_pos, -Array.getElem?_eq_getElem, -Int.natCast_add, ptr, b1, d1, i1, hb, hcur, hk0, ewd]
    refine ⟨h0, by omega, ?_⟩
    refine op_storeN_ok (n := 2) (by kernel_rfl) b1 rfl (by omega) (fun u hu => ?_) fun w2 k2 z2 b2 => ?_
    · simp only [List.mem_toArray, List.mem_cons, List.not_mem_nil, or_false] at hu
      rcases hu with rfl | rfl <;> rfl
    · have k2 := Frm.dr k2
      have g2 : ∀ j, (ow c1 (1 + (up.length + 1) * 2) [Value.iface uc pc, .int .i64 0])[j]? = if 1 + (up.length + 1) * 2 ≤ j ∧ j < 1 + (up.length + 1) * 2 + 2 then [Value.iface uc pc, .int .i64 0][j - (1 + (up.length + 1) * 2)]? else c1[j]? := fun j => ow_get (by simp; omega)
      have z2' : (ow c1 (1 + (up.length + 1) * 2) [Value.iface uc pc, .int .i64 0]).size = 66 := by rw [ow_size, z1']
      have d2 : (ow c1 (1 + (up.length + 1) * 2) [Value.iface uc pc, .int .i64 0])[65]? = some (.int .i64 (up.length : Int)) := by rw [g2, if_neg (by omega)]; exact d1
      simp [-getElem?_pos, -Array.getElem?_eq_getElem, -Int.natCast_add, b2, d2, ewd]
      refine op_store_ok (by kernel_rfl) b2 (by rw [ow_size]; omega) rfl fun w3 k3 z3 b3 => ?_
      have g3 : ∀ j, ((ow c1 (1 + (up.length + 1) * 2) [Value.iface uc pc, .int .i64 0]).setIfInBounds 65 (.int .i64 ((up.length + 1 : Nat) : Int)))[j]? = if 65 = j then some (.int .i64 ((up.length + 1 : Nat) : Int)) else (ow c1 (1 + (up.length + 1) * 2) [Value.iface uc pc, .int .i64 0])[j]? := fun j => set_at (by omega)
      have k13 : Frm (· = ib) w1 w3 := k2.trans k3 fun _ h _ => h
      have hm0 : ps[0].1 ∈ ks := by rw [hps]; exact List.mem_map.2 ⟨_, List.getElem_mem h0, rfl⟩
      have hks0 : ks[0]? = some ps[0].1 := by rw [hps, List.getElem?_map, List.getElem?_eq_getElem h0]; rfl
      have off1 := off_Q b1
      rw [hcv] at hr0
      have hst3 : Stk w3 ((ow c1 (1 + (up.length + 1) * 2) [Value.iface uc pc, .int .i64 0]).setIfInBounds 65 (.int .i64 ((up.length + 1 : Nat) : Int))) (d + 1 + 1) up := (st1.off off1 k13).cells fun j hj => by rw [g3, if_neg (by omega), g2, if_neg (by omega)]
      have hlow : Low w3 ib mb d ((ow c1 (1 + (up.length + 1) * 2) [Value.iface uc pc, .int .i64 0]).setIfInBounds 65 (.int .i64 ((up.length + 1 : Nat) : Int))) ps[0].1 (.iface uc pc) (⟨.br ks, .iface 279 (ptr b), 0⟩ :: up) := by
        refine ⟨by simpa using b3, by simp [z2'], ?_, ?_, ?_, hr0.off off1 k13, e3 _ hm0, ⟨?_, ?_, r1'.off off1 k13, hwf, hst3⟩, ⟨hwf, ⟨ks, rfl, hks0⟩, hab⟩, by simp only [List.length_cons]; omega⟩
        · rw [g3, if_neg (by omega), g2, if_neg (by omega)]; exact m1
        · rw [g3, if_pos rfl]; rfl
        · rw [g3, if_neg (by simp only [List.length_cons]; omega), g2, if_pos (by simp only [List.length_cons]; omega)]
          simp
        · rw [g3, if_neg (by omega), g2, if_neg (by omega)]; exact n1
        · rw [g3, if_neg (by omega), g2, if_neg (by omega)]; exact i1
      have hd3 := depthOf_eq hlow.hb hlow.dep
      refine ⟨(hI _).2 ⟨d, _, _, _, _, hlow, hf1.trans k13 fun _ h _ => h, ?_, ?_⟩, ?_⟩
      · rw [hL]; exact (frame_eq hks0).symm
      · rw [hp, bw_cons]; simp [aheadF]
      · rw [hd0, hd3]; simp only [List.length_cons]; omega
end Go.Proofs.YtodjijfblgnfmaaGreatDoor.I
end
section
namespace Go.Proofs.YtodjijfblgnfmaaGreatDoor.I
open Go.Vc Go.Proofs Go.Proofs.YtodjijfblgnfmaaGreatDoor Go.Vc.Bt

end Go.Proofs.YtodjijfblgnfmaaGreatDoor.I
end
section
namespace Go.Proofs.YtodjijfblgnfmaaGreatDoor.I
open Go.Vc Go.Proofs Go.Proofs.YtodjijfblgnfmaaGreatDoor Go.Vc.Bt
variable {w w' : World} {v : Value} {K : KV} {Kp : KP} {ib mb d : Nat} {L : List (Ky × Vl)} {cs : Array Value}
structure Pop (w : World) (ib mb d : Nat) (cs : Array Value) (r : Fr) (up : List Fr) : Prop where
  hb : w.heap[ib]? = some (.cells cs 218 (0, 0))
  sz : cs.size = 66
  m : cs[0]? = some (ptr mb)
  dep : cs[65]? = some (.int .i64 (up.length : Int))
  stk : Stk w cs d (r :: up)
  ab : Above d r.s (fms up)
  len : d + up.length ≤ 31
  inr : r.i < r.s.size ∨ d = 0 ∧ r.i = r.s.size
theorem at_pop {q : Nat} (h : At w ib mb L (some q)) : ∃ cs r up, Pop w ib mb 0 cs r up ∧ L = bw 1 (fms up) ++ (toL 0 r.s ++ fw 1 (fms up)) ∧ q + 1 + (fw 0 (fms (r :: up))).length = L.length := by
  obtain ⟨cs, es, v, up, j, h1, h2, h3, h4, h5⟩ := h
  refine ⟨cs, ⟨.leaf es, v, j⟩, up, ⟨h1.hb, h1.sz, h1.m, h1.dep, ⟨h1.node, h2, h1.rep, h1.wf, h1.stk⟩, h1.ab, h1.len, .inl h3⟩, h4, ?_⟩
  have e : fw 0 (fms (⟨.leaf es, v, j⟩ :: up)) = es.drop (j + 1) ++ fw 1 (fms up) := rfl
  rw [e, h4, h5]
  simp only [List.length_append, List.length_drop]; omega
theorem next_pop {q : Nat} (h : ∃ cs r up, Pop w ib mb 0 cs r up ∧ L = bw 1 (fms up) ++ (toL 0 r.s ++ fw 1 (fms up)) ∧ q + 1 + (fw 0 (fms (r :: up))).length = L.length) (hK : ∀ w', Frm (· = ib) w w' → At w' ib mb L (if q + 1 < L.length then some (q + 1) else none) → K (.tuple #[]) w') :
    Calls Tryz.prog 180 #[ptr ib] w (ret K Kp) := by
  refine vc180_calls ?_
  delta vc180
  obtain ⟨I, hI⟩ : ∃ I : World → Prop, ∀ wl, I wl ↔ Frm (· = ib) w wl ∧ ((∃ d cs r up, Pop wl ib mb d cs r up ∧ L = bw (d + 1) (fms up) ++ (toL d r.s ++ fw (d + 1) (fms up)) ∧ q + 1 + (fw d (fms (r :: up))).length = L.length) ∨ (At wl ib mb L none ∧ q + 1 = L.length)) := ⟨_, fun _ => Iff.rfl⟩
  refine Lp.intro I (fun wl => depthOf wl ib) ⟨(hI _).2 ⟨Frm.refl, .inl ?_⟩, ?_⟩
  · obtain ⟨cs, r, up, h1, h2, h3⟩ := h
    exact ⟨0, cs, r, up, h1, h2, h3⟩
  intro wl _ hi
  obtain ⟨hf, hi | ⟨⟨cs, h1, h2, h3, h4⟩, hq⟩⟩ := (hI _).1 hi
  · obtain ⟨d, cs, r, up, h1, hL, hq⟩ := hi
    have hd0 := depthOf_eq h1.hb h1.dep
    have hsz := h1.sz
    have hlen := h1.len
    obtain ⟨k1, k2, k3, k4, k5⟩ := h1.stk
    have hab := h1.ab
    have hinr := h1.inr
    have hoff := off_Q h1.hb
    have hpop : ∀ w1, Frm (· = ib) wl w1 → w1.heap[ib]? = some (.cells (cs.setIfInBounds 65 (.int .i64 ((up.length : Int) - 1))) 218 (0, 0)) → fw d (fms (r :: up)) = fw (d + 1) (fms up) → I w1 ∧ depthOf w1 ib < depthOf wl ib := by
      intro w1 k1' b1 he
      have g1 : ∀ i, (cs.setIfInBounds 65 (.int .i64 ((up.length : Int) - 1)))[i]? = if 65 = i then some (.int .i64 ((up.length : Int) - 1)) else cs[i]? := fun i => set_at (by omega)
      have hd1 := depthOf_eq b1 (by rw [g1, if_pos rfl])
      have hf1 : Frm (· = ib) w w1 := hf.trans k1' fun _ h _ => h
      refine ⟨(hI _).2 ⟨hf1, ?_⟩, by rw [hd1, hd0]; omega⟩
      cases up with
      | nil =>
        refine .inr ⟨⟨_, b1, by simp [hsz], by rw [g1, if_neg (by omega)]; exact h1.m, by rw [g1, if_pos rfl]; rfl⟩, ?_⟩
        rw [he] at hq
        have : (fw (d + 1) (fms ([] : List Fr))).length = 0 := rfl
        omega
      | cons r' up' =>
        obtain ⟨s', v', i'⟩ := r'
        obtain ⟨a1, ⟨ks, a2, a3⟩, a4⟩ := hab
        obtain rfl : s' = .br ks := a2
        obtain ⟨hil, hie⟩ := List.getElem?_eq_some_iff.1 a3
        refine .inl ⟨d + 1, _, ⟨.br ks, v', i'⟩, up', ⟨b1, by simp [hsz], by rw [g1, if_neg (by omega)]; exact h1.m, ?_, (k5.off hoff k1').cells fun j hj => ?_, a4, ?_, .inl hil⟩, ?_, ?_⟩
        · rw [g1, if_pos rfl]; simp
        · simp only [List.length_cons] at hj hlen
          rw [g1, if_neg (by omega)]
        · simp only [List.length_cons] at hlen; omega
        · rw [hL]; exact frame_eq a3
        · rw [← he]; exact hq
    simp [-getElem?_pos, -Array.getElem?_eq_getElem, -Int.natCast_add, ptr, h1.hb, h1.dep, k1]
    refine ⟨by omega, ?_⟩
    have ewm : IntKind.i64.wrap ((up.length : Int) - 1) = (up.length : Int) - 1 := by rw [IntKind.wrap_i64]; omega
    obtain ⟨rs, rv, ri⟩ := r
    match d, k4, k3 with
    | 0, k4, k3 =>
      obtain ⟨es, rfl, e1, e2⟩ := wf_zero.1 k4
      have k3' := k3
      obtain ⟨b, g, o, c, rfl, hb, hg⟩ := k3
      have hri : ri ≤ es.length := by
        rcases hinr with h | ⟨_, h⟩
        · exact Nat.le_of_lt h
        · exact Nat.le_of_eq h
      have h0 : 0 < es.length := List.length_pos_iff.2 e1
      have ewl : IntKind.i64.wrap ((es.length : Int) - 1) = (es.length : Int) - 1 := by rw [IntKind.wrap_i64]; omega
      have ewi : IntKind.i64.wrap ((ri : Int) + 1) = ((ri + 1 : Nat) : Int) := by rw [IntKind.wrap_i64]; omega
      simp [-getElem?_pos, -Array.getElem?_eq_getElem, -Int.natCast_add, ptr, h1.hb, h1.dep, k2, hb, ewl, ewi, ewm]
      refine ⟨fun hlt => ?_, fun hge => ?_⟩
      · refine op_store_ok (by kernel_rfl) h1.hb (by omega) rfl fun w1 p1 z1 b1 => ?_
        have p1 := Frm.dr (Frm.dr p1)
        have g1 : ∀ i, (cs.setIfInBounds (1 + up.length * 2 + 1) (.int .i64 ((ri + 1 : Nat) : Int)))[i]? = if 1 + up.length * 2 + 1 = i then some (.int .i64 ((ri + 1 : Nat) : Int)) else cs[i]? := fun i => set_at (by omega)
        have hz : (bw (0 + 1) (fms up)).length + es.length + (fw (0 + 1) (fms up)).length = L.length := by rw [hL]; simp only [List.length_append, toL_zero]; omega
        have hz2 : q + 1 + (es.length - (ri + 1) + (fw (0 + 1) (fms up)).length) = L.length := by
          rw [← hq]; show _ = q + 1 + (es.drop (ri + 1) ++ fw (0 + 1) (fms up)).length
          rw [List.length_append, List.length_drop]
        refine hK w1 (hf.trans p1 fun _ h _ => h) ?_
        rw [if_pos (by omega)]
        refine ⟨_, es, _, up, ri + 1, ⟨b1, by simp [hsz], ?_, ?_, ?_, k3'.off hoff p1, k4, (k5.off hoff p1).cells fun i hi => by rw [g1, if_neg (by omega)], hab, hlen⟩, by rw [g1, if_pos rfl], by omega, hL, ?_⟩
        · rw [g1, if_neg (by omega)]; exact h1.m
        · rw [g1, if_neg (by omega)]; exact h1.dep
        · rw [g1, if_neg (by omega)]; exact k1
        · show q + 1 = (bw (0 + 1) (fms up)).length + _; omega
      · refine op_store_ok (by kernel_rfl) h1.hb (by omega) rfl fun w1 p1 z1 b1 => ?_
        refine hpop w1 (Frm.dr (Frm.dr p1)) b1 ?_
        have e : fw 0 (fms (⟨.leaf es, .iface 220 (ptr b), ri⟩ :: up)) = es.drop (ri + 1) ++ fw 1 (fms up) := rfl
        rw [e, List.drop_of_length_le (by omega)]; rfl
    | d + 1, k4, k3 =>
      obtain ⟨ks, rfl, e1, e2, e3⟩ := wf_succ.1 k4
      have k3' := k3
      obtain ⟨b, g, o, c, ps, rfl, hb, hps, hg, hc⟩ := k3
      have hl : ps.length = ks.length := by rw [hps, List.length_map]
      rw [← hl] at hb hg
      have hri : ri < ks.length := hinr.resolve_right (by omega)
      have ewl : IntKind.i64.wrap ((ps.length : Int) - 1) = (ps.length : Int) - 1 := by rw [IntKind.wrap_i64]; omega
      have ewi : IntKind.i64.wrap ((ri : Int) + 1) = ((ri + 1 : Nat) : Int) := by rw [IntKind.wrap_i64]; omega
      have ewd : IntKind.i64.wrap ((up.length : Int) + 1) = ((up.length + 1 : Nat) : Int) := by rw [IntKind.wrap_i64]; omega
      simp [-getElem?_pos, -Array.getElem?_eq_getElem, -Int.natCast_add, ptr, h1.hb, h1.dep, k2, hb, ewl, ewi, ewm]
      refine ⟨fun hlt => ?_, fun hge => ?_⟩
      · refine op_store_ok (by kernel_rfl) h1.hb (by omega) rfl fun w1 p1 z1 b1 => ?_
        have p1 := Frm.dr (Frm.dr p1)
        obtain ⟨m, hm⟩ : ∃ m, m = ri + 1 := ⟨_, rfl⟩
        rw [← hm] at b1
        have h0 : m < ps.length := by omega
        have g1 : ∀ i, (cs.setIfInBounds (1 + up.length * 2 + 1) (.int .i64 (m : Int)))[i]? = if 1 + up.length * 2 + 1 = i then some (.int .i64 (m : Int)) else cs[i]? := fun i => set_at (by omega)
        have n1 : (cs.setIfInBounds (1 + up.length * 2 + 1) (.int .i64 (m : Int)))[1 + up.length * 2]? = some (.iface 279 (ptr b)) := by rw [g1, if_neg (by omega)]; exact k1
        have i1 : (cs.setIfInBounds (1 + up.length * 2 + 1) (.int .i64 (m : Int)))[1 + up.length * 2 + 1]? = some (.int .i64 (m : Int)) := by rw [g1, if_pos rfl]
        have d1 : (cs.setIfInBounds (1 + up.length * 2 + 1) (.int .i64 (m : Int)))[65]? = some (.int .i64 (up.length : Int)) := by rw [g1, if_neg (by omega)]; exact h1.dep
        have m1 : (cs.setIfInBounds (1 + up.length * 2 + 1) (.int .i64 (m : Int)))[0]? = some (ptr mb) := by rw [g1, if_neg (by omega)]; exact h1.m
        have z1' : (cs.setIfInBounds (1 + up.length * 2 + 1) (.int .i64 (m : Int))).size = 66 := by simp [hsz]
        have st1 : Stk w1 (cs.setIfInBounds (1 + up.length * 2 + 1) (.int .i64 (m : Int))) (d + 1 + 1) up := (k5.off hoff p1).cells fun i hi => by rw [g1, if_neg (by omega)]
        generalize hcs : cs.setIfInBounds (1 + up.length * 2 + 1) (.int .i64 (m : Int)) = c1 at *
        have hf1 : Frm (· = ib) w w1 := hf.trans p1 fun _ h _ => h
        have r1' := k3'.off hoff p1
        obtain ⟨bs, q1, q2, q3⟩ := id hg
        obtain ⟨co, ce, cz, o1, o2, o3, o4, o5⟩ := id hoff
        have nb : b ≠ ib := fun e => by rw [e, o1] at hb; cases hb; exact o4 rfl
        have ng : g ≠ ib := fun e => by rw [e, o1] at q1; cases q1; exact o5 rfl
        have hb1 := p1.get hb nb
        obtain ⟨cur, hcur, hk⟩ := elCells (hg.frame p1 ng)
        have hk0 := (hk m h0).2
        have hr0 := (hc _ (List.getElem_mem h0)).off hoff p1
        obtain ⟨uc, pc, hcv⟩ := hr0.iface
        rw [hcv] at hk0
        simp [-getElem?_pos, -Array.getElem?_eq_getElem, -Int.natCast_add, ptr, b1, d1, i1, hb1, hcur, hk0, ewd]
        refine ⟨h0, by omega, ?_⟩
        refine op_store_ok (by kernel_rfl) b1 (by omega) rfl fun w2 k2 z2 b2 => ?_
        have k2 := Frm.dr k2
        have g2 : ∀ j, (c1.setIfInBounds (1 + (up.length + 1) * 2) (.iface uc pc))[j]? = if 1 + (up.length + 1) * 2 = j then some (.iface uc pc) else c1[j]? := fun j => set_at (by omega)
        have d2 : (c1.setIfInBounds (1 + (up.length + 1) * 2) (.iface uc pc))[65]? = some (.int .i64 (up.length : Int)) := by rw [g2, if_neg (by omega)]; exact d1
        have z2' : (c1.setIfInBounds (1 + (up.length + 1) * 2) (.iface uc pc)).size = 66 := by simp [z1']
        simp [-getElem?_pos, -Array.getElem?_eq_getElem, -Int.natCast_add, b2, d2, ewd]
        refine op_store_ok (by kernel_rfl) b2 (by omega) rfl fun w3 k3 z3 b3 => ?_
        have g3 : ∀ j, ((c1.setIfInBounds (1 + (up.length + 1) * 2) (.iface uc pc)).setIfInBounds 65 (.int .i64 ((up.length + 1 : Nat) : Int)))[j]? = if 65 = j then some (.int .i64 ((up.length + 1 : Nat) : Int)) else (c1.setIfInBounds (1 + (up.length + 1) * 2) (.iface uc pc))[j]? := fun j => set_at (by omega)
        have k13 : Frm (· = ib) w1 w3 := k2.trans k3 fun _ h _ => h
        have hm0 : ps[m].1 ∈ ks := by rw [hps]; exact List.mem_map.2 ⟨_, List.getElem_mem h0, rfl⟩
        have hks0 : ks[m]? = some ps[m].1 := by rw [hps, List.getElem?_map, List.getElem?_eq_getElem h0]; rfl
        have off1 := off_Q b1
        rw [hcv] at hr0
        have hst3 : Stk w3 ((c1.setIfInBounds (1 + (up.length + 1) * 2) (.iface uc pc)).setIfInBounds 65 (.int .i64 ((up.length + 1 : Nat) : Int))) (d + 1 + 1) up := (st1.off off1 k13).cells fun j hj => by rw [g3, if_neg (by omega), g2, if_neg (by omega)]
        have hlow : Low w3 ib mb d ((c1.setIfInBounds (1 + (up.length + 1) * 2) (.iface uc pc)).setIfInBounds 65 (.int .i64 ((up.length + 1 : Nat) : Int))) ps[m].1 (.iface uc pc) (⟨.br ks, .iface 279 (ptr b), m⟩ :: up) := by
          refine ⟨by simpa using b3, by simp [z2'], ?_, ?_, ?_, hr0.off off1 k13, e3 _ hm0, ⟨?_, ?_, r1'.off off1 k13, k4, hst3⟩, ⟨k4, ⟨ks, rfl, hks0⟩, hab⟩, by simp only [List.length_cons]; omega⟩
          · rw [g3, if_neg (by omega), g2, if_neg (by omega)]; exact m1
          · rw [g3, if_pos rfl]; rfl
          · rw [g3, if_neg (by simp only [List.length_cons]; omega), g2, if_pos (by simp only [List.length_cons])]
          · rw [g3, if_neg (by omega), g2, if_neg (by omega)]; exact n1
          · rw [g3, if_neg (by omega), g2, if_neg (by omega)]; exact i1
        have hne : 0 < (toL d ps[m].1).length := List.length_pos_iff.2 (toL_ne d _ (e3 _ hm0))
        refine first_ok hlow fun w4 k4' hat => ?_
        have hf4 : Frm (· = ib) w w4 := (hf1.trans k13 fun _ h _ => h).trans k4' fun _ h _ => h
        rw [frame_eq hks0, ← hL] at hat
        have hfw : q + 1 + ((ks.drop m).flatMap (toL d)).length + (fw (d + 1 + 1) (fms up)).length = L.length := by
          rw [← hq, fw_cons, hm, List.length_append]; omega
        have hsum : ((ks.take m).flatMap (toL d)).length + ((ks.drop m).flatMap (toL d)).length = (toL (d + 1) (.br ks)).length := by
          rw [toL_succ, ← List.length_append, ← List.flatMap_append, List.take_append_drop]
        have hall : L.length = (bw (d + 1 + 1) (fms up)).length + ((toL (d + 1) (.br ks)).length + (fw (d + 1 + 1) (fms up)).length) := by rw [hL, List.length_append, List.length_append]
        have hdm : (toL d ps[m].1).length ≤ ((ks.drop m).flatMap (toL d)).length := by
          obtain ⟨hil, hie⟩ := List.getElem?_eq_some_iff.1 hks0
          rw [List.drop_eq_getElem_cons hil, List.flatMap_cons, hie, List.length_append]; omega
        have hpos : (bw (d + 1) (fms (⟨.br ks, .iface 279 (ptr b), m⟩ :: up))).length = q + 1 := by
          rw [bw_cons, List.length_append]; omega
        rw [hpos] at hat
        refine hK w4 hf4 ?_
        rw [if_pos (by omega)]
        exact hat
      · refine op_store_ok (by kernel_rfl) h1.hb (by omega) rfl fun w1 p1 z1 b1 => ?_
        refine hpop w1 (Frm.dr (Frm.dr p1)) b1 ?_
        rw [fw_cons, List.drop_of_length_le (by omega)]; rfl
  · simp [-getElem?_pos, -Array.getElem?_eq_getElem, -Int.natCast_add, ptr, h1, h4]
    refine hK wl hf ?_
    rw [if_neg (by omega)]
    exact ⟨cs, h1, h2, h3, h4⟩
theorem next_ok {q : Nat} (h : At w ib mb L (some q)) (hK : ∀ w', Frm (· = ib) w w' → At w' ib mb L (if q + 1 < L.length then some (q + 1) else none) → K (.tuple #[]) w') :
    Calls Tryz.prog 180 #[ptr ib] w (ret K Kp) := next_pop (at_pop h) hK
end Go.Proofs.YtodjijfblgnfmaaGreatDoor.I
end
section
namespace Go.Proofs.YtodjijfblgnfmaaGreatDoor.I
open Go.Vc Go.Proofs Go.Proofs.YtodjijfblgnfmaaGreatDoor Go.Vc.Bt

end Go.Proofs.YtodjijfblgnfmaaGreatDoor.I
end
section
namespace Go.Proofs.YtodjijfblgnfmaaGreatDoor.I
open Go.Vc Go.Proofs Go.Proofs.YtodjijfblgnfmaaGreatDoor Go.Vc.Bt
variable {w w' : World} {v cv : Value} {K : KV} {Kp : KP} {lt : Ky → Ky → Bool} {ib mb p : Nat} {L : List (Ky × Vl)} {cs : Array Value} {r : Root Ky Vl} {n : Nat}
theorem done_ok {q : Option Nat} (h : At w ib mb L q) (hK : K (.bool q.isNone) w) : Calls Tryz.prog 87 #[ptr ib] w (ret K Kp) := by
  refine vc87_calls ?_
  delta vc87
  match q, h with
  | none, ⟨cs, h1, h2, h3, h4⟩ =>
    simp [-getElem?_pos, -Array.getElem?_eq_getElem, -Int.natCast_add, ptr, h1, h4]
    exact hK
  | some q, ⟨cs, es, v, up, j, h1, h2⟩ =>
    have hne : ¬ ((up.length : Int) = -1) := by omega
    simp [-getElem?_pos, -Array.getElem?_eq_getElem, -Int.natCast_add, ptr, h1.hb, h1.dep, hne]
    exact hK
def It (w : World) (ib mb : Nat) : Prop := ∃ cs, w.heap[ib]? = some (.cells cs 218 (0, 0)) ∧ cs.size = 66 ∧ cs[0]? = some (ptr mb)
theorem At.it {q : Option Nat} (h : At w ib mb L q) : It w ib mb := by
  match q, h with
  | none, ⟨cs, h1, h2, h3, h4⟩ => exact ⟨cs, h1, h2, h3⟩
  | some q, ⟨cs, es, v, up, j, h1, h2⟩ => exact ⟨cs, h1.hb, h1.sz, h1.m⟩
theorem high {h : Nat} (h1 : 16 ^ h ≤ n + 1) (h2 : n < 2 ^ 60) : h ≤ 31 := by
  refine Classical.byContradiction fun hn => ?_
  have : 16 ^ 32 ≤ 16 ^ h := Nat.pow_le_pow_right (by decide) (by omega)
  have e : (16 : Nat) ^ 32 = 340282366920938463463374607431768211456 := by decide
  omega
theorem itFirst_ok (hi : It w ib mb) (hm : RepM w mb lt r) (hok : Ok lt n r) (hn : n < 2 ^ 60)
    (hK : ∀ w', Frm (· = ib) w w' → At w' ib mb (rL r) (if (rL r).length = 0 then none else some 0) → K (.tuple #[]) w') : Calls Tryz.prog 135 #[ptr ib] w (ret K Kp) := by
  refine vc135_calls ?_
  delta vc135
  obtain ⟨cs, h1, h2, h3⟩ := hi
  obtain ⟨rv, cv, m1, m2, m3⟩ := hm
  have hoff := off_Q h1
  match r, m2, hok with
  | none, m2, _ =>
    obtain rfl : rv = .nilIface := m2
    simp [-getElem?_pos, -Array.getElem?_eq_getElem, -Int.natCast_add, ptr, h1, h3, m1]
    refine op_store_ok (by kernel_rfl) h1 (by omega) rfl fun w1 k1 z1 b1 => ?_
    refine hK w1 k1 ⟨_, b1, by simp [h2], ?_, ?_⟩
    · rw [set_at (by omega), if_neg (by omega)]; exact h3
    · rw [set_at (by omega), if_pos rfl]
  | some (h, t), m2, hok =>
    obtain ⟨o1, o2, o3, o4⟩ := hok
    have hr : Rep w h t rv := m2
    obtain ⟨u, p, rfl⟩ := hr.iface
    have hh := high o4 hn
    simp [-getElem?_pos, -Array.getElem?_eq_getElem, -Int.natCast_add, ptr, h1, h3, m1]
    refine op_storeN_ok (n := 2) (by kernel_rfl) h1 rfl (by omega) (fun u hu => ?_) fun w2 k2 z2 b2 => ?_
    · simp only [List.mem_toArray, List.mem_cons, List.not_mem_nil, or_false] at hu
      rcases hu with rfl | rfl <;> rfl
    · have k2 := Frm.dr k2
      have g2 : ∀ j, (ow cs 1 [Value.iface u p, .int .i64 0])[j]? = if 1 ≤ j ∧ j < 1 + 2 then [Value.iface u p, .int .i64 0][j - 1]? else cs[j]? := fun j => ow_get (by simp; omega)
      refine op_store_ok (by kernel_rfl) b2 (by rw [ow_size]; omega) rfl fun w3 k3 z3 b3 => ?_
      have g3 : ∀ j, ((ow cs 1 [Value.iface u p, .int .i64 0]).setIfInBounds 65 (.int .i64 0))[j]? = if 65 = j then some (.int .i64 0) else (ow cs 1 [Value.iface u p, .int .i64 0])[j]? := fun j => set_at (by rw [ow_size]; omega)
      have k13 : Frm (· = ib) w w3 := k2.trans k3 fun _ h _ => h
      have hlow : Low w3 ib mb h ((ow cs 1 [Value.iface u p, .int .i64 0]).setIfInBounds 65 (.int .i64 0)) t (.iface u p) [] :=
        ⟨b3, by simp [ow_size, h2], by rw [g3, if_neg (by omega), g2, if_neg (by omega)]; exact h3, by rw [g3, if_pos rfl]; rfl, by rw [g3, if_neg (by simp), g2, if_pos (by simp)]; rfl, hr.off hoff k13, o1, trivial, trivial, by simpa using hh⟩
      have hne : 0 < (toL h t).length := List.length_pos_iff.2 (toL_ne h t o1)
      refine first_ok hlow fun w4 k4 hat => ?_
      refine hK w4 (k13.trans k4 fun _ h _ => h) ?_
      rw [if_neg (by show ¬ (toL h t).length = 0; omega)]
      have e1 : bw (h + 1) (fms []) ++ (toL h t ++ fw (h + 1) (fms [])) = rL (some (h, t)) := by
        show [] ++ (toL h t ++ []) = toL h t
        simp
      rw [e1] at hat
      exact hat
end Go.Proofs.YtodjijfblgnfmaaGreatDoor.I
end
section
namespace Go.Proofs.YtodjijfblgnfmaaGreatDoor.I
open Go.Vc Go.Proofs Go.Proofs.YtodjijfblgnfmaaGreatDoor Go.Vc.Bt
variable {w w' : World} {v : Value} {K : KV} {Kp : KP} {lt : Ky → Ky → Bool} {ib mb : Nat} {L : List (Ky × Vl)} {cs : Array Value} {r : Root Ky Vl} {n : Nat}
theorem itNext_ok {q : Nat} (h : At w ib mb L (some q)) (hK : ∀ w', Frm (· = ib) w w' → ∀ e, L[q]? = some e → At w' ib mb L (if q + 1 < L.length then some (q + 1) else none) → K (.tuple #[ek e.1, ev e.2, .bool true]) w') : Calls Tryz.prog 138 #[ptr ib] w (ret K Kp) := by
  refine vc138_calls ?_
  simp only [vc138, call_87, call_180]
  refine done_ok h ?_
  have h' := h
  obtain ⟨cs, es, v, up, j, h1, h2, h3, h4, h5⟩ := h
  have hr := h1.rep
  obtain ⟨b, g, o, c, rfl, hb, hg⟩ := hr
  obtain ⟨cur, hcur, hk⟩ := leafVal hg
  have hkj := hk j h3
  have hu := h1.len
  simp [-getElem?_pos, -Array.getElem?_eq_getElem, -Int.natCast_add, ptr, h1.hb, h1.dep, h1.node, h2, hb, hcur, hkj]
  refine ⟨by omega, h3, ?_⟩
  have f3 : Frm (fun _ => False) w w.drew.drew.drew := ((Frm.drew _).no (Frm.drew _)).no (Frm.drew _)
  refine next_ok (h'.still f3) fun w' hf hat => ?_
  refine hK w' (f3.fst hf) es[j] ?_ hat
  have e : (es ++ fw 1 (fms up))[j]? = some es[j] := by rw [List.getElem?_append_left h3, List.getElem?_eq_getElem h3]
  rw [h4, h5, List.getElem?_append_right (by omega), Nat.add_sub_cancel_left]; exact e
theorem iter_ok (hm : RepM w mb lt r) (hok : Ok lt n r) (hn : n < 2 ^ 60)
    (hK : ∀ w' ib, Frm (fun _ => False) w w' → w.heap.size ≤ ib → At w' ib mb (rL r) (if (rL r).length = 0 then none else some 0) → K (ptr ib) w') : Calls Tryz.prog 84 #[ptr mb] w (ret K Kp) := by
  refine vc84_calls ?_
  simp only [vc84, call_135]
  rw [op_build_218_0 (x0 := ptr mb) rfl]
  refine op_box_ok fun w1 k1 z1 b1 => ?_
  simp only [cells_agg] at b1
  refine itFirst_ok ⟨_, b1, rfl, rfl⟩ (hm.still k1) hok hn fun w2 k2 hat => ?_
  exact hK w2 _ (k1.old k2 fun b hb => .inr (by omega)) (Nat.le_refl _) hat
end Go.Proofs.YtodjijfblgnfmaaGreatDoor.I
end
section
namespace Go.Vc.Bt
structure SPr where
  key : Int
  text : ByteArray
  val : Int
deriving DecidableEq
def SPr.cells (p : SPr) : List Value := [.int .i64 p.key, .string p.text, .int .i64 p.val]
theorem SPr.len (p : SPr) : p.cells.length = 3 := rfl
theorem SPr.one (p : SPr) : ∀ u ∈ p.cells, u.oneCell' = true := fun u hu => by
  simp only [SPr.cells, List.mem_cons, List.not_mem_nil, or_false] at hu
  rcases hu with rfl | rfl | rfl <;> rfl
def decI (n : Int) : ByteArray := ⟨(Lib.itoa n).toArray⟩
structure SSt where
  op : Nat
  fro : Int
  key : Int
  text : ByteArray
  value : Int
  count : Int
  by' : Int
def SSt.cells (s : SSt) : List Value := [.int .u8 s.op, .int .i64 s.fro, .int .i64 s.key, .string s.text, .int .i64 s.value, .int .i64 s.count, .int .i64 s.by']
theorem SSt.len (s : SSt) : s.cells.length = 7 := rfl
theorem SSt.one (s : SSt) : ∀ u ∈ s.cells, u.oneCell' = true := fun u hu => by
  simp only [SSt.cells, List.mem_cons, List.not_mem_nil, or_false] at hu
  rcases hu with rfl | rfl | rfl | rfl | rfl | rfl | rfl <;> rfl
structure SAns where
  value : Int
  n : Int
  ok : Bool
  list : List SPr
def zeroA : SAns := ⟨0, 0, false, []⟩
structure Kd (κ : Type) where
  key : Int → ByteArray → κ
  many : SSt → Nat → κ
  pair : κ → Int → SPr
section
variable {κ : Type} [DecidableEq κ] {lt : κ → κ → Bool} {kd : Kd κ}
abbrev Vn (κ : Type) := List (κ × Int)
def putN (lt : κ → κ → Bool) (kd : Kd κ) (s : SSt) : Nat → Vn κ → Vn κ
  | 0, L => L
  | n + 1, L => put lt (putN lt kd s n L) (kd.many s n) (IntKind.i64.wrap (s.value + n))
def remN (lt : κ → κ → Bool) (kd : Kd κ) (s : SSt) : Nat → Vn κ → Vn κ
  | 0, L => L
  | n + 1, L => rem lt (remN lt kd s n L) (kd.many s n)
def newV (lt : κ → κ → Bool) (kd : Kd κ) (s : SSt) (L : Vn κ) : Option (Vn κ) :=
  if s.op = 0 then some (put lt L (kd.key s.key s.text) s.value)
  else if s.op = 1 then some (rem lt L (kd.key s.key s.text))
  else if s.op = 5 then some (putN lt kd s s.count.toNat L)
  else if s.op = 6 then some (remN lt kd s s.count.toNat L)
  else none
def ansV (lt : κ → κ → Bool) (kd : Kd κ) (s : SSt) (L : Vn κ) : SAns :=
  if s.op = 2 then match got lt L (kd.key s.key s.text) with
    | some v => ⟨v, 0, true, []⟩
    | none => zeroA
  else if s.op = 3 then ⟨0, L.length, false, L.map fun e => kd.pair e.1 e.2⟩
  else if s.op = 4 then ⟨0, L.length, false, L.reverse.map fun e => kd.pair e.1 e.2⟩
  else match newV lt kd s L with
    | some m => ⟨0, m.length, false, []⟩
    | none => zeroA
def atV (s : SSt) (n : Nat) : Nat := (s.fro % (n : Int)).toNat
def oneS (lt : κ → κ → Bool) (kd : Kd κ) (q : List (Vn κ) × List SAns) (s : SSt) : List (Vn κ) × List SAns :=
  (q.1 ++ (newV lt kd s (q.1[atV s q.1.length]?.getD [])).toList, q.2 ++ [ansV lt kd s (q.1[atV s q.1.length]?.getD [])])
def runS (lt : κ → κ → Bool) (kd : Kd κ) (steps : List SSt) : List (Vn κ) × List SAns := steps.foldl (oneS lt kd) ([[]], [])
theorem runS_snoc (steps : List SSt) (s : SSt) : runS lt kd (steps ++ [s]) = oneS lt kd (runS lt kd steps) s := by simp [runS]
theorem oneS_len (q : List (Vn κ) × List SAns) (s : SSt) : q.1.length ≤ (oneS lt kd q s).1.length ∧ (oneS lt kd q s).1.length ≤ q.1.length + 1 ∧ (oneS lt kd q s).2.length = q.2.length + 1 := by
  unfold oneS
  refine ⟨by simp, ?_, by simp⟩
  cases newV lt kd s (q.1[atV s q.1.length]?.getD []) <;> simp
theorem runS_len (steps : List SSt) : 1 ≤ (runS lt kd steps).1.length ∧ (runS lt kd steps).1.length ≤ steps.length + 1 ∧ (runS lt kd steps).2.length = steps.length := by
  rw [← List.reverse_reverse steps]
  generalize steps.reverse = r
  induction r with
  | nil => exact ⟨by simp [runS], by simp [runS], by simp [runS]⟩
  | cons s r ih =>
    rw [List.reverse_cons, runS_snoc]
    have := oneS_len (lt := lt) (kd := kd) (runS lt kd r.reverse) s
    simp only [List.length_append, List.length_singleton]
    omega
theorem atV_lt {s : SSt} {n : Nat} (h : 1 ≤ n) : atV s n < n := by
  unfold atV
  have h1 := Int.emod_nonneg s.fro (b := (n : Int)) (by omega)
  have h2 := Int.emod_lt_of_pos s.fro (b := (n : Int)) (by omega)
  omega
def SSt.cost (s : SSt) : Nat := 1 + s.count.toNat
def scost (steps : List SSt) : Nat := (steps.map SSt.cost).sum
theorem scost_snoc (steps : List SSt) (s : SSt) : scost (steps ++ [s]) = scost steps + s.cost := by simp [scost]
theorem scost_app (a b : List SSt) : scost (a ++ b) = scost a + scost b := by simp [scost]
theorem scost_take (steps : List SSt) (n : Nat) : scost (steps.take n) ≤ scost steps := by
  have := scost_app (steps.take n) (steps.drop n)
  rw [List.take_append_drop] at this; omega
theorem scost_len : ∀ steps : List SSt, steps.length ≤ scost steps
  | [] => Nat.zero_le _
  | s :: l => by
    have := scost_len l
    have e : scost (s :: l) = s.cost + scost l := by simp [scost]
    have : 1 ≤ s.cost := by unfold SSt.cost; omega
    rw [e, List.length_cons]; omega
theorem rem_le {L : Vn κ} {k : κ} : (rem lt L k).length ≤ L.length := (rem_sub (lt := lt)).length_le
theorem put_le {L : Vn κ} {k : κ} {v : Int} : (put lt L k v).length ≤ L.length + 1 := by rw [put_len]; split <;> omega
theorem newV_some (s : SSt) (L : Vn κ) : (newV lt kd s L).isSome = decide (s.op = 0 ∨ s.op = 1 ∨ s.op = 5 ∨ s.op = 6) := by
  unfold newV
  by_cases h0 : s.op = 0
  · simp [h0]
  · by_cases h1 : s.op = 1
    · simp [h1]
    · by_cases h5 : s.op = 5
      · simp [h5]
      · by_cases h6 : s.op = 6
        · simp [h6]
        · simp [h0, h1, h5, h6]
theorem ansV_new {s : SSt} {L m : Vn κ} (h : newV lt kd s L = some m) : ansV lt kd s L = ⟨0, m.length, false, []⟩ := by
  have hs := newV_some (lt := lt) (kd := kd) s L
  rw [h] at hs
  have hs : s.op = 0 ∨ s.op = 1 ∨ s.op = 5 ∨ s.op = 6 := by simpa using hs
  unfold ansV
  rw [if_neg (by omega), if_neg (by omega), if_neg (by omega), h]
theorem putN_le (s : SSt) (L : Vn κ) : ∀ n, (putN lt kd s n L).length ≤ L.length + n
  | 0 => Nat.le_refl _
  | n + 1 => by have := putN_le s L n; have := put_le (lt := lt) (L := putN lt kd s n L) (k := kd.many s n) (v := IntKind.i64.wrap (s.value + n)); rw [putN]; omega
theorem remN_le (s : SSt) (L : Vn κ) : ∀ n, (remN lt kd s n L).length ≤ L.length
  | 0 => Nat.le_refl _
  | n + 1 => by have := remN_le s L n; have := rem_le (lt := lt) (L := remN lt kd s n L) (k := kd.many s n); rw [remN]; omega
theorem newV_le {s : SSt} {L m : Vn κ} (h : newV lt kd s L = some m) : m.length ≤ L.length + s.cost := by
  unfold newV at h
  unfold SSt.cost
  split at h
  · cases h; have := put_le (lt := lt) (L := L) (k := kd.key s.key s.text) (v := s.value); omega
  · split at h
    · cases h; have := rem_le (lt := lt) (L := L) (k := kd.key s.key s.text); omega
    · split at h
      · cases h; have := putN_le (lt := lt) (kd := kd) s L s.count.toNat; omega
      · split at h
        · cases h; have := remN_le (lt := lt) (kd := kd) s L s.count.toNat; omega
        · cases h
end
end Go.Vc.Bt
end
section
namespace Go.Proofs.YtodjijfblgnfmaaGreatDoor
open Go.Vc Go.Proofs
variable {w : World} {K : KV} {Kp : KP} {K1 : Value → Prop}
theorem build_98_0_1_2 {x0 : Value} {x1 : Value} {x2 : Value} (h0 : x0.oneCell' = true) (h1 : x1.oneCell' = true) (h2 : x2.oneCell' = true) : buildV Tryz.prog 98 [(0, x0), (1, x1), (2, x2)] = some (.agg (#[x0, x1, x2])) := by
  have e : buildV Tryz.prog 98 [(0, x0), (1, x1), (2, x2)] = (Instr.fill ((#[(0, 1), (1, 1), (2, 1)] : Array (Nat × Nat))[·]?) (#[Value.nilFunc, Value.nilFunc, Value.nilFunc]) [(0, x0), (1, x1), (2, x2)]).map .agg := by kernel_rfl
  rw [e]; simp [Instr.fill, cells_of_one h0, cells_of_one h1, cells_of_one h2]
@[simp] theorem op_build_98_0_1_2 {x0 : Value} {x1 : Value} {x2 : Value} (h0 : x0.oneCell' = true) (h1 : x1.oneCell' = true) (h2 : x2.oneCell' = true) : nP.op (.build 98 [(0, x0), (1, x1), (2, x2)]) w K Kp = K (.agg (#[x0, x1, x2])) w := op_build (build_98_0_1_2 h0 h1 h2)
@[simp] theorem pur_build_98_0_1_2 {x0 : Value} {x1 : Value} {x2 : Value} (h0 : x0.oneCell' = true) (h1 : x1.oneCell' = true) (h2 : x2.oneCell' = true) : nP.pur (.build 98 [(0, x0), (1, x1), (2, x2)]) K1 = K1 (.agg (#[x0, x1, x2])) := pur_build (build_98_0_1_2 h0 h1 h2)
@[simp] theorem op_ld_98 {p : Addr} : nP.op (.load 98 (.pointer (some p))) w K Kp = ∃ cs e fz, w.heap[p.block]? = some (.cells cs e fz) ∧ p.spot = none ∧ p.off + 3 ≤ cs.size ∧ K (.agg (cs.extract p.off (p.off + 3))) w := op_ldn (by kernel_rfl)
@[simp] theorem ld_ld_98 {p : Addr} : nP.ld (.load 98 (.pointer (some p))) w K1 = ∃ cs e fz, w.heap[p.block]? = some (.cells cs e fz) ∧ p.spot = none ∧ p.off + 3 ≤ cs.size ∧ K1 (.agg (cs.extract p.off (p.off + 3))) := ld_ldn (by kernel_rfl)
@[simp] theorem same_ld_98 {p : Addr} {v : Value} : nP.same (.load 98 (.pointer (some p))) v w = ∃ cs e fz, w.heap[p.block]? = some (.cells cs e fz) ∧ p.spot = none ∧ p.off + 3 ≤ cs.size ∧ .agg (cs.extract p.off (p.off + 3)) = v := same_ldn (by kernel_rfl)
@[simp] theorem op_fa_54_2 {p : Addr} : nP.op (.fieldAddr 54 (.pointer (some p)) 2) w K Kp = K (.pointer (some (p.add 2))) w := op_fa (k := .one) (by kernel_rfl)
@[simp] theorem pur_fa_54_2 {p : Addr} : nP.pur (.fieldAddr 54 (.pointer (some p)) 2) K1 = K1 (.pointer (some (p.add 2))) := pur_fa (k := .one) (by kernel_rfl)
@[simp] theorem op_fa_54_6 {p : Addr} : nP.op (.fieldAddr 54 (.pointer (some p)) 6) w K Kp = K (.pointer (some (p.add 6))) w := op_fa (k := .one) (by kernel_rfl)
@[simp] theorem pur_fa_54_6 {p : Addr} : nP.pur (.fieldAddr 54 (.pointer (some p)) 6) K1 = K1 (.pointer (some (p.add 6))) := pur_fa (k := .one) (by kernel_rfl)
theorem build_49_0_2 {x0 : Value} {x2 : Value} (h0 : x0.oneCell' = true) (h2 : x2.oneCell' = true) : buildV Tryz.prog 49 [(0, x0), (2, x2)] = some (.agg (#[x0, Value.string ByteArray.empty, x2])) := by
  have e : buildV Tryz.prog 49 [(0, x0), (2, x2)] = (Instr.fill ((#[(0, 1), (1, 1), (2, 1)] : Array (Nat × Nat))[·]?) (#[Value.int IntKind.i64 0, Value.string ByteArray.empty, Value.int IntKind.i64 0]) [(0, x0), (2, x2)]).map .agg := by kernel_rfl
  rw [e]; simp [Instr.fill, cells_of_one h0, cells_of_one h2]
@[simp] theorem op_build_49_0_2 {x0 : Value} {x2 : Value} (h0 : x0.oneCell' = true) (h2 : x2.oneCell' = true) : nP.op (.build 49 [(0, x0), (2, x2)]) w K Kp = K (.agg (#[x0, Value.string ByteArray.empty, x2])) w := op_build (build_49_0_2 h0 h2)
@[simp] theorem pur_build_49_0_2 {x0 : Value} {x2 : Value} (h0 : x0.oneCell' = true) (h2 : x2.oneCell' = true) : nP.pur (.build 49 [(0, x0), (2, x2)]) K1 = K1 (.agg (#[x0, Value.string ByteArray.empty, x2])) := pur_build (build_49_0_2 h0 h2)
@[simp] theorem op_ld_49 {p : Addr} : nP.op (.load 49 (.pointer (some p))) w K Kp = ∃ cs e fz, w.heap[p.block]? = some (.cells cs e fz) ∧ p.spot = none ∧ p.off + 3 ≤ cs.size ∧ K (.agg (cs.extract p.off (p.off + 3))) w := op_ldn (by kernel_rfl)
@[simp] theorem ld_ld_49 {p : Addr} : nP.ld (.load 49 (.pointer (some p))) w K1 = ∃ cs e fz, w.heap[p.block]? = some (.cells cs e fz) ∧ p.spot = none ∧ p.off + 3 ≤ cs.size ∧ K1 (.agg (cs.extract p.off (p.off + 3))) := ld_ldn (by kernel_rfl)
@[simp] theorem same_ld_49 {p : Addr} {v : Value} : nP.same (.load 49 (.pointer (some p))) v w = ∃ cs e fz, w.heap[p.block]? = some (.cells cs e fz) ∧ p.spot = none ∧ p.off + 3 ≤ cs.size ∧ .agg (cs.extract p.off (p.off + 3)) = v := same_ldn (by kernel_rfl)
theorem build_88_0_1_2 {x0 : Value} {x1 : Value} {x2 : Value} (h0 : x0.oneCell' = true) (h1 : x1.oneCell' = true) (h2 : x2.oneCell' = true) : buildV Tryz.prog 88 [(0, x0), (1, x1), (2, x2)] = some (.agg (#[x0, x1, x2])) := by
  have e : buildV Tryz.prog 88 [(0, x0), (1, x1), (2, x2)] = (Instr.fill ((#[(0, 1), (1, 1), (2, 1)] : Array (Nat × Nat))[·]?) (#[Value.nilFunc, Value.nilFunc, Value.nilFunc]) [(0, x0), (1, x1), (2, x2)]).map .agg := by kernel_rfl
  rw [e]; simp [Instr.fill, cells_of_one h0, cells_of_one h1, cells_of_one h2]
@[simp] theorem op_build_88_0_1_2 {x0 : Value} {x1 : Value} {x2 : Value} (h0 : x0.oneCell' = true) (h1 : x1.oneCell' = true) (h2 : x2.oneCell' = true) : nP.op (.build 88 [(0, x0), (1, x1), (2, x2)]) w K Kp = K (.agg (#[x0, x1, x2])) w := op_build (build_88_0_1_2 h0 h1 h2)
@[simp] theorem pur_build_88_0_1_2 {x0 : Value} {x1 : Value} {x2 : Value} (h0 : x0.oneCell' = true) (h1 : x1.oneCell' = true) (h2 : x2.oneCell' = true) : nP.pur (.build 88 [(0, x0), (1, x1), (2, x2)]) K1 = K1 (.agg (#[x0, x1, x2])) := pur_build (build_88_0_1_2 h0 h1 h2)
@[simp] theorem op_ld_88 {p : Addr} : nP.op (.load 88 (.pointer (some p))) w K Kp = ∃ cs e fz, w.heap[p.block]? = some (.cells cs e fz) ∧ p.spot = none ∧ p.off + 3 ≤ cs.size ∧ K (.agg (cs.extract p.off (p.off + 3))) w := op_ldn (by kernel_rfl)
@[simp] theorem ld_ld_88 {p : Addr} : nP.ld (.load 88 (.pointer (some p))) w K1 = ∃ cs e fz, w.heap[p.block]? = some (.cells cs e fz) ∧ p.spot = none ∧ p.off + 3 ≤ cs.size ∧ K1 (.agg (cs.extract p.off (p.off + 3))) := ld_ldn (by kernel_rfl)
@[simp] theorem same_ld_88 {p : Addr} {v : Value} : nP.same (.load 88 (.pointer (some p))) v w = ∃ cs e fz, w.heap[p.block]? = some (.cells cs e fz) ∧ p.spot = none ∧ p.off + 3 ≤ cs.size ∧ .agg (cs.extract p.off (p.off + 3)) = v := same_ldn (by kernel_rfl)
@[simp] theorem op_fa_54_3 {p : Addr} : nP.op (.fieldAddr 54 (.pointer (some p)) 3) w K Kp = K (.pointer (some (p.add 3))) w := op_fa (k := .one) (by kernel_rfl)
@[simp] theorem pur_fa_54_3 {p : Addr} : nP.pur (.fieldAddr 54 (.pointer (some p)) 3) K1 = K1 (.pointer (some (p.add 3))) := pur_fa (k := .one) (by kernel_rfl)
theorem build_49_1_2 {x1 : Value} {x2 : Value} (h1 : x1.oneCell' = true) (h2 : x2.oneCell' = true) : buildV Tryz.prog 49 [(1, x1), (2, x2)] = some (.agg (#[Value.int IntKind.i64 0, x1, x2])) := by
  have e : buildV Tryz.prog 49 [(1, x1), (2, x2)] = (Instr.fill ((#[(0, 1), (1, 1), (2, 1)] : Array (Nat × Nat))[·]?) (#[Value.int IntKind.i64 0, Value.string ByteArray.empty, Value.int IntKind.i64 0]) [(1, x1), (2, x2)]).map .agg := by kernel_rfl
  rw [e]; simp [Instr.fill, cells_of_one h1, cells_of_one h2]
@[simp] theorem op_build_49_1_2 {x1 : Value} {x2 : Value} (h1 : x1.oneCell' = true) (h2 : x2.oneCell' = true) : nP.op (.build 49 [(1, x1), (2, x2)]) w K Kp = K (.agg (#[Value.int IntKind.i64 0, x1, x2])) w := op_build (build_49_1_2 h1 h2)
@[simp] theorem pur_build_49_1_2 {x1 : Value} {x2 : Value} (h1 : x1.oneCell' = true) (h2 : x2.oneCell' = true) : nP.pur (.build 49 [(1, x1), (2, x2)]) K1 = K1 (.agg (#[Value.int IntKind.i64 0, x1, x2])) := pur_build (build_49_1_2 h1 h2)
@[simp] theorem op_ld_31 {p : Addr} : nP.op (.load 31 (.pointer (some p))) w K Kp = ∃ cs e fz, w.heap[p.block]? = some (.cells cs e fz) ∧ p.spot = none ∧ p.off + 2 ≤ cs.size ∧ K (.agg (cs.extract p.off (p.off + 2))) w := op_ldn (by kernel_rfl)
@[simp] theorem ld_ld_31 {p : Addr} : nP.ld (.load 31 (.pointer (some p))) w K1 = ∃ cs e fz, w.heap[p.block]? = some (.cells cs e fz) ∧ p.spot = none ∧ p.off + 2 ≤ cs.size ∧ K1 (.agg (cs.extract p.off (p.off + 2))) := ld_ldn (by kernel_rfl)
@[simp] theorem same_ld_31 {p : Addr} {v : Value} : nP.same (.load 31 (.pointer (some p))) v w = ∃ cs e fz, w.heap[p.block]? = some (.cells cs e fz) ∧ p.spot = none ∧ p.off + 2 ≤ cs.size ∧ .agg (cs.extract p.off (p.off + 2)) = v := same_ldn (by kernel_rfl)
theorem build_146_0 {y0_0 y0_1 : Value} : buildV Tryz.prog 146 [(0, .agg #[y0_0, y0_1])] = some (.agg (#[y0_0, y0_1])) := by
  have e : buildV Tryz.prog 146 [(0, .agg #[y0_0, y0_1])] = (Instr.fill ((#[(0, 2)] : Array (Nat × Nat))[·]?) (#[Value.int IntKind.u8 0, Value.int IntKind.i64 0]) [(0, .agg #[y0_0, y0_1])]).map .agg := by kernel_rfl
  rw [e]; simp [Instr.fill, Value.cells]
@[simp] theorem op_build_146_0 {y0_0 y0_1 : Value} : nP.op (.build 146 [(0, .agg #[y0_0, y0_1])]) w K Kp = K (.agg (#[y0_0, y0_1])) w := op_build (build_146_0)
@[simp] theorem pur_build_146_0 {y0_0 y0_1 : Value} : nP.pur (.build 146 [(0, .agg #[y0_0, y0_1])]) K1 = K1 (.agg (#[y0_0, y0_1])) := pur_build (build_146_0)
@[simp] theorem op_mki_146 {v : Value} : nP.op (.mkIface 146 v) w K Kp = K (.iface 146 v) w := op_mkIface (by kernel_rfl) (by kernel_rfl)
@[simp] theorem pur_mki_146 {v : Value} : nP.pur (.mkIface 146 v) K1 = K1 (.iface 146 v) := pur_mkIface (by kernel_rfl) (by kernel_rfl)
theorem build_134_0 {y0_0 y0_1 : Value} : buildV Tryz.prog 134 [(0, .agg #[y0_0, y0_1])] = some (.agg (#[y0_0, y0_1])) := by
  have e : buildV Tryz.prog 134 [(0, .agg #[y0_0, y0_1])] = (Instr.fill ((#[(0, 2)] : Array (Nat × Nat))[·]?) (#[Value.int IntKind.u8 0, Value.int IntKind.i64 0]) [(0, .agg #[y0_0, y0_1])]).map .agg := by kernel_rfl
  rw [e]; simp [Instr.fill, Value.cells]
@[simp] theorem op_build_134_0 {y0_0 y0_1 : Value} : nP.op (.build 134 [(0, .agg #[y0_0, y0_1])]) w K Kp = K (.agg (#[y0_0, y0_1])) w := op_build (build_134_0)
@[simp] theorem pur_build_134_0 {y0_0 y0_1 : Value} : nP.pur (.build 134 [(0, .agg #[y0_0, y0_1])]) K1 = K1 (.agg (#[y0_0, y0_1])) := pur_build (build_134_0)
@[simp] theorem op_mki_134 {v : Value} : nP.op (.mkIface 134 v) w K Kp = K (.iface 134 v) w := op_mkIface (by kernel_rfl) (by kernel_rfl)
@[simp] theorem pur_mki_134 {v : Value} : nP.pur (.mkIface 134 v) K1 = K1 (.iface 134 v) := pur_mkIface (by kernel_rfl) (by kernel_rfl)
@[simp] theorem call_37 {args : List Value} : nP.call (.fn 37) args w K Kp = Calls Tryz.prog 37 args.toArray w (ret K Kp) := call_fn (by kernel_rfl)
@[simp] theorem op_ld_28 {p : Addr} : nP.op (.load 28 (.pointer (some p))) w K Kp = ∃ cs e fz, w.heap[p.block]? = some (.cells cs e fz) ∧ p.spot = none ∧ ∃ v, cs[p.off]? = some v ∧ K v w := op_ld (by kernel_rfl)
@[simp] theorem ld_ld_28 {p : Addr} : nP.ld (.load 28 (.pointer (some p))) w K1 = ∃ cs e fz, w.heap[p.block]? = some (.cells cs e fz) ∧ p.spot = none ∧ ∃ v, cs[p.off]? = some v ∧ K1 v := ld_ld (by kernel_rfl)
@[simp] theorem same_ld_28 {p : Addr} {v : Value} : nP.same (.load 28 (.pointer (some p))) v w = ∃ cs e fz, w.heap[p.block]? = some (.cells cs e fz) ∧ p.spot = none ∧ cs[p.off]? = some v := same_ld (by kernel_rfl)
@[simp] theorem call_40 {args : List Value} : nP.call (.fn 40) args w K Kp = Calls Tryz.prog 40 args.toArray w (ret K Kp) := call_fn (by kernel_rfl)
@[simp] theorem call_41 {args : List Value} : nP.call (.fn 41) args w K Kp = Calls Tryz.prog 41 args.toArray w (ret K Kp) := call_fn (by kernel_rfl)
@[simp] theorem op_ld_32 {p : Addr} : nP.op (.load 32 (.pointer (some p))) w K Kp = ∃ cs e fz, w.heap[p.block]? = some (.cells cs e fz) ∧ p.spot = none ∧ ∃ v, cs[p.off]? = some v ∧ K v w := op_ld (by kernel_rfl)
@[simp] theorem ld_ld_32 {p : Addr} : nP.ld (.load 32 (.pointer (some p))) w K1 = ∃ cs e fz, w.heap[p.block]? = some (.cells cs e fz) ∧ p.spot = none ∧ ∃ v, cs[p.off]? = some v ∧ K1 v := ld_ld (by kernel_rfl)
@[simp] theorem same_ld_32 {p : Addr} {v : Value} : nP.same (.load 32 (.pointer (some p))) v w = ∃ cs e fz, w.heap[p.block]? = some (.cells cs e fz) ∧ p.spot = none ∧ cs[p.off]? = some v := same_ld (by kernel_rfl)
@[simp] theorem call_39 {args : List Value} : nP.call (.fn 39) args w K Kp = Calls Tryz.prog 39 args.toArray w (ret K Kp) := call_fn (by kernel_rfl)
@[simp] theorem call_43 {args : List Value} : nP.call (.fn 43) args w K Kp = Calls Tryz.prog 43 args.toArray w (ret K Kp) := call_fn (by kernel_rfl)
@[simp] theorem call_44 {args : List Value} : nP.call (.fn 44) args w K Kp = Calls Tryz.prog 44 args.toArray w (ret K Kp) := call_fn (by kernel_rfl)
@[simp] theorem call_42 {args : List Value} : nP.call (.fn 42) args w K Kp = Calls Tryz.prog 42 args.toArray w (ret K Kp) := call_fn (by kernel_rfl)
@[simp] theorem call_138 {args : List Value} : nP.call (.fn 138) args w K Kp = Calls Tryz.prog 138 args.toArray w (ret K Kp) := call_fn (by kernel_rfl)
@[simp] theorem op_fa_98_2 {p : Addr} : nP.op (.fieldAddr 98 (.pointer (some p)) 2) w K Kp = K (.pointer (some (p.add 2))) w := op_fa (k := .one) (by kernel_rfl)
@[simp] theorem pur_fa_98_2 {p : Addr} : nP.pur (.fieldAddr 98 (.pointer (some p)) 2) K1 = K1 (.pointer (some (p.add 2))) := pur_fa (k := .one) (by kernel_rfl)
@[simp] theorem op_ld_96 {p : Addr} : nP.op (.load 96 (.pointer (some p))) w K Kp = ∃ cs e fz, w.heap[p.block]? = some (.cells cs e fz) ∧ p.spot = none ∧ ∃ v, cs[p.off]? = some v ∧ K v w := op_ld (by kernel_rfl)
@[simp] theorem ld_ld_96 {p : Addr} : nP.ld (.load 96 (.pointer (some p))) w K1 = ∃ cs e fz, w.heap[p.block]? = some (.cells cs e fz) ∧ p.spot = none ∧ ∃ v, cs[p.off]? = some v ∧ K1 v := ld_ld (by kernel_rfl)
@[simp] theorem same_ld_96 {p : Addr} {v : Value} : nP.same (.load 96 (.pointer (some p))) v w = ∃ cs e fz, w.heap[p.block]? = some (.cells cs e fz) ∧ p.spot = none ∧ cs[p.off]? = some v := same_ld (by kernel_rfl)
theorem lit_46_1 {y0_0 y0_1 y0_2 : Value} : sliceLit Tryz.prog 46 1 [(0, .agg #[y0_0, y0_1, y0_2])] = some (49, #[y0_0, y0_1, y0_2]) := by
  have e : sliceLit Tryz.prog 46 1 [(0, .agg #[y0_0, y0_1, y0_2])] = (Instr.fill (fun i => some (i * 3, 3)) (#[Value.int IntKind.i64 0, Value.string ByteArray.empty, Value.int IntKind.i64 0]) [(0, .agg #[y0_0, y0_1, y0_2])]).map fun cs => (49, cs) := by kernel_rfl
  rw [e]; simp [Instr.fill, Value.cells]
@[simp] theorem call_79 {args : List Value} : nP.call (.fn 79) args w K Kp = Calls Tryz.prog 79 args.toArray w (ret K Kp) := call_fn (by kernel_rfl)
theorem lit_137_1 {x0 : Value} (h0 : x0.oneCell' = true) : sliceLit Tryz.prog 137 1 [(0, x0)] = some (135, #[x0]) := by
  have e : sliceLit Tryz.prog 137 1 [(0, x0)] = (Instr.fill (fun i => some (i * 1, 1)) (#[Value.pointer none]) [(0, x0)]).map fun cs => (135, cs) := by kernel_rfl
  rw [e]; simp [Instr.fill, cells_of_one h0]
@[simp] theorem op_len_32 {a : Option Addr} {n c ty : Nat} : nP.op (.blt .len [32] ty [.slice a n c]) w K Kp = K (.int .i64 n) w := op_len_slice (by kernel_rfl)
@[simp] theorem pur_len_32 {a : Option Addr} {n c ty : Nat} : nP.pur (.blt .len [32] ty [.slice a n c]) K1 = K1 (.int .i64 n) := pur_len_slice (by kernel_rfl)
@[simp] theorem ld_len_32 {a : Option Addr} {n c ty : Nat} : nP.ld (.blt .len [32] ty [.slice a n c]) w K1 = K1 (.int .i64 n) := ld_len_slice (by kernel_rfl)
@[simp] theorem same_len_32 {a : Option Addr} {n c ty : Nat} {u : Value} : nP.same (.blt .len [32] ty [.slice a n c]) u w = (.int .i64 n = u) := same_len_slice (by kernel_rfl)
@[simp] theorem op_ix_32 {p : Addr} {len cap : Nat} {k : IntKind} {j : Int} : nP.op (.indexAddr 32 (.slice (some p) len cap) (.int k j)) w K Kp = ((0 ≤ j ∧ j < (len : Int)) ∧ K (.pointer (some (p.add (j.toNat * 7)))) w) := op_ix_slice (e := 54) (by kernel_rfl)
@[simp] theorem pur_ix_32 {p : Addr} {len cap : Nat} {k : IntKind} {j : Int} : nP.pur (.indexAddr 32 (.slice (some p) len cap) (.int k j)) K1 = ((0 ≤ j ∧ j < (len : Int)) ∧ K1 (.pointer (some (p.add (j.toNat * 7))))) := pur_ix_slice (e := 54) (by kernel_rfl)
@[simp] theorem op_ld_54 {p : Addr} : nP.op (.load 54 (.pointer (some p))) w K Kp = ∃ cs e fz, w.heap[p.block]? = some (.cells cs e fz) ∧ p.spot = none ∧ p.off + 7 ≤ cs.size ∧ K (.agg (cs.extract p.off (p.off + 7))) w := op_ldn (by kernel_rfl)
@[simp] theorem ld_ld_54 {p : Addr} : nP.ld (.load 54 (.pointer (some p))) w K1 = ∃ cs e fz, w.heap[p.block]? = some (.cells cs e fz) ∧ p.spot = none ∧ p.off + 7 ≤ cs.size ∧ K1 (.agg (cs.extract p.off (p.off + 7))) := ld_ldn (by kernel_rfl)
@[simp] theorem same_ld_54 {p : Addr} {v : Value} : nP.same (.load 54 (.pointer (some p))) v w = ∃ cs e fz, w.heap[p.block]? = some (.cells cs e fz) ∧ p.spot = none ∧ p.off + 7 ≤ cs.size ∧ .agg (cs.extract p.off (p.off + 7)) = v := same_ldn (by kernel_rfl)
@[simp] theorem op_fa_54_1 {p : Addr} : nP.op (.fieldAddr 54 (.pointer (some p)) 1) w K Kp = K (.pointer (some (p.add 1))) w := op_fa (k := .one) (by kernel_rfl)
@[simp] theorem pur_fa_54_1 {p : Addr} : nP.pur (.fieldAddr 54 (.pointer (some p)) 1) K1 = K1 (.pointer (some (p.add 1))) := pur_fa (k := .one) (by kernel_rfl)
@[simp] theorem op_len_137 {a : Option Addr} {n c ty : Nat} : nP.op (.blt .len [137] ty [.slice a n c]) w K Kp = K (.int .i64 n) w := op_len_slice (by kernel_rfl)
@[simp] theorem pur_len_137 {a : Option Addr} {n c ty : Nat} : nP.pur (.blt .len [137] ty [.slice a n c]) K1 = K1 (.int .i64 n) := pur_len_slice (by kernel_rfl)
@[simp] theorem ld_len_137 {a : Option Addr} {n c ty : Nat} : nP.ld (.blt .len [137] ty [.slice a n c]) w K1 = K1 (.int .i64 n) := ld_len_slice (by kernel_rfl)
@[simp] theorem same_len_137 {a : Option Addr} {n c ty : Nat} {u : Value} : nP.same (.blt .len [137] ty [.slice a n c]) u w = (.int .i64 n = u) := same_len_slice (by kernel_rfl)
@[simp] theorem call_65 {args : List Value} : nP.call (.fn 65) args w K Kp = Calls Tryz.prog 65 args.toArray w (ret K Kp) := call_fn (by kernel_rfl)
@[simp] theorem op_ix_137 {p : Addr} {len cap : Nat} {k : IntKind} {j : Int} : nP.op (.indexAddr 137 (.slice (some p) len cap) (.int k j)) w K Kp = ((0 ≤ j ∧ j < (len : Int)) ∧ K (.pointer (some (p.add (j.toNat * 1)))) w) := op_ix_slice (e := 135) (by kernel_rfl)
@[simp] theorem pur_ix_137 {p : Addr} {len cap : Nat} {k : IntKind} {j : Int} : nP.pur (.indexAddr 137 (.slice (some p) len cap) (.int k j)) K1 = ((0 ≤ j ∧ j < (len : Int)) ∧ K1 (.pointer (some (p.add (j.toNat * 1))))) := pur_ix_slice (e := 135) (by kernel_rfl)
@[simp] theorem op_fa_54_0 {p : Addr} : nP.op (.fieldAddr 54 (.pointer (some p)) 0) w K Kp = K (.pointer (some (p.add 0))) w := op_fa (k := .one) (by kernel_rfl)
@[simp] theorem pur_fa_54_0 {p : Addr} : nP.pur (.fieldAddr 54 (.pointer (some p)) 0) K1 = K1 (.pointer (some (p.add 0))) := pur_fa (k := .one) (by kernel_rfl)
@[simp] theorem op_fa_98_0 {p : Addr} : nP.op (.fieldAddr 98 (.pointer (some p)) 0) w K Kp = K (.pointer (some (p.add 0))) w := op_fa (k := .one) (by kernel_rfl)
@[simp] theorem pur_fa_98_0 {p : Addr} : nP.pur (.fieldAddr 98 (.pointer (some p)) 0) K1 = K1 (.pointer (some (p.add 0))) := pur_fa (k := .one) (by kernel_rfl)
@[simp] theorem op_ld_94 {p : Addr} : nP.op (.load 94 (.pointer (some p))) w K Kp = ∃ cs e fz, w.heap[p.block]? = some (.cells cs e fz) ∧ p.spot = none ∧ ∃ v, cs[p.off]? = some v ∧ K v w := op_ld (by kernel_rfl)
@[simp] theorem ld_ld_94 {p : Addr} : nP.ld (.load 94 (.pointer (some p))) w K1 = ∃ cs e fz, w.heap[p.block]? = some (.cells cs e fz) ∧ p.spot = none ∧ ∃ v, cs[p.off]? = some v ∧ K1 v := ld_ld (by kernel_rfl)
@[simp] theorem same_ld_94 {p : Addr} {v : Value} : nP.same (.load 94 (.pointer (some p))) v w = ∃ cs e fz, w.heap[p.block]? = some (.cells cs e fz) ∧ p.spot = none ∧ cs[p.off]? = some v := same_ld (by kernel_rfl)
@[simp] theorem op_fa_54_4 {p : Addr} : nP.op (.fieldAddr 54 (.pointer (some p)) 4) w K Kp = K (.pointer (some (p.add 4))) w := op_fa (k := .one) (by kernel_rfl)
@[simp] theorem pur_fa_54_4 {p : Addr} : nP.pur (.fieldAddr 54 (.pointer (some p)) 4) K1 = K1 (.pointer (some (p.add 4))) := pur_fa (k := .one) (by kernel_rfl)
@[simp] theorem call_80 {args : List Value} : nP.call (.fn 80) args w K Kp = Calls Tryz.prog 80 args.toArray w (ret K Kp) := call_fn (by kernel_rfl)
@[simp] theorem call_81 {args : List Value} : nP.call (.fn 81) args w K Kp = Calls Tryz.prog 81 args.toArray w (ret K Kp) := call_fn (by kernel_rfl)
@[simp] theorem call_82 {args : List Value} : nP.call (.fn 82) args w K Kp = Calls Tryz.prog 82 args.toArray w (ret K Kp) := call_fn (by kernel_rfl)
@[simp] theorem op_fa_56_0 {p : Addr} : nP.op (.fieldAddr 56 (.pointer (some p)) 0) w K Kp = K (.pointer (some (p.add 0))) w := op_fa (k := .one) (by kernel_rfl)
@[simp] theorem pur_fa_56_0 {p : Addr} : nP.pur (.fieldAddr 56 (.pointer (some p)) 0) K1 = K1 (.pointer (some (p.add 0))) := pur_fa (k := .one) (by kernel_rfl)
@[simp] theorem op_fa_56_2 {p : Addr} : nP.op (.fieldAddr 56 (.pointer (some p)) 2) w K Kp = K (.pointer (some (p.add 2))) w := op_fa (k := .one) (by kernel_rfl)
@[simp] theorem pur_fa_56_2 {p : Addr} : nP.pur (.fieldAddr 56 (.pointer (some p)) 2) K1 = K1 (.pointer (some (p.add 2))) := pur_fa (k := .one) (by kernel_rfl)
@[simp] theorem call_84 {args : List Value} : nP.call (.fn 84) args w K Kp = Calls Tryz.prog 84 args.toArray w (ret K Kp) := call_fn (by kernel_rfl)
@[simp] theorem call_83 {args : List Value} : nP.call (.fn 83) args w K Kp = Calls Tryz.prog 83 args.toArray w (ret K Kp) := call_fn (by kernel_rfl)
@[simp] theorem call_85 {args : List Value} : nP.call (.fn 85) args w K Kp = Calls Tryz.prog 85 args.toArray w (ret K Kp) := call_fn (by kernel_rfl)
@[simp] theorem op_fa_56_3 {p : Addr} : nP.op (.fieldAddr 56 (.pointer (some p)) 3) w K Kp = K (.pointer (some (p.add 3))) w := op_fa (k := .one) (by kernel_rfl)
@[simp] theorem pur_fa_56_3 {p : Addr} : nP.pur (.fieldAddr 56 (.pointer (some p)) 3) K1 = K1 (.pointer (some (p.add 3))) := pur_fa (k := .one) (by kernel_rfl)
@[simp] theorem op_ld_46 {p : Addr} : nP.op (.load 46 (.pointer (some p))) w K Kp = ∃ cs e fz, w.heap[p.block]? = some (.cells cs e fz) ∧ p.spot = none ∧ ∃ v, cs[p.off]? = some v ∧ K v w := op_ld (by kernel_rfl)
@[simp] theorem ld_ld_46 {p : Addr} : nP.ld (.load 46 (.pointer (some p))) w K1 = ∃ cs e fz, w.heap[p.block]? = some (.cells cs e fz) ∧ p.spot = none ∧ ∃ v, cs[p.off]? = some v ∧ K1 v := ld_ld (by kernel_rfl)
@[simp] theorem same_ld_46 {p : Addr} {v : Value} : nP.same (.load 46 (.pointer (some p))) v w = ∃ cs e fz, w.heap[p.block]? = some (.cells cs e fz) ∧ p.spot = none ∧ cs[p.off]? = some v := same_ld (by kernel_rfl)
@[simp] theorem op_fa_56_1 {p : Addr} : nP.op (.fieldAddr 56 (.pointer (some p)) 1) w K Kp = K (.pointer (some (p.add 1))) w := op_fa (k := .one) (by kernel_rfl)
@[simp] theorem pur_fa_56_1 {p : Addr} : nP.pur (.fieldAddr 56 (.pointer (some p)) 1) K1 = K1 (.pointer (some (p.add 1))) := pur_fa (k := .one) (by kernel_rfl)
@[simp] theorem call_86 {args : List Value} : nP.call (.fn 86) args w K Kp = Calls Tryz.prog 86 args.toArray w (ret K Kp) := call_fn (by kernel_rfl)
@[simp] theorem call_88 {args : List Value} : nP.call (.fn 88) args w K Kp = Calls Tryz.prog 88 args.toArray w (ret K Kp) := call_fn (by kernel_rfl)
@[simp] theorem op_fa_54_5 {p : Addr} : nP.op (.fieldAddr 54 (.pointer (some p)) 5) w K Kp = K (.pointer (some (p.add 5))) w := op_fa (k := .one) (by kernel_rfl)
@[simp] theorem pur_fa_54_5 {p : Addr} : nP.pur (.fieldAddr 54 (.pointer (some p)) 5) K1 = K1 (.pointer (some (p.add 5))) := pur_fa (k := .one) (by kernel_rfl)
@[simp] theorem op_fa_98_1 {p : Addr} : nP.op (.fieldAddr 98 (.pointer (some p)) 1) w K Kp = K (.pointer (some (p.add 1))) w := op_fa (k := .one) (by kernel_rfl)
@[simp] theorem pur_fa_98_1 {p : Addr} : nP.pur (.fieldAddr 98 (.pointer (some p)) 1) K1 = K1 (.pointer (some (p.add 1))) := pur_fa (k := .one) (by kernel_rfl)
@[simp] theorem op_ld_95 {p : Addr} : nP.op (.load 95 (.pointer (some p))) w K Kp = ∃ cs e fz, w.heap[p.block]? = some (.cells cs e fz) ∧ p.spot = none ∧ ∃ v, cs[p.off]? = some v ∧ K v w := op_ld (by kernel_rfl)
@[simp] theorem ld_ld_95 {p : Addr} : nP.ld (.load 95 (.pointer (some p))) w K1 = ∃ cs e fz, w.heap[p.block]? = some (.cells cs e fz) ∧ p.spot = none ∧ ∃ v, cs[p.off]? = some v ∧ K1 v := ld_ld (by kernel_rfl)
@[simp] theorem same_ld_95 {p : Addr} {v : Value} : nP.same (.load 95 (.pointer (some p))) v w = ∃ cs e fz, w.heap[p.block]? = some (.cells cs e fz) ∧ p.spot = none ∧ cs[p.off]? = some v := same_ld (by kernel_rfl)
@[simp] theorem op_ld_56 {p : Addr} : nP.op (.load 56 (.pointer (some p))) w K Kp = ∃ cs e fz, w.heap[p.block]? = some (.cells cs e fz) ∧ p.spot = none ∧ p.off + 4 ≤ cs.size ∧ K (.agg (cs.extract p.off (p.off + 4))) w := op_ldn (by kernel_rfl)
@[simp] theorem ld_ld_56 {p : Addr} : nP.ld (.load 56 (.pointer (some p))) w K1 = ∃ cs e fz, w.heap[p.block]? = some (.cells cs e fz) ∧ p.spot = none ∧ p.off + 4 ≤ cs.size ∧ K1 (.agg (cs.extract p.off (p.off + 4))) := ld_ldn (by kernel_rfl)
@[simp] theorem same_ld_56 {p : Addr} {v : Value} : nP.same (.load 56 (.pointer (some p))) v w = ∃ cs e fz, w.heap[p.block]? = some (.cells cs e fz) ∧ p.spot = none ∧ p.off + 4 ≤ cs.size ∧ .agg (cs.extract p.off (p.off + 4)) = v := same_ldn (by kernel_rfl)
theorem lit_28_1 {y0_0 y0_1 y0_2 y0_3 : Value} : sliceLit Tryz.prog 28 1 [(0, .agg #[y0_0, y0_1, y0_2, y0_3])] = some (56, #[y0_0, y0_1, y0_2, y0_3]) := by
  have e : sliceLit Tryz.prog 28 1 [(0, .agg #[y0_0, y0_1, y0_2, y0_3])] = (Instr.fill (fun i => some (i * 4, 4)) (#[Value.int IntKind.i64 0, Value.int IntKind.i64 0, Value.bool false, Value.slice none 0 0]) [(0, .agg #[y0_0, y0_1, y0_2, y0_3])]).map fun cs => (56, cs) := by kernel_rfl
  rw [e]; simp [Instr.fill, Value.cells]
@[simp] theorem call_132 {args : List Value} : nP.call (.fn 132) args w K Kp = Calls Tryz.prog 132 args.toArray w (ret K Kp) := call_fn (by kernel_rfl)
@[simp] theorem op_fa_88_2 {p : Addr} : nP.op (.fieldAddr 88 (.pointer (some p)) 2) w K Kp = K (.pointer (some (p.add 2))) w := op_fa (k := .one) (by kernel_rfl)
@[simp] theorem pur_fa_88_2 {p : Addr} : nP.pur (.fieldAddr 88 (.pointer (some p)) 2) K1 = K1 (.pointer (some (p.add 2))) := pur_fa (k := .one) (by kernel_rfl)
@[simp] theorem op_ld_86 {p : Addr} : nP.op (.load 86 (.pointer (some p))) w K Kp = ∃ cs e fz, w.heap[p.block]? = some (.cells cs e fz) ∧ p.spot = none ∧ ∃ v, cs[p.off]? = some v ∧ K v w := op_ld (by kernel_rfl)
@[simp] theorem ld_ld_86 {p : Addr} : nP.ld (.load 86 (.pointer (some p))) w K1 = ∃ cs e fz, w.heap[p.block]? = some (.cells cs e fz) ∧ p.spot = none ∧ ∃ v, cs[p.off]? = some v ∧ K1 v := ld_ld (by kernel_rfl)
@[simp] theorem same_ld_86 {p : Addr} {v : Value} : nP.same (.load 86 (.pointer (some p))) v w = ∃ cs e fz, w.heap[p.block]? = some (.cells cs e fz) ∧ p.spot = none ∧ cs[p.off]? = some v := same_ld (by kernel_rfl)
@[simp] theorem call_64 {args : List Value} : nP.call (.fn 64) args w K Kp = Calls Tryz.prog 64 args.toArray w (ret K Kp) := call_fn (by kernel_rfl)
theorem lit_120_1 {x0 : Value} (h0 : x0.oneCell' = true) : sliceLit Tryz.prog 120 1 [(0, x0)] = some (118, #[x0]) := by
  have e : sliceLit Tryz.prog 120 1 [(0, x0)] = (Instr.fill (fun i => some (i * 1, 1)) (#[Value.pointer none]) [(0, x0)]).map fun cs => (118, cs) := by kernel_rfl
  rw [e]; simp [Instr.fill, cells_of_one h0]
@[simp] theorem op_len_120 {a : Option Addr} {n c ty : Nat} : nP.op (.blt .len [120] ty [.slice a n c]) w K Kp = K (.int .i64 n) w := op_len_slice (by kernel_rfl)
@[simp] theorem pur_len_120 {a : Option Addr} {n c ty : Nat} : nP.pur (.blt .len [120] ty [.slice a n c]) K1 = K1 (.int .i64 n) := pur_len_slice (by kernel_rfl)
@[simp] theorem ld_len_120 {a : Option Addr} {n c ty : Nat} : nP.ld (.blt .len [120] ty [.slice a n c]) w K1 = K1 (.int .i64 n) := ld_len_slice (by kernel_rfl)
@[simp] theorem same_len_120 {a : Option Addr} {n c ty : Nat} {u : Value} : nP.same (.blt .len [120] ty [.slice a n c]) u w = (.int .i64 n = u) := same_len_slice (by kernel_rfl)
@[simp] theorem op_ix_120 {p : Addr} {len cap : Nat} {k : IntKind} {j : Int} : nP.op (.indexAddr 120 (.slice (some p) len cap) (.int k j)) w K Kp = ((0 ≤ j ∧ j < (len : Int)) ∧ K (.pointer (some (p.add (j.toNat * 1)))) w) := op_ix_slice (e := 118) (by kernel_rfl)
@[simp] theorem pur_ix_120 {p : Addr} {len cap : Nat} {k : IntKind} {j : Int} : nP.pur (.indexAddr 120 (.slice (some p) len cap) (.int k j)) K1 = ((0 ≤ j ∧ j < (len : Int)) ∧ K1 (.pointer (some (p.add (j.toNat * 1))))) := pur_ix_slice (e := 118) (by kernel_rfl)
@[simp] theorem op_fa_88_0 {p : Addr} : nP.op (.fieldAddr 88 (.pointer (some p)) 0) w K Kp = K (.pointer (some (p.add 0))) w := op_fa (k := .one) (by kernel_rfl)
@[simp] theorem pur_fa_88_0 {p : Addr} : nP.pur (.fieldAddr 88 (.pointer (some p)) 0) K1 = K1 (.pointer (some (p.add 0))) := pur_fa (k := .one) (by kernel_rfl)
@[simp] theorem op_ld_84 {p : Addr} : nP.op (.load 84 (.pointer (some p))) w K Kp = ∃ cs e fz, w.heap[p.block]? = some (.cells cs e fz) ∧ p.spot = none ∧ ∃ v, cs[p.off]? = some v ∧ K v w := op_ld (by kernel_rfl)
@[simp] theorem ld_ld_84 {p : Addr} : nP.ld (.load 84 (.pointer (some p))) w K1 = ∃ cs e fz, w.heap[p.block]? = some (.cells cs e fz) ∧ p.spot = none ∧ ∃ v, cs[p.off]? = some v ∧ K1 v := ld_ld (by kernel_rfl)
@[simp] theorem same_ld_84 {p : Addr} {v : Value} : nP.same (.load 84 (.pointer (some p))) v w = ∃ cs e fz, w.heap[p.block]? = some (.cells cs e fz) ∧ p.spot = none ∧ cs[p.off]? = some v := same_ld (by kernel_rfl)
@[simp] theorem call_68 {args : List Value} : nP.call (.fn 68) args w K Kp = Calls Tryz.prog 68 args.toArray w (ret K Kp) := call_fn (by kernel_rfl)
@[simp] theorem call_70 {args : List Value} : nP.call (.fn 70) args w K Kp = Calls Tryz.prog 70 args.toArray w (ret K Kp) := call_fn (by kernel_rfl)
@[simp] theorem call_69 {args : List Value} : nP.call (.fn 69) args w K Kp = Calls Tryz.prog 69 args.toArray w (ret K Kp) := call_fn (by kernel_rfl)
@[simp] theorem call_71 {args : List Value} : nP.call (.fn 71) args w K Kp = Calls Tryz.prog 71 args.toArray w (ret K Kp) := call_fn (by kernel_rfl)
@[simp] theorem op_fa_88_1 {p : Addr} : nP.op (.fieldAddr 88 (.pointer (some p)) 1) w K Kp = K (.pointer (some (p.add 1))) w := op_fa (k := .one) (by kernel_rfl)
@[simp] theorem pur_fa_88_1 {p : Addr} : nP.pur (.fieldAddr 88 (.pointer (some p)) 1) K1 = K1 (.pointer (some (p.add 1))) := pur_fa (k := .one) (by kernel_rfl)
end Go.Proofs.YtodjijfblgnfmaaGreatDoor
end
section
namespace Go.Proofs.YtodjijfblgnfmaaGreatDoor
open Go.Vc Go.Proofs
variable {S : Sig} {a0 a1 a2 a3 a4 a5 a6 a7 a8 a9 : Value} {w : World} {K : KV} {Kp : KP}
private theorem follows_BVcK : Tryz.prog.follows .mixedOrders = true := by kernel_rfl
def vc43 (S : Sig) (w : World) (K : KV) (Kp : KP) : Prop :=
 S.op (.alloc 98) w (fun v0 w =>
 S.op (.build 98 [(0, (.func (Fn.func 89) #[] #[])), (1, (.func (Fn.func 90) #[] #[])), (2, (.func (Fn.func 91) #[] #[]))]) w (fun v1 w =>
 S.op (.store 98 v0 v1) w (fun _ w =>
 S.ld (.load 98 v0) w (fun r0 =>
 K r0 w)) Kp) Kp) Kp
theorem vc43_eq : vc43 S  w K Kp = fVC S [] [] Tryz.f43 [] w K Kp := by kernel_rfl
theorem vc43_calls (h : vc43 nP  w K Kp) : Calls Tryz.prog 43 #[] w (ret K Kp) :=
 fVC_sound (args := []) nice_le follows_BVcK Tryz.func43 (by kernel_rfl) (Eq.mp vc43_eq h)
def vc89 (S : Sig) (a0 a1 : Value) (w : World) (K : KV) (Kp : KP) : Prop :=
 K a0 w
theorem vc89_eq : vc89 S a0 a1 w K Kp = fVC S [] [] Tryz.f89 [a0, a1] w K Kp := by kernel_rfl
theorem vc89_calls (h : vc89 nP a0 a1 w K Kp) : Calls Tryz.prog 89 #[a0, a1] w (ret K Kp) :=
 fVC_sound (args := [a0, a1]) nice_le follows_BVcK Tryz.func89 (by kernel_rfl) (Eq.mp vc89_eq h)
def vc91 (S : Sig) (a0 a1 : Value) (w : World) (K : KV) (Kp : KP) : Prop :=
 S.op (.alloc 49) w (fun v4 w =>
 S.op (.build 49 [(0, a0), (2, a1)]) w (fun v7 w =>
 S.op (.store 49 v4 v7) w (fun _ w =>
 S.ld (.load 49 v4) w (fun r0 =>
 K r0 w)) Kp) Kp) Kp
theorem vc91_eq : vc91 S a0 a1 w K Kp = fVC S [] [] Tryz.f91 [a0, a1] w K Kp := by kernel_rfl
theorem vc91_calls (h : vc91 nP a0 a1 w K Kp) : Calls Tryz.prog 91 #[a0, a1] w (ret K Kp) :=
 fVC_sound (args := [a0, a1]) nice_le follows_BVcK Tryz.func91 (by kernel_rfl) (Eq.mp vc91_eq h)
def vc40 (S : Sig) (w : World) (K : KV) (Kp : KP) : Prop :=
 S.op (.alloc 88) w (fun v0 w =>
 S.op (.build 88 [(0, (.func (Fn.func 75) #[] #[])), (1, (.func (Fn.func 76) #[] #[])), (2, (.func (Fn.func 78) #[] #[]))]) w (fun v1 w =>
 S.op (.store 88 v0 v1) w (fun _ w =>
 S.ld (.load 88 v0) w (fun r0 =>
 K r0 w)) Kp) Kp) Kp
theorem vc40_eq : vc40 S  w K Kp = fVC S [] [] Tryz.f40 [] w K Kp := by kernel_rfl
theorem vc40_calls (h : vc40 nP  w K Kp) : Calls Tryz.prog 40 #[] w (ret K Kp) :=
 fVC_sound (args := []) nice_le follows_BVcK Tryz.func40 (by kernel_rfl) (Eq.mp vc40_eq h)
def vc75 (S : Sig) (a0 a1 : Value) (w : World) (K : KV) (Kp : KP) : Prop :=
 K a1 w
theorem vc75_eq : vc75 S a0 a1 w K Kp = fVC S [] [] Tryz.f75 [a0, a1] w K Kp := by kernel_rfl
theorem vc75_calls (h : vc75 nP a0 a1 w K Kp) : Calls Tryz.prog 75 #[a0, a1] w (ret K Kp) :=
 fVC_sound (args := [a0, a1]) nice_le follows_BVcK Tryz.func75 (by kernel_rfl) (Eq.mp vc75_eq h)
def vc78 (S : Sig) (a0 a1 : Value) (w : World) (K : KV) (Kp : KP) : Prop :=
 S.op (.alloc 49) w (fun v4 w =>
 S.op (.build 49 [(1, a0), (2, a1)]) w (fun v7 w =>
 S.op (.store 49 v4 v7) w (fun _ w =>
 S.ld (.load 49 v4) w (fun r0 =>
 K r0 w)) Kp) Kp) Kp
theorem vc78_eq : vc78 S a0 a1 w K Kp = fVC S [] [] Tryz.f78 [a0, a1] w K Kp := by kernel_rfl
theorem vc78_calls (h : vc78 nP a0 a1 w K Kp) : Calls Tryz.prog 78 #[a0, a1] w (ret K Kp) :=
 fVC_sound (args := [a0, a1]) nice_le follows_BVcK Tryz.func78 (by kernel_rfl) (Eq.mp vc78_eq h)
def vc44 (S : Sig) (a0 : Value) (w : World) (K : KV) (Kp : KP) : Prop :=
 S.op (.box 31 a0) w (fun v1 w =>
 S.op (.fieldAddr 31 v1 0) w (fun v3 w =>
 S.op (.load 5 v3) w (fun v4 w =>
 S.op (.bin .eql 5 false true v4 (.int .u8 0)) w (fun v5 w =>
 Br v5 (
 K .nilIface w) (
 S.op (.load 31 v1) w (fun v6 w =>
 S.op (.build 146 [(0, v6)]) w (fun v7 w =>
 S.op (.mkIface 146 v7) w (fun v8 w =>
 K v8 w) Kp) Kp) Kp)) Kp) Kp) Kp) Kp
theorem vc44_eq : vc44 S a0 w K Kp = fVC S [] [] Tryz.f44 [a0] w K Kp := by kernel_rfl
theorem vc44_calls (h : vc44 nP a0 w K Kp) : Calls Tryz.prog 44 #[a0] w (ret K Kp) :=
 fVC_sound (args := [a0]) nice_le follows_BVcK Tryz.func44 (by kernel_rfl) (Eq.mp vc44_eq h)
def vc41 (S : Sig) (a0 : Value) (w : World) (K : KV) (Kp : KP) : Prop :=
 S.op (.box 31 a0) w (fun v1 w =>
 S.op (.fieldAddr 31 v1 0) w (fun v3 w =>
 S.op (.load 5 v3) w (fun v4 w =>
 S.op (.bin .eql 5 false true v4 (.int .u8 0)) w (fun v5 w =>
 Br v5 (
 K .nilIface w) (
 S.op (.load 31 v1) w (fun v6 w =>
 S.op (.build 134 [(0, v6)]) w (fun v7 w =>
 S.op (.mkIface 134 v7) w (fun v8 w =>
 K v8 w) Kp) Kp) Kp)) Kp) Kp) Kp) Kp
theorem vc41_eq : vc41 S a0 w K Kp = fVC S [] [] Tryz.f41 [a0] w K Kp := by kernel_rfl
theorem vc41_calls (h : vc41 nP a0 w K Kp) : Calls Tryz.prog 41 #[a0] w (ret K Kp) :=
 fVC_sound (args := [a0]) nice_le follows_BVcK Tryz.func41 (by kernel_rfl) (Eq.mp vc41_eq h)
def vc65 (S : Sig) (a0 a1 : Value) (w : World) (K : KV) (Kp : KP) : Prop :=
 S.op (.bin .rem 3 false false a0 a1) w (fun v7 w =>
 S.op (.bin .lss 3 false true v7 (.int .i64 0)) w (fun v9 w =>
 Br v9 (
 S.op (.bin .add 3 false false v7 a1) w (fun v12 w =>
 K v12 w) Kp) (
 K v7 w)) Kp) Kp
theorem vc65_eq : vc65 S a0 a1 w K Kp = fVC S [] [] Tryz.f65 [a0, a1] w K Kp := by kernel_rfl
theorem vc65_calls (h : vc65 nP a0 a1 w K Kp) : Calls Tryz.prog 65 #[a0, a1] w (ret K Kp) :=
 fVC_sound (args := [a0, a1]) nice_le follows_BVcK Tryz.func65 (by kernel_rfl) (Eq.mp vc65_eq h)
def vc15 (S : Sig) (a0 a1 a2 : Value) (w : World) (K : KV) (Kp : KP) : Prop :=
 S.op (.box 4 a0) w (fun v3 w =>
 S.op (.box 31 a1) w (fun v4 w =>
 S.op (.box 32 a2) w (fun v5 w =>
 S.op (.alloc 28) w (fun v6 w =>
 S.op (.mkFunc (Fn.func 38) [] [v3, v4, v5, v6]) w (fun v8 w =>
 S.call (.fn 37) [v8] w (fun v9 w =>
 S.op (.un .not v9) w (fun v10 w =>
 S.op (.un .not v10) w (fun v12 w =>
 Br v12 (
 S.op (.store 28 v6 (.slice none 0 0)) w (fun _ w =>
 S.ld (.load 28 v6) w (fun r0 =>
 K (.tuple #[r0, (.bool false)]) w)) Kp) (
 S.op (.load 28 v6) w (fun v13 w =>
 S.op (.store 28 v6 v13) w (fun _ w =>
 S.ld (.load 28 v6) w (fun r0 =>
 K (.tuple #[r0, (.bool true)]) w)) Kp) Kp)) Kp) Kp) Kp) Kp) Kp) Kp) Kp) Kp
theorem vc15_eq : vc15 S a0 a1 a2 w K Kp = fVC S [] [] Tryz.f15 [a0, a1, a2] w K Kp := by kernel_rfl
theorem vc15_calls (h : vc15 nP a0 a1 a2 w K Kp) : Calls Tryz.prog 15 #[a0, a1, a2] w (ret K Kp) :=
 fVC_sound (args := [a0, a1, a2]) nice_le follows_BVcK Tryz.func15 (by kernel_rfl) (Eq.mp vc15_eq h)
def vc38 (S : Sig) (a0 a1 a2 a3 : Value) (w : World) (K : KV) (Kp : KP) : Prop :=
 S.op (.load 4 a0) w (fun v4 w =>
 Br v4 (
 S.ld (.load 31 a1) w.drew (fun v6 =>
 S.ld (.load 32 a2) w.drew (fun v8 =>
 S.call (.fn 40) [] w.drew (fun v5 w =>
 S.same (.load 32 a2) v8 w ∧
 S.same (.load 31 a1) v6 w ∧
 S.call (.fn 41) [v6] w (fun v7 w =>
 S.same (.load 32 a2) v8 w ∧
 S.call (.fn 39) [v5, v7, v8] w (fun v9 w =>
 S.op (.store 28 a3 v9) w (fun _ w =>
 K (.tuple #[]) w) Kp) Kp) Kp) Kp))) (
 S.ld (.load 31 a1) w.drew (fun v11 =>
 S.ld (.load 32 a2) w.drew (fun v13 =>
 S.call (.fn 43) [] w.drew (fun v10 w =>
 S.same (.load 32 a2) v13 w ∧
 S.same (.load 31 a1) v11 w ∧
 S.call (.fn 44) [v11] w (fun v12 w =>
 S.same (.load 32 a2) v13 w ∧
 S.call (.fn 42) [v10, v12, v13] w (fun v14 w =>
 S.op (.store 28 a3 v14) w (fun _ w =>
 K (.tuple #[]) w) Kp) Kp) Kp) Kp)))) Kp
theorem vc38_eq : vc38 S a0 a1 a2 a3 w K Kp = fVC S [] [] Tryz.f38 [a0, a1, a2, a3] w K Kp := by kernel_rfl
theorem vc38_calls (h : vc38 nP a0 a1 a2 a3 w K Kp) : Calls Tryz.prog 38 #[a0, a1, a2, a3] w (ret K Kp) :=
 fVC_sound (args := [a0, a1, a2, a3]) nice_le follows_BVcK Tryz.func38 (by kernel_rfl) (Eq.mp vc38_eq h)
end Go.Proofs.YtodjijfblgnfmaaGreatDoor
end
section
namespace Go.Proofs.YtodjijfblgnfmaaGreatDoor.I
open Go.Vc Go.Proofs Go.Proofs.YtodjijfblgnfmaaGreatDoor Go.Vc.Bt
variable {w w' : World} {K : KV} {Kp : KP} {kn : Nat} {n : Int}
def kdV : Value := .agg #[.func (.func 89) #[] #[], .func (.func 90) #[] #[], .func (.func 91) #[] #[]]
def kd : Kd Ky := ⟨fun n _ => n, fun s i => IntKind.i64.wrap (s.key + IntKind.i64.wrap ((i : Int) * s.by')), fun k v => ⟨k, ByteArray.empty, v⟩⟩
theorem key_ok {s : ByteArray} (hs : s.size ≤ 100) (hK : K (ek (kd.key n s)) w) :
    Calls Tryz.prog 89 #[.int .i64 n, .string s] w (ret K Kp) := by
  refine vc89_calls ?_
  exact hK
theorem pair_ok {k : Ky} {v : Vl} (hK : ∀ w', Frm (fun _ => False) w w' → K (.agg (kd.pair k v).cells.toArray) w') :
    Calls Tryz.prog 91 #[ek k, ev v] w (ret K Kp) := by
  refine vc91_calls ?_
  delta vc91
  refine op_alloc_ok (z := .agg #[.int .i64 0, .string ByteArray.empty, .int .i64 0]) (by kernel_rfl) fun w1 k1 z1 b1 => ?_
  simp only [cells_agg] at b1
  rw [op_build_49_0_2 (x0 := ek k) (x2 := ev v) rfl rfl]
  refine op_storeN_ok (n := 3) (by kernel_rfl) b1 rfl (by decide) (fun u hu => ?_) fun w2 k2 z2 b2 => ?_
  · simp only [List.mem_toArray, List.mem_cons, List.not_mem_nil, or_false] at hu
    rcases hu with rfl | rfl | rfl <;> rfl
  rw [ow_all (by simp)] at b2
  have := hK w2 (k1.old k2 fun c hc => .inr (by omega))
  simp [-getElem?_pos, -Array.getElem?_eq_getElem, -Int.natCast_add, b2]
  exact this
def ManyOk (w0 : World) : Prop := ∀ {s : SSt} {i : Nat} {w : World} {K : KV} {Kp : KP}, s.text.size ≤ 100 → Frm (fun _ => False) w0 w → (∀ w', Frm (fun _ => False) w w' → K (ek (kd.many s i)) w') →
  Calls Tryz.prog 90 #[.agg s.cells.toArray, .int .i64 i] w (ret K Kp)
theorem keys_ok (hK : ∀ w', Frm (fun _ => False) w w' → K kdV w') :
    Calls Tryz.prog 43 #[] w (ret K Kp) := by
  refine vc43_calls ?_
  delta vc43
  refine op_alloc_ok (z := .agg #[.nilFunc, .nilFunc, .nilFunc]) (by kernel_rfl) fun w1 k1 z1 b1 => ?_
  simp only [cells_agg] at b1
  rw [op_build_98_0_1_2 rfl rfl rfl]
  refine op_storeN_ok (n := 3) (by kernel_rfl) b1 rfl (by decide) (fun u hu => ?_) fun w2 k2 z2 b2 => ?_
  · simp only [List.mem_toArray, List.mem_cons, List.not_mem_nil, or_false] at hu
    rcases hu with rfl | rfl | rfl <;> rfl
  rw [ow_all (by simp)] at b2
  have := hK w2 (k1.old k2 fun c hc => .inr (by omega))
  simp [-getElem?_pos, -Array.getElem?_eq_getElem, -Int.natCast_add, b2]
  exact this
def orderV (kn : Nat) (n : Int) : Value := .agg #[.int .u8 kn, .int .i64 n]
theorem comparer_ok (h1 : -9223372036854775808 ≤ n) (h2 : n ≤ 9223372036854775807) (hK : ∀ cv w', Frm (fun _ => False) w w' → CmpOk cv (ordI kn n) none → K cv w') :
    Calls Tryz.prog 44 #[orderV kn n] w (ret K Kp) := by
  refine vc44_calls ?_
  delta vc44 orderV
  refine op_box_ok fun w1 k1 z1 b1 => ?_
  simp only [cells_agg] at b1
  have hx : (#[.int .u8 kn, .int .i64 n] : Array Value).extract 0 2 = #[.int .u8 kn, .int .i64 n] := rfl
  simp [-getElem?_pos, -Array.getElem?_eq_getElem, -Int.natCast_add, b1, hx]
  refine ⟨fun h => ?_, fun h => ?_⟩
  · have h : kn = 0 := by omega
    subst h
    have e : ordI 0 n = ordI 0 0 := by
      unfold ordI; simp
    exact hK .nilIface w1 k1 (.inr ⟨rfl, by rw [e]; exact dflt_ok, rfl⟩)
  · exact hK (cmpV kn n) w1 k1 (.inl (cmpV_ok h1 h2))
theorem at_ok {m : Nat} (h0 : 0 < m) (hm : m < 2 ^ 31) (hK : K (.int .i64 ((n % (m : Int)).toNat : Nat)) w) : Calls Tryz.prog 65 #[.int .i64 n, .int .i64 m] w (ret K Kp) := by
  refine vc65_calls ?_
  delta vc65
  obtain ⟨t1, t2, t3⟩ := tmod_pos (a := n) (m := (m : Int)) (by omega)
  have hp := Int.emod_nonneg n (b := (m : Int)) (by omega)
  have e : (((n % (m : Int)).toNat : Nat) : Int) = n % (m : Int) := by omega
  rw [e] at hK
  simp [-getElem?_pos, -Array.getElem?_eq_getElem, -Int.natCast_add]
  refine ⟨by omega, fun h => ?_, fun h => ?_⟩
  · rw [if_pos h] at t3
    rw [show IntKind.i64.wrap (n.tmod m + m) = n % (m : Int) from by rw [IntKind.wrap_i64]; omega]
    exact hK
  · rw [if_neg (by omega)] at t3
    rw [← t3]; exact hK
end Go.Proofs.YtodjijfblgnfmaaGreatDoor.I
end
section
namespace Go.Proofs.YtodjijfblgnfmaaGreatDoor
open Go.Vc Go.Proofs
variable {S : Sig} {a0 a1 a2 a3 a4 a5 a6 a7 a8 a9 : Value} {w : World} {K : KV} {Kp : KP}
private theorem follows_BVcKI : Tryz.prog.follows .mixedOrders = true := by kernel_rfl
def vc83 (S : Sig) (a0 a1 : Value) (w : World) (K : KV) (Kp : KP) : Prop :=
 S.op (.box 98 a0) w (fun v2 w =>
 Lp fun (I2 : KV) (μ2 : Value → World → Nat) => I2 (.slice none 0 0) w ∧
 ∀ (wl2 : World) (_ : Nat → Value) (s5 : Value), I2 s5 wl2 →
 S.call (.fn 87) [a1] wl2 (fun v10 w =>
 S.op (.un .not v10) w (fun v11 w =>
 Br v11 (
 S.call (.fn 138) [a1] w (fun v14 w =>
 S.op (.extract v14 0) w (fun v15 w =>
 S.op (.extract v14 1) w (fun v16 w =>
 S.op (.extract v14 2) w (fun v17 w =>
 S.op (.fieldAddr 98 v2 2) w (fun v19 w =>
 S.op (.load 96 v19) w (fun v20 w =>
 S.call (.val v20) [v15, v16] w (fun v23 w =>
 S.op (.buildSlice 46 1 [(0, v23)]) w (fun v24 w =>
 S.op (.blt .append [46, 46] 46 [s5, v24]) w (fun v25 w =>
 I2 v25 w ∧ μ2 v25 w < μ2 s5 wl2) Kp) Kp) Kp) Kp) Kp) Kp) Kp) Kp) Kp) (
 K s5 w)) Kp) Kp) Kp
theorem vc83_eq : vc83 S a0 a1 w K Kp = fVC S [(2, [5])] [] Tryz.f83 [a0, a1] w K Kp := by kernel_rfl
theorem vc83_calls (h : vc83 nP a0 a1 w K Kp) : Calls Tryz.prog 83 #[a0, a1] w (ret K Kp) :=
 fVC_sound (args := [a0, a1]) nice_le follows_BVcKI Tryz.func83 (by kernel_rfl) (Eq.mp vc83_eq h)
def vc42 (S : Sig) (a0 a1 a2 : Value) (w : World) (K : KV) (Kp : KP) : Prop :=
 S.op (.box 98 a0) w (fun v3 w =>
 S.call (.fn 79) [a1] w (fun v20 w =>
 S.op (.buildSlice 137 1 [(0, v20)]) w (fun v21 w =>
 S.op (.blt .len [32] 3 [a2]) w (fun v23 w =>
 Lp fun (I4 : Value → Value → KV) (μ4 : Value → Value → Value → World → Nat) => I4 v21 (.slice none 0 0) (.int .i64 0) w ∧
 ∀ (wl4 : World) (_ : Nat → Value) (s7 : Value) (s8 : Value) (s24 : Value), I4 s7 s8 s24 wl4 →
 S.op (.bin .lss 3 false false s24 v23) wl4 (fun v25 w =>
 Br v25 (
 S.op (.indexAddr 32 a2 s24) w (fun v26 w =>
 S.op (.load 54 v26) w (fun v27 w =>
 S.op (.alloc 54) w (fun v10 w =>
 S.op (.store 54 v10 v27) w (fun _ w =>
 S.op (.fieldAddr 54 v10 1) w (fun v29 w =>
 S.op (.load 3 v29) w (fun v30 w =>
 S.op (.blt .len [137] 3 [s7]) w (fun v32 w =>
 S.call (.fn 65) [v30, v32] w (fun v33 w =>
 S.op (.indexAddr 137 s7 v33) w (fun v34 w =>
 S.op (.load 135 v34) w (fun v35 w =>
 S.op (.alloc 56) w (fun v12 w =>
 Jn fun (J34 : KV) =>
 (S.op (.fieldAddr 54 v10 0) w (fun v36 w =>
 S.op (.load 5 v36) w (fun v37 w =>
 S.op (.bin .eql 5 false true v37 (.int .u8 0)) w (fun v39 w =>
 Br v39 (
 S.pur (.fieldAddr 98 v3 0) (fun v41 =>
 S.ld (.load 94 v41) w.drew (fun v42 =>
 S.pur (.fieldAddr 54 v10 2) (fun v43 =>
 S.ld (.load 2 v43) w.drew (fun v44 =>
 S.pur (.fieldAddr 54 v10 3) (fun v45 =>
 S.ld (.load 9 v45) w.drew (fun v46 =>
 S.pur (.fieldAddr 54 v10 4) (fun v48 =>
 S.ld (.load 2 v48) w.drew (fun v49 =>
 S.call (.val v42) [v44, v46] w.drew (fun v47 w =>
 S.same (.load 2 v48) v49 w ∧
 S.call (.fn 80) [v35, v47, v49] w (fun v50 w =>
 J34 v50 w) Kp) Kp))))))))) (
 S.op (.bin .eql 5 false true v37 (.int .u8 1)) w (fun v52 w =>
 Br v52 (
 S.op (.fieldAddr 98 v3 0) w (fun v54 w =>
 S.op (.load 94 v54) w (fun v55 w =>
 S.op (.fieldAddr 54 v10 2) w (fun v56 w =>
 S.op (.load 2 v56) w (fun v57 w =>
 S.op (.fieldAddr 54 v10 3) w (fun v58 w =>
 S.op (.load 9 v58) w (fun v59 w =>
 S.call (.val v55) [v57, v59] w (fun v60 w =>
 S.call (.fn 81) [v35, v60] w (fun v61 w =>
 J34 v61 w) Kp) Kp) Kp) Kp) Kp) Kp) Kp) Kp) (
 S.op (.bin .eql 5 false true v37 (.int .u8 2)) w (fun v63 w =>
 Br v63 (
 S.op (.fieldAddr 98 v3 0) w (fun v66 w =>
 S.op (.load 94 v66) w (fun v67 w =>
 S.op (.fieldAddr 54 v10 2) w (fun v68 w =>
 S.op (.load 2 v68) w (fun v69 w =>
 S.op (.fieldAddr 54 v10 3) w (fun v70 w =>
 S.op (.load 9 v70) w (fun v71 w =>
 S.call (.val v67) [v69, v71] w (fun v72 w =>
 S.call (.fn 82) [v35, v72] w (fun v73 w =>
 S.op (.extract v73 0) w (fun v74 w =>
 S.op (.extract v73 1) w (fun v75 w =>
 S.op (.fieldAddr 56 v12 0) w (fun v76 w =>
 S.op (.store 2 v76 v74) w (fun _ w =>
 S.op (.fieldAddr 56 v12 2) w (fun v77 w =>
 S.op (.store 4 v77 v75) w (fun _ w =>
 J34 v35 w) Kp) Kp) Kp) Kp) Kp) Kp) Kp) Kp) Kp) Kp) Kp) Kp) Kp) Kp) (
 S.op (.bin .eql 5 false true v37 (.int .u8 3)) w (fun v79 w =>
 Br v79 (
 S.ld (.load 98 v3) w.drew (fun v80 =>
 S.call (.fn 84) [v35] w.drew (fun v82 w =>
 S.same (.load 98 v3) v80 w ∧
 S.call (.fn 83) [v80, v82] w (fun v83 w =>
 S.pur (.fieldAddr 56 v12 3) (fun v86 =>
 S.call (.fn 85) [v35] w (fun v85 w =>
 S.op (.store 46 v86 v83) w (fun _ w =>
 S.pur (.fieldAddr 56 v12 1) (fun v87 =>
 S.op (.store 3 v87 v85) w (fun _ w =>
 J34 v35 w) Kp)) Kp) Kp)) Kp) Kp)) (
 S.op (.bin .eql 5 false true v37 (.int .u8 4)) w (fun v89 w =>
 Br v89 (
 S.call (.fn 85) [v35] w (fun v91 w =>
 S.op (.fieldAddr 56 v12 1) w (fun v92 w =>
 S.op (.store 3 v92 v91) w (fun _ w =>
 S.call (.fn 84) [v35] w (fun v94 w =>
 S.call (.fn 86) [v94] w (fun v96 w =>
 Lp fun (I21 : World → Prop) (μ21 : World → Nat) => I21 w ∧
 ∀ (wl21 : World) (_ : Nat → Value), I21 wl21 →
 S.call (.fn 87) [v94] wl21 (fun v98 w =>
 S.op (.un .not v98) w (fun v99 w =>
 Br v99 (
 S.call (.fn 88) [v94] w (fun v102 w =>
 S.op (.extract v102 0) w (fun v103 w =>
 S.op (.extract v102 1) w (fun v104 w =>
 S.op (.extract v102 2) w (fun v105 w =>
 S.pur (.fieldAddr 56 v12 3) (fun v106 =>
 S.ld (.load 46 v106) w.drew (fun v107 =>
 S.pur (.fieldAddr 98 v3 2) (fun v108 =>
 S.ld (.load 96 v108) w.drew (fun v109 =>
 S.call (.val v109) [v103, v104] w.drew (fun v112 w =>
 S.same (.load 46 v106) v107 w ∧
 S.op (.buildSlice 46 1 [(0, v112)]) w (fun v113 w =>
 S.same (.load 46 v106) v107 w ∧
 S.op (.blt .append [46, 46] 46 [v107, v113]) w (fun v114 w =>
 S.pur (.fieldAddr 56 v12 3) (fun v115 =>
 S.op (.store 46 v115 v114) w (fun _ w =>
 I21 w ∧ μ21 w < μ21 wl21) Kp)) Kp) Kp) Kp))))) Kp) Kp) Kp) Kp) (
 J34 v35 w)) Kp) Kp) Kp) Kp) Kp) Kp) Kp) (
 S.op (.bin .eql 5 false true v37 (.int .u8 5)) w (fun v117 w =>
 Br v117 (
 Lp fun (I26 : Value → KV) (μ26 : Value → Value → World → Nat) => I26 v35 (.int .i64 0) w ∧
 ∀ (wl26 : World) (_ : Nat → Value) (s11 : Value) (s17 : Value), I26 s11 s17 wl26 →
 S.op (.fieldAddr 54 v10 5) wl26 (fun v119 w =>
 S.op (.load 3 v119) w (fun v120 w =>
 S.op (.bin .lss 3 false false s17 v120) w (fun v121 w =>
 Br v121 (
 S.pur (.fieldAddr 98 v3 1) (fun v125 =>
 S.ld (.load 95 v125) w.drew (fun v126 =>
 S.ld (.load 54 v10) w.drew (fun v127 =>
 S.pur (.fieldAddr 54 v10 4) (fun v130 =>
 S.ld (.load 2 v130) w.drew (fun v131 =>
 S.pur (.bin .add 2 false false v131 s17) (fun v133 =>
 S.call (.val v126) [v127, s17] w.drew (fun v129 w =>
 S.same (.load 2 v130) v131 w ∧
 S.call (.fn 80) [s11, v129, v133] w (fun v134 w =>
 S.op (.bin .add 3 false true s17 (.int .i64 1)) w (fun v123 w =>
 I26 v134 v123 w ∧ μ26 v134 v123 w < μ26 s11 s17 wl26) Kp) Kp) Kp))))))) (
 J34 s11 w)) Kp) Kp) Kp) (
 S.op (.bin .eql 5 false true v37 (.int .u8 6)) w (fun v136 w =>
 Br v136 (
 Lp fun (I31 : Value → KV) (μ31 : Value → Value → World → Nat) => I31 v35 (.int .i64 0) w ∧
 ∀ (wl31 : World) (_ : Nat → Value) (s11 : Value) (s18 : Value), I31 s11 s18 wl31 →
 S.op (.fieldAddr 54 v10 5) wl31 (fun v138 w =>
 S.op (.load 3 v138) w (fun v139 w =>
 S.op (.bin .lss 3 false false s18 v139) w (fun v140 w =>
 Br v140 (
 S.op (.fieldAddr 98 v3 1) w (fun v144 w =>
 S.op (.load 95 v144) w (fun v145 w =>
 S.op (.load 54 v10) w (fun v146 w =>
 S.call (.val v145) [v146, s18] w (fun v148 w =>
 S.call (.fn 81) [s11, v148] w (fun v149 w =>
 S.op (.bin .add 3 false true s18 (.int .i64 1)) w (fun v142 w =>
 I31 v149 v142 w ∧ μ31 v149 v142 w < μ31 s11 s18 wl31) Kp) Kp) Kp) Kp) Kp) Kp) (
 J34 s11 w)) Kp) Kp) Kp) (
 J34 v35 w)) Kp)) Kp)) Kp)) Kp)) Kp)) Kp)) Kp) Kp) Kp) ∧
 (∀ (w : World) (_ : Nat → Value) (j11 : Value), J34 j11 w →
 S.op (.fieldAddr 54 v10 0) w (fun v150 w =>
 S.op (.load 5 v150) w (fun v151 w =>
 Jn fun (J39 : KV) =>
 (S.op (.bin .eql 5 false true v151 (.int .u8 0)) w (fun v153 w =>
 Br v153 (
 J39 v153 w) (
 S.op (.bin .eql 5 false true v151 (.int .u8 1)) w (fun v154 w =>
 Br v154 (
 J39 v154 w) (
 S.op (.bin .eql 5 false true v151 (.int .u8 5)) w (fun v155 w =>
 Br v155 (
 J39 v155 w) (
 S.op (.bin .eql 5 false true v151 (.int .u8 6)) w (fun v156 w =>
 J39 v156 w) Kp)) Kp)) Kp)) Kp) ∧
 (∀ (w : World) (_ : Nat → Value) (j152 : Value), J39 j152 w →
 Br j152 (
 S.call (.fn 85) [j11] w (fun v158 w =>
 S.op (.fieldAddr 56 v12 1) w (fun v159 w =>
 S.op (.store 3 v159 v158) w (fun _ w =>
 S.op (.buildSlice 137 1 [(0, j11)]) w (fun v162 w =>
 S.op (.blt .append [137, 137] 137 [s7, v162]) w (fun v163 w =>
 S.op (.load 56 v12) w (fun v165 w =>
 S.op (.buildSlice 28 1 [(0, v165)]) w (fun v166 w =>
 S.op (.blt .append [28, 28] 28 [s8, v166]) w (fun v167 w =>
 S.op (.bin .add 3 false true s24 (.int .i64 1)) w (fun v168 w =>
 I4 v163 v167 v168 w ∧ μ4 v163 v167 v168 w < μ4 s7 s8 s24 wl4) Kp) Kp) Kp) Kp) Kp) Kp) Kp) Kp) Kp) (
 S.op (.load 56 v12) w (fun v165 w =>
 S.op (.buildSlice 28 1 [(0, v165)]) w (fun v166 w =>
 S.op (.blt .append [28, 28] 28 [s8, v166]) w (fun v167 w =>
 S.op (.bin .add 3 false true s24 (.int .i64 1)) w (fun v168 w =>
 I4 s7 v167 v168 w ∧ μ4 s7 v167 v168 w < μ4 s7 s8 s24 wl4) Kp) Kp) Kp) Kp))) Kp) Kp)) Kp) Kp) Kp) Kp) Kp) Kp) Kp) Kp) Kp) Kp) Kp) (
 K s8 w)) Kp) Kp) Kp) Kp) Kp
theorem vc42_eq : vc42 S a0 a1 a2 w K Kp = fVC S [(4, [7, 8, 24]), (21, []), (26, [11, 17]), (31, [11, 18])] [(34, [11]), (39, [152])] Tryz.f42 [a0, a1, a2] w K Kp := by kernel_rfl
theorem vc42_calls (h : vc42 nP a0 a1 a2 w K Kp) : Calls Tryz.prog 42 #[a0, a1, a2] w (ret K Kp) :=
 fVC_sound (args := [a0, a1, a2]) nice_le follows_BVcKI Tryz.func42 (by kernel_rfl) (Eq.mp vc42_eq h)
end Go.Proofs.YtodjijfblgnfmaaGreatDoor
end
section
namespace Go.Vc
variable {P : Program} {w w' : World} {K : Value → World → Prop} {Kp : KP} {t e : TypeId} {s base : Nat} {l v : Value} {M : Nat → Prop}
def IsSl (w : World) (v : Value) (n : Nat) (xs : List Value) : Prop := ∃ a c, v = .slice a n c ∧ n ≤ c ∧ c ≤ maxLen ∧ Row w a xs ∧ (a = none → n = 0)
theorem IsSl.frame {n : Nat} {xs : List Value} (h : IsSl w v n xs) (hf : Frm M w w') (hM : ∀ b, v.ownBlock = some b → ¬ M b) : IsSl w' v n xs := by
  obtain ⟨a, c, rfl, hc, hm, hr, ha⟩ := h
  exact ⟨a, c, rfl, hc, hm, hr.frame hf fun p hp => hM _ (by subst hp; rfl), ha⟩
theorem IsSl.still {n : Nat} {xs : List Value} (h : IsSl w v n xs) (hf : Frm (fun _ => False) w w') : IsSl w' v n xs := h.frame hf fun _ _ h => h
theorem IsSl.one {n : Nat} {xs : List Value} (h : IsSl w v n xs) : v.oneCell' = true := by obtain ⟨a, c, rfl, _⟩ := h; rfl
theorem IsSl.nil : IsSl w (.slice none 0 0) 0 [] := ⟨none, 0, rfl, Nat.le_refl _, by simp [maxLen], .inl rfl, fun _ => rfl⟩
theorem own_sl {n : Nat} {xs : List Value} (h : w.ownsRow base e s v n xs) : IsSl w v n xs := by
  obtain ⟨h1, ⟨rfl, rfl⟩ | ⟨g, cap, cur, rfl, h3, h4, h5, h6, h7, h8⟩⟩ := id h
  · exact ⟨none, 0, rfl, by omega, by simp [maxLen], .inl (List.eq_nil_of_length_eq_zero (by simpa using h1)), fun _ => rfl⟩
  · obtain ⟨a, c, hv, hc, hr, ha, _⟩ := own_slice h
    cases hv
    exact ⟨_, _, rfl, hc, h6, hr, ha⟩
structure ElOk {α : Type} (El : World → List Value → α → (Nat → Prop) → Prop) : Prop where
  frame : ∀ {w w' : World} {u : List Value} {y : α} {G M : Nat → Prop}, El w u y G → Frm M w w' → (∀ c, G c → ¬ M c) → El w' u y G
  mono : ∀ {w : World} {u : List Value} {y : α} {G G' : Nat → Prop}, El w u y G → (∀ c, G c → G' c) → El w u y G'
structure RowsOf {α : Type} (El : World → List Value → α → (Nat → Prop) → Prop) (w : World) (base : Nat) (e : TypeId) (s : Nat) (l : Value) (ys : List α) (G : Nat → Prop) : Prop where
  row : ∃ us : List (List Value), us.length = ys.length ∧ (∀ u ∈ us, u.length = s) ∧ w.ownsRow base e s l ys.length us.flatten ∧ ∀ (j : Nat) u y, us[j]? = some u → ys[j]? = some y → El w u y G
  low : ∀ c, G c → base ≤ c ∧ c < w.heap.size
  off : ∀ b, l.ownBlock = some b → ¬ G b
variable {α : Type} {El : World → List Value → α → (Nat → Prop) → Prop} {ys : List α} {G G' : Nat → Prop} {y : α}
theorem RowsOf.frame (hE : ElOk El) (h : RowsOf El w base e s l ys G) (hf : Frm M w w') (hG : ∀ c, G c → ¬ M c) (hl : ∀ b, l.ownBlock = some b → ¬ M b) : RowsOf El w' base e s l ys G := by
  obtain ⟨⟨us, h1, h2, h3, h4⟩, h5, h6⟩ := h
  exact ⟨⟨us, h1, h2, own_frame h3 hf hl, fun j u y hu hy => hE.frame (h4 j u y hu hy) hf hG⟩, fun c hc => ⟨(h5 c hc).1, Nat.lt_of_lt_of_le (h5 c hc).2 hf.size⟩, h6⟩
theorem RowsOf.still (hE : ElOk El) (h : RowsOf El w base e s l ys G) (hf : Frm (fun _ => False) w w') : RowsOf El w' base e s l ys G := h.frame hE hf (fun _ _ h => h) fun _ _ h => h
theorem RowsOf.mono (hE : ElOk El) (h : RowsOf El w base e s l ys G) (hG : ∀ c, G c → G' c) (hlow : ∀ c, G' c → base ≤ c ∧ c < w.heap.size) (hoff : ∀ b, l.ownBlock = some b → ¬ G' b) : RowsOf El w base e s l ys G' := by
  obtain ⟨⟨us, h1, h2, h3, h4⟩, h5, h6⟩ := h
  exact ⟨⟨us, h1, h2, h3, fun j u y hu hy => hE.mono (h4 j u y hu hy) hG⟩, hlow, hoff⟩
theorem RowsOf.base_le {base' : Nat} (h : RowsOf El w base e s l ys G) (hb : base' ≤ base) : RowsOf El w base' e s l ys G := by
  obtain ⟨⟨us, h1, h2, h3, h4⟩, h5, h6⟩ := h
  exact ⟨⟨us, h1, h2, own_base h3 hb, h4⟩, fun c hc => ⟨Nat.le_trans hb (h5 c hc).1, (h5 c hc).2⟩, h6⟩
theorem rows_nil : RowsOf El w base e s (.slice none 0 0) [] (fun _ => False) := ⟨⟨[], rfl, by simp, own_nil, fun j u y hu => by simp at hu⟩, fun _ h => h.elim, fun _ _ h => h⟩
theorem RowsOf.own_lt (h : RowsOf El w base e s l ys G) : ∀ b, l.ownBlock = some b → base ≤ b ∧ b < w.heap.size := by
  obtain ⟨⟨us, h1, h2, h3, h4⟩, _⟩ := h
  exact Go.Vc.own_lt h3
theorem RowsOf.one (h : RowsOf El w base e s l ys G) : l.oneCell' = true := by
  obtain ⟨⟨us, h1, h2, h3, h4⟩, _⟩ := h
  obtain ⟨a, c, rfl, _⟩ := own_slice h3; rfl
theorem flatten_get {k : Nat} : ∀ {us : List (List Value)}, (∀ u ∈ us, u.length = k) → ∀ (i r : Nat) (hi : i < us.length), r < k → us.flatten[i * k + r]? = us[i][r]?
  | [], _, i, r, hi, _ => by simp at hi
  | u :: us, h, 0, r, hi, hr => by
    rw [List.flatten_cons, List.getElem?_append_left (by rw [h u List.mem_cons_self]; omega)]; simp
  | u :: us, h, i + 1, r, hi, hr => by
    have hi' : i < us.length := by simpa using hi
    have hu := h u List.mem_cons_self
    rw [List.flatten_cons, List.getElem?_append_right (by rw [hu, Nat.add_mul]; omega), hu, show (i + 1) * k + r - k = i * k + r from by rw [Nat.add_mul]; omega]
    exact flatten_get (fun u hu => h u (List.mem_cons_of_mem _ hu)) i r hi' hr
theorem flatten_len {k : Nat} : ∀ {us : List (List Value)}, (∀ u ∈ us, u.length = k) → us.flatten.length = us.length * k
  | [], _ => by simp
  | u :: us, h => by
    rw [List.flatten_cons, List.length_append, h u List.mem_cons_self, flatten_len fun u hu => h u (List.mem_cons_of_mem _ hu), List.length_cons, Nat.add_mul]; omega
theorem RowsOf.slice (h : RowsOf El w base e s l ys G) : ∃ a c, l = .slice a ys.length c ∧ ys.length ≤ c ∧ c ≤ maxLen ∧ (a = none → ys.length = 0) := by
  obtain ⟨⟨us, h1, h2, h3, h4⟩, _⟩ := h
  obtain ⟨a, c, h5, h6, h7, h8, h9⟩ := own_sl h3
  exact ⟨a, c, h5, h6, h7, h9⟩
theorem RowsOf.get (h : RowsOf El w base e s l ys G) {j : Nat} (hj : j < ys.length) : ∃ u g c cs, l = .slice (some ⟨g, 0, none⟩) ys.length c ∧ w.heap[g]? = some (.cells cs e (0, 0)) ∧ u.length = s ∧
    (∀ r, r < s → cs[j * s + r]? = u[r]?) ∧ j * s + s ≤ cs.size ∧ cs.extract (j * s) (j * s + s) = u.toArray ∧ El w u ys[j] G := by
  obtain ⟨⟨us, h1, h2, h3, h4⟩, _⟩ := h
  obtain ⟨h5, ⟨_, h6⟩ | ⟨g, cap, cur, rfl, k3, k4, k5, k6, k7, k8⟩⟩ := h3
  · omega
  · have hju : j < us.length := by omega
    have hul := h2 _ (List.getElem_mem hju)
    have hjs : (j + 1) * s ≤ ys.length * s := Nat.mul_le_mul_right _ hj
    rw [Nat.add_mul, Nat.one_mul] at hjs
    have hsz : j * s + s ≤ cur.size := by rw [k7]; exact Nat.le_trans hjs (Nat.mul_le_mul_right _ k5)
    have hg : ∀ r, r < s → cur[j * s + r]? = us[j][r]? := fun r hr => by
      have := flatten_get h2 j r hju hr
      rw [← this, ← k8, List.getElem?_take, if_pos (by omega)]; simp
    refine ⟨us[j], g, cap, cur, rfl, k4, hul, hg, hsz, ?_, h4 j _ _ (by simp [hju]) (by simp [hj])⟩
    apply Array.ext_getElem?
    intro r
    rw [Array.getElem?_extract]
    by_cases hr : r < s
    · rw [if_pos (by omega), hg r hr]; simp
    · rw [if_neg (by omega), Array.getElem?_eq_none (by simp [hul]; omega)]
theorem op_push {bytes : Nat} {uv : Value} {u : List Value} {G2 : Nat → Prop} (hE : ElOk El) (ha : apOf P t = some (e, s, bytes)) (hl : sliceLit P t 1 [(0, uv)] = some (e, u.toArray)) (hu : u.length = s) (hone : ∀ x ∈ u, x.oneCell' = true)
    (hR : RowsOf El w base e s l ys G) (hy : El w u y G2) (hG2 : ∀ c, G2 c → base ≤ c ∧ c < w.heap.size) (hoff : ∀ b, l.ownBlock = some b → ¬ G2 b) (h63 : (ys.length + 1) * (bytes + 1) ≤ 140737488355328) (hbase : base ≤ w.heap.size)
    (hK : ∀ l' w', Frm (fun b => some b = l.ownBlock) w w' → RowsOf El w' base e s l' (ys ++ [y]) (fun c => G c ∨ G2 c) → (l'.ownBlock = l.ownBlock ∨ ∃ b, l'.ownBlock = some b ∧ w.heap.size ≤ b) → K l' w') :
    (nice P).op (.buildSlice t 1 [(0, uv)]) w (fun v w => (nice P).op (.blt .append [t, t] t [l, v]) w K Kp) Kp := by
  obtain ⟨i, z, ht, hi, hz, hsize, hby, hzs, hsz⟩ := apOf_spec ha
  refine op_lit_ok hl fun w1 k1 z1 b1 => ?_
  have hR1 := hR.still hE k1
  obtain ⟨⟨us, h1, h2, h3, h4⟩, h5, h6⟩ := hR1
  have hr : Row w1 (some ⟨w.heap.size, 0, none⟩) u := .inr ⟨_, 0, _, _, _, rfl, b1, fun j v hv => by simpa using hv⟩
  refine op_append (base := base) (n := ys.length) (m := 1) ha h3 hr (by rw [hu]; simp) hone (fun h => nomatch h) h63 (Nat.le_trans hbase k1.size) fun l' w' ho hf hb => ?_
  have hlow := hR.low
  have hGM : ∀ c, G c → ¬ some c = l.ownBlock := fun c hc e => h6 c e.symm hc
  have hGM2 : ∀ c, G2 c → ¬ some c = l.ownBlock := fun c hc e => hoff c e.symm hc
  have hnew : ∀ b, l'.ownBlock = some b → l.ownBlock = some b ∨ w.heap.size ≤ b := fun b hb' => by
    rcases hb with h | h
    · rw [h] at hb'; exact .inl hb'
    · rw [h] at hb'; have := Option.some.inj hb'; have := k1.size; exact .inr (by omega)
  refine hK l' w' (k1.fst hf) ⟨⟨us ++ [u], by simp [h1], fun x hx => ?_, ?_, fun j x y' hx hy' => ?_⟩, fun c hc => ?_, fun b hb' hc => ?_⟩ ?_
  · rcases List.mem_append.1 hx with hx | hx
    · exact h2 x hx
    · rw [List.mem_singleton.1 hx]; exact hu
  · simpa using ho
  · by_cases hj : j < us.length
    · rw [List.getElem?_append_left hj] at hx
      rw [List.getElem?_append_left (by omega)] at hy'
      exact hE.mono (hE.frame (h4 j x y' hx hy') hf hGM) fun c hc => .inl hc
    · have hj' : j = us.length := by
        have := (List.getElem?_eq_some_iff.1 hx).1
        simp at this; omega
      subst hj'
      rw [List.getElem?_append_right (by omega)] at hx
      rw [h1, List.getElem?_append_right (by omega)] at hy'
      simp at hx hy'
      subst hx hy'
      exact hE.mono (hE.frame (hE.frame hy k1 fun _ _ h => h) hf hGM2) fun c hc => .inr hc
  · have := hf.size; have := k1.size
    rcases hc with hc | hc
    · have := hlow c hc; omega
    · have := hG2 c hc; omega
  · rcases hnew b hb' with h | h
    · rcases hc with hc | hc
      · exact hR.off b h hc
      · exact hoff b h hc
    · rcases hc with hc | hc
      · have := hlow b hc; omega
      · have := hG2 b hc; omega
  · rcases hb with h | h
    · exact .inl h
    · exact .inr ⟨_, h, k1.size⟩
def Flat {α : Type} (f : α → List Value) : World → List Value → α → (Nat → Prop) → Prop := fun _ u y _ => u = f y
theorem flat_ok {α : Type} (f : α → List Value) : ElOk (Flat f) := ⟨fun h _ _ => h, fun h _ => h⟩
theorem RowsOf.flat {f : α → List Value} (h : RowsOf (Flat f) w base e s l ys G) : IsSl w l ys.length (ys.flatMap f) := by
  obtain ⟨⟨us, h1, h2, h3, h4⟩, _⟩ := h
  have : us = ys.map f := by
    apply List.ext_getElem?
    intro j
    by_cases hj : j < us.length
    · rw [List.getElem?_eq_getElem hj, List.getElem?_map, List.getElem?_eq_getElem (by omega)]
      have := h4 j us[j] (ys[j]'(by omega)) (List.getElem?_eq_getElem _) (List.getElem?_eq_getElem _)
      rw [this]; rfl
    · rw [List.getElem?_eq_none (by omega), List.getElem?_eq_none (by simp; omega)]
  rw [this] at h3
  have := own_sl h3
  rwa [← List.flatMap_def] at this
end Go.Vc
namespace Go.Vc
variable {P : Program} {w w' : World} {K : Value → World → Prop} {Kp : KP} {t e : TypeId} {s base : Nat} {α : Type} {El : World → List Value → α → (Nat → Prop) → Prop} {y : α}
theorem op_row1 {bytes : Nat} {uv : Value} {u : List Value} {G2 : Nat → Prop} (hE : ElOk El) (ha : apOf P t = some (e, s, bytes)) (hl : sliceLit P t 1 [(0, uv)] = some (e, u.toArray)) (hu : u.length = s)
    (hy : El w u y G2) (hG2 : ∀ c, G2 c → base ≤ c ∧ c < w.heap.size) (hbase : base ≤ w.heap.size)
    (hK : ∀ l' w', Frm (fun _ => False) w w' → RowsOf El w' base e s l' [y] G2 → l'.ownBlock = some w.heap.size → K l' w') :
    (nice P).op (.buildSlice t 1 [(0, uv)]) w K Kp := by
  refine op_lit_ok hl fun w1 k1 z1 b1 => ?_
  have hr : Rw w1 e s w.heap.size 1 u := ⟨_, b1, by simp [hu], by omega, by simp, by simp [maxLen]⟩
  have ho : w1.ownsRow base e s (.slice (some ⟨w.heap.size, 0, none⟩) 1 1) 1 u := by
    obtain ⟨h1, ⟨_, h2⟩ | ⟨g, cap, cur, h2, h3, h4⟩⟩ := hr.own (n := 1) (by rw [hu]; simp) (Nat.le_refl _)
    · omega
    · cases h2
      exact ⟨h1, .inr ⟨_, _, cur, rfl, hbase, h4⟩⟩
  refine hK _ w1 k1 ⟨⟨[u], rfl, by simpa using hu, by simpa using ho, fun j u' y' hu' hy' => ?_⟩, fun c hc => ⟨(hG2 c hc).1, Nat.lt_of_lt_of_le (hG2 c hc).2 k1.size⟩, fun b hb hc => ?_⟩ rfl
  · cases j with
    | zero =>
      simp at hu' hy'
      subst hu' hy'
      exact hE.frame hy k1 fun _ _ h => h
    | succ j => simp at hu'
  · have hb : w.heap.size = b := Option.some.inj hb
    subst hb
    exact Nat.lt_irrefl _ (hG2 _ hc).2
end Go.Vc
namespace Go.Vc
variable {P : Program} {w w' : World} {K : Value → World → Prop} {Kp : KP} {t e : TypeId} {s base : Nat} {α : Type} {f : α → List Value} {ys zs : List α} {l v2 : Value}
end Go.Vc
namespace Go.Vc
variable {P : Program} {w w' : World} {K : Value → World → Prop} {Kp : KP} {t e : TypeId} {s base : Nat} {α : Type} {f : α → List Value} {ys zs : List α} {l v2 : Value} {M : Nat → Prop} {y : α}
abbrev FRow (f : α → List Value) (w : World) (base : Nat) (e : TypeId) (s : Nat) (l : Value) (ys : List α) : Prop := RowsOf (Flat f) w base e s l ys (fun _ => False)
theorem frow_frame (h : FRow f w base e s l ys) (hf : Frm M w w') (hl : ∀ b, l.ownBlock = some b → ¬ M b) : FRow f w' base e s l ys := h.frame (flat_ok f) hf (fun _ h => h.elim) hl
theorem frow_still (h : FRow f w base e s l ys) (hf : Frm (fun _ => False) w w') : FRow f w' base e s l ys := frow_frame h hf fun _ _ h => h
end Go.Vc
namespace Go.Vc
theorem Row.old {w w' : World} {M : Nat → Prop} {a : Option Addr} {vs : List Value} (h : Row w a vs) (hf : Frm M w w') (hM : ∀ b, M b → w.heap.size ≤ b) : Row w' a vs := by
  rcases h with h | ⟨b, o, cs, e, fz, h1, h2, h3⟩
  · exact .inl h
  · exact .inr ⟨b, o, cs, e, fz, h1, hf.get h2 fun hb => by have := hM b hb; have := lt_of_get h2; omega, h3⟩
end Go.Vc
end
section
namespace Go.Proofs.YtodjijfblgnfmaaGreatDoor.I
open Go.Vc Go.Proofs Go.Proofs.YtodjijfblgnfmaaGreatDoor Go.Vc.Bt
variable {w w' : World} {v cv : Value} {K : KV} {Kp : KP} {lt : Ky → Ky → Bool} {ib mb d p : Nat} {L : List (Ky × Vl)} {cs cs' : Array Value} {s : Tr} {r : Root Ky Vl} {n : Nat} {M : Nat → Prop}
def NoNode (w : World) (M : Nat → Prop) : Prop := ∀ c, M c → Off w c ∨ w.heap.size ≤ c
theorem NoNode.ne {b : Nat} {cs : Array Value} {e : TypeId} {fz : Nat × Nat} (h : NoNode w M) (hb : w.heap[b]? = some (.cells cs e fz)) (he : e = 226 ∨ e = 223 ∨ e = 284 ∨ e = 286) : ¬ M b := fun hm => by
  rcases h b hm with ⟨cs', e', fz', q1, q2, q3, q4, q5⟩ | h
  · rw [hb] at q1
    cases q1
    rcases he with he | he | he | he
    · exact q2 he
    · exact q3 he
    · exact q4 he
    · exact q5 he
  · have := lt_of_get hb; omega
theorem Rep.keep (ho : NoNode w M) (hf : Frm M w w') : ∀ {h : Nat} {t : Tr} {v : Value}, Rep w h t v → Rep w' h t v
  | 0, .leaf es, v, hr => by
    obtain ⟨b, g, o, c, h1, h2, h3⟩ := hr
    obtain ⟨cs', p1, p2⟩ := id h3
    exact ⟨b, g, o, c, h1, hf.get h2 (ho.ne h2 (.inl rfl)), h3.frame hf (ho.ne p1 (.inr (.inl rfl)))⟩
  | h + 1, .br ks, v, hr => by
    obtain ⟨b, g, o, c, ps, h1, h2, h3, h4, h5⟩ := hr
    have hrec := fun p hp => Rep.keep ho hf (h5 p hp)
    obtain ⟨cs', p1, p2⟩ := id h4
    exact ⟨b, g, o, c, ps, h1, hf.get h2 (ho.ne h2 (.inr (.inr (.inl rfl)))), h3, h4.frame hf (ho.ne p1 (.inr (.inr (.inr rfl)))), hrec⟩
  | 0, .br ks, v, hr => hr.elim
  | h + 1, .leaf es, v, hr => hr.elim
theorem RepR.keep (ho : NoNode w M) (hf : Frm M w w') (h : RepR w r v) : RepR w' r v := by
  match r, h with
  | none, h => exact h
  | some (h, t), hr => exact Rep.keep ho hf hr
theorem RepM.keep {b : Nat} (ho : NoNode w M) (hf : Frm M w w') (h : RepM w b lt r) (hb : ¬ M b) : RepM w' b lt r := by
  obtain ⟨rv, cv, h1, h2, h3⟩ := h
  exact ⟨rv, cv, hf.get h1 hb, h2.keep ho hf, h3⟩
theorem Stk.keep (ho : NoNode w M) (hf : Frm M w w') : ∀ {fs : List Fr} {d : Nat}, Stk w cs d fs → Stk w' cs d fs
  | [], _, _ => trivial
  | r :: fs, d, h => ⟨h.1, h.2.1, h.2.2.1.keep ho hf, h.2.2.2.1, Stk.keep ho hf h.2.2.2.2⟩
theorem At.keep {q : Option Nat} (ho : NoNode w M) (hf : Frm M w w') (h : At w ib mb L q) (hb : ¬ M ib) : At w' ib mb L q := by
  match q, h with
  | none, ⟨cs, h1, h2⟩ => exact ⟨cs, hf.get h1 hb, h2⟩
  | some p, ⟨cs, es, v, up, j, h1, h2⟩ => exact ⟨cs, es, v, up, j, ⟨hf.get h1.hb hb, h1.sz, h1.m, h1.dep, h1.node, h1.rep.keep ho hf, h1.wf, h1.stk.keep ho hf, h1.ab, h1.len⟩, h2⟩
theorem At.below {q : Option Nat} (h : At w ib mb L q) : ib < w.heap.size := by obtain ⟨cs, h1, _⟩ := h.it; exact lt_of_get h1
theorem rows_off {α : Type} {El : World → List Value → α → (Nat → Prop) → Prop} {base e s : Nat} {l : Value} {ys : List α} {G : Nat → Prop} (h : RowsOf El w base e s l ys G) (he : e ≠ 226 ∧ e ≠ 223 ∧ e ≠ 284 ∧ e ≠ 286) : NoNode w (fun b => some b = l.ownBlock) := fun c hc => by
  obtain ⟨⟨us, h1, h2, h3, h4⟩, _⟩ := h
  obtain ⟨h5, ⟨rfl, h6⟩ | ⟨g, cap, cur, rfl, k3, k4, k5⟩⟩ := h3
  · cases hc
  · have : c = g := Option.some.inj hc
    subst this
    exact .inl ⟨_, _, _, k4, he⟩
theorem apSP : apOf Tryz.prog 46 = some (49, 3, 32) := by kernel_rfl
theorem lit_sp (p : SPr) : sliceLit Tryz.prog 46 1 [(0, .agg p.cells.toArray)] = some (49, p.cells.toArray) := lit_46_1
def restOf (L : List (Ky × Vl)) : Option Nat → List (Ky × Vl)
  | none => []
  | some q => L.drop q
def nextOf (L : List (Ky × Vl)) (q : Nat) : Option Nat := if q + 1 < L.length then some (q + 1) else none
theorem restOf_next {q : Nat} {e : Ky × Vl} (h : L[q]? = some e) : restOf L (some q) = e :: restOf L (nextOf L q) := by
  obtain ⟨hq, rfl⟩ := List.getElem?_eq_some_iff.1 h
  unfold nextOf
  split
  · exact List.drop_eq_getElem_cons hq
  · show L.drop q = L[q] :: []
    rw [List.drop_eq_getElem_cons hq, List.drop_of_length_le (by omega)]
def prs (L : List (Ky × Vl)) : List SPr := L.map fun e => kd.pair e.1 e.2
theorem pairsOf_ok {q0 : Option Nat} (h : At w ib mb L q0) (hL : L.length < 2 ^ 31)
    (hK : ∀ pv w', Frm (· = ib) w w' → RowsOf (Flat SPr.cells) w' w.heap.size 49 3 pv (prs (restOf L q0)) (fun _ => False) → K pv w') :
    Calls Tryz.prog 83 #[kdV, ptr ib] w (ret K Kp) := by
  refine vc83_calls ?_
  delta vc83
  refine op_box_ok fun w1 k1 z1 b1 => ?_
  simp only [kdV, cells_agg] at b1
  have hib := h.below
  have n1 := k1.size
  obtain ⟨I, hI⟩ : ∃ I : KV, ∀ l wl, I l wl ↔ ∃ (q : Option Nat) (D : List (Ky × Vl)), D ++ restOf L q = restOf L q0 ∧ Frm (· = ib) w1 wl ∧ At wl ib mb L q ∧ (∀ x, q = some x → x < L.length) ∧
      RowsOf (Flat SPr.cells) wl w1.heap.size 49 3 l (prs D) (fun _ => False) := ⟨_, fun _ _ => Iff.rfl⟩
  refine Lp.intro I (fun l _ => L.length - (match l with | .slice _ n _ => n | _ => 0)) ⟨(hI _ _).2 ⟨q0, [], rfl, Frm.refl, h.still k1, fun x hx => ?_, rows_nil⟩, ?_⟩
  · subst hx
    obtain ⟨cs, es, v, up, j, h1, h2, h3, h4, h5⟩ := h
    rw [h4, h5]; simp; omega
  intro wl _ l hl
  obtain ⟨q, D, hD, kl, hA, hq, hR⟩ := (hI _ _).1 hl
  have nl := kl.size
  have bl := kl.get b1 (by omega)
  have hlow := hR.own_lt
  simp only [call_87]
  refine done_ok hA ?_
  match q, hA, hD, hq with
  | none, hA, hD, hq =>
    simp [-getElem?_pos, -Array.getElem?_eq_getElem, -Int.natCast_add]
    rw [show D = restOf L q0 from by rw [← hD]; simp [restOf]] at hR
    exact hK l wl (k1.fst kl) (hR.base_le n1)
  | some q, hA, hD, hq =>
    have hql := hq q rfl
    have hget : L[q]? = some L[q] := List.getElem?_eq_getElem hql
    simp [-getElem?_pos, -Array.getElem?_eq_getElem, -Int.natCast_add]
    refine itNext_ok hA fun w2 k2 e he hA2 => ?_
    have e2 : e = L[q] := Option.some.inj (he.symm.trans hget)
    subst e2
    have n2 := k2.size
    have b2 := k2.get bl (by omega)
    have hR2 := hR.frame (flat_ok _) k2 (fun _ h => h.elim) fun b hb he => by have := hlow b hb; omega
    simp [-getElem?_pos, -Array.getElem?_eq_getElem, -Int.natCast_add, b2, call_val (P := Tryz.prog) (x := #[]) (y := #[]) (f := 91) (by kernel_rfl)]
    refine pair_ok fun w3 k3 => ?_
    have hR3 := hR2.still (flat_ok _) k3
    have hA3 := hA2.still k3
    have hlen : (prs D).length = D.length := by simp [prs]
    have hDl : D.length + 1 ≤ L.length := by
      have := congrArg List.length hD
      rw [restOf_next hget] at this
      simp only [List.length_append, List.length_cons] at this
      have : (restOf L q0).length ≤ L.length := by cases q0 <;> simp [restOf]
      omega
    refine op_push (u := (kd.pair L[q].1 L[q].2).cells) (flat_ok SPr.cells) apSP (lit_sp _) rfl (SPr.one _) hR3 rfl (G2 := fun _ => False) (fun _ h => h.elim) (fun _ _ h => h) (by omega) (by have := k3.size; omega) fun l' w4 k4 hR4 ho4 => ?_
    have hlow3 := hR3.own_lt
    have hA4 : At w4 ib mb L (nextOf L q) := At.keep (rows_off hR3 (by decide)) k4 hA3 (fun he => by have := hlow3 ib he.symm; omega)
    refine ⟨(hI _ _).2 ⟨nextOf L q, D ++ [L[q]], ?_, ((kl.trans k2 fun _ h _ => h).trans k3 fun _ h _ => h.elim).old k4 fun c hc => .inr (hlow3 c hc.symm).1, hA4, fun x hx => ?_, ?_⟩, ?_⟩
    · rw [← hD, restOf_next hget, List.append_assoc]; rfl
    · unfold nextOf at hx; split at hx
      · cases hx; assumption
      · cases hx
    · rw [show prs (D ++ [L[q]]) = prs D ++ [kd.pair L[q].1 L[q].2] from by simp [prs]]
      exact hR4.mono (flat_ok _) (fun _ h => h.elim id fun h => h) (fun _ h => h.elim) fun _ _ h => h
    · obtain ⟨a0, c0, rfl, _⟩ := hR.slice
      obtain ⟨a1, c1, rfl, _⟩ := hR4.slice
      simp only [List.length_append, List.length_singleton, hlen]; omega
end Go.Proofs.YtodjijfblgnfmaaGreatDoor.I
end
section
namespace Go.Vc.Bt
section
variable {κ ν : Type} [DecidableEq κ] {lt : κ → κ → Bool}
theorem Sd.keys (hl : Lin lt) {L : List (κ × ν)} (h : Sd lt L) : (L.map (·.1)).Nodup := by
  rw [List.Nodup, List.pairwise_map]
  exact h.imp fun hab e => by rw [e, hl.irr] at hab; cases hab
theorem has_at {L : List (κ × ν)} {k : κ} (h : has lt L k = true) : ∃ hi : place lt L k < L.length, (L[place lt L k]'hi).1 = k := by
  have hi := has_lt h
  refine ⟨hi, ?_⟩
  unfold has at h
  rw [List.getElem?_eq_getElem hi] at h
  simpa using h
theorem ne_key (hl : Lin lt) {L : List (κ × ν)} (hs : Sd lt L) {k : κ} {j : Nat} (hj : j < L.length) (hjp : j ≠ place lt L k) : L[j].1 ≠ k := by
  intro e
  rcases Nat.lt_or_gt_of_ne hjp with h | h
  · have h1 : L[j] ∈ L.take (place lt L k) := List.mem_take_iff_getElem.2 ⟨j, by omega, rfl⟩
    have := before (lt := lt) (L := L) (k := k) _ h1
    rw [e, hl.irr] at this; cases this
  · have hp : place lt L k < L.length := by omega
    have h1 : L[place lt L k] ∈ L.drop (place lt L k) := by rw [List.drop_eq_getElem_cons hp]; exact List.mem_cons_self
    have h2 := behind hl hs (k := k) _ h1
    have h3 := List.pairwise_iff_getElem.1 hs _ _ hp hj h
    rw [e, h2] at h3; cases h3
theorem mem_put (hl : Lin lt) {L : List (κ × ν)} (hs : Sd lt L) {k : κ} {v : ν} {e : κ × ν} : e ∈ put lt L k v ↔ e = (k, v) ∨ e ∈ L ∧ e.1 ≠ k := by
  unfold put
  split
  · rename_i h
    obtain ⟨hi, hk⟩ := has_at h
    constructor
    · intro he
      obtain ⟨j, hj, rfl⟩ := List.mem_iff_getElem.1 he
      rw [List.getElem_set]
      split
      · exact .inl rfl
      · rename_i hne
        exact .inr ⟨List.getElem_mem _, ne_key hl hs _ (fun e => hne e.symm)⟩
    · rintro (rfl | ⟨h1, h2⟩)
      · exact List.mem_iff_getElem.2 ⟨place lt L k, by simpa using hi, by simp⟩
      · obtain ⟨j, hj, rfl⟩ := List.mem_iff_getElem.1 h1
        refine List.mem_iff_getElem.2 ⟨j, by simpa using hj, ?_⟩
        rw [List.getElem_set_ne]
        intro e
        apply h2
        simp only [← e, hk]
  · rename_i h
    have hno : ∀ e ∈ L, e.1 ≠ k := fun e he hk => h (by rw [has_iff hl hs]; exact List.mem_map.2 ⟨e, he, hk⟩)
    have hsplit : e ∈ L ↔ e ∈ L.take (place lt L k) ∨ e ∈ L.drop (place lt L k) := by
      conv => lhs; rw [← List.take_append_drop (place lt L k) L]
      exact List.mem_append
    rw [List.mem_append, List.mem_cons]
    constructor
    · rintro (h1 | h1 | h1)
      · exact .inr ⟨hsplit.2 (.inl h1), hno e (hsplit.2 (.inl h1))⟩
      · exact .inl h1
      · exact .inr ⟨hsplit.2 (.inr h1), hno e (hsplit.2 (.inr h1))⟩
    · rintro (h1 | ⟨h1, _⟩)
      · exact .inr (.inl h1)
      · rcases hsplit.1 h1 with h | h
        · exact .inl h
        · exact .inr (.inr h)
/-! ### many pairs -/
def putAll (lt : κ → κ → Bool) (L : List (κ × ν)) (ps : List (κ × ν)) : List (κ × ν) := ps.foldl (fun L p => put lt L p.1 p.2) L
theorem putAll_snoc (L : List (κ × ν)) (ps : List (κ × ν)) (p : κ × ν) : putAll lt L (ps ++ [p]) = put lt (putAll lt L ps) p.1 p.2 := by simp [putAll]
theorem rem_absent {L : List (κ × ν)} {k : κ} (h : has lt L k = false) : rem lt L k = L := by rw [rem, if_neg (by simp [h])]
end
end Go.Vc.Bt
end
section
namespace Go.Proofs.YtodjijfblgnfmaaGreatDoor.I
open Go.Vc Go.Proofs Go.Proofs.YtodjijfblgnfmaaGreatDoor Go.Vc.Bt
variable {w w' : World} {cv : Value} {K : KV} {Kp : KP} {lt : Ky → Ky → Bool} {k : Ky} {ib mb b : Nat} {L : List (Ky × Vl)} {cs : Array Value} {s : Tr} {r : Root Ky Vl} {N : Nat} {M : Nat → Prop}
def Quiet (w : World) (M : Nat → Prop) : Prop := ∀ c, M c → (∃ cs e fz, w.heap[c]? = some (.cells cs e fz) ∧ e ≠ 226 ∧ e ≠ 223 ∧ e ≠ 284 ∧ e ≠ 286 ∧ e ≠ 210) ∨ w.heap.size ≤ c
theorem Quiet.node (h : Quiet w M) : NoNode w M := fun c hc => (h c hc).imp (fun ⟨cs, e, fz, h1, h2, h3, h4, h5, h6⟩ => ⟨cs, e, fz, h1, h2, h3, h4, h5⟩) id
theorem RepM.quiet (h : RepM w b lt r) (hq : Quiet w M) (hf : Frm M w w') : RepM w' b lt r := h.keep hq.node hf fun hm => by
  obtain ⟨rv, cv, h1, _⟩ := h
  rcases hq b hm with ⟨cs, e, fz, q1, q2, q3, q4, q5, q6⟩ | h
  · rw [h1] at q1; cases q1; exact q6 rfl
  · have := lt_of_get h1; omega
theorem rows_quiet {α : Type} {El : World → List Value → α → (Nat → Prop) → Prop} {base e s : Nat} {l : Value} {ys : List α} {G : Nat → Prop} (h : RowsOf El w base e s l ys G) (he : e ≠ 226 ∧ e ≠ 223 ∧ e ≠ 284 ∧ e ≠ 286 ∧ e ≠ 210) : Quiet w (fun b => some b = l.ownBlock) := fun c hc => by
  obtain ⟨⟨us, h1, h2, h3, h4⟩, _⟩ := h
  obtain ⟨h5, ⟨rfl, h6⟩ | ⟨g, cap, cur, rfl, k3, k4, k5⟩⟩ := h3
  · cases hc
  · have : c = g := Option.some.inj hc
    subst this
    exact .inl ⟨_, _, _, k4, he⟩
theorem rows_ty {α : Type} {El : World → List Value → α → (Nat → Prop) → Prop} {base e s : Nat} {l : Value} {ys : List α} {G : Nat → Prop} (h : RowsOf El w base e s l ys G) : ∀ b, l.ownBlock = some b → ∃ cs, w.heap[b]? = some (.cells cs e (0, 0)) := fun c hc => by
  obtain ⟨⟨us, h1, h2, h3, h4⟩, _⟩ := h
  obtain ⟨h5, ⟨rfl, h6⟩ | ⟨g, cap, cur, rfl, k3, k4, k5⟩⟩ := h3
  · cases hc
  · have : g = c := Option.some.inj hc
    subst this
    exact ⟨_, k4⟩
def Ver (w : World) (b : Nat) (lt : Ky → Ky → Bool) (N : Nat) (L : List (Ky × Vl)) : Prop := ∃ r, RepM w b lt r ∧ Ok lt N r ∧ rL r = L
theorem Ver.still (h : Ver w b lt N L) (hf : Frm (fun _ => False) w w') : Ver w' b lt N L := by obtain ⟨r, h1, h2⟩ := h; exact ⟨r, h1.still hf, h2⟩
theorem Ver.quiet (h : Ver w b lt N L) (hq : Quiet w M) (hf : Frm M w w') : Ver w' b lt N L := by obtain ⟨r, h1, h2⟩ := h; exact ⟨r, h1.quiet hq hf, h2⟩
theorem Ver.mono {m : Nat} (h : Ver w b lt N L) (hm : N ≤ m) : Ver w b lt m L := by obtain ⟨r, h1, h2, h3⟩ := h; exact ⟨r, h1, h2.mono hm, h3⟩
theorem Ver.sd (h : Ver w b lt N L) : Sd lt L := by obtain ⟨r, h1, h2, rfl⟩ := h; exact h2.sd
theorem ver_set (hl : Lin lt) (h : Ver w b lt N L) (hL : L.length < 2 ^ 60) {x : Vl} (hK : ∀ w' b', Frm (fun _ => False) w w' → Ver w' b' lt (N + 1) (put lt L k x) → K (ptr b') w') : Calls Tryz.prog 80 #[ptr b, ek k, ev x] w (ret K Kp) := by
  obtain ⟨r, h1, h2, rfl⟩ := h
  refine mapSet_ok hl h1 h2 hL fun w' b' hf _ hm => ?_
  obtain ⟨e, ho⟩ := setR_spec hl h2 k x
  exact hK w' b' hf ⟨_, hm, ho, e⟩
def DelOk (lt : Ky → Ky → Bool) : Prop := ∀ {w : World} {b N : Nat} {L : List (Ky × Vl)} {k : Ky} {K : KV} {Kp : KP}, Ver w b lt N L → L.length < 2 ^ 60 → (∀ w' b', Frm (fun _ => False) w w' → Ver w' b' lt N (rem lt L k) → K (ptr b') w') → Calls Tryz.prog 81 #[ptr b, ek k] w (ret K Kp)
def GetOk (lt : Ky → Ky → Bool) : Prop := ∀ {w : World} {b N : Nat} {L : List (Ky × Vl)} {k : Ky} {K : KV} {Kp : KP}, Ver w b lt N L → (∀ w', Frm (fun _ => False) w w' → K (gotV (got lt L k)) w') → Calls Tryz.prog 82 #[ptr b, ek k] w (ret K Kp)
theorem getOk (hl : Lin lt) : GetOk lt := fun {w b N L k K Kp} h hK => by
  obtain ⟨r, h1, h2, rfl⟩ := h
  refine mapGet_ok h1 h2 (k := k) fun w' hf => ?_
  rw [getR_spec hl h2 k]
  exact hK w' hf
theorem ver_len (h : Ver w b lt N L) (hK : K (.int .i64 L.length) w) : Calls Tryz.prog 85 #[ptr b] w (ret K Kp) := by
  obtain ⟨r, h1, h2, rfl⟩ := h
  exact len_ok h1 hK
theorem ver_iter (h : Ver w b lt N L) (hN : N < 2 ^ 60) (hK : ∀ w' ib, Frm (fun _ => False) w w' → w.heap.size ≤ ib → At w' ib b L (if L.length = 0 then none else some 0) → K (ptr ib) w') : Calls Tryz.prog 84 #[ptr b] w (ret K Kp) := by
  obtain ⟨r, h1, h2, rfl⟩ := h
  exact iter_ok h1 h2 hN hK
def BackOk (lt : Ky → Ky → Bool) : Prop :=
  (∀ {w : World} {ib mb N : Nat} {L : List (Ky × Vl)} {q : Option Nat} {K : KV} {Kp : KP}, At w ib mb L q → Ver w mb lt N L → N < 2 ^ 60 → (∀ w', Frm (· = ib) w w' → At w' ib mb L (if L.length = 0 then none else some (L.length - 1)) → K (.tuple #[]) w') → Calls Tryz.prog 86 #[ptr ib] w (ret K Kp)) ∧
  ∀ {w : World} {ib mb q : Nat} {L : List (Ky × Vl)} {K : KV} {Kp : KP}, At w ib mb L (some q) → (∀ w', Frm (· = ib) w w' → ∀ e, L[q]? = some e → At w' ib mb L (if 0 < q then some (q - 1) else none) → K (.tuple #[ek e.1, ev e.2, .bool true]) w') → Calls Tryz.prog 88 #[ptr ib] w (ret K Kp)
theorem restOf_zero {L : List (Ky × Vl)} : restOf L (if L.length = 0 then none else some 0) = L := by
  split
  · rename_i h; exact (List.eq_nil_of_length_eq_zero h).symm
  · rfl
end Go.Proofs.YtodjijfblgnfmaaGreatDoor.I
end
section
namespace Go.Vc.Bt
open Go.Vc
def ElA : World → List Value → SAns → (Nat → Prop) → Prop := fun w u a G => ∃ pv, u = [.int .i64 a.value, .int .i64 a.n, .bool a.ok, pv] ∧ IsSl w pv a.list.length (a.list.flatMap SPr.cells) ∧ ∀ b, pv.ownBlock = some b → G b
theorem elA_ok : ElOk ElA :=
  ⟨fun ⟨pv, hu, h, hG⟩ hf hM => ⟨pv, hu, h.frame hf fun b hb => hM b (hG b hb), hG⟩, fun ⟨pv, hu, h, hG⟩ hG' => ⟨pv, hu, h, fun b hb => hG' b (hG b hb)⟩⟩
section
variable {κ : Type} [DecidableEq κ] {lt : κ → κ → Bool} {kd : Kd κ}
theorem runS_le (steps : List SSt) : ∀ L ∈ (runS lt kd steps).1, L.length ≤ scost steps := by
  rw [← List.reverse_reverse steps]
  generalize steps.reverse = r
  induction r with
  | nil => intro L hL; simp [runS] at hL; subst hL; simp
  | cons s r ih =>
    intro L hL
    rw [List.reverse_cons, runS_snoc] at hL
    rw [List.reverse_cons, scost_snoc]
    unfold oneS at hL
    rcases List.mem_append.1 hL with h | h
    · have := ih L h; omega
    · generalize hq : (runS lt kd r.reverse).1[atV s (runS lt kd r.reverse).1.length]?.getD [] = q at h
      have hql : q.length ≤ scost r.reverse := by
        cases hg : (runS lt kd r.reverse).1[atV s (runS lt kd r.reverse).1.length]? with
        | none => rw [hg] at hq; subst hq; simp
        | some x => rw [hg] at hq; subst hq; exact ih x (List.mem_of_getElem? hg)
      cases hn : newV lt kd s q with
      | none => rw [hn] at h; simp at h
      | some m =>
        rw [hn] at h
        simp only [Option.toList_some, List.mem_singleton] at h
        subst h
        have := newV_le hn; omega
end
end Go.Vc.Bt
namespace Go.Vc
variable {P : Program} {w : World} {K : Value → World → Prop} {Kp : KP} {t e : TypeId}
theorem op_pushQ {Q : World → Prop} {uv l : Value} {cs : Array Value} (hl : sliceLit P t 1 [(0, uv)] = some (e, cs)) (hQ : ∀ w1, Frm (fun _ => False) w w1 → Q w1)
    (h : (nice P).op (.buildSlice t 1 [(0, uv)]) w (fun v w => (nice P).op (.blt .append [t, t] t [l, v]) w K Kp) Kp) :
    (nice P).op (.buildSlice t 1 [(0, uv)]) w (fun v w => Q w ∧ (nice P).op (.blt .append [t, t] t [l, v]) w K Kp) Kp := by
  rw [op_lit hl] at h ⊢
  exact ⟨hQ _ (Frm.alloc _ _), h⟩
end Go.Vc
end
section
namespace Go.Proofs.YtodjijfblgnfmaaGreatDoor.I
open Go.Vc Go.Proofs Go.Proofs.YtodjijfblgnfmaaGreatDoor Go.Vc.Bt
variable {w : World} {lt : Ky → Ky → Bool} {d b : Nat} {L : List (Ky × Vl)} {cs : Array Value} {s : Tr} {n N : Nat}
theorem apO : apOf Tryz.prog 137 = some (135, 1, 8) := by kernel_rfl
theorem apA : apOf Tryz.prog 28 = some (56, 4, 48) := by kernel_rfl
theorem lit_ans (a b c d : Value) : sliceLit Tryz.prog 28 1 [(0, .agg #[a, b, c, d])] = some (56, [a, b, c, d].toArray) := lit_28_1
def midA (lt : Ky → Ky → Bool) (s : SSt) (L : List (Ky × Vl)) : SAns := if (newV lt kd s L).isSome then zeroA else ansV lt kd s L
def lenAt (w : World) (b j : Nat) : Nat := match w.heap[b]? with
  | some (.cells cs _ _) => match cs[j]? with
    | some (.slice _ n _) => n
    | _ => 0
  | _ => 0
def backOf (L : List (Ky × Vl)) : Option Nat → List (Ky × Vl)
  | none => []
  | some q => (L.take (q + 1)).reverse
theorem backOf_last : backOf L (if L.length = 0 then none else some (L.length - 1)) = L.reverse := by
  split
  · rename_i h; rw [List.eq_nil_of_length_eq_zero h]; rfl
  · show (L.take (L.length - 1 + 1)).reverse = _
    rw [List.take_of_length_le (by omega)]
theorem backOf_prev {q : Nat} {e : Ky × Vl} (h : L[q]? = some e) : backOf L (some q) = e :: backOf L (if 0 < q then some (q - 1) else none) := by
  obtain ⟨hq, rfl⟩ := List.getElem?_eq_some_iff.1 h
  show (L.take (q + 1)).reverse = _
  rw [List.take_succ_eq_append_getElem hq, List.reverse_append]
  split
  · rename_i h0
    show _ = L[q] :: (L.take (q - 1 + 1)).reverse
    rw [Nat.sub_add_cancel h0]; rfl
  · have : q = 0 := by omega
    subst this; rfl
structure Mid (lt : Ky → Ky → Bool) (s : SSt) (N : Nat) (L : List (Ky × Vl)) (ab : Nat) (wA wz : World) (b' : Nat) (pv : Value) : Prop where
  frm : Frm (· = ab) wA wz
  ver : Ver wz b' lt (N + s.cost) ((newV lt kd s L).getD L)
  cell : wz.heap[ab]? = some (.cells #[.int .i64 (midA lt s L).value, .int .i64 (midA lt s L).n, .bool (midA lt s L).ok, pv] 56 (0, 0))
  row : IsSl wz pv (midA lt s L).list.length ((midA lt s L).list.flatMap SPr.cells)
  own : ∀ c, pv.ownBlock = some c → wA.heap.size ≤ c ∧ ∃ cs, wz.heap[c]? = some (.cells cs 49 (0, 0))
theorem quiet_ans {c : Nat} {cs : Array Value} (h : w.heap[c]? = some (.cells cs 56 (0, 0))) : Quiet w (· = c) := fun x hx => by
  subst hx; exact .inl ⟨_, _, _, h, by decide, by decide, by decide, by decide, by decide⟩
end Go.Proofs.YtodjijfblgnfmaaGreatDoor.I
end
