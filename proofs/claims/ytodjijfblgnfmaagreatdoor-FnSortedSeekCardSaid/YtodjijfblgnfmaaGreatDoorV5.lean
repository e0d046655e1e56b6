import Derived.Test.YtodjijfblgnfmaaGreatDoorV3
import Derived.Test.YtodjijfblgnfmaaGreatDoorV4
import Derived.Test.YtodjijfblgnfmaaGreatDoorV0
import Derived.Test.YtodjijfblgnfmaaGreatDoorV2
import Derived.Test.YtodjijfblgnfmaaGreatDoorV1
set_option linter.unusedSimpArgs false
set_option linter.unusedVariables false
set_option linter.unusedSectionVars false
set_option maxRecDepth 100000
set_option maxHeartbeats 4000000
section
namespace Go.Proofs.YtodjijfblgnfmaaGreatDoor.I
open Go.Vc Go.Proofs Go.Proofs.YtodjijfblgnfmaaGreatDoor Go.Vc.Bt
variable {w w' : World} {v cv : Value} {K : KV} {Kp : KP} {lt : Ky → Ky → Bool} {k : Ky} {ib mb sb i0 N : Nat} {L : List (Ky × Vl)} {q : Option Nat} {M : Nat → Prop}
def Calm (w : World) (M : Nat → Prop) : Prop := ∀ c, M c → (∃ cs e fz, w.heap[c]? = some (.cells cs e fz) ∧ e ≠ 226 ∧ e ≠ 223 ∧ e ≠ 284 ∧ e ≠ 286 ∧ e ≠ 210 ∧ e ≠ 218 ∧ e ≠ 255 ∧ e ≠ 332 ∧ e ≠ 314) ∨ w.heap.size ≤ c
theorem Calm.quiet (h : Calm w M) : Quiet w M := fun c hc => (h c hc).imp (fun ⟨cs, e, fz, h1, h2, h3, h4, h5, h6, _⟩ => ⟨cs, e, fz, h1, h2, h3, h4, h5, h6⟩) id
theorem calm_one {c : Nat} {cs : Array Value} {e : TypeId} {fz : Nat × Nat} (h : w.heap[c]? = some (.cells cs e fz)) (he : e ≠ 226 ∧ e ≠ 223 ∧ e ≠ 284 ∧ e ≠ 286 ∧ e ≠ 210 ∧ e ≠ 218 ∧ e ≠ 255 ∧ e ≠ 332 ∧ e ≠ 314) : Calm w (· = c) := fun x hx => by
  subst hx; exact .inl ⟨_, _, _, h, he⟩
structure Its (w : World) (ib mb sb i0 : Nat) (lt : Ky → Ky → Bool) (N : Nat) (L : List (Ky × Vl)) (q : Option Nat) : Prop where
  it : At w ib mb L q
  ver : Ver w mb lt N L
  no : NoIt w sb i0
theorem Its.keep (h : Its w ib mb sb i0 lt N L q) (hq : Calm w M) (hf : Frm M w w') : Its w' ib mb sb i0 lt N L q := by
  obtain ⟨cs, h1, _⟩ := h.it.it
  refine ⟨h.it.keep hq.quiet.node hf fun hm => ?_, h.ver.quiet hq.quiet hf, h.no.frame hf fun c hm cs => ?_⟩
  · rcases hq _ hm with ⟨cs, e, fz, e1, e2⟩ | hl
    · rw [h1] at e1; cases e1; exact e2.2.2.2.2.2.1 rfl
    · have := lt_of_get h1; omega
  · rcases hq _ hm with ⟨cs', e, fz, e1, e2⟩ | hl
    · rw [e1]
      exact ⟨fun h => by cases h; exact e2.2.2.2.2.2.2.1 rfl, fun h => by cases h; exact e2.2.2.2.2.2.2.2.1 rfl, fun h => by cases h; exact e2.2.2.2.2.2.2.2.2 rfl⟩
    · exact ⟨fun h => by have := lt_of_get h; omega, fun h => by have := lt_of_get h; omega, fun h => by have := lt_of_get h; omega⟩
theorem Its.still (h : Its w ib mb sb i0 lt N L q) (hf : Frm (fun _ => False) w w') : Its w' ib mb sb i0 lt N L q := h.keep (fun _ h => h.elim) hf
theorem Its.move {q' : Option Nat} (h : Its w ib mb sb i0 lt N L q) (hf : Frm (· = ib) w w') (ha : At w' ib mb L q') : Its w' ib mb sb i0 lt N L q' := by
  obtain ⟨cs, h1, _⟩ := h.it.it
  refine ⟨ha, h.ver.quiet (quiet_iter h1) hf, h.no.frame hf fun c hm cs => ?_⟩
  subst hm
  rw [h1]
  exact ⟨(fun h => nomatch h), (fun h => nomatch h), (fun h => nomatch h)⟩
theorem Its.move0 (h : Its w ib mb sb i0 lt N L q) (hf : Frm (· = i0) w w') (hn : NoIt w' sb i0) : Its w' ib mb sb i0 lt N L q := by
  obtain ⟨cs, h1, _⟩ := h.it.it
  obtain ⟨m2, cs2, c0, c2, _, h2, _⟩ := h.no
  have hq : Quiet w (· = i0) := fun x hx => by subst hx; exact .inl ⟨_, _, _, h2, by decide, by decide, by decide, by decide, by decide⟩
  exact ⟨h.it.keep hq.node hf (fun e => by rw [e, h2] at h1; cases h1), h.ver.quiet hq hf, hn⟩
theorem ver_seek (hl : Lin lt) (h : Its w ib mb sb i0 lt N L q) (hN : N < 2 ^ 60) (hK : ∀ w', Frm (· = ib) w w' → Its w' ib mb sb i0 lt N L (stand L (place lt L k)) → K (.tuple #[]) w') : Calls Tryz.prog 139 #[ptr ib, ek k] w (ret K Kp) := by
  obtain ⟨r, h1, h2, rfl⟩ := h.ver
  exact itSeek_ok hl h.it.it h1 h2 hN fun w' hf ha => hK w' hf (h.move hf ha)
theorem apWA : apOf Tryz.prog 76 = some (80, 5, 40) := by kernel_rfl
theorem lit_wa (a : WAn) : sliceLit Tryz.prog 76 1 [(0, .agg a.cells.toArray)] = some (80, a.cells.toArray) := lit_76_1
theorem kd_zero {k0 : Ky} (h : kd0 k0) : kd.pair k0 0 = zeroP := by
  have h : k0 = (0 : Int) := h
  subst h; rfl
theorem sortedWalk_ok {a1 a2 : Option Addr} {c1 c2 : Nat} {ps : List SPr} {ms : List WSt} (hC : CmpOk cv lt none) (hl : Lin lt) (h1 : Row w a1 (ps.flatMap SPr.cells)) (h2 : Row w a2 (ms.flatMap WSt.cells)) (ht : ∀ p ∈ ps, p.text.size ≤ 100) (hm : ∀ m ∈ ms, (m.op = 2 ∨ m.op = 4) ∧ m.text.size ≤ 100) (hn : ps.length ≤ 1000) (hmn : ms.length ≤ 10000)
    (hK : ∀ l w', Frm (fun _ => False) w w' → RowsOf (Flat WAn.cells) w' w.heap.size 80 5 l (runQ lt kd (putAll lt [] (ps.map kd.kv)) ms).2 (fun _ => False) → K l w') :
    Calls Tryz.prog 62 #[kdV, cv, .bool false, .slice a1 ps.length c1, .slice a2 ms.length c2] w (ret K Kp) := by
  refine vc62_calls ?_
  delta vc62
  refine op_box_ok fun w1 k1 z1 b1 => ?_
  simp only [kdV, cells_agg] at b1
  simp only [call_79, call_119]
  refine new_ok hC fun w2 mb0 k2 _ hM2 => ?_
  refine set0_ok hC.one fun w3 sv k3 hS3 => ?_
  refine op_alloc_ok (z := .agg #[.pointer none]) (by kernel_rfl) fun w4 k4 z4 b4 => ?_
  simp only [cells_agg] at b4
  have hS4 := hS3.still k4
  obtain ⟨sm, sc0, sc2, rfl, hsm⟩ := id hS4
  refine op_storeN_ok (n := 1) (by kernel_rfl) b4 rfl (by decide) (fun u hu => ?_) fun w5 k5 z5 b5 => ?_
  · simp only [List.mem_toArray, List.mem_cons, List.not_mem_nil, or_false] at hu
    subst hu; rfl
  rw [ow_all (by simp)] at b5
  generalize hSB : w3.heap.size = SB at *
  have k45 : Frm (fun _ => False) w3 w5 := k4.old k5 fun c hc => .inr (by omega)
  have k15 : Frm (fun _ => False) w w5 := ((k1.no k2).no k3).no k45
  have b1' := ((k2.no k3).no k45).get b1 fun h => h
  have hM5 := (hM2.still k3).still k45
  have hS5 : NoSet w5 (.agg #[ptr sm]) := hS3.still k45
  clear hsm hS4 hS3 hM2 b4 k5 k45 k4 k3 k2 k1
  simp [-getElem?_pos, -Array.getElem?_eq_getElem, -Int.natCast_add, -op_lit_76_1, -op_alloc_73, -op_alloc_80, -op_alloc_49, -op_st_49, -op_st_73, -op_st_4, -op_st_177, -op_alloc_177]
  obtain ⟨I, hI⟩ : ∃ I : Value → KV, ∀ m v wl, I m v wl ↔ ∃ i mb : Nat, m = ptr mb ∧ v = .int .i64 i ∧ i ≤ ps.length ∧ Frm (fun _ => False) w5 wl ∧ Ver wl mb lt i (putAll lt [] ((ps.take i).map kd.kv)) := ⟨_, fun _ _ _ => Iff.rfl⟩
  refine Lp.intro I (fun _ v _ => ps.length - nOf v) ⟨(hI _ _ _).2 ⟨0, mb0, rfl, rfl, by omega, Frm.refl, ⟨none, hM5, trivial, rfl⟩⟩, ?_⟩
  intro wl m v hv
  obtain ⟨i, mb, rfl, rfl, hi, kl, hV⟩ := (hI _ _ _).1 hv
  simp only [op_lss, Br_dec]
  refine ⟨fun hlt => ?_, fun hge => ?_⟩
  · have hi' : i < ps.length := by omega
    have hlen := putAll_len (lt := lt) ((ps.take i).map kd.kv) []
    simp only [List.length_map, List.length_take, List.length_nil] at hlen
    obtain ⟨b, o, cs, e, fz, rfl, q1, q2, q3⟩ := (h1.frame (k15.no kl) fun _ _ h => h).part SPr.len (by decide) hi'
    have htp := ht _ (List.getElem_mem hi')
    simp [-getElem?_pos, -Array.getElem?_eq_getElem, -Int.natCast_add, -op_lit_76_1, -op_alloc_73, -op_alloc_80, -op_alloc_49, -op_st_49, -op_st_73, -op_st_4, -op_st_177, -op_alloc_177, q1, q2, q3]
    refine ⟨hi', ?_⟩
    refine op_alloc_ok (z := .agg #[.int .i64 0, .string ByteArray.empty, .int .i64 0]) (by kernel_rfl) fun w6 k6 z6 b6 => ?_
    simp only [cells_agg] at b6
    refine op_storeN_ok (n := 3) (by kernel_rfl) b6 rfl (by decide) (by simp [SPr.cells]) fun w7 k7 z7 b7 => ?_
    have b7 : w7.heap[wl.heap.size]? = some (.cells #[.int .i64 ps[i].key, .string ps[i].text, .int .i64 ps[i].val] 49 (0, 0)) := by
      rw [ow_all (by simp [SPr.cells])] at b7; exact b7
    have k67 : Frm (fun _ => False) wl w7 := k6.old k7 fun c hc => .inr (by omega)
    have bk := (kl.no k67).get b1' fun h => h
    simp [-getElem?_pos, -Array.getElem?_eq_getElem, -Int.natCast_add, -op_lit_76_1, -op_alloc_73, -op_alloc_80, -op_alloc_49, -op_st_49, -op_st_73, -op_st_4, -op_st_177, -op_alloc_177, b7, bk, call_key]
    refine key_ok htp ?_
    try simp [-getElem?_pos, -Array.getElem?_eq_getElem, -Int.natCast_add, -op_lit_76_1, -op_alloc_73, -op_alloc_80, -op_alloc_49, -op_st_49, -op_st_73, -op_st_4, -op_st_177, -op_alloc_177, b7]
    refine ver_set hl ((hV.still k67).still (Frm.drew _)) (by omega) fun w8 b8 k8 v8 => ?_
    try simp [-getElem?_pos, -Array.getElem?_eq_getElem, -Int.natCast_add, -op_lit_76_1, -op_alloc_73, -op_alloc_80, -op_alloc_49, -op_st_49, -op_st_73, -op_st_4, -op_st_177, -op_alloc_177]
    rw [show IntKind.i64.wrap ((i : Int) + 1) = ((i + 1 : Nat) : Int) from by rw [IntKind.wrap_i64]; omega]
    refine ⟨(hI _ _ _).2 ⟨i + 1, b8, rfl, rfl, by omega, kl.no (k67.no (Frm.dr k8)), ?_⟩, by simp only [nOf_int]; omega⟩
    rw [List.take_succ_eq_append_getElem hi', List.map_append, List.map_singleton, putAll_snoc]
    exact v8
  have hie : i = ps.length := by omega
  subst hie
  rw [List.take_length] at hV
  have hLn := putAll_len (lt := lt) (ps.map kd.kv) []
  simp only [List.length_map, List.length_nil] at hLn
  generalize putAll lt [] (ps.map kd.kv) = L at *
  have k1l := k15.no kl
  have b5l := kl.get b5 fun h => h
  have bKl := kl.get b1' fun h => h
  simp [-getElem?_pos, -Array.getElem?_eq_getElem, -Int.natCast_add, -op_lit_76_1, -op_alloc_73, -op_alloc_80, -op_alloc_49, -op_st_49, -op_st_73, -op_st_4, -op_st_177, -op_alloc_177, b5l]
  refine ver_iter (hV.still (Frm.drew _)) (by omega) fun w6 ib k6 hib hA6 => ?_
  have k6 := Frm.dr k6
  have b56 := k6.get b5l fun h => h
  have bK6 := k6.get bKl fun h => h
  have hS6 := (hS5.still kl).still k6
  simp [-getElem?_pos, -Array.getElem?_eq_getElem, -Int.natCast_add, -op_lit_76_1, -op_alloc_73, -op_alloc_80, -op_alloc_49, -op_st_49, -op_st_73, -op_st_4, -op_st_177, -op_alloc_177, b56]
  refine iter0_ok hS6 fun w7 sb i0 k7 hi0 hN7 => ?_
  have bK7 := k7.get bK6 fun h => h
  have h70 : Its w7 ib mb sb i0 lt ps.length L (stand L 0) := by
    refine ⟨?_, ((hV.still k6).still k7), hN7⟩
    have := hA6.still k7
    unfold stand
    by_cases h0 : L.length = 0
    · rw [if_neg (by omega)]; rw [if_pos h0] at this; exact this
    · rw [if_pos (by omega)]; rw [if_neg h0] at this; exact this
  have k17 := (k1l.no k6).no k7
  have n17 := k17.size
  have hlow : w.heap.size < ib ∧ w.heap.size < i0 := by
    have a0 := lt_of_get bKl
    have a1 := k1l.size
    have a2 := k6.size
    have : wl.drew.heap.size = wl.heap.size := rfl
    omega
  clear hN7 hS6 hS5 hA6 h1 k7 k6 hM5 hV hv kl k1l k15 hI I
  generalize hWS : w7.heap.size = S at *
  obtain ⟨hibS, hi0S⟩ : ib < S ∧ i0 < S := by
    obtain ⟨cs, e1, _⟩ := h70.it.it
    obtain ⟨m2, cs2, c0, c2, _, e2, _⟩ := h70.no
    have a1 := lt_of_get e1
    have a2 := lt_of_get e2
    rw [hWS] at a1 a2
    exact ⟨a1, a2⟩
  try simp [-getElem?_pos, -Array.getElem?_eq_getElem, -Int.natCast_add, -op_lit_76_1, -op_alloc_73, -op_alloc_80, -op_alloc_49, -op_st_49, -op_st_73, -op_st_4, -op_st_177, -op_alloc_177]
  obtain ⟨I, hI⟩ : ∃ I : Value → KV, ∀ l v wl, I l v wl ↔ ∃ i : Nat, v = .int .i64 i ∧ i ≤ ms.length ∧ Frm (fun c => c = ib ∨ c = i0) w7 wl ∧ Its wl ib mb sb i0 lt ps.length L (runQ lt kd L (ms.take i)).1 ∧
      RowsOf (Flat WAn.cells) wl S 80 5 l (runQ lt kd L (ms.take i)).2 (fun _ => False) := ⟨_, fun _ _ _ => Iff.rfl⟩
  refine Lp.intro I (fun _ v _ => ms.length - nOf v) ⟨(hI _ _ _).2 ⟨0, rfl, by omega, Frm.refl, h70, rows_nil⟩, ?_⟩
  intro wl l v hv
  obtain ⟨i, rfl, hi, kl, hIt, hR⟩ := (hI _ _ _).1 hv
  simp only [op_lss, Br_dec]
  refine ⟨fun hlt => ?_, fun hge => ?_⟩
  rotate_left
  · have hie : i = ms.length := by omega
    subst hie
    rw [List.take_length] at hR
    exact hK l wl (k17.old kl fun c hc => .inr (by omega)) (hR.base_le (by omega))
  have hi' : i < ms.length := by omega
  have htk : ms.take (i + 1) = ms.take i ++ [ms[i]] := List.take_succ_eq_append_getElem hi'
  have hsnoc := runQ_snoc (lt := lt) (kd := kd) (L := L) (ms.take i) ms[i]
  rw [← htk] at hsnoc
  have hlen := runQ_len (lt := lt) (kd := kd) (L := L) (ms.take i)
  rw [List.length_take] at hlen
  obtain ⟨b, o, cs, e, fz, rfl, hcs, hsz, hext⟩ := (h2.frame (k17.old kl fun c hc => .inr (by omega)) fun _ _ h => h).part WSt.len (by decide) hi'
  obtain ⟨hop, hmt⟩ := hm _ (List.getElem_mem hi')
  generalize ms[i] = m at *
  generalize runQ lt kd L (ms.take i) = r at *
  obtain ⟨q, an⟩ := r
  simp only at hIt hR hlen
  have bK := kl.get bK7 (by omega)
  have nl := kl.size
  have hlowR := hR.own_lt
  simp [-getElem?_pos, -Array.getElem?_eq_getElem, -Int.natCast_add, -op_lit_76_1, -op_alloc_73, -op_alloc_80, -op_alloc_49, -op_st_49, -op_st_73, -op_st_4, -op_st_177, -op_alloc_177, hcs, hsz, hext]
  refine ⟨hi', ?_⟩
  refine op_alloc_ok (z := .agg #[.int .u8 0, .int .i64 0, .string ByteArray.empty]) (by kernel_rfl) fun w8 k8 z8 b8 => ?_
  simp only [cells_agg] at b8
  refine op_storeN_ok (n := 3) (by kernel_rfl) b8 rfl (by decide) (by simp [WSt.cells]) fun w9 k9 z9 b9 => ?_
  have b9 : w9.heap[wl.heap.size]? = some (.cells #[.int .u8 m.op, .int .i64 m.key, .string m.text] 73 (0, 0)) := by
    rw [ow_all (by simp [WSt.cells])] at b9; exact b9
  have k89 : Frm (fun _ => False) wl w9 := k8.old k9 fun c hc => .inr (by omega)
  refine op_alloc_ok (z := .agg #[.int .i64 0, .string ByteArray.empty, .int .i64 0, .bool false, .bool false]) (by kernel_rfl) fun wA kA zA bA => ?_
  simp only [cells_agg] at bA
  have kAl := k89.no kA
  have bKA := kAl.get bK fun h => h
  have bWA := kA.get b9 fun h => h
  have hItA := hIt.still kAl
  have hwA := lt_of_get b9
  have hRA := hR.still (flat_ok _) kAl
  have nA := kAl.size
  have hab := lt_of_get bA
  generalize hAB : w9.heap.size = ab at *
  generalize hWB : wl.heap.size = wb at *
  simp [-getElem?_pos, -Array.getElem?_eq_getElem, -Int.natCast_add, -op_lit_76_1, -op_alloc_73, -op_alloc_80, -op_alloc_49, -op_st_49, -op_st_73, -op_st_4, -op_st_177, -op_alloc_177, bKA, bWA, call_key]
  refine key_ok hmt ?_
  obtain ⟨J, hJ⟩ : ∃ J : World → Prop, ∀ wz, J wz ↔ Frm (fun c => c = ib ∨ c = i0 ∨ c = ab) wA wz ∧ Its wz ib mb sb i0 lt ps.length L (stepQ lt kd L q m).1 ∧
      wz.heap[ab]? = some (.cells #[.int .i64 (stepQ lt kd L q m).2.pair.key, .string (stepQ lt kd L q m).2.pair.text, .int .i64 (stepQ lt kd L q m).2.pair.val, .bool (stepQ lt kd L q m).2.ok, .bool false] 80 (0, 0)) := ⟨_, fun _ => Iff.rfl⟩
  have hmz : ∀ {wq wz : World} {cs : Array Value}, Its wq ib mb sb i0 lt ps.length L (stepQ lt kd L q m).1 → wq.heap[ab]? = some (.cells cs 80 (0, 0)) → Frm (· = ab) wq wz → Its wz ib mb sb i0 lt ps.length L (stepQ lt kd L q m).1 := fun h h1 hf => h.keep (calm_one h1 (by decide)) hf
  try simp [-getElem?_pos, -Array.getElem?_eq_getElem, -Int.natCast_add, -op_lit_76_1, -op_alloc_73, -op_alloc_80, -op_alloc_49, -op_st_49, -op_st_73, -op_st_4, -op_st_177, -op_alloc_177]
  refine Jn.intro J ⟨?_, ?_⟩
  · have hlt : ∀ {wq : World}, Frm (fun c => c = ib ∨ c = i0) wA wq → wq.heap[ab]? = some (.cells #[.int .i64 0, .string ByteArray.empty, .int .i64 0, .bool false, .bool false] 80 (0, 0)) := fun hf => hf.get bA (by omega)
    rcases hop with h2 | h4
    · simp [-getElem?_pos, -Array.getElem?_eq_getElem, -Int.natCast_add, -op_lit_76_1, -op_alloc_73, -op_alloc_80, -op_alloc_49, -op_st_49, -op_st_73, -op_st_4, -op_st_177, -op_alloc_177, bWA, h2]
      match q, hItA with
      | none, hItA =>
        rw [stepQ_none h2] at *
        refine itNone_ok hItA.it fun k0 hk0 => ?_
        try simp [-getElem?_pos, -Array.getElem?_eq_getElem, -Int.natCast_add, -op_lit_76_1, -op_alloc_73, -op_alloc_80, -op_alloc_49, -op_st_49, -op_st_73, -op_st_4, -op_st_177, -op_alloc_177]
        refine op_store_ok (by kernel_rfl) bA (by decide) rfl fun wB kB zB bB => ?_
        have bB : wB.heap[ab]? = some (.cells #[.int .i64 0, .string ByteArray.empty, .int .i64 0, .bool false, .bool false] 80 (0, 0)) := by simpa using bB
        have bKB := kB.get bKA (by omega)
        simp [-getElem?_pos, -Array.getElem?_eq_getElem, -Int.natCast_add, -op_lit_76_1, -op_alloc_73, -op_alloc_80, -op_alloc_49, -op_st_49, -op_st_73, -op_st_4, -op_st_177, -op_alloc_177, bKB, call_pair]
        refine pair_ok fun wC kC => ?_
        rw [kd_zero hk0]
        refine op_storeN_ok (n := 3) (by kernel_rfl) (kC.get bB fun h => h) rfl (by decide) (fun u hu => SPr.one zeroP u (by simpa using hu)) fun wD kD zD bD => ?_
        have bD : wD.heap[ab]? = some (.cells #[.int .i64 0, .string ByteArray.empty, .int .i64 0, .bool false, .bool false] 80 (0, 0)) := by rw [bD]; rfl
        try simp [-getElem?_pos, -Array.getElem?_eq_getElem, -Int.natCast_add, -op_lit_76_1, -op_alloc_73, -op_alloc_80, -op_alloc_49, -op_st_49, -op_st_73, -op_st_4, -op_st_177, -op_alloc_177]
        exact (hJ _).2 ⟨((kB.to fun _ h => .inr (.inr h)).trans (kC.to fun _ h => h.elim) fun _ h _ => h).trans (kD.to fun _ h => .inr (.inr h)) fun _ h _ => h, ((hItA.keep (calm_one bA (by decide)) kB).still kC).keep (calm_one (kC.get bB fun h => h) (by decide)) kD, bD⟩
      | some p, hItA =>
        rw [stepQ_some h2] at *
        refine itNext_ok hItA.it fun wE kE e he hAE => ?_
        have hIE := hItA.move (q' := stand L (p + 1)) kE hAE
        have bAE := kE.get bA (by omega)
        have bKE := kE.get bKA (by omega)
        try simp [-getElem?_pos, -Array.getElem?_eq_getElem, -Int.natCast_add, -op_lit_76_1, -op_alloc_73, -op_alloc_80, -op_alloc_49, -op_st_49, -op_st_73, -op_st_4, -op_st_177, -op_alloc_177]
        refine op_store_ok (by kernel_rfl) bAE (by decide) rfl fun wB kB zB bB => ?_
        have bB : wB.heap[ab]? = some (.cells #[.int .i64 0, .string ByteArray.empty, .int .i64 0, .bool true, .bool false] 80 (0, 0)) := by simpa using bB
        have bKB := kB.get bKE (by omega)
        simp [-getElem?_pos, -Array.getElem?_eq_getElem, -Int.natCast_add, -op_lit_76_1, -op_alloc_73, -op_alloc_80, -op_alloc_49, -op_st_49, -op_st_73, -op_st_4, -op_st_177, -op_alloc_177, bKB, call_pair]
        refine pair_ok fun wC kC => ?_
        refine op_storeN_ok (n := 3) (by kernel_rfl) (kC.get bB fun h => h) rfl (by decide) (fun u hu => SPr.one _ u (by simpa using hu)) fun wD kD zD bD => ?_
        have bD : wD.heap[ab]? = some (.cells #[.int .i64 (kd.pair e.1 e.2).key, .string (kd.pair e.1 e.2).text, .int .i64 (kd.pair e.1 e.2).val, .bool true, .bool false] 80 (0, 0)) := by rw [bD]; rfl
        try simp [-getElem?_pos, -Array.getElem?_eq_getElem, -Int.natCast_add, -op_lit_76_1, -op_alloc_73, -op_alloc_80, -op_alloc_49, -op_st_49, -op_st_73, -op_st_4, -op_st_177, -op_alloc_177]
        refine (hJ _).2 ⟨(((kE.to fun _ h => .inl h).trans (kB.to fun _ h => .inr (.inr h)) fun _ h _ => h).trans (kC.to fun _ h => h.elim) fun _ h _ => h).trans (kD.to fun _ h => .inr (.inr h)) fun _ h _ => h, ((hIE.keep (calm_one bAE (by decide)) kB).still kC).keep (calm_one (kC.get bB fun h => h) (by decide)) kD, ?_⟩
        rw [he]; exact bD
    · simp [-getElem?_pos, -Array.getElem?_eq_getElem, -Int.natCast_add, -op_lit_76_1, -op_alloc_73, -op_alloc_80, -op_alloc_49, -op_st_49, -op_st_73, -op_st_4, -op_st_177, -op_alloc_177, bWA, h4]
      rw [stepQ_seek h4] at *
      refine ver_seek hl hItA (by omega) fun wE kE hIE => ?_
      try simp [-getElem?_pos, -Array.getElem?_eq_getElem, -Int.natCast_add, -op_lit_76_1, -op_alloc_73, -op_alloc_80, -op_alloc_49, -op_st_49, -op_st_73, -op_st_4, -op_st_177, -op_alloc_177]
      refine seek0_ok hIE.no fun wF kF hNF => ?_
      refine (hJ _).2 ⟨(kE.to fun _ h => .inl h).trans (kF.to fun _ h => .inr (.inl h)) fun _ h _ => h, hIE.move0 kF hNF, kF.get (kE.get bA (by omega)) (by omega)⟩
  · intro wG hG
    obtain ⟨kG, hIG, bG⟩ := (hJ _).1 hG
    have hdone := stepQ_done (lt := lt) (kd := kd) (L := L) (q := q) hop
    have hone1 : oneQ lt kd L (q, an) m = ((stepQ lt kd L q m).1, an ++ [(stepQ lt kd L q m).2]) := rfl
    rw [hone1] at hsnoc
    generalize hst : stepQ lt kd L q m = st at *
    obtain ⟨q', a⟩ := st
    simp only at hIG bG hdone hsnoc
    try simp [-getElem?_pos, -Array.getElem?_eq_getElem, -Int.natCast_add, -op_lit_76_1, -op_alloc_73, -op_alloc_80, -op_alloc_49, -op_st_49, -op_st_73, -op_st_4, -op_st_177, -op_alloc_177]
    refine done_ok hIG.it ?_
    try simp [-getElem?_pos, -Array.getElem?_eq_getElem, -Int.natCast_add, -op_lit_76_1, -op_alloc_73, -op_alloc_80, -op_alloc_49, -op_st_49, -op_st_73, -op_st_4, -op_st_177, -op_alloc_177]
    refine op_store_ok (by kernel_rfl) bG (by simp) rfl fun wH kH zH bH => ?_
    have bH : wH.heap[ab]? = some (.cells a.cells.toArray 80 (0, 0)) := by
      rw [← hdone] at bH
      simpa [WAn.cells] using bH
    have hIH := hIG.keep (calm_one bG (by decide)) kH
    have hRG := hRA.frame (flat_ok _) kG (fun _ h => h.elim) fun b hb he => by have := hlowR b hb; omega
    have hRH := hRG.frame (flat_ok _) kH (fun _ h => h.elim) fun b hb he => by have := hlowR b hb; omega
    have hx : a.cells.toArray.extract 0 5 = a.cells.toArray := extract_self (by simp [WAn.cells])
    have hs5 : 5 ≤ a.cells.length := Nat.le_refl _
    simp [-getElem?_pos, -Array.getElem?_eq_getElem, -Int.natCast_add, -op_lit_76_1, -op_alloc_73, -op_alloc_80, -op_alloc_49, -op_st_49, -op_st_73, -op_st_4, -op_st_177, -op_alloc_177, bH, hx, hs5]
    have nG := kG.size
    have nH := kH.size
    refine op_push (u := a.cells) (y := a) (G2 := fun _ => False) (flat_ok WAn.cells) apWA (lit_wa _) rfl (WAn.one _) hRH rfl (fun _ h => h.elim) (fun _ _ h => h) (by omega) (by omega) fun l' wI kI hRI hoI => ?_
    have hlowH := hRH.own_lt
    try simp [-getElem?_pos, -Array.getElem?_eq_getElem, -Int.natCast_add, -op_lit_76_1, -op_alloc_73, -op_alloc_80, -op_alloc_49, -op_st_49, -op_st_73, -op_st_4, -op_st_177, -op_alloc_177]
    rw [show IntKind.i64.wrap ((i : Int) + 1) = ((i + 1 : Nat) : Int) from by rw [IntKind.wrap_i64]; omega]
    have hcalm : Calm wH (fun b => some b = l.ownBlock) := fun c hc => by
      obtain ⟨cs, t⟩ := rows_ty hRH c hc.symm
      exact .inl ⟨_, _, _, t, by decide⟩
    refine ⟨(hI _ _ _).2 ⟨i + 1, rfl, by omega, ?_, ?_, ?_⟩, by simp only [nOf_int]; omega⟩
    · exact (((kl.old kAl fun _ h => h.elim).old kG fun c hc => hc.elim (fun h => .inl (.inl h)) fun h => h.elim (fun h => .inl (.inr h)) fun h => .inr (by omega)).old kH fun c hc => .inr (by omega)).old kI fun c hc => .inr (by have := hlowH c hc.symm; omega)
    · rw [hsnoc]; exact hIH.keep hcalm kI
    · rw [hsnoc]
      exact hRI.mono (flat_ok _) (fun _ h => h.elim id fun h => h) (fun _ h => h.elim) fun _ _ h => h
end Go.Proofs.YtodjijfblgnfmaaGreatDoor.I
end
section
namespace Go.Proofs.YtodjijfblgnfmaaGreatDoor.T
open Go.Vc Go.Proofs Go.Proofs.YtodjijfblgnfmaaGreatDoor Go.Vc.Bt
variable {w w' : World} {v cv : Value} {K : KV} {Kp : KP} {lt : Ky → Ky → Bool} {k : Ky} {ib mb d : Nat} {L : List (Ky × Vl)} {cs : Array Value} {s : Tr}
theorem place_mid {A M B : List (Ky × Vl)} (hl : Lin lt) (hA : ∀ e ∈ A, lt e.1 k = true) (hB : ∀ e ∈ B, lt k e.1 = true) : place lt (A ++ (M ++ B)) k = A.length + place lt M k := by
  rw [place_app hA, place_pre hl hB]
theorem seek_ok {up : List Fr} {c0 c1 : Value} (hl : Lin lt) (hC : IsC cv lt) (h : Low w ib mb d cs s v up) (hm : w.heap[mb]? = some (.cells #[c0, c1, cv] 190 (0, 0))) (hs : Sd lt (bw (d + 1) (fms up) ++ (toL d s ++ fw (d + 1) (fms up))))
    (hA : ∀ e ∈ bw (d + 1) (fms up), lt e.1 k = true) (hB : ∀ e ∈ fw (d + 1) (fms up), lt k e.1 = true) (hL0 : L = bw (d + 1) (fms up) ++ (toL d s ++ fw (d + 1) (fms up)))
    (hK : ∀ w', Frm (· = ib) w w' → At w' ib mb L (if place lt L k < L.length then some (place lt L k) else none) → K (.tuple #[]) w') :
    Calls Tryz.prog 176 #[ptr ib, ek k] w (ret K Kp) := by
  refine vc176_calls ?_
  delta vc176
  obtain ⟨I, hI⟩ : ∃ I : World → Prop, ∀ wl, I wl ↔ ∃ d cs s v up, Low wl ib mb d cs s v up ∧ Frm (· = ib) w wl ∧ L = bw (d + 1) (fms up) ++ (toL d s ++ fw (d + 1) (fms up)) ∧ (∀ e ∈ bw (d + 1) (fms up), lt e.1 k = true) ∧ (∀ e ∈ fw (d + 1) (fms up), lt k e.1 = true) := ⟨_, fun _ => Iff.rfl⟩
  rw [← hL0] at hs
  refine Lp.intro I (fun wl => 40 - depthOf wl ib) ⟨(hI _).2 ⟨d, cs, s, v, up, h, Frm.refl, hL0, hA, hB⟩, ?_⟩
  have hmib : mb ≠ ib := fun e => by rw [e, h.hb] at hm; cases hm
  clear hL0 hA hB h
  intro wl _ hi
  obtain ⟨d, cs, s, v, up, h, hf, hL, hA, hB⟩ := (hI _).1 hi
  have hu := h.len
  have hd0 := depthOf_eq h.hb h.dep
  have hsz := h.sz
  have hoff := off_Q h.hb
  have hml := hf.get hm hmib
  have hn := h.node
  have hwf := h.wf
  have hrep := h.rep
  have hdep := h.dep
  have hsd : Sd lt (toL d s) := by
    rw [hL] at hs
    exact (List.pairwise_append.1 (List.pairwise_append.1 hs).2.1).1
  have hm0 := h.m
  have hst := h.stk
  have hab := h.ab
  have hd2 : Frm (fun _ => False) wl wl.drew.drew := (Frm.drew wl).no (Frm.drew _)
  match d, hwf, hrep, h, hst, hab, hsd with
  | 0, hwf, hrep, h, hst, hab, hsd =>
    obtain ⟨es, rfl, e1, e2⟩ := wf_zero.1 hwf
    have hrep' := hrep
    obtain ⟨b, g, o, c, rfl, hb, hg⟩ := hrep
    have h0 : 0 < es.length := List.length_pos_iff.2 e1
    simp [-getElem?_pos, -Array.getElem?_eq_getElem, -Int.natCast_add, -op_st_3, -op_st_195, ptr, h.hb, hdep, hn, hm0, hml]
    refine ⟨by omega, ?_⟩
    refine leafIdx_ok (es := es) (k := k) hC hsd (by omega) (hd2.get hb fun h => h) (hg.still hd2) fun w1 f1 => ?_
    have f1 := hd2.no f1
    have hpl := place_le (lt := lt) es k
    have hpm : place lt L k = (bw 1 (fms up)).length + place lt es k := by rw [hL]; exact place_mid hl hA hB
    generalize place lt es k = j at *
    have b1 := f1.get h.hb fun h => h
    try simp [-getElem?_pos, -Array.getElem?_eq_getElem, -Int.natCast_add, -op_st_3, -op_st_195]
    refine op_store_ok (by kernel_rfl) b1 (by omega) rfl fun w2 k2 z2 b2 => ?_
    have k12 : Frm (· = ib) wl w2 := f1.fst k2
    have g1 : ∀ i, (cs.setIfInBounds (1 + up.length * 2 + 1) (.int .i64 (j : Int)))[i]? = if 1 + up.length * 2 + 1 = i then some (.int .i64 (j : Int)) else cs[i]? := fun i => set_at (by omega)
    have hn1 : (cs.setIfInBounds (1 + up.length * 2 + 1) (.int .i64 (j : Int)))[1 + up.length * 2]? = some (.iface 200 (ptr b)) := by rw [g1, if_neg (by omega)]; exact hn
    have hi1 : (cs.setIfInBounds (1 + up.length * 2 + 1) (.int .i64 (j : Int)))[1 + up.length * 2 + 1]? = some (.int .i64 (j : Int)) := by rw [g1, if_pos rfl]
    have hd1 : (cs.setIfInBounds (1 + up.length * 2 + 1) (.int .i64 (j : Int)))[65]? = some (.int .i64 (up.length : Int)) := by rw [g1, if_neg (by omega)]; exact hdep
    have hm1 : (cs.setIfInBounds (1 + up.length * 2 + 1) (.int .i64 (j : Int)))[0]? = some (ptr mb) := by rw [g1, if_neg (by omega)]; exact hm0
    have hz1 : (cs.setIfInBounds (1 + up.length * 2 + 1) (.int .i64 (j : Int))).size = 66 := by simp [hsz]
    have st1 : Stk w2 (cs.setIfInBounds (1 + up.length * 2 + 1) (.int .i64 (j : Int))) (0 + 1) up := (hst.off hoff k12).cells fun i hi => by rw [g1, if_neg (by omega)]
    generalize cs.setIfInBounds (1 + up.length * 2 + 1) (.int .i64 (j : Int)) = c1 at *
    have r2 := hrep'.off hoff k12
    obtain ⟨co, ce, cz, o1, o2, o3, o4, o5⟩ := id hoff
    have nb : b ≠ ib := fun e => by rw [e, o1] at hb; first | exact o4 (by cases hb; rfl) | (cases hb; first | exact o4 rfl | exact o5 rfl | (rename_i q; contradiction) | simp_all)
    have hb2 := k12.get hb nb
    have hf2 : Frm (· = ib) w w2 := hf.trans k12 fun _ h _ => h
    have hlen : L.length = (bw 1 (fms up)).length + es.length + (fw 1 (fms up)).length := by
      rw [hL]; show (bw 1 (fms up) ++ (es ++ fw 1 (fms up))).length = _
      simp only [List.length_append]; omega
    simp [-getElem?_pos, -Array.getElem?_eq_getElem, -Int.natCast_add, -op_st_3, -op_st_195, ptr, b2, hn1, hi1, hb2]
    refine ⟨fun he => ?_, fun hne => ?_⟩
    · have he : j = es.length := by omega
      subst he
      refine next_pop (L := L) (q := (bw 1 (fms up)).length + es.length - 1) ⟨c1, ⟨.leaf es, _, es.length⟩, up, ⟨by simpa using b2, hz1, hm1, hd1, ⟨hn1, hi1, r2.still (Frm.drew _), hwf, st1.still (Frm.drew _)⟩, hab, hu, .inr ⟨rfl, rfl⟩⟩, hL, ?_⟩ fun w4 k4 hat => ?_
      · show _ + (es.drop (es.length + 1) ++ fw 1 (fms up)).length = L.length
        rw [List.drop_of_length_le (by omega), List.nil_append]; omega
      · try simp [-getElem?_pos, -Array.getElem?_eq_getElem, -Int.natCast_add, -op_st_3, -op_st_195]
        rw [show (bw 1 (fms up)).length + es.length - 1 + 1 = place lt L k from by omega] at hat
        exact hK w4 (hf2.trans (Frm.dr k4) fun _ h _ => h) hat
    · have := hK w2.drew (hf2.trans (Frm.drew w2) fun _ h _ => h)
      rw [if_pos (by omega)] at this
      refine this ⟨c1, es, _, up, j, ⟨by simpa using b2, hz1, hm1, hd1, hn1, r2.still (Frm.drew _), hwf, st1.still (Frm.drew _), hab, hu⟩, hi1, by omega, hL, hpm⟩
  | d + 1, hwf, hrep, h, hst, hab, hsd =>
    obtain ⟨ks, rfl, e1, e2, e3⟩ := wf_succ.1 hwf
    have hrep' := hrep
    obtain ⟨b, g, o, c, ps, rfl, hb, hps, hg, hc⟩ := hrep
    have hlp : ps.length = ks.length := by rw [hps, List.length_map]
    rw [← hlp] at hb hg
    simp [-getElem?_pos, -Array.getElem?_eq_getElem, -Int.natCast_add, -op_st_3, -op_st_195, ptr, h.hb, hdep, hn, hm0, hml]
    refine ⟨by omega, ?_⟩
    refine brIdx_ok (k := k) hC hwf hsd hps (hd2.get hb fun h => h) (hg.still hd2) fun w1 f1 => ?_
    have f1 := hd2.no f1
    have hi0 := kid_lt (lt := lt) (h := d) (k := k) e1
    have hka := kid_ahead hl hwf hsd k
    have hkb := kid_behind hl hwf hsd k
    generalize kid lt d ks k = m at *
    have b1' := f1.get h.hb fun h => h
    try simp [-getElem?_pos, -Array.getElem?_eq_getElem, -Int.natCast_add, -op_st_3, -op_st_195]
    refine op_store_ok (by kernel_rfl) b1' (by omega) rfl fun w2 k2 z2 b2 => ?_
    have p1 : Frm (· = ib) wl w2 := f1.fst k2
    have hf1 : Frm (· = ib) w w2 := hf.trans p1 fun _ h _ => h
    have h0 : m < ps.length := by omega
    have g1 : ∀ i, (cs.setIfInBounds (1 + up.length * 2 + 1) (.int .i64 (m : Int)))[i]? = if 1 + up.length * 2 + 1 = i then some (.int .i64 (m : Int)) else cs[i]? := fun i => set_at (by omega)
    have n1 : (cs.setIfInBounds (1 + up.length * 2 + 1) (.int .i64 (m : Int)))[1 + up.length * 2]? = some (.iface 262 (ptr b)) := by rw [g1, if_neg (by omega)]; exact hn
    have i1 : (cs.setIfInBounds (1 + up.length * 2 + 1) (.int .i64 (m : Int)))[1 + up.length * 2 + 1]? = some (.int .i64 (m : Int)) := by rw [g1, if_pos rfl]
    have d1 : (cs.setIfInBounds (1 + up.length * 2 + 1) (.int .i64 (m : Int)))[65]? = some (.int .i64 (up.length : Int)) := by rw [g1, if_neg (by omega)]; exact hdep
    have m1 : (cs.setIfInBounds (1 + up.length * 2 + 1) (.int .i64 (m : Int)))[0]? = some (ptr mb) := by rw [g1, if_neg (by omega)]; exact hm0
    have z1' : (cs.setIfInBounds (1 + up.length * 2 + 1) (.int .i64 (m : Int))).size = 66 := by simp [hsz]
    have st1 : Stk w2 (cs.setIfInBounds (1 + up.length * 2 + 1) (.int .i64 (m : Int))) (d + 1 + 1) up := (hst.off hoff p1).cells fun i hi => by rw [g1, if_neg (by omega)]
    generalize cs.setIfInBounds (1 + up.length * 2 + 1) (.int .i64 (m : Int)) = c1 at *
    have r1' := hrep'.off hoff p1
    obtain ⟨bs, q1, q2, q3⟩ := id hg
    obtain ⟨co, ce, cz, o1, o2, o3, o4, o5⟩ := id hoff
    have nb : b ≠ ib := fun e => by rw [e, o1] at hb; cases hb; exact o4 rfl
    have ng : g ≠ ib := fun e => by rw [e, o1] at q1; cases q1; exact o5 rfl
    have hb1 := p1.get hb nb
    obtain ⟨cur, hcur, hk⟩ := elCells (hg.frame p1 ng)
    have hk0 := (hk m h0).2
    have hr0 := (hc _ (List.getElem_mem h0)).off hoff p1
    obtain ⟨uc, pc, hcv⟩ := hr0.iface
    rw [hcv] at hk0
    have ewd : IntKind.i64.wrap ((up.length : Int) + 1) = ((up.length + 1 : Nat) : Int) := by rw [IntKind.wrap_i64]; omega
    simp [-getElem?_pos, -Array.getElem?_eq_getElem, -Int.natCast_add, -op_st_3, -op_st_195, ptr, b2, n1, d1, i1, hb1, hcur, hk0, ewd]
    refine ⟨h0, by omega, ?_⟩
    refine op_storeN_ok (n := 2) (by kernel_rfl) b2 rfl (by omega) (fun u hu => ?_) fun w3 k3 z3 b3 => ?_
    · simp only [List.mem_toArray, List.mem_cons, List.not_mem_nil, or_false] at hu
      rcases hu with rfl | rfl <;> rfl
    · have k3 := Frm.dr k3
      have g2 : ∀ j, (ow c1 (1 + (up.length + 1) * 2) [Value.iface uc pc, .int .i64 0])[j]? = if 1 + (up.length + 1) * 2 ≤ j ∧ j < 1 + (up.length + 1) * 2 + 2 then [Value.iface uc pc, .int .i64 0][j - (1 + (up.length + 1) * 2)]? else c1[j]? := fun j => ow_get (by simp; omega)
      have z2' : (ow c1 (1 + (up.length + 1) * 2) [Value.iface uc pc, .int .i64 0]).size = 66 := by rw [ow_size, z1']
      have d2 : (ow c1 (1 + (up.length + 1) * 2) [Value.iface uc pc, .int .i64 0])[65]? = some (.int .i64 (up.length : Int)) := by rw [g2, if_neg (by omega)]; exact d1
      simp [-getElem?_pos, -Array.getElem?_eq_getElem, -Int.natCast_add, -op_st_3, -op_st_195, b3, d2, ewd]
      refine op_store_ok (by kernel_rfl) b3 (by rw [ow_size]; omega) rfl fun w4 k4 z4 b4 => ?_
      have g3 : ∀ j, ((ow c1 (1 + (up.length + 1) * 2) [Value.iface uc pc, .int .i64 0]).setIfInBounds 65 (.int .i64 ((up.length + 1 : Nat) : Int)))[j]? = if 65 = j then some (.int .i64 ((up.length + 1 : Nat) : Int)) else (ow c1 (1 + (up.length + 1) * 2) [Value.iface uc pc, .int .i64 0])[j]? := fun j => set_at (by omega)
      have k13 : Frm (· = ib) w2 w4 := k3.trans k4 fun _ h _ => h
      have hm0' : ps[m].1 ∈ ks := by rw [hps]; exact List.mem_map.2 ⟨_, List.getElem_mem h0, rfl⟩
      have hks0 : ks[m]? = some ps[m].1 := by rw [hps, List.getElem?_map, List.getElem?_eq_getElem h0]; rfl
      have off1 := off_Q b2
      rw [hcv] at hr0
      have hst3 : Stk w4 ((ow c1 (1 + (up.length + 1) * 2) [Value.iface uc pc, .int .i64 0]).setIfInBounds 65 (.int .i64 ((up.length + 1 : Nat) : Int))) (d + 1 + 1) up := (st1.off off1 k13).cells fun j hj => by rw [g3, if_neg (by omega), g2, if_neg (by omega)]
      have hlow : Low w4 ib mb d ((ow c1 (1 + (up.length + 1) * 2) [Value.iface uc pc, .int .i64 0]).setIfInBounds 65 (.int .i64 ((up.length + 1 : Nat) : Int))) ps[m].1 (.iface uc pc) (⟨.br ks, .iface 262 (ptr b), m⟩ :: up) := by
        refine ⟨by simpa using b4, by simp [z2'], ?_, ?_, ?_, hr0.off off1 k13, e3 _ hm0', ⟨?_, ?_, r1'.off off1 k13, hwf, hst3⟩, ⟨hwf, ⟨ks, rfl, hks0⟩, hab⟩, by simp only [List.length_cons]; omega⟩
        · rw [g3, if_neg (by omega), g2, if_neg (by omega)]; exact m1
        · rw [g3, if_pos rfl]; rfl
        · rw [g3, if_neg (by simp only [List.length_cons]; omega), g2, if_pos (by simp only [List.length_cons]; omega)]
          simp
        · rw [g3, if_neg (by omega), g2, if_neg (by omega)]; exact n1
        · rw [g3, if_neg (by omega), g2, if_neg (by omega)]; exact i1
      have hd3 := depthOf_eq hlow.hb hlow.dep
      refine ⟨(hI _).2 ⟨d, _, _, _, _, hlow, hf1.trans k13 fun _ h _ => h, ?_, fun e he => ?_, fun e he => ?_⟩, ?_⟩
      · rw [hL]; exact (frame_eq hks0).symm
      · rw [bw_cons] at he
        exact (List.mem_append.1 he).elim (hA e) (hka e)
      · rw [fw_cons] at he
        exact (List.mem_append.1 he).elim (hkb e) (hB e)
      · rw [hd0, hd3]; simp only [List.length_cons]; omega
end Go.Proofs.YtodjijfblgnfmaaGreatDoor.T
end
section
namespace Go.Proofs.YtodjijfblgnfmaaGreatDoor.T
open Go.Vc Go.Proofs Go.Proofs.YtodjijfblgnfmaaGreatDoor Go.Vc.Bt
variable {w w' : World} {cv : Value} {K : KV} {Kp : KP} {lt : Ky → Ky → Bool} {k : Ky} {ib mb p : Nat} {L : List (Ky × Vl)} {cs : Array Value} {r : Root Ky Vl} {n : Nat}
theorem itSeek_ok (hl : Lin lt) (hi : It w ib mb) (hm : RepM w mb lt r) (hok : Ok lt n r) (hn : n < 2 ^ 60)
    (hK : ∀ w', Frm (· = ib) w w' → At w' ib mb (rL r) (if place lt (rL r) k < (rL r).length then some (place lt (rL r) k) else none) → K (.tuple #[]) w') : Calls Tryz.prog 133 #[ptr ib, ek k] w (ret K Kp) := by
  refine vc133_calls ?_
  delta vc133
  obtain ⟨cs, h1, h2, h3⟩ := hi
  obtain ⟨rv, cv, m1, m2, m3⟩ := hm
  have hoff := off_Q h1
  have hsd := hok.sd
  have hmi : mb ≠ ib := fun e => by rw [e, h1] at m1; cases m1
  match r, m2, m3, hok, hsd with
  | none, m2, _, _, _ =>
    obtain rfl : rv = .nilIface := m2
    simp [-getElem?_pos, -Array.getElem?_eq_getElem, -Int.natCast_add, -op_st_3, -op_st_195, ptr, h1, h3, m1]
    refine op_store_ok (by kernel_rfl) h1 (by omega) rfl fun w1 k1 z1 b1 => ?_
    refine hK w1 k1 ⟨_, b1, by simp [h2], ?_, ?_⟩
    · rw [set_at (by omega), if_neg (by omega)]; exact h3
    · rw [set_at (by omega), if_pos rfl]
  | some (h, t), m2, m3, hok, hsd =>
    obtain ⟨o1, o2, o3, o4⟩ := hok
    have hr : Rep w h t rv := m2
    obtain ⟨u, p, rfl⟩ := hr.iface
    have hh := high o4 hn
    have hC : IsC cv lt := m3.elim id fun ⟨_, _, h⟩ => nomatch h
    simp [-getElem?_pos, -Array.getElem?_eq_getElem, -Int.natCast_add, -op_st_3, -op_st_195, ptr, h1, h3, m1]
    refine op_storeN_ok (n := 2) (by kernel_rfl) h1 rfl (by omega) (fun u hu => ?_) fun w2 k2 z2 b2 => ?_
    · simp only [List.mem_toArray, List.mem_cons, List.not_mem_nil, or_false] at hu
      rcases hu with rfl | rfl <;> rfl
    · have k2 := Frm.dr k2
      have g2 : ∀ j, (ow cs 1 [Value.iface u p, .int .i64 0])[j]? = if 1 ≤ j ∧ j < 1 + 2 then [Value.iface u p, .int .i64 0][j - 1]? else cs[j]? := fun j => ow_get (by simp; omega)
      refine op_store_ok (by kernel_rfl) b2 (by rw [ow_size]; omega) rfl fun w3 k3 z3 b3 => ?_
      have g3 : ∀ j, ((ow cs 1 [Value.iface u p, .int .i64 0]).setIfInBounds 65 (.int .i64 0))[j]? = if 65 = j then some (.int .i64 0) else (ow cs 1 [Value.iface u p, .int .i64 0])[j]? := fun j => set_at (by rw [ow_size]; omega)
      have k13 : Frm (· = ib) w w3 := k2.trans k3 fun _ h _ => h
      have hlow : Low w3 ib mb h ((ow cs 1 [Value.iface u p, .int .i64 0]).setIfInBounds 65 (.int .i64 0)) t (.iface u p) [] :=
        ⟨b3, by simp [ow_size, h2], by rw [g3, if_neg (by omega), g2, if_neg (by omega)]; exact h3, by rw [g3, if_pos rfl]; rfl, by rw [g3, if_neg (by simp), g2, if_pos (by simp)]; rfl, hr.off hoff k13, o1, trivial, trivial, by simpa using hh⟩
      have e1 : bw (h + 1) (fms []) ++ (toL h t ++ fw (h + 1) (fms [])) = rL (some (h, t)) := by
        show [] ++ (toL h t ++ []) = toL h t
        simp
      refine seek_ok (L := rL (some (h, t))) hl hC hlow (k13.get m1 hmi) (by rw [e1]; exact hsd) (fun e he => nomatch he) (fun e he => nomatch he) e1.symm fun w4 k4 hat => ?_
      exact hK w4 (k13.trans k4 fun _ h _ => h) hat
end Go.Proofs.YtodjijfblgnfmaaGreatDoor.T
end
section
namespace Go.Proofs.YtodjijfblgnfmaaGreatDoor
open Go.Vc Go.Proofs
variable {S : Sig} {a0 a1 a2 a3 a4 a5 a6 a7 a8 a9 : Value} {w : World} {K : KV} {Kp : KP}
private theorem follows_BVcWT : Tryz.prog.follows .mixedOrders = true := by kernel_rfl
def vc61 (S : Sig) (a0 a1 a2 a3 a4 : Value) (w : World) (K : KV) (Kp : KP) : Prop :=
 S.op (.box 88 a0) w (fun v5 w =>
 S.call (.fn 64) [a1] w (fun v25 w =>
 S.call (.fn 109) [a1, (.slice none 0 0)] w (fun v27 w =>
 S.op (.alloc 164) w (fun v12 w =>
 S.op (.store 164 v12 v27) w (fun _ w =>
 S.op (.blt .len [46] 3 [a3]) w (fun v29 w =>
 Lp fun (I4 : Value → KV) (μ4 : Value → Value → World → Nat) => I4 v25 (.int .i64 0) w ∧
 ∀ (wl4 : World) (_ : Nat → Value) (s11 : Value) (s30 : Value), I4 s11 s30 wl4 →
 S.op (.bin .lss 3 false false s30 v29) wl4 (fun v31 w =>
 Br v31 (
 S.op (.indexAddr 46 a3 s30) w (fun v32 w =>
 S.op (.load 49 v32) w (fun v33 w =>
 S.op (.alloc 49) w (fun v14 w =>
 S.op (.store 49 v14 v33) w (fun _ w =>
 Br a2 (
 S.ld (.load 164 v12) w.drew (fun v35 =>
 S.pur (.fieldAddr 88 v5 0) (fun v36 =>
 S.ld (.load 84 v36) w.drew (fun v37 =>
 S.pur (.fieldAddr 49 v14 0) (fun v38 =>
 S.ld (.load 2 v38) w.drew (fun v39 =>
 S.pur (.fieldAddr 49 v14 1) (fun v40 =>
 S.ld (.load 9 v40) w.drew (fun v41 =>
 S.call (.val v37) [v39, v41] w.drew (fun v42 w =>
 S.same (.load 164 v12) v35 w ∧
 S.call (.fn 110) [v35, v42] w (fun v43 w =>
 S.op (.store 164 v12 v43) w (fun _ w =>
 S.op (.bin .add 3 false true s30 (.int .i64 1)) w (fun v55 w =>
 I4 s11 v55 w ∧ μ4 s11 v55 w < μ4 s11 s30 wl4) Kp) Kp) Kp) Kp)))))))) (
 S.pur (.fieldAddr 88 v5 0) (fun v45 =>
 S.ld (.load 84 v45) w.drew (fun v46 =>
 S.pur (.fieldAddr 49 v14 0) (fun v47 =>
 S.ld (.load 2 v47) w.drew (fun v48 =>
 S.pur (.fieldAddr 49 v14 1) (fun v49 =>
 S.ld (.load 9 v49) w.drew (fun v50 =>
 S.pur (.fieldAddr 49 v14 2) (fun v52 =>
 S.ld (.load 2 v52) w.drew (fun v53 =>
 S.call (.val v46) [v48, v50] w.drew (fun v51 w =>
 S.same (.load 2 v52) v53 w ∧
 S.call (.fn 66) [s11, v51, v53] w (fun v54 w =>
 S.op (.bin .add 3 false true s30 (.int .i64 1)) w (fun v55 w =>
 I4 v54 v55 w ∧ μ4 v54 v55 w < μ4 s11 s30 wl4) Kp) Kp) Kp)))))))))) Kp) Kp) Kp) Kp) (
 S.ld (.load 164 v12) w.drew (fun v58 =>
 S.call (.fn 70) [s11] w.drew (fun v57 w =>
 S.same (.load 164 v12) v58 w ∧
 S.call (.fn 115) [v58] w (fun v59 w =>
 S.op (.blt .len [74] 3 [a4]) w (fun v61 w =>
 Lp fun (I13 : Value → KV) (μ13 : Value → Value → World → Nat) => I13 (.slice none 0 0) (.int .i64 0) w ∧
 ∀ (wl13 : World) (_ : Nat → Value) (s17 : Value) (s62 : Value), I13 s17 s62 wl13 →
 S.op (.bin .lss 3 false false s62 v61) wl13 (fun v63 w =>
 Br v63 (
 S.op (.indexAddr 74 a4 s62) w (fun v64 w =>
 S.op (.load 73 v64) w (fun v65 w =>
 S.op (.alloc 73) w (fun v19 w =>
 S.op (.store 73 v19 v65) w (fun _ w =>
 S.op (.alloc 80) w (fun v20 w =>
 S.op (.fieldAddr 88 v5 0) w (fun v66 w =>
 S.op (.load 84 v66) w (fun v67 w =>
 S.op (.fieldAddr 73 v19 1) w (fun v68 w =>
 S.op (.load 2 v68) w (fun v69 w =>
 S.op (.fieldAddr 73 v19 2) w (fun v70 w =>
 S.op (.load 9 v70) w (fun v71 w =>
 S.call (.val v67) [v69, v71] w (fun v72 w =>
 Jn fun (J39 : World → Prop) =>
 (S.op (.fieldAddr 73 v19 0) w (fun v73 w =>
 S.op (.load 5 v73) w (fun v74 w =>
 S.op (.bin .eql 5 false true v74 (.int .u8 0)) w (fun v76 w =>
 Br v76 (
 S.call (.fn 129) [v57] w (fun v78 w =>
 S.call (.fn 130) [v59] w (fun v80 w =>
 J39 w) Kp) Kp) (
 S.op (.bin .eql 5 false true v74 (.int .u8 1)) w (fun v82 w =>
 Br v82 (
 S.call (.fn 72) [v57] w (fun v84 w =>
 S.call (.fn 116) [v59] w (fun v86 w =>
 J39 w) Kp) Kp) (
 S.op (.bin .eql 5 false true v74 (.int .u8 2)) w (fun v88 w =>
 Br v88 (
 Br a2 (
 S.call (.fn 131) [v59] w (fun v92 w =>
 S.op (.extract v92 0) w (fun v93 w =>
 S.op (.extract v92 1) w (fun v94 w =>
 S.op (.fieldAddr 80 v20 1) w (fun v95 w =>
 S.op (.store 4 v95 v94) w (fun _ w =>
 S.op (.fieldAddr 88 v5 2) w (fun v103 w =>
 S.op (.load 86 v103) w (fun v104 w =>
 S.call (.val v104) [v93, (.int .i64 0)] w (fun v107 w =>
 S.op (.fieldAddr 80 v20 0) w (fun v108 w =>
 S.op (.store 49 v108 v107) w (fun _ w =>
 J39 w) Kp) Kp) Kp) Kp) Kp) Kp) Kp) Kp) Kp) Kp) (
 S.call (.fn 132) [v57] w (fun v98 w =>
 S.op (.extract v98 0) w (fun v99 w =>
 S.op (.extract v98 1) w (fun v100 w =>
 S.op (.extract v98 2) w (fun v101 w =>
 S.op (.fieldAddr 80 v20 1) w (fun v102 w =>
 S.op (.store 4 v102 v101) w (fun _ w =>
 S.op (.fieldAddr 88 v5 2) w (fun v103 w =>
 S.op (.load 86 v103) w (fun v104 w =>
 S.call (.val v104) [v99, v100] w (fun v107 w =>
 S.op (.fieldAddr 80 v20 0) w (fun v108 w =>
 S.op (.store 49 v108 v107) w (fun _ w =>
 J39 w) Kp) Kp) Kp) Kp) Kp) Kp) Kp) Kp) Kp) Kp) Kp)) (
 S.op (.bin .eql 5 false true v74 (.int .u8 3)) w (fun v110 w =>
 Br v110 (
 Br a2 (
 S.call (.fn 118) [v59] w (fun v114 w =>
 S.op (.extract v114 0) w (fun v115 w =>
 S.op (.extract v114 1) w (fun v116 w =>
 S.op (.fieldAddr 80 v20 1) w (fun v117 w =>
 S.op (.store 4 v117 v116) w (fun _ w =>
 S.op (.fieldAddr 88 v5 2) w (fun v125 w =>
 S.op (.load 86 v125) w (fun v126 w =>
 S.call (.val v126) [v115, (.int .i64 0)] w (fun v129 w =>
 S.op (.fieldAddr 80 v20 0) w (fun v130 w =>
 S.op (.store 49 v130 v129) w (fun _ w =>
 J39 w) Kp) Kp) Kp) Kp) Kp) Kp) Kp) Kp) Kp) Kp) (
 S.call (.fn 74) [v57] w (fun v120 w =>
 S.op (.extract v120 0) w (fun v121 w =>
 S.op (.extract v120 1) w (fun v122 w =>
 S.op (.extract v120 2) w (fun v123 w =>
 S.op (.fieldAddr 80 v20 1) w (fun v124 w =>
 S.op (.store 4 v124 v123) w (fun _ w =>
 S.op (.fieldAddr 88 v5 2) w (fun v125 w =>
 S.op (.load 86 v125) w (fun v126 w =>
 S.call (.val v126) [v121, v122] w (fun v129 w =>
 S.op (.fieldAddr 80 v20 0) w (fun v130 w =>
 S.op (.store 49 v130 v129) w (fun _ w =>
 J39 w) Kp) Kp) Kp) Kp) Kp) Kp) Kp) Kp) Kp) Kp) Kp)) (
 S.op (.bin .eql 5 false true v74 (.int .u8 4)) w (fun v132 w =>
 Br v132 (
 S.call (.fn 133) [v57, v72] w (fun v135 w =>
 S.call (.fn 134) [v59, v72] w (fun v138 w =>
 J39 w) Kp) Kp) (
 J39 w)) Kp)) Kp)) Kp)) Kp)) Kp) Kp) Kp) ∧
 (∀ (w : World) (_ : Nat → Value), J39 w →
 S.call (.fn 73) [v57] w (fun v140 w =>
 S.op (.fieldAddr 80 v20 2) w (fun v141 w =>
 S.op (.store 4 v141 v140) w (fun _ w =>
 Br a2 (
 S.call (.fn 117) [v59] w (fun v144 w =>
 S.op (.fieldAddr 80 v20 2) w (fun v145 w =>
 S.op (.store 4 v145 v144) w (fun _ w =>
 S.op (.load 80 v20) w (fun v147 w =>
 S.op (.buildSlice 76 1 [(0, v147)]) w (fun v148 w =>
 S.op (.blt .append [76, 76] 76 [s17, v148]) w (fun v149 w =>
 S.op (.bin .add 3 false true s62 (.int .i64 1)) w (fun v150 w =>
 I13 v149 v150 w ∧ μ13 v149 v150 w < μ13 s17 s62 wl13) Kp) Kp) Kp) Kp) Kp) Kp) Kp) (
 S.op (.load 80 v20) w (fun v147 w =>
 S.op (.buildSlice 76 1 [(0, v147)]) w (fun v148 w =>
 S.op (.blt .append [76, 76] 76 [s17, v148]) w (fun v149 w =>
 S.op (.bin .add 3 false true s62 (.int .i64 1)) w (fun v150 w =>
 I13 v149 v150 w ∧ μ13 v149 v150 w < μ13 s17 s62 wl13) Kp) Kp) Kp) Kp)) Kp) Kp) Kp)) Kp) Kp) Kp) Kp) Kp) Kp) Kp) Kp) Kp) Kp) Kp) Kp) (
 K s17 w)) Kp) Kp) Kp) Kp))) Kp) Kp) Kp) Kp) Kp) Kp) Kp
theorem vc61_eq : vc61 S a0 a1 a2 a3 a4 w K Kp = fVC S [(4, [11, 30]), (13, [17, 62])] [(39, [])] Tryz.f61 [a0, a1, a2, a3, a4] w K Kp := by kernel_rfl
theorem vc61_calls (h : vc61 nP a0 a1 a2 a3 a4 w K Kp) : Calls Tryz.prog 61 #[a0, a1, a2, a3, a4] w (ret K Kp) :=
 fVC_sound (args := [a0, a1, a2, a3, a4]) nice_le follows_BVcWT Tryz.func61 (by kernel_rfl) (Eq.mp vc61_eq h)
def vc109 (S : Sig) (a0 a1 : Value) (w : World) (K : KV) (Kp : KP) : Prop :=
 S.op (.alloc 164) w (fun v4 w =>
 S.call (.fn 151) [a0] w (fun v9 w =>
 S.op (.blt .len [169] 3 [a1]) w (fun v11 w =>
 Lp fun (I3 : Value → KV) (μ3 : Value → Value → World → Nat) => I3 v9 (.int .i64 0) w ∧
 ∀ (wl3 : World) (_ : Nat → Value) (s5 : Value) (s12 : Value), I3 s5 s12 wl3 →
 S.op (.bin .lss 3 false false s12 v11) wl3 (fun v13 w =>
 Br v13 (
 S.op (.indexAddr 169 a1 s12) w (fun v14 w =>
 S.op (.load 9 v14) w (fun v15 w =>
 S.op (.build 235 []) w (fun v18 w =>
 S.call (.fn 152) [s5, v15, v18, (.bool true)] w (fun v19 w =>
 S.op (.bin .add 3 false true s12 (.int .i64 1)) w (fun v20 w =>
 I3 v19 v20 w ∧ μ3 v19 v20 w < μ3 s5 s12 wl3) Kp) Kp) Kp) Kp) Kp) (
 S.op (.build 164 [(0, s5)]) w (fun v22 w =>
 S.op (.store 164 v4 v22) w (fun _ w =>
 S.ld (.load 164 v4) w (fun r0 =>
 K r0 w)) Kp) Kp)) Kp) Kp) Kp) Kp
theorem vc109_eq : vc109 S a0 a1 w K Kp = fVC S [(3, [5, 12])] [] Tryz.f109 [a0, a1] w K Kp := by kernel_rfl
theorem vc109_calls (h : vc109 nP a0 a1 w K Kp) : Calls Tryz.prog 109 #[a0, a1] w (ret K Kp) :=
 fVC_sound (args := [a0, a1]) nice_le follows_BVcWT Tryz.func109 (by kernel_rfl) (Eq.mp vc109_eq h)
def vc151 (S : Sig) (a0 : Value) (w : World) (K : KV) (Kp : KP) : Prop :=
 S.op (.build 290 [(2, a0)]) w (fun v4 w =>
 S.op (.box 290 v4) w (fun v5 w =>
 K v5 w) Kp) Kp
theorem vc151_eq : vc151 S a0 w K Kp = fVC S [] [] Tryz.f151 [a0] w K Kp := by kernel_rfl
theorem vc151_calls (h : vc151 nP a0 w K Kp) : Calls Tryz.prog 151 #[a0] w (ret K Kp) :=
 fVC_sound (args := [a0]) nice_le follows_BVcWT Tryz.func151 (by kernel_rfl) (Eq.mp vc151_eq h)
def vc115 (S : Sig) (a0 : Value) (w : World) (K : KV) (Kp : KP) : Prop :=
 S.op (.box 164 a0) w (fun v1 w =>
 S.op (.fieldAddr 164 v1 0) w (fun v4 w =>
 S.op (.load 162 v4) w (fun v5 w =>
 S.call (.fn 157) [v5] w (fun v6 w =>
 S.op (.build 244 [(0, v6)]) w (fun v7 w =>
 S.op (.box 244 v7) w (fun v8 w =>
 S.op (.nilCheck v8) w (fun v10 w =>
 S.op (.fieldAddr 244 v10 0) w (fun v11 w =>
 S.op (.load 241 v11) w (fun v12 w =>
 S.call (.fn 158) [v12] w (fun v13 w =>
 K v8 w) Kp) Kp) Kp) Kp) Kp) Kp) Kp) Kp) Kp) Kp
theorem vc115_eq : vc115 S a0 w K Kp = fVC S [] [] Tryz.f115 [a0] w K Kp := by kernel_rfl
theorem vc115_calls (h : vc115 nP a0 w K Kp) : Calls Tryz.prog 115 #[a0] w (ret K Kp) :=
 fVC_sound (args := [a0]) nice_le follows_BVcWT Tryz.func115 (by kernel_rfl) (Eq.mp vc115_eq h)
def vc134 (S : Sig) (a0 a1 : Value) (w : World) (K : KV) (Kp : KP) : Prop :=
 S.op (.nilCheck a0) w (fun v5 w =>
 S.op (.fieldAddr 244 v5 0) w (fun v6 w =>
 S.op (.load 241 v6) w (fun v7 w =>
 S.call (.fn 177) [v7, a1] w (fun v9 w =>
 K (.tuple #[]) w) Kp) Kp) Kp) Kp
theorem vc134_eq : vc134 S a0 a1 w K Kp = fVC S [] [] Tryz.f134 [a0, a1] w K Kp := by kernel_rfl
theorem vc134_calls (h : vc134 nP a0 a1 w K Kp) : Calls Tryz.prog 134 #[a0, a1] w (ret K Kp) :=
 fVC_sound (args := [a0, a1]) nice_le follows_BVcWT Tryz.func134 (by kernel_rfl) (Eq.mp vc134_eq h)
def vc157 (S : Sig) (a0 : Value) (w : World) (K : KV) (Kp : KP) : Prop :=
 S.op (.build 308 [(0, a0)]) w (fun v5 w =>
 S.op (.box 308 v5) w (fun v6 w =>
 S.call (.fn 158) [v6] w (fun v8 w =>
 K v6 w) Kp) Kp) Kp
theorem vc157_eq : vc157 S a0 w K Kp = fVC S [] [] Tryz.f157 [a0] w K Kp := by kernel_rfl
theorem vc157_calls (h : vc157 nP a0 w K Kp) : Calls Tryz.prog 157 #[a0] w (ret K Kp) :=
 fVC_sound (args := [a0]) nice_le follows_BVcWT Tryz.func157 (by kernel_rfl) (Eq.mp vc157_eq h)
def vc158 (S : Sig) (a0 : Value) (w : World) (K : KV) (Kp : KP) : Prop :=
 S.op (.nilCheck a0) w (fun v3 w =>
 S.op (.fieldAddr 308 v3 0) w (fun v4 w =>
 S.op (.load 162 v4) w (fun v5 w =>
 S.op (.nilCheck v5) w (fun v6 w =>
 S.op (.fieldAddr 290 v6 1) w (fun v7 w =>
 S.op (.load 288 v7) w (fun v8 w =>
 S.op (.bin .eql 288 false true v8 .nilIface) w (fun v9 w =>
 Br v9 (
 S.op (.nilCheck a0) w (fun v11 w =>
 S.op (.fieldAddr 308 v11 2) w (fun v12 w =>
 S.op (.store 3 v12 (.int .i64 (-1))) w (fun _ w =>
 K (.tuple #[]) w) Kp) Kp) Kp) (
 S.pur (.nilCheck a0) (fun v15 =>
 S.pur (.fieldAddr 308 v15 0) (fun v16 =>
 S.ld (.load 162 v16) w.drew (fun v17 =>
 S.pur (.nilCheck v17) (fun v18 =>
 S.pur (.fieldAddr 290 v18 1) (fun v19 =>
 S.ld (.load 288 v19) w.drew (fun v20 =>
 S.pur (.build 305 [(0, v20)]) (fun v21 =>
 S.pur (.nilCheck a0) (fun v22 =>
 S.pur (.fieldAddr 308 v22 1) (fun v23 =>
 S.pur (.indexAddr 306 v23 (.int .i64 0)) (fun v24 =>
 S.op (.store 305 v24 v21) w.drew (fun _ w =>
 S.op (.nilCheck a0) w (fun v26 w =>
 S.op (.fieldAddr 308 v26 2) w (fun v27 w =>
 S.op (.store 3 v27 (.int .i64 0)) w (fun _ w =>
 S.call (.fn 196) [a0] w (fun v29 w =>
 K (.tuple #[]) w) Kp) Kp) Kp) Kp) Kp)))))))))))) Kp) Kp) Kp) Kp) Kp) Kp) Kp
theorem vc158_eq : vc158 S a0 w K Kp = fVC S [] [] Tryz.f158 [a0] w K Kp := by kernel_rfl
theorem vc158_calls (h : vc158 nP a0 w K Kp) : Calls Tryz.prog 158 #[a0] w (ret K Kp) :=
 fVC_sound (args := [a0]) nice_le follows_BVcWT Tryz.func158 (by kernel_rfl) (Eq.mp vc158_eq h)
def vc177 (S : Sig) (a0 a1 : Value) (w : World) (K : KV) (Kp : KP) : Prop :=
 S.op (.nilCheck a0) w (fun v5 w =>
 S.op (.fieldAddr 308 v5 0) w (fun v6 w =>
 S.op (.load 162 v6) w (fun v7 w =>
 S.op (.nilCheck v7) w (fun v8 w =>
 S.op (.fieldAddr 290 v8 1) w (fun v9 w =>
 S.op (.load 288 v9) w (fun v10 w =>
 S.op (.bin .eql 288 false true v10 .nilIface) w (fun v11 w =>
 Br v11 (
 S.op (.nilCheck a0) w (fun v13 w =>
 S.op (.fieldAddr 308 v13 2) w (fun v14 w =>
 S.op (.store 3 v14 (.int .i64 (-1))) w (fun _ w =>
 K (.tuple #[]) w) Kp) Kp) Kp) (
 S.pur (.nilCheck a0) (fun v17 =>
 S.pur (.fieldAddr 308 v17 0) (fun v18 =>
 S.ld (.load 162 v18) w.drew (fun v19 =>
 S.pur (.nilCheck v19) (fun v20 =>
 S.pur (.fieldAddr 290 v20 1) (fun v21 =>
 S.ld (.load 288 v21) w.drew (fun v22 =>
 S.pur (.build 305 [(0, v22)]) (fun v23 =>
 S.pur (.nilCheck a0) (fun v24 =>
 S.pur (.fieldAddr 308 v24 1) (fun v25 =>
 S.pur (.indexAddr 306 v25 (.int .i64 0)) (fun v26 =>
 S.op (.store 305 v26 v23) w.drew (fun _ w =>
 S.op (.nilCheck a0) w (fun v28 w =>
 S.op (.fieldAddr 308 v28 2) w (fun v29 w =>
 S.op (.store 3 v29 (.int .i64 0)) w (fun _ w =>
 S.call (.fn 206) [a0, a1] w (fun v32 w =>
 K (.tuple #[]) w) Kp) Kp) Kp) Kp) Kp)))))))))))) Kp) Kp) Kp) Kp) Kp) Kp) Kp
theorem vc177_eq : vc177 S a0 a1 w K Kp = fVC S [] [] Tryz.f177 [a0, a1] w K Kp := by kernel_rfl
theorem vc177_calls (h : vc177 nP a0 a1 w K Kp) : Calls Tryz.prog 177 #[a0, a1] w (ret K Kp) :=
 fVC_sound (args := [a0, a1]) nice_le follows_BVcWT Tryz.func177 (by kernel_rfl) (Eq.mp vc177_eq h)
end Go.Proofs.YtodjijfblgnfmaaGreatDoor
end
section
namespace Go.Proofs.YtodjijfblgnfmaaGreatDoor.T
open Go.Vc Go.Proofs Go.Proofs.YtodjijfblgnfmaaGreatDoor Go.Vc.Bt
variable {w w' : World} {v cv : Value} {K : KV} {Kp : KP} {k : Ky} {sb ib mb : Nat}
def NoIt (w : World) (sb ib : Nat) : Prop := ∃ mb cs c0 c2, w.heap[sb]? = some (.cells #[ptr ib] 244 (0, 0)) ∧ w.heap[ib]? = some (.cells cs 308 (0, 0)) ∧ cs.size = 66 ∧ cs[0]? = some (ptr mb) ∧
  w.heap[mb]? = some (.cells #[c0, .nilIface, c2] 290 (0, 0))
theorem NoIt.frame {M : Nat → Prop} (h : NoIt w sb ib) (hf : Frm M w w') (hM : ∀ c, M c → ∀ cs, w.heap[c]? ≠ some (.cells cs 244 (0, 0)) ∧ w.heap[c]? ≠ some (.cells cs 308 (0, 0)) ∧ w.heap[c]? ≠ some (.cells cs 290 (0, 0))) : NoIt w' sb ib := by
  obtain ⟨mb, cs, c0, c2, h1, h2, h3, h4, h5⟩ := h
  exact ⟨mb, cs, c0, c2, hf.get h1 fun hm => (hM _ hm _).1 h1, hf.get h2 fun hm => (hM _ hm _).2.1 h2, h3, h4, hf.get h5 fun hm => (hM _ hm _).2.2 h5⟩
theorem NoIt.still (h : NoIt w sb ib) (hf : Frm (fun _ => False) w w') : NoIt w' sb ib := h.frame hf fun _ h => h.elim
theorem first0_ok {cs : Array Value} {c0 c2 : Value} (h2 : w.heap[ib]? = some (.cells cs 308 (0, 0))) (h3 : cs.size = 66) (h4 : cs[0]? = some (ptr mb)) (h5 : w.heap[mb]? = some (.cells #[c0, .nilIface, c2] 290 (0, 0)))
    (hK : ∀ w' cs', Frm (· = ib) w w' → w'.heap[ib]? = some (.cells cs' 308 (0, 0)) → cs'.size = 66 → cs'[0]? = some (ptr mb) → K (.tuple #[]) w') :
    Calls Tryz.prog 158 #[ptr ib] w (ret K Kp) := by
  refine vc158_calls ?_
  delta vc158
  simp [-getElem?_pos, -Array.getElem?_eq_getElem, -Int.natCast_add, -op_alloc_164, -op_st_164, -op_st_3, ptr, h2, h4, h5]
  refine op_store_ok (by kernel_rfl) h2 (by omega) rfl fun w1 k1 z1 b1 => ?_
  exact hK w1 _ k1 b1 (by simp [h3]) (by rw [set_at (by omega), if_neg (by omega)]; exact h4)
theorem seek0_ok (h : NoIt w sb ib) (hK : ∀ w', Frm (· = ib) w w' → NoIt w' sb ib → K (.tuple #[]) w') : Calls Tryz.prog 134 #[ptr sb, ek k] w (ret K Kp) := by
  obtain ⟨mb, cs, c0, c2, h1, h2, h3, h4, h5⟩ := h
  refine vc134_calls ?_
  delta vc134
  simp [-getElem?_pos, -Array.getElem?_eq_getElem, -Int.natCast_add, -op_alloc_164, -op_st_164, -op_st_3, ptr, h1]
  refine vc177_calls ?_
  delta vc177
  have hne : mb ≠ ib := fun e => by rw [e, h2] at h5; cases h5
  have hns : sb ≠ ib := fun e => by rw [e, h2] at h1; cases h1
  simp [-getElem?_pos, -Array.getElem?_eq_getElem, -Int.natCast_add, -op_alloc_164, -op_st_164, -op_st_3, ptr, h2, h4, h5]
  refine op_store_ok (by kernel_rfl) h2 (by omega) rfl fun w1 k1 z1 b1 => ?_
  exact hK w1 k1 ⟨mb, _, c0, c2, k1.get h1 hns, b1, by simp [h3], by rw [set_at (by omega), if_neg (by omega)]; exact h4, k1.get h5 hne⟩
def NoSet (w : World) (v : Value) : Prop := ∃ mb c0 c2, v = .agg #[ptr mb] ∧ w.heap[mb]? = some (.cells #[c0, .nilIface, c2] 290 (0, 0))
theorem NoSet.still (h : NoSet w v) (hf : Frm (fun _ => False) w w') : NoSet w' v := by
  obtain ⟨mb, c0, c2, e, h⟩ := h
  exact ⟨mb, c0, c2, e, hf.get h fun h => h⟩
theorem set0_ok (hv : cv.oneCell' = true) (hK : ∀ w' v, Frm (fun _ => False) w w' → NoSet w' v → K v w') : Calls Tryz.prog 109 #[cv, .slice none 0 0] w (ret K Kp) := by
  refine vc109_calls ?_
  delta vc109
  refine op_alloc_ok (z := .agg #[.pointer none]) (by kernel_rfl) fun w1 k1 z1 b1 => ?_
  simp only [cells_agg] at b1
  simp only [call_151]
  refine vc151_calls ?_
  delta vc151
  rw [op_build_290_2 hv]
  refine op_box_ok fun w2 k2 z2 b2 => ?_
  simp only [cells_agg] at b2
  have n2 := k2.size
  simp [-getElem?_pos, -Array.getElem?_eq_getElem, -Int.natCast_add, -op_alloc_164, -op_st_164, -op_st_3]
  obtain ⟨I, hI⟩ : ∃ I : Value → KV, ∀ m v wl, I m v wl ↔ m = ptr w1.heap.size ∧ v = .int .i64 0 ∧ wl = w2 := ⟨_, fun _ _ _ => Iff.rfl⟩
  refine Lp.intro I (fun _ _ _ => 0) ⟨(hI _ _ _).2 ⟨rfl, rfl, rfl⟩, ?_⟩
  intro wl m v hm
  obtain ⟨rfl, rfl, rfl⟩ := (hI _ _ _).1 hm
  have b1' := k2.get b1 fun h => h
  simp [-getElem?_pos, -Array.getElem?_eq_getElem, -Int.natCast_add, -op_alloc_164, -op_st_164, -op_st_3, ptr]
  refine op_storeN_ok (n := 1) (by kernel_rfl) b1' rfl (by decide) (fun u hu => ?_) fun w3 k3 z3 b3 => ?_
  · simp only [List.mem_toArray, List.mem_cons, List.not_mem_nil, or_false] at hu
    subst hu; rfl
  rw [ow_all (by simp)] at b3
  have hlt := lt_of_get b1
  have := hK w3 (.agg #[ptr w1.heap.size]) ((k1.no k2).old k3 fun c hc => .inr (by omega)) ⟨_, _, _, rfl, k3.get b2 (by omega)⟩
  simp [-getElem?_pos, -Array.getElem?_eq_getElem, -Int.natCast_add, -op_alloc_164, -op_st_164, -op_st_3, b3]
  exact this
theorem iter0_ok (h : NoSet w v) (hK : ∀ w' sb ib, Frm (fun _ => False) w w' → w.heap.size ≤ ib → NoIt w' sb ib → K (ptr sb) w') : Calls Tryz.prog 115 #[v] w (ret K Kp) := by
  obtain ⟨mb, c0, c2, rfl, hm⟩ := h
  refine vc115_calls ?_
  delta vc115
  refine op_box_ok fun w1 k1 z1 b1 => ?_
  simp only [cells_agg] at b1
  have hm1 := k1.get hm fun h => h
  simp [-getElem?_pos, -Array.getElem?_eq_getElem, -Int.natCast_add, -op_alloc_164, -op_st_164, -op_st_3, b1]
  refine vc157_calls ?_
  delta vc157
  rw [op_build_308_0 (x0 := ptr mb) rfl]
  refine op_box_ok fun w2 k2 z2 b2 => ?_
  simp only [cells_agg] at b2
  have n1 := k1.size
  have n2 := k2.size
  have hm2 := k2.get hm1 fun h => h
  have hlm := lt_of_get hm1
  simp only [call_158]
  refine first0_ok b2 rfl rfl hm2 fun w3 cs3 k3 b3 s3 g3 => ?_
  have hm3 := k3.get hm2 (by omega)
  have k13 := (k1.no k2).old k3 fun c hc => .inr (by omega)
  rw [op_build_244_0 rfl]
  refine op_box_ok fun w4 k4 z4 b4 => ?_
  simp only [cells_agg] at b4
  have n3 := k3.size
  have b34 := k4.get b3 fun h => h
  have hm4 := k4.get hm3 fun h => h
  simp [-getElem?_pos, -Array.getElem?_eq_getElem, -Int.natCast_add, -op_alloc_164, -op_st_164, -op_st_3, ptr, b4]
  refine first0_ok b34 s3 g3 hm4 fun w5 cs5 k5 b5 s5 g5 => ?_
  exact hK w5 _ _ ((k13.no k4).old k5 fun c hc => .inr (by omega)) n1 ⟨mb, cs5, _, _, k5.get b4 (by have := lt_of_get b3; omega), b5, s5, g5, k5.get hm4 (by omega)⟩
def kd0 (k : Ky) : Prop := k.1 = ByteArray.empty
theorem itNone_ok {mb : Nat} {L : List (Ky × Vl)} (h : At w ib mb L none) (hK : ∀ k0 : Ky, kd0 k0 → K (.tuple #[ek k0, .int .i64 0, .bool false]) w) : Calls Tryz.prog 132 #[ptr ib] w (ret K Kp) := by
  refine vc132_calls ?_
  simp only [vc132, call_73, call_175]
  refine done_ok h ?_
  simp [-getElem?_pos, -Array.getElem?_eq_getElem, -Int.natCast_add, -op_alloc_164, -op_st_164, -op_st_3]
  exact hK ⟨ByteArray.empty, by decide⟩ rfl
end Go.Proofs.YtodjijfblgnfmaaGreatDoor.T
end
section
namespace Go.Proofs.YtodjijfblgnfmaaGreatDoor.T
open Go.Vc Go.Proofs Go.Proofs.YtodjijfblgnfmaaGreatDoor Go.Vc.Bt
variable {w w' : World} {v cv : Value} {K : KV} {Kp : KP} {lt : Ky → Ky → Bool} {k : Ky} {ib mb sb i0 N : Nat} {L : List (Ky × Vl)} {q : Option Nat} {M : Nat → Prop}
def Calm (w : World) (M : Nat → Prop) : Prop := ∀ c, M c → (∃ cs e fz, w.heap[c]? = some (.cells cs e fz) ∧ e ≠ 206 ∧ e ≠ 203 ∧ e ≠ 267 ∧ e ≠ 269 ∧ e ≠ 190 ∧ e ≠ 198 ∧ e ≠ 244 ∧ e ≠ 308 ∧ e ≠ 290) ∨ w.heap.size ≤ c
theorem Calm.quiet (h : Calm w M) : Quiet w M := fun c hc => (h c hc).imp (fun ⟨cs, e, fz, h1, h2, h3, h4, h5, h6, _⟩ => ⟨cs, e, fz, h1, h2, h3, h4, h5, h6⟩) id
theorem calm_one {c : Nat} {cs : Array Value} {e : TypeId} {fz : Nat × Nat} (h : w.heap[c]? = some (.cells cs e fz)) (he : e ≠ 206 ∧ e ≠ 203 ∧ e ≠ 267 ∧ e ≠ 269 ∧ e ≠ 190 ∧ e ≠ 198 ∧ e ≠ 244 ∧ e ≠ 308 ∧ e ≠ 290) : Calm w (· = c) := fun x hx => by
  subst hx; exact .inl ⟨_, _, _, h, he⟩
structure Its (w : World) (ib mb sb i0 : Nat) (lt : Ky → Ky → Bool) (N : Nat) (L : List (Ky × Vl)) (q : Option Nat) : Prop where
  it : At w ib mb L q
  ver : Ver w mb lt N L
  no : NoIt w sb i0
theorem Its.keep (h : Its w ib mb sb i0 lt N L q) (hq : Calm w M) (hf : Frm M w w') : Its w' ib mb sb i0 lt N L q := by
  obtain ⟨cs, h1, _⟩ := h.it.it
  refine ⟨h.it.keep hq.quiet.node hf fun hm => ?_, h.ver.quiet hq.quiet hf, h.no.frame hf fun c hm cs => ?_⟩
  · rcases hq _ hm with ⟨cs, e, fz, e1, e2⟩ | hl
    · rw [h1] at e1; cases e1; exact e2.2.2.2.2.2.1 rfl
    · have := lt_of_get h1; omega
  · rcases hq _ hm with ⟨cs', e, fz, e1, e2⟩ | hl
    · rw [e1]
      exact ⟨fun h => by cases h; exact e2.2.2.2.2.2.2.1 rfl, fun h => by cases h; exact e2.2.2.2.2.2.2.2.1 rfl, fun h => by cases h; exact e2.2.2.2.2.2.2.2.2 rfl⟩
    · exact ⟨fun h => by have := lt_of_get h; omega, fun h => by have := lt_of_get h; omega, fun h => by have := lt_of_get h; omega⟩
theorem Its.still (h : Its w ib mb sb i0 lt N L q) (hf : Frm (fun _ => False) w w') : Its w' ib mb sb i0 lt N L q := h.keep (fun _ h => h.elim) hf
theorem Its.move {q' : Option Nat} (h : Its w ib mb sb i0 lt N L q) (hf : Frm (· = ib) w w') (ha : At w' ib mb L q') : Its w' ib mb sb i0 lt N L q' := by
  obtain ⟨cs, h1, _⟩ := h.it.it
  refine ⟨ha, h.ver.quiet (quiet_iter h1) hf, h.no.frame hf fun c hm cs => ?_⟩
  subst hm
  rw [h1]
  exact ⟨(fun h => nomatch h), (fun h => nomatch h), (fun h => nomatch h)⟩
theorem Its.move0 (h : Its w ib mb sb i0 lt N L q) (hf : Frm (· = i0) w w') (hn : NoIt w' sb i0) : Its w' ib mb sb i0 lt N L q := by
  obtain ⟨cs, h1, _⟩ := h.it.it
  obtain ⟨m2, cs2, c0, c2, _, h2, _⟩ := h.no
  have hq : Quiet w (· = i0) := fun x hx => by subst hx; exact .inl ⟨_, _, _, h2, by decide, by decide, by decide, by decide, by decide⟩
  exact ⟨h.it.keep hq.node hf (fun e => by rw [e, h2] at h1; cases h1), h.ver.quiet hq hf, hn⟩
theorem ver_seek (hl : Lin lt) (h : Its w ib mb sb i0 lt N L q) (hN : N < 2 ^ 60) (hK : ∀ w', Frm (· = ib) w w' → Its w' ib mb sb i0 lt N L (stand L (place lt L k)) → K (.tuple #[]) w') : Calls Tryz.prog 133 #[ptr ib, ek k] w (ret K Kp) := by
  obtain ⟨r, h1, h2, rfl⟩ := h.ver
  exact itSeek_ok hl h.it.it h1 h2 hN fun w' hf ha => hK w' hf (h.move hf ha)
theorem apWA : apOf Tryz.prog 76 = some (80, 5, 40) := by kernel_rfl
theorem lit_wa (a : WAn) : sliceLit Tryz.prog 76 1 [(0, .agg a.cells.toArray)] = some (80, a.cells.toArray) := lit_76_1
theorem kd_zero {k0 : Ky} (h : kd0 k0) : kd.pair k0 0 = zeroP := by
  show (⟨0, k0.1, 0⟩ : SPr) = zeroP
  rw [show k0.1 = ByteArray.empty from h]; rfl
theorem sortedWalk_ok {a1 a2 : Option Addr} {c1 c2 : Nat} {ps : List SPr} {ms : List WSt} (hC : CmpOk cv lt none) (hl : Lin lt) (h1 : Row w a1 (ps.flatMap SPr.cells)) (h2 : Row w a2 (ms.flatMap WSt.cells)) (ht : ∀ p ∈ ps, p.text.size ≤ 100) (hm : ∀ m ∈ ms, (m.op = 2 ∨ m.op = 4) ∧ m.text.size ≤ 100) (hn : ps.length ≤ 1000) (hmn : ms.length ≤ 10000)
    (hK : ∀ l w', Frm (fun _ => False) w w' → RowsOf (Flat WAn.cells) w' w.heap.size 80 5 l (runQ lt kd (putAll lt [] (ps.map kd.kv)) ms).2 (fun _ => False) → K l w') :
    Calls Tryz.prog 61 #[kdV, cv, .bool false, .slice a1 ps.length c1, .slice a2 ms.length c2] w (ret K Kp) := by
  refine vc61_calls ?_
  delta vc61
  refine op_box_ok fun w1 k1 z1 b1 => ?_
  simp only [kdV, cells_agg] at b1
  simp only [call_64, call_109]
  refine new_ok hC fun w2 mb0 k2 _ hM2 => ?_
  refine set0_ok hC.one fun w3 sv k3 hS3 => ?_
  refine op_alloc_ok (z := .agg #[.pointer none]) (by kernel_rfl) fun w4 k4 z4 b4 => ?_
  simp only [cells_agg] at b4
  have hS4 := hS3.still k4
  obtain ⟨sm, sc0, sc2, rfl, hsm⟩ := id hS4
  refine op_storeN_ok (n := 1) (by kernel_rfl) b4 rfl (by decide) (fun u hu => ?_) fun w5 k5 z5 b5 => ?_
  · simp only [List.mem_toArray, List.mem_cons, List.not_mem_nil, or_false] at hu
    subst hu; rfl
  rw [ow_all (by simp)] at b5
  generalize hSB : w3.heap.size = SB at *
  have k45 : Frm (fun _ => False) w3 w5 := k4.old k5 fun c hc => .inr (by omega)
  have k15 : Frm (fun _ => False) w w5 := ((k1.no k2).no k3).no k45
  have b1' := ((k2.no k3).no k45).get b1 fun h => h
  have hM5 := (hM2.still k3).still k45
  have hS5 : NoSet w5 (.agg #[ptr sm]) := hS3.still k45
  clear hsm hS4 hS3 hM2 b4 k5 k45 k4 k3 k2 k1
  simp [-getElem?_pos, -Array.getElem?_eq_getElem, -Int.natCast_add, -op_lit_76_1, -op_alloc_73, -op_alloc_80, -op_alloc_49, -op_st_49, -op_st_73, -op_st_4, -op_st_164, -op_alloc_164]
  obtain ⟨I, hI⟩ : ∃ I : Value → KV, ∀ m v wl, I m v wl ↔ ∃ i mb : Nat, m = ptr mb ∧ v = .int .i64 i ∧ i ≤ ps.length ∧ Frm (fun _ => False) w5 wl ∧ Ver wl mb lt i (putAll lt [] ((ps.take i).map kd.kv)) := ⟨_, fun _ _ _ => Iff.rfl⟩
  refine Lp.intro I (fun _ v _ => ps.length - nOf v) ⟨(hI _ _ _).2 ⟨0, mb0, rfl, rfl, by omega, Frm.refl, ⟨none, hM5, trivial, rfl⟩⟩, ?_⟩
  intro wl m v hv
  obtain ⟨i, mb, rfl, rfl, hi, kl, hV⟩ := (hI _ _ _).1 hv
  simp only [op_lss, Br_dec]
  refine ⟨fun hlt => ?_, fun hge => ?_⟩
  · have hi' : i < ps.length := by omega
    have hlen := putAll_len (lt := lt) ((ps.take i).map kd.kv) []
    simp only [List.length_map, List.length_take, List.length_nil] at hlen
    obtain ⟨b, o, cs, e, fz, rfl, q1, q2, q3⟩ := (h1.frame (k15.no kl) fun _ _ h => h).part SPr.len (by decide) hi'
    have htp := ht _ (List.getElem_mem hi')
    simp [-getElem?_pos, -Array.getElem?_eq_getElem, -Int.natCast_add, -op_lit_76_1, -op_alloc_73, -op_alloc_80, -op_alloc_49, -op_st_49, -op_st_73, -op_st_4, -op_st_164, -op_alloc_164, q1, q2, q3]
    refine ⟨hi', ?_⟩
    refine op_alloc_ok (z := .agg #[.int .i64 0, .string ByteArray.empty, .int .i64 0]) (by kernel_rfl) fun w6 k6 z6 b6 => ?_
    simp only [cells_agg] at b6
    refine op_storeN_ok (n := 3) (by kernel_rfl) b6 rfl (by decide) (by simp [SPr.cells]) fun w7 k7 z7 b7 => ?_
    have b7 : w7.heap[wl.heap.size]? = some (.cells #[.int .i64 ps[i].key, .string ps[i].text, .int .i64 ps[i].val] 49 (0, 0)) := by
      rw [ow_all (by simp [SPr.cells])] at b7; exact b7
    have k67 : Frm (fun _ => False) wl w7 := k6.old k7 fun c hc => .inr (by omega)
    have bk := (kl.no k67).get b1' fun h => h
    simp [-getElem?_pos, -Array.getElem?_eq_getElem, -Int.natCast_add, -op_lit_76_1, -op_alloc_73, -op_alloc_80, -op_alloc_49, -op_st_49, -op_st_73, -op_st_4, -op_st_164, -op_alloc_164, b7, bk, call_key]
    refine key_ok htp ?_
    try simp [-getElem?_pos, -Array.getElem?_eq_getElem, -Int.natCast_add, -op_lit_76_1, -op_alloc_73, -op_alloc_80, -op_alloc_49, -op_st_49, -op_st_73, -op_st_4, -op_st_164, -op_alloc_164, b7]
    refine ver_set hl ((hV.still k67).still (Frm.drew _)) (by omega) fun w8 b8 k8 v8 => ?_
    try simp [-getElem?_pos, -Array.getElem?_eq_getElem, -Int.natCast_add, -op_lit_76_1, -op_alloc_73, -op_alloc_80, -op_alloc_49, -op_st_49, -op_st_73, -op_st_4, -op_st_164, -op_alloc_164]
    rw [show IntKind.i64.wrap ((i : Int) + 1) = ((i + 1 : Nat) : Int) from by rw [IntKind.wrap_i64]; omega]
    refine ⟨(hI _ _ _).2 ⟨i + 1, b8, rfl, rfl, by omega, kl.no (k67.no (Frm.dr k8)), ?_⟩, by simp only [nOf_int]; omega⟩
    rw [List.take_succ_eq_append_getElem hi', List.map_append, List.map_singleton, putAll_snoc]
    exact v8
  have hie : i = ps.length := by omega
  subst hie
  rw [List.take_length] at hV
  have hLn := putAll_len (lt := lt) (ps.map kd.kv) []
  simp only [List.length_map, List.length_nil] at hLn
  generalize putAll lt [] (ps.map kd.kv) = L at *
  have k1l := k15.no kl
  have b5l := kl.get b5 fun h => h
  have bKl := kl.get b1' fun h => h
  simp [-getElem?_pos, -Array.getElem?_eq_getElem, -Int.natCast_add, -op_lit_76_1, -op_alloc_73, -op_alloc_80, -op_alloc_49, -op_st_49, -op_st_73, -op_st_4, -op_st_164, -op_alloc_164, b5l]
  refine ver_iter (hV.still (Frm.drew _)) (by omega) fun w6 ib k6 hib hA6 => ?_
  have k6 := Frm.dr k6
  have b56 := k6.get b5l fun h => h
  have bK6 := k6.get bKl fun h => h
  have hS6 := (hS5.still kl).still k6
  simp [-getElem?_pos, -Array.getElem?_eq_getElem, -Int.natCast_add, -op_lit_76_1, -op_alloc_73, -op_alloc_80, -op_alloc_49, -op_st_49, -op_st_73, -op_st_4, -op_st_164, -op_alloc_164, b56]
  refine iter0_ok hS6 fun w7 sb i0 k7 hi0 hN7 => ?_
  have bK7 := k7.get bK6 fun h => h
  have h70 : Its w7 ib mb sb i0 lt ps.length L (stand L 0) := by
    refine ⟨?_, ((hV.still k6).still k7), hN7⟩
    have := hA6.still k7
    unfold stand
    by_cases h0 : L.length = 0
    · rw [if_neg (by omega)]; rw [if_pos h0] at this; exact this
    · rw [if_pos (by omega)]; rw [if_neg h0] at this; exact this
  have k17 := (k1l.no k6).no k7
  have n17 := k17.size
  have hlow : w.heap.size < ib ∧ w.heap.size < i0 := by
    have a0 := lt_of_get bKl
    have a1 := k1l.size
    have a2 := k6.size
    have : wl.drew.heap.size = wl.heap.size := rfl
    omega
  clear hN7 hS6 hS5 hA6 h1 k7 k6 hM5 hV hv kl k1l k15 hI I
  generalize hWS : w7.heap.size = S at *
  obtain ⟨hibS, hi0S⟩ : ib < S ∧ i0 < S := by
    obtain ⟨cs, e1, _⟩ := h70.it.it
    obtain ⟨m2, cs2, c0, c2, _, e2, _⟩ := h70.no
    have a1 := lt_of_get e1
    have a2 := lt_of_get e2
    rw [hWS] at a1 a2
    exact ⟨a1, a2⟩
  try simp [-getElem?_pos, -Array.getElem?_eq_getElem, -Int.natCast_add, -op_lit_76_1, -op_alloc_73, -op_alloc_80, -op_alloc_49, -op_st_49, -op_st_73, -op_st_4, -op_st_164, -op_alloc_164]
  obtain ⟨I, hI⟩ : ∃ I : Value → KV, ∀ l v wl, I l v wl ↔ ∃ i : Nat, v = .int .i64 i ∧ i ≤ ms.length ∧ Frm (fun c => c = ib ∨ c = i0) w7 wl ∧ Its wl ib mb sb i0 lt ps.length L (runQ lt kd L (ms.take i)).1 ∧
      RowsOf (Flat WAn.cells) wl S 80 5 l (runQ lt kd L (ms.take i)).2 (fun _ => False) := ⟨_, fun _ _ _ => Iff.rfl⟩
  refine Lp.intro I (fun _ v _ => ms.length - nOf v) ⟨(hI _ _ _).2 ⟨0, rfl, by omega, Frm.refl, h70, rows_nil⟩, ?_⟩
  intro wl l v hv
  obtain ⟨i, rfl, hi, kl, hIt, hR⟩ := (hI _ _ _).1 hv
  simp only [op_lss, Br_dec]
  refine ⟨fun hlt => ?_, fun hge => ?_⟩
  rotate_left
  · have hie : i = ms.length := by omega
    subst hie
    rw [List.take_length] at hR
    exact hK l wl (k17.old kl fun c hc => .inr (by omega)) (hR.base_le (by omega))
  have hi' : i < ms.length := by omega
  have htk : ms.take (i + 1) = ms.take i ++ [ms[i]] := List.take_succ_eq_append_getElem hi'
  have hsnoc := runQ_snoc (lt := lt) (kd := kd) (L := L) (ms.take i) ms[i]
  rw [← htk] at hsnoc
  have hlen := runQ_len (lt := lt) (kd := kd) (L := L) (ms.take i)
  rw [List.length_take] at hlen
  obtain ⟨b, o, cs, e, fz, rfl, hcs, hsz, hext⟩ := (h2.frame (k17.old kl fun c hc => .inr (by omega)) fun _ _ h => h).part WSt.len (by decide) hi'
  obtain ⟨hop, hmt⟩ := hm _ (List.getElem_mem hi')
  generalize ms[i] = m at *
  generalize runQ lt kd L (ms.take i) = r at *
  obtain ⟨q, an⟩ := r
  simp only at hIt hR hlen
  have bK := kl.get bK7 (by omega)
  have nl := kl.size
  have hlowR := hR.own_lt
  simp [-getElem?_pos, -Array.getElem?_eq_getElem, -Int.natCast_add, -op_lit_76_1, -op_alloc_73, -op_alloc_80, -op_alloc_49, -op_st_49, -op_st_73, -op_st_4, -op_st_164, -op_alloc_164, hcs, hsz, hext]
  refine ⟨hi', ?_⟩
  refine op_alloc_ok (z := .agg #[.int .u8 0, .int .i64 0, .string ByteArray.empty]) (by kernel_rfl) fun w8 k8 z8 b8 => ?_
  simp only [cells_agg] at b8
  refine op_storeN_ok (n := 3) (by kernel_rfl) b8 rfl (by decide) (by simp [WSt.cells]) fun w9 k9 z9 b9 => ?_
  have b9 : w9.heap[wl.heap.size]? = some (.cells #[.int .u8 m.op, .int .i64 m.key, .string m.text] 73 (0, 0)) := by
    rw [ow_all (by simp [WSt.cells])] at b9; exact b9
  have k89 : Frm (fun _ => False) wl w9 := k8.old k9 fun c hc => .inr (by omega)
  refine op_alloc_ok (z := .agg #[.int .i64 0, .string ByteArray.empty, .int .i64 0, .bool false, .bool false]) (by kernel_rfl) fun wA kA zA bA => ?_
  simp only [cells_agg] at bA
  have kAl := k89.no kA
  have bKA := kAl.get bK fun h => h
  have bWA := kA.get b9 fun h => h
  have hItA := hIt.still kAl
  have hwA := lt_of_get b9
  have hRA := hR.still (flat_ok _) kAl
  have nA := kAl.size
  have hab := lt_of_get bA
  generalize hAB : w9.heap.size = ab at *
  generalize hWB : wl.heap.size = wb at *
  simp [-getElem?_pos, -Array.getElem?_eq_getElem, -Int.natCast_add, -op_lit_76_1, -op_alloc_73, -op_alloc_80, -op_alloc_49, -op_st_49, -op_st_73, -op_st_4, -op_st_164, -op_alloc_164, bKA, bWA, call_key]
  refine key_ok hmt ?_
  obtain ⟨J, hJ⟩ : ∃ J : World → Prop, ∀ wz, J wz ↔ Frm (fun c => c = ib ∨ c = i0 ∨ c = ab) wA wz ∧ Its wz ib mb sb i0 lt ps.length L (stepQ lt kd L q m).1 ∧
      wz.heap[ab]? = some (.cells #[.int .i64 (stepQ lt kd L q m).2.pair.key, .string (stepQ lt kd L q m).2.pair.text, .int .i64 (stepQ lt kd L q m).2.pair.val, .bool (stepQ lt kd L q m).2.ok, .bool false] 80 (0, 0)) := ⟨_, fun _ => Iff.rfl⟩
  have hmz : ∀ {wq wz : World} {cs : Array Value}, Its wq ib mb sb i0 lt ps.length L (stepQ lt kd L q m).1 → wq.heap[ab]? = some (.cells cs 80 (0, 0)) → Frm (· = ab) wq wz → Its wz ib mb sb i0 lt ps.length L (stepQ lt kd L q m).1 := fun h h1 hf => h.keep (calm_one h1 (by decide)) hf
  try simp [-getElem?_pos, -Array.getElem?_eq_getElem, -Int.natCast_add, -op_lit_76_1, -op_alloc_73, -op_alloc_80, -op_alloc_49, -op_st_49, -op_st_73, -op_st_4, -op_st_164, -op_alloc_164]
  refine Jn.intro J ⟨?_, ?_⟩
  · have hlt : ∀ {wq : World}, Frm (fun c => c = ib ∨ c = i0) wA wq → wq.heap[ab]? = some (.cells #[.int .i64 0, .string ByteArray.empty, .int .i64 0, .bool false, .bool false] 80 (0, 0)) := fun hf => hf.get bA (by omega)
    rcases hop with h2 | h4
    · simp [-getElem?_pos, -Array.getElem?_eq_getElem, -Int.natCast_add, -op_lit_76_1, -op_alloc_73, -op_alloc_80, -op_alloc_49, -op_st_49, -op_st_73, -op_st_4, -op_st_164, -op_alloc_164, bWA, h2]
      match q, hItA with
      | none, hItA =>
        rw [stepQ_none h2] at *
        refine itNone_ok hItA.it fun k0 hk0 => ?_
        try simp [-getElem?_pos, -Array.getElem?_eq_getElem, -Int.natCast_add, -op_lit_76_1, -op_alloc_73, -op_alloc_80, -op_alloc_49, -op_st_49, -op_st_73, -op_st_4, -op_st_164, -op_alloc_164]
        refine op_store_ok (by kernel_rfl) bA (by decide) rfl fun wB kB zB bB => ?_
        have bB : wB.heap[ab]? = some (.cells #[.int .i64 0, .string ByteArray.empty, .int .i64 0, .bool false, .bool false] 80 (0, 0)) := by simpa using bB
        have bKB := kB.get bKA (by omega)
        simp [-getElem?_pos, -Array.getElem?_eq_getElem, -Int.natCast_add, -op_lit_76_1, -op_alloc_73, -op_alloc_80, -op_alloc_49, -op_st_49, -op_st_73, -op_st_4, -op_st_164, -op_alloc_164, bKB, call_pair]
        refine pair_ok fun wC kC => ?_
        rw [kd_zero hk0]
        refine op_storeN_ok (n := 3) (by kernel_rfl) (kC.get bB fun h => h) rfl (by decide) (fun u hu => SPr.one zeroP u (by simpa using hu)) fun wD kD zD bD => ?_
        have bD : wD.heap[ab]? = some (.cells #[.int .i64 0, .string ByteArray.empty, .int .i64 0, .bool false, .bool false] 80 (0, 0)) := by rw [bD]; rfl
        try simp [-getElem?_pos, -Array.getElem?_eq_getElem, -Int.natCast_add, -op_lit_76_1, -op_alloc_73, -op_alloc_80, -op_alloc_49, -op_st_49, -op_st_73, -op_st_4, -op_st_164, -op_alloc_164]
        exact (hJ _).2 ⟨((kB.to fun _ h => .inr (.inr h)).trans (kC.to fun _ h => h.elim) fun _ h _ => h).trans (kD.to fun _ h => .inr (.inr h)) fun _ h _ => h, ((hItA.keep (calm_one bA (by decide)) kB).still kC).keep (calm_one (kC.get bB fun h => h) (by decide)) kD, bD⟩
      | some p, hItA =>
        rw [stepQ_some h2] at *
        refine itNext_ok hItA.it fun wE kE e he hAE => ?_
        have hIE := hItA.move (q' := stand L (p + 1)) kE hAE
        have bAE := kE.get bA (by omega)
        have bKE := kE.get bKA (by omega)
        try simp [-getElem?_pos, -Array.getElem?_eq_getElem, -Int.natCast_add, -op_lit_76_1, -op_alloc_73, -op_alloc_80, -op_alloc_49, -op_st_49, -op_st_73, -op_st_4, -op_st_164, -op_alloc_164]
        refine op_store_ok (by kernel_rfl) bAE (by decide) rfl fun wB kB zB bB => ?_
        have bB : wB.heap[ab]? = some (.cells #[.int .i64 0, .string ByteArray.empty, .int .i64 0, .bool true, .bool false] 80 (0, 0)) := by simpa using bB
        have bKB := kB.get bKE (by omega)
        simp [-getElem?_pos, -Array.getElem?_eq_getElem, -Int.natCast_add, -op_lit_76_1, -op_alloc_73, -op_alloc_80, -op_alloc_49, -op_st_49, -op_st_73, -op_st_4, -op_st_164, -op_alloc_164, bKB, call_pair]
        refine pair_ok fun wC kC => ?_
        refine op_storeN_ok (n := 3) (by kernel_rfl) (kC.get bB fun h => h) rfl (by decide) (fun u hu => SPr.one _ u (by simpa using hu)) fun wD kD zD bD => ?_
        have bD : wD.heap[ab]? = some (.cells #[.int .i64 (kd.pair e.1 e.2).key, .string (kd.pair e.1 e.2).text, .int .i64 (kd.pair e.1 e.2).val, .bool true, .bool false] 80 (0, 0)) := by rw [bD]; rfl
        try simp [-getElem?_pos, -Array.getElem?_eq_getElem, -Int.natCast_add, -op_lit_76_1, -op_alloc_73, -op_alloc_80, -op_alloc_49, -op_st_49, -op_st_73, -op_st_4, -op_st_164, -op_alloc_164]
        refine (hJ _).2 ⟨(((kE.to fun _ h => .inl h).trans (kB.to fun _ h => .inr (.inr h)) fun _ h _ => h).trans (kC.to fun _ h => h.elim) fun _ h _ => h).trans (kD.to fun _ h => .inr (.inr h)) fun _ h _ => h, ((hIE.keep (calm_one bAE (by decide)) kB).still kC).keep (calm_one (kC.get bB fun h => h) (by decide)) kD, ?_⟩
        rw [he]; exact bD
    · simp [-getElem?_pos, -Array.getElem?_eq_getElem, -Int.natCast_add, -op_lit_76_1, -op_alloc_73, -op_alloc_80, -op_alloc_49, -op_st_49, -op_st_73, -op_st_4, -op_st_164, -op_alloc_164, bWA, h4]
      rw [stepQ_seek h4] at *
      refine ver_seek hl hItA (by omega) fun wE kE hIE => ?_
      try simp [-getElem?_pos, -Array.getElem?_eq_getElem, -Int.natCast_add, -op_lit_76_1, -op_alloc_73, -op_alloc_80, -op_alloc_49, -op_st_49, -op_st_73, -op_st_4, -op_st_164, -op_alloc_164]
      refine seek0_ok hIE.no fun wF kF hNF => ?_
      refine (hJ _).2 ⟨(kE.to fun _ h => .inl h).trans (kF.to fun _ h => .inr (.inl h)) fun _ h _ => h, hIE.move0 kF hNF, kF.get (kE.get bA (by omega)) (by omega)⟩
  · intro wG hG
    obtain ⟨kG, hIG, bG⟩ := (hJ _).1 hG
    have hdone := stepQ_done (lt := lt) (kd := kd) (L := L) (q := q) hop
    have hone1 : oneQ lt kd L (q, an) m = ((stepQ lt kd L q m).1, an ++ [(stepQ lt kd L q m).2]) := rfl
    rw [hone1] at hsnoc
    generalize hst : stepQ lt kd L q m = st at *
    obtain ⟨q', a⟩ := st
    simp only at hIG bG hdone hsnoc
    try simp [-getElem?_pos, -Array.getElem?_eq_getElem, -Int.natCast_add, -op_lit_76_1, -op_alloc_73, -op_alloc_80, -op_alloc_49, -op_st_49, -op_st_73, -op_st_4, -op_st_164, -op_alloc_164]
    refine done_ok hIG.it ?_
    try simp [-getElem?_pos, -Array.getElem?_eq_getElem, -Int.natCast_add, -op_lit_76_1, -op_alloc_73, -op_alloc_80, -op_alloc_49, -op_st_49, -op_st_73, -op_st_4, -op_st_164, -op_alloc_164]
    refine op_store_ok (by kernel_rfl) bG (by simp) rfl fun wH kH zH bH => ?_
    have bH : wH.heap[ab]? = some (.cells a.cells.toArray 80 (0, 0)) := by
      rw [← hdone] at bH
      simpa [WAn.cells] using bH
    have hIH := hIG.keep (calm_one bG (by decide)) kH
    have hRG := hRA.frame (flat_ok _) kG (fun _ h => h.elim) fun b hb he => by have := hlowR b hb; omega
    have hRH := hRG.frame (flat_ok _) kH (fun _ h => h.elim) fun b hb he => by have := hlowR b hb; omega
    have hx : a.cells.toArray.extract 0 5 = a.cells.toArray := extract_self (by simp [WAn.cells])
    have hs5 : 5 ≤ a.cells.length := Nat.le_refl _
    simp [-getElem?_pos, -Array.getElem?_eq_getElem, -Int.natCast_add, -op_lit_76_1, -op_alloc_73, -op_alloc_80, -op_alloc_49, -op_st_49, -op_st_73, -op_st_4, -op_st_164, -op_alloc_164, bH, hx, hs5]
    have nG := kG.size
    have nH := kH.size
    refine op_push (u := a.cells) (y := a) (G2 := fun _ => False) (flat_ok WAn.cells) apWA (lit_wa _) rfl (WAn.one _) hRH rfl (fun _ h => h.elim) (fun _ _ h => h) (by omega) (by omega) fun l' wI kI hRI hoI => ?_
    have hlowH := hRH.own_lt
    try simp [-getElem?_pos, -Array.getElem?_eq_getElem, -Int.natCast_add, -op_lit_76_1, -op_alloc_73, -op_alloc_80, -op_alloc_49, -op_st_49, -op_st_73, -op_st_4, -op_st_164, -op_alloc_164]
    rw [show IntKind.i64.wrap ((i : Int) + 1) = ((i + 1 : Nat) : Int) from by rw [IntKind.wrap_i64]; omega]
    have hcalm : Calm wH (fun b => some b = l.ownBlock) := fun c hc => by
      obtain ⟨cs, t⟩ := rows_ty hRH c hc.symm
      exact .inl ⟨_, _, _, t, by decide⟩
    refine ⟨(hI _ _ _).2 ⟨i + 1, rfl, by omega, ?_, ?_, ?_⟩, by simp only [nOf_int]; omega⟩
    · exact (((kl.old kAl fun _ h => h.elim).old kG fun c hc => hc.elim (fun h => .inl (.inl h)) fun h => h.elim (fun h => .inl (.inr h)) fun h => .inr (by omega)).old kH fun c hc => .inr (by omega)).old kI fun c hc => .inr (by have := hlowH c hc.symm; omega)
    · rw [hsnoc]; exact hIH.keep hcalm kI
    · rw [hsnoc]
      exact hRI.mono (flat_ok _) (fun _ h => h.elim id fun h => h) (fun _ h => h.elim) fun _ _ h => h
end Go.Proofs.YtodjijfblgnfmaaGreatDoor.T
end
section
namespace Go.Proofs.YtodjijfblgnfmaaGreatDoor
open Go.Vc Go.Proofs
variable {S : Sig} {a0 a1 a2 a3 a4 a5 a6 a7 a8 a9 : Value} {w : World} {K : KV} {Kp : KP}
private theorem follows_BVcWC : Tryz.prog.follows .mixedOrders = true := by kernel_rfl
def vc35 (S : Sig) (a0 a1 a2 a3 a4 : Value) (w : World) (K : KV) (Kp : KP) : Prop :=
 S.op (.box 4 a0) w (fun v5 w =>
 S.op (.box 4 a1) w (fun v6 w =>
 S.op (.box 31 a2) w (fun v7 w =>
 S.op (.box 46 a3) w (fun v8 w =>
 S.op (.box 74 a4) w (fun v9 w =>
 S.op (.alloc 76) w (fun v10 w =>
 S.op (.mkFunc (Fn.func 60) [] [v5, v7, v6, v8, v9, v10]) w (fun v12 w =>
 S.call (.fn 37) [v12] w (fun v13 w =>
 S.op (.un .not v13) w (fun v14 w =>
 S.op (.un .not v14) w (fun v16 w =>
 Br v16 (
 S.op (.store 76 v10 (.slice none 0 0)) w (fun _ w =>
 S.ld (.load 76 v10) w (fun r0 =>
 K (.tuple #[r0, (.bool false)]) w)) Kp) (
 S.op (.load 76 v10) w (fun v17 w =>
 S.op (.store 76 v10 v17) w (fun _ w =>
 S.ld (.load 76 v10) w (fun r0 =>
 K (.tuple #[r0, (.bool true)]) w)) Kp) Kp)) Kp) Kp) Kp) Kp) Kp) Kp) Kp) Kp) Kp) Kp
theorem vc35_eq : vc35 S a0 a1 a2 a3 a4 w K Kp = fVC S [] [] Tryz.f35 [a0, a1, a2, a3, a4] w K Kp := by kernel_rfl
theorem vc35_calls (h : vc35 nP a0 a1 a2 a3 a4 w K Kp) : Calls Tryz.prog 35 #[a0, a1, a2, a3, a4] w (ret K Kp) :=
 fVC_sound (args := [a0, a1, a2, a3, a4]) nice_le follows_BVcWC Tryz.func35 (by kernel_rfl) (Eq.mp vc35_eq h)
def vc60 (S : Sig) (a0 a1 a2 a3 a4 a5 : Value) (w : World) (K : KV) (Kp : KP) : Prop :=
 S.op (.load 4 a0) w (fun v6 w =>
 Br v6 (
 S.ld (.load 31 a1) w.drew (fun v8 =>
 S.ld (.load 4 a2) w.drew (fun v10 =>
 S.ld (.load 46 a3) w.drew (fun v11 =>
 S.ld (.load 74 a4) w.drew (fun v12 =>
 S.call (.fn 40) [] w.drew (fun v7 w =>
 S.same (.load 74 a4) v12 w ∧
 S.same (.load 46 a3) v11 w ∧
 S.same (.load 4 a2) v10 w ∧
 S.same (.load 31 a1) v8 w ∧
 S.call (.fn 41) [v8] w (fun v9 w =>
 S.same (.load 74 a4) v12 w ∧
 S.same (.load 46 a3) v11 w ∧
 S.same (.load 4 a2) v10 w ∧
 S.call (.fn 61) [v7, v9, v10, v11, v12] w (fun v13 w =>
 S.op (.store 76 a5 v13) w (fun _ w =>
 K (.tuple #[]) w) Kp) Kp) Kp) Kp))))) (
 S.ld (.load 31 a1) w.drew (fun v15 =>
 S.ld (.load 4 a2) w.drew (fun v17 =>
 S.ld (.load 46 a3) w.drew (fun v18 =>
 S.ld (.load 74 a4) w.drew (fun v19 =>
 S.call (.fn 43) [] w.drew (fun v14 w =>
 S.same (.load 74 a4) v19 w ∧
 S.same (.load 46 a3) v18 w ∧
 S.same (.load 4 a2) v17 w ∧
 S.same (.load 31 a1) v15 w ∧
 S.call (.fn 44) [v15] w (fun v16 w =>
 S.same (.load 74 a4) v19 w ∧
 S.same (.load 46 a3) v18 w ∧
 S.same (.load 4 a2) v17 w ∧
 S.call (.fn 62) [v14, v16, v17, v18, v19] w (fun v20 w =>
 S.op (.store 76 a5 v20) w (fun _ w =>
 K (.tuple #[]) w) Kp) Kp) Kp) Kp)))))) Kp
theorem vc60_eq : vc60 S a0 a1 a2 a3 a4 a5 w K Kp = fVC S [] [] Tryz.f60 [a0, a1, a2, a3, a4, a5] w K Kp := by kernel_rfl
theorem vc60_calls (h : vc60 nP a0 a1 a2 a3 a4 a5 w K Kp) : Calls Tryz.prog 60 #[a0, a1, a2, a3, a4, a5] w (ret K Kp) :=
 fVC_sound (args := [a0, a1, a2, a3, a4, a5]) nice_le follows_BVcWC Tryz.func60 (by kernel_rfl) (Eq.mp vc60_eq h)
def vc28 (S : Sig) (a0 : Value) (w : World) (K : KV) (Kp : KP) : Prop :=
 S.op (.blt .len [38] 3 [a0]) w (fun v7 w =>
 Lp fun (I3 : Value → KV) (μ3 : Value → Value → World → Nat) => I3 (.slice none 0 0) (.int .i64 0) w ∧
 ∀ (wl3 : World) (_ : Nat → Value) (s3 : Value) (s8 : Value), I3 s3 s8 wl3 →
 S.op (.bin .lss 3 false false s8 v7) wl3 (fun v9 w =>
 Br v9 (
 S.op (.indexAddr 38 a0 s8) w (fun v10 w =>
 S.op (.load 45 v10) w (fun v11 w =>
 S.op (.alloc 45) w (fun v5 w =>
 S.op (.store 45 v5 v11) w (fun _ w =>
 S.op (.load 45 v5) w (fun v13 w =>
 S.op (.buildSlice 46 1 [(0, v13)]) w (fun v14 w =>
 S.op (.blt .append [46, 46] 46 [s3, v14]) w (fun v15 w =>
 S.op (.bin .add 3 false true s8 (.int .i64 1)) w (fun v16 w =>
 I3 v15 v16 w ∧ μ3 v15 v16 w < μ3 s3 s8 wl3) Kp) Kp) Kp) Kp) Kp) Kp) Kp) Kp) (
 K s3 w)) Kp) Kp
theorem vc28_eq : vc28 S a0 w K Kp = fVC S [(3, [3, 8])] [] Tryz.f28 [a0] w K Kp := by kernel_rfl
theorem vc28_calls (h : vc28 nP a0 w K Kp) : Calls Tryz.prog 28 #[a0] w (ret K Kp) :=
 fVC_sound (args := [a0]) nice_le follows_BVcWC Tryz.func28 (by kernel_rfl) (Eq.mp vc28_eq h)
def vc11 (S : Sig) (a0 a1 a2 a3 : Value) (w : World) (K : KV) (Kp : KP) : Prop :=
 S.op (.box 23 a1) w (fun v5 w =>
 S.op (.box 45 a3) w (fun v7 w =>
 S.call (.fn 19) [a2] w (fun v20 w =>
 S.op (.un .not v20) w (fun v21 w =>
 Br v21 (
 K (.bool true) w) (
 S.op (.load 45 v7) w (fun v23 w =>
 S.call (.fn 24) [v23] w (fun v24 w =>
 S.op (.un .not v24) w (fun v25 w =>
 Br v25 (
 K (.bool true) w) (
 S.op (.load 23 v5) w (fun v27 w =>
 S.call (.fn 20) [v27, a2] w (fun v29 w =>
 S.op (.un .not v29) w (fun v30 w =>
 Br v30 (
 S.call (.fn 14) [] w (fun v37 w =>
 K v37 w) Kp) (
 S.op (.fieldAddr 45 v7 1) w (fun v32 w =>
 S.op (.load 9 v32) w (fun v33 w =>
 S.op (.blt .len [9] 3 [v33]) w (fun v34 w =>
 S.op (.bin .gtr 3 false true v34 (.int .i64 100)) w (fun v35 w =>
 Br v35 (
 S.call (.fn 14) [] w (fun v37 w =>
 K v37 w) Kp) (
 Jn fun (J8 : World → Prop) =>
 (Br a0 (
 S.op (.fieldAddr 45 v7 0) w (fun v39 w =>
 S.op (.store 2 v39 (.int .i64 0)) w (fun _ w =>
 J8 w) Kp) Kp) (
 S.op (.fieldAddr 45 v7 1) w (fun v40 w =>
 S.op (.store 9 v40 (.string { data := #[] })) w (fun _ w =>
 J8 w) Kp) Kp)) ∧
 (∀ (w : World) (_ : Nat → Value), J8 w →
 S.op (.load 23 v5) w (fun v43 w =>
 S.call (.fn 22) [a0, v43, a2] w (fun v45 w =>
 S.op (.extract v45 0) w (fun v46 w =>
 S.op (.extract v45 1) w (fun v47 w =>
 S.op (.fieldAddr 45 v7 0) w (fun v48 w =>
 S.op (.load 2 v48) w (fun v49 w =>
 S.op (.fieldAddr 45 v7 1) w (fun v50 w =>
 S.op (.load 9 v50) w (fun v51 w =>
 S.op (.build 73 [(0, (.int .u8 4)), (1, v49), (2, v51)]) w (fun v52 w =>
 S.op (.buildSlice 74 1 [(0, v52)]) w (fun v53 w =>
 S.op (.blt .len [46] 3 [v46]) w (fun v55 w =>
 Lp fun (I12 : Value → KV) (μ12 : Value → Value → World → Nat) => I12 (.slice none 0 0) (.int .i64 0) w ∧
 ∀ (wl12 : World) (_ : Nat → Value) (s12 : Value) (s56 : Value), I12 s12 s56 wl12 →
 S.op (.bin .lss 3 false false s56 v55) wl12 (fun v57 w =>
 Br v57 (
 S.op (.indexAddr 46 v46 s56) w (fun v58 w =>
 S.op (.load 49 v58) w (fun v59 w =>
 S.op (.alloc 49) w (fun v14 w =>
 S.op (.store 49 v14 v59) w (fun _ w =>
 S.op (.load 23 v5) w (fun v60 w =>
 S.op (.load 49 v14) w (fun v62 w =>
 S.op (.load 45 v7) w (fun v63 w =>
 S.call (.fn 34) [v60, a0, v62, v63] w (fun v64 w =>
 S.op (.bin .geq 3 false true v64 (.int .i64 0)) w (fun v65 w =>
 Br v65 (
 S.op (.load 49 v14) w (fun v67 w =>
 S.op (.buildSlice 46 1 [(0, v67)]) w (fun v68 w =>
 S.op (.blt .append [46, 46] 46 [s12, v68]) w (fun v69 w =>
 S.op (.bin .add 3 false true s56 (.int .i64 1)) w (fun v70 w =>
 I12 v69 v70 w ∧ μ12 v69 v70 w < μ12 s12 s56 wl12) Kp) Kp) Kp) Kp) (
 S.op (.bin .add 3 false true s56 (.int .i64 1)) w (fun v70 w =>
 I12 s12 v70 w ∧ μ12 s12 v70 w < μ12 s12 s56 wl12) Kp)) Kp) Kp) Kp) Kp) Kp) Kp) Kp) Kp) Kp) (
 S.op (.blt .len [46] 3 [s12]) w (fun v72 w =>
 S.op (.bin .add 3 false true v72 (.int .i64 1)) w (fun v73 w =>
 Lp fun (I18 : Value → KV) (μ18 : Value → Value → World → Nat) => I18 v53 (.int .i64 0) w ∧
 ∀ (wl18 : World) (_ : Nat → Value) (s11 : Value) (s74 : Value), I18 s11 s74 wl18 →
 S.op (.bin .lss 3 false false s74 v73) wl18 (fun v75 w =>
 Br v75 (
 S.op (.build 73 [(0, (.int .u8 2))]) w (fun v77 w =>
 S.op (.buildSlice 74 1 [(0, v77)]) w (fun v78 w =>
 S.op (.blt .append [74, 74] 74 [s11, v78]) w (fun v79 w =>
 S.op (.bin .add 3 false true s74 (.int .i64 1)) w (fun v80 w =>
 I18 v79 v80 w ∧ μ18 v79 v80 w < μ18 s11 s74 wl18) Kp) Kp) Kp) Kp) (
 S.ld (.load 23 v5) w.drew (fun v83 =>
 S.call (.fn 28) [a2] w.drew (fun v85 w =>
 S.same (.load 23 v5) v83 w ∧
 S.call (.fn 35) [a0, (.bool false), v83, v85, s11] w (fun v87 w =>
 S.pur (.extract v87 0) (fun v88 =>
 S.pur (.extract v87 1) (fun v89 =>
 S.call (.fn 14) [] w (fun v90 w =>
 S.op (.un .not v90) w (fun v91 w =>
 Br v91 (
 K (.bool false) w) (
 S.op (.un .not v47) w (fun v94 w =>
 Br v94 (
 K (.bool false) w) (
 S.op (.un .not v89) w (fun v98 w =>
 Br v98 (
 K (.bool false) w) (
 S.op (.blt .len [76] 3 [v88]) w (fun v102 w =>
 S.op (.blt .len [74] 3 [s11]) w (fun v104 w =>
 S.op (.bin .neq 3 false false v102 v104) w (fun v105 w =>
 Br v105 (
 K (.bool false) w) (
 S.op (.blt .len [46] 3 [s12]) w (fun v108 w =>
 Lp fun (I25 : KV) (μ25 : Value → World → Nat) => I25 (.int .i64 0) w ∧
 ∀ (wl25 : World) (_ : Nat → Value) (s109 : Value), I25 s109 wl25 →
 S.op (.bin .lss 3 false false s109 v108) wl25 (fun v110 w =>
 Br v110 (
 S.op (.indexAddr 46 s12 s109) w (fun v112 w =>
 S.op (.load 49 v112) w (fun v113 w =>
 S.op (.alloc 49) w (fun v18 w =>
 S.op (.store 49 v18 v113) w (fun _ w =>
 S.pur (.bin .add 3 false true s109 (.int .i64 1)) (fun v116 =>
 S.pur (.indexAddr 76 v88 v116) (fun v117 =>
 S.pur (.fieldAddr 80 v117 0) (fun v118 =>
 S.ld (.load 49 v118) w.drew (fun v119 =>
 S.ld (.load 49 v18) w.drew (fun v120 =>
 S.pur (.bin .neq 49 false false v119 v120) (fun v121 =>
 Br v121 (
 K (.bool false) w.drew) (
 S.pur (.bin .add 3 false true s109 (.int .i64 1)) (fun v125 =>
 S.pur (.indexAddr 76 v88 v125) (fun v126 =>
 S.pur (.fieldAddr 80 v126 1) (fun v127 =>
 S.ld (.load 4 v127) w.drew (fun v128 =>
 S.pur (.un .not v128) (fun v129 =>
 Br v129 (
 K (.bool false) w.drew) (
 S.pur (.indexAddr 76 v88 s109) (fun v134 =>
 S.pur (.fieldAddr 80 v134 2) (fun v135 =>
 S.ld (.load 4 v135) w.drew (fun v136 =>
 Br v136 (
 K (.bool false) w.drew) (
 S.op (.bin .add 3 false true s109 (.int .i64 1)) w.drew (fun v138 w =>
 I25 v138 w ∧ μ25 v138 w < μ25 s109 wl25) Kp)))))))))))))))))) Kp) Kp) Kp) Kp) (
 S.op (.blt .len [76] 3 [v88]) w (fun v141 w =>
 S.op (.bin .sub 3 false true v141 (.int .i64 1)) w (fun v142 w =>
 S.op (.indexAddr 76 v88 v142) w (fun v143 w =>
 S.op (.fieldAddr 80 v143 1) w (fun v144 w =>
 S.op (.load 4 v144) w (fun v145 w =>
 S.op (.un .not v145) w (fun v146 w =>
 Br v146 (
 S.op (.blt .len [76] 3 [v88]) w (fun v150 w =>
 S.op (.bin .sub 3 false true v150 (.int .i64 1)) w (fun v151 w =>
 S.op (.indexAddr 76 v88 v151) w (fun v152 w =>
 S.op (.fieldAddr 80 v152 2) w (fun v153 w =>
 S.op (.load 4 v153) w (fun v154 w =>
 K v154 w) Kp) Kp) Kp) Kp) Kp) (
 K (.bool false) w)) Kp) Kp) Kp) Kp) Kp) Kp)) Kp) Kp)) Kp) Kp) Kp)) Kp)) Kp)) Kp) Kp))) Kp) Kp))) Kp) Kp) Kp)) Kp) Kp) Kp) Kp) Kp) Kp) Kp) Kp) Kp) Kp) Kp) Kp))) Kp) Kp) Kp) Kp)) Kp) Kp) Kp)) Kp) Kp) Kp)) Kp) Kp) Kp) Kp
theorem vc11_eq : vc11 S a0 a1 a2 a3 w K Kp = fVC S [(12, [12, 56]), (18, [11, 74]), (25, [109])] [(8, [])] Tryz.f11 [a0, a1, a2, a3] w K Kp := by kernel_rfl
theorem vc11_calls (h : vc11 nP a0 a1 a2 a3 w K Kp) : Calls Tryz.prog 11 #[a0, a1, a2, a3] w (ret K Kp) :=
 fVC_sound (args := [a0, a1, a2, a3]) nice_le follows_BVcWC Tryz.func11 (by kernel_rfl) (Eq.mp vc11_eq h)
end Go.Proofs.YtodjijfblgnfmaaGreatDoor
end
section
namespace Go.Vc
variable {P : Program} {w w' : World} {K : Value → World → Prop} {Kp : KP} {e : TypeId} {k : Nat}
theorem wrap_small64 {n : Int} (h0 : 0 ≤ n) (h1 : n < 9223372036854775808) : IntKind.i64.wrap n = n := by rw [IntKind.wrap_i64]; omega
theorem conv_ok {α : Type} {f : α → List Value} {tin tel tout e s : TypeId} {bytes : Nat} {z : Value} (hk : ∀ x, (f x).length = k) (hk0 : 0 < k) (hone : ∀ x, ∀ u ∈ f x, u.oneCell' = true) (hin : sliceOf P tin = some (e, k)) (hkd : kd P tin = .slice) (hel : ldk P tel = some (.agg k))
    (hz : zeroOf P tel = some z) (hzk : z.cells.size = k) (ha : apOf P tout = some (s, k, bytes)) (hl : ∀ x, sliceLit P tout 1 [(0, .agg (f x).toArray)] = some (s, (f x).toArray)) {a : Option Addr} {c : Nat} {xs : List α} (h : Row w a (xs.flatMap f)) (hn : (xs.length + 1) * (bytes + 1) ≤ 140737488355328)
    (hK : ∀ l w', Frm (fun _ => False) w w' → RowsOf (Flat f) w' w.heap.size s k l xs (fun _ => False) → K l w') :
    (nice P).op (.blt .len [tin] 3 [.slice a xs.length c]) w (fun v7 w =>
    Lp fun (I3 : Value → Value → World → Prop) (μ3 : Value → Value → World → Nat) => I3 (Value.slice none 0 0) (Value.int IntKind.i64 0) w ∧
    ∀ (wl3 : World) (junk : Nat → Value) (s3_out : Value) (s8_ : Value), I3 s3_out s8_ wl3 →
      (nice P).op (.bin BinOp.lss 3 false false s8_ v7) wl3 (fun v9 w =>
      Br v9 (
        (nice P).op (.indexAddr tin (.slice a xs.length c) s8_) w (fun v10 w =>
        (nice P).op (.load tel v10) w (fun v11 w =>
        (nice P).op (.alloc tel) w (fun v5_p w =>
        (nice P).op (.store tel v5_p v11) w (fun _ w =>
        (nice P).op (.load tel v5_p) w (fun v13 w =>
        (nice P).op (.buildSlice tout 1 [(0, v13)]) w (fun v14 w =>
        (nice P).op (.blt Builtin.append [tout, tout] tout [s3_out, v14]) w (fun v15 w =>
        (nice P).op (.bin BinOp.add 3 false true s8_ (Value.int IntKind.i64 1)) w (fun v16 w =>
        I3 v15 v16 w ∧ μ3 v15 v16 w < μ3 s3_out s8_ wl3) Kp) Kp) Kp) Kp) Kp) Kp) Kp) Kp) (
        K s3_out w)) Kp) Kp := by
  have hb0 : 0 < bytes + 1 := by omega
  have hmax : xs.length + 1 ≤ 140737488355328 := Nat.le_trans (Nat.le_mul_of_pos_right _ hb0) hn
  rw [op_len_slice hkd]
  obtain ⟨I, hI⟩ : ∃ I : Value → Value → World → Prop, ∀ l v wl, I l v wl ↔ ∃ i : Nat, v = .int .i64 i ∧ i ≤ xs.length ∧ Frm (fun _ => False) w wl ∧ RowsOf (Flat f) wl w.heap.size s k l (xs.take i) (fun _ => False) := ⟨_, fun _ _ _ => Iff.rfl⟩
  refine Lp.intro I (fun _ v _ => xs.length - (match v with | .int _ j => j.toNat | _ => 0)) ⟨(hI _ _ _).2 ⟨0, rfl, by omega, Frm.refl, rows_nil⟩, ?_⟩
  intro wl _ l v hl'
  obtain ⟨i, rfl, hi, kl, hR⟩ := (hI _ _ _).1 hl'
  simp only [op_lss, Br_dec]
  refine ⟨fun hlt => ?_, fun hge => ?_⟩
  · have hi' : i < xs.length := by omega
    obtain ⟨b, o, cs, e', fz, rfl, hcs, hsz, hext⟩ := (h.frame kl fun _ _ h => h).part hk hk0 hi'
    rw [op_ix_slice hin]
    refine ⟨⟨by omega, by omega⟩, ?_⟩
    rw [add_spot rfl, op_ldn hel]
    simp only [Int.toNat_natCast]
    refine ⟨cs, e', fz, hcs, by first | rfl | trivial, hsz, ?_⟩
    show (nice P).op (.alloc tel) wl _ Kp
    rw [hext]
    refine op_alloc_ok hz fun w1 k1 z1 b1 => ?_
    refine op_storeN_ok (n := k) hel b1 (by simp [hk]) (by rw [hzk]; omega) (fun u hu => hone _ u (by simpa using hu)) fun w2 k2 z2 b2 => ?_
    have hb2 : w2.heap[wl.heap.size]? = some (.cells (f xs[i]).toArray tel (0, 0)) := by
      rw [ow_all (by simp [hk, hzk])] at b2; exact b2
    rw [op_ldn hel]
    refine ⟨_, _, _, hb2, rfl, by simp [hk], ?_⟩
    have hx : (f xs[i]).toArray.extract 0 (0 + k) = (f xs[i]).toArray := extract_self (by simp [hk])
    rw [hx]
    have k12 : Frm (fun _ => False) wl w2 := k1.old k2 fun c hc => .inr (by omega)
    have hR2 := hR.still (flat_ok f) k12
    have hlow := hR.own_lt
    have htl : (xs.take i).length = i := by simp; omega
    have hmul : (i + 1) * (bytes + 1) ≤ (xs.length + 1) * (bytes + 1) := Nat.mul_le_mul_right _ (by omega)
    refine op_push (flat_ok f) ha (hl _) (hk _) (hone _) hR2 rfl (G2 := fun _ => False) (fun _ h => h.elim) (fun _ _ h => h) (by rw [htl]; omega) (by have := kl.size; have := k12.size; omega) fun l' w3 k3 hR3 ho3 => ?_
    rw [op_add, wrap_small64 (by omega) (by omega)]
    have hlow2 := hR2.own_lt
    refine ⟨(hI _ _ _).2 ⟨i + 1, by simp, by omega, (kl.no k12).old k3 fun c hc => .inr (by have := hlow2 c hc.symm; omega), ?_⟩, ?_⟩
    · rw [List.take_succ_eq_append_getElem hi']
      exact hR3.mono (flat_ok f) (fun c h => h.elim (fun h => h) fun h => h) (fun _ h => h.elim) fun _ _ h => h
    · have : ((i : Int) + 1).toNat = i + 1 := by omega
      simp only [Int.toNat_natCast, this]; omega
  · have : i = xs.length := by omega
    subst this
    rw [List.take_length] at hR
    exact hK l wl kl hR
end Go.Vc
namespace Go.Vc
section
variable {P : Program} {w : World} {K : Value → World → Prop} {K1 : Value → Prop} {Kp : KP} {a b c d e : Value}
@[simp] theorem pur_ext4_0 : (nice P).pur (.extract (.tuple #[a, b, c, d]) 0) K1 = K1 a := pur_ext rfl
@[simp] theorem pur_ext4_1 : (nice P).pur (.extract (.tuple #[a, b, c, d]) 1) K1 = K1 b := pur_ext rfl
@[simp] theorem pur_ext4_2 : (nice P).pur (.extract (.tuple #[a, b, c, d]) 2) K1 = K1 c := pur_ext rfl
@[simp] theorem pur_ext4_3 : (nice P).pur (.extract (.tuple #[a, b, c, d]) 3) K1 = K1 d := pur_ext rfl
@[simp] theorem pur_ext5_0 : (nice P).pur (.extract (.tuple #[a, b, c, d, e]) 0) K1 = K1 a := pur_ext rfl
@[simp] theorem pur_ext5_1 : (nice P).pur (.extract (.tuple #[a, b, c, d, e]) 1) K1 = K1 b := pur_ext rfl
@[simp] theorem pur_ext5_2 : (nice P).pur (.extract (.tuple #[a, b, c, d, e]) 2) K1 = K1 c := pur_ext rfl
@[simp] theorem pur_ext5_3 : (nice P).pur (.extract (.tuple #[a, b, c, d, e]) 3) K1 = K1 d := pur_ext rfl
@[simp] theorem pur_ext5_4 : (nice P).pur (.extract (.tuple #[a, b, c, d, e]) 4) K1 = K1 e := pur_ext rfl
@[simp] theorem op_ext4_0 : (nice P).op (.extract (.tuple #[a, b, c, d]) 0) w K Kp = K a w := op_ext rfl
@[simp] theorem op_ext4_1 : (nice P).op (.extract (.tuple #[a, b, c, d]) 1) w K Kp = K b w := op_ext rfl
@[simp] theorem op_ext4_2 : (nice P).op (.extract (.tuple #[a, b, c, d]) 2) w K Kp = K c w := op_ext rfl
@[simp] theorem op_ext4_3 : (nice P).op (.extract (.tuple #[a, b, c, d]) 3) w K Kp = K d w := op_ext rfl
@[simp] theorem op_ext5_0 : (nice P).op (.extract (.tuple #[a, b, c, d, e]) 0) w K Kp = K a w := op_ext rfl
@[simp] theorem op_ext5_1 : (nice P).op (.extract (.tuple #[a, b, c, d, e]) 1) w K Kp = K b w := op_ext rfl
@[simp] theorem op_ext5_2 : (nice P).op (.extract (.tuple #[a, b, c, d, e]) 2) w K Kp = K c w := op_ext rfl
@[simp] theorem op_ext5_3 : (nice P).op (.extract (.tuple #[a, b, c, d, e]) 3) w K Kp = K d w := op_ext rfl
@[simp] theorem op_ext5_4 : (nice P).op (.extract (.tuple #[a, b, c, d, e]) 4) w K Kp = K e w := op_ext rfl
end
end Go.Vc
end
section
namespace Go.Proofs.YtodjijfblgnfmaaGreatDoor
open Go.Vc Go.Proofs Go.Vc.Bt
variable {w w' : World} {K : KV} {Kp : KP} {n : Int} {kn : Nat} {text : Bool} {a1 a2 : Option Addr} {c1 c2 : Nat} {ps : List SPr} {ms : List WSt}
def walkOf (text : Bool) (kn : Nat) (n : Int) (ps : List SPr) (ms : List WSt) : List WAn := if text then (runQ (T.ordI kn n) T.kd (putAll (T.ordI kn n) [] (ps.map T.kd.kv)) ms).2 else (runQ (I.ordI kn n) I.kd (putAll (I.ordI kn n) [] (ps.map I.kd.kv)) ms).2
theorem toPairs_ok (h : Row w a1 (ps.flatMap SPr.cells)) (hn : ps.length ≤ 1000) (hK : ∀ l w', Frm (fun _ => False) w w' → RowsOf (Flat SPr.cells) w' w.heap.size 49 3 l ps (fun _ => False) → K l w') : Calls Tryz.prog 28 #[.slice a1 ps.length c1] w (ret K Kp) :=
  vc28_calls (conv_ok (f := SPr.cells) (k := 3) (e := 45) (z := .agg #[.int .i64 0, .string ByteArray.empty, .int .i64 0]) (bytes := 32) SPr.len (by decide) SPr.one (by kernel_rfl) (by kernel_rfl) (by kernel_rfl) (by kernel_rfl) rfl (by kernel_rfl) (fun _ => I.lit_sp _) h (by omega) hK)
theorem walk1_ok {b0 b1 b2 b3 b4 b5 : Nat} {v5 : Value} (h1 : -9223372036854775808 ≤ n) (h2 : n ≤ 9223372036854775807) (hr : Row w a1 (ps.flatMap SPr.cells)) (hm : Row w a2 (ms.flatMap WSt.cells)) (ht : ∀ p ∈ ps, p.text.size ≤ 100) (hmm : ∀ m ∈ ms, (m.op = 2 ∨ m.op = 4) ∧ m.text.size ≤ 100) (hn : ps.length ≤ 1000) (hmn : ms.length ≤ 10000)
    (k0 : w.heap[b0]? = some (.cells #[.bool text] 4 (0, 0))) (k1 : w.heap[b1]? = some (.cells #[.int .u8 kn, .int .i64 n] 31 (0, 0))) (k2 : w.heap[b2]? = some (.cells #[.bool false] 4 (0, 0))) (k3 : w.heap[b3]? = some (.cells #[.slice a1 ps.length c1] 46 (0, 0)))
    (k4 : w.heap[b4]? = some (.cells #[.slice a2 ms.length c2] 74 (0, 0))) (k5 : w.heap[b5]? = some (.cells #[v5] 76 (0, 0)))
    (hK : ∀ l w', Frm (· = b5) w w' → w'.heap[b5]? = some (.cells #[l] 76 (0, 0)) → RowsOf (Flat WAn.cells) w' w.heap.size 80 5 l (walkOf text kn n ps ms) (fun _ => False) → K (.tuple #[]) w') :
    Calls Tryz.prog 60 #[.pointer (some ⟨b0, 0, none⟩), .pointer (some ⟨b1, 0, none⟩), .pointer (some ⟨b2, 0, none⟩), .pointer (some ⟨b3, 0, none⟩), .pointer (some ⟨b4, 0, none⟩), .pointer (some ⟨b5, 0, none⟩)] w (ret K Kp) := by
  refine vc60_calls ?_
  delta vc60
  have hx : (#[.int .u8 kn, .int .i64 n] : Array Value).extract 0 2 = #[.int .u8 kn, .int .i64 n] := rfl
  have hfin : ∀ {l : Value} {w9 : World}, Frm (fun _ => False) w w9 → RowsOf (Flat WAn.cells) w9 w.heap.size 80 5 l (walkOf text kn n ps ms) (fun _ => False) →
      nP.op (.store 76 (.pointer (some ⟨b5, 0, none⟩)) l) w9 (fun _ w => K (.tuple #[]) w) Kp := fun {l w9} k9 hR => by
    have hl5 := lt_of_get k5
    have hlow := hR.own_lt
    refine op_store_ok (by kernel_rfl) (k9.get k5 fun h => h) (by simp) hR.one fun w10 k10 z10 b10 => ?_
    exact hK l w10 (k9.fst k10) (by simpa using b10) (hR.frame (flat_ok _) k10 (fun c hc => hc.elim) fun b hb he => by have := (hlow b hb).1; omega)
  cases text with
  | true =>
    simp [-getElem?_pos, -Array.getElem?_eq_getElem, -Int.natCast_add, -op_alloc_76, -op_st_76, k0, k1, k2, k3, k4, hx]
    refine T.keys_ok fun w4 f4 => ?_
    have f4 := Frm.dr f4
    have q1 := f4.get k1 fun h => h
    have q2 := f4.get k2 fun h => h
    have q3 := f4.get k3 fun h => h
    have q4 := f4.get k4 fun h => h
    simp [-getElem?_pos, -Array.getElem?_eq_getElem, -Int.natCast_add, -op_alloc_76, -op_st_76, q1, q2, q3, q4, hx]
    refine T.comparer_ok h1 h2 fun cv w5 f5 hc => ?_
    have r2 := f5.get q2 fun h => h
    have r3 := f5.get q3 fun h => h
    have r4 := f5.get q4 fun h => h
    have f45 := f4.no f5
    simp [-getElem?_pos, -Array.getElem?_eq_getElem, -Int.natCast_add, -op_alloc_76, -op_st_76, r2, r3, r4]
    refine T.sortedWalk_ok hc T.ordI_lin (hr.frame f45 fun _ _ h => h) (hm.frame f45 fun _ _ h => h) ht hmm hn hmn fun l w6 f6 hR => ?_
    exact hfin (f45.no f6) (hR.base_le f45.size)
  | false =>
    simp [-getElem?_pos, -Array.getElem?_eq_getElem, -Int.natCast_add, -op_alloc_76, -op_st_76, k0, k1, k2, k3, k4, hx]
    refine I.keys_ok fun w4 f4 => ?_
    have f4 := Frm.dr f4
    have q1 := f4.get k1 fun h => h
    have q2 := f4.get k2 fun h => h
    have q3 := f4.get k3 fun h => h
    have q4 := f4.get k4 fun h => h
    simp [-getElem?_pos, -Array.getElem?_eq_getElem, -Int.natCast_add, -op_alloc_76, -op_st_76, q1, q2, q3, q4, hx]
    refine I.comparer_ok h1 h2 fun cv w5 f5 hc => ?_
    have r2 := f5.get q2 fun h => h
    have r3 := f5.get q3 fun h => h
    have r4 := f5.get q4 fun h => h
    have f45 := f4.no f5
    simp [-getElem?_pos, -Array.getElem?_eq_getElem, -Int.natCast_add, -op_alloc_76, -op_st_76, r2, r3, r4]
    refine I.sortedWalk_ok hc I.ordI_lin (hr.frame f45 fun _ _ h => h) (hm.frame f45 fun _ _ h => h) ht hmm hn hmn fun l w6 f6 hR => ?_
    exact hfin (f45.no f6) (hR.base_le f45.size)
theorem walk_ok (h1 : -9223372036854775808 ≤ n) (h2 : n ≤ 9223372036854775807) (hr : Row w a1 (ps.flatMap SPr.cells)) (hm : Row w a2 (ms.flatMap WSt.cells)) (ht : ∀ p ∈ ps, p.text.size ≤ 100) (hmm : ∀ m ∈ ms, (m.op = 2 ∨ m.op = 4) ∧ m.text.size ≤ 100) (hn : ps.length ≤ 1000) (hmn : ms.length ≤ 10000)
    (hK : ∀ l w', Frm (fun _ => False) w w' → RowsOf (Flat WAn.cells) w' w.heap.size 80 5 l (walkOf text kn n ps ms) (fun _ => False) → K (.tuple #[l, .bool true]) w') :
    Calls Tryz.prog 35 #[.bool text, .bool false, orderV kn n, .slice a1 ps.length c1, .slice a2 ms.length c2] w (ret K Kp) := by
  refine vc35_calls ?_
  delta vc35 orderV
  refine op_box_ok fun w1 k1 z1 b1 => op_box_ok fun w2 k2 z2 b2 => op_box_ok fun w3 k3 z3 b3 => op_box_ok fun w4 k4 z4 b4 => op_box_ok fun w5 k5 z5 b5 => ?_
  rw [cells_of_one (by rfl)] at b1 b2 b4 b5
  simp only [cells_agg] at b3
  refine op_alloc_ok (z := .slice none 0 0) (by kernel_rfl) fun w6 k6 z6 b6 => ?_
  rw [cells_of_one (by rfl)] at b6
  have k56 := k5.no k6
  have k46 := k4.no k56
  have k36 := k3.no k46
  have k26 := k2.no k36
  have k06 := k1.no k26
  have q1 := k26.get b1 fun h => h
  have q2 := k36.get b2 fun h => h
  have q3 := k46.get b3 fun h => h
  have q4 := k56.get b4 fun h => h
  have q5 := k6.get b5 fun h => h
  simp [-getElem?_pos, -Array.getElem?_eq_getElem, -Int.natCast_add, -op_alloc_76, -op_st_76]
  have k7 : Frm (fun _ => False) w6 (w6.alloc (.cells #[.bool false] 4)) := Frm.alloc _ _
  refine thrown_ok (x := #[]) (by kernel_rfl) ?_
  have k07 := k06.no k7
  rw [show ∀ a b c d e f : Value, (#[] ++ #[a, b, c, d, e, f] : Array Value) = #[a, b, c, d, e, f] from fun _ _ _ _ _ _ => rfl]
  refine walk1_ok (text := text) (kn := kn) (n := n) (ps := ps) (ms := ms) h1 h2 (hr.frame k07 fun _ _ h => h) (hm.frame k07 fun _ _ h => h) ht hmm hn hmn (k7.get q1 fun h => h) (k7.get q3 fun h => h) (k7.get q2 fun h => h) (k7.get q4 fun h => h) (k7.get q5 fun h => h) (k7.get b6 fun h => h) fun l w8 k8 b8 hR => ?_
  have n05 := (((((k1.no k2).no k3).no k4).no k5)).size
  have n6 := k6.size
  have hlow := hR.own_lt
  have hsz : (w6.alloc (.cells #[.bool false] 4)).heap.size = w6.heap.size + 1 := by simp
  refine ⟨k8.get hp_alloc_new (by omega), ?_⟩
  simp [-getElem?_pos, -Array.getElem?_eq_getElem, -Int.natCast_add, -op_alloc_76, -op_st_76, b8]
  refine op_store_ok (by kernel_rfl) b8 (by simp) hR.one fun w9 k9 z9 b9 => ?_
  have b9 : w9.heap[w5.heap.size]? = some (.cells #[l] 76 (0, 0)) := by simpa using b9
  have := hK l w9 ((k07.old k8 fun c hc => .inr (by omega)).old k9 fun c hc => .inr (by omega)) ((hR.frame (flat_ok _) k9 (fun c hc => hc.elim) fun b hb he => by have := (hlow b hb).1; omega).base_le (by omega))
  simp [-getElem?_pos, -Array.getElem?_eq_getElem, -Int.natCast_add, -op_alloc_76, -op_st_76, b9]
  exact this
end Go.Proofs.YtodjijfblgnfmaaGreatDoor
end
section
namespace Go.Proofs.YtodjijfblgnfmaaGreatDoor
open Go.Vc Go.Proofs
variable {S : Sig} {a0 a1 a2 a3 a4 a5 a6 a7 a8 a9 : Value} {w : World} {K : KV} {Kp : KP}
private theorem follows_BVcLP : Tryz.prog.follows .mixedOrders = true := by kernel_rfl
def vc34 (S : Sig) (a0 a1 a2 a3 : Value) (w : World) (K : KV) (Kp : KP) : Prop :=
 S.op (.box 23 a0) w (fun v4 w =>
 S.op (.box 45 a2) w (fun v6 w =>
 S.op (.box 45 a3) w (fun v7 w =>
 Jn fun (J4 : KV) =>
 (S.op (.fieldAddr 23 v4 0) w (fun v14 w =>
 S.op (.load 5 v14) w (fun v15 w =>
 S.op (.bin .eql 5 false true v15 (.int .u8 2)) w (fun v16 w =>
 Br v16 (
 J4 (.int .i64 (-1)) w) (
 J4 (.int .i64 1) w)) Kp) Kp) Kp) ∧
 (∀ (w : World) (_ : Nat → Value) (j9 : Value), J4 j9 w →
 S.pur (.fieldAddr 45 v6 0) (fun v17 =>
 S.ld (.load 2 v17) w.drew (fun v18 =>
 S.pur (.fieldAddr 45 v7 0) (fun v19 =>
 S.ld (.load 2 v19) w.drew (fun v20 =>
 S.pur (.bin .lss 2 false false v18 v20) (fun v21 =>
 S.pur (.fieldAddr 45 v6 0) (fun v22 =>
 S.ld (.load 2 v22) w.drew (fun v23 =>
 S.pur (.fieldAddr 45 v7 0) (fun v24 =>
 S.ld (.load 2 v24) w.drew (fun v25 =>
 S.pur (.bin .gtr 2 false false v23 v25) (fun v26 =>
 S.same (.load 2 v24) v25 w.drew ∧
 S.same (.load 2 v22) v23 w.drew ∧
 Jn fun (J9 : Value → KV) =>
 (S.op (.fieldAddr 23 v4 0) w.drew (fun v27 w =>
 S.op (.load 5 v27) w (fun v28 w =>
 S.op (.bin .eql 5 false true v28 (.int .u8 3)) w (fun v29 w =>
 Br v29 (
 S.pur (.fieldAddr 45 v6 0) (fun v30 =>
 S.ld (.load 2 v30) w.drew (fun v31 =>
 S.pur (.fieldAddr 23 v4 1) (fun v32 =>
 S.ld (.load 2 v32) w.drew (fun v33 =>
 S.pur (.fieldAddr 45 v7 0) (fun v35 =>
 S.ld (.load 2 v35) w.drew (fun v36 =>
 S.pur (.fieldAddr 23 v4 1) (fun v37 =>
 S.ld (.load 2 v37) w.drew (fun v38 =>
 S.call (.fn 59) [v31, v33] w.drew (fun v34 w =>
 S.same (.load 2 v37) v38 w ∧
 S.same (.load 2 v35) v36 w ∧
 S.call (.fn 59) [v36, v38] w (fun v39 w =>
 S.op (.bin .neq 2 false false v34 v39) w (fun v42 w =>
 Br v42 (
 S.op (.bin .lss 2 false false v34 v39) w (fun v45 w =>
 S.op (.bin .gtr 2 false false v34 v39) w (fun v48 w =>
 J9 v45 v48 w) Kp) Kp) (
 J9 v21 v26 w)) Kp) Kp) Kp))))))))) (
 J9 v21 v26 w)) Kp) Kp) Kp) ∧
 (∀ (w : World) (_ : Nat → Value) (j10 : Value) (j11 : Value), J9 j10 j11 w →
 Br a1 (
 S.pur (.fieldAddr 45 v6 1) (fun v50 =>
 S.ld (.load 9 v50) w.drew (fun v51 =>
 S.pur (.fieldAddr 45 v7 1) (fun v52 =>
 S.ld (.load 9 v52) w.drew (fun v53 =>
 S.pur (.bin .lss 9 false false v51 v53) (fun v54 =>
 S.pur (.fieldAddr 45 v6 1) (fun v55 =>
 S.ld (.load 9 v55) w.drew (fun v56 =>
 S.pur (.fieldAddr 45 v7 1) (fun v57 =>
 S.ld (.load 9 v57) w.drew (fun v58 =>
 S.pur (.bin .gtr 9 false false v56 v58) (fun v59 =>
 S.same (.load 9 v57) v58 w.drew ∧
 S.same (.load 9 v55) v56 w.drew ∧
 S.op (.fieldAddr 23 v4 0) w.drew (fun v60 w =>
 S.op (.load 5 v60) w (fun v61 w =>
 S.op (.bin .eql 5 false true v61 (.int .u8 3)) w (fun v62 w =>
 Br v62 (
 S.op (.fieldAddr 45 v6 1) w (fun v64 w =>
 S.op (.load 9 v64) w (fun v65 w =>
 S.op (.blt .len [9] 3 [v65]) w (fun v66 w =>
 S.op (.fieldAddr 45 v7 1) w (fun v67 w =>
 S.op (.load 9 v67) w (fun v68 w =>
 S.op (.blt .len [9] 3 [v68]) w (fun v69 w =>
 S.op (.bin .neq 3 false false v66 v69) w (fun v70 w =>
 Br v70 (
 S.pur (.fieldAddr 45 v6 1) (fun v72 =>
 S.ld (.load 9 v72) w.drew (fun v73 =>
 S.ld (.blt .len [9] 3 [v73]) w.drew (fun v74 =>
 S.pur (.fieldAddr 45 v7 1) (fun v75 =>
 S.ld (.load 9 v75) w.drew (fun v76 =>
 S.ld (.blt .len [9] 3 [v76]) w.drew (fun v77 =>
 S.pur (.bin .lss 3 false false v74 v77) (fun v78 =>
 S.pur (.fieldAddr 45 v6 1) (fun v79 =>
 S.ld (.load 9 v79) w.drew (fun v80 =>
 S.ld (.blt .len [9] 3 [v80]) w.drew (fun v81 =>
 S.pur (.fieldAddr 45 v7 1) (fun v82 =>
 S.ld (.load 9 v82) w.drew (fun v83 =>
 S.ld (.blt .len [9] 3 [v83]) w.drew (fun v84 =>
 S.pur (.bin .gtr 3 false false v81 v84) (fun v85 =>
 S.same (.blt .len [9] 3 [v83]) v84 w.drew ∧
 S.same (.load 9 v82) v83 w.drew ∧
 S.same (.blt .len [9] 3 [v80]) v81 w.drew ∧
 S.same (.load 9 v79) v80 w.drew ∧
 Br v78 (
 S.op (.un .neg j9) w.drew (fun v89 w =>
 K v89 w) Kp) (
 Br v85 (
 K j9 w.drew) (
 K (.int .i64 0) w.drew))))))))))))))))) (
 Br v54 (
 S.op (.un .neg j9) w (fun v89 w =>
 K v89 w) Kp) (
 Br v59 (
 K j9 w) (
 K (.int .i64 0) w)))) Kp) Kp) Kp) Kp) Kp) Kp) Kp) (
 Br v54 (
 S.op (.un .neg j9) w (fun v89 w =>
 K v89 w) Kp) (
 Br v59 (
 K j9 w) (
 K (.int .i64 0) w)))) Kp) Kp) Kp))))))))))) (
 Br j10 (
 S.op (.un .neg j9) w (fun v89 w =>
 K v89 w) Kp) (
 Br j11 (
 K j9 w) (
 K (.int .i64 0) w)))))))))))))))) Kp) Kp) Kp
theorem vc34_eq : vc34 S a0 a1 a2 a3 w K Kp = fVC S [] [(4, [9]), (9, [10, 11])] Tryz.f34 [a0, a1, a2, a3] w K Kp := by kernel_rfl
theorem vc34_calls (h : vc34 nP a0 a1 a2 a3 w K Kp) : Calls Tryz.prog 34 #[a0, a1, a2, a3] w (ret K Kp) :=
 fVC_sound (args := [a0, a1, a2, a3]) nice_le follows_BVcLP Tryz.func34 (by kernel_rfl) (Eq.mp vc34_eq h)
def vc59 (S : Sig) (a0 a1 : Value) (w : World) (K : KV) (Kp : KP) : Prop :=
 S.op (.bin .rem 2 false false a0 a1) w (fun v8 w =>
 S.op (.bin .lss 2 false true v8 (.int .i64 0)) w (fun v10 w =>
 Br v10 (
 S.op (.bin .add 2 false false v8 a1) w (fun v13 w =>
 K v13 w) Kp) (
 K v8 w)) Kp) Kp
theorem vc59_eq : vc59 S a0 a1 w K Kp = fVC S [] [] Tryz.f59 [a0, a1] w K Kp := by kernel_rfl
theorem vc59_calls (h : vc59 nP a0 a1 w K Kp) : Calls Tryz.prog 59 #[a0, a1] w (ret K Kp) :=
 fVC_sound (args := [a0, a1]) nice_le follows_BVcLP Tryz.func59 (by kernel_rfl) (Eq.mp vc59_eq h)
end Go.Proofs.YtodjijfblgnfmaaGreatDoor
end
section
namespace Go.Proofs.YtodjijfblgnfmaaGreatDoor
open Go.Vc Go.Proofs Go.Vc.Bt
variable {w w' : World} {K : KV} {Kp : KP} {K1 : Value → Prop} {n : Int} {kn : Nat} {text : Bool} {a b : SPr}
theorem pur_lss_s {t : TypeId} {xc yc : Bool} {a b : ByteArray} : nP.pur (.bin .lss t xc yc (.string a) (.string b)) K1 = K1 (.bool (lessB a b)) := pur_of' (by simp [pv, binV, strV, lessB])
theorem pur_gtr_s {t : TypeId} {xc yc : Bool} {a b : ByteArray} : nP.pur (.bin .gtr t xc yc (.string a) (.string b)) K1 = K1 (.bool (lessB b a)) := by
  have h : (!(lessB a b || decide (a = b))) = lessB b a := by
    cases h1 : lessB a b with
    | true => rw [lin_lessB.asym h1]; rfl
    | false =>
      cases h2 : lessB b a with
      | true =>
        have hne : ¬ a = b := fun e => by rw [e, lin_lessB.irr] at h2; cases h2
        simp [hne]
      | false => simp [lin_lessB.tri h1 h2]
  rw [← h]
  exact pur_of' (by simp [pv, binV, strV, lessB])
theorem rest_ok {a : Int} (h1 : 1 ≤ n) (h2 : n ≤ 1000) (hK : K (.int .i64 (a % n)) w) : Calls Tryz.prog 59 #[.int .i64 a, .int .i64 n] w (ret K Kp) := by
  refine vc59_calls ?_
  delta vc59
  obtain ⟨t1, t2, t3⟩ := I.tmod_pos (a := a) (m := n) (by omega)
  simp [-getElem?_pos, -Array.getElem?_eq_getElem, -Int.natCast_add, add_spot, and_assoc, Br_dec]
  refine ⟨by omega, fun h => ?_, fun h => ?_⟩
  · rw [if_pos h] at t3
    rw [show IntKind.i64.wrap (a.tmod n + n) = a % n from by rw [IntKind.wrap_i64]; omega]
    exact hK
  · rw [if_neg (by omega)] at t3
    rw [← t3]; exact hK
def ltS (text : Bool) (kn : Nat) (n : Int) (a b : SPr) : Bool := if text then T.ordB kn a.text b.text else I.ordI kn n a.key b.key
def cmpS (text : Bool) (kn : Nat) (n : Int) (a b : SPr) : Int := if ltS text kn n a b then -1 else if ltS text kn n b a then 1 else 0
theorem ltS_asym (h : ltS text kn n a b = true) : ltS text kn n b a = false := by
  unfold ltS at *
  cases text
  · exact I.ordI_lin.asym h
  · exact T.ordB_lin.asym h
theorem c_lt (h : ltS text kn n a b = true) : cmpS text kn n a b = -1 := by unfold cmpS; rw [if_pos h]
theorem c_gt (h : ltS text kn n b a = true) : cmpS text kn n a b = 1 := by unfold cmpS; rw [if_neg (by rw [ltS_asym h]; simp), if_pos h]
theorem c_eq (h : ltS text kn n a b = false) (h' : ltS text kn n b a = false) : cmpS text kn n a b = 0 := by unfold cmpS; rw [if_neg (by simp [h]), if_neg (by simp [h'])]
theorem compareS_ok (hR : Right kn n) (hK : ∀ w', Frm (fun _ => False) w w' → K (.int .i64 (cmpS text kn n a b)) w') : Calls Tryz.prog 34 #[orderV kn n, .bool text, .agg a.cells.toArray, .agg b.cells.toArray] w (ret K Kp) := by
  refine vc34_calls ?_
  delta vc34 orderV
  refine op_box_ok fun w1 k1 z1 b1 => op_box_ok fun w2 k2 z2 b2 => op_box_ok fun w3 k3 z3 b3 => ?_
  simp only [cells_agg, SPr.cells] at b1 b2 b3
  have k13 := (k1.no k2).no k3
  have c1 := k3.get (k2.get b1 fun h => h) fun h => h
  have c2 := k3.get b2 fun h => h
  have kd : ∀ {wz}, Frm (fun _ => False) w3 wz → K (.int .i64 (cmpS text kn n a b)) wz := fun hf => hK _ (k13.no hf)
  have dr := Frm.drew (M := fun _ => False) w3
  have dd := dr.no (Frm.drew (M := fun _ => False) w3.drew)
  clear hK
  have klt : ∀ {wz : World} {m : Int}, Frm (fun _ => False) w3 wz → ltS text kn n a b = true → m = -1 → K (.int .i64 m) wz := fun hf h e => by have := kd hf; rw [c_lt h] at this; rw [e]; exact this
  have kgt : ∀ {wz : World} {m : Int}, Frm (fun _ => False) w3 wz → ltS text kn n b a = true → m = 1 → K (.int .i64 m) wz := fun hf h e => by have := kd hf; rw [c_gt h] at this; rw [e]; exact this
  have keq : ∀ {wz : World}, Frm (fun _ => False) w3 wz → ltS text kn n a b = false → ltS text kn n b a = false → K (.int .i64 0) wz := fun hf h h' => by have := kd hf; rw [c_eq h h'] at this; exact this
  clear kd
  by_cases e2 : kn = 2
  · subst e2
    simp [-getElem?_pos, -Array.getElem?_eq_getElem, -Int.natCast_add, c1]
    refine Jn.intro (fun v wz => v = .int .i64 (-1) ∧ wz = w3) ⟨⟨rfl, rfl⟩, ?_⟩
    rintro wz _ ⟨rfl, rfl⟩
    obtain ⟨J, hJ⟩ : ∃ J : Value → KV, ∀ u v wq, J u v wq ↔ u = .bool (decide (a.key < b.key)) ∧ v = .bool (decide (b.key < a.key)) ∧ Frm (fun _ => False) wz wq := ⟨_, fun _ _ _ => Iff.rfl⟩
    simp [-getElem?_pos, -Array.getElem?_eq_getElem, -Int.natCast_add, c1, c2, b3]
    refine Jn.intro J ⟨(hJ _ _ _).2 ⟨rfl, by simp, dr⟩, ?_⟩
    intro wq u v hq
    obtain ⟨rfl, rfl, kq⟩ := (hJ _ _ _).1 hq
    have q1 := kq.get c1 fun h => h
    have q2 := kq.get c2 fun h => h
    have q3 := kq.get b3 fun h => h
    have kqd := kq.no (Frm.drew wq)
    cases text with
    | true =>
      have hlt : ltS true 2 n b a = lessB a.text b.text := rfl
      have hgt : ltS true 2 n a b = lessB b.text a.text := rfl
      rw [hgt] at klt keq
      rw [hlt] at kgt keq
      simp [-getElem?_pos, -Array.getElem?_eq_getElem, -Int.natCast_add, q1, q2, q3, pur_lss_s, pur_gtr_s]
      exact ⟨fun h => kgt kqd h (by decide), fun h => ⟨fun h' => klt kqd h' rfl, fun h' => keq kqd h' h⟩⟩
    | false =>
      have hlt : ltS false 2 n b a = decide (a.key < b.key) := by simp [ltS, I.ordI, ltInt]
      have hgt : ltS false 2 n a b = decide (b.key < a.key) := by simp [ltS, I.ordI, ltInt]
      rw [hgt] at klt keq
      rw [hlt] at kgt keq
      simp [-getElem?_pos, -Array.getElem?_eq_getElem, -Int.natCast_add, add_spot, and_assoc, Br_dec]
      exact ⟨fun h => kgt kq (by simpa using h) (by decide), fun h => ⟨fun h' => klt kq (by simpa using h') rfl, fun h' => keq kq (by simpa using h') (by simpa using h)⟩⟩
  have g2 : ¬ (kn : Int) = 2 := by omega
  simp [-getElem?_pos, -Array.getElem?_eq_getElem, -Int.natCast_add, c1, g2]
  refine Jn.intro (fun v wz => v = .int .i64 1 ∧ wz = w3) ⟨⟨rfl, rfl⟩, ?_⟩
  rintro wz _ ⟨rfl, rfl⟩
  by_cases e3 : kn = 3
  · subst e3
    obtain ⟨r1, r2⟩ := hR.2 rfl
    have hby : ∀ x y : Int, by1 (· % n) ltInt x y = if x % n = y % n then decide (x < y) else decide (x % n < y % n) := fun x y => rfl
    obtain ⟨J, hJ⟩ : ∃ J : Value → KV, ∀ u v wq, J u v wq ↔ u = .bool (by1 (· % n) ltInt a.key b.key) ∧ v = .bool (by1 (· % n) ltInt b.key a.key) ∧ Frm (fun _ => False) wz wq := ⟨_, fun _ _ _ => Iff.rfl⟩
    simp [-getElem?_pos, -Array.getElem?_eq_getElem, -Int.natCast_add, c1, c2, b3]
    refine Jn.intro J ⟨?_, ?_⟩
    · refine rest_ok r1 r2 ?_
      simp [-getElem?_pos, -Array.getElem?_eq_getElem, -Int.natCast_add, c1, b3]
      refine rest_ok r1 r2 ?_
      simp [-getElem?_pos, -Array.getElem?_eq_getElem, -Int.natCast_add, add_spot, and_assoc, Br_dec]
      refine ⟨fun h => (hJ _ _ _).2 ⟨?_, ?_, dd⟩, fun h => (hJ _ _ _).2 ⟨?_, ?_, dd⟩⟩
      · rw [hby, if_neg h]
      · rw [hby, if_neg (fun e => h e.symm)]
      · rw [hby, if_pos h]
      · rw [hby, if_pos h.symm]
    intro wq u v hq
    obtain ⟨rfl, rfl, kq⟩ := (hJ _ _ _).1 hq
    have q1 := kq.get c1 fun h => h
    have q2 := kq.get c2 fun h => h
    have q3 := kq.get b3 fun h => h
    have kqd := kq.no (Frm.drew wq)
    have kqdd := kqd.no (Frm.drew wq.drew)
    cases text with
    | true =>
      have hlt : ltS true 3 n a b = if (a.text.size : Int) = b.text.size then lessB a.text b.text else decide ((a.text.size : Int) < b.text.size) := rfl
      have hgt : ltS true 3 n b a = if (b.text.size : Int) = a.text.size then lessB b.text a.text else decide ((b.text.size : Int) < a.text.size) := rfl
      simp [-getElem?_pos, -Array.getElem?_eq_getElem, -Int.natCast_add, q1, q2, q3, pur_lss_s, pur_gtr_s]
      refine ⟨fun hne => ?_, fun he => ?_⟩
      · rw [if_neg (by omega)] at hlt hgt
        rw [hlt] at klt keq
        rw [hgt] at kgt keq
        exact ⟨fun h => klt kqdd (decide_eq_true (by omega)) (by decide), fun h => ⟨fun h' => kgt kqdd (decide_eq_true (by omega)) rfl, fun h' => keq kqdd (decide_eq_false (by omega)) (decide_eq_false (by omega))⟩⟩
      · rw [if_pos (by omega)] at hlt hgt
        rw [hlt] at klt keq
        rw [hgt] at kgt keq
        exact ⟨fun h => klt kqd h (by decide), fun h => ⟨fun h' => kgt kqd h' rfl, fun h' => keq kqd h h'⟩⟩
    | false =>
      have hlt : ltS false 3 n a b = by1 (· % n) ltInt a.key b.key := by simp only [ltS, I.ordI]; rw [if_neg (by simp)]; rw [if_neg (by decide), if_pos ⟨by trivial, by omega⟩]
      have hgt : ltS false 3 n b a = by1 (· % n) ltInt b.key a.key := by simp only [ltS, I.ordI]; rw [if_neg (by simp)]; rw [if_neg (by decide), if_pos ⟨by trivial, by omega⟩]
      rw [hlt] at klt keq
      rw [hgt] at kgt keq
      simp [-getElem?_pos, -Array.getElem?_eq_getElem, -Int.natCast_add, add_spot, and_assoc, Br_dec]
      exact ⟨fun h => klt kq h (by decide), fun h => ⟨fun h' => kgt kq h' rfl, fun h' => keq kq h h'⟩⟩
  · have g3 : ¬ (kn : Int) = 3 := by omega
    obtain ⟨J, hJ⟩ : ∃ J : Value → KV, ∀ u v wq, J u v wq ↔ u = .bool (decide (a.key < b.key)) ∧ v = .bool (decide (b.key < a.key)) ∧ Frm (fun _ => False) wz wq := ⟨_, fun _ _ _ => Iff.rfl⟩
    simp [-getElem?_pos, -Array.getElem?_eq_getElem, -Int.natCast_add, c1, c2, b3, g3]
    refine Jn.intro J ⟨(hJ _ _ _).2 ⟨rfl, by simp, dr⟩, ?_⟩
    intro wq u v hq
    obtain ⟨rfl, rfl, kq⟩ := (hJ _ _ _).1 hq
    have q1 := kq.get c1 fun h => h
    have q2 := kq.get c2 fun h => h
    have q3 := kq.get b3 fun h => h
    have kqd := kq.no (Frm.drew wq)
    cases text with
    | true =>
      have hlt : ltS true kn n a b = lessB a.text b.text := by simp [ltS, T.ordB, e2, e3]
      have hgt : ltS true kn n b a = lessB b.text a.text := by simp [ltS, T.ordB, e2, e3]
      rw [hlt] at klt keq
      rw [hgt] at kgt keq
      simp [-getElem?_pos, -Array.getElem?_eq_getElem, -Int.natCast_add, q1, q2, q3, g3, pur_lss_s, pur_gtr_s]
      exact ⟨fun h => klt kqd h (by decide), fun h => ⟨fun h' => kgt kqd h' rfl, fun h' => keq kqd h h'⟩⟩
    | false =>
      have hlt : ltS false kn n a b = decide (a.key < b.key) := by simp [ltS, I.ordI, ltInt, e2, e3]
      have hgt : ltS false kn n b a = decide (b.key < a.key) := by simp [ltS, I.ordI, ltInt, e2, e3]
      rw [hlt] at klt keq
      rw [hgt] at kgt keq
      simp [-getElem?_pos, -Array.getElem?_eq_getElem, -Int.natCast_add, add_spot, and_assoc, Br_dec]
      exact ⟨fun h => klt kq (by simpa using h) (by decide), fun h => ⟨fun h' => kgt kq (by simpa using h') rfl, fun h' => keq kq (by simpa using h) (by simpa using h')⟩⟩
end Go.Proofs.YtodjijfblgnfmaaGreatDoor
end
section
namespace Go.Vc
variable {P : Program} {w w' : World} {K : Value → World → Prop} {Kp : KP} {t e tin tel : TypeId} {s base g c : Nat} {α : Type} {f : α → List Value} {ys : List α} {l : Value}
end Go.Vc
namespace Go.Vc
variable {P : Program} {w w' : World} {K : Value → World → Prop} {K1 : Value → Prop} {Kp : KP} {t e : TypeId} {s base : Nat} {α : Type} {f : α → List Value} {xs : List α} {v : Value}
theorem IsSl.old {M : Nat → Prop} {n : Nat} {vs : List Value} (h : IsSl w v n vs) (hf : Frm M w w') (hM : ∀ b, M b → w.heap.size ≤ b) : IsSl w' v n vs := by
  obtain ⟨a, c, rfl, hc, hm, hr, hn⟩ := h
  exact ⟨a, c, rfl, hc, hm, hr.old hf hM, hn⟩
end Go.Vc
end
section
namespace Go.Vc
variable {P : Program} {w w' : World} {K : Value → World → Prop} {Kp : KP} {t e : TypeId} {s base : Nat} {α : Type} {f : α → List Value} {ys zs : List α} {l v2 : Value}
end Go.Vc
end
section
namespace Go.Vc
variable {P : Program} {w w' : World} {K : Value → World → Prop} {K1 : Value → Prop} {Kp : KP} {t e : TypeId} {s base g c : Nat} {α : Type} {f : α → List Value} {ys : List α} {l : Value}
theorem FRow.flatten (h : FRow f w base e s l ys) : w.ownsRow base e s l ys.length (ys.flatMap f) := by
  obtain ⟨⟨us, h1, h3, h4, h5⟩, h6, h7⟩ := h
  have hus : us = ys.map f := by
    apply List.ext_getElem?
    intro i
    by_cases hi : i < us.length
    · rw [List.getElem?_eq_getElem hi, List.getElem?_map, List.getElem?_eq_getElem (by omega)]
      have := h5 i us[i] (ys[i]'(by omega)) (List.getElem?_eq_getElem _) (List.getElem?_eq_getElem _)
      rw [this]; rfl
    · rw [List.getElem?_eq_none (by omega), List.getElem?_eq_none (by simp; omega)]
  subst hus
  rw [List.flatMap_def]; exact h4
theorem FRow.of_flat (hf : ∀ x, (f x).length = s) (h : w.ownsRow base e s l ys.length (ys.flatMap f)) : FRow f w base e s l ys :=
  ⟨⟨ys.map f, by simp, fun u hu => by obtain ⟨x, _, rfl⟩ := List.mem_map.1 hu; exact hf x, by rw [List.flatMap_def] at h; exact h, fun i u y' hu hy => by
    rw [List.getElem?_map, hy] at hu
    exact (Option.some.inj hu).symm⟩, fun _ h => h.elim, fun _ _ h => h⟩
theorem FRow.of_rw (hf : ∀ x, (f x).length = s) (h : Rw w e s g c (ys.flatMap f)) (hb : base ≤ g) (hc : ys.length ≤ c) : FRow f w base e s (.slice (some ⟨g, 0, none⟩) ys.length c) ys := by
  refine FRow.of_flat hf ?_
  obtain ⟨q1, ⟨q2, q3⟩ | ⟨g2, cap2, cur2, q2, q3, q4⟩⟩ := h.own (flatMap_len hf ys) hc
  · cases q2
  · cases q2
    exact ⟨q1, .inr ⟨g, c, cur2, rfl, hb, q4⟩⟩
end Go.Vc
end
section
namespace Go.Proofs.YtodjijfblgnfmaaGreatDoor
open Go.Vc Go.Proofs Go.Vc.Bt
variable {w w' : World} {K : KV} {Kp : KP} {n : Int} {kn : Nat} {text : Bool} {a1 : Option Addr} {c1 : Nat} {ps : List SPr} {k : SPr}
def keyOf (text : Bool) (k : SPr) : SPr := if text then ⟨0, k.text, k.val⟩ else ⟨k.key, ⟨#[]⟩, k.val⟩
def wantOf (text : Bool) (kn : Nat) (n : Int) (k : SPr) (l : List SPr) : List SPr := l.filter fun p => !ltS text kn n p k
theorem want_snoc {l : List SPr} {p : SPr} : wantOf text kn n k (l ++ [p]) = wantOf text kn n k l ++ if ltS text kn n p k then [] else [p] := by
  unfold wantOf
  rw [List.filter_append]
  cases h : ltS text kn n p k <;> simp [h]
section
variable {κ : Type} [DecidableEq κ] {lt : κ → κ → Bool} {kd : Kd κ}
theorem seek_plain (hl : Lin lt) {L : Vn κ} (hs : Sd lt L) {key : Int} {tx : ByteArray} {W : List SPr} (hW : W = (L.drop (place lt L (kd.key key tx))).map fun e => kd.pair e.1 e.2) :
    (runQ lt kd L (seekMs key tx (W.length + 1))).2.length = W.length + 2 ∧ (∀ (i : Nat) (hi : i < W.length), ∃ a b, (runQ lt kd L (seekMs key tx (W.length + 1))).2[i + 1]? = some a ∧ (runQ lt kd L (seekMs key tx (W.length + 1))).2[i]? = some b ∧ a.pair = W[i] ∧ a.ok = true ∧ b.done = false) ∧
      (runQ lt kd L (seekMs key tx (W.length + 1))).2[W.length + 1]? = some ⟨zeroP, false, true⟩ := by
  have hp := place_le (lt := lt) L (kd.key key tx)
  rw [seek_run]
  simp only
  generalize place lt L (kd.key key tx) = p at *
  have hl : W.length = L.length - p := by rw [hW, List.length_map, List.length_drop]
  refine ⟨by rw [seekAn_len], fun i hi => ?_, ?_⟩
  · obtain ⟨a, b, h1, h2, h3, h4, h5⟩ := seekAn_get (kd := kd) hp (i := i) (by omega)
    rw [← hl] at h1 h2
    refine ⟨a, b, h1, h2, ?_, h4, h5⟩
    rw [h3]
    simp only [hW, List.getElem_map, List.getElem_drop]
  · have := seekAn_last (kd := kd) hp
    rw [← hl] at this
    exact this
end
theorem seek_facts (hk : k.text.size ≤ 100) : (walkOf text kn n ps (seekMs (keyOf text k).key (keyOf text k).text ((wantOf text kn n k (itemsOf text kn n ps)).length + 1))).length = (wantOf text kn n k (itemsOf text kn n ps)).length + 2 ∧
    (∀ (i : Nat) (hi : i < (wantOf text kn n k (itemsOf text kn n ps)).length), ∃ a b, (walkOf text kn n ps (seekMs (keyOf text k).key (keyOf text k).text ((wantOf text kn n k (itemsOf text kn n ps)).length + 1)))[i + 1]? = some a ∧
      (walkOf text kn n ps (seekMs (keyOf text k).key (keyOf text k).text ((wantOf text kn n k (itemsOf text kn n ps)).length + 1)))[i]? = some b ∧ a.pair = (wantOf text kn n k (itemsOf text kn n ps))[i] ∧ a.ok = true ∧ b.done = false) ∧
    (walkOf text kn n ps (seekMs (keyOf text k).key (keyOf text k).text ((wantOf text kn n k (itemsOf text kn n ps)).length + 1)))[(wantOf text kn n k (itemsOf text kn n ps)).length + 1]? = some ⟨zeroP, false, true⟩ := by
  cases text with
  | true =>
    have hsd : Sd (T.ordI kn n) (putAll (T.ordI kn n) [] (ps.map T.kd.kv)) := putAll_sd T.ordI_lin _ List.Pairwise.nil
    refine seek_plain (kd := T.kd) T.ordI_lin hsd ?_
    show ((putAll (T.ordI kn n) [] (ps.map T.kd.kv)).map fun e => T.kd.pair e.1 e.2).filter _ = _
    rw [List.filter_map]
    congr 1
    rw [← filter_place T.ordI_lin hsd]
    congr 1
    funext e
    show (!ltS true kn n (T.kd.pair e.1 e.2) k) = !T.ordI kn n e.1 (T.tk k.text)
    unfold ltS T.ordI
    rw [if_pos rfl, T.tk_val (by omega)]; rfl
  | false =>
    have hsd : Sd (I.ordI kn n) (putAll (I.ordI kn n) [] (ps.map I.kd.kv)) := putAll_sd I.ordI_lin _ List.Pairwise.nil
    refine seek_plain (kd := I.kd) I.ordI_lin hsd ?_
    show ((putAll (I.ordI kn n) [] (ps.map I.kd.kv)).map fun e => I.kd.pair e.1 e.2).filter _ = _
    rw [List.filter_map]
    congr 1
    rw [← filter_place I.ordI_lin hsd]
    rfl
theorem lt_key {p : SPr} : ltS text kn n p (keyOf text k) = ltS text kn n p k := by cases text <;> rfl
theorem apWS : apOf Tryz.prog 74 = some (73, 3, 32) := by kernel_rfl
theorem lit_ws (s : WSt) : sliceLit Tryz.prog 74 1 [(0, .agg s.cells.toArray)] = some (73, s.cells.toArray) := lit_74_1
theorem law_seek (h1 : Row w a1 (ps.flatMap SPr.cells)) (n1 : -9223372036854775808 ≤ n) (n2 : n ≤ 9223372036854775807) (hK : ∀ w', Frm (fun _ => False) w w' → K (.bool true) w') :
    Calls Tryz.prog 11 #[.bool text, orderV kn n, .slice a1 ps.length c1, .agg k.cells.toArray] w (ret K Kp) := by
  refine vc11_calls ?_
  delta vc11
  refine op_box_ok fun w1 k1 z1 b1 => op_box_ok fun w2 k2 z2 b2 => ?_
  simp only [orderV, cells_agg] at b1
  simp only [cells_agg] at b2
  have hx2 : (#[.int .u8 kn, .int .i64 n] : Array Value).extract 0 2 = #[.int .u8 kn, .int .i64 n] := rfl
  have hx : ∀ k : SPr, k.cells.toArray.extract 0 3 = k.cells.toArray := fun k => extract_self (by simp [SPr.cells])
  have hs3 : ∀ k : SPr, 3 ≤ k.cells.length := fun k => Nat.le_refl _
  have k12 := k1.no k2
  have b1 := k2.get b1 fun h => h
  simp only [call_19]
  refine fits6_ok (h1.frame k12 fun _ _ h => h) fun b w3 k3 _ => ?_
  have k13 := k12.no k3
  cases b with
  | false =>
    simp only [op_not, Bool.not_false, Br_true]
    exact hK w3 k13
  | true =>
  have b13 := k3.get b1 fun h => h
  have b23 := k3.get b2 fun h => h
  simp [-getElem?_pos, -Array.getElem?_eq_getElem, -Int.natCast_add, -op_alloc_49, -op_st_49, -op_st_2, -op_st_9, -op_lit_74_1, -op_lit_46_1, b23, hx, hs3]
  refine fits7_ok fun b w4 k4 => ?_
  have k14 := k13.no k4
  have b14 := k4.get b13 fun h => h
  have b24 := k4.get b23 fun h => h
  cases b with
  | false =>
    simp [-getElem?_pos, -Array.getElem?_eq_getElem, -Int.natCast_add, -op_alloc_49, -op_st_49, -op_st_2, -op_st_9, -op_lit_74_1, -op_lit_46_1]
    exact hK w4 k14
  | true =>
  simp [-getElem?_pos, -Array.getElem?_eq_getElem, -Int.natCast_add, -op_alloc_49, -op_st_49, -op_st_2, -op_st_9, -op_lit_74_1, -op_lit_46_1, b14, hx2]
  refine pairsRight_ok (kn := kn) (n := n) (h1.frame k14 fun _ _ h => h) fun b w5 k5 hb => ?_
  have k15 := k14.no k5
  have b15 := k5.get b14 fun h => h
  have b25 := k5.get b24 fun h => h
  cases b with
  | false =>
    simp [-getElem?_pos, -Array.getElem?_eq_getElem, -Int.natCast_add, -op_alloc_49, -op_st_49, -op_st_2, -op_st_9, -op_lit_74_1, -op_lit_46_1]
    exact awake_ok fun w6 k6 => hK w6 (k15.no k6)
  | true =>
  obtain ⟨hR, hn, ht⟩ := hb rfl
  simp only [SPr.cells] at b25
  simp [-getElem?_pos, -Array.getElem?_eq_getElem, -Int.natCast_add, -op_alloc_49, -op_st_49, -op_st_2, -op_st_9, -op_lit_74_1, -op_lit_46_1, b25]
  refine ⟨fun _ => awake_ok fun w6 k6 => hK w6 (k15.no k6), fun hp100 => ?_⟩
  have hp100 : k.text.size ≤ 100 := by omega
  have hlo := lt_of_get b15
  have hlo2 := lt_of_get b25
  have n1s := k1.size
  obtain ⟨J, hJ⟩ : ∃ J : World → Prop, ∀ wz, J wz ↔ Frm (· = w1.heap.size) w5 wz ∧ wz.heap[w1.heap.size]? = some (.cells (keyOf text k).cells.toArray 45 (0, 0)) := ⟨_, fun _ => Iff.rfl⟩
  refine Jn.intro J ⟨fun e => ?_, fun e => ?_, ?_⟩
  · subst e
    refine op_store_ok (by kernel_rfl) b25 (by simp) rfl fun w6 k6 z6 b6 => ?_
    exact (hJ _).2 ⟨k6, by simpa [keyOf, SPr.cells] using b6⟩
  · subst e
    refine op_store_ok (by kernel_rfl) b25 (by simp) rfl fun w6 k6 z6 b6 => ?_
    exact (hJ _).2 ⟨k6, by simpa [keyOf, SPr.cells] using b6⟩
  intro w6 h6
  obtain ⟨k6, b26⟩ := (hJ _).1 h6
  have b16 := k6.get b15 (by omega)
  have k16 : Frm (fun _ => False) w w6 := k15.old k6 fun c hc => .inr (by omega)
  have ht' : (keyOf text k).text.size ≤ 100 := by cases text; exact Nat.zero_le _; exact hp100
  have hfacts := seek_facts (text := text) (kn := kn) (n := n) (ps := ps) (k := k) hp100
  have hil := items_len (text := text) (kn := kn) (n := n) (ps := ps)
  clear h6 hJ J b25 b24 b23 b2 b14 b13 b15 b1
  simp [-getElem?_pos, -Array.getElem?_eq_getElem, -Int.natCast_add, -op_alloc_49, -op_st_49, -op_st_2, -op_st_9, -op_lit_74_1, -op_lit_46_1, b16, hx2]
  refine sortedItems_ok (text := text) (kn := kn) (n := n) n1 n2 (h1.frame k16 fun _ _ h => h) hn ht fun v7 w7 k7 hv7 => ?_
  have k17 := k16.no k7
  have b17 := k7.get b16 fun h => h
  have b27 := k7.get b26 fun h => h
  have b27' := b27
  simp only [SPr.cells] at b27'
  simp [-getElem?_pos, -Array.getElem?_eq_getElem, -Int.natCast_add, -op_alloc_49, -op_st_49, -op_st_2, -op_st_9, -op_lit_74_1, -op_lit_46_1, b27']
  have e0 : (#[.int .u8 4, .int .i64 (keyOf text k).key, .string (keyOf text k).text] : Array Value) = (⟨4, (keyOf text k).key, (keyOf text k).text⟩ : WSt).cells.toArray := by simp [WSt.cells]
  rw [e0]
  refine op_lit_ok (lit_ws _) fun w8 k8 z8 b8 => ?_
  have n7 := k17.size
  have hlt7 := lt_of_get b17
  have n8 := k8.size
  have hm8 : RowsOf (Flat WSt.cells) w8 w7.heap.size 73 3 (.slice (some ⟨w7.heap.size, 0, none⟩) 1 1) (seekMs (keyOf text k).key (keyOf text k).text 0) (fun _ => False) := by
    exact FRow.of_rw (ys := seekMs (keyOf text k).key (keyOf text k).text 0) WSt.len (Rw.lit (n := 1) rfl (by decide) b8) (Nat.le_refl _) (Nat.le_refl _)
  have hv8 := hv7.still k8
  have k18 := k17.no k8
  have b18 := k8.get b17 fun h => h
  have b28 := k8.get b27 fun h => h
  obtain ⟨a7, c7, rfl, _, _, hr8, _⟩ := hv8
  generalize itemsOf text kn n ps = xs at *
  generalize hS : w7.heap.size = S at *
  simp [-getElem?_pos, -Array.getElem?_eq_getElem, -Int.natCast_add, -op_alloc_49, -op_st_49, -op_st_2, -op_st_9, -op_lit_74_1, -op_lit_46_1]
  obtain ⟨II, hI⟩ : ∃ II : Value → KV, ∀ l v wl, II l v wl ↔ ∃ i : Nat, v = .int .i64 i ∧ i ≤ xs.length ∧ Frm (fun _ => False) w8 wl ∧ RowsOf (Flat SPr.cells) wl w8.heap.size 49 3 l (wantOf text kn n k (xs.take i)) (fun _ => False) := ⟨_, fun _ _ _ => Iff.rfl⟩
  refine Lp.intro II (fun _ v _ => xs.length - nOf v) ⟨(hI _ _ _).2 ⟨0, rfl, by omega, Frm.refl, rows_nil⟩, ?_⟩
  intro wl l v hv
  obtain ⟨i, rfl, hi, kl, hR1⟩ := (hI _ _ _).1 hv
  simp only [op_lss, Br_dec]
  refine ⟨fun hlt => ?_, fun hge => ?_⟩
  · have hi' : i < xs.length := by omega
    have htk : xs.take (i + 1) = xs.take i ++ [xs[i]] := List.take_succ_eq_append_getElem hi'
    have hwl : (wantOf text kn n k (xs.take i)).length ≤ i := Nat.le_trans (List.length_filter_le _ _) (by rw [List.length_take]; omega)
    obtain ⟨b, o, cs, e, fz, rfl, q1, q2, q3⟩ := (hr8.frame kl fun _ _ h => h).part SPr.len (by decide) hi'
    simp [-getElem?_pos, -Array.getElem?_eq_getElem, -Int.natCast_add, -op_alloc_49, -op_st_49, -op_st_2, -op_st_9, -op_lit_74_1, -op_lit_46_1, q1, q2, q3]
    refine ⟨hi', ?_⟩
    refine op_alloc_ok (z := .agg #[.int .i64 0, .string ByteArray.empty, .int .i64 0]) (by kernel_rfl) fun w9 k9 z9 b9 => ?_
    simp only [cells_agg] at b9
    refine op_storeN_ok (n := 3) (by kernel_rfl) b9 rfl (by decide) (by simp [SPr.cells]) fun w10 k10 z10 b10 => ?_
    have b10 : w10.heap[wl.heap.size]? = some (.cells xs[i].cells.toArray 49 (0, 0)) := by
      rw [ow_all (by simp [SPr.cells])] at b10; exact b10
    have k910 : Frm (fun _ => False) wl w10 := k9.old k10 fun c hc => .inr (by omega)
    have c1' := (kl.no k910).get b18 fun h => h
    have c2' := (kl.no k910).get b28 fun h => h
    simp [-getElem?_pos, -Array.getElem?_eq_getElem, -Int.natCast_add, -op_alloc_49, -op_st_49, -op_st_2, -op_st_9, -op_lit_74_1, -op_lit_46_1, c1', c2', hx2, hx, hs3, b10]
    refine compareS_ok (text := text) hR fun w11 k11 => ?_
    have b11 := k11.get b10 fun h => h
    have hR11 := (hR1.still (flat_ok _) k910).still (flat_ok _) k11
    have k1011 := kl.no (k910.no k11)
    have nl := (kl.no (k910.no k11)).size
    have e1 : IntKind.i64.wrap ((i : Int) + 1) = ((i + 1 : Nat) : Int) := by rw [IntKind.wrap_i64]; omega
    have hcm : (0 ≤ cmpS text kn n xs[i] (keyOf text k)) ↔ ltS text kn n xs[i] k = false := by
      rw [← lt_key (k := k)]
      unfold cmpS
      cases ltS text kn n xs[i] (keyOf text k) with
      | true => simp
      | false => cases ltS text kn n (keyOf text k) xs[i] <;> simp
    simp [-getElem?_pos, -Array.getElem?_eq_getElem, -Int.natCast_add, -op_alloc_49, -op_st_49, -op_st_2, -op_st_9, -op_lit_74_1, -op_lit_46_1, b11, hx, hs3]
    refine ⟨fun hc => ?_, fun hc => ?_⟩
    · rw [hcm] at hc
      refine op_push (u := xs[i].cells) (y := xs[i]) (G2 := fun _ => False) (flat_ok SPr.cells) I.apSP (I.lit_sp _) rfl (SPr.one _) hR11 rfl (fun _ h => h.elim) (fun _ _ h => h) (by omega) (by omega) fun l' w12 k12 hR12 ho12 => ?_
      have hlow := hR11.own_lt
      try simp [-getElem?_pos, -Array.getElem?_eq_getElem, -Int.natCast_add, -op_alloc_49, -op_st_49, -op_st_2, -op_st_9, -op_lit_74_1, -op_lit_46_1]
      rw [e1]
      refine ⟨(hI _ _ _).2 ⟨i + 1, rfl, by omega, k1011.old k12 fun c hc => .inr (hlow c hc.symm).1, ?_⟩, by simp only [nOf_int]; omega⟩
      rw [htk, want_snoc, hc]
      exact hR12.mono (flat_ok _) (fun _ h => h.elim id fun h => h) (fun _ h => h.elim) fun _ _ h => h
    · have hc : ¬ 0 ≤ cmpS text kn n xs[i] (keyOf text k) := by omega
      rw [hcm] at hc
      have hc : ltS text kn n xs[i] k = true := by simpa using hc
      try simp [-getElem?_pos, -Array.getElem?_eq_getElem, -Int.natCast_add, -op_alloc_49, -op_st_49, -op_st_2, -op_st_9, -op_lit_74_1, -op_lit_46_1]
      rw [e1]
      refine ⟨(hI _ _ _).2 ⟨i + 1, rfl, by omega, k1011, ?_⟩, by simp only [nOf_int]; omega⟩
      rw [htk, want_snoc, hc, if_pos rfl, List.append_nil]
      exact hR11
  have hie : i = xs.length := by omega
  subst hie
  rw [List.take_length] at hR1
  have hWl : (wantOf text kn n k xs).length ≤ 1000 := Nat.le_trans (List.length_filter_le _ _) (by omega)
  obtain ⟨f1, f2, f3⟩ := hfacts
  generalize wantOf text kn n k xs = W at *
  have hlowW := hR1.own_lt
  have hWf := hR1.flat
  obtain ⟨aW, cW, rfl, _⟩ := id hWf
  have eW : IntKind.i64.wrap ((W.length : Int) + 1) = ((W.length + 1 : Nat) : Int) := by rw [IntKind.wrap_i64]; omega
  simp [-getElem?_pos, -Array.getElem?_eq_getElem, -Int.natCast_add, -op_alloc_49, -op_st_49, -op_st_2, -op_st_9, -op_lit_74_1, -op_lit_46_1, eW]
  clear hI II hv
  obtain ⟨II, hI⟩ : ∃ II : Value → KV, ∀ l v wq, II l v wq ↔ ∃ i : Nat, v = .int .i64 i ∧ i ≤ W.length + 1 ∧ Frm (· = S) wl wq ∧ Frm (fun _ => False) w wq ∧ (∀ b, l.ownBlock = some b → b = S ∨ wl.heap.size ≤ b) ∧ RowsOf (Flat WSt.cells) wq S 73 3 l (seekMs (keyOf text k).key (keyOf text k).text i) (fun _ => False) := ⟨_, fun _ _ _ => Iff.rfl⟩
  have k1l := k18.no kl
  have hS8 : S ≤ w8.heap.size := by omega
  have nl := kl.size
  have hml : RowsOf (Flat WSt.cells) wl S 73 3 (.slice (some ⟨S, 0, none⟩) 1 1) (seekMs (keyOf text k).key (keyOf text k).text 0) (fun _ => False) := hm8.still (flat_ok _) kl
  refine Lp.intro II (fun _ v _ => W.length + 1 - nOf v) ⟨(hI _ _ _).2 ⟨0, rfl, by omega, Frm.refl, k1l, fun b hb => .inl (Option.some.inj hb).symm, hml⟩, ?_⟩
  intro wq l v hv
  obtain ⟨i, rfl, hi, kq, kwq, hown, hM⟩ := (hI _ _ _).1 hv
  have nq := kq.size
  simp only [op_lss, Br_dec]
  refine ⟨fun hlt => ?_, fun hge => ?_⟩
  · have hi' : i < W.length + 1 := by omega
    have hlow := hM.own_lt
    have e1 : IntKind.i64.wrap ((i : Int) + 1) = ((i + 1 : Nat) : Int) := by rw [IntKind.wrap_i64]; omega
    have e2 : (#[.int .u8 2, .int .i64 0, .string ByteArray.empty] : Array Value) = (⟨2, 0, ByteArray.empty⟩ : WSt).cells.toArray := by simp [WSt.cells]
    try simp [-getElem?_pos, -Array.getElem?_eq_getElem, -Int.natCast_add, -op_alloc_49, -op_st_49, -op_st_2, -op_st_9, -op_lit_74_1, -op_lit_46_1]
    rw [e2]
    generalize hs2 : (⟨2, 0, ByteArray.empty⟩ : WSt) = s2 at *
    refine op_push (u := s2.cells) (y := s2) (G2 := fun _ => False) (flat_ok WSt.cells) apWS (lit_ws _) rfl (WSt.one _) hM rfl (fun _ h => h.elim) (fun _ _ h => h) (by rw [seekMs_len]; omega) (by omega) fun l' w12 k12 hM12 ho12 => ?_
    try simp [-getElem?_pos, -Array.getElem?_eq_getElem, -Int.natCast_add, -op_alloc_49, -op_st_49, -op_st_2, -op_st_9, -op_lit_74_1, -op_lit_46_1]
    rw [e1]
    refine ⟨(hI _ _ _).2 ⟨i + 1, rfl, by omega, kq.old k12 fun c hc => hown c hc.symm, kwq.old k12 fun c hc => .inr (by have := (hlow c hc.symm).1; omega), fun b hb => ?_, ?_⟩, by simp only [nOf_int]; omega⟩
    · rcases ho12 with h | ⟨q, h, h'⟩
      · rw [h] at hb; exact hown b hb
      · rw [h] at hb; have := Option.some.inj hb; exact .inr (by omega)
    rw [seekMs_snoc, hs2]
    exact hM12.mono (flat_ok _) (fun _ h => h.elim id fun h => h) (fun _ h => h.elim) fun _ _ h => h
  have hie : i = W.length + 1 := by omega
  subst hie
  have hMf := hM.flat
  obtain ⟨aM, cM, rfl, _, _, hrM, _⟩ := hMf
  have bq := kq.get (kl.get b18 fun h => h) (by omega)
  have hWq := hWf.frame kq fun b hb he => by have := hlowW b hb; omega
  clear hI II hv hM hml hm8 hWf hR1 hr8 hlowW hown b28 b18 b8 b27 b17 b16 b26 hv7
  simp [-getElem?_pos, -Array.getElem?_eq_getElem, -Int.natCast_add, -op_alloc_49, -op_st_49, -op_st_2, -op_st_9, -op_lit_74_1, -op_lit_46_1, bq, hx2]
  refine toPairs_ok (h1.frame (kwq.no (Frm.drew wq)) fun _ _ h => h) hn fun lp w13 k13' hP => ?_
  have k13' := Frm.dr k13'
  have b13 := k13'.get bq fun h => h
  obtain ⟨aP, cP, rfl, _, _, hrP, _⟩ := hP.flat
  simp [-getElem?_pos, -Array.getElem?_eq_getElem, -Int.natCast_add, -op_alloc_49, -op_st_49, -op_st_2, -op_st_9, -op_lit_74_1, -op_lit_46_1, b13, hx2]
  have hmm : ∀ m ∈ seekMs (keyOf text k).key (keyOf text k).text (W.length + 1), (m.op = 2 ∨ m.op = 4) ∧ m.text.size ≤ 100 := fun m hm => by
    rcases List.mem_cons.1 hm with rfl | hm
    · exact ⟨.inr rfl, ht'⟩
    · rw [(List.mem_replicate.1 hm).2]; exact ⟨.inl rfl, Nat.zero_le _⟩
  refine walk_ok (text := text) (kn := kn) (n := n) (ps := ps) n1 n2 hrP (hrM.frame k13' fun _ _ h => h) ht hmm hn (by rw [seekMs_len]; omega) fun la w14 k14 hA => ?_
  have k1314 := kwq.no (k13'.no k14)
  simp only [pur_ext2_0, pur_ext2_1]
  refine awake_ok fun w15 k15 => ?_
  have k115 := k1314.no k15
  have hA15 := hA.still (flat_ok _) k15
  have hW15 := (hWq.still (k13'.no k14)).still k15
  have hml : (seekMs (keyOf text k).key (keyOf text k).text (W.length + 1)).length = W.length + 2 := seekMs_len
  rw [hml]
  generalize walkOf text kn n ps (seekMs (keyOf text k).key (keyOf text k).text (W.length + 1)) = A at *
  obtain ⟨aW', cW', he, _, _, hrW, _⟩ := hW15
  cases he
  obtain ⟨aA, cA, rfl, _⟩ := hA15.slice
  simp [-getElem?_pos, -Array.getElem?_eq_getElem, -Int.natCast_add, -op_alloc_49, -op_st_49, -op_st_2, -op_st_9, -op_lit_74_1, -op_lit_46_1, f1]
  have getA : ∀ {j : Nat} (hj : j < A.length) {wl : World}, Frm (fun _ => False) w15 wl → ∃ g cs, aA = some ⟨g, 0, none⟩ ∧ wl.heap[g]? = some (.cells cs 80 (0, 0)) ∧ j * 5 + 3 ≤ cs.size ∧ cs.extract (j * 5) (j * 5 + 3) = A[j].pair.cells.toArray ∧ cs[j * 5 + 3]? = some (.bool A[j].ok) ∧ cs[j * 5 + 4]? = some (.bool A[j].done) := fun {j} hj {wl} hf => by
    obtain ⟨u, g, c, cs, he, hg, hu, h3, h4, h5, hue⟩ := (hA15.still (flat_ok _) hf).get hj
    cases he
    have hue : u = A[j].cells := hue
    subst hue
    refine ⟨g, cs, rfl, hg, by omega, ?_, by rw [h3 3 (by decide)]; rfl, by rw [h3 4 (by decide)]; rfl⟩
    have : cs.extract (j * 5) (j * 5 + 3) = (cs.extract (j * 5) (j * 5 + 5)).extract 0 3 := by
      rw [Array.extract_extract]
      congr 1; omega
    rw [this, h5]; rfl
  have hA0 : A.length = W.length + 2 := f1
  obtain ⟨II, hI⟩ : ∃ II : KV, ∀ v wl, II v wl ↔ ∃ i : Nat, v = .int .i64 i ∧ i ≤ W.length ∧ Frm (fun _ => False) w15 wl := ⟨_, fun _ _ => Iff.rfl⟩
  refine Lp.intro II (fun v _ => W.length - nOf v) ⟨(hI _ _).2 ⟨0, rfl, by omega, Frm.refl⟩, ?_⟩
  intro wr v hv
  obtain ⟨i, rfl, hi, kr⟩ := (hI _ _).1 hv
  simp only [op_lss, Br_dec]
  refine ⟨fun hlt => ?_, fun hge => ?_⟩
  · have hi' : i < W.length := by omega
    obtain ⟨b1', o1, cs1, e1', f1', rfl, q1, q2, q3⟩ := (hrW.frame kr fun _ _ h => h).part SPr.len (by decide) hi'
    have e1 : IntKind.i64.wrap ((i : Int) + 1) = ((i + 1 : Nat) : Int) := by rw [IntKind.wrap_i64]; omega
    simp [-getElem?_pos, -Array.getElem?_eq_getElem, -Int.natCast_add, -op_alloc_49, -op_st_49, -op_st_2, -op_st_9, -op_lit_74_1, -op_lit_46_1, q1, q2, q3]
    refine ⟨hi', ?_⟩
    refine op_alloc_ok (z := .agg #[.int .i64 0, .string ByteArray.empty, .int .i64 0]) (by kernel_rfl) fun w8 k8 z8 b8 => ?_
    simp only [cells_agg] at b8
    refine op_storeN_ok (n := 3) (by kernel_rfl) b8 rfl (by decide) (by simp [SPr.cells]) fun w9 k9 z9 b9 => ?_
    have b9 : w9.heap[wr.heap.size]? = some (.cells W[i].cells.toArray 49 (0, 0)) := by
      rw [ow_all (by simp [SPr.cells])] at b9; exact b9
    have k9' := kr.no (k8.old k9 fun c hc => .inr (by omega))
    obtain ⟨xa, xb, hxa, hxb, hxp, hxo, hxd⟩ := f2 i hi'
    obtain ⟨hl1, rfl⟩ := List.getElem?_eq_some_iff.1 hxa
    obtain ⟨hl2, rfl⟩ := List.getElem?_eq_some_iff.1 hxb
    obtain ⟨g, cs, rfl, t1, t2, t3, t4, t5⟩ := getA hl1 k9'
    obtain ⟨g', cs', he, u1, u2, u3, u4, u5⟩ := getA hl2 k9'
    cases he
    rw [t1] at u1
    cases u1
    rw [hxp] at t3
    rw [hxo] at t4
    rw [hxd] at u5
    simp [-getElem?_pos, -Array.getElem?_eq_getElem, -Int.natCast_add, -op_alloc_49, -op_st_49, -op_st_2, -op_st_9, -op_lit_74_1, -op_lit_46_1, e1, t1, t2, t3, t4, u5, b9, hx, hs3]
    refine ⟨by omega, ?_⟩
    refine pur_neq_spr (by kernel_rfl) (by kernel_rfl) ?_
    rw [decide_eq_true rfl]
    simp [-getElem?_pos, -Array.getElem?_eq_getElem, -Int.natCast_add, -op_alloc_49, -op_st_49, -op_st_2, -op_st_9, -op_lit_74_1, -op_lit_46_1, e1, t1, t2, t3, t4, u5, b9, hx, hs3]
    exact ⟨by omega, by omega, (hI _ _).2 ⟨i + 1, rfl, by omega, k9'.no (Frm.drew _)⟩, by simp only [nOf_int]; omega⟩
  · have hie : i = W.length := by omega
    subst hie
    have hl1 : W.length + 1 < A.length := by omega
    obtain ⟨g, cs, rfl, t1, t2, t3, t4, t5⟩ := getA hl1 kr
    have hlast : A[W.length + 1] = ⟨zeroP, false, true⟩ := by
      have := List.getElem?_eq_getElem hl1
      rw [f3] at this
      exact (Option.some.inj this).symm
    rw [hlast] at t4 t5
    have e2 : IntKind.i64.wrap (((W.length + 2 : Nat) : Int) - 1) = ((W.length + 1 : Nat) : Int) := by rw [IntKind.wrap_i64]; omega
    have := hK wr (k115.no kr)
    simp [-getElem?_pos, -Array.getElem?_eq_getElem, -Int.natCast_add, -op_alloc_49, -op_st_49, -op_st_2, -op_st_9, -op_lit_74_1, -op_lit_46_1, hA0, e2, t1, t4, t5]
    exact this
end Go.Proofs.YtodjijfblgnfmaaGreatDoor
end
