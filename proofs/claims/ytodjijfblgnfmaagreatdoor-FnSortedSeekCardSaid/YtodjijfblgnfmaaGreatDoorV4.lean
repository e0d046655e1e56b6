import Derived.Test.YtodjijfblgnfmaaGreatDoorV3
import Derived.Tactics
import Derived.Tactics2
import Derived.Defers
import Derived.Recover
import Derived.Laws.Pointers
import Derived.Test.YtodjijfblgnfmaaGreatDoorV2
import Derived.Test.YtodjijfblgnfmaaGreatDoorV0
import Derived.ProofKit
import Derived.WideKeyArgs
import Derived.Deep.Slices
import Derived.Carry
import Derived.LaidMore
import Derived.OpenShut
import Derived.Stop.Joined
import Derived.Test.YtodjijfblgnfmaaGreatDoorRows
import Derived.Test.YtodjijfblgnfmaaGreatDoorCards
import Derived.Test.YtodjijfblgnfmaaGreatDoorTie
set_option linter.unusedSimpArgs false
set_option linter.unusedVariables false
set_option linter.unusedSectionVars false
set_option maxRecDepth 100000
set_option maxHeartbeats 4000000
section
namespace Go.Proofs.YtodjijfblgnfmaaGreatDoor.T
open Go.Vc Go.Proofs Go.Proofs.YtodjijfblgnfmaaGreatDoor Go.Vc.Bt
variable {w w' : World} {v cv : Value} {K : KV} {Kp : KP} {lt : Ky → Ky → Bool} {ib mb b : Nat} {L : List (Ky × Vl)} {cs cs' : Array Value} {s : Tr} {n N : Nat} {M : Nat → Prop}
theorem call_key {args : List Value} : nP.call (.val (.func (.func 75) #[] #[])) args w K Kp = Calls Tryz.prog 75 args.toArray w (ret K Kp) := by
  rw [call_val (by kernel_rfl)]; simp
theorem call_many {args : List Value} : nP.call (.val (.func (.func 76) #[] #[])) args w K Kp = Calls Tryz.prog 76 args.toArray w (ret K Kp) := by
  rw [call_val (by kernel_rfl)]; simp
theorem call_pair {args : List Value} : nP.call (.val (.func (.func 78) #[] #[])) args w K Kp = Calls Tryz.prog 78 args.toArray w (ret K Kp) := by
  rw [call_val (by kernel_rfl)]; simp
theorem sortedRun_ok {a2 : Option Addr} {c2 : Nat} {steps : List SSt} (hC : CmpOk cv lt none) (hl : Lin lt) (h2 : Row w a2 (steps.flatMap SSt.cells)) (hs : ∀ s ∈ steps, s.text.size ≤ 100) (hc : scost steps < 2 ^ 30)
    (hD : (∃ s ∈ steps, s.op = 1 ∨ s.op = 6) → DelOk lt) (hG : (∃ s ∈ steps, s.op = 2) → GetOk lt) (hB : (∃ s ∈ steps, s.op = 4) → BackOk lt) (hM : (∃ s ∈ steps, s.op = 5 ∨ s.op = 6) → ManyOk w)
    (hK : ∀ l w' G, Frm (fun _ => False) w w' → RowsOf ElA w' w.heap.size 56 4 l (runS lt kd steps).2 G → K l w') :
    Calls Tryz.prog 39 #[kdV, cv, .slice a2 steps.length c2] w (ret K Kp) := by
  have hE := flat_ok (fun b : Nat => [ptr b])
  refine vc39_calls ?_
  delta vc39
  refine op_box_ok fun w1 k1 z1 b1 => ?_
  simp only [kdV, cells_agg] at b1
  simp only [call_64]
  refine new_ok hC fun w2 mb k2 hmb hM2 => ?_
  have n1 := k1.size
  have n2 := k2.size
  refine op_row1 (base := w1.heap.size) (El := Flat fun b => [ptr b]) (u := [ptr mb]) (y := mb) (G2 := fun _ => False) hE apO (lit_120_1 rfl) rfl rfl (fun _ h => h.elim) (by omega) fun l3 w3 k3 hR3 ho3 => ?_
  have k13 := k2.no k3
  obtain ⟨a3, c3, rfl, _⟩ := hR3.slice
  simp [-getElem?_pos, -Array.getElem?_eq_getElem, -Int.natCast_add, -op_lit_46_1, -op_lit_28_1, -op_lit_120_1, -op_alloc_54, -op_alloc_56, -op_st_54, -op_st_2, -op_st_3, -op_st_4, -op_st_46]
  obtain ⟨I, hI⟩ : ∃ I : Value → Value → KV, ∀ l out v wl, I l out v wl ↔ ∃ (i : Nat) (bs : List Nat) (G : Nat → Prop), v = .int .i64 i ∧ i ≤ steps.length ∧ Frm (fun _ => False) w1 wl ∧
      RowsOf (Flat fun b => [ptr b]) wl w1.heap.size 118 1 l bs (fun _ => False) ∧ bs.length = (runS lt kd (steps.take i)).1.length ∧
      (∀ (j b : Nat) (L : List (Ky × Vl)), bs[j]? = some b → (runS lt kd (steps.take i)).1[j]? = some L → Ver wl b lt (scost (steps.take i)) L) ∧
      RowsOf ElA wl w1.heap.size 56 4 out (runS lt kd (steps.take i)).2 G ∧ ∀ c, G c → ∃ cs, wl.heap[c]? = some (.cells cs 49 (0, 0)) := ⟨_, fun _ _ _ _ => Iff.rfl⟩
  refine Lp.intro I (fun _ _ v _ => steps.length - nOf v) ⟨(hI _ _ _ _).2 ⟨0, [mb], fun _ => False, rfl, by omega, k13, hR3, by simp [runS], fun j b L hb hL => ?_, rows_nil, fun _ h => h.elim⟩, ?_⟩
  · cases j with
    | zero =>
      simp [runS] at hb hL
      subst hb hL
      exact ⟨none, hM2.still k3, trivial, rfl⟩
    | succ j => simp at hb
  intro wl l out v hlv
  obtain ⟨i, bs, G, rfl, hi, kl, hR, hbl, hV, hO, hGt⟩ := (hI _ _ _ _).1 hlv
  clear hlv hR3 hM2 k13 k3
  simp only [op_lss, Br_dec]
  refine ⟨fun hlt' => ?_, fun hnl' => ?_⟩
  rotate_left
  · have : i = steps.length := by omega
    subst this
    rw [List.take_length] at hO
    exact hK out wl G (k1.no kl) (hO.base_le n1)
  have hi' : i < steps.length := by omega
  have htk : steps.take (i + 1) = steps.take i ++ [steps[i]] := List.take_succ_eq_append_getElem hi'
  have hmem : steps[i] ∈ steps := List.getElem_mem hi'
  have hctk := scost_take steps (i + 1)
  have hsl := scost_len steps
  have hlenr := runS_len (lt := lt) (kd := kd) (steps.take i)
  have hle := runS_le (lt := lt) (kd := kd) (steps.take i)
  have hsnoc := runS_snoc (lt := lt) (kd := kd) (steps.take i) steps[i]
  rw [← htk] at hsnoc
  rw [htk, scost_snoc] at hctk
  have hcsn := scost_snoc (steps.take i) steps[i]
  rw [← htk] at hcsn
  rw [List.length_take] at hlenr
  obtain ⟨bp, o, cs, e, fz, rfl, hcs, hsz, hext⟩ := (h2.frame (k1.no kl) (fun _ _ h => h)).part SSt.len (by decide) hi'
  have hst := hs _ hmem
  have hD' : steps[i].op = 1 ∨ steps[i].op = 6 → DelOk lt := fun h => hD ⟨_, hmem, h⟩
  have hG' : steps[i].op = 2 → GetOk lt := fun h => hG ⟨_, hmem, h⟩
  have hB' : steps[i].op = 4 → BackOk lt := fun h => hB ⟨_, hmem, h⟩
  have hM' : steps[i].op = 5 ∨ steps[i].op = 6 → ManyOk w := fun h => hM ⟨_, hmem, h⟩
  generalize steps[i] = s at *
  generalize hvs : runS lt kd (steps.take i) = vs at *
  obtain ⟨vs, an⟩ := vs
  simp only at hbl hV hO hlenr hle
  generalize hNn : scost (steps.take i) = N at *
  have hq : atV s vs.length < vs.length := atV_lt hlenr.1
  have hqb : atV s bs.length < bs.length := by rw [hbl]; exact hq
  have bk := kl.get b1 fun h => h
  have nl := kl.size
  have hlow := hR.own_lt
  have hlowO := hO.own_lt
  simp [-getElem?_pos, -Array.getElem?_eq_getElem, -Int.natCast_add, -op_lit_46_1, -op_lit_28_1, -op_lit_120_1, -op_alloc_54, -op_alloc_56, -op_st_54, -op_st_2, -op_st_3, -op_st_4, -op_st_46, hcs, hsz, hext]
  refine ⟨hi', ?_⟩
  refine op_alloc_ok (z := .agg #[.int .u8 0, .int .i64 0, .int .i64 0, .string ByteArray.empty, .int .i64 0, .int .i64 0, .int .i64 0]) (by kernel_rfl) fun w5 k5 z5 b5 => ?_
  simp only [cells_agg] at b5
  refine op_storeN_ok (n := 7) (by kernel_rfl) b5 rfl (by decide) (by simp [SSt.cells]) fun w6 k6 z6 b6 => ?_
  have b6 : w6.heap[wl.heap.size]? = some (.cells s.cells.toArray 54 (0, 0)) := by
    rw [ow_all (by simp [SSt.cells])] at b6; simpa [SSt.cells] using b6
  simp only [SSt.cells] at b6
  have k56 : Frm (fun _ => False) wl w6 := k5.old k6 fun c hc => .inr (by omega)
  have hR6 := hR.still hE k56
  obtain ⟨u, g, c, cur, hlg, hg1, hu, hg3, hg4, hg5, hub⟩ := hR6.get hqb
  cases hlg
  have hub : u = [ptr bs[atV s bs.length]] := hub
  subst hub
  have hg0 : cur[atV s bs.length]? = some (ptr bs[atV s bs.length]) := by have := hg3 0 (by decide); simpa using this
  obtain ⟨L0, hL0⟩ : ∃ L0, vs[atV s bs.length]? = some L0 := ⟨_, List.getElem?_eq_getElem (by omega)⟩
  have hV6 := (hV _ _ _ (List.getElem?_eq_getElem hqb) hL0).still k56
  have hL0N : L0.length ≤ N := hle _ (List.mem_of_getElem? hL0)
  have hsd := hV6.sd
  generalize hbv : bs[atV s bs.length] = bv at *
  simp [-getElem?_pos, -Array.getElem?_eq_getElem, -Int.natCast_add, -op_lit_46_1, -op_lit_28_1, -op_lit_120_1, -op_alloc_54, -op_alloc_56, -op_st_54, -op_st_2, -op_st_3, -op_st_4, -op_st_46, b6]
  refine at_ok (by omega) (by omega) ?_
  have hat : ((s.fro % (bs.length : Int)).toNat) = atV s bs.length := rfl
  rw [hat]
  simp [-getElem?_pos, -Array.getElem?_eq_getElem, -Int.natCast_add, -op_lit_46_1, -op_lit_28_1, -op_lit_120_1, -op_alloc_54, -op_alloc_56, -op_st_54, -op_st_2, -op_st_3, -op_st_4, -op_st_46, hg1, hg0]
  refine ⟨hqb, ?_⟩
  refine op_alloc_ok (z := .agg #[.int .i64 0, .int .i64 0, .bool false, .slice none 0 0]) (by kernel_rfl) fun wA kA zA bA => ?_
  simp only [cells_agg] at bA
  have k6A : Frm (fun _ => False) wl wA := k56.no kA
  have bS := kA.get b6 fun h => h
  have bK := k6A.get bk fun h => h
  have hVA := hV6.still kA
  have hlS := lt_of_get b6
  have nA := k6A.size
  have hne : ¬ wl.heap.size = w6.heap.size := by omega
  have hneK : ¬ w.heap.size = w6.heap.size := by omega
  generalize hab : w6.heap.size = ab at *
  obtain ⟨J, hJ⟩ : ∃ J : KV, ∀ e wz, J e wz ↔ ∃ b' pv, e = ptr b' ∧ Mid lt s N L0 ab wA wz b' pv := ⟨_, fun _ _ => Iff.rfl⟩
  refine Jn.intro J ⟨?_, ?_⟩
  · have hz : ∀ {wz : World} {b' : Nat} {m : List (Ky × Vl)}, newV lt kd s L0 = some m → Frm (fun _ => False) wA wz → Ver wz b' lt (N + s.cost) m → J (ptr b') wz := fun {wz b' m} hm hf hv => by
      have e : midA lt s L0 = zeroA := by unfold midA; rw [hm]; rfl
      refine (hJ _ _).2 ⟨b', .slice none 0 0, rfl, hf.to fun _ h => h.elim, by rw [hm]; exact hv, ?_, ?_, fun c hc => nomatch hc⟩
      · rw [e]; exact hf.get bA fun h => h
      · rw [e]; exact IsSl.nil
    have hx3 : (#[.func (.func 75) #[] #[], .func (.func 76) #[] #[], .func (.func 78) #[] #[]] : Array Value).extract 0 3 = #[.func (.func 75) #[] #[], .func (.func 76) #[] #[], .func (.func 78) #[] #[]] := rfl
    have hc1 : 1 ≤ s.cost := by unfold SSt.cost; omega
    have hdr := hVA.still (Frm.drew wA)
    by_cases h0 : s.op = 0
    · simp [-getElem?_pos, -Array.getElem?_eq_getElem, -Int.natCast_add, -op_lit_46_1, -op_lit_28_1, -op_lit_120_1, -op_alloc_54, -op_alloc_56, -op_st_54, -op_st_2, -op_st_3, -op_st_4, -op_st_46, bS, bK, h0, call_key]
      refine key_ok hst ?_
      try simp [-getElem?_pos, -Array.getElem?_eq_getElem, -Int.natCast_add, -op_lit_46_1, -op_lit_28_1, -op_lit_120_1, -op_alloc_54, -op_alloc_56, -op_st_54, -op_st_2, -op_st_3, -op_st_4, -op_st_46, bS]
      refine ver_set hl hdr (by omega) fun w7 b' k7 v7 => ?_
      exact hz (by unfold newV; rw [if_pos h0]) (Frm.dr k7) (v7.mono (by omega))
    by_cases h1 : s.op = 1
    · simp [-getElem?_pos, -Array.getElem?_eq_getElem, -Int.natCast_add, -op_lit_46_1, -op_lit_28_1, -op_lit_120_1, -op_alloc_54, -op_alloc_56, -op_st_54, -op_st_2, -op_st_3, -op_st_4, -op_st_46, bS, bK, h1, call_key]
      refine key_ok hst ?_
      try simp [-getElem?_pos, -Array.getElem?_eq_getElem, -Int.natCast_add, -op_lit_46_1, -op_lit_28_1, -op_lit_120_1, -op_alloc_54, -op_alloc_56, -op_st_54, -op_st_2, -op_st_3, -op_st_4, -op_st_46, bS]
      refine hD' (.inl h1) hVA (by omega) fun w7 b' k7 v7 => ?_
      exact hz (by unfold newV; rw [if_neg h0, if_pos h1]) k7 (v7.mono (by omega))
    by_cases h5 : s.op = 5
    · simp [-getElem?_pos, -Array.getElem?_eq_getElem, -Int.natCast_add, -op_lit_46_1, -op_lit_28_1, -op_lit_120_1, -op_alloc_54, -op_alloc_56, -op_st_54, -op_st_2, -op_st_3, -op_st_4, -op_st_46, bS, h5]
      obtain ⟨I2, hI2⟩ : ∃ I2 : Value → KV, ∀ m v wz, I2 m v wz ↔ ∃ j b' : Nat, m = ptr b' ∧ v = .int .i64 j ∧ j ≤ s.count.toNat ∧ Frm (fun _ => False) wA wz ∧ Ver wz b' lt (N + j) (putN lt kd s j L0) := ⟨_, fun _ _ _ => Iff.rfl⟩
      refine Lp.intro I2 (fun _ v _ => s.count.toNat - nOf v) ⟨(hI2 _ _ _).2 ⟨0, bv, rfl, rfl, by omega, Frm.refl, hVA⟩, ?_⟩
      intro wz m v hm
      obtain ⟨j, b', rfl, rfl, hj, kz, vz⟩ := (hI2 _ _ _).1 hm
      have bSz := kz.get bS fun h => h
      have bKz := kz.get bK fun h => h
      have hpl := putN_le (lt := lt) (kd := kd) s L0 j
      have hcost : s.cost = 1 + s.count.toNat := rfl
      have hx7 : (#[.int .u8 s.op, .int .i64 s.fro, .int .i64 s.key, .string s.text, .int .i64 s.value, .int .i64 s.count, .int .i64 s.by'] : Array Value).extract 0 7 = s.cells.toArray := rfl
      simp [-getElem?_pos, -Array.getElem?_eq_getElem, -Int.natCast_add, -op_lit_46_1, -op_lit_28_1, -op_lit_120_1, -op_alloc_54, -op_alloc_56, -op_st_54, -op_st_2, -op_st_3, -op_st_4, -op_st_46, bSz]
      refine ⟨fun hlt2 => ?_, fun hge => ?_⟩
      · simp [-getElem?_pos, -Array.getElem?_eq_getElem, -Int.natCast_add, -op_lit_46_1, -op_lit_28_1, -op_lit_120_1, -op_alloc_54, -op_alloc_56, -op_st_54, -op_st_2, -op_st_3, -op_st_4, -op_st_46, bSz, bKz, call_many, hx7]
        refine hM' (.inl h5) hst ((k1.no kl).no (k6A.no (kz.no (Frm.drew _)))) fun w7 k7 => ?_
        have bS7 := (Frm.dr k7).get bSz fun h => h
        simp [-getElem?_pos, -Array.getElem?_eq_getElem, -Int.natCast_add, -op_lit_46_1, -op_lit_28_1, -op_lit_120_1, -op_alloc_54, -op_alloc_56, -op_st_54, -op_st_2, -op_st_3, -op_st_4, -op_st_46, bS7]
        refine ver_set hl (vz.still (Frm.dr k7)) (by omega) fun w8 b8 k8 v8 => ?_
        rw [show IntKind.i64.wrap ((j : Int) + 1) = ((j + 1 : Nat) : Int) from by rw [IntKind.wrap_i64]; omega]
        refine ⟨(hI2 _ _ _).2 ⟨j + 1, b8, rfl, rfl, by omega, kz.no ((Frm.dr k7).no k8), v8⟩, by simp only [nOf_int]; omega⟩
      · have : j = s.count.toNat := by omega
        subst this
        exact hz (by unfold newV; rw [if_neg h0, if_neg h1, if_pos h5]) kz (vz.mono (by omega))
    by_cases h6 : s.op = 6
    · simp [-getElem?_pos, -Array.getElem?_eq_getElem, -Int.natCast_add, -op_lit_46_1, -op_lit_28_1, -op_lit_120_1, -op_alloc_54, -op_alloc_56, -op_st_54, -op_st_2, -op_st_3, -op_st_4, -op_st_46, bS, h6]
      obtain ⟨I2, hI2⟩ : ∃ I2 : Value → KV, ∀ m v wz, I2 m v wz ↔ ∃ j b' : Nat, m = ptr b' ∧ v = .int .i64 j ∧ j ≤ s.count.toNat ∧ Frm (fun _ => False) wA wz ∧ Ver wz b' lt N (remN lt kd s j L0) := ⟨_, fun _ _ _ => Iff.rfl⟩
      refine Lp.intro I2 (fun _ v _ => s.count.toNat - nOf v) ⟨(hI2 _ _ _).2 ⟨0, bv, rfl, rfl, by omega, Frm.refl, hVA⟩, ?_⟩
      intro wz m v hm
      obtain ⟨j, b', rfl, rfl, hj, kz, vz⟩ := (hI2 _ _ _).1 hm
      have bSz := kz.get bS fun h => h
      have bKz := kz.get bK fun h => h
      have hpl := remN_le (lt := lt) (kd := kd) s L0 j
      have hcost : s.cost = 1 + s.count.toNat := rfl
      have hx7 : (#[.int .u8 s.op, .int .i64 s.fro, .int .i64 s.key, .string s.text, .int .i64 s.value, .int .i64 s.count, .int .i64 s.by'] : Array Value).extract 0 7 = s.cells.toArray := rfl
      simp [-getElem?_pos, -Array.getElem?_eq_getElem, -Int.natCast_add, -op_lit_46_1, -op_lit_28_1, -op_lit_120_1, -op_alloc_54, -op_alloc_56, -op_st_54, -op_st_2, -op_st_3, -op_st_4, -op_st_46, bSz]
      refine ⟨fun hlt2 => ?_, fun hge => ?_⟩
      · simp [-getElem?_pos, -Array.getElem?_eq_getElem, -Int.natCast_add, -op_lit_46_1, -op_lit_28_1, -op_lit_120_1, -op_alloc_54, -op_alloc_56, -op_st_54, -op_st_2, -op_st_3, -op_st_4, -op_st_46, bSz, bKz, call_many, hx7]
        refine hM' (.inr h6) hst ((k1.no kl).no (k6A.no kz)) fun w7 k7 => ?_
        have bS7 := k7.get bSz fun h => h
        try simp [-getElem?_pos, -Array.getElem?_eq_getElem, -Int.natCast_add, -op_lit_46_1, -op_lit_28_1, -op_lit_120_1, -op_alloc_54, -op_alloc_56, -op_st_54, -op_st_2, -op_st_3, -op_st_4, -op_st_46, bS7]
        refine hD' (.inr h6) (vz.still k7) (by omega) fun w8 b8 k8 v8 => ?_
        try simp [-getElem?_pos, -Array.getElem?_eq_getElem, -Int.natCast_add, -op_lit_46_1, -op_lit_28_1, -op_lit_120_1, -op_alloc_54, -op_alloc_56, -op_st_54, -op_st_2, -op_st_3, -op_st_4, -op_st_46]
        rw [show IntKind.i64.wrap ((j : Int) + 1) = ((j + 1 : Nat) : Int) from by rw [IntKind.wrap_i64]; omega]
        refine ⟨(hI2 _ _ _).2 ⟨j + 1, b8, rfl, rfl, by omega, kz.no (k7.no k8), v8⟩, by simp only [nOf_int]; omega⟩
      · have : j = s.count.toNat := by omega
        subst this
        exact hz (by unfold newV; rw [if_neg h0, if_neg h1, if_neg h5, if_pos h6]) kz (vz.mono (by omega))
    have hnone : newV lt kd s L0 = none := by unfold newV; rw [if_neg h0, if_neg h1, if_neg h5, if_neg h6]
    have hmid : midA lt s L0 = ansV lt kd s L0 := by unfold midA; rw [hnone]; rfl
    have hn : ∀ {wz : World} {pv : Value}, Frm (· = ab) wA wz → wz.heap[ab]? = some (.cells #[.int .i64 (ansV lt kd s L0).value, .int .i64 (ansV lt kd s L0).n, .bool (ansV lt kd s L0).ok, pv] 56 (0, 0)) → IsSl wz pv (ansV lt kd s L0).list.length ((ansV lt kd s L0).list.flatMap SPr.cells) →
        (∀ c, pv.ownBlock = some c → wA.heap.size ≤ c ∧ ∃ cs, wz.heap[c]? = some (.cells cs 49 (0, 0))) → J (ptr bv) wz := fun {wz pv} hf hcell hrow hown => by
      refine (hJ _ _).2 ⟨bv, pv, rfl, hf, ?_, by rw [hmid]; exact hcell, by rw [hmid]; exact hrow, hown⟩
      rw [hnone]
      exact (hVA.quiet (quiet_ans bA) hf).mono (by omega)
    by_cases h2' : s.op = 2
    · simp [-getElem?_pos, -Array.getElem?_eq_getElem, -Int.natCast_add, -op_lit_46_1, -op_lit_28_1, -op_lit_120_1, -op_alloc_54, -op_alloc_56, -op_st_54, -op_st_2, -op_st_3, -op_st_4, -op_st_46, bS, bK, h2', call_key]
      refine key_ok hst ?_
      try simp [-getElem?_pos, -Array.getElem?_eq_getElem, -Int.natCast_add, -op_lit_46_1, -op_lit_28_1, -op_lit_120_1, -op_alloc_54, -op_alloc_56, -op_st_54, -op_st_2, -op_st_3, -op_st_4, -op_st_46, bS]
      refine hG' h2' hVA fun w7 k7 => ?_
      have b7 := k7.get bA fun h => h
      cases hgg : got lt L0 (kd.key s.key s.text) with
      | none =>
        have ea : ansV lt kd s L0 = zeroA := by unfold ansV; rw [if_pos h2', hgg]
        simp [-getElem?_pos, -Array.getElem?_eq_getElem, -Int.natCast_add, -op_lit_46_1, -op_lit_28_1, -op_lit_120_1, -op_alloc_54, -op_alloc_56, -op_st_54, -op_st_2, -op_st_3, -op_st_4, -op_st_46, gotV]
        refine op_store_ok (by kernel_rfl) b7 (by decide) rfl fun w8 k8 z8 b8 => ?_
        refine op_store_ok (by kernel_rfl) b8 (by decide) rfl fun w9 k9 z9 b9 => ?_
        refine hn ((k7.fst k8).trans k9 fun _ h _ => h) (pv := .slice none 0 0) (by rw [ea]; simpa [zeroA, zv] using b9) (by rw [ea]; exact IsSl.nil) fun c hc => nomatch hc
      | some x =>
        have ea : ansV lt kd s L0 = ⟨x, 0, true, []⟩ := by unfold ansV; rw [if_pos h2', hgg]
        simp [-getElem?_pos, -Array.getElem?_eq_getElem, -Int.natCast_add, -op_lit_46_1, -op_lit_28_1, -op_lit_120_1, -op_alloc_54, -op_alloc_56, -op_st_54, -op_st_2, -op_st_3, -op_st_4, -op_st_46, gotV]
        refine op_store_ok (by kernel_rfl) b7 (by decide) rfl fun w8 k8 z8 b8 => ?_
        refine op_store_ok (by kernel_rfl) b8 (by simp) rfl fun w9 k9 z9 b9 => ?_
        refine hn ((k7.fst k8).trans k9 fun _ h _ => h) (pv := .slice none 0 0) (by rw [ea]; simpa [ev] using b9) (by rw [ea]; exact IsSl.nil) fun c hc => nomatch hc
    by_cases h3 : s.op = 3
    · have ea : ansV lt kd s L0 = ⟨0, L0.length, false, prs L0⟩ := by unfold ansV; rw [if_neg h2', if_pos h3]; rfl
      simp [-getElem?_pos, -Array.getElem?_eq_getElem, -Int.natCast_add, -op_lit_46_1, -op_lit_28_1, -op_lit_120_1, -op_alloc_54, -op_alloc_56, -op_st_54, -op_st_2, -op_st_3, -op_st_4, -op_st_46, bS, bK, h3, hx3]
      refine ver_iter hdr (by omega) fun w7 ib k7 hib hA7 => ?_
      have k7 := Frm.dr k7
      have bK7 := k7.get bK fun h => h
      have n7 := k7.size
      have hib : wA.heap.size ≤ ib := hib
      simp [-getElem?_pos, -Array.getElem?_eq_getElem, -Int.natCast_add, -op_lit_46_1, -op_lit_28_1, -op_lit_120_1, -op_alloc_54, -op_alloc_56, -op_st_54, -op_st_2, -op_st_3, -op_st_4, -op_st_46, bK7, hx3]
      refine pairsOf_ok hA7 (by omega) fun pv w8 k8 hR8 => ?_
      rw [restOf_zero] at hR8
      have k78 : Frm (fun _ => False) wA w8 := k7.old k8 fun c hc => .inr (by omega)
      have b8 := k78.get bA fun h => h
      try simp [-getElem?_pos, -Array.getElem?_eq_getElem, -Int.natCast_add, -op_lit_46_1, -op_lit_28_1, -op_lit_120_1, -op_alloc_54, -op_alloc_56, -op_st_54, -op_st_2, -op_st_3, -op_st_4, -op_st_46]
      refine ver_len (hVA.still k78) ?_
      refine op_store_ok (by kernel_rfl) b8 (by decide) hR8.one fun w9 k9 z9 b9 => ?_
      try simp [-getElem?_pos, -Array.getElem?_eq_getElem, -Int.natCast_add, -op_lit_46_1, -op_lit_28_1, -op_lit_120_1, -op_alloc_54, -op_alloc_56, -op_st_54, -op_st_2, -op_st_3, -op_st_4, -op_st_46]
      refine op_store_ok (by kernel_rfl) b9 (by simp) rfl fun w10 k10 z10 b10 => ?_
      have k810 : Frm (· = ab) w8 w10 := k9.trans k10 fun _ h _ => h
      have hlow8 := hR8.own_lt
      have hlA := lt_of_get bA
      refine hn (k78.fst k810) (pv := pv) (by rw [ea]; simpa using b10) ?_ fun c hc => ?_
      · rw [ea]
        exact (hR8.flat).frame k810 fun c hc => by have := hlow8 c hc; omega
      · have hge := hlow8 c hc
        obtain ⟨cs', hcs'⟩ := rows_ty hR8 c hc
        exact ⟨by omega, cs', k810.get hcs' (by omega)⟩
    by_cases h4 : s.op = 4
    · have ea : ansV lt kd s L0 = ⟨0, L0.length, false, prs L0.reverse⟩ := by unfold ansV; rw [if_neg h2', if_neg h3, if_pos h4]; rfl
      obtain ⟨hLast, hPrev⟩ := hB' h4
      simp [-getElem?_pos, -Array.getElem?_eq_getElem, -Int.natCast_add, -op_lit_46_1, -op_lit_28_1, -op_lit_120_1, -op_alloc_54, -op_alloc_56, -op_st_54, -op_st_2, -op_st_3, -op_st_4, -op_st_46, bS, h4]
      refine ver_len hVA ?_
      refine op_store_ok (by kernel_rfl) bA (by decide) rfl fun w7 k7 z7 b7 => ?_
      have b7 : w7.heap[ab]? = some (.cells #[.int .i64 0, .int .i64 L0.length, .bool false, .slice none 0 0] 56 (0, 0)) := by simpa using b7
      have hlA := lt_of_get bA
      have hV7 := hVA.quiet (quiet_ans bA) k7
      try simp [-getElem?_pos, -Array.getElem?_eq_getElem, -Int.natCast_add, -op_lit_46_1, -op_lit_28_1, -op_lit_120_1, -op_alloc_54, -op_alloc_56, -op_st_54, -op_st_2, -op_st_3, -op_st_4, -op_st_46]
      refine ver_iter hV7 (by omega) fun w8 ib k8 hib hA8 => ?_
      try simp [-getElem?_pos, -Array.getElem?_eq_getElem, -Int.natCast_add, -op_lit_46_1, -op_lit_28_1, -op_lit_120_1, -op_alloc_54, -op_alloc_56, -op_st_54, -op_st_2, -op_st_3, -op_st_4, -op_st_46]
      have hV8 := hV7.still k8
      have hib2 := hA8.below
      have n7 := k7.size
      have n8 := k8.size
      refine hLast hA8 hV8 (by omega) fun w9 k9 hA9 => ?_
      have n9 := k9.size
      have b9 := k9.get (k8.get b7 fun h => h) (by omega)
      have bK9 := k9.get (k8.get (k7.get bK hneK) fun h => h) (by omega)
      obtain ⟨I2, hI2⟩ : ∃ I2 : World → Prop, ∀ wz, I2 wz ↔ ∃ (q : Option Nat) (D : List (Ky × Vl)) (pv : Value), D ++ backOf L0 q = L0.reverse ∧ Frm (fun c => c = ab ∨ c = ib) w9 wz ∧ At wz ib bv L0 q ∧ (∀ x, q = some x → x < L0.length) ∧
          wz.heap[ab]? = some (.cells #[.int .i64 0, .int .i64 L0.length, .bool false, pv] 56 (0, 0)) ∧ RowsOf (Flat SPr.cells) wz w9.heap.size 49 3 pv (prs D) (fun _ => False) := ⟨_, fun _ => Iff.rfl⟩
      try simp [-getElem?_pos, -Array.getElem?_eq_getElem, -Int.natCast_add, -op_lit_46_1, -op_lit_28_1, -op_lit_120_1, -op_alloc_54, -op_alloc_56, -op_st_54, -op_st_2, -op_st_3, -op_st_4, -op_st_46]
      refine Lp.intro I2 (fun wz => L0.length - lenAt wz ab 3) ⟨(hI2 _).2 ⟨_, [], _, backOf_last, Frm.refl, hA9, fun x hx => ?_, b9, rows_nil⟩, ?_⟩
      · split at hx
        · cases hx
        · cases hx; omega
      intro wz hm
      obtain ⟨q, D, pv, hDL, kz, hAz, hqz, bz, hRz⟩ := (hI2 _).1 hm
      have nz := kz.size
      have bKz := kz.get bK9 (by omega)
      have hlowz := hRz.own_lt
      refine done_ok hAz ?_
      match q, hAz, hDL, hqz with
      | none, hAz, hDL, hqz =>
        simp [-getElem?_pos, -Array.getElem?_eq_getElem, -Int.natCast_add, -op_lit_46_1, -op_lit_28_1, -op_lit_120_1, -op_alloc_54, -op_alloc_56, -op_st_54, -op_st_2, -op_st_3, -op_st_4, -op_st_46]
        rw [show D = L0.reverse from by rw [← hDL]; simp [backOf]] at hRz
        have k9z : Frm (fun c => c = ab ∨ c = ib) w7 wz := ((k8.to fun _ h => h.elim).trans (k9.to fun _ h => .inr h) fun _ h _ => h).trans kz fun _ h _ => h
        have kAz : Frm (· = ab) wA wz := (k7.to (M' := fun c => c = ab ∨ c = ib) fun _ h => .inl h).trans k9z (fun _ h _ => h) |>.mono fun c hc hl => by
          rcases hc with h | h
          · exact h
          · omega
        refine hn kAz (pv := pv) (by rw [ea]; exact bz) (by rw [ea]; exact hRz.flat) fun c hc => ?_
        have := hlowz c hc
        exact ⟨by omega, rows_ty hRz c hc⟩
      | some q, hAz, hDL, hqz =>
        have hql := hqz q rfl
        have hget : L0[q]? = some L0[q] := List.getElem?_eq_getElem hql
        simp [-getElem?_pos, -Array.getElem?_eq_getElem, -Int.natCast_add, -op_lit_46_1, -op_lit_28_1, -op_lit_120_1, -op_alloc_54, -op_alloc_56, -op_st_54, -op_st_2, -op_st_3, -op_st_4, -op_st_46]
        refine hPrev hAz fun w10 k10 e he hA10 => ?_
        have e2 : e = L0[q] := Option.some.inj (he.symm.trans hget)
        subst e2
        have n10 := k10.size
        have bK10 := k10.get bKz (by omega)
        have b10 := k10.get bz (by omega)
        have hR10 := hRz.frame (flat_ok _) k10 (fun _ h => h.elim) fun b hb he => by have := hlowz b hb; omega
        simp [-getElem?_pos, -Array.getElem?_eq_getElem, -Int.natCast_add, -op_lit_46_1, -op_lit_28_1, -op_lit_120_1, -op_alloc_54, -op_alloc_56, -op_st_54, -op_st_2, -op_st_3, -op_st_4, -op_st_46, b10, bK10, call_pair]
        refine pair_ok fun w11 k11 => ?_
        have k11 := Frm.dr k11
        have hR11 := hR10.still (flat_ok _) k11
        have hA11 := hA10.still k11
        have b11 := k11.get b10 fun h => h
        have n11 := k11.size
        have hlen : (prs D).length = D.length := by simp [prs]
        have hDl : D.length + 1 ≤ L0.length := by
          have := congrArg List.length hDL
          rw [backOf_prev hget] at this
          simp only [List.length_append, List.length_cons, List.length_reverse] at this
          omega
        have hlow11 := hR11.own_lt
        have hsame : ∀ {wq : World}, Frm (fun b => some b = pv.ownBlock) w11 wq ∨ Frm (fun _ => False) w11 wq → wq.heap[ab]? = some (.cells #[.int .i64 0, .int .i64 L0.length, .bool false, pv] 56 (0, 0)) := fun {wq} h => by
          rcases h with h | h
          · exact h.get b11 fun he => by have := hlow11 ab he.symm; omega
          · exact h.get b11 fun h => h
        refine ⟨⟨_, ⟨_, _, _, b11⟩, rfl⟩, op_pushQ (lit_sp _) (fun w1 h1 => ⟨_, ⟨_, _, _, hsame (.inr h1)⟩, rfl⟩) ?_⟩
        refine op_push (u := (kd.pair L0[q].1 L0[q].2).cells) (flat_ok SPr.cells) apSP (lit_sp _) rfl (SPr.one _) hR11 rfl (G2 := fun _ => False) (fun _ h => h.elim) (fun _ _ h => h) (by omega) (by omega) fun l' w12 k12 hR12 ho12 => ?_
        have b12 := hsame (.inl k12)
        have n12 := k12.size
        refine op_store_ok (by kernel_rfl) b12 (by simp) hR12.one fun w13 k13 z13 b13 => ?_
        have b13 : w13.heap[ab]? = some (.cells #[.int .i64 0, .int .i64 L0.length, .bool false, l'] 56 (0, 0)) := by simpa using b13
        have hlow12 := hR12.own_lt
        have hA12 := At.keep (rows_off hR11 (by decide)) k12 hA11 (fun he => by have := hlow11 ib he.symm; omega)
        have hA13 := At.keep (quiet_ans b12).node k13 hA12 (by omega)
        have hR13 := (hR12.frame (M := (· = ab)) (flat_ok _) k13 (fun _ h => h.elim (fun h => h.elim) fun h => h.elim) fun b hb he => by have := hlow12 b hb; omega).mono (flat_ok _) (G' := fun _ => False) (fun _ h => h.elim id fun h => h) (fun _ h => h.elim) fun _ _ h => h
        refine ⟨(hI2 _).2 ⟨if 0 < q then some (q - 1) else none, D ++ [L0[q]], l', ?_, ?_, hA13, fun x hx => ?_, b13, ?_⟩, ?_⟩
        · rw [← hDL, backOf_prev hget, List.append_assoc]; rfl
        · refine (((kz.trans (k10.to fun _ h => .inr h) fun _ h _ => h).trans (k11.to fun _ h => h.elim) fun _ h _ => h).old k12 fun c hc => .inr (hlow11 c hc.symm).1).trans (k13.to fun _ h => .inl h) fun _ h _ => h
        · split at hx
          · cases hx; omega
          · cases hx
        · rw [show prs (D ++ [L0[q]]) = prs D ++ [kd.pair L0[q].1 L0[q].2] from by simp [prs]]
          exact hR13
        · have e1 : lenAt wz ab 3 = D.length := by
            obtain ⟨a0, c0, rfl, _⟩ := hRz.slice
            simp [lenAt, bz, hlen]
          have e2 : lenAt w13 ab 3 = D.length + 1 := by
            obtain ⟨a0, c0, rfl, _⟩ := hR12.slice
            simp [lenAt, b13, hlen]
          rw [e1, e2]; omega
    have ea : ansV lt kd s L0 = zeroA := by unfold ansV; rw [if_neg h2', if_neg h3, if_neg h4, hnone]
    have g0 : ¬ (s.op : Int) = 0 := by omega
    have g1 : ¬ (s.op : Int) = 1 := by omega
    have g2 : ¬ (s.op : Int) = 2 := by omega
    have g3 : ¬ (s.op : Int) = 3 := by omega
    have g4 : ¬ (s.op : Int) = 4 := by omega
    have g5 : ¬ (s.op : Int) = 5 := by omega
    have g6 : ¬ (s.op : Int) = 6 := by omega
    simp [-getElem?_pos, -Array.getElem?_eq_getElem, -Int.natCast_add, -op_lit_46_1, -op_lit_28_1, -op_lit_120_1, -op_alloc_54, -op_alloc_56, -op_st_54, -op_st_2, -op_st_3, -op_st_4, -op_st_46, bS, h0, g1, g2, g3, g4, g5, g6]
    exact hn (pv := .slice none 0 0) Frm.refl (by rw [ea]; exact bA) (by rw [ea]; exact IsSl.nil) fun c hc => nomatch hc
  · intro w9 m hm
    obtain ⟨b', pv, rfl, hmid⟩ := (hJ _ _).1 hm
    obtain ⟨kf, hv, hcell, hrow, hown⟩ := hmid
    have hlA := lt_of_get bA
    have bS9 := kf.get bS hne
    have n9 := kf.size
    have hisn := newV_some (lt := lt) (kd := kd) s L0
    have k9 : Frm (fun _ => False) wl w9 := k6A.old kf fun c hc => .inr (by omega)
    simp [-getElem?_pos, -Array.getElem?_eq_getElem, -Int.natCast_add, -op_lit_46_1, -op_lit_28_1, -op_lit_120_1, -op_alloc_54, -op_alloc_56, -op_st_54, -op_st_2, -op_st_3, -op_st_4, -op_st_46, bS9]
    obtain ⟨J2, hJ2⟩ : ∃ J2 : KV, ∀ e wz, J2 e wz ↔ e = .bool (newV lt kd s L0).isSome ∧ wz = w9 := ⟨_, fun _ _ => Iff.rfl⟩
    have hj2 : ∀ {c : Bool}, c = (newV lt kd s L0).isSome → J2 (.bool c) w9 := fun {c} h => (hJ2 _ _).2 ⟨by rw [h], rfl⟩
    rw [hisn] at hj2
    refine Jn.intro J2 ⟨fun h0 => hj2 (by simp [h0]), fun h0 => ⟨fun h1 => hj2 ?_, fun h1 => ⟨fun h5 => hj2 ?_, fun h5 => hj2 ?_⟩⟩, ?_⟩
    · have h1 : s.op = 1 := by omega
      simp [h1]
    · have h5 : s.op = 5 := by omega
      simp [h5]
    · have e : ((s.op : Int) = 6) ↔ s.op = 6 := by omega
      have h1 : ¬ s.op = 1 := by omega
      have h5 : ¬ s.op = 5 := by omega
      simp [h0, h1, h5, e]
    intro wz e9 h9
    obtain ⟨rfl, rfl⟩ := (hJ2 _ _).1 h9
    clear h9 hj2 hJ2 J2
    have hone : ∀ u ∈ [Value.int .i64 (midA lt s L0).value, .int .i64 (midA lt s L0).n, .bool (midA lt s L0).ok, pv], u.oneCell' = true := fun u hu => by
      simp only [List.mem_cons, List.not_mem_nil, or_false] at hu
      rcases hu with rfl | rfl | rfl | rfl
      · rfl
      · rfl
      · rfl
      · exact hrow.one
    have hO9 := hO.still elA_ok k9
    have hR9 := hR.still hE k9
    have hcn : (vs ++ (newV lt kd s L0).toList).length ≤ vs.length + 1 := by cases newV lt kd s L0 <;> simp
    have hone1 : oneS lt kd (vs, an) s = (vs ++ (newV lt kd s L0).toList, an ++ [ansV lt kd s L0]) := by
      unfold oneS
      rw [← hbl, hL0]; rfl
    rw [hone1] at hsnoc
    have hla : an.length = i := by omega
    cases hnw : newV lt kd s L0 with
    | none =>
      have hmd : midA lt s L0 = ansV lt kd s L0 := by unfold midA; rw [hnw]; rfl
      rw [hnw] at hsnoc hv
      simp only [Option.toList_none, List.append_nil] at hsnoc
      have hx4 : (#[.int .i64 (midA lt s L0).value, .int .i64 (midA lt s L0).n, .bool (midA lt s L0).ok, pv] : Array Value).extract 0 4 = #[.int .i64 (midA lt s L0).value, .int .i64 (midA lt s L0).n, .bool (midA lt s L0).ok, pv] := rfl
      simp [-getElem?_pos, -Array.getElem?_eq_getElem, -Int.natCast_add, -op_lit_46_1, -op_lit_28_1, -op_lit_120_1, -op_alloc_54, -op_alloc_56, -op_st_54, -op_st_2, -op_st_3, -op_st_4, -op_st_46, hcell, hx4]
      refine op_push (u := [.int .i64 (midA lt s L0).value, .int .i64 (midA lt s L0).n, .bool (midA lt s L0).ok, pv]) (y := ansV lt kd s L0) (G2 := fun c => pv.ownBlock = some c) elA_ok apA (lit_ans _ _ _ _) rfl hone hO9 ⟨pv, by rw [hmd], by rw [← hmd]; exact hrow, fun _ h => h⟩ (fun c hc => ?_) (fun b hb hc => ?_) (by omega) (by omega) fun o' w12 k12 hO12 ho12 => ?_
      · obtain ⟨h1, cs', h2⟩ := hown c hc; have := lt_of_get h2; omega
      · have := (hown b hc).1; have := hlowO b hb; omega
      try simp [-getElem?_pos, -Array.getElem?_eq_getElem, -Int.natCast_add, -op_lit_46_1, -op_lit_28_1, -op_lit_120_1, -op_alloc_54, -op_alloc_56, -op_st_54, -op_st_2, -op_st_3, -op_st_4, -op_st_46]
      rw [show IntKind.i64.wrap ((i : Int) + 1) = ((i + 1 : Nat) : Int) from by rw [IntKind.wrap_i64]; omega]
      have hq12 := rows_quiet hO9 (by decide)
      refine ⟨(hI _ _ _ _).2 ⟨i + 1, bs, fun c => G c ∨ pv.ownBlock = some c, rfl, by omega, (kl.no k9).old k12 fun c hc => .inr (hlowO c hc.symm).1, ?_, ?_, ?_, ?_, ?_⟩, by simp only [nOf_int]; omega⟩
      · refine hR9.frame hE k12 (fun _ h => h.elim) fun b hb he => ?_
        obtain ⟨c1, t1⟩ := rows_ty hR9 b hb
        obtain ⟨c2, t2⟩ := rows_ty hO9 b he.symm
        rw [t1] at t2; cases t2
      · rw [hsnoc]; exact hbl
      · rw [hsnoc]
        intro j b L hb hL
        rw [hcsn]
        exact (((hV j b L hb hL).still k9).quiet hq12 k12).mono (by omega)
      · rw [hsnoc]; exact hO12
      · intro c hc
        rcases hc with hc | hc
        · obtain ⟨cs', h1⟩ := hGt c hc
          refine ⟨cs', k12.get (k9.get h1 fun h => h) fun he => ?_⟩
          obtain ⟨c2, t2⟩ := rows_ty hO9 c he.symm
          have := k9.get h1 fun h => h
          rw [this] at t2; cases t2
        · obtain ⟨h1, cs', h2⟩ := hown c hc
          exact ⟨cs', k12.get h2 fun he => by have := hlowO c he.symm; omega⟩
    | some mm =>
      have hmd : midA lt s L0 = zeroA := by unfold midA; rw [hnw]; rfl
      have han := ansV_new hnw
      rw [hnw] at hsnoc hv
      rw [hmd] at hcell hrow
      simp only [Option.toList_some] at hsnoc
      simp only [Option.getD_some] at hv
      simp [-getElem?_pos, -Array.getElem?_eq_getElem, -Int.natCast_add, -op_lit_46_1, -op_lit_28_1, -op_lit_120_1, -op_alloc_54, -op_alloc_56, -op_st_54, -op_st_2, -op_st_3, -op_st_4, -op_st_46]
      refine ver_len hv ?_
      refine op_store_ok (by kernel_rfl) hcell (by simp) rfl fun w10 k10 z10 b10 => ?_
      have b10 : w10.heap[ab]? = some (.cells #[.int .i64 0, .int .i64 mm.length, .bool false, pv] 56 (0, 0)) := by simpa [zeroA] using b10
      have n10 := k10.size
      have hv10 := hv.quiet (quiet_ans hcell) k10
      have k910 : Frm (fun _ => False) wl w10 := k9.old k10 fun c hc => .inr (by omega)
      have hR10 := hR.still hE k910
      have hO10 := hO.still elA_ok k910
      have hrow10 := hrow.frame k10 fun b hb he => by have := (hown b hb).1; omega
      try simp [-getElem?_pos, -Array.getElem?_eq_getElem, -Int.natCast_add, -op_lit_46_1, -op_lit_28_1, -op_lit_120_1, -op_alloc_54, -op_alloc_56, -op_st_54, -op_st_2, -op_st_3, -op_st_4, -op_st_46]
      refine op_push (u := [ptr b']) (y := b') (G2 := fun _ => False) hE apO (lit_120_1 rfl) rfl (by simp [ptr]) hR10 rfl (fun _ h => h.elim) (fun _ _ h => h) (by omega) (by omega) fun l' w11 k11 hR11 ho11 => ?_
      have n11 := k11.size
      have b11 := k11.get b10 fun he => by have := hlow ab he.symm; omega
      have hqR := rows_quiet hR10 (by decide)
      have hO11 := hO10.frame elA_ok k11 (fun c hc he => by
        obtain ⟨cs', h1⟩ := hGt c hc
        obtain ⟨c2, t2⟩ := rows_ty hR10 c he.symm
        rw [k910.get h1 fun h => h] at t2; cases t2) fun b hb he => by
        obtain ⟨c1, t1⟩ := rows_ty hO10 b hb
        obtain ⟨c2, t2⟩ := rows_ty hR10 b he.symm
        rw [t1] at t2; cases t2
      have hrow11 := hrow10.frame k11 fun b hb he => by have := (hown b hb).1; have := hlow b he.symm; omega
      have hx4 : (#[.int .i64 0, .int .i64 mm.length, .bool false, pv] : Array Value).extract 0 4 = #[.int .i64 0, .int .i64 mm.length, .bool false, pv] := rfl
      simp [-getElem?_pos, -Array.getElem?_eq_getElem, -Int.natCast_add, -op_lit_46_1, -op_lit_28_1, -op_lit_120_1, -op_alloc_54, -op_alloc_56, -op_st_54, -op_st_2, -op_st_3, -op_st_4, -op_st_46, b11, hx4]
      refine op_push (u := [.int .i64 0, .int .i64 mm.length, .bool false, pv]) (y := ansV lt kd s L0) (G2 := fun c => pv.ownBlock = some c) elA_ok apA (lit_ans _ _ _ _) rfl (fun u hu => ?_) hO11 ⟨pv, by rw [han], by rw [han]; exact hrow11, fun _ h => h⟩ (fun c hc => ?_) (fun b hb hc => ?_) (by omega) (by omega) fun o' w12 k12 hO12 ho12 => ?_
      · simp only [List.mem_cons, List.not_mem_nil, or_false] at hu
        rcases hu with rfl | rfl | rfl | rfl
        · rfl
        · rfl
        · rfl
        · exact hrow.one
      · obtain ⟨h1, cs', h2⟩ := hown c hc; have := lt_of_get h2; omega
      · have := (hown b hc).1; have := hlowO b hb; omega
      try simp [-getElem?_pos, -Array.getElem?_eq_getElem, -Int.natCast_add, -op_lit_46_1, -op_lit_28_1, -op_lit_120_1, -op_alloc_54, -op_alloc_56, -op_st_54, -op_st_2, -op_st_3, -op_st_4, -op_st_46]
      rw [show IntKind.i64.wrap ((i : Int) + 1) = ((i + 1 : Nat) : Int) from by rw [IntKind.wrap_i64]; omega]
      have hqO := rows_quiet hO11 (by decide)
      have hlow11 := hR11.own_lt
      have hty11 := rows_ty hR11
      refine ⟨(hI _ _ _ _).2 ⟨i + 1, bs ++ [b'], fun c => G c ∨ pv.ownBlock = some c, rfl, by omega, ((kl.no k910).old k11 fun c hc => .inr (hlow c hc.symm).1).old k12 fun c hc => .inr (hlowO c hc.symm).1, ?_, ?_, ?_, ?_, ?_⟩, by simp only [nOf_int]; omega⟩
      · refine (hR11.frame hE k12 (fun _ h => h.elim (fun h => h.elim) fun h => h.elim) fun b hb he => ?_).mono hE (G' := fun _ => False) (fun _ h => h.elim id fun h => h) (fun _ h => h.elim) fun _ _ h => h
        obtain ⟨c1, t1⟩ := rows_ty hR11 b hb
        obtain ⟨c2, t2⟩ := rows_ty hO11 b he.symm
        rw [t1] at t2; cases t2
      · rw [hsnoc]; simp [hbl]
      · rw [hsnoc]
        intro j b L hb hL
        rw [hcsn]
        by_cases hj : j < bs.length
        · rw [List.getElem?_append_left hj] at hb
          rw [List.getElem?_append_left (by omega)] at hL
          exact ((((hV j b L hb hL).still k910).quiet hqR k11).quiet hqO k12).mono (by omega)
        · rw [List.getElem?_append_right (by omega)] at hb
          rw [List.getElem?_append_right (by omega)] at hL
          have hj0 : j - bs.length = 0 := by
            have := (List.getElem?_eq_some_iff.1 hb).1
            simp at this; omega
          rw [hj0] at hb
          rw [← hbl, hj0] at hL
          simp at hb hL
          subst hb hL
          exact (hv10.quiet hqR k11).quiet hqO k12
      · rw [hsnoc]; exact hO12
      · intro c hc
        rcases hc with hc | hc
        · obtain ⟨cs', h1⟩ := hGt c hc
          have h2 := k910.get h1 fun h => h
          have h3 := k11.get h2 fun he => by
            obtain ⟨c2, t2⟩ := rows_ty hR10 c he.symm
            rw [h2] at t2; cases t2
          refine ⟨cs', k12.get h3 fun he => ?_⟩
          obtain ⟨c2, t2⟩ := rows_ty hO11 c he.symm
          rw [h3] at t2; cases t2
        · obtain ⟨h1, cs', h2⟩ := hown c hc
          have h3 := k10.get h2 (by omega)
          have h4 := k11.get h3 fun he => by have := hlow c he.symm; omega
          exact ⟨cs', k12.get h4 fun he => by have := hlowO c he.symm; omega⟩
end Go.Proofs.YtodjijfblgnfmaaGreatDoor.T
end
section
namespace Go.Proofs.YtodjijfblgnfmaaGreatDoor
open Go.Vc Go.Proofs
theorem catch_panicking (p : Addr) (x : Bool) (u : TypeId) (pv : Value) (older : List PanicEntry) (w : World) (hc : w.cell? p = some (.bool x)) (hz : w.frozen? p = false) :
    CallsD Tryz.prog 63 #[.pointer (some p)] (.panicking ({ v := .iface u pv, recovered := false } :: older)) w fun e u' w' =>
      e = .returned (.tuple #[]) ∧ u' = .panicking ({ v := .iface u pv, recovered := true } :: older) ∧ w' = w.setCell p (.bool true) := by
  refine callsD_of_wpS Tryz.func63 rfl fun c₀ cs hu => ?_
  apply wpS_region
  simp [wpOpsS, go_sem, recoverD, hu, Tryz.ntmps63, Exit.thenS, hc, hz, bodyPostS, results, Tryz.results63]
theorem catch_idle (p : Addr) (x : Bool) (w : World) (hc : w.cell? p = some (.bool x)) (hz : w.frozen? p = false) :
    CallsD Tryz.prog 63 #[.pointer (some p)] .returning w fun e u' w' => e = .returned (.tuple #[]) ∧ u' = .returning ∧ w' = w.setCell p (.bool false) := by
  refine callsD_of_wpS Tryz.func63 rfl fun c₀ cs hu => ?_
  apply wpS_region
  simp [wpOpsS, go_sem, recoverD, hu, Tryz.ntmps63, Exit.thenS, hc, hz, bodyPostS, results, Tryz.results63]
  cases c₀
  simp_all
theorem cell_at {w : World} {b : Nat} {v : Value} (h : w.heap[b]? = some (.cells #[v] 4 (0, 0))) : w.cell? ⟨b, 0, none⟩ = some v := by simp [World.cell?, h]
theorem frozen_at {w : World} {b : Nat} {v : Value} (h : w.heap[b]? = some (.cells #[v] 4 (0, 0))) : w.frozen? ⟨b, 0, none⟩ = false := by simp [World.frozen?, h]
theorem bool_set {w : World} {b : Nat} {v u : Value} (h : w.heap[b]? = some (.cells #[v] 4 (0, 0))) : w.setCell ⟨b, 0, none⟩ u = w.upd b (.cells #[u] 4 (0, 0)) := by
  rw [setCell_upd (p := ⟨b, 0, none⟩) h rfl]; rfl
theorem thrown_ok {f : FuncId} {x y : Array Value} {w : World} {K : KV} {Kp : KP} (hf : callFn Tryz.prog f = true)
    (hcall : Calls Tryz.prog f (x ++ y) (w.alloc (.cells #[.bool false] 4)) (ret (fun _ w' => w'.heap[w.heap.size]? = some (.cells #[.bool false] 4 (0, 0)) ∧ K (.bool false) w')
      (fun ch w' => ∃ u pv, ch = [{ v := .iface u pv, recovered := false }] ∧ w'.heap[w.heap.size]? = some (.cells #[.bool false] 4 (0, 0)) ∧ K (.bool true) (w'.upd w.heap.size (.cells #[.bool true] 4 (0, 0)))))) :
    Calls Tryz.prog 37 #[.func (.func f) x y] w (ret K Kp) := by
  have hmf : ∀ (fn : Fn) (first cap : Array Value) (w : World), (Instr.makeFunc fn first cap).run Tryz.prog w = .ok (.func fn first cap) w := fun _ _ _ _ => rfl
  go_enter_defers Tryz.func37, Tryz.ntmps37
  go_wp2
  rw [callFunc_run hf, Oper.upon_enter]
  refine hcall.mono ?_
  intro e w' he
  cases e with
  | returned v =>
    obtain ⟨hh, hK⟩ := he
    have hc := cell_at hh
    have hz := frozen_at hh
    have hs := fun u => bool_set (u := u) hh
    dsimp only
    go_wp2
    have hid : w'.upd w.heap.size (.cells #[.bool false] 4) = w' := upd_id hh
    rw [hid]
    refine leaves_cons (f := 63) (args := #[.pointer (some ⟨w.heap.size, 0, none⟩)]) (by simp) (by simp [go_sem]) ?_
    refine (catch_idle ⟨w.heap.size, 0, none⟩ false w' hc hz).mono ?_
    rintro e u' w'' ⟨rfl, rfl, rfl⟩
    rw [hs, hid]
    simp [Leaves, settle, results, Tryz.results37, go_sem, hc]
    exact hK
  | panicked ch =>
    obtain ⟨u, pv, rfl, hh, hK⟩ := he
    have hc := cell_at hh
    have hz := frozen_at hh
    have hs := fun u => bool_set (u := u) hh
    have hc2 := cell_at (heap_upd_same (o := .cells #[.bool true] 4 (0, 0)) hh)
    refine leaves_cons (f := 63) (args := #[.pointer (some ⟨w.heap.size, 0, none⟩)]) (by simp) (by simp [go_sem]) ?_
    refine (catch_panicking ⟨w.heap.size, 0, none⟩ false u pv [] w' hc hz).mono ?_
    rintro e u' w'' ⟨rfl, rfl, rfl⟩
    rw [hs]
    simp [Leaves, settle, results, Tryz.results37, go_sem, hc2]
    exact hK
  | outgrown => exact he.elim
end Go.Proofs.YtodjijfblgnfmaaGreatDoor
end
section
namespace Go.Proofs.YtodjijfblgnfmaaGreatDoor
open Go.Vc Go.Proofs Go.Vc.Bt
variable {w w' : World} {K : KV} {Kp : KP} {n : Int} {kn : Nat} {text : Bool}
def orderV (kn : Nat) (n : Int) : Value := .agg #[.int .u8 kn, .int .i64 n]
def ansOf (text : Bool) (kn : Nat) (n : Int) (steps : List SSt) : List SAns := if text then (runS (T.ordI kn n) T.kd steps).2 else (runS (I.ordI kn n) I.kd steps).2
structure Asks (text : Bool) (kn : Nat) (n : Int) (steps : List SSt) (w : World) : Prop where
  texts : ∀ s ∈ steps, s.text.size ≤ 100
  cost : scost steps < 2 ^ 30
  del : (∃ s ∈ steps, s.op = 1 ∨ s.op = 6) → I.DelOk (I.ordI kn n) ∧ T.DelOk (T.ordI kn n)
  get : (∃ s ∈ steps, s.op = 2) → I.GetOk (I.ordI kn n) ∧ T.GetOk (T.ordI kn n)
  back : (∃ s ∈ steps, s.op = 4) → I.BackOk (I.ordI kn n) ∧ T.BackOk (T.ordI kn n)
  many : (∃ s ∈ steps, s.op = 5 ∨ s.op = 6) → text = true → T.ManyOk w
theorem many_still (h : T.ManyOk w) (hf : Frm (fun _ => False) w w') : T.ManyOk w' := fun h1 h2 h3 => h h1 (hf.no h2) h3
theorem closure_ok {a2 : Option Addr} {c2 : Nat} {steps : List SSt} {b0 b1 b2 b3 : Nat} {v3 : Value} (h1 : -9223372036854775808 ≤ n) (h2 : n ≤ 9223372036854775807) (hr : Row w a2 (steps.flatMap SSt.cells)) (ha : Asks text kn n steps w)
    (k0 : w.heap[b0]? = some (.cells #[.bool text] 4 (0, 0))) (k1 : w.heap[b1]? = some (.cells #[.int .u8 kn, .int .i64 n] 31 (0, 0))) (k2 : w.heap[b2]? = some (.cells #[.slice a2 steps.length c2] 32 (0, 0)))
    (k3 : w.heap[b3]? = some (.cells #[v3] 28 (0, 0)))
    (hK : ∀ l w' G, Frm (· = b3) w w' → w'.heap[b3]? = some (.cells #[l] 28 (0, 0)) → RowsOf ElA w' w.heap.size 56 4 l (ansOf text kn n steps) G → K (.tuple #[]) w') :
    Calls Tryz.prog 38 #[.pointer (some ⟨b0, 0, none⟩), .pointer (some ⟨b1, 0, none⟩), .pointer (some ⟨b2, 0, none⟩), .pointer (some ⟨b3, 0, none⟩)] w (ret K Kp) := by
  refine vc38_calls ?_
  delta vc38
  have hx : (#[.int .u8 kn, .int .i64 n] : Array Value).extract 0 2 = #[.int .u8 kn, .int .i64 n] := rfl
  have hfin : ∀ {l : Value} {w9 : World} {G : Nat → Prop}, Frm (fun _ => False) w w9 → RowsOf ElA w9 w.heap.size 56 4 l (ansOf text kn n steps) G →
      nP.op (.store 28 (.pointer (some ⟨b3, 0, none⟩)) l) w9 (fun _ w => K (.tuple #[]) w) Kp := fun {l w9 G} k9 hR => by
    have hl3 := lt_of_get k3
    have hlow := hR.own_lt
    refine op_store_ok (by kernel_rfl) (k9.get k3 fun h => h) (by simp) hR.one fun w10 k10 z10 b10 => ?_
    refine hK l w10 G (k9.fst k10) (by simpa using b10) (hR.frame elA_ok k10 (fun c hc he => by have := (hR.low c hc).1; omega) fun b hb he => by have := (hlow b hb).1; omega)
  cases text with
  | true =>
    simp [-getElem?_pos, -Array.getElem?_eq_getElem, -Int.natCast_add, -op_alloc_28, -op_st_28, k0, k1, k2, hx]
    refine T.keys_ok fun w4 f4 => ?_
    have f4 := Frm.dr f4
    have q1 := f4.get k1 fun h => h
    have q2 := f4.get k2 fun h => h
    simp [-getElem?_pos, -Array.getElem?_eq_getElem, -Int.natCast_add, -op_alloc_28, -op_st_28, q1, q2, hx]
    refine T.comparer_ok h1 h2 fun cv w5 f5 hc => ?_
    have q5 := f5.get q2 fun h => h
    have f45 := f4.no f5
    simp [-getElem?_pos, -Array.getElem?_eq_getElem, -Int.natCast_add, -op_alloc_28, -op_st_28, q5]
    refine T.sortedRun_ok hc T.ordI_lin (hr.frame f45 fun _ _ h => h) ha.texts ha.cost (fun h => (ha.del h).2) (fun h => (ha.get h).2) (fun h => (ha.back h).2) (fun h => many_still (ha.many h rfl) f45) fun l w6 G f6 hR => ?_
    exact hfin (f45.no f6) (hR.base_le f45.size)
  | false =>
    simp [-getElem?_pos, -Array.getElem?_eq_getElem, -Int.natCast_add, -op_alloc_28, -op_st_28, k0, k1, k2, hx]
    refine I.keys_ok fun w4 f4 => ?_
    have f4 := Frm.dr f4
    have q1 := f4.get k1 fun h => h
    have q2 := f4.get k2 fun h => h
    simp [-getElem?_pos, -Array.getElem?_eq_getElem, -Int.natCast_add, -op_alloc_28, -op_st_28, q1, q2, hx]
    refine I.comparer_ok h1 h2 fun cv w5 f5 hc => ?_
    have q5 := f5.get q2 fun h => h
    have f45 := f4.no f5
    simp [-getElem?_pos, -Array.getElem?_eq_getElem, -Int.natCast_add, -op_alloc_28, -op_st_28, q5]
    refine I.sortedRun_ok hc I.ordI_lin (hr.frame f45 fun _ _ h => h) ha.texts ha.cost (fun h => (ha.del h).1) (fun h => (ha.get h).1) (fun h => (ha.back h).1) (fun h => I.many_ok _) fun l w6 G f6 hR => ?_
    exact hfin (f45.no f6) (hR.base_le f45.size)
theorem sorted_ok {a2 : Option Addr} {c2 : Nat} {steps : List SSt} (h1 : -9223372036854775808 ≤ n) (h2 : n ≤ 9223372036854775807) (hr : Row w a2 (steps.flatMap SSt.cells)) (ha : Asks text kn n steps w)
    (hK : ∀ l w' G, Frm (fun _ => False) w w' → RowsOf ElA w' w.heap.size 56 4 l (ansOf text kn n steps) G → K (.tuple #[l, .bool true]) w') :
    Calls Tryz.prog 15 #[.bool text, orderV kn n, .slice a2 steps.length c2] w (ret K Kp) := by
  refine vc15_calls ?_
  delta vc15 orderV
  refine op_box_ok fun w1 k1 z1 b1 => op_box_ok fun w2 k2 z2 b2 => op_box_ok fun w3 k3 z3 b3 => ?_
  rw [cells_of_one (by rfl)] at b1 b3
  simp only [cells_agg] at b2
  refine op_alloc_ok (z := .slice none 0 0) (by kernel_rfl) fun w4 k4 z4 b4 => ?_
  rw [cells_of_one (by rfl)] at b4
  have c1 := k4.get (k3.get (k2.get b1 fun h => h) fun h => h) fun h => h
  have c2' := k4.get (k3.get b2 fun h => h) fun h => h
  have c3 := k4.get b3 fun h => h
  have k04 := ((k1.no k2).no k3).no k4
  simp [-getElem?_pos, -Array.getElem?_eq_getElem, -Int.natCast_add, -op_alloc_28, -op_st_28]
  have k5 : Frm (fun _ => False) w4 (w4.alloc (.cells #[.bool false] 4)) := Frm.alloc _ _
  refine thrown_ok (x := #[]) (by kernel_rfl) ?_
  have k05 := k04.no k5
  rw [show (#[] ++ #[Value.pointer (some ⟨w.heap.size, 0, none⟩), .pointer (some ⟨w1.heap.size, 0, none⟩), .pointer (some ⟨w2.heap.size, 0, none⟩), .pointer (some ⟨w3.heap.size, 0, none⟩)] : Array Value) = #[.pointer (some ⟨w.heap.size, 0, none⟩), .pointer (some ⟨w1.heap.size, 0, none⟩), .pointer (some ⟨w2.heap.size, 0, none⟩), .pointer (some ⟨w3.heap.size, 0, none⟩)] from rfl]
  refine closure_ok (text := text) (kn := kn) (n := n) (steps := steps) h1 h2 (hr.frame k05 fun _ _ h => h) ⟨ha.texts, ha.cost, ha.del, ha.get, ha.back, fun h1 h2 => many_still (ha.many h1 h2) k05⟩ (k5.get c1 fun h => h) (k5.get c2' fun h => h) (k5.get c3 fun h => h) (k5.get b4 fun h => h) fun l w6 G k6 b6 hR => ?_
  have n1 := k1.size
  have n2 := k2.size
  have n3 := k3.size
  have n4 := k4.size
  have hlow := hR.own_lt
  have hsz : (w4.alloc (.cells #[.bool false] 4)).heap.size = w4.heap.size + 1 := by simp
  refine ⟨k6.get hp_alloc_new (by omega), ?_⟩
  simp [-getElem?_pos, -Array.getElem?_eq_getElem, -Int.natCast_add, -op_alloc_28, -op_st_28, b6]
  refine op_store_ok (by kernel_rfl) b6 (by simp) hR.one fun w7 k7 z7 b7 => ?_
  have b7 : w7.heap[w3.heap.size]? = some (.cells #[l] 28 (0, 0)) := by simpa using b7
  have := hK l w7 G ((k05.old k6 fun c hc => .inr (by omega)).old k7 fun c hc => .inr (by omega)) ((hR.frame elA_ok k7 (fun c hc he => by have := (hR.low c hc).1; omega) fun b hb he => by have := (hlow b hb).1; omega).base_le (by omega))
  simp [-getElem?_pos, -Array.getElem?_eq_getElem, -Int.natCast_add, -op_alloc_28, -op_st_28, b7]
  exact this
end Go.Proofs.YtodjijfblgnfmaaGreatDoor
end
section
namespace Go.Proofs.YtodjijfblgnfmaaGreatDoor
open Go.Vc Go.Proofs
variable {w : World} {K : KV} {Kp : KP} {K1 : Value → Prop}
@[simp] theorem op_fa_23_0 {p : Addr} : nP.op (.fieldAddr 23 (.pointer (some p)) 0) w K Kp = K (.pointer (some (p.add 0))) w := op_fa (k := .one) (by kernel_rfl)
@[simp] theorem pur_fa_23_0 {p : Addr} : nP.pur (.fieldAddr 23 (.pointer (some p)) 0) K1 = K1 (.pointer (some (p.add 0))) := pur_fa (k := .one) (by kernel_rfl)
@[simp] theorem op_fa_23_1 {p : Addr} : nP.op (.fieldAddr 23 (.pointer (some p)) 1) w K Kp = K (.pointer (some (p.add 1))) w := op_fa (k := .one) (by kernel_rfl)
@[simp] theorem pur_fa_23_1 {p : Addr} : nP.pur (.fieldAddr 23 (.pointer (some p)) 1) K1 = K1 (.pointer (some (p.add 1))) := pur_fa (k := .one) (by kernel_rfl)
@[simp] theorem op_ld_23 {p : Addr} : nP.op (.load 23 (.pointer (some p))) w K Kp = ∃ cs e fz, w.heap[p.block]? = some (.cells cs e fz) ∧ p.spot = none ∧ p.off + 2 ≤ cs.size ∧ K (.agg (cs.extract p.off (p.off + 2))) w := op_ldn (by kernel_rfl)
@[simp] theorem ld_ld_23 {p : Addr} : nP.ld (.load 23 (.pointer (some p))) w K1 = ∃ cs e fz, w.heap[p.block]? = some (.cells cs e fz) ∧ p.spot = none ∧ p.off + 2 ≤ cs.size ∧ K1 (.agg (cs.extract p.off (p.off + 2))) := ld_ldn (by kernel_rfl)
@[simp] theorem same_ld_23 {p : Addr} {v : Value} : nP.same (.load 23 (.pointer (some p))) v w = ∃ cs e fz, w.heap[p.block]? = some (.cells cs e fz) ∧ p.spot = none ∧ p.off + 2 ≤ cs.size ∧ .agg (cs.extract p.off (p.off + 2)) = v := same_ldn (by kernel_rfl)
@[simp] theorem call_29 {args : List Value} : nP.call (.fn 29) args w K Kp = Calls Tryz.prog 29 args.toArray w (ret K Kp) := call_fn (by kernel_rfl)
@[simp] theorem op_len_38 {a : Option Addr} {n c ty : Nat} : nP.op (.blt .len [38] ty [.slice a n c]) w K Kp = K (.int .i64 n) w := op_len_slice (by kernel_rfl)
@[simp] theorem pur_len_38 {a : Option Addr} {n c ty : Nat} : nP.pur (.blt .len [38] ty [.slice a n c]) K1 = K1 (.int .i64 n) := pur_len_slice (by kernel_rfl)
@[simp] theorem ld_len_38 {a : Option Addr} {n c ty : Nat} : nP.ld (.blt .len [38] ty [.slice a n c]) w K1 = K1 (.int .i64 n) := ld_len_slice (by kernel_rfl)
@[simp] theorem same_len_38 {a : Option Addr} {n c ty : Nat} {u : Value} : nP.same (.blt .len [38] ty [.slice a n c]) u w = (.int .i64 n = u) := same_len_slice (by kernel_rfl)
@[simp] theorem op_ix_38 {p : Addr} {len cap : Nat} {k : IntKind} {j : Int} : nP.op (.indexAddr 38 (.slice (some p) len cap) (.int k j)) w K Kp = ((0 ≤ j ∧ j < (len : Int)) ∧ K (.pointer (some (p.add (j.toNat * 3)))) w) := op_ix_slice (e := 45) (by kernel_rfl)
@[simp] theorem pur_ix_38 {p : Addr} {len cap : Nat} {k : IntKind} {j : Int} : nP.pur (.indexAddr 38 (.slice (some p) len cap) (.int k j)) K1 = ((0 ≤ j ∧ j < (len : Int)) ∧ K1 (.pointer (some (p.add (j.toNat * 3))))) := pur_ix_slice (e := 45) (by kernel_rfl)
@[simp] theorem op_ld_45 {p : Addr} : nP.op (.load 45 (.pointer (some p))) w K Kp = ∃ cs e fz, w.heap[p.block]? = some (.cells cs e fz) ∧ p.spot = none ∧ p.off + 3 ≤ cs.size ∧ K (.agg (cs.extract p.off (p.off + 3))) w := op_ldn (by kernel_rfl)
@[simp] theorem ld_ld_45 {p : Addr} : nP.ld (.load 45 (.pointer (some p))) w K1 = ∃ cs e fz, w.heap[p.block]? = some (.cells cs e fz) ∧ p.spot = none ∧ p.off + 3 ≤ cs.size ∧ K1 (.agg (cs.extract p.off (p.off + 3))) := ld_ldn (by kernel_rfl)
@[simp] theorem same_ld_45 {p : Addr} {v : Value} : nP.same (.load 45 (.pointer (some p))) v w = ∃ cs e fz, w.heap[p.block]? = some (.cells cs e fz) ∧ p.spot = none ∧ p.off + 3 ≤ cs.size ∧ .agg (cs.extract p.off (p.off + 3)) = v := same_ldn (by kernel_rfl)
@[simp] theorem op_st_45 {p : Addr} {vs : Array Value} : nP.op (.store 45 (.pointer (some p)) (.agg vs)) w K Kp = (vs.size = 3 ∧ (∀ u ∈ vs.toList, u.oneCell' = true) ∧ ∃ cs e, w.heap[p.block]? = some (.cells cs e (0, 0)) ∧ p.spot = none ∧ p.off + 3 ≤ cs.size ∧ K undef (w.upd p.block (.cells (ow cs p.off vs.toList) e (0, 0)))) := op_stn (by kernel_rfl)
@[simp] theorem op_alloc_45 : nP.op (.alloc 45) w K Kp = K (.pointer (some ⟨w.heap.size, 0, none⟩)) (w.alloc (.cells #[Value.int IntKind.i64 0, Value.string ByteArray.empty, Value.int IntKind.i64 0] 45)) := op_alloc (z := (.agg #[(Value.int IntKind.i64 0), (Value.string ByteArray.empty), (Value.int IntKind.i64 0)])) (by kernel_rfl)
@[simp] theorem op_fa_45_1 {p : Addr} : nP.op (.fieldAddr 45 (.pointer (some p)) 1) w K Kp = K (.pointer (some (p.add 1))) w := op_fa (k := .one) (by kernel_rfl)
@[simp] theorem pur_fa_45_1 {p : Addr} : nP.pur (.fieldAddr 45 (.pointer (some p)) 1) K1 = K1 (.pointer (some (p.add 1))) := pur_fa (k := .one) (by kernel_rfl)
@[simp] theorem call_24 {args : List Value} : nP.call (.fn 24) args w K Kp = Calls Tryz.prog 24 args.toArray w (ret K Kp) := call_fn (by kernel_rfl)
@[simp] theorem op_fa_45_0 {p : Addr} : nP.op (.fieldAddr 45 (.pointer (some p)) 0) w K Kp = K (.pointer (some (p.add 0))) w := op_fa (k := .one) (by kernel_rfl)
@[simp] theorem pur_fa_45_0 {p : Addr} : nP.pur (.fieldAddr 45 (.pointer (some p)) 0) K1 = K1 (.pointer (some (p.add 0))) := pur_fa (k := .one) (by kernel_rfl)
@[simp] theorem op_fa_45_2 {p : Addr} : nP.op (.fieldAddr 45 (.pointer (some p)) 2) w K Kp = K (.pointer (some (p.add 2))) w := op_fa (k := .one) (by kernel_rfl)
@[simp] theorem pur_fa_45_2 {p : Addr} : nP.pur (.fieldAddr 45 (.pointer (some p)) 2) K1 = K1 (.pointer (some (p.add 2))) := pur_fa (k := .one) (by kernel_rfl)
theorem build_54_0_1_2_3_4 {x0 : Value} {x1 : Value} {x2 : Value} {x3 : Value} {x4 : Value} (h0 : x0.oneCell' = true) (h1 : x1.oneCell' = true) (h2 : x2.oneCell' = true) (h3 : x3.oneCell' = true) (h4 : x4.oneCell' = true) : buildV Tryz.prog 54 [(0, x0), (1, x1), (2, x2), (3, x3), (4, x4)] = some (.agg (#[x0, x1, x2, x3, x4, Value.int IntKind.i64 0, Value.int IntKind.i64 0])) := by
  have e : buildV Tryz.prog 54 [(0, x0), (1, x1), (2, x2), (3, x3), (4, x4)] = (Instr.fill ((#[(0, 1), (1, 1), (2, 1), (3, 1), (4, 1), (5, 1), (6, 1)] : Array (Nat × Nat))[·]?) (#[Value.int IntKind.u8 0, Value.int IntKind.i64 0, Value.int IntKind.i64 0, Value.string ByteArray.empty, Value.int IntKind.i64 0, Value.int IntKind.i64 0, Value.int IntKind.i64 0]) [(0, x0), (1, x1), (2, x2), (3, x3), (4, x4)]).map .agg := by kernel_rfl
  rw [e]; simp [Instr.fill, cells_of_one h0, cells_of_one h1, cells_of_one h2, cells_of_one h3, cells_of_one h4]
@[simp] theorem op_build_54_0_1_2_3_4 {x0 : Value} {x1 : Value} {x2 : Value} {x3 : Value} {x4 : Value} (h0 : x0.oneCell' = true) (h1 : x1.oneCell' = true) (h2 : x2.oneCell' = true) (h3 : x3.oneCell' = true) (h4 : x4.oneCell' = true) : nP.op (.build 54 [(0, x0), (1, x1), (2, x2), (3, x3), (4, x4)]) w K Kp = K (.agg (#[x0, x1, x2, x3, x4, Value.int IntKind.i64 0, Value.int IntKind.i64 0])) w := op_build (build_54_0_1_2_3_4 h0 h1 h2 h3 h4)
@[simp] theorem pur_build_54_0_1_2_3_4 {x0 : Value} {x1 : Value} {x2 : Value} {x3 : Value} {x4 : Value} (h0 : x0.oneCell' = true) (h1 : x1.oneCell' = true) (h2 : x2.oneCell' = true) (h3 : x3.oneCell' = true) (h4 : x4.oneCell' = true) : nP.pur (.build 54 [(0, x0), (1, x1), (2, x2), (3, x3), (4, x4)]) K1 = K1 (.agg (#[x0, x1, x2, x3, x4, Value.int IntKind.i64 0, Value.int IntKind.i64 0])) := pur_build (build_54_0_1_2_3_4 h0 h1 h2 h3 h4)
theorem lit_32_1 {y0_0 y0_1 y0_2 y0_3 y0_4 y0_5 y0_6 : Value} : sliceLit Tryz.prog 32 1 [(0, .agg #[y0_0, y0_1, y0_2, y0_3, y0_4, y0_5, y0_6])] = some (54, #[y0_0, y0_1, y0_2, y0_3, y0_4, y0_5, y0_6]) := by
  have e : sliceLit Tryz.prog 32 1 [(0, .agg #[y0_0, y0_1, y0_2, y0_3, y0_4, y0_5, y0_6])] = (Instr.fill (fun i => some (i * 7, 7)) (#[Value.int IntKind.u8 0, Value.int IntKind.i64 0, Value.int IntKind.i64 0, Value.string ByteArray.empty, Value.int IntKind.i64 0, Value.int IntKind.i64 0, Value.int IntKind.i64 0]) [(0, .agg #[y0_0, y0_1, y0_2, y0_3, y0_4, y0_5, y0_6])]).map fun cs => (54, cs) := by kernel_rfl
  rw [e]; simp [Instr.fill, Value.cells]
@[simp] theorem op_lit_32_1 {y0_0 y0_1 y0_2 y0_3 y0_4 y0_5 y0_6 : Value} : nP.op (.buildSlice 32 1 [(0, .agg #[y0_0, y0_1, y0_2, y0_3, y0_4, y0_5, y0_6])]) w K Kp = K (.slice (some ⟨w.heap.size, 0, none⟩) 1 1) (w.alloc (.cells #[y0_0, y0_1, y0_2, y0_3, y0_4, y0_5, y0_6] 54)) := op_lit (lit_32_1)
@[simp] theorem op_len_46 {a : Option Addr} {n c ty : Nat} : nP.op (.blt .len [46] ty [.slice a n c]) w K Kp = K (.int .i64 n) w := op_len_slice (by kernel_rfl)
@[simp] theorem pur_len_46 {a : Option Addr} {n c ty : Nat} : nP.pur (.blt .len [46] ty [.slice a n c]) K1 = K1 (.int .i64 n) := pur_len_slice (by kernel_rfl)
@[simp] theorem ld_len_46 {a : Option Addr} {n c ty : Nat} : nP.ld (.blt .len [46] ty [.slice a n c]) w K1 = K1 (.int .i64 n) := ld_len_slice (by kernel_rfl)
@[simp] theorem same_len_46 {a : Option Addr} {n c ty : Nat} {u : Value} : nP.same (.blt .len [46] ty [.slice a n c]) u w = (.int .i64 n = u) := same_len_slice (by kernel_rfl)
@[simp] theorem op_ix_46 {p : Addr} {len cap : Nat} {k : IntKind} {j : Int} : nP.op (.indexAddr 46 (.slice (some p) len cap) (.int k j)) w K Kp = ((0 ≤ j ∧ j < (len : Int)) ∧ K (.pointer (some (p.add (j.toNat * 3)))) w) := op_ix_slice (e := 49) (by kernel_rfl)
@[simp] theorem pur_ix_46 {p : Addr} {len cap : Nat} {k : IntKind} {j : Int} : nP.pur (.indexAddr 46 (.slice (some p) len cap) (.int k j)) K1 = ((0 ≤ j ∧ j < (len : Int)) ∧ K1 (.pointer (some (p.add (j.toNat * 3))))) := pur_ix_slice (e := 49) (by kernel_rfl)
theorem build_23_  : buildV Tryz.prog 23 [] = some (.agg (#[Value.int IntKind.u8 0, Value.int IntKind.i64 0])) := by
  have e : buildV Tryz.prog 23 [] = (Instr.fill ((#[(0, 1), (1, 1)] : Array (Nat × Nat))[·]?) (#[Value.int IntKind.u8 0, Value.int IntKind.i64 0]) []).map .agg := by kernel_rfl
  rw [e]; simp [Instr.fill]
@[simp] theorem op_build_23_  : nP.op (.build 23 []) w K Kp = K (.agg (#[Value.int IntKind.u8 0, Value.int IntKind.i64 0])) w := op_build (build_23_)
@[simp] theorem pur_build_23_  : nP.pur (.build 23 []) K1 = K1 (.agg (#[Value.int IntKind.u8 0, Value.int IntKind.i64 0])) := pur_build (build_23_)
theorem build_45_0_2 {x0 : Value} {x2 : Value} (h0 : x0.oneCell' = true) (h2 : x2.oneCell' = true) : buildV Tryz.prog 45 [(0, x0), (2, x2)] = some (.agg (#[x0, Value.string ByteArray.empty, x2])) := by
  have e : buildV Tryz.prog 45 [(0, x0), (2, x2)] = (Instr.fill ((#[(0, 1), (1, 1), (2, 1)] : Array (Nat × Nat))[·]?) (#[Value.int IntKind.i64 0, Value.string ByteArray.empty, Value.int IntKind.i64 0]) [(0, x0), (2, x2)]).map .agg := by kernel_rfl
  rw [e]; simp [Instr.fill, cells_of_one h0, cells_of_one h2]
@[simp] theorem op_build_45_0_2 {x0 : Value} {x2 : Value} (h0 : x0.oneCell' = true) (h2 : x2.oneCell' = true) : nP.op (.build 45 [(0, x0), (2, x2)]) w K Kp = K (.agg (#[x0, Value.string ByteArray.empty, x2])) w := op_build (build_45_0_2 h0 h2)
@[simp] theorem pur_build_45_0_2 {x0 : Value} {x2 : Value} (h0 : x0.oneCell' = true) (h2 : x2.oneCell' = true) : nP.pur (.build 45 [(0, x0), (2, x2)]) K1 = K1 (.agg (#[x0, Value.string ByteArray.empty, x2])) := pur_build (build_45_0_2 h0 h2)
theorem lit_38_2 {y0_0 y0_1 y0_2 y1_0 y1_1 y1_2 : Value} : sliceLit Tryz.prog 38 2 [(0, .agg #[y0_0, y0_1, y0_2]), (1, .agg #[y1_0, y1_1, y1_2])] = some (45, #[y0_0, y0_1, y0_2, y1_0, y1_1, y1_2]) := by
  have e : sliceLit Tryz.prog 38 2 [(0, .agg #[y0_0, y0_1, y0_2]), (1, .agg #[y1_0, y1_1, y1_2])] = (Instr.fill (fun i => some (i * 3, 3)) (#[Value.int IntKind.i64 0, Value.string ByteArray.empty, Value.int IntKind.i64 0, Value.int IntKind.i64 0, Value.string ByteArray.empty, Value.int IntKind.i64 0]) [(0, .agg #[y0_0, y0_1, y0_2]), (1, .agg #[y1_0, y1_1, y1_2])]).map fun cs => (45, cs) := by kernel_rfl
  rw [e]; simp [Instr.fill, Value.cells]
@[simp] theorem op_lit_38_2 {y0_0 y0_1 y0_2 y1_0 y1_1 y1_2 : Value} : nP.op (.buildSlice 38 2 [(0, .agg #[y0_0, y0_1, y0_2]), (1, .agg #[y1_0, y1_1, y1_2])]) w K Kp = K (.slice (some ⟨w.heap.size, 0, none⟩) 2 2) (w.alloc (.cells #[y0_0, y0_1, y0_2, y1_0, y1_1, y1_2] 45)) := op_lit (lit_38_2)
@[simp] theorem call_22 {args : List Value} : nP.call (.fn 22) args w K Kp = Calls Tryz.prog 22 args.toArray w (ret K Kp) := call_fn (by kernel_rfl)
@[simp] theorem call_32 {args : List Value} : nP.call (.fn 32) args w K Kp = Calls Tryz.prog 32 args.toArray w (ret K Kp) := call_fn (by kernel_rfl)
theorem build_54_0 {x0 : Value} (h0 : x0.oneCell' = true) : buildV Tryz.prog 54 [(0, x0)] = some (.agg (#[x0, Value.int IntKind.i64 0, Value.int IntKind.i64 0, Value.string ByteArray.empty, Value.int IntKind.i64 0, Value.int IntKind.i64 0, Value.int IntKind.i64 0])) := by
  have e : buildV Tryz.prog 54 [(0, x0)] = (Instr.fill ((#[(0, 1), (1, 1), (2, 1), (3, 1), (4, 1), (5, 1), (6, 1)] : Array (Nat × Nat))[·]?) (#[Value.int IntKind.u8 0, Value.int IntKind.i64 0, Value.int IntKind.i64 0, Value.string ByteArray.empty, Value.int IntKind.i64 0, Value.int IntKind.i64 0, Value.int IntKind.i64 0]) [(0, x0)]).map .agg := by kernel_rfl
  rw [e]; simp [Instr.fill, cells_of_one h0]
@[simp] theorem op_build_54_0 {x0 : Value} (h0 : x0.oneCell' = true) : nP.op (.build 54 [(0, x0)]) w K Kp = K (.agg (#[x0, Value.int IntKind.i64 0, Value.int IntKind.i64 0, Value.string ByteArray.empty, Value.int IntKind.i64 0, Value.int IntKind.i64 0, Value.int IntKind.i64 0])) w := op_build (build_54_0 h0)
@[simp] theorem pur_build_54_0 {x0 : Value} (h0 : x0.oneCell' = true) : nP.pur (.build 54 [(0, x0)]) K1 = K1 (.agg (#[x0, Value.int IntKind.i64 0, Value.int IntKind.i64 0, Value.string ByteArray.empty, Value.int IntKind.i64 0, Value.int IntKind.i64 0, Value.int IntKind.i64 0])) := pur_build (build_54_0 h0)
@[simp] theorem call_23 {args : List Value} : nP.call (.fn 23) args w K Kp = Calls Tryz.prog 23 args.toArray w (ret K Kp) := call_fn (by kernel_rfl)
@[simp] theorem call_15 {args : List Value} : nP.call (.fn 15) args w K Kp = Calls Tryz.prog 15 args.toArray w (ret K Kp) := call_fn (by kernel_rfl)
@[simp] theorem op_len_28 {a : Option Addr} {n c ty : Nat} : nP.op (.blt .len [28] ty [.slice a n c]) w K Kp = K (.int .i64 n) w := op_len_slice (by kernel_rfl)
@[simp] theorem pur_len_28 {a : Option Addr} {n c ty : Nat} : nP.pur (.blt .len [28] ty [.slice a n c]) K1 = K1 (.int .i64 n) := pur_len_slice (by kernel_rfl)
@[simp] theorem ld_len_28 {a : Option Addr} {n c ty : Nat} : nP.ld (.blt .len [28] ty [.slice a n c]) w K1 = K1 (.int .i64 n) := ld_len_slice (by kernel_rfl)
@[simp] theorem same_len_28 {a : Option Addr} {n c ty : Nat} {u : Value} : nP.same (.blt .len [28] ty [.slice a n c]) u w = (.int .i64 n = u) := same_len_slice (by kernel_rfl)
@[simp] theorem op_ix_28 {p : Addr} {len cap : Nat} {k : IntKind} {j : Int} : nP.op (.indexAddr 28 (.slice (some p) len cap) (.int k j)) w K Kp = ((0 ≤ j ∧ j < (len : Int)) ∧ K (.pointer (some (p.add (j.toNat * 4)))) w) := op_ix_slice (e := 56) (by kernel_rfl)
@[simp] theorem pur_ix_28 {p : Addr} {len cap : Nat} {k : IntKind} {j : Int} : nP.pur (.indexAddr 28 (.slice (some p) len cap) (.int k j)) K1 = ((0 ≤ j ∧ j < (len : Int)) ∧ K1 (.pointer (some (p.add (j.toNat * 4))))) := pur_ix_slice (e := 56) (by kernel_rfl)
@[simp] theorem call_19 {args : List Value} : nP.call (.fn 19) args w K Kp = Calls Tryz.prog 19 args.toArray w (ret K Kp) := call_fn (by kernel_rfl)
@[simp] theorem call_20 {args : List Value} : nP.call (.fn 20) args w K Kp = Calls Tryz.prog 20 args.toArray w (ret K Kp) := call_fn (by kernel_rfl)
@[simp] theorem call_14 {args : List Value} : nP.call (.fn 14) args w K Kp = Calls Tryz.prog 14 args.toArray w (ret K Kp) := call_fn (by kernel_rfl)
theorem build_23_0 {x0 : Value} (h0 : x0.oneCell' = true) : buildV Tryz.prog 23 [(0, x0)] = some (.agg (#[x0, Value.int IntKind.i64 0])) := by
  have e : buildV Tryz.prog 23 [(0, x0)] = (Instr.fill ((#[(0, 1), (1, 1)] : Array (Nat × Nat))[·]?) (#[Value.int IntKind.u8 0, Value.int IntKind.i64 0]) [(0, x0)]).map .agg := by kernel_rfl
  rw [e]; simp [Instr.fill, cells_of_one h0]
@[simp] theorem op_build_23_0 {x0 : Value} (h0 : x0.oneCell' = true) : nP.op (.build 23 [(0, x0)]) w K Kp = K (.agg (#[x0, Value.int IntKind.i64 0])) w := op_build (build_23_0 h0)
@[simp] theorem pur_build_23_0 {x0 : Value} (h0 : x0.oneCell' = true) : nP.pur (.build 23 [(0, x0)]) K1 = K1 (.agg (#[x0, Value.int IntKind.i64 0])) := pur_build (build_23_0 h0)
theorem lit_32_10 {y0_0 y0_1 y0_2 y0_3 y0_4 y0_5 y0_6 y1_0 y1_1 y1_2 y1_3 y1_4 y1_5 y1_6 y2_0 y2_1 y2_2 y2_3 y2_4 y2_5 y2_6 y3_0 y3_1 y3_2 y3_3 y3_4 y3_5 y3_6 y4_0 y4_1 y4_2 y4_3 y4_4 y4_5 y4_6 y5_0 y5_1 y5_2 y5_3 y5_4 y5_5 y5_6 y6_0 y6_1 y6_2 y6_3 y6_4 y6_5 y6_6 y7_0 y7_1 y7_2 y7_3 y7_4 y7_5 y7_6 y8_0 y8_1 y8_2 y8_3 y8_4 y8_5 y8_6 y9_0 y9_1 y9_2 y9_3 y9_4 y9_5 y9_6 : Value} : sliceLit Tryz.prog 32 10 [(0, .agg #[y0_0, y0_1, y0_2, y0_3, y0_4, y0_5, y0_6]), (1, .agg #[y1_0, y1_1, y1_2, y1_3, y1_4, y1_5, y1_6]), (2, .agg #[y2_0, y2_1, y2_2, y2_3, y2_4, y2_5, y2_6]), (3, .agg #[y3_0, y3_1, y3_2, y3_3, y3_4, y3_5, y3_6]), (4, .agg #[y4_0, y4_1, y4_2, y4_3, y4_4, y4_5, y4_6]), (5, .agg #[y5_0, y5_1, y5_2, y5_3, y5_4, y5_5, y5_6]), (6, .agg #[y6_0, y6_1, y6_2, y6_3, y6_4, y6_5, y6_6]), (7, .agg #[y7_0, y7_1, y7_2, y7_3, y7_4, y7_5, y7_6]), (8, .agg #[y8_0, y8_1, y8_2, y8_3, y8_4, y8_5, y8_6]), (9, .agg #[y9_0, y9_1, y9_2, y9_3, y9_4, y9_5, y9_6])] = some (54, #[y0_0, y0_1, y0_2, y0_3, y0_4, y0_5, y0_6, y1_0, y1_1, y1_2, y1_3, y1_4, y1_5, y1_6, y2_0, y2_1, y2_2, y2_3, y2_4, y2_5, y2_6, y3_0, y3_1, y3_2, y3_3, y3_4, y3_5, y3_6, y4_0, y4_1, y4_2, y4_3, y4_4, y4_5, y4_6, y5_0, y5_1, y5_2, y5_3, y5_4, y5_5, y5_6, y6_0, y6_1, y6_2, y6_3, y6_4, y6_5, y6_6, y7_0, y7_1, y7_2, y7_3, y7_4, y7_5, y7_6, y8_0, y8_1, y8_2, y8_3, y8_4, y8_5, y8_6, y9_0, y9_1, y9_2, y9_3, y9_4, y9_5, y9_6]) := by
  have e : sliceLit Tryz.prog 32 10 [(0, .agg #[y0_0, y0_1, y0_2, y0_3, y0_4, y0_5, y0_6]), (1, .agg #[y1_0, y1_1, y1_2, y1_3, y1_4, y1_5, y1_6]), (2, .agg #[y2_0, y2_1, y2_2, y2_3, y2_4, y2_5, y2_6]), (3, .agg #[y3_0, y3_1, y3_2, y3_3, y3_4, y3_5, y3_6]), (4, .agg #[y4_0, y4_1, y4_2, y4_3, y4_4, y4_5, y4_6]), (5, .agg #[y5_0, y5_1, y5_2, y5_3, y5_4, y5_5, y5_6]), (6, .agg #[y6_0, y6_1, y6_2, y6_3, y6_4, y6_5, y6_6]), (7, .agg #[y7_0, y7_1, y7_2, y7_3, y7_4, y7_5, y7_6]), (8, .agg #[y8_0, y8_1, y8_2, y8_3, y8_4, y8_5, y8_6]), (9, .agg #[y9_0, y9_1, y9_2, y9_3, y9_4, y9_5, y9_6])] = (Instr.fill (fun i => some (i * 7, 7)) (#[Value.int IntKind.u8 0, Value.int IntKind.i64 0, Value.int IntKind.i64 0, Value.string ByteArray.empty, Value.int IntKind.i64 0, Value.int IntKind.i64 0, Value.int IntKind.i64 0, Value.int IntKind.u8 0, Value.int IntKind.i64 0, Value.int IntKind.i64 0, Value.string ByteArray.empty, Value.int IntKind.i64 0, Value.int IntKind.i64 0, Value.int IntKind.i64 0, Value.int IntKind.u8 0, Value.int IntKind.i64 0, Value.int IntKind.i64 0, Value.string ByteArray.empty, Value.int IntKind.i64 0, Value.int IntKind.i64 0, Value.int IntKind.i64 0, Value.int IntKind.u8 0, Value.int IntKind.i64 0, Value.int IntKind.i64 0, Value.string ByteArray.empty, Value.int IntKind.i64 0, Value.int IntKind.i64 0, Value.int IntKind.i64 0, Value.int IntKind.u8 0, Value.int IntKind.i64 0, Value.int IntKind.i64 0, Value.string ByteArray.empty, Value.int IntKind.i64 0, Value.int IntKind.i64 0, Value.int IntKind.i64 0, Value.int IntKind.u8 0, Value.int IntKind.i64 0, Value.int IntKind.i64 0, Value.string ByteArray.empty, Value.int IntKind.i64 0, Value.int IntKind.i64 0, Value.int IntKind.i64 0, Value.int IntKind.u8 0, Value.int IntKind.i64 0, Value.int IntKind.i64 0, Value.string ByteArray.empty, Value.int IntKind.i64 0, Value.int IntKind.i64 0, Value.int IntKind.i64 0, Value.int IntKind.u8 0, Value.int IntKind.i64 0, Value.int IntKind.i64 0, Value.string ByteArray.empty, Value.int IntKind.i64 0, Value.int IntKind.i64 0, Value.int IntKind.i64 0, Value.int IntKind.u8 0, Value.int IntKind.i64 0, Value.int IntKind.i64 0, Value.string ByteArray.empty, Value.int IntKind.i64 0, Value.int IntKind.i64 0, Value.int IntKind.i64 0, Value.int IntKind.u8 0, Value.int IntKind.i64 0, Value.int IntKind.i64 0, Value.string ByteArray.empty, Value.int IntKind.i64 0, Value.int IntKind.i64 0, Value.int IntKind.i64 0]) [(0, .agg #[y0_0, y0_1, y0_2, y0_3, y0_4, y0_5, y0_6]), (1, .agg #[y1_0, y1_1, y1_2, y1_3, y1_4, y1_5, y1_6]), (2, .agg #[y2_0, y2_1, y2_2, y2_3, y2_4, y2_5, y2_6]), (3, .agg #[y3_0, y3_1, y3_2, y3_3, y3_4, y3_5, y3_6]), (4, .agg #[y4_0, y4_1, y4_2, y4_3, y4_4, y4_5, y4_6]), (5, .agg #[y5_0, y5_1, y5_2, y5_3, y5_4, y5_5, y5_6]), (6, .agg #[y6_0, y6_1, y6_2, y6_3, y6_4, y6_5, y6_6]), (7, .agg #[y7_0, y7_1, y7_2, y7_3, y7_4, y7_5, y7_6]), (8, .agg #[y8_0, y8_1, y8_2, y8_3, y8_4, y8_5, y8_6]), (9, .agg #[y9_0, y9_1, y9_2, y9_3, y9_4, y9_5, y9_6])]).map fun cs => (54, cs) := by kernel_rfl
  rw [e]; simp [Instr.fill, Value.cells]
@[simp] theorem op_lit_32_10 {y0_0 y0_1 y0_2 y0_3 y0_4 y0_5 y0_6 y1_0 y1_1 y1_2 y1_3 y1_4 y1_5 y1_6 y2_0 y2_1 y2_2 y2_3 y2_4 y2_5 y2_6 y3_0 y3_1 y3_2 y3_3 y3_4 y3_5 y3_6 y4_0 y4_1 y4_2 y4_3 y4_4 y4_5 y4_6 y5_0 y5_1 y5_2 y5_3 y5_4 y5_5 y5_6 y6_0 y6_1 y6_2 y6_3 y6_4 y6_5 y6_6 y7_0 y7_1 y7_2 y7_3 y7_4 y7_5 y7_6 y8_0 y8_1 y8_2 y8_3 y8_4 y8_5 y8_6 y9_0 y9_1 y9_2 y9_3 y9_4 y9_5 y9_6 : Value} : nP.op (.buildSlice 32 10 [(0, .agg #[y0_0, y0_1, y0_2, y0_3, y0_4, y0_5, y0_6]), (1, .agg #[y1_0, y1_1, y1_2, y1_3, y1_4, y1_5, y1_6]), (2, .agg #[y2_0, y2_1, y2_2, y2_3, y2_4, y2_5, y2_6]), (3, .agg #[y3_0, y3_1, y3_2, y3_3, y3_4, y3_5, y3_6]), (4, .agg #[y4_0, y4_1, y4_2, y4_3, y4_4, y4_5, y4_6]), (5, .agg #[y5_0, y5_1, y5_2, y5_3, y5_4, y5_5, y5_6]), (6, .agg #[y6_0, y6_1, y6_2, y6_3, y6_4, y6_5, y6_6]), (7, .agg #[y7_0, y7_1, y7_2, y7_3, y7_4, y7_5, y7_6]), (8, .agg #[y8_0, y8_1, y8_2, y8_3, y8_4, y8_5, y8_6]), (9, .agg #[y9_0, y9_1, y9_2, y9_3, y9_4, y9_5, y9_6])]) w K Kp = K (.slice (some ⟨w.heap.size, 0, none⟩) 10 10) (w.alloc (.cells #[y0_0, y0_1, y0_2, y0_3, y0_4, y0_5, y0_6, y1_0, y1_1, y1_2, y1_3, y1_4, y1_5, y1_6, y2_0, y2_1, y2_2, y2_3, y2_4, y2_5, y2_6, y3_0, y3_1, y3_2, y3_3, y3_4, y3_5, y3_6, y4_0, y4_1, y4_2, y4_3, y4_4, y4_5, y4_6, y5_0, y5_1, y5_2, y5_3, y5_4, y5_5, y5_6, y6_0, y6_1, y6_2, y6_3, y6_4, y6_5, y6_6, y7_0, y7_1, y7_2, y7_3, y7_4, y7_5, y7_6, y8_0, y8_1, y8_2, y8_3, y8_4, y8_5, y8_6, y9_0, y9_1, y9_2, y9_3, y9_4, y9_5, y9_6] 54)) := op_lit (lit_32_10)
@[simp] theorem call_59 {args : List Value} : nP.call (.fn 59) args w K Kp = Calls Tryz.prog 59 args.toArray w (ret K Kp) := call_fn (by kernel_rfl)
@[simp] theorem call_34 {args : List Value} : nP.call (.fn 34) args w K Kp = Calls Tryz.prog 34 args.toArray w (ret K Kp) := call_fn (by kernel_rfl)
theorem build_45_  : buildV Tryz.prog 45 [] = some (.agg (#[Value.int IntKind.i64 0, Value.string ByteArray.empty, Value.int IntKind.i64 0])) := by
  have e : buildV Tryz.prog 45 [] = (Instr.fill ((#[(0, 1), (1, 1), (2, 1)] : Array (Nat × Nat))[·]?) (#[Value.int IntKind.i64 0, Value.string ByteArray.empty, Value.int IntKind.i64 0]) []).map .agg := by kernel_rfl
  rw [e]; simp [Instr.fill]
@[simp] theorem op_build_45_  : nP.op (.build 45 []) w K Kp = K (.agg (#[Value.int IntKind.i64 0, Value.string ByteArray.empty, Value.int IntKind.i64 0])) w := op_build (build_45_)
@[simp] theorem pur_build_45_  : nP.pur (.build 45 []) K1 = K1 (.agg (#[Value.int IntKind.i64 0, Value.string ByteArray.empty, Value.int IntKind.i64 0])) := pur_build (build_45_)
theorem lit_38_1 {y0_0 y0_1 y0_2 : Value} : sliceLit Tryz.prog 38 1 [(0, .agg #[y0_0, y0_1, y0_2])] = some (45, #[y0_0, y0_1, y0_2]) := by
  have e : sliceLit Tryz.prog 38 1 [(0, .agg #[y0_0, y0_1, y0_2])] = (Instr.fill (fun i => some (i * 3, 3)) (#[Value.int IntKind.i64 0, Value.string ByteArray.empty, Value.int IntKind.i64 0]) [(0, .agg #[y0_0, y0_1, y0_2])]).map fun cs => (45, cs) := by kernel_rfl
  rw [e]; simp [Instr.fill, Value.cells]
@[simp] theorem op_lit_38_1 {y0_0 y0_1 y0_2 : Value} : nP.op (.buildSlice 38 1 [(0, .agg #[y0_0, y0_1, y0_2])]) w K Kp = K (.slice (some ⟨w.heap.size, 0, none⟩) 1 1) (w.alloc (.cells #[y0_0, y0_1, y0_2] 45)) := op_lit (lit_38_1)
@[simp] theorem op_len_39 {a : Option Addr} {n c ty : Nat} : nP.op (.blt .len [39] ty [.slice a n c]) w K Kp = K (.int .i64 n) w := op_len_slice (by kernel_rfl)
@[simp] theorem pur_len_39 {a : Option Addr} {n c ty : Nat} : nP.pur (.blt .len [39] ty [.slice a n c]) K1 = K1 (.int .i64 n) := pur_len_slice (by kernel_rfl)
@[simp] theorem ld_len_39 {a : Option Addr} {n c ty : Nat} : nP.ld (.blt .len [39] ty [.slice a n c]) w K1 = K1 (.int .i64 n) := ld_len_slice (by kernel_rfl)
@[simp] theorem same_len_39 {a : Option Addr} {n c ty : Nat} {u : Value} : nP.same (.blt .len [39] ty [.slice a n c]) u w = (.int .i64 n = u) := same_len_slice (by kernel_rfl)
@[simp] theorem op_lit_38_0 : nP.op (.buildSlice 38 0 []) w K Kp = K (.slice (some ⟨w.heap.size, 0, none⟩) 0 0) (w.alloc (.cells #[] 45)) := op_lit (by kernel_rfl)
end Go.Proofs.YtodjijfblgnfmaaGreatDoor
end
section
namespace Go.Proofs.YtodjijfblgnfmaaGreatDoor
open Go.Vc Go.Proofs
variable {S : Sig} {a0 a1 a2 a3 a4 a5 a6 a7 a8 a9 : Value} {w : World} {K : KV} {Kp : KP}
private theorem follows_BVcLA : Tryz.prog.follows .mixedOrders = true := by kernel_rfl
def vc29 (S : Sig) (a0 : Value) (w : World) (K : KV) (Kp : KP) : Prop :=
 S.op (.box 23 a0) w (fun v1 w =>
 S.op (.fieldAddr 23 v1 0) w (fun v3 w =>
 S.op (.load 5 v3) w (fun v4 w =>
 S.op (.bin .leq 5 false true v4 (.int .u8 3)) w (fun v5 w =>
 Br v5 (
 S.op (.fieldAddr 23 v1 0) w (fun v7 w =>
 S.op (.load 5 v7) w (fun v8 w =>
 S.op (.bin .neq 5 false true v8 (.int .u8 3)) w (fun v9 w =>
 Br v9 (
 K (.bool true) w) (
 S.op (.fieldAddr 23 v1 1) w (fun v11 w =>
 S.op (.load 2 v11) w (fun v12 w =>
 S.op (.bin .geq 2 false true v12 (.int .i64 1)) w (fun v13 w =>
 Br v13 (
 S.op (.fieldAddr 23 v1 1) w (fun v15 w =>
 S.op (.load 2 v15) w (fun v16 w =>
 S.op (.bin .leq 2 false true v16 (.int .i64 1000)) w (fun v17 w =>
 K v17 w) Kp) Kp) Kp) (
 K (.bool false) w)) Kp) Kp) Kp)) Kp) Kp) Kp) (
 K (.bool false) w)) Kp) Kp) Kp) Kp
theorem vc29_eq : vc29 S a0 w K Kp = fVC S [] [] Tryz.f29 [a0] w K Kp := by kernel_rfl
theorem vc29_calls (h : vc29 nP a0 w K Kp) : Calls Tryz.prog 29 #[a0] w (ret K Kp) :=
 fVC_sound (args := [a0]) nice_le follows_BVcLA Tryz.func29 (by kernel_rfl) (Eq.mp vc29_eq h)
def vc20 (S : Sig) (a0 a1 : Value) (w : World) (K : KV) (Kp : KP) : Prop :=
 S.op (.box 23 a0) w (fun v2 w =>
 S.op (.load 23 v2) w (fun v7 w =>
 S.call (.fn 29) [v7] w (fun v8 w =>
 S.op (.un .not v8) w (fun v9 w =>
 Br v9 (
 K (.bool false) w) (
 S.op (.blt .len [38] 3 [a1]) w (fun v12 w =>
 S.op (.bin .gtr 3 false true v12 (.int .i64 1000)) w (fun v13 w =>
 Br v13 (
 K (.bool false) w) (
 S.op (.blt .len [38] 3 [a1]) w (fun v16 w =>
 Lp fun (I4 : KV) (μ4 : Value → World → Nat) => I4 (.int .i64 0) w ∧
 ∀ (wl4 : World) (_ : Nat → Value) (s17 : Value), I4 s17 wl4 →
 S.op (.bin .lss 3 false false s17 v16) wl4 (fun v18 w =>
 Br v18 (
 S.op (.indexAddr 38 a1 s17) w (fun v19 w =>
 S.op (.load 45 v19) w (fun v20 w =>
 S.op (.alloc 45) w (fun v6 w =>
 S.op (.store 45 v6 v20) w (fun _ w =>
 S.op (.fieldAddr 45 v6 1) w (fun v21 w =>
 S.op (.load 9 v21) w (fun v22 w =>
 S.op (.blt .len [9] 3 [v22]) w (fun v23 w =>
 S.op (.bin .gtr 3 false true v23 (.int .i64 100)) w (fun v24 w =>
 Br v24 (
 K (.bool false) w) (
 S.op (.bin .add 3 false true s17 (.int .i64 1)) w (fun v25 w =>
 I4 v25 w ∧ μ4 v25 w < μ4 s17 wl4) Kp)) Kp) Kp) Kp) Kp) Kp) Kp) Kp) Kp) (
 K (.bool true) w)) Kp) Kp)) Kp) Kp)) Kp) Kp) Kp) Kp
theorem vc20_eq : vc20 S a0 a1 w K Kp = fVC S [(4, [17])] [] Tryz.f20 [a0, a1] w K Kp := by kernel_rfl
theorem vc20_calls (h : vc20 nP a0 a1 w K Kp) : Calls Tryz.prog 20 #[a0, a1] w (ret K Kp) :=
 fVC_sound (args := [a0, a1]) nice_le follows_BVcLA Tryz.func20 (by kernel_rfl) (Eq.mp vc20_eq h)
def vc19 (S : Sig) (a0 : Value) (w : World) (K : KV) (Kp : KP) : Prop :=
 S.op (.blt .len [38] 3 [a0]) w (fun v6 w =>
 S.op (.bin .gtr 3 false true v6 (.int .i64 2147483647)) w (fun v7 w =>
 Br v7 (
 K (.bool false) w) (
 S.op (.blt .len [38] 3 [a0]) w (fun v9 w =>
 Lp fun (I4 : KV) (μ4 : Value → World → Nat) => I4 (.int .i64 0) w ∧
 ∀ (wl4 : World) (_ : Nat → Value) (s10 : Value), I4 s10 wl4 →
 S.op (.bin .lss 3 false false s10 v9) wl4 (fun v11 w =>
 Br v11 (
 S.op (.indexAddr 38 a0 s10) w (fun v12 w =>
 S.op (.load 45 v12) w (fun v13 w =>
 S.op (.alloc 45) w (fun v4 w =>
 S.op (.store 45 v4 v13) w (fun _ w =>
 S.op (.load 45 v4) w (fun v14 w =>
 S.call (.fn 24) [v14] w (fun v15 w =>
 S.op (.un .not v15) w (fun v16 w =>
 Br v16 (
 K (.bool false) w) (
 S.op (.bin .add 3 false true s10 (.int .i64 1)) w (fun v17 w =>
 I4 v17 w ∧ μ4 v17 w < μ4 s10 wl4) Kp)) Kp) Kp) Kp) Kp) Kp) Kp) Kp) (
 K (.bool true) w)) Kp) Kp)) Kp) Kp
theorem vc19_eq : vc19 S a0 w K Kp = fVC S [(4, [10])] [] Tryz.f19 [a0] w K Kp := by kernel_rfl
theorem vc19_calls (h : vc19 nP a0 w K Kp) : Calls Tryz.prog 19 #[a0] w (ret K Kp) :=
 fVC_sound (args := [a0]) nice_le follows_BVcLA Tryz.func19 (by kernel_rfl) (Eq.mp vc19_eq h)
def vc24 (S : Sig) (a0 : Value) (w : World) (K : KV) (Kp : KP) : Prop :=
 S.op (.box 45 a0) w (fun v1 w =>
 S.op (.fieldAddr 45 v1 1) w (fun v3 w =>
 S.op (.load 9 v3) w (fun v4 w =>
 S.op (.blt .len [9] 3 [v4]) w (fun v5 w =>
 S.op (.bin .gtr 3 false true v5 (.int .i64 2147483647)) w (fun v6 w =>
 Br v6 (
 K (.bool false) w) (
 K (.bool true) w)) Kp) Kp) Kp) Kp) Kp
theorem vc24_eq : vc24 S a0 w K Kp = fVC S [] [] Tryz.f24 [a0] w K Kp := by kernel_rfl
theorem vc24_calls (h : vc24 nP a0 w K Kp) : Calls Tryz.prog 24 #[a0] w (ret K Kp) :=
 fVC_sound (args := [a0]) nice_le follows_BVcLA Tryz.func24 (by kernel_rfl) (Eq.mp vc24_eq h)
def vc23 (S : Sig) (a0 a1 : Value) (w : World) (K : KV) (Kp : KP) : Prop :=
 S.op (.blt .len [38] 3 [a0]) w (fun v11 w =>
 Lp fun (I3 : Value → KV) (μ3 : Value → Value → World → Nat) => I3 (.slice none 0 0) (.int .i64 0) w ∧
 ∀ (wl3 : World) (_ : Nat → Value) (s5 : Value) (s12 : Value), I3 s5 s12 wl3 →
 S.op (.bin .lss 3 false false s12 v11) wl3 (fun v13 w =>
 Br v13 (
 S.op (.indexAddr 38 a0 s12) w (fun v15 w =>
 S.op (.load 45 v15) w (fun v16 w =>
 S.op (.alloc 45) w (fun v7 w =>
 S.op (.store 45 v7 v16) w (fun _ w =>
 S.op (.fieldAddr 45 v7 0) w (fun v19 w =>
 S.op (.load 2 v19) w (fun v20 w =>
 S.op (.fieldAddr 45 v7 1) w (fun v21 w =>
 S.op (.load 9 v21) w (fun v22 w =>
 S.op (.fieldAddr 45 v7 2) w (fun v23 w =>
 S.op (.load 2 v23) w (fun v24 w =>
 S.op (.build 54 [(0, (.int .u8 0)), (1, s12), (2, v20), (3, v22), (4, v24)]) w (fun v25 w =>
 S.op (.buildSlice 32 1 [(0, v25)]) w (fun v26 w =>
 S.op (.blt .append [32, 32] 32 [s5, v26]) w (fun v27 w =>
 S.op (.bin .add 3 false true s12 (.int .i64 1)) w (fun v28 w =>
 I3 v27 v28 w ∧ μ3 v27 v28 w < μ3 s5 s12 wl3) Kp) Kp) Kp) Kp) Kp) Kp) Kp) Kp) Kp) Kp) Kp) Kp) Kp) Kp) (
 S.op (.blt .len [32] 3 [a1]) w (fun v30 w =>
 Lp fun (I8 : Value → KV) (μ8 : Value → Value → World → Nat) => I8 s5 (.int .i64 0) w ∧
 ∀ (wl8 : World) (_ : Nat → Value) (s5 : Value) (s31 : Value), I8 s5 s31 wl8 →
 S.op (.bin .lss 3 false false s31 v30) wl8 (fun v32 w =>
 Br v32 (
 S.op (.indexAddr 32 a1 s31) w (fun v33 w =>
 S.op (.load 54 v33) w (fun v34 w =>
 S.op (.alloc 54) w (fun v9 w =>
 S.op (.store 54 v9 v34) w (fun _ w =>
 S.op (.fieldAddr 54 v9 1) w (fun v35 w =>
 S.op (.load 3 v35) w (fun v36 w =>
 S.op (.blt .len [38] 3 [a0]) w (fun v38 w =>
 S.op (.bin .add 3 false false v36 v38) w (fun v39 w =>
 S.op (.fieldAddr 54 v9 1) w (fun v40 w =>
 S.op (.store 3 v40 v39) w (fun _ w =>
 S.op (.load 54 v9) w (fun v42 w =>
 S.op (.buildSlice 32 1 [(0, v42)]) w (fun v43 w =>
 S.op (.blt .append [32, 32] 32 [s5, v43]) w (fun v44 w =>
 S.op (.bin .add 3 false true s31 (.int .i64 1)) w (fun v45 w =>
 I8 v44 v45 w ∧ μ8 v44 v45 w < μ8 s5 s31 wl8) Kp) Kp) Kp) Kp) Kp) Kp) Kp) Kp) Kp) Kp) Kp) Kp) Kp) Kp) (
 K s5 w)) Kp) Kp)) Kp) Kp
theorem vc23_eq : vc23 S a0 a1 w K Kp = fVC S [(3, [5, 12]), (8, [5, 31])] [] Tryz.f23 [a0, a1] w K Kp := by kernel_rfl
theorem vc23_calls (h : vc23 nP a0 a1 w K Kp) : Calls Tryz.prog 23 #[a0, a1] w (ret K Kp) :=
 fVC_sound (args := [a0, a1]) nice_le follows_BVcLA Tryz.func23 (by kernel_rfl) (Eq.mp vc23_eq h)
def vc32 (S : Sig) (a0 a1 : Value) (w : World) (K : KV) (Kp : KP) : Prop :=
 S.op (.blt .len [46] 3 [a0]) w (fun v7 w =>
 S.op (.blt .len [38] 3 [a1]) w (fun v9 w =>
 S.op (.bin .neq 3 false false v7 v9) w (fun v10 w =>
 Br v10 (
 K (.bool false) w) (
 S.op (.blt .len [46] 3 [a0]) w (fun v12 w =>
 Lp fun (I4 : KV) (μ4 : Value → World → Nat) => I4 (.int .i64 0) w ∧
 ∀ (wl4 : World) (_ : Nat → Value) (s13 : Value), I4 s13 wl4 →
 S.op (.bin .lss 3 false false s13 v12) wl4 (fun v14 w =>
 Br v14 (
 S.pur (.indexAddr 46 a0 s13) (fun v18 =>
 S.ld (.load 49 v18) w.drew (fun v19 =>
 S.pur (.indexAddr 38 a1 s13) (fun v22 =>
 S.ld (.load 45 v22) w.drew (fun v23 =>
 S.pur (.bin .neq 45 false false v19 v23) (fun v24 =>
 Br v24 (
 K (.bool false) w.drew) (
 S.op (.bin .add 3 false true s13 (.int .i64 1)) w.drew (fun v25 w =>
 I4 v25 w ∧ μ4 v25 w < μ4 s13 wl4) Kp))))))) (
 K (.bool true) w)) Kp) Kp)) Kp) Kp) Kp
theorem vc32_eq : vc32 S a0 a1 w K Kp = fVC S [(4, [13])] [] Tryz.f32 [a0, a1] w K Kp := by kernel_rfl
theorem vc32_calls (h : vc32 nP a0 a1 w K Kp) : Calls Tryz.prog 32 #[a0, a1] w (ret K Kp) :=
 fVC_sound (args := [a0, a1]) nice_le follows_BVcLA Tryz.func32 (by kernel_rfl) (Eq.mp vc32_eq h)
def vc14 (S : Sig) (w : World) (K : KV) (Kp : KP) : Prop :=
 S.op (.build 23 []) w (fun v4 w =>
 S.op (.build 45 [(0, (.int .i64 5)), (2, (.int .i64 1))]) w (fun v5 w =>
 S.op (.build 45 [(0, (.int .i64 (-3))), (2, (.int .i64 2))]) w (fun v6 w =>
 S.op (.buildSlice 38 2 [(0, v5), (1, v6)]) w (fun v7 w =>
 S.call (.fn 22) [(.bool false), v4, v7] w (fun v8 w =>
 S.op (.extract v8 0) w (fun v9 w =>
 S.op (.extract v8 1) w (fun v10 w =>
 Br v10 (
 S.op (.build 45 [(0, (.int .i64 (-3))), (2, (.int .i64 2))]) w (fun v14 w =>
 S.op (.build 45 [(0, (.int .i64 5)), (2, (.int .i64 1))]) w (fun v15 w =>
 S.op (.buildSlice 38 2 [(0, v14), (1, v15)]) w (fun v16 w =>
 S.call (.fn 32) [v9, v16] w (fun v17 w =>
 K v17 w) Kp) Kp) Kp) Kp) (
 K (.bool false) w)) Kp) Kp) Kp) Kp) Kp) Kp) Kp
theorem vc14_eq : vc14 S  w K Kp = fVC S [] [] Tryz.f14 [] w K Kp := by kernel_rfl
theorem vc14_calls (h : vc14 nP  w K Kp) : Calls Tryz.prog 14 #[] w (ret K Kp) :=
 fVC_sound (args := []) nice_le follows_BVcLA Tryz.func14 (by kernel_rfl) (Eq.mp vc14_eq h)
def vc22 (S : Sig) (a0 a1 a2 : Value) (w : World) (K : KV) (Kp : KP) : Prop :=
 S.op (.box 23 a1) w (fun v4 w =>
 S.ld (.load 23 v4) w.drew (fun v12 =>
 S.pur (.build 54 [(0, (.int .u8 3))]) (fun v14 =>
 S.op (.buildSlice 32 1 [(0, v14)]) w.drew (fun v15 w =>
 S.same (.load 23 v4) v12 w ∧
 S.call (.fn 23) [a2, v15] w (fun v16 w =>
 S.same (.load 23 v4) v12 w ∧
 S.call (.fn 15) [a0, v12, v16] w (fun v17 w =>
 S.pur (.extract v17 0) (fun v18 =>
 S.pur (.extract v17 1) (fun v19 =>
 S.op (.un .not v19) w (fun v21 w =>
 Br v21 (
 K (.tuple #[(.slice none 0 0), (.bool false)]) w) (
 S.op (.blt .len [28] 3 [v18]) w (fun v24 w =>
 S.op (.blt .len [38] 3 [a2]) w (fun v26 w =>
 S.op (.bin .add 3 false true v26 (.int .i64 1)) w (fun v27 w =>
 S.op (.bin .neq 3 false false v24 v27) w (fun v28 w =>
 Br v28 (
 K (.tuple #[(.slice none 0 0), (.bool false)]) w) (
 S.op (.blt .len [38] 3 [a2]) w (fun v32 w =>
 S.op (.indexAddr 28 v18 v32) w (fun v33 w =>
 S.op (.fieldAddr 56 v33 3) w (fun v34 w =>
 S.op (.load 46 v34) w (fun v35 w =>
 K (.tuple #[v35, (.bool true)]) w) Kp) Kp) Kp) Kp)) Kp) Kp) Kp) Kp)) Kp))) Kp) Kp) Kp))) Kp
theorem vc22_eq : vc22 S a0 a1 a2 w K Kp = fVC S [] [] Tryz.f22 [a0, a1, a2] w K Kp := by kernel_rfl
theorem vc22_calls (h : vc22 nP a0 a1 a2 w K Kp) : Calls Tryz.prog 22 #[a0, a1, a2] w (ret K Kp) :=
 fVC_sound (args := [a0, a1, a2]) nice_le follows_BVcLA Tryz.func22 (by kernel_rfl) (Eq.mp vc22_eq h)
end Go.Proofs.YtodjijfblgnfmaaGreatDoor
end
section
namespace Go.Vc
variable {P : Program} {w : World} {K : Value → World → Prop} {K1 : Value → Prop} {Kp : KP} {t : TypeId}
end Go.Vc
end
section
namespace Go.Vc.Bt
open Go.Vc
variable {P : Program} {w : World} {K : Value → World → Prop} {K1 : Value → Prop} {Kp : KP} {t : TypeId}
def fldI (P : Program) (f : Field) (o : Nat) : Bool := f.name != "_" && f.offset == o && (match P.underlying f.type with | some (.int .i64) => true | _ => false) && (match ldk P f.type with | some .one => true | _ => false)
def fldS (P : Program) (f : Field) (o : Nat) : Bool := f.name != "_" && f.offset == o && (match P.underlying f.type with | some .string => true | _ => false) && (match ldk P f.type with | some .one => true | _ => false)
def sprT (P : Program) (t : TypeId) : Bool := (match (P.fieldsOf t).toList with
  | [f0, f1, f2] => fldI P f0 0 && fldS P f1 1 && fldI P f2 2
  | _ => false) && !P.stoodInHeld t && !P.eqGuardType P.depth t
theorem fldI_eq {f : Field} {o d : Nat} {fs : List Field} {xs ys : Array Value} {a b : Int} (h : fldI P f o = true) (hx : xs[o]? = some (.int .i64 a)) (hy : ys[o]? = some (.int .i64 b)) (w : World) {r : Bool}
    (hr : (Op.eqFields (d + 1) xs ys fs).run P w = .ok r w) : (Op.eqFields (d + 1) xs ys (f :: fs)).run P w = .ok (decide (a = b) && r) w := by
  simp only [fldI, Bool.and_eq_true] at h
  obtain ⟨⟨⟨h1, h2⟩, h3⟩, h4⟩ := h
  have h2 : f.offset = o := by simpa using h2
  have h1 : f.name ≠ "_" := by simpa using h1
  have hu : P.underlying f.type = some (.int .i64) := by split at h3; assumption; cases h3
  have hl : ldk P f.type = some .one := by split at h4; assumption; cases h4
  have px : (part f.type xs f.offset).run P w = .ok (.int .i64 a) w := by rw [h2]; exact ldk_part hl (by simp [partV, hx]) w
  have py : (part f.type ys f.offset).run P w = .ok (.int .i64 b) w := by rw [h2]; exact ldk_part hl (by simp [partV, hy]) w
  rw [Op.eqFields, if_pos h1]
  simp only [Sem.run_bind, px, py, Result.andThen_ok, run_equalIn_int (k' := .i64) (h := hu)]
  by_cases e : a = b
  · subst e; simp [hr]
  · have e' : (a == b) = false := beq_eq_false_iff_ne.2 e
    simp only [e', Bool.not_false, if_true, Sem.run_pure, decide_eq_false e, Bool.false_and]
theorem fldS_eq {f : Field} {o d : Nat} {fs : List Field} {xs ys : Array Value} {a b : ByteArray} (h : fldS P f o = true) (hx : xs[o]? = some (.string a)) (hy : ys[o]? = some (.string b)) (w : World) {r : Bool}
    (hr : (Op.eqFields (d + 1) xs ys fs).run P w = .ok r w) : (Op.eqFields (d + 1) xs ys (f :: fs)).run P w = .ok (decide (a = b) && r) w := by
  simp only [fldS, Bool.and_eq_true] at h
  obtain ⟨⟨⟨h1, h2⟩, h3⟩, h4⟩ := h
  have h2 : f.offset = o := by simpa using h2
  have h1 : f.name ≠ "_" := by simpa using h1
  have hu : P.underlying f.type = some .string := by split at h3; assumption; cases h3
  have hl : ldk P f.type = some .one := by split at h4; assumption; cases h4
  have px : (part f.type xs f.offset).run P w = .ok (.string a) w := by rw [h2]; exact ldk_part hl (by simp [partV, hx]) w
  have py : (part f.type ys f.offset).run P w = .ok (.string b) w := by rw [h2]; exact ldk_part hl (by simp [partV, hy]) w
  rw [Op.eqFields, if_pos h1]
  simp only [Sem.run_bind, px, py, Result.andThen_ok, run_equalIn_string (h := hu)]
  by_cases e : a = b
  · subst e; simp [hr]
  · have e' : (a.toList == b.toList) = false := beq_eq_false_iff_ne.2 fun h => e (toList_inj.1 h)
    simp only [e', Bool.not_false, if_true, Sem.run_pure, decide_eq_false e, Bool.false_and]
theorem SPr.ext_iff' {x y : SPr} : (decide (x.key = y.key) && (decide (x.text = y.text) && (decide (x.val = y.val) && true))) = decide (x = y) := by
  cases x; cases y; simp
theorem spr_eq_run (ht : P.underlying t = some (.struct (P.fieldsOf t))) (h : sprT P t = true) (x y : SPr) (w : World) : (Op.equal t (.agg x.cells.toArray) (.agg y.cells.toArray)).run P w = .ok (decide (x = y)) w := by
  simp only [sprT, Bool.and_eq_true] at h
  obtain ⟨⟨h1, h2⟩, h3⟩ := h
  have h2 : P.stoodInHeld t = false := by simpa using h2
  unfold Op.equal Op.maxDepth
  rw [run_equalIn_struct w 9999 t _ _ ht h2]
  split at h1
  · rename_i f0 f1 f2 hf
    rw [hf]
    simp only [Bool.and_eq_true] at h1
    obtain ⟨⟨g0, g1⟩, g2⟩ := h1
    rw [fldI_eq (d := 9998) (a := x.key) (b := y.key) g0 rfl rfl w (fldS_eq (a := x.text) (b := y.text) g1 rfl rfl w (fldI_eq (a := x.val) (b := y.val) g2 rfl rfl w (r := true) (by simp [Op.eqFields])))]
    rw [SPr.ext_iff']
  · cases h1
theorem pur_neq_spr (ht : P.underlying t = some (.struct (P.fieldsOf t))) (h : sprT P t = true) {x y : SPr} (hK : K1 (.bool (!decide (x = y)))) :
    (nice P).pur (.bin .neq t false false (.agg x.cells.toArray) (.agg y.cells.toArray)) K1 := by
  refine ⟨_, fun w => ?_, hK⟩
  have hg : P.eqGuardType P.depth t = false := by
    simp only [sprT, Bool.and_eq_true] at h; simpa using h.2
  have h2 : ∀ w, (eqGuard .neq t (opd false) (opd false) (.agg x.cells.toArray) (.agg y.cells.toArray)).run P w = .ok () w := fun w => by
    have hp : (program : Sem Program).run P w = .ok P w := rfl
    simp [eqGuard, hp, hg]
  simp only [VOp.sem, Sem.run_bind, h2, Result.andThen_ok]
  simp [binOp, spr_eq_run ht h]
/-! ### scripts that put pairs -/
def putSteps (ps : List SPr) : List SSt := ps.mapIdx fun i p => ⟨0, i, p.key, p.text, p.val, 0, 0⟩
theorem putSteps_len (ps : List SPr) : (putSteps ps).length = ps.length := by simp [putSteps]
theorem putSteps_snoc (ps : List SPr) (p : SPr) : putSteps (ps ++ [p]) = putSteps ps ++ [⟨0, ps.length, p.key, p.text, p.val, 0, 0⟩] := by simp [putSteps, List.mapIdx_append]
def SSt.later (n : Nat) (s : SSt) : SSt := { s with fro := IntKind.i64.wrap (s.fro + n) }
theorem putSteps_mem {ps : List SPr} {s : SSt} (h : s ∈ putSteps ps) : s.op = 0 ∧ s.count = 0 ∧ ∃ p ∈ ps, s.text = p.text := by
  simp only [putSteps, List.mem_mapIdx] at h
  obtain ⟨i, hi, rfl⟩ := h
  exact ⟨rfl, rfl, _, List.getElem_mem hi, rfl⟩
theorem putSteps_cost : ∀ (ps : List SPr), scost (putSteps ps) = ps.length := by
  intro ps
  rw [← List.reverse_reverse ps]
  generalize ps.reverse = r
  induction r with
  | nil => rfl
  | cons p r ih => rw [List.reverse_cons, putSteps_snoc, scost_snoc, ih]; simp [SSt.cost]
section
variable {κ : Type} [DecidableEq κ] {lt : κ → κ → Bool} {kd : Kd κ}
def Kd.kv (kd : Kd κ) (p : SPr) : κ × Int := (kd.key p.key p.text, p.val)
theorem atV_small {s : SSt} {i n : Nat} (h : s.fro = i) (hi : i < n) : atV s n = i := by
  unfold atV
  rw [h, Int.emod_eq_of_lt (by omega) (by omega)]; simp
theorem runS_put (ps : List SPr) : (runS lt kd (putSteps ps)).1.length = ps.length + 1 ∧ (runS lt kd (putSteps ps)).1[ps.length]? = some (putAll lt [] (ps.map kd.kv)) ∧ (runS lt kd (putSteps ps)).2.length = ps.length := by
  rw [← List.reverse_reverse ps]
  generalize ps.reverse = r
  induction r with
  | nil => exact ⟨rfl, rfl, rfl⟩
  | cons p r ih =>
    obtain ⟨h1, h2, h3⟩ := ih
    rw [List.reverse_cons, putSteps_snoc, runS_snoc]
    generalize runS lt kd (putSteps r.reverse) = q at *
    have ha : atV (⟨0, (r.reverse.length : Nat), p.key, p.text, p.val, 0, 0⟩ : SSt) q.1.length = r.reverse.length := atV_small rfl (by omega)
    unfold oneS
    rw [ha, h2, Option.getD_some]
    have hn : newV lt kd ⟨0, (r.reverse.length : Nat), p.key, p.text, p.val, 0, 0⟩ (putAll lt [] (r.reverse.map kd.kv)) = some (put lt (putAll lt [] (r.reverse.map kd.kv)) (kd.key p.key p.text) p.val) := by unfold newV; rw [if_pos rfl]
    rw [hn]
    refine ⟨?_, ?_, ?_⟩
    · rw [Option.toList_some, List.length_append, List.length_singleton, List.length_append, List.length_singleton, h1]
    · rw [Option.toList_some, List.length_append, List.length_singleton, List.getElem?_append_right (by omega), h1, Nat.sub_self, List.map_append, List.map_singleton, putAll_snoc]
      rfl
    · rw [List.length_append, List.length_singleton, List.length_append, List.length_singleton, h3]
end
end Go.Vc.Bt
namespace Go.Vc.Bt
open Go.Vc
variable {P : Program} {w : World} {K : Value → World → Prop} {Kp : KP}
theorem sameLoop {t1 e1 t2 e2 t3 : TypeId} {l1 l2 : Value} {xs : List SPr} (s1 : sliceOf P t1 = some (e1, 3)) (s2 : sliceOf P t2 = some (e2, 3)) (d1 : ldk P e1 = some (.agg 3)) (d2 : ldk P e2 = some (.agg 3)) (ht : P.underlying t3 = some (.struct (P.fieldsOf t3))) (hq : sprT P t3 = true)
    (k1 : kd P t1 = .slice) (h1 : IsSl w l1 xs.length (xs.flatMap SPr.cells)) (h2 : IsSl w l2 xs.length (xs.flatMap SPr.cells)) (hn : xs.length < 2 ^ 60) (hK : ∀ w', Frm (fun _ => False) w w' → K (.bool true) w') :
    (nice P).op (.blt Builtin.len [t1] 3 [l1]) w (fun v50 w =>
    Lp fun (I10 : Value → World → Prop) (μ10 : Value → World → Nat) => I10 (Value.int IntKind.i64 0) w ∧
    ∀ (wl10 : World) (junk : Nat → Value) (s51_ : Value), I10 s51_ wl10 →
      (nice P).op (.bin BinOp.lss 3 false false s51_ v50) wl10 (fun v52 w =>
      Br v52 (
        (nice P).pur (.indexAddr t1 l1 s51_) (fun v56 =>
        (nice P).ld (.load e1 v56) w.drew (fun v57 =>
        (nice P).pur (.indexAddr t2 l2 s51_) (fun v60 =>
        (nice P).ld (.load e2 v60) w.drew (fun v61 =>
        (nice P).pur (.bin BinOp.neq t3 false false v57 v61) (fun v62 =>
        Br v62 (
          K (Value.bool false) w.drew) (
          (nice P).op (.bin BinOp.add 3 false true s51_ (Value.int IntKind.i64 1)) w.drew (fun v63 w =>
          I10 v63 w ∧ μ10 v63 w < μ10 s51_ wl10) Kp))))))) (
        K (Value.bool true) w)) Kp) Kp := by
  obtain ⟨a1, c1, rfl, hc1, hm1, r1, _⟩ := h1
  obtain ⟨a2, c2, rfl, hc2, hm2, r2, _⟩ := h2
  rw [op_len_slice k1]
  obtain ⟨I, hI⟩ : ∃ I : Value → World → Prop, ∀ v wl, I v wl ↔ ∃ i : Nat, v = .int .i64 i ∧ i ≤ xs.length ∧ Frm (fun _ => False) w wl := ⟨_, fun _ _ => Iff.rfl⟩
  refine Lp.intro I (fun v _ => xs.length - (match v with | .int _ j => j.toNat | _ => 0)) ⟨(hI _ _).2 ⟨0, rfl, by omega, Frm.refl⟩, ?_⟩
  intro wl _ v hv
  obtain ⟨i, rfl, hi, kl⟩ := (hI _ _).1 hv
  simp only [op_lss, Br_dec]
  refine ⟨fun hlt => ?_, fun hge => hK wl kl⟩
  have hi' : i < xs.length := by omega
  have kd := kl.no (Frm.drew wl)
  obtain ⟨b1, o1, cs1, e1', f1, rfl, q1, q2, q3⟩ := (r1.frame kd fun _ _ h => h).part SPr.len (by decide) hi'
  obtain ⟨b2, o2, cs2, e2', f2, rfl, p1, p2, p3⟩ := (r2.frame kd fun _ _ h => h).part SPr.len (by decide) hi'
  rw [pur_ix_slice s1]
  refine ⟨⟨by omega, by omega⟩, ?_⟩
  rw [add_spot rfl, ld_ldn d1]
  simp only [Int.toNat_natCast]
  refine ⟨cs1, e1', f1, q1, trivial, q2, ?_⟩
  rw [q3, pur_ix_slice s2]
  refine ⟨⟨by omega, by omega⟩, ?_⟩
  rw [add_spot rfl, ld_ldn d2]
  simp only [Int.toNat_natCast]
  refine ⟨cs2, e2', f2, p1, trivial, p2, ?_⟩
  rw [p3]
  refine pur_neq_spr ht hq ?_
  rw [decide_eq_true rfl]
  show Br (.bool false) _ _
  rw [show ∀ A B : Prop, Br (.bool false) A B = B from fun A B => by simp [Br], op_add]
  have e : IntKind.i64.wrap ((i : Int) + 1) = ((i + 1 : Nat) : Int) := by rw [IntKind.wrap_i64]; omega
  rw [e]
  refine ⟨(hI _ _).2 ⟨i + 1, rfl, by omega, kd⟩, ?_⟩
  simp only [Int.toNat_natCast]; omega
end Go.Vc.Bt
namespace Go.Vc.Bt
section
variable {κ : Type} [DecidableEq κ] {lt : κ → κ → Bool} {kd : Kd κ}
def prsOf (kd : Kd κ) (L : Vn κ) : List SPr := L.map fun e => kd.pair e.1 e.2
theorem runS_items (ps : List SPr) (hn : ps.length < 2 ^ 31) {s : SSt} (hop : s.op = 3) (h0 : s.fro = 0) :
    (runS lt kd (putSteps ps ++ [s.later ps.length])).2.length = ps.length + 1 ∧
    ((runS lt kd (putSteps ps ++ [s.later ps.length])).2[ps.length]?).map SAns.list = some (prsOf kd (putAll lt [] (ps.map kd.kv))) := by
  obtain ⟨h1, h2, h3⟩ := runS_put (lt := lt) (kd := kd) ps
  rw [runS_snoc]
  generalize runS lt kd (putSteps ps) = q at *
  have hf : (s.later ps.length).fro = ps.length := by
    show IntKind.i64.wrap (s.fro + ps.length) = _
    rw [h0, IntKind.wrap_i64]; omega
  have ha : atV (s.later ps.length) q.1.length = ps.length := atV_small hf (by omega)
  unfold oneS
  rw [ha, h2, Option.getD_some]
  refine ⟨by rw [List.length_append, List.length_singleton, h3], ?_⟩
  rw [List.getElem?_append_right (by omega), h3, Nat.sub_self]
  have ho : (s.later ps.length).op = 3 := hop
  unfold ansV
  rw [if_neg (by omega), if_pos ho]; rfl
end
end Go.Vc.Bt
namespace Go.Vc.Bt
section
variable {κ : Type} [DecidableEq κ] {lt : κ → κ → Bool} {kd : Kd κ}
end
end Go.Vc.Bt
end
section
namespace Go.Proofs.YtodjijfblgnfmaaGreatDoor
open Go.Vc Go.Proofs Go.Vc.Bt
variable {w w' : World} {K : KV} {Kp : KP} {n : Int} {kn : Nat} {a1 : Option Addr} {c1 : Nat} {ps : List SPr}
theorem fits7_ok {p : SPr} (hK : ∀ b w', Frm (fun _ => False) w w' → K (.bool b) w') : Calls Tryz.prog 24 #[.agg p.cells.toArray] w (ret K Kp) := by
  refine vc24_calls ?_
  delta vc24
  refine op_box_ok fun w1 k1 z1 b1 => ?_
  simp only [cells_agg, SPr.cells] at b1
  have h0 := hK true w1 k1
  have h1 := hK false w1 k1
  simp [-getElem?_pos, -Array.getElem?_eq_getElem, -Int.natCast_add, -op_alloc_45, -op_st_45, b1]
  exact ⟨fun _ => h1, fun _ => h0⟩
theorem fits6_ok (hr : Row w a1 (ps.flatMap SPr.cells)) (hK : ∀ b w', Frm (fun _ => False) w w' → (b = true → ps.length ≤ 2147483647) → K (.bool b) w') : Calls Tryz.prog 19 #[.slice a1 ps.length c1] w (ret K Kp) := by
  refine vc19_calls ?_
  delta vc19
  simp [-getElem?_pos, -Array.getElem?_eq_getElem, -Int.natCast_add, -op_alloc_45, -op_st_45]
  refine ⟨fun _ => hK false w Frm.refl (fun h => nomatch h), fun hle => ?_⟩
  obtain ⟨I, hI⟩ : ∃ I : KV, ∀ v wl, I v wl ↔ ∃ i : Nat, v = .int .i64 i ∧ i ≤ ps.length ∧ Frm (fun _ => False) w wl := ⟨_, fun _ _ => Iff.rfl⟩
  refine Lp.intro I (fun v _ => ps.length - nOf v) ⟨(hI _ _).2 ⟨0, rfl, by omega, Frm.refl⟩, ?_⟩
  intro wl v hv
  obtain ⟨i, rfl, hi, kl⟩ := (hI _ _).1 hv
  simp only [op_lss, Br_dec]
  refine ⟨fun hlt => ?_, fun hge => hK true wl kl fun _ => by omega⟩
  have hi' : i < ps.length := by omega
  obtain ⟨b, o, cs, e, fz, rfl, q1, q2, q3⟩ := (hr.frame kl fun _ _ h => h).part SPr.len (by decide) hi'
  simp [-getElem?_pos, -Array.getElem?_eq_getElem, -Int.natCast_add, -op_alloc_45, -op_st_45, q1, q2, q3]
  refine ⟨hi', ?_⟩
  refine op_alloc_ok (z := .agg #[.int .i64 0, .string ByteArray.empty, .int .i64 0]) (by kernel_rfl) fun w5 k5 z5 b5 => ?_
  simp only [cells_agg] at b5
  refine op_storeN_ok (n := 3) (by kernel_rfl) b5 rfl (by decide) (by simp [SPr.cells]) fun w6 k6 z6 b6 => ?_
  have b6 : w6.heap[wl.heap.size]? = some (.cells ps[i].cells.toArray 45 (0, 0)) := by
    rw [ow_all (by simp [SPr.cells])] at b6; exact b6
  have hx : ps[i].cells.toArray.extract 0 3 = ps[i].cells.toArray := extract_self (by simp [SPr.cells])
  have hs3 : 3 ≤ ps[i].cells.length := Nat.le_refl _
  simp [-getElem?_pos, -Array.getElem?_eq_getElem, -Int.natCast_add, -op_alloc_45, -op_st_45, b6, hx, hs3]
  refine fits7_ok fun b w7 k7 => ?_
  have k67 := (kl.no (k5.old k6 fun c hc => .inr (by omega))).no k7
  cases b with
  | false =>
    simp [-getElem?_pos, -Array.getElem?_eq_getElem, -Int.natCast_add, -op_alloc_45, -op_st_45]
    exact hK false w7 k67 (fun h => nomatch h)
  | true =>
    simp [-getElem?_pos, -Array.getElem?_eq_getElem, -Int.natCast_add, -op_alloc_45, -op_st_45]
    rw [show IntKind.i64.wrap ((i : Int) + 1) = ((i + 1 : Nat) : Int) from by rw [IntKind.wrap_i64]; omega]
    exact ⟨(hI _ _).2 ⟨i + 1, rfl, by omega, k67⟩, by simp only [nOf_int]; omega⟩
def Right (kn : Nat) (n : Int) : Prop := kn ≤ 3 ∧ (kn = 3 → 1 ≤ n ∧ n ≤ 1000)
theorem right_ok (hK : ∀ b w', Frm (fun _ => False) w w' → (b = true ↔ Right kn n) → K (.bool b) w') : Calls Tryz.prog 29 #[orderV kn n] w (ret K Kp) := by
  refine vc29_calls ?_
  delta vc29 orderV
  refine op_box_ok fun w1 k1 z1 b1 => ?_
  simp only [cells_agg] at b1
  have h0 := fun h => hK true w1 k1 h
  have h1 := fun h => hK false w1 k1 h
  simp [-getElem?_pos, -Array.getElem?_eq_getElem, -Int.natCast_add, -op_alloc_45, -op_st_45, b1]
  refine ⟨fun h3 => ⟨fun hne => h0 ⟨fun _ => ⟨by omega, fun e => by omega⟩, fun _ => rfl⟩, fun he => ⟨fun hn => ?_, fun hn => h1 ⟨(fun h => nomatch h), fun h => ?_⟩⟩⟩, fun h3 => h1 ⟨(fun h => nomatch h), fun h => ?_⟩⟩
  · refine hK _ w1 k1 ?_
    unfold Right
    rw [decide_eq_true_iff]
    constructor
    · intro h; exact ⟨by omega, fun _ => ⟨hn, h⟩⟩
    · intro h; exact (h.2 (by omega)).2
  · have := h.2 (by omega); omega
  · have := h.1; omega
theorem pairsRight_ok (hr : Row w a1 (ps.flatMap SPr.cells)) (hK : ∀ b w', Frm (fun _ => False) w w' → (b = true → Right kn n ∧ ps.length ≤ 1000 ∧ ∀ p ∈ ps, p.text.size ≤ 100) → K (.bool b) w') : Calls Tryz.prog 20 #[orderV kn n, .slice a1 ps.length c1] w (ret K Kp) := by
  refine vc20_calls ?_
  delta vc20 orderV
  refine op_box_ok fun w1 k1 z1 b1 => ?_
  simp only [cells_agg] at b1
  have hx2 : (#[.int .u8 kn, .int .i64 n] : Array Value).extract 0 2 = #[.int .u8 kn, .int .i64 n] := rfl
  simp [-getElem?_pos, -Array.getElem?_eq_getElem, -Int.natCast_add, -op_alloc_45, -op_st_45, b1, hx2]
  refine right_ok (kn := kn) (n := n) fun b w2 k2 hb => ?_
  have k12 := k1.no k2
  cases b with
  | false =>
    simp [-getElem?_pos, -Array.getElem?_eq_getElem, -Int.natCast_add, -op_alloc_45, -op_st_45]
    exact hK false w2 k12 (fun h => nomatch h)
  | true =>
    have hri := hb.1 rfl
    simp [-getElem?_pos, -Array.getElem?_eq_getElem, -Int.natCast_add, -op_alloc_45, -op_st_45]
    refine ⟨fun _ => hK false w2 k12 (fun h => nomatch h), fun hle => ?_⟩
    obtain ⟨I, hI⟩ : ∃ I : KV, ∀ v wl, I v wl ↔ ∃ i : Nat, v = .int .i64 i ∧ i ≤ ps.length ∧ Frm (fun _ => False) w wl ∧ ∀ p ∈ ps.take i, p.text.size ≤ 100 := ⟨_, fun _ _ => Iff.rfl⟩
    refine Lp.intro I (fun v _ => ps.length - nOf v) ⟨(hI _ _).2 ⟨0, rfl, by omega, k12, by simp⟩, ?_⟩
    intro wl v hv
    obtain ⟨i, rfl, hi, kl, hall⟩ := (hI _ _).1 hv
    simp only [op_lss, Br_dec]
    refine ⟨fun hlt => ?_, fun hge => hK true wl kl fun _ => ⟨hri, by omega, by rwa [List.take_of_length_le (by omega)] at hall⟩⟩
    have hi' : i < ps.length := by omega
    obtain ⟨b, o, cs, e, fz, rfl, q1, q2, q3⟩ := (hr.frame kl fun _ _ h => h).part SPr.len (by decide) hi'
    simp [-getElem?_pos, -Array.getElem?_eq_getElem, -Int.natCast_add, -op_alloc_45, -op_st_45, q1, q2, q3]
    refine ⟨hi', ?_⟩
    refine op_alloc_ok (z := .agg #[.int .i64 0, .string ByteArray.empty, .int .i64 0]) (by kernel_rfl) fun w5 k5 z5 b5 => ?_
    simp only [cells_agg] at b5
    refine op_storeN_ok (n := 3) (by kernel_rfl) b5 rfl (by decide) (by simp [SPr.cells]) fun w6 k6 z6 b6 => ?_
    have b6 : w6.heap[wl.heap.size]? = some (.cells #[.int .i64 ps[i].key, .string ps[i].text, .int .i64 ps[i].val] 45 (0, 0)) := by
      rw [ow_all (by simp [SPr.cells])] at b6; exact b6
    have k6' := kl.no (k5.old k6 fun c hc => .inr (by omega))
    simp [-getElem?_pos, -Array.getElem?_eq_getElem, -Int.natCast_add, -op_alloc_45, -op_st_45, b6]
    refine ⟨fun _ => hK false w6 k6' (fun h => nomatch h), fun h100 => ?_⟩
    rw [show IntKind.i64.wrap ((i : Int) + 1) = ((i + 1 : Nat) : Int) from by rw [IntKind.wrap_i64]; omega]
    refine ⟨(hI _ _).2 ⟨i + 1, rfl, by omega, k6', fun p hp => ?_⟩, by simp only [nOf_int]; omega⟩
    rw [List.take_succ_eq_append_getElem hi'] at hp
    rcases List.mem_append.1 hp with hp | hp
    · exact hall p hp
    · rw [List.mem_singleton.1 hp]; omega
end Go.Proofs.YtodjijfblgnfmaaGreatDoor
end
section
namespace Go.Proofs.YtodjijfblgnfmaaGreatDoor
open Go.Vc Go.Proofs Go.Vc.Bt
variable {w w' : World} {K : KV} {Kp : KP} {n : Int} {a1 : Option Addr} {c1 : Nat} {ps : List SPr}
theorem apS : apOf Tryz.prog 32 = some (54, 7, 64) := by kernel_rfl
theorem lit_st (s : SSt) : sliceLit Tryz.prog 32 1 [(0, .agg s.cells.toArray)] = some (54, s.cells.toArray) := lit_32_1
theorem sortedPut_ok {m : List SSt} {v2 : Value} (hr : Row w a1 (ps.flatMap SPr.cells)) (hm : IsSl w v2 m.length (m.flatMap SSt.cells)) (hn : ps.length ≤ 2 ^ 20) (hml : m.length ≤ 1000)
    (hK : ∀ l w', Frm (fun _ => False) w w' → RowsOf (Flat SSt.cells) w' w.heap.size 54 7 l (putSteps ps ++ m.map (SSt.later ps.length)) (fun _ => False) → K l w') :
    Calls Tryz.prog 23 #[.slice a1 ps.length c1, v2] w (ret K Kp) := by
  have hE := flat_ok SSt.cells
  obtain ⟨a2, c2, rfl, hc2, hm2, hr2, _⟩ := hm
  refine vc23_calls ?_
  delta vc23
  simp [-getElem?_pos, -Array.getElem?_eq_getElem, -Int.natCast_add, -op_alloc_45, -op_st_45, -op_alloc_54, -op_st_54, -op_lit_32_1, -op_st_3]
  obtain ⟨I, hI⟩ : ∃ I : Value → KV, ∀ l v wl, I l v wl ↔ ∃ i : Nat, v = .int .i64 i ∧ i ≤ ps.length ∧ Frm (fun _ => False) w wl ∧ RowsOf (Flat SSt.cells) wl w.heap.size 54 7 l (putSteps (ps.take i)) (fun _ => False) := ⟨_, fun _ _ _ => Iff.rfl⟩
  refine Lp.intro I (fun _ v _ => ps.length - nOf v) ⟨(hI _ _ _).2 ⟨0, rfl, by omega, Frm.refl, rows_nil⟩, ?_⟩
  intro wl l v hv
  obtain ⟨i, rfl, hi, kl, hR⟩ := (hI _ _ _).1 hv
  have hlow := hR.own_lt
  have nl := kl.size
  simp only [op_lss, Br_dec]
  refine ⟨fun hlt => ?_, fun hge => ?_⟩
  · have hi' : i < ps.length := by omega
    obtain ⟨b, o, cs, e, fz, rfl, q1, q2, q3⟩ := (hr.frame kl fun _ _ h => h).part SPr.len (by decide) hi'
    simp [-getElem?_pos, -Array.getElem?_eq_getElem, -Int.natCast_add, -op_alloc_45, -op_st_45, -op_alloc_54, -op_st_54, -op_lit_32_1, -op_st_3, q1, q2, q3]
    refine ⟨hi', ?_⟩
    refine op_alloc_ok (z := .agg #[.int .i64 0, .string ByteArray.empty, .int .i64 0]) (by kernel_rfl) fun w5 k5 z5 b5 => ?_
    simp only [cells_agg] at b5
    refine op_storeN_ok (n := 3) (by kernel_rfl) b5 rfl (by decide) (by simp [SPr.cells]) fun w6 k6 z6 b6 => ?_
    have b6 : w6.heap[wl.heap.size]? = some (.cells #[.int .i64 ps[i].key, .string ps[i].text, .int .i64 ps[i].val] 45 (0, 0)) := by
      rw [ow_all (by simp [SPr.cells])] at b6; exact b6
    have k6' := k5.old k6 fun c hc => .inr (by omega)
    have hR6 := hR.still hE k6'
    have n6 := k6'.size
    simp [-getElem?_pos, -Array.getElem?_eq_getElem, -Int.natCast_add, -op_alloc_45, -op_st_45, -op_alloc_54, -op_st_54, -op_lit_32_1, -op_st_3, b6]
    have htl : (putSteps (ps.take i)).length = i := by rw [putSteps_len, List.length_take]; omega
    have e0 : (#[.int .u8 0, .int .i64 (i : Nat), .int .i64 ps[i].key, .string ps[i].text, .int .i64 ps[i].val, .int .i64 0, .int .i64 0] : Array Value) = (⟨0, (i : Nat), ps[i].key, ps[i].text, ps[i].val, 0, 0⟩ : SSt).cells.toArray := by simp [SSt.cells]
    rw [e0]
    generalize hs0 : (⟨0, (i : Nat), ps[i].key, ps[i].text, ps[i].val, 0, 0⟩ : SSt) = s0 at *
    refine op_push (u := s0.cells) (y := s0) (G2 := fun _ => False) hE apS (lit_st _) rfl (SSt.one _) hR6 rfl (fun _ h => h.elim) (fun _ _ h => h) (by rw [htl]; omega) (by omega) fun l' w7 k7 hR7 ho7 => ?_
    try simp [-getElem?_pos, -Array.getElem?_eq_getElem, -Int.natCast_add, -op_alloc_45, -op_st_45, -op_alloc_54, -op_st_54, -op_lit_32_1, -op_st_3]
    rw [show IntKind.i64.wrap ((i : Int) + 1) = ((i + 1 : Nat) : Int) from by rw [IntKind.wrap_i64]; omega]
    refine ⟨(hI _ _ _).2 ⟨i + 1, rfl, by omega, (kl.no k6').old k7 fun c hc => .inr (hlow c hc.symm).1, ?_⟩, by simp only [nOf_int]; omega⟩
    rw [List.take_succ_eq_append_getElem hi', putSteps_snoc, List.length_take, Nat.min_eq_left (by omega), hs0]
    exact hR7.mono hE (fun _ h => h.elim id fun h => h) (fun _ h => h.elim) fun _ _ h => h
  · have : i = ps.length := by omega
    subst this
    rw [List.take_length] at hR
    clear hI I hv
    try simp [-getElem?_pos, -Array.getElem?_eq_getElem, -Int.natCast_add, -op_alloc_45, -op_st_45, -op_alloc_54, -op_st_54, -op_lit_32_1, -op_st_3]
    obtain ⟨I, hI⟩ : ∃ I : Value → KV, ∀ l v wl, I l v wl ↔ ∃ i : Nat, v = .int .i64 i ∧ i ≤ m.length ∧ Frm (fun _ => False) w wl ∧ RowsOf (Flat SSt.cells) wl w.heap.size 54 7 l (putSteps ps ++ (m.take i).map (SSt.later ps.length)) (fun _ => False) := ⟨_, fun _ _ _ => Iff.rfl⟩
    refine Lp.intro I (fun _ v _ => m.length - nOf v) ⟨(hI _ _ _).2 ⟨0, rfl, by omega, kl, by simpa using hR⟩, ?_⟩
    clear hlow nl kl hR hi hge
    intro wl l v hv
    obtain ⟨i, rfl, hi, kl, hR⟩ := (hI _ _ _).1 hv
    have hlow := hR.own_lt
    have nl := kl.size
    simp only [op_lss, Br_dec]
    refine ⟨fun hlt => ?_, fun hge => ?_⟩
    · have hi' : i < m.length := by omega
      obtain ⟨b, o, cs, e, fz, rfl, q1, q2, q3⟩ := (hr2.frame kl fun _ _ h => h).part SSt.len (by decide) hi'
      simp [-getElem?_pos, -Array.getElem?_eq_getElem, -Int.natCast_add, -op_alloc_45, -op_st_45, -op_alloc_54, -op_st_54, -op_lit_32_1, -op_st_3, q1, q2, q3]
      refine ⟨hi', ?_⟩
      refine op_alloc_ok (z := .agg #[.int .u8 0, .int .i64 0, .int .i64 0, .string ByteArray.empty, .int .i64 0, .int .i64 0, .int .i64 0]) (by kernel_rfl) fun w5 k5 z5 b5 => ?_
      simp only [cells_agg] at b5
      refine op_storeN_ok (n := 7) (by kernel_rfl) b5 rfl (by decide) (by simp [SSt.cells]) fun w6 k6 z6 b6 => ?_
      have b6 : w6.heap[wl.heap.size]? = some (.cells #[.int .u8 m[i].op, .int .i64 m[i].fro, .int .i64 m[i].key, .string m[i].text, .int .i64 m[i].value, .int .i64 m[i].count, .int .i64 m[i].by'] 54 (0, 0)) := by
        rw [ow_all (by simp [SSt.cells])] at b6; exact b6
      have k6' := k5.old k6 fun c hc => .inr (by omega)
      simp [-getElem?_pos, -Array.getElem?_eq_getElem, -Int.natCast_add, -op_alloc_45, -op_st_45, -op_alloc_54, -op_st_54, -op_lit_32_1, -op_st_3, b6]
      refine op_store_ok (by kernel_rfl) b6 (by simp) rfl fun w7 k7 z7 b7 => ?_
      have b7 : w7.heap[wl.heap.size]? = some (.cells (m[i].later ps.length).cells.toArray 54 (0, 0)) := by simpa [SSt.later, SSt.cells] using b7
      have k7' := k6'.old k7 fun c hc => .inr (by omega)
      have hR7 := hR.still hE k7'
      have n7 := k7'.size
      have hx : (m[i].later ps.length).cells.toArray.extract 0 7 = (m[i].later ps.length).cells.toArray := extract_self (by simp [SSt.cells])
      have hs7 : 7 ≤ (m[i].later ps.length).cells.length := Nat.le_refl _
      simp [-getElem?_pos, -Array.getElem?_eq_getElem, -Int.natCast_add, -op_alloc_45, -op_st_45, -op_alloc_54, -op_st_54, -op_lit_32_1, -op_st_3, b7, hx, hs7]
      have htl : (putSteps ps ++ (m.take i).map (SSt.later ps.length)).length = ps.length + i := by rw [List.length_append, putSteps_len, List.length_map, List.length_take]; omega
      refine op_push (u := (m[i].later ps.length).cells) (y := m[i].later ps.length) (G2 := fun _ => False) hE apS (lit_st _) rfl (SSt.one _) hR7 rfl (fun _ h => h.elim) (fun _ _ h => h) (by rw [htl]; omega) (by omega) fun l' w8 k8 hR8 ho8 => ?_
      try simp [-getElem?_pos, -Array.getElem?_eq_getElem, -Int.natCast_add, -op_alloc_45, -op_st_45, -op_alloc_54, -op_st_54, -op_lit_32_1, -op_st_3]
      rw [show IntKind.i64.wrap ((i : Int) + 1) = ((i + 1 : Nat) : Int) from by rw [IntKind.wrap_i64]; omega]
      refine ⟨(hI _ _ _).2 ⟨i + 1, rfl, by omega, (kl.no k7').old k8 fun c hc => .inr (hlow c hc.symm).1, ?_⟩, by simp only [nOf_int]; omega⟩
      rw [List.take_succ_eq_append_getElem hi', List.map_append, ← List.append_assoc]
      exact hR8.mono hE (fun _ h => h.elim id fun h => h) (fun _ h => h.elim) fun _ _ h => h
    · have : i = m.length := by omega
      subst this
      rw [List.take_length] at hR
      exact hK l wl kl hR
end Go.Proofs.YtodjijfblgnfmaaGreatDoor
end
section
namespace Go.Proofs.YtodjijfblgnfmaaGreatDoor
open Go.Vc Go.Proofs Go.Vc.Bt
variable {w w' : World} {K : KV} {Kp : KP} {n : Int} {kn : Nat} {text : Bool} {a1 : Option Addr} {c1 : Nat} {ps : List SPr}
def itemsOf (text : Bool) (kn : Nat) (n : Int) (ps : List SPr) : List SPr := if text then prsOf T.kd (putAll (T.ordI kn n) [] (ps.map T.kd.kv)) else prsOf I.kd (putAll (I.ordI kn n) [] (ps.map I.kd.kv))
theorem items_ans (hn : ps.length < 2 ^ 31) {s : SSt} (hop : s.op = 3) (h0 : s.fro = 0) : (ansOf text kn n (putSteps ps ++ [s.later ps.length])).length = ps.length + 1 ∧ ((ansOf text kn n (putSteps ps ++ [s.later ps.length]))[ps.length]?).map SAns.list = some (itemsOf text kn n ps) := by
  unfold ansOf itemsOf
  cases text
  · exact runS_items ps hn hop h0
  · exact runS_items ps hn hop h0
theorem items_len : (itemsOf text kn n ps).length ≤ ps.length := by
  unfold itemsOf
  cases text <;> simp [prsOf]
  · have := putAll_len (lt := I.ordI kn n) (ps.map I.kd.kv) []; simpa using this
  · have := putAll_len (lt := T.ordI kn n) (ps.map T.kd.kv) []; simpa using this
theorem asks_puts {steps : List SSt} (h1 : ∀ s ∈ steps, s.text.size ≤ 100) (h2 : scost steps < 2 ^ 30) (h3 : ∀ s ∈ steps, s.op = 0 ∨ s.op = 3) : Asks text kn n steps w :=
  ⟨h1, h2, fun ⟨s, hs, h⟩ => by have := h3 s hs; omega, fun ⟨s, hs, h⟩ => by have := h3 s hs; omega, fun ⟨s, hs, h⟩ => by have := h3 s hs; omega, fun ⟨s, hs, h⟩ => by have := h3 s hs; omega⟩
theorem sortedItems_ok (h1 : -9223372036854775808 ≤ n) (h2 : n ≤ 9223372036854775807) (hr : Row w a1 (ps.flatMap SPr.cells)) (hn : ps.length ≤ 1000) (ht : ∀ p ∈ ps, p.text.size ≤ 100)
    (hK : ∀ v w', Frm (fun _ => False) w w' → IsSl w' v (itemsOf text kn n ps).length ((itemsOf text kn n ps).flatMap SPr.cells) → K (.tuple #[v, .bool true]) w') :
    Calls Tryz.prog 22 #[.bool text, orderV kn n, .slice a1 ps.length c1] w (ret K Kp) := by
  refine vc22_calls ?_
  delta vc22
  refine op_box_ok fun w1 k1 z1 b1 => ?_
  simp only [orderV, cells_agg] at b1
  have hx2 : (#[.int .u8 kn, .int .i64 n] : Array Value).extract 0 2 = #[.int .u8 kn, .int .i64 n] := rfl
  simp [-getElem?_pos, -Array.getElem?_eq_getElem, -Int.natCast_add, -op_lit_32_1, -op_lit_38_2, b1, hx2]
  have e0 : (#[.int .u8 3, .int .i64 0, .int .i64 0, .string ByteArray.empty, .int .i64 0, .int .i64 0, .int .i64 0] : Array Value) = (⟨3, 0, 0, ByteArray.empty, 0, 0, 0⟩ : SSt).cells.toArray := by simp [SSt.cells]
  rw [e0]
  generalize hs0 : (⟨3, 0, 0, ByteArray.empty, 0, 0, 0⟩ : SSt) = s0 at *
  refine op_lit_ok (lit_st s0) fun w2 k2 z2 b2 => ?_
  have k2 := Frm.dr k2
  have q2 := k2.get b1 fun h => h
  simp [-getElem?_pos, -Array.getElem?_eq_getElem, -Int.natCast_add, -op_lit_32_1, -op_lit_38_2, q2, hx2]
  have hop : s0.op = 3 := by rw [← hs0]
  have h0 : s0.fro = 0 := by rw [← hs0]
  have ht0 : s0.text.size ≤ 100 := by rw [← hs0]; exact Nat.zero_le _
  have hc0 : s0.cost = 1 := by rw [← hs0]; rfl
  have k12 := k1.no k2
  refine sortedPut_ok (m := [s0]) (hr.frame k12 fun _ _ h => h) ⟨_, _, rfl, Nat.le_refl _, by simp [maxLen], .inr ⟨_, 0, _, _, _, rfl, b2, fun j v hj => by simpa using hj⟩, fun h => nomatch h⟩ (by omega) (by simp) fun l w3 k3 hR3 => ?_
  have hasks : ∀ wz, Asks text kn n (putSteps ps ++ [s0].map (SSt.later ps.length)) wz := fun wz => by
    refine asks_puts (fun s hs => ?_) ?_ fun s hs => ?_
    · rcases List.mem_append.1 hs with hs | hs
      · obtain ⟨_, _, p, hp, e⟩ := putSteps_mem hs
        rw [e]; exact ht p hp
      · simp at hs; rw [hs]; exact ht0
    · rw [scost_app, putSteps_cost]
      have : scost ([s0].map (SSt.later ps.length)) = s0.cost := by simp [scost, SSt.later, SSt.cost]
      omega
    · rcases List.mem_append.1 hs with hs | hs
      · exact .inl (putSteps_mem hs).1
      · simp at hs; rw [hs]; exact .inr hop
  obtain ⟨g1, g2⟩ := items_ans (text := text) (kn := kn) (n := n) (ps := ps) (by omega) hop h0
  rw [← List.map_singleton (f := SSt.later ps.length) (a := s0)] at g1 g2
  generalize putSteps ps ++ [s0].map (SSt.later ps.length) = S at *
  obtain ⟨a3, c3, rfl, hc3, hm3, hr3, _⟩ := hR3.flat
  have q3 := k3.get q2 fun h => h
  have k13 := k12.no k3
  simp [-getElem?_pos, -Array.getElem?_eq_getElem, -Int.natCast_add, -op_lit_32_1, -op_lit_38_2, q3, hx2]
  refine sorted_ok (text := text) (kn := kn) (n := n) h1 h2 hr3 (hasks w3) fun l4 w4 G k4 hR4 => ?_
  generalize ansOf text kn n S = A at *
  have hA : ps.length < A.length := by omega
  obtain ⟨u, g, c, cs, hl4, hg1, hu, hg3, hg4, hg5, pv, hpv, hpr, _⟩ := hR4.get hA
  subst hl4 hpv
  have hg0 : cs[ps.length * 4 + 3]? = some pv := by have := hg3 3 (by decide); simpa using this
  rw [List.getElem?_eq_getElem hA, Option.map_some] at g2
  have g2 := Option.some.inj g2
  rw [g2] at hpr
  have e1 : IntKind.i64.wrap ((ps.length : Int) + 1) = ((ps.length + 1 : Nat) : Int) := by rw [IntKind.wrap_i64]; omega
  have := hK pv w4 (k13.no k4) hpr
  simp [-getElem?_pos, -Array.getElem?_eq_getElem, -Int.natCast_add, -op_lit_32_1, -op_lit_38_2, g1, e1, hg1, hg0]
  exact this
theorem awake_items : itemsOf false 0 0 [⟨5, ByteArray.empty, 1⟩, ⟨-3, ByteArray.empty, 2⟩] = [⟨-3, ByteArray.empty, 2⟩, ⟨5, ByteArray.empty, 1⟩] := by decide +kernel
theorem samePairs_ok {v1 v2 : Value} {xs : List SPr} (h1 : IsSl w v1 xs.length (xs.flatMap SPr.cells)) (h2 : IsSl w v2 xs.length (xs.flatMap SPr.cells)) (hn : xs.length < 2 ^ 60) (hK : ∀ w', Frm (fun _ => False) w w' → K (.bool true) w') :
    Calls Tryz.prog 32 #[v1, v2] w (ret K Kp) := by
  refine vc32_calls ?_
  delta vc32
  obtain ⟨a2, c2, rfl, _⟩ := id h2
  obtain ⟨a1, c1, rfl, _⟩ := id h1
  rw [op_len_slice (by kernel_rfl), op_len_slice (by kernel_rfl), op_neq, decide_eq_true rfl, Bool.not_true, Br_false]
  exact sameLoop (by kernel_rfl) (by kernel_rfl) (by kernel_rfl) (by kernel_rfl) (by kernel_rfl) (by kernel_rfl) (by kernel_rfl) h1 h2 hn hK
theorem awake_ok (hK : ∀ w', Frm (fun _ => False) w w' → K (.bool true) w') : Calls Tryz.prog 14 #[] w (ret K Kp) := by
  refine vc14_calls ?_
  delta vc14
  simp [-getElem?_pos, -Array.getElem?_eq_getElem, -Int.natCast_add, -op_lit_32_1, -op_lit_38_2]
  refine op_lit_ok lit_38_2 fun w1 k1 z1 b1 => ?_
  have hp1 : Row w1 (some ⟨w.heap.size, 0, none⟩) ([(⟨5, ByteArray.empty, 1⟩ : SPr), ⟨-3, ByteArray.empty, 2⟩].flatMap SPr.cells) := .inr ⟨_, 0, _, _, _, rfl, b1, fun j v hj => by simpa [SPr.cells] using hj⟩
  refine sortedItems_ok (text := false) (kn := 0) (n := 0) (ps := [⟨5, ByteArray.empty, 1⟩, ⟨-3, ByteArray.empty, 2⟩]) (by decide) (by decide) hp1 (by decide) (fun p hp => ?_) fun v w2 k2 hv => ?_
  · simp at hp
    rcases hp with rfl | rfl <;> exact Nat.zero_le _
  rw [awake_items] at hv
  simp [-getElem?_pos, -Array.getElem?_eq_getElem, -Int.natCast_add, -op_lit_32_1, -op_lit_38_2]
  refine op_lit_ok lit_38_2 fun w3 k3 z3 b3 => ?_
  refine samePairs_ok (xs := [⟨-3, ByteArray.empty, 2⟩, ⟨5, ByteArray.empty, 1⟩]) (hv.still k3) ⟨_, _, rfl, Nat.le_refl _, by simp [maxLen], .inr ⟨_, 0, _, _, _, rfl, b3, fun j v hj => by simpa [SPr.cells] using hj⟩, fun h => nomatch h⟩ (by decide) fun w4 k4 => ?_
  exact hK w4 (((k1.no k2).no k3).no k4)
end Go.Proofs.YtodjijfblgnfmaaGreatDoor
end
section
namespace Go.Vc
open Go.ChangeShapes Go.WideShapes Go.ChangeAt Go.RowKit Go.WideElems
variable {H : Type} {enc : TypeId × Value → H} {P : Program} {W W' : World}
def typed (P : Program) (ts : List TypeId) : Bool := ts.all fun t => P.readableRec t && decide (t < P.types.size)
theorem below_of (h : ∀ {M}, Frm M W W') : Below W.heap.size W W' := ⟨(h (M := fun _ => False)).os, (h (M := fun _ => False)).tape, (h (M := fun _ => False)).output, (h (M := fun _ => False)).size, fun k hk => (h (M := fun _ => False)).block k hk (fun h => h)⟩
theorem trodAll_below (hl : laidOutB P = true) {sp : Nat → Bool} (hb : Below W.heap.size W W') :
    ∀ {ts : List TypeId} {vs : List Value} {ds : List (DataW H)} {ps : List MemPlace}, typed P ts = true → (∀ p ∈ ps, p.block < W.heap.size) → (∀ p ∈ ps, sp p.block = true) →
      DataW.TrodAll enc P W 0 (fun _ => true) true ts vs ds ps → DataW.TrodAll enc P W' 0 sp true ts vs ds ps
  | [], [], [], _, _, _, _, h => h
  | t :: ts, v :: vs, d :: ds, ps, ht, h1, h2, h => by
    obtain ⟨p, q, hd, hr, rfl⟩ := h
    simp only [typed, List.all_cons, Bool.and_eq_true, decide_eq_true_eq] at ht
    refine ⟨p, q, Trod_stays hl ht.1.1 ht.1.2 hd (fun x hx => hb.same (h1 x (by simp [hx]))) (fun x hx => h2 x (by simp [hx])), ?_, rfl⟩
    exact trodAll_below hl hb (by simpa [typed] using ht.2) (fun x hx => h1 x (by simp [hx])) (fun x hx => h2 x (by simp [hx])) hr
  | [], [], _ :: _, _, _, _, _, h => h.elim
  | [], _ :: _, _, _, _, _, _, h => h.elim
  | _ :: _, [], _, _, _, _, _, h => h.elim
  | _ :: _, _ :: _, [], _, _, _, _, h => h.elim
theorem trodAll_len : ∀ {ts : List TypeId} {vs : List Value} {ds : List (DataW H)} {ps : List MemPlace} {b : Nat} {sp : Nat → Bool} {hd : Bool}, DataW.TrodAll enc P W b sp hd ts vs ds ps → ds.length = ts.length
  | [], [], [], _, _, _, _, _ => rfl
  | t :: ts, v :: vs, d :: ds, ps, _, _, _, h => by
    obtain ⟨p, q, hd, hr, rfl⟩ := h
    simp [trodAll_len hr]
  | [], [], _ :: _, _, _, _, _, h => h.elim
  | [], _ :: _, _, _, _, _, _, h => h.elim
  | _ :: _, [], _, _, _, _, _, h => h.elim
  | _ :: _, _ :: _, [], _, _, _, _, h => h.elim
/-! ### arguments -/
theorem open_rows {t e : TypeId} {base : Nat} {v : Value} {d : DataW H} {ps : List MemPlace} (ht : P.underlying t = some (.slice e)) {c : Nat} (hc : P.cellsOf e = c) (hc0 : 0 < c)
    (hok : Value.okWide P W .any base t v) (h : DataW.Trod enc P W 0 (fun _ => true) true t v d ps) :
    ∃ (a : Option Addr) (len cap : Nat) (f : Nat → List Value), v = .slice a len cap ∧ len ≤ cap ∧ cap ≤ maxLen ∧ (a = none → len = 0) ∧ (∀ p, a = some p → p.spot = none ∧ p.block < W.heap.size) ∧
      Row W a ((List.range len).flatMap f) ∧ (∀ i, (f i).length = c) ∧ ∀ i, i < len → ∃ n x, DataW.trod enc P W 0 (fun _ => true) true n e (f i) = some x := by
  have hv : v = .slice none 0 0 ∨ ∃ p len cap, v = .slice (some p) len cap ∧ p.spot = none ∧ p.block < W.heap.size := by
    unfold Value.okWide at hok
    rw [ht] at hok
    simp only [Cell.okWide, ht] at hok
    unfold Cell.ok at hok
    rw [ht] at hok
    cases v with
    | slice a len cap =>
      cases a with
      | none =>
        match len, cap, hok with
        | 0, 0, _ => exact .inl rfl
      | some p =>
        refine .inr ⟨p, len, cap, rfl, hok.2.2.2.1, ?_⟩
        obtain ⟨row, cells, hsh, _⟩ := hok.2.2.2.2
        unfold World.shape? at hsh
        split at hsh
        · rename_i hb; exact lt_of_get hb
        · cases hsh
    | _ => exact hok.elim
  obtain ⟨fuel, hf⟩ := h
  rcases hv with rfl | ⟨p, len, cap, rfl, hs, hbl⟩
  · exact ⟨none, 0, 0, fun _ => List.replicate c undef, rfl, Nat.le_refl _, by simp [maxLen], fun _ => rfl, (fun p h => nomatch h), .inl rfl, fun i => by simp, fun i hi => by omega⟩
  · have hf' : DataW.trod enc P W 0 (fun _ => true) true fuel t [.slice (some p) len cap] = some (d, ps) := hf
    rcases Go.Deep.open_slice ht hf' with ⟨h0, _⟩ | ⟨a, len', cap', m, n, D, Pl, hcs, _, hl, hm, hmm, _, hx⟩
    · cases h0
    · simp only [List.cons.injEq, Value.slice.injEq, Option.some.injEq, and_true] at hcs
      obtain ⟨rfl, rfl, rfl⟩ := hcs
      obtain ⟨b, o, sp⟩ := p
      simp only at hs
      subst hs
      have hle : ∀ i, i < len → ∃ cs', W.cells? 0 ((⟨b, o, none⟩ : Addr).add (i * c)) c = some cs' ∧ DataW.trod enc P W 0 (fun _ => true) true n e cs' = some (D i, Pl i) := fun i hi => by
        have := hx i (by rw [hmm]; simp; omega)
        rwa [hc] at this
      have hcell : ∀ i, i < len → ∃ cs' : List Value, cs'.length = c ∧ (∀ r, r < c → W.cell? ⟨b, o + (i * c + r), none⟩ = cs'[r]?) ∧ DataW.trod enc P W 0 (fun _ => true) true n e cs' = some (D i, Pl i) := fun i hi => by
        obtain ⟨cs', h1, h2⟩ := hle i hi
        obtain ⟨_, h3, h4⟩ := World.cells?_some h1
        refine ⟨cs', h3, fun r hr => ?_, h2⟩
        rw [← h4 r hr, Go.Deep.add_add, add_spot rfl]
      have hch : ∃ f : Nat → List Value, (∀ i, (f i).length = c) ∧ ∀ i, i < len → (∀ r, r < c → W.cell? ⟨b, o + (i * c + r), none⟩ = (f i)[r]?) ∧ DataW.trod enc P W 0 (fun _ => true) true n e (f i) = some (D i, Pl i) := by
        classical
        refine ⟨fun i => if hi : i < len then Classical.choose (hcell i hi) else List.replicate c undef, fun i => ?_, fun i hi => ?_⟩
        · by_cases hi : i < len
          · simp only [dif_pos hi]; exact (Classical.choose_spec (hcell i hi)).1
          · simp only [dif_neg hi]; simp
        · simp only [dif_pos hi]; exact (Classical.choose_spec (hcell i hi)).2
      obtain ⟨f, hf1, hf2⟩ := hch
      have hrow : Row W (some ⟨b, o, none⟩) ((List.range len).flatMap f) ∧ (len ≠ 0 → b < W.heap.size) := by
        by_cases h0 : len = 0
        · subst h0; exact ⟨.inl rfl, fun h => absurd rfl h⟩
        · have hz := (hf2 0 (by omega)).1 0 hc0
          rw [List.getElem?_eq_getElem (by rw [hf1]; exact hc0)] at hz
          have hb : ∃ cs e' fz, W.heap[b]? = some (.cells cs e' fz) := by
            unfold World.cell? at hz
            split at hz
            · rename_i c' e' fz hb; exact ⟨_, _, _, hb⟩
            · cases hz
          obtain ⟨cs, e', fz, hb⟩ := hb
          refine ⟨.inr ⟨b, o, cs, e', fz, rfl, hb, fun j v hj => ?_⟩, fun _ => lt_of_get hb⟩
          have hjl : j < len * c := by
            have := (List.getElem?_eq_some_iff.1 hj).1
            rwa [flatMap_len hf1, List.length_range] at this
          have hjc : j = j / c * c + j % c := by rw [Nat.mul_comm]; exact (Nat.div_add_mod j c).symm
          have hi : j / c < len := Nat.div_lt_of_lt_mul (by rw [Nat.mul_comm]; exact hjl)
          have hr : j % c < c := Nat.mod_lt _ hc0
          have hg := flatMap_get hf1 (List.range len) (j / c) (j % c) (by simpa using hi) hr
          rw [← hjc] at hg
          rw [hg] at hj
          simp only [List.getElem_range] at hj
          have := (hf2 _ hi).1 _ hr
          rw [← hjc, hj] at this
          rw [← this]
          exact (cell_of (p := ⟨b, o + j, none⟩) hb rfl).symm
      exact ⟨some ⟨b, o, none⟩, len, cap, f, rfl, hl, hm, (fun h => nomatch h), fun p hp => by cases hp; exact ⟨rfl, hbl⟩, hrow.1, hf1, fun i hi => ⟨n, _, (hf2 i hi).2⟩⟩
theorem open_fields {t : TypeId} {fs : Array Field} {n : Nat} {cs : List Value} {x : DataW H × List MemPlace} (ht : P.underlying t = some (.struct fs)) (h : DataW.trod enc P W 0 (fun _ => true) true n t cs = some x)
    {i : Nat} {f : Field} (hf : fs[i]? = some f) (ho : f.offset = i) (hc : P.cellsOf f.type = 1) (hi : i < cs.length) :
    ∃ n y, DataW.trod enc P W 0 (fun _ => true) true n f.type [cs[i]] = some y := by
  obtain ⟨xs, k, rfl, rfl, hl, hxl, hx⟩ := DataW.trod_struct ht h
  have h1 := hx i f hf
  have hi2 : i < xs.length := by rw [hxl]; exact (Array.getElem?_eq_some_iff.1 hf).1
  rw [ho, hc, List.getElem?_eq_getElem hi2, List.drop_eq_getElem_cons hi, List.take_succ_cons, List.take_zero] at h1
  exact ⟨k, _, h1⟩
theorem field_int {t : TypeId} {k : IntKind} {n : Nat} {u : Value} {x : DataW H × List MemPlace} (ht : P.underlying t = some (.int k)) (h : DataW.trod enc P W 0 (fun _ => true) true n t [u] = some x) : ∃ m, u = .int k m ∧ k.min ≤ m ∧ m ≤ k.max := by
  obtain ⟨m, hm, _, hw⟩ := DataW.trod_int ht h
  simp only [Lit.wf, Bool.and_eq_true, decide_eq_true_eq] at hw
  exact ⟨m, by simpa using hm, hw.1, hw.2⟩
end Go.Vc
end
section
namespace Go.RowKit
open Go.ChangeShapes Go.WideShapes Go.ChangeAt Go.WideElems
variable {H : Type} {enc : TypeId × Value → H} {P : Program} {w : World} {base : Nat} {spare : Nat → Bool} {held : Bool}
end Go.RowKit
end
section
namespace Go.Vc
open Go.ChangeShapes Go.WideShapes Go.ChangeAt Go.RowKit Go.WideElems
variable {H : Type} {enc : TypeId × Value → H} {P : Program} {W W' : World}
theorem open_agg {t : TypeId} {fs : Array Field} {base n : Nat} {v : Value} {d : DataW H} {ps : List MemPlace} (ht : P.underlying t = some (.struct fs)) (hc : P.cellsOf t = n)
    (hok : Value.okWide P W .any base t v) (h : DataW.Trod enc P W 0 (fun _ => true) true t v d ps) :
    ∃ cs : List Value, v = .agg cs.toArray ∧ cs.length = n ∧ ∃ m x, DataW.trod enc P W 0 (fun _ => true) true m t cs = some x := by
  unfold Value.okWide at hok
  rw [ht] at hok
  obtain ⟨cs, rfl, hs, _⟩ := hok
  obtain ⟨fuel, hf⟩ := h
  exact ⟨cs.toList, by simp, by simp [hs, hc], fuel, _, hf⟩
theorem rows_of {α : Type} {f : Nat → List Value} {c : α → List Value} {len : Nat} {a : Option Addr} (d : α) (h : Row W a ((List.range len).flatMap f)) (hf : ∀ i, i < len → ∃ s, f i = c s) : ∃ xs : List α, xs.length = len ∧ Row W a (xs.flatMap c) := by
  obtain ⟨g, hg⟩ := Classical.axiomOfChoice (r := fun i (s : α) => i < len → f i = c s) fun i => by
    by_cases hi : i < len
    · obtain ⟨s, hs⟩ := hf i hi
      exact ⟨s, fun _ => hs⟩
    · exact ⟨d, fun h => absurd h hi⟩
  refine ⟨(List.range len).map g, by simp, ?_⟩
  rw [Go.Deep.flatMap_congr_range hg] at h
  rwa [List.flatMap_map]
end Go.Vc
end
section
namespace Go.Vc
open Go.ChangeShapes Go.WideShapes Go.ChangeAt Go.RowKit
variable {H : Type} {enc : TypeId × Value → H} {P : Program} {W W' : World}
theorem returns_true_laid {C : Checked} {os : Os} {f : FuncId} {fn : Func} {s : ChangeSpec} {tb : TypeId} {laid : List (String × DataW Unit)}
    (own : ownKnob C.prog.godebug = none) (started : os.Started) (noInit : C.prog.inits.idxOf? f = none) (hfn : C.prog.funcs[f]? = some fn)
    (witness : ∃ (w : World) (tape : Tape) (i : Input), w.os = os ∧ (w.forCall tape i).Shaped C.prog ∧ i.vars = [] ∧ Input.okWide C.prog (w.forCall tape i) .any w.heap.size f i ∧
      ((s.pre enc C.prog fn [] false (w.forCall tape i).memory i.args ∧ laidMetH C.prog laid (w.forCall tape i).memory) ∧ sizedMet enc C.prog fn (OpenSpec.ofChange s) false (w.forCall tape i).memory i.args) ∧ ({} : Assume).holds C.prog (lone (Frame.enter C.prog f i.args .normal) [] (w.forCall tape i)))
    (hl : laidOutB C.prog = true) (ht : typed C.prog fn.params.toList = true) (hv : s.vars = []) (hres : fn.resultTypes = #[tb]) (hb : C.prog.underlying tb = some .bool)
    (hs : ∀ ds : List (DataW H), ds.length = fn.params.toList.length → s.fn H ds = { results := [.lit (.bool true)], args := ds })
    (contract : ∀ (W : World) (base : Nat) (args : Array Value) (ds : List (DataW H)) (before : List MemPlace), W.ShapedOpen C.prog → laidMetH C.prog laid W →
      (∀ (j : Nat) t v, fn.params[j]? = some t → args[j]? = some v → Value.okWide C.prog W .any base t v) →
      DataW.TrodAll enc C.prog W 0 (fun _ => true) true fn.params.toList args.toList ds before → (∀ p ∈ before, p.block < W.heap.size) →
      Calls C.prog f args W (ret (fun v W' => v = .bool true ∧ ∀ M, Frm M W W') fun _ _ => False)) :
    ReturnsInHanded {} C os f .any (fun w args => (s.pre enc C.prog fn [] false w args ∧ laidMetH C.prog laid w) ∧ sizedMet enc C.prog fn (OpenSpec.ofChange s) false w args) (s.post enc C.prog fn false true false false) := by
  refine returnsInHanded_of_calls own started noInit witness ?_
  intro w tape i _ hsh _ hok hpre hholds
  obtain ⟨_, _, _, fn', hfn', _, _, _, _, hval⟩ := hok
  have e : fn' = fn := Option.some.inj (hfn'.symm.trans hfn)
  subst e
  obtain ⟨⟨⟨ds, gs, before, hw, hc⟩, hL⟩, hz⟩ := hpre
  have hL' : laidMetH C.prog laid (w.forCall tape i) := hL.of_heap (by rfl)
  have hw' := DataW.Whole.of_heap (w' := w.forCall tape i) (by rfl) hw
  have hlt := hw'.lt
  have hw'' := hw'
  obtain ⟨p, q, hA, hV, rfl, hfz, hnd⟩ := hw'
  rw [hv] at hV
  obtain ⟨rfl, rfl⟩ := trodVars_none hV
  rw [List.append_nil] at hlt hw''
  refine (contract (w.forCall tape i) w.heap.size i.args ds p hsh hL' hval hA hlt).mono fun e W' he => ?_
  cases e with
  | returned v =>
    obtain ⟨rfl, hf⟩ := he
    have hb' := below_of (fun {M} => hf M)
    have hlen := trodAll_len hA
    have hsd : s.fn H (ds ++ []) = { results := [.lit (.bool true)], args := ds } := by rw [List.append_nil]; exact hs ds hlen
    refine ChangeSpec.post_blind ⟨ds, [], p, [], p, [], hw'', ?_, ?_, ?_, World.keptBut_mono (fun x hx => ⟨hx, .inr (.inl hx)⟩) (hb'.frame (· ∈ p)), (fun h => nomatch h)⟩
    · rw [hsd, hres]; exact trodAll_mk1 (shut_bool hb _)
    · rw [hsd]; exact trodAll_below hl hb' ht hlt (fun x hx => by simpa using hlt x hx) hA
    · rw [hsd, hv]; rfl
  | panicked _ => exact he.elim
  | outgrown => exact he.elim
end Go.Vc
end
section
namespace Go.Proofs.YtodjijfblgnfmaaGreatDoor
open Go.Vc Go.Proofs Go.Vc.Bt Go.ChangeShapes Go.WideShapes Go.ChangeAt Go.RowKit
variable {H : Type} {enc : TypeId × Value → H} {W : World}
theorem row_own : ownKnob Tryz.prog.godebug = none := by kernel_rfl
theorem row_laid : laidOutB Tryz.prog = true := by kernel_rfl
abbrev laid3 : List (String × DataW Unit) := [("math/bits.deBruijn32tab", Rows.laid_math_bits_deBruijn32tab), ("math/bits.deBruijn64tab", Rows.laid_math_bits_deBruijn64tab), ("internal/strconv.uint64pow10", Rows.laid_internal_strconv_uint64pow10)]
theorem door_met (os : Os) (args : Array Value) : laidMetH Tryz.prog laid3 ((World.doorLaid Tryz.prog 24 os).forCall (fun _ _ => 0) ⟨#[], args, []⟩).memory :=
  laidMetH_of_parts3 (fuel := 8) (laidMet_of_run' 8 (by kernel_rfl) (by kernel_rfl)) (by kernel_rfl) (by kernel_rfl)
theorem open_order {base : Nat} {v : Value} {d : DataW H} {ps : List MemPlace} (hok : Value.okWide Tryz.prog W .any base 23 v) (h : DataW.Trod enc Tryz.prog W 0 (fun _ => true) true 23 v d ps) :
    ∃ (kn : Nat) (n : Int), v = orderV kn n ∧ -9223372036854775808 ≤ n ∧ n ≤ 9223372036854775807 := by
  obtain ⟨cs, rfl, hl, n, x, hx⟩ := open_agg Tryz.underlying23 (n := 2) (by kernel_rfl) hok h
  match cs, hl, hx with
  | [u0, u1], _, hx =>
    have hu := Tryz.underlying23
    obtain ⟨n0, y0, z0⟩ := open_fields hu hx (i := 0) rfl rfl (by kernel_rfl) (by simp)
    obtain ⟨n1, y1, z1⟩ := open_fields hu hx (i := 1) rfl rfl (by kernel_rfl) (by simp)
    obtain ⟨m0, e0, b0, _⟩ := field_int Tryz.underlying5 z0
    obtain ⟨m1, e1, b1, b2⟩ := field_int Tryz.underlying2 z1
    have h0 : (m0.toNat : Int) = m0 := Int.toNat_of_nonneg b0
    refine ⟨m0.toNat, m1, ?_, b1, b2⟩
    simp only [List.getElem_cons_zero, List.getElem_cons_succ] at e0 e1
    simp only [orderV, h0, e0, e1]
theorem spr_of {n : Nat} {cs : List Value} {x : DataW H × List MemPlace} (hl : cs.length = 3) (h : DataW.trod enc Tryz.prog W 0 (fun _ => true) true n 45 cs = some x) : ∃ s : SPr, cs = s.cells := by
  match cs, hl, h with
  | [u0, u1, u2], _, h =>
    have hu := Tryz.underlying45
    obtain ⟨n0, y0, z0⟩ := open_fields hu h (i := 0) rfl rfl (by kernel_rfl) (by simp)
    obtain ⟨n1, y1, z1⟩ := open_fields hu h (i := 1) rfl rfl (by kernel_rfl) (by simp)
    obtain ⟨n2, y2, z2⟩ := open_fields hu h (i := 2) rfl rfl (by kernel_rfl) (by simp)
    obtain ⟨m0, e0, _⟩ := field_int Tryz.underlying2 z0
    obtain ⟨m1, e1, _⟩ := DataW.trod_string Tryz.underlying9 z1
    obtain ⟨m2, e2, _⟩ := field_int Tryz.underlying2 z2
    refine ⟨⟨m0, m1, m2⟩, ?_⟩
    simp only [List.getElem_cons_zero, List.getElem_cons_succ] at e0 e1 e2
    obtain ⟨rfl, _⟩ := List.cons.inj e1
    simp only [SPr.cells, e0, e2]
theorem open_pair {base : Nat} {v : Value} {d : DataW H} {ps : List MemPlace} (hok : Value.okWide Tryz.prog W .any base 45 v) (h : DataW.Trod enc Tryz.prog W 0 (fun _ => true) true 45 v d ps) : ∃ p : SPr, v = .agg p.cells.toArray := by
  obtain ⟨cs, rfl, hl, n, x, hx⟩ := open_agg Tryz.underlying45 (n := 3) (by kernel_rfl) hok h
  obtain ⟨p, rfl⟩ := spr_of hl hx
  exact ⟨p, rfl⟩
theorem open_pairs {base : Nat} {v : Value} {d : DataW H} {ps : List MemPlace} (hok : Value.okWide Tryz.prog W .any base 38 v) (h : DataW.Trod enc Tryz.prog W 0 (fun _ => true) true 38 v d ps) :
    ∃ (a : Option Addr) (cap : Nat) (xs : List SPr), v = .slice a xs.length cap ∧ xs.length ≤ cap ∧ cap ≤ maxLen ∧ (a = none → xs.length = 0) ∧ Row W a (xs.flatMap SPr.cells) := by
  obtain ⟨a, len, cap, f, rfl, h1, h2, h3, h4, h6, h7, h8⟩ := open_rows Tryz.underlying38 (c := 3) (by kernel_rfl) (by decide) hok h
  obtain ⟨xs, rfl, hr⟩ := rows_of (c := SPr.cells) ⟨0, ⟨#[]⟩, 0⟩ h6 fun i hi => by
    obtain ⟨n, x, hx⟩ := h8 i hi
    exact spr_of (h7 i) hx
  exact ⟨a, cap, xs, rfl, h1, h2, h3, hr⟩
theorem open_flag {base : Nat} {v : Value} {d : DataW H} {ps : List MemPlace} (hok : Value.okWide Tryz.prog W .any base 4 v) (h : DataW.Trod enc Tryz.prog W 0 (fun _ => true) true 4 v d ps) : ∃ b : Bool, v = .bool b := by
  obtain ⟨b, h1, _⟩ := open_bool Tryz.underlying4 hok h
  exact ⟨b, h1⟩
end Go.Proofs.YtodjijfblgnfmaaGreatDoor
end
section
namespace Go.Proofs.YtodjijfblgnfmaaGreatDoor.I
open Go.Vc Go.Proofs Go.Proofs.YtodjijfblgnfmaaGreatDoor Go.Vc.Bt
variable {w w' : World} {v cv : Value} {K : KV} {Kp : KP} {lt : Ky → Ky → Bool} {k : Ky} {ib mb d : Nat} {L : List (Ky × Vl)} {cs : Array Value} {s : Tr}
theorem place_mid {A M B : List (Ky × Vl)} (hl : Lin lt) (hA : ∀ e ∈ A, lt e.1 k = true) (hB : ∀ e ∈ B, lt k e.1 = true) : place lt (A ++ (M ++ B)) k = A.length + place lt M k := by
  rw [place_app hA, place_pre hl hB]
theorem seek_ok {up : List Fr} {c0 c1 : Value} (hl : Lin lt) (hC : IsC cv lt) (h : Low w ib mb d cs s v up) (hm : w.heap[mb]? = some (.cells #[c0, c1, cv] 210 (0, 0))) (hs : Sd lt (bw (d + 1) (fms up) ++ (toL d s ++ fw (d + 1) (fms up))))
    (hA : ∀ e ∈ bw (d + 1) (fms up), lt e.1 k = true) (hB : ∀ e ∈ fw (d + 1) (fms up), lt k e.1 = true) (hL0 : L = bw (d + 1) (fms up) ++ (toL d s ++ fw (d + 1) (fms up)))
    (hK : ∀ w', Frm (· = ib) w w' → At w' ib mb L (if place lt L k < L.length then some (place lt L k) else none) → K (.tuple #[]) w') :
    Calls Tryz.prog 181 #[ptr ib, ek k] w (ret K Kp) := by
  refine vc181_calls ?_
  delta vc181
  obtain ⟨I, hI⟩ : ∃ I : World → Prop, ∀ wl, I wl ↔ ∃ d cs s v up, Low wl ib mb d cs s v up ∧ Frm (· = ib) w wl ∧ L = bw (d + 1) (fms up) ++ (toL d s ++ fw (d + 1) (fms up)) ∧ (∀ e ∈ bw (d + 1) (fms up), lt e.1 k = true) ∧ (∀ e ∈ fw (d + 1) (fms up), lt k e.1 = true) := ⟨_, fun _ => Iff.rfl⟩
  rw [← hL0] at hs
  refine Lp.intro I (fun wl => 40 - depthOf wl ib) ⟨(hI _).2 ⟨d, cs, s, v, up, h, Frm.refl, hL0, hA, hB⟩, ?_⟩
  have hmib : mb ≠ ib := fun e => by rw [e, h.hb] at hm; cases hm
  clear hL0 hA hB h
  intro wl _ hi
  obtain ⟨d, cs, s, v, up, h, hf, hL, hA, hB⟩ := (hI _).1 hi
  have hu := h.len
  have hd0 := depthOf_eq h.hb h.dep
  have hsz := h.sz
  have hoff := off_Q h.hb
  have hml := hf.get hm hmib
  have hn := h.node
  have hwf := h.wf
  have hrep := h.rep
  have hdep := h.dep
  have hsd : Sd lt (toL d s) := by
    rw [hL] at hs
    exact (List.pairwise_append.1 (List.pairwise_append.1 hs).2.1).1
  have hm0 := h.m
  have hst := h.stk
  have hab := h.ab
  have hd2 : Frm (fun _ => False) wl wl.drew.drew := (Frm.drew wl).no (Frm.drew _)
  match d, hwf, hrep, h, hst, hab, hsd with
  | 0, hwf, hrep, h, hst, hab, hsd =>
    obtain ⟨es, rfl, e1, e2⟩ := wf_zero.1 hwf
    have hrep' := hrep
    obtain ⟨b, g, o, c, rfl, hb, hg⟩ := hrep
    have h0 : 0 < es.length := List.length_pos_iff.2 e1
    simp [-getElem?_pos, -Array.getElem?_eq_getElem, -Int.natCast_add, -op_st_3, -op_st_215, ptr, h.hb, hdep, hn, hm0, hml]
    refine ⟨by omega, ?_⟩
    refine leafIdx_ok (es := es) (k := k) hC hsd (by omega) (hd2.get hb fun h => h) (hg.still hd2) fun w1 f1 => ?_
    have f1 := hd2.no f1
    have hpl := place_le (lt := lt) es k
    have hpm : place lt L k = (bw 1 (fms up)).length + place lt es k := by rw [hL]; exact place_mid hl hA hB
    generalize place lt es k = j at *
    have b1 := f1.get h.hb fun h => h
    try simp [-getElem?_pos, -Array.getElem?_eq_getElem, -Int.natCast_add, -op_st_3, -op_st_215]
    refine op_store_ok (by kernel_rfl) b1 (by omega) rfl fun w2 k2 z2 b2 => ?_
    have k12 : Frm (· = ib) wl w2 := f1.fst k2
    have g1 : ∀ i, (cs.setIfInBounds (1 + up.length * 2 + 1) (.int .i64 (j : Int)))[i]? = if 1 + up.length * 2 + 1 = i then some (.int .i64 (j : Int)) else cs[i]? := fun i => set_at (by omega)
    have hn1 : (cs.setIfInBounds (1 + up.length * 2 + 1) (.int .i64 (j : Int)))[1 + up.length * 2]? = some (.iface 220 (ptr b)) := by rw [g1, if_neg (by omega)]; exact hn
    have hi1 : (cs.setIfInBounds (1 + up.length * 2 + 1) (.int .i64 (j : Int)))[1 + up.length * 2 + 1]? = some (.int .i64 (j : Int)) := by rw [g1, if_pos rfl]
    have hd1 : (cs.setIfInBounds (1 + up.length * 2 + 1) (.int .i64 (j : Int)))[65]? = some (.int .i64 (up.length : Int)) := by rw [g1, if_neg (by omega)]; exact hdep
    have hm1 : (cs.setIfInBounds (1 + up.length * 2 + 1) (.int .i64 (j : Int)))[0]? = some (ptr mb) := by rw [g1, if_neg (by omega)]; exact hm0
    have hz1 : (cs.setIfInBounds (1 + up.length * 2 + 1) (.int .i64 (j : Int))).size = 66 := by simp [hsz]
    have st1 : Stk w2 (cs.setIfInBounds (1 + up.length * 2 + 1) (.int .i64 (j : Int))) (0 + 1) up := (hst.off hoff k12).cells fun i hi => by rw [g1, if_neg (by omega)]
    generalize cs.setIfInBounds (1 + up.length * 2 + 1) (.int .i64 (j : Int)) = c1 at *
    have r2 := hrep'.off hoff k12
    obtain ⟨co, ce, cz, o1, o2, o3, o4, o5⟩ := id hoff
    have nb : b ≠ ib := fun e => by rw [e, o1] at hb; first | exact o4 (by cases hb; rfl) | (cases hb; first | exact o4 rfl | exact o5 rfl | (rename_i q; contradiction) | simp_all)
    have hb2 := k12.get hb nb
    have hf2 : Frm (· = ib) w w2 := hf.trans k12 fun _ h _ => h
    have hlen : L.length = (bw 1 (fms up)).length + es.length + (fw 1 (fms up)).length := by
      rw [hL]; show (bw 1 (fms up) ++ (es ++ fw 1 (fms up))).length = _
      simp only [List.length_append]; omega
    simp [-getElem?_pos, -Array.getElem?_eq_getElem, -Int.natCast_add, -op_st_3, -op_st_215, ptr, b2, hn1, hi1, hb2]
    refine ⟨fun he => ?_, fun hne => ?_⟩
    · have he : j = es.length := by omega
      subst he
      refine next_pop (L := L) (q := (bw 1 (fms up)).length + es.length - 1) ⟨c1, ⟨.leaf es, _, es.length⟩, up, ⟨by simpa using b2, hz1, hm1, hd1, ⟨hn1, hi1, r2.still (Frm.drew _), hwf, st1.still (Frm.drew _)⟩, hab, hu, .inr ⟨rfl, rfl⟩⟩, hL, ?_⟩ fun w4 k4 hat => ?_
      · show _ + (es.drop (es.length + 1) ++ fw 1 (fms up)).length = L.length
        rw [List.drop_of_length_le (by omega), List.nil_append]; omega
      · try simp [-getElem?_pos, -Array.getElem?_eq_getElem, -Int.natCast_add, -op_st_3, -op_st_215]
        rw [show (bw 1 (fms up)).length + es.length - 1 + 1 = place lt L k from by omega] at hat
        exact hK w4 (hf2.trans (Frm.dr k4) fun _ h _ => h) hat
    · have := hK w2.drew (hf2.trans (Frm.drew w2) fun _ h _ => h)
      rw [if_pos (by omega)] at this
      refine this ⟨c1, es, _, up, j, ⟨by simpa using b2, hz1, hm1, hd1, hn1, r2.still (Frm.drew _), hwf, st1.still (Frm.drew _), hab, hu⟩, hi1, by omega, hL, hpm⟩
  | d + 1, hwf, hrep, h, hst, hab, hsd =>
    obtain ⟨ks, rfl, e1, e2, e3⟩ := wf_succ.1 hwf
    have hrep' := hrep
    obtain ⟨b, g, o, c, ps, rfl, hb, hps, hg, hc⟩ := hrep
    have hlp : ps.length = ks.length := by rw [hps, List.length_map]
    rw [← hlp] at hb hg
    simp [-getElem?_pos, -Array.getElem?_eq_getElem, -Int.natCast_add, -op_st_3, -op_st_215, ptr, h.hb, hdep, hn, hm0, hml]
    refine ⟨by omega, ?_⟩
    refine brIdx_ok (k := k) hC hwf hsd hps (hd2.get hb fun h => h) (hg.still hd2) fun w1 f1 => ?_
    have f1 := hd2.no f1
    have hi0 := kid_lt (lt := lt) (h := d) (k := k) e1
    have hka := kid_ahead hl hwf hsd k
    have hkb := kid_behind hl hwf hsd k
    generalize kid lt d ks k = m at *
    have b1' := f1.get h.hb fun h => h
    try simp [-getElem?_pos, -Array.getElem?_eq_getElem, -Int.natCast_add, -op_st_3, -op_st_215]
    refine op_store_ok (by kernel_rfl) b1' (by omega) rfl fun w2 k2 z2 b2 => ?_
    have p1 : Frm (· = ib) wl w2 := f1.fst k2
    have hf1 : Frm (· = ib) w w2 := hf.trans p1 fun _ h _ => h
    have h0 : m < ps.length := by omega
    have g1 : ∀ i, (cs.setIfInBounds (1 + up.length * 2 + 1) (.int .i64 (m : Int)))[i]? = if 1 + up.length * 2 + 1 = i then some (.int .i64 (m : Int)) else cs[i]? := fun i => set_at (by omega)
    have n1 : (cs.setIfInBounds (1 + up.length * 2 + 1) (.int .i64 (m : Int)))[1 + up.length * 2]? = some (.iface 279 (ptr b)) := by rw [g1, if_neg (by omega)]; exact hn
    have i1 : (cs.setIfInBounds (1 + up.length * 2 + 1) (.int .i64 (m : Int)))[1 + up.length * 2 + 1]? = some (.int .i64 (m : Int)) := by rw [g1, if_pos rfl]
    have d1 : (cs.setIfInBounds (1 + up.length * 2 + 1) (.int .i64 (m : Int)))[65]? = some (.int .i64 (up.length : Int)) := by rw [g1, if_neg (by omega)]; exact hdep
    have m1 : (cs.setIfInBounds (1 + up.length * 2 + 1) (.int .i64 (m : Int)))[0]? = some (ptr mb) := by rw [g1, if_neg (by omega)]; exact hm0
    have z1' : (cs.setIfInBounds (1 + up.length * 2 + 1) (.int .i64 (m : Int))).size = 66 := by simp [hsz]
    have st1 : Stk w2 (cs.setIfInBounds (1 + up.length * 2 + 1) (.int .i64 (m : Int))) (d + 1 + 1) up := (hst.off hoff p1).cells fun i hi => by rw [g1, if_neg (by omega)]
    generalize cs.setIfInBounds (1 + up.length * 2 + 1) (.int .i64 (m : Int)) = c1 at *
    have r1' := hrep'.off hoff p1
    obtain ⟨bs, q1, q2, q3⟩ := id hg
    obtain ⟨co, ce, cz, o1, o2, o3, o4, o5⟩ := id hoff
    have nb : b ≠ ib := fun e => by rw [e, o1] at hb; cases hb; exact o4 rfl
    have ng : g ≠ ib := fun e => by rw [e, o1] at q1; cases q1; exact o5 rfl
    have hb1 := p1.get hb nb
    obtain ⟨cur, hcur, hk⟩ := elCells (hg.frame p1 ng)
    have hk0 := (hk m h0).2
    have hr0 := (hc _ (List.getElem_mem h0)).off hoff p1
    obtain ⟨uc, pc, hcv⟩ := hr0.iface
    rw [hcv] at hk0
    have ewd : IntKind.i64.wrap ((up.length : Int) + 1) = ((up.length + 1 : Nat) : Int) := by rw [IntKind.wrap_i64]; omega
    simp [-getElem?_pos, -Array.getElem?_eq_getElem, -Int.natCast_add, -op_st_3, -op_st_215, ptr, b2, n1, d1, i1, hb1, hcur, hk0, ewd]
    refine ⟨h0, by omega, ?_⟩
    refine op_storeN_ok (n := 2) (by kernel_rfl) b2 rfl (by omega) (fun u hu => ?_) fun w3 k3 z3 b3 => ?_
    · simp only [List.mem_toArray, List.mem_cons, List.not_mem_nil, or_false] at hu
      rcases hu with rfl | rfl <;> rfl
    · have k3 := Frm.dr k3
      have g2 : ∀ j, (ow c1 (1 + (up.length + 1) * 2) [Value.iface uc pc, .int .i64 0])[j]? = if 1 + (up.length + 1) * 2 ≤ j ∧ j < 1 + (up.length + 1) * 2 + 2 then [Value.iface uc pc, .int .i64 0][j - (1 + (up.length + 1) * 2)]? else c1[j]? := fun j => ow_get (by simp; omega)
      have z2' : (ow c1 (1 + (up.length + 1) * 2) [Value.iface uc pc, .int .i64 0]).size = 66 := by rw [ow_size, z1']
      have d2 : (ow c1 (1 + (up.length + 1) * 2) [Value.iface uc pc, .int .i64 0])[65]? = some (.int .i64 (up.length : Int)) := by rw [g2, if_neg (by omega)]; exact d1
      simp [-getElem?_pos, -Array.getElem?_eq_getElem, -Int.natCast_add, -op_st_3, -op_st_215, b3, d2, ewd]
      refine op_store_ok (by kernel_rfl) b3 (by rw [ow_size]; omega) rfl fun w4 k4 z4 b4 => ?_
      have g3 : ∀ j, ((ow c1 (1 + (up.length + 1) * 2) [Value.iface uc pc, .int .i64 0]).setIfInBounds 65 (.int .i64 ((up.length + 1 : Nat) : Int)))[j]? = if 65 = j then some (.int .i64 ((up.length + 1 : Nat) : Int)) else (ow c1 (1 + (up.length + 1) * 2) [Value.iface uc pc, .int .i64 0])[j]? := fun j => set_at (by omega)
      have k13 : Frm (· = ib) w2 w4 := k3.trans k4 fun _ h _ => h
      have hm0' : ps[m].1 ∈ ks := by rw [hps]; exact List.mem_map.2 ⟨_, List.getElem_mem h0, rfl⟩
      have hks0 : ks[m]? = some ps[m].1 := by rw [hps, List.getElem?_map, List.getElem?_eq_getElem h0]; rfl
      have off1 := off_Q b2
      rw [hcv] at hr0
      have hst3 : Stk w4 ((ow c1 (1 + (up.length + 1) * 2) [Value.iface uc pc, .int .i64 0]).setIfInBounds 65 (.int .i64 ((up.length + 1 : Nat) : Int))) (d + 1 + 1) up := (st1.off off1 k13).cells fun j hj => by rw [g3, if_neg (by omega), g2, if_neg (by omega)]
      have hlow : Low w4 ib mb d ((ow c1 (1 + (up.length + 1) * 2) [Value.iface uc pc, .int .i64 0]).setIfInBounds 65 (.int .i64 ((up.length + 1 : Nat) : Int))) ps[m].1 (.iface uc pc) (⟨.br ks, .iface 279 (ptr b), m⟩ :: up) := by
        refine ⟨by simpa using b4, by simp [z2'], ?_, ?_, ?_, hr0.off off1 k13, e3 _ hm0', ⟨?_, ?_, r1'.off off1 k13, hwf, hst3⟩, ⟨hwf, ⟨ks, rfl, hks0⟩, hab⟩, by simp only [List.length_cons]; omega⟩
        · rw [g3, if_neg (by omega), g2, if_neg (by omega)]; exact m1
        · rw [g3, if_pos rfl]; rfl
        · rw [g3, if_neg (by simp only [List.length_cons]; omega), g2, if_pos (by simp only [List.length_cons]; omega)]
          simp
        · rw [g3, if_neg (by omega), g2, if_neg (by omega)]; exact n1
        · rw [g3, if_neg (by omega), g2, if_neg (by omega)]; exact i1
      have hd3 := depthOf_eq hlow.hb hlow.dep
      refine ⟨(hI _).2 ⟨d, _, _, _, _, hlow, hf1.trans k13 fun _ h _ => h, ?_, fun e he => ?_, fun e he => ?_⟩, ?_⟩
      · rw [hL]; exact (frame_eq hks0).symm
      · rw [bw_cons] at he
        exact (List.mem_append.1 he).elim (hA e) (hka e)
      · rw [fw_cons] at he
        exact (List.mem_append.1 he).elim (hkb e) (hB e)
      · rw [hd0, hd3]; simp only [List.length_cons]; omega
end Go.Proofs.YtodjijfblgnfmaaGreatDoor.I
end
section
namespace Go.Proofs.YtodjijfblgnfmaaGreatDoor.I
open Go.Vc Go.Proofs Go.Proofs.YtodjijfblgnfmaaGreatDoor Go.Vc.Bt
variable {w w' : World} {cv : Value} {K : KV} {Kp : KP} {lt : Ky → Ky → Bool} {k : Ky} {ib mb p : Nat} {L : List (Ky × Vl)} {cs : Array Value} {r : Root Ky Vl} {n : Nat}
theorem itSeek_ok (hl : Lin lt) (hi : It w ib mb) (hm : RepM w mb lt r) (hok : Ok lt n r) (hn : n < 2 ^ 60)
    (hK : ∀ w', Frm (· = ib) w w' → At w' ib mb (rL r) (if place lt (rL r) k < (rL r).length then some (place lt (rL r) k) else none) → K (.tuple #[]) w') : Calls Tryz.prog 139 #[ptr ib, ek k] w (ret K Kp) := by
  refine vc139_calls ?_
  delta vc139
  obtain ⟨cs, h1, h2, h3⟩ := hi
  obtain ⟨rv, cv, m1, m2, m3⟩ := hm
  have hoff := off_Q h1
  have hsd := hok.sd
  have hmi : mb ≠ ib := fun e => by rw [e, h1] at m1; cases m1
  match r, m2, m3, hok, hsd with
  | none, m2, _, _, _ =>
    obtain rfl : rv = .nilIface := m2
    simp [-getElem?_pos, -Array.getElem?_eq_getElem, -Int.natCast_add, -op_st_3, -op_st_215, ptr, h1, h3, m1]
    refine op_store_ok (by kernel_rfl) h1 (by omega) rfl fun w1 k1 z1 b1 => ?_
    refine hK w1 k1 ⟨_, b1, by simp [h2], ?_, ?_⟩
    · rw [set_at (by omega), if_neg (by omega)]; exact h3
    · rw [set_at (by omega), if_pos rfl]
  | some (h, t), m2, m3, hok, hsd =>
    obtain ⟨o1, o2, o3, o4⟩ := hok
    have hr : Rep w h t rv := m2
    obtain ⟨u, p, rfl⟩ := hr.iface
    have hh := high o4 hn
    have hC : IsC cv lt := m3.elim id fun ⟨_, _, h⟩ => nomatch h
    simp [-getElem?_pos, -Array.getElem?_eq_getElem, -Int.natCast_add, -op_st_3, -op_st_215, ptr, h1, h3, m1]
    refine op_storeN_ok (n := 2) (by kernel_rfl) h1 rfl (by omega) (fun u hu => ?_) fun w2 k2 z2 b2 => ?_
    · simp only [List.mem_toArray, List.mem_cons, List.not_mem_nil, or_false] at hu
      rcases hu with rfl | rfl <;> rfl
    · have k2 := Frm.dr k2
      have g2 : ∀ j, (ow cs 1 [Value.iface u p, .int .i64 0])[j]? = if 1 ≤ j ∧ j < 1 + 2 then [Value.iface u p, .int .i64 0][j - 1]? else cs[j]? := fun j => ow_get (by simp; omega)
      refine op_store_ok (by kernel_rfl) b2 (by rw [ow_size]; omega) rfl fun w3 k3 z3 b3 => ?_
      have g3 : ∀ j, ((ow cs 1 [Value.iface u p, .int .i64 0]).setIfInBounds 65 (.int .i64 0))[j]? = if 65 = j then some (.int .i64 0) else (ow cs 1 [Value.iface u p, .int .i64 0])[j]? := fun j => set_at (by rw [ow_size]; omega)
      have k13 : Frm (· = ib) w w3 := k2.trans k3 fun _ h _ => h
      have hlow : Low w3 ib mb h ((ow cs 1 [Value.iface u p, .int .i64 0]).setIfInBounds 65 (.int .i64 0)) t (.iface u p) [] :=
        ⟨b3, by simp [ow_size, h2], by rw [g3, if_neg (by omega), g2, if_neg (by omega)]; exact h3, by rw [g3, if_pos rfl]; rfl, by rw [g3, if_neg (by simp), g2, if_pos (by simp)]; rfl, hr.off hoff k13, o1, trivial, trivial, by simpa using hh⟩
      have e1 : bw (h + 1) (fms []) ++ (toL h t ++ fw (h + 1) (fms [])) = rL (some (h, t)) := by
        show [] ++ (toL h t ++ []) = toL h t
        simp
      refine seek_ok (L := rL (some (h, t))) hl hC hlow (k13.get m1 hmi) (by rw [e1]; exact hsd) (fun e he => nomatch he) (fun e he => nomatch he) e1.symm fun w4 k4 hat => ?_
      exact hK w4 (k13.trans k4 fun _ h _ => h) hat
end Go.Proofs.YtodjijfblgnfmaaGreatDoor.I
end
section
namespace Go.Proofs.YtodjijfblgnfmaaGreatDoor
open Go.Vc Go.Proofs
variable {w : World} {K : KV} {Kp : KP} {K1 : Value → Prop}
theorem build_45_1_2 {x1 : Value} {x2 : Value} (h1 : x1.oneCell' = true) (h2 : x2.oneCell' = true) : buildV Tryz.prog 45 [(1, x1), (2, x2)] = some (.agg (#[Value.int IntKind.i64 0, x1, x2])) := by
  have e : buildV Tryz.prog 45 [(1, x1), (2, x2)] = (Instr.fill ((#[(0, 1), (1, 1), (2, 1)] : Array (Nat × Nat))[·]?) (#[Value.int IntKind.i64 0, Value.string ByteArray.empty, Value.int IntKind.i64 0]) [(1, x1), (2, x2)]).map .agg := by kernel_rfl
  rw [e]; simp [Instr.fill, cells_of_one h1, cells_of_one h2]
@[simp] theorem op_build_45_1_2 {x1 : Value} {x2 : Value} (h1 : x1.oneCell' = true) (h2 : x2.oneCell' = true) : nP.op (.build 45 [(1, x1), (2, x2)]) w K Kp = K (.agg (#[Value.int IntKind.i64 0, x1, x2])) w := op_build (build_45_1_2 h1 h2)
@[simp] theorem pur_build_45_1_2 {x1 : Value} {x2 : Value} (h1 : x1.oneCell' = true) (h2 : x2.oneCell' = true) : nP.pur (.build 45 [(1, x1), (2, x2)]) K1 = K1 (.agg (#[Value.int IntKind.i64 0, x1, x2])) := pur_build (build_45_1_2 h1 h2)
@[simp] theorem op_len_24 {a : Option Addr} {n c ty : Nat} : nP.op (.blt .len [24] ty [.slice a n c]) w K Kp = K (.int .i64 n) w := op_len_slice (by kernel_rfl)
@[simp] theorem pur_len_24 {a : Option Addr} {n c ty : Nat} : nP.pur (.blt .len [24] ty [.slice a n c]) K1 = K1 (.int .i64 n) := pur_len_slice (by kernel_rfl)
@[simp] theorem ld_len_24 {a : Option Addr} {n c ty : Nat} : nP.ld (.blt .len [24] ty [.slice a n c]) w K1 = K1 (.int .i64 n) := ld_len_slice (by kernel_rfl)
@[simp] theorem same_len_24 {a : Option Addr} {n c ty : Nat} {u : Value} : nP.same (.blt .len [24] ty [.slice a n c]) u w = (.int .i64 n = u) := same_len_slice (by kernel_rfl)
@[simp] theorem op_len_65 {a : Option Addr} {n c ty : Nat} : nP.op (.blt .len [65] ty [.slice a n c]) w K Kp = K (.int .i64 n) w := op_len_slice (by kernel_rfl)
@[simp] theorem pur_len_65 {a : Option Addr} {n c ty : Nat} : nP.pur (.blt .len [65] ty [.slice a n c]) K1 = K1 (.int .i64 n) := pur_len_slice (by kernel_rfl)
@[simp] theorem ld_len_65 {a : Option Addr} {n c ty : Nat} : nP.ld (.blt .len [65] ty [.slice a n c]) w K1 = K1 (.int .i64 n) := ld_len_slice (by kernel_rfl)
@[simp] theorem same_len_65 {a : Option Addr} {n c ty : Nat} {u : Value} : nP.same (.blt .len [65] ty [.slice a n c]) u w = (.int .i64 n = u) := same_len_slice (by kernel_rfl)
@[simp] theorem op_len_35 {a : Option Addr} {n c ty : Nat} : nP.op (.blt .len [35] ty [.slice a n c]) w K Kp = K (.int .i64 n) w := op_len_slice (by kernel_rfl)
@[simp] theorem pur_len_35 {a : Option Addr} {n c ty : Nat} : nP.pur (.blt .len [35] ty [.slice a n c]) K1 = K1 (.int .i64 n) := pur_len_slice (by kernel_rfl)
@[simp] theorem ld_len_35 {a : Option Addr} {n c ty : Nat} : nP.ld (.blt .len [35] ty [.slice a n c]) w K1 = K1 (.int .i64 n) := ld_len_slice (by kernel_rfl)
@[simp] theorem same_len_35 {a : Option Addr} {n c ty : Nat} {u : Value} : nP.same (.blt .len [35] ty [.slice a n c]) u w = (.int .i64 n = u) := same_len_slice (by kernel_rfl)
@[simp] theorem op_neq_4 {xc yc x y : Bool} : nP.op (.bin BinOp.neq 4 xc yc (.bool x) (.bool y)) w K Kp = K (.bool (!(x == y))) w := op_eq_bool (by kernel_rfl) rfl
@[simp] theorem pur_neq_4 {xc yc x y : Bool} : nP.pur (.bin BinOp.neq 4 xc yc (.bool x) (.bool y)) K1 = K1 (.bool (!(x == y))) := pur_eq_bool (by kernel_rfl) rfl
end Go.Proofs.YtodjijfblgnfmaaGreatDoor
end
section
namespace Go.Proofs.YtodjijfblgnfmaaGreatDoor
open Go.Vc Go.Proofs
variable {w : World} {K : KV} {Kp : KP} {K1 : Value → Prop}
end Go.Proofs.YtodjijfblgnfmaaGreatDoor
end
section
namespace Go.Proofs.YtodjijfblgnfmaaGreatDoor
open Go.Vc Go.Proofs
variable {w : World} {K : KV} {Kp : KP} {K1 : Value → Prop}
@[simp] theorem op_alloc_76 : nP.op (.alloc 76) w K Kp = K (.pointer (some ⟨w.heap.size, 0, none⟩)) (w.alloc (.cells #[Value.slice none 0 0] 76)) := op_alloc (z := (Value.slice none 0 0)) (by kernel_rfl)
@[simp] theorem op_ld_76 {p : Addr} : nP.op (.load 76 (.pointer (some p))) w K Kp = ∃ cs e fz, w.heap[p.block]? = some (.cells cs e fz) ∧ p.spot = none ∧ ∃ v, cs[p.off]? = some v ∧ K v w := op_ld (by kernel_rfl)
@[simp] theorem ld_ld_76 {p : Addr} : nP.ld (.load 76 (.pointer (some p))) w K1 = ∃ cs e fz, w.heap[p.block]? = some (.cells cs e fz) ∧ p.spot = none ∧ ∃ v, cs[p.off]? = some v ∧ K1 v := ld_ld (by kernel_rfl)
@[simp] theorem same_ld_76 {p : Addr} {v : Value} : nP.same (.load 76 (.pointer (some p))) v w = ∃ cs e fz, w.heap[p.block]? = some (.cells cs e fz) ∧ p.spot = none ∧ cs[p.off]? = some v := same_ld (by kernel_rfl)
@[simp] theorem op_st_76 {p : Addr} {v : Value} : nP.op (.store 76 (.pointer (some p)) v) w K Kp = ∃ cs e, w.heap[p.block]? = some (.cells cs e (0, 0)) ∧ p.spot = none ∧ p.off < cs.size ∧ v.oneCell' = true ∧ K undef (w.upd p.block (.cells (cs.setIfInBounds p.off v) e (0, 0))) := op_st (by kernel_rfl)
@[simp] theorem op_ld_74 {p : Addr} : nP.op (.load 74 (.pointer (some p))) w K Kp = ∃ cs e fz, w.heap[p.block]? = some (.cells cs e fz) ∧ p.spot = none ∧ ∃ v, cs[p.off]? = some v ∧ K v w := op_ld (by kernel_rfl)
@[simp] theorem ld_ld_74 {p : Addr} : nP.ld (.load 74 (.pointer (some p))) w K1 = ∃ cs e fz, w.heap[p.block]? = some (.cells cs e fz) ∧ p.spot = none ∧ ∃ v, cs[p.off]? = some v ∧ K1 v := ld_ld (by kernel_rfl)
@[simp] theorem same_ld_74 {p : Addr} {v : Value} : nP.same (.load 74 (.pointer (some p))) v w = ∃ cs e fz, w.heap[p.block]? = some (.cells cs e fz) ∧ p.spot = none ∧ cs[p.off]? = some v := same_ld (by kernel_rfl)
@[simp] theorem call_61 {args : List Value} : nP.call (.fn 61) args w K Kp = Calls Tryz.prog 61 args.toArray w (ret K Kp) := call_fn (by kernel_rfl)
@[simp] theorem call_62 {args : List Value} : nP.call (.fn 62) args w K Kp = Calls Tryz.prog 62 args.toArray w (ret K Kp) := call_fn (by kernel_rfl)
theorem build_73_0_1_2 {x0 : Value} {x1 : Value} {x2 : Value} (h0 : x0.oneCell' = true) (h1 : x1.oneCell' = true) (h2 : x2.oneCell' = true) : buildV Tryz.prog 73 [(0, x0), (1, x1), (2, x2)] = some (.agg (#[x0, x1, x2])) := by
  have e : buildV Tryz.prog 73 [(0, x0), (1, x1), (2, x2)] = (Instr.fill ((#[(0, 1), (1, 1), (2, 1)] : Array (Nat × Nat))[·]?) (#[Value.int IntKind.u8 0, Value.int IntKind.i64 0, Value.string ByteArray.empty]) [(0, x0), (1, x1), (2, x2)]).map .agg := by kernel_rfl
  rw [e]; simp [Instr.fill, cells_of_one h0, cells_of_one h1, cells_of_one h2]
@[simp] theorem op_build_73_0_1_2 {x0 : Value} {x1 : Value} {x2 : Value} (h0 : x0.oneCell' = true) (h1 : x1.oneCell' = true) (h2 : x2.oneCell' = true) : nP.op (.build 73 [(0, x0), (1, x1), (2, x2)]) w K Kp = K (.agg (#[x0, x1, x2])) w := op_build (build_73_0_1_2 h0 h1 h2)
@[simp] theorem pur_build_73_0_1_2 {x0 : Value} {x1 : Value} {x2 : Value} (h0 : x0.oneCell' = true) (h1 : x1.oneCell' = true) (h2 : x2.oneCell' = true) : nP.pur (.build 73 [(0, x0), (1, x1), (2, x2)]) K1 = K1 (.agg (#[x0, x1, x2])) := pur_build (build_73_0_1_2 h0 h1 h2)
theorem lit_74_1 {y0_0 y0_1 y0_2 : Value} : sliceLit Tryz.prog 74 1 [(0, .agg #[y0_0, y0_1, y0_2])] = some (73, #[y0_0, y0_1, y0_2]) := by
  have e : sliceLit Tryz.prog 74 1 [(0, .agg #[y0_0, y0_1, y0_2])] = (Instr.fill (fun i => some (i * 3, 3)) (#[Value.int IntKind.u8 0, Value.int IntKind.i64 0, Value.string ByteArray.empty]) [(0, .agg #[y0_0, y0_1, y0_2])]).map fun cs => (73, cs) := by kernel_rfl
  rw [e]; simp [Instr.fill, Value.cells]
@[simp] theorem op_lit_74_1 {y0_0 y0_1 y0_2 : Value} : nP.op (.buildSlice 74 1 [(0, .agg #[y0_0, y0_1, y0_2])]) w K Kp = K (.slice (some ⟨w.heap.size, 0, none⟩) 1 1) (w.alloc (.cells #[y0_0, y0_1, y0_2] 73)) := op_lit (lit_74_1)
theorem build_73_0 {x0 : Value} (h0 : x0.oneCell' = true) : buildV Tryz.prog 73 [(0, x0)] = some (.agg (#[x0, Value.int IntKind.i64 0, Value.string ByteArray.empty])) := by
  have e : buildV Tryz.prog 73 [(0, x0)] = (Instr.fill ((#[(0, 1), (1, 1), (2, 1)] : Array (Nat × Nat))[·]?) (#[Value.int IntKind.u8 0, Value.int IntKind.i64 0, Value.string ByteArray.empty]) [(0, x0)]).map .agg := by kernel_rfl
  rw [e]; simp [Instr.fill, cells_of_one h0]
@[simp] theorem op_build_73_0 {x0 : Value} (h0 : x0.oneCell' = true) : nP.op (.build 73 [(0, x0)]) w K Kp = K (.agg (#[x0, Value.int IntKind.i64 0, Value.string ByteArray.empty])) w := op_build (build_73_0 h0)
@[simp] theorem pur_build_73_0 {x0 : Value} (h0 : x0.oneCell' = true) : nP.pur (.build 73 [(0, x0)]) K1 = K1 (.agg (#[x0, Value.int IntKind.i64 0, Value.string ByteArray.empty])) := pur_build (build_73_0 h0)
@[simp] theorem call_28 {args : List Value} : nP.call (.fn 28) args w K Kp = Calls Tryz.prog 28 args.toArray w (ret K Kp) := call_fn (by kernel_rfl)
@[simp] theorem call_35 {args : List Value} : nP.call (.fn 35) args w K Kp = Calls Tryz.prog 35 args.toArray w (ret K Kp) := call_fn (by kernel_rfl)
@[simp] theorem op_len_76 {a : Option Addr} {n c ty : Nat} : nP.op (.blt .len [76] ty [.slice a n c]) w K Kp = K (.int .i64 n) w := op_len_slice (by kernel_rfl)
@[simp] theorem pur_len_76 {a : Option Addr} {n c ty : Nat} : nP.pur (.blt .len [76] ty [.slice a n c]) K1 = K1 (.int .i64 n) := pur_len_slice (by kernel_rfl)
@[simp] theorem ld_len_76 {a : Option Addr} {n c ty : Nat} : nP.ld (.blt .len [76] ty [.slice a n c]) w K1 = K1 (.int .i64 n) := ld_len_slice (by kernel_rfl)
@[simp] theorem same_len_76 {a : Option Addr} {n c ty : Nat} {u : Value} : nP.same (.blt .len [76] ty [.slice a n c]) u w = (.int .i64 n = u) := same_len_slice (by kernel_rfl)
@[simp] theorem op_len_74 {a : Option Addr} {n c ty : Nat} : nP.op (.blt .len [74] ty [.slice a n c]) w K Kp = K (.int .i64 n) w := op_len_slice (by kernel_rfl)
@[simp] theorem pur_len_74 {a : Option Addr} {n c ty : Nat} : nP.pur (.blt .len [74] ty [.slice a n c]) K1 = K1 (.int .i64 n) := pur_len_slice (by kernel_rfl)
@[simp] theorem ld_len_74 {a : Option Addr} {n c ty : Nat} : nP.ld (.blt .len [74] ty [.slice a n c]) w K1 = K1 (.int .i64 n) := ld_len_slice (by kernel_rfl)
@[simp] theorem same_len_74 {a : Option Addr} {n c ty : Nat} {u : Value} : nP.same (.blt .len [74] ty [.slice a n c]) u w = (.int .i64 n = u) := same_len_slice (by kernel_rfl)
@[simp] theorem op_ix_76 {p : Addr} {len cap : Nat} {k : IntKind} {j : Int} : nP.op (.indexAddr 76 (.slice (some p) len cap) (.int k j)) w K Kp = ((0 ≤ j ∧ j < (len : Int)) ∧ K (.pointer (some (p.add (j.toNat * 5)))) w) := op_ix_slice (e := 80) (by kernel_rfl)
@[simp] theorem pur_ix_76 {p : Addr} {len cap : Nat} {k : IntKind} {j : Int} : nP.pur (.indexAddr 76 (.slice (some p) len cap) (.int k j)) K1 = ((0 ≤ j ∧ j < (len : Int)) ∧ K1 (.pointer (some (p.add (j.toNat * 5))))) := pur_ix_slice (e := 80) (by kernel_rfl)
@[simp] theorem op_fa_80_0 {p : Addr} : nP.op (.fieldAddr 80 (.pointer (some p)) 0) w K Kp = K (.pointer (some (p.add 0))) w := op_fa (k := (.agg 3)) (by kernel_rfl)
@[simp] theorem pur_fa_80_0 {p : Addr} : nP.pur (.fieldAddr 80 (.pointer (some p)) 0) K1 = K1 (.pointer (some (p.add 0))) := pur_fa (k := (.agg 3)) (by kernel_rfl)
@[simp] theorem op_fa_80_1 {p : Addr} : nP.op (.fieldAddr 80 (.pointer (some p)) 1) w K Kp = K (.pointer (some (p.add 3))) w := op_fa (k := .one) (by kernel_rfl)
@[simp] theorem pur_fa_80_1 {p : Addr} : nP.pur (.fieldAddr 80 (.pointer (some p)) 1) K1 = K1 (.pointer (some (p.add 3))) := pur_fa (k := .one) (by kernel_rfl)
@[simp] theorem op_fa_80_2 {p : Addr} : nP.op (.fieldAddr 80 (.pointer (some p)) 2) w K Kp = K (.pointer (some (p.add 4))) w := op_fa (k := .one) (by kernel_rfl)
@[simp] theorem pur_fa_80_2 {p : Addr} : nP.pur (.fieldAddr 80 (.pointer (some p)) 2) K1 = K1 (.pointer (some (p.add 4))) := pur_fa (k := .one) (by kernel_rfl)
@[simp] theorem call_119 {args : List Value} : nP.call (.fn 119) args w K Kp = Calls Tryz.prog 119 args.toArray w (ret K Kp) := call_fn (by kernel_rfl)
@[simp] theorem op_alloc_177 : nP.op (.alloc 177) w K Kp = K (.pointer (some ⟨w.heap.size, 0, none⟩)) (w.alloc (.cells #[Value.pointer none] 177)) := op_alloc (z := (.agg #[(Value.pointer none)])) (by kernel_rfl)
@[simp] theorem op_ld_177 {p : Addr} : nP.op (.load 177 (.pointer (some p))) w K Kp = ∃ cs e fz, w.heap[p.block]? = some (.cells cs e fz) ∧ p.spot = none ∧ p.off + 1 ≤ cs.size ∧ K (.agg (cs.extract p.off (p.off + 1))) w := op_ldn (by kernel_rfl)
@[simp] theorem ld_ld_177 {p : Addr} : nP.ld (.load 177 (.pointer (some p))) w K1 = ∃ cs e fz, w.heap[p.block]? = some (.cells cs e fz) ∧ p.spot = none ∧ p.off + 1 ≤ cs.size ∧ K1 (.agg (cs.extract p.off (p.off + 1))) := ld_ldn (by kernel_rfl)
@[simp] theorem same_ld_177 {p : Addr} {v : Value} : nP.same (.load 177 (.pointer (some p))) v w = ∃ cs e fz, w.heap[p.block]? = some (.cells cs e fz) ∧ p.spot = none ∧ p.off + 1 ≤ cs.size ∧ .agg (cs.extract p.off (p.off + 1)) = v := same_ldn (by kernel_rfl)
@[simp] theorem op_st_177 {p : Addr} {vs : Array Value} : nP.op (.store 177 (.pointer (some p)) (.agg vs)) w K Kp = (vs.size = 1 ∧ (∀ u ∈ vs.toList, u.oneCell' = true) ∧ ∃ cs e, w.heap[p.block]? = some (.cells cs e (0, 0)) ∧ p.spot = none ∧ p.off + 1 ≤ cs.size ∧ K undef (w.upd p.block (.cells (ow cs p.off vs.toList) e (0, 0)))) := op_stn (by kernel_rfl)
@[simp] theorem op_fa_49_0 {p : Addr} : nP.op (.fieldAddr 49 (.pointer (some p)) 0) w K Kp = K (.pointer (some (p.add 0))) w := op_fa (k := .one) (by kernel_rfl)
@[simp] theorem pur_fa_49_0 {p : Addr} : nP.pur (.fieldAddr 49 (.pointer (some p)) 0) K1 = K1 (.pointer (some (p.add 0))) := pur_fa (k := .one) (by kernel_rfl)
@[simp] theorem op_fa_49_1 {p : Addr} : nP.op (.fieldAddr 49 (.pointer (some p)) 1) w K Kp = K (.pointer (some (p.add 1))) w := op_fa (k := .one) (by kernel_rfl)
@[simp] theorem pur_fa_49_1 {p : Addr} : nP.pur (.fieldAddr 49 (.pointer (some p)) 1) K1 = K1 (.pointer (some (p.add 1))) := pur_fa (k := .one) (by kernel_rfl)
@[simp] theorem call_120 {args : List Value} : nP.call (.fn 120) args w K Kp = Calls Tryz.prog 120 args.toArray w (ret K Kp) := call_fn (by kernel_rfl)
@[simp] theorem op_fa_49_2 {p : Addr} : nP.op (.fieldAddr 49 (.pointer (some p)) 2) w K Kp = K (.pointer (some (p.add 2))) w := op_fa (k := .one) (by kernel_rfl)
@[simp] theorem pur_fa_49_2 {p : Addr} : nP.pur (.fieldAddr 49 (.pointer (some p)) 2) K1 = K1 (.pointer (some (p.add 2))) := pur_fa (k := .one) (by kernel_rfl)
@[simp] theorem call_125 {args : List Value} : nP.call (.fn 125) args w K Kp = Calls Tryz.prog 125 args.toArray w (ret K Kp) := call_fn (by kernel_rfl)
@[simp] theorem op_ix_74 {p : Addr} {len cap : Nat} {k : IntKind} {j : Int} : nP.op (.indexAddr 74 (.slice (some p) len cap) (.int k j)) w K Kp = ((0 ≤ j ∧ j < (len : Int)) ∧ K (.pointer (some (p.add (j.toNat * 3)))) w) := op_ix_slice (e := 73) (by kernel_rfl)
@[simp] theorem pur_ix_74 {p : Addr} {len cap : Nat} {k : IntKind} {j : Int} : nP.pur (.indexAddr 74 (.slice (some p) len cap) (.int k j)) K1 = ((0 ≤ j ∧ j < (len : Int)) ∧ K1 (.pointer (some (p.add (j.toNat * 3))))) := pur_ix_slice (e := 73) (by kernel_rfl)
@[simp] theorem op_ld_73 {p : Addr} : nP.op (.load 73 (.pointer (some p))) w K Kp = ∃ cs e fz, w.heap[p.block]? = some (.cells cs e fz) ∧ p.spot = none ∧ p.off + 3 ≤ cs.size ∧ K (.agg (cs.extract p.off (p.off + 3))) w := op_ldn (by kernel_rfl)
@[simp] theorem ld_ld_73 {p : Addr} : nP.ld (.load 73 (.pointer (some p))) w K1 = ∃ cs e fz, w.heap[p.block]? = some (.cells cs e fz) ∧ p.spot = none ∧ p.off + 3 ≤ cs.size ∧ K1 (.agg (cs.extract p.off (p.off + 3))) := ld_ldn (by kernel_rfl)
@[simp] theorem same_ld_73 {p : Addr} {v : Value} : nP.same (.load 73 (.pointer (some p))) v w = ∃ cs e fz, w.heap[p.block]? = some (.cells cs e fz) ∧ p.spot = none ∧ p.off + 3 ≤ cs.size ∧ .agg (cs.extract p.off (p.off + 3)) = v := same_ldn (by kernel_rfl)
@[simp] theorem op_st_73 {p : Addr} {vs : Array Value} : nP.op (.store 73 (.pointer (some p)) (.agg vs)) w K Kp = (vs.size = 3 ∧ (∀ u ∈ vs.toList, u.oneCell' = true) ∧ ∃ cs e, w.heap[p.block]? = some (.cells cs e (0, 0)) ∧ p.spot = none ∧ p.off + 3 ≤ cs.size ∧ K undef (w.upd p.block (.cells (ow cs p.off vs.toList) e (0, 0)))) := op_stn (by kernel_rfl)
@[simp] theorem op_alloc_73 : nP.op (.alloc 73) w K Kp = K (.pointer (some ⟨w.heap.size, 0, none⟩)) (w.alloc (.cells #[Value.int IntKind.u8 0, Value.int IntKind.i64 0, Value.string ByteArray.empty] 73)) := op_alloc (z := (.agg #[(Value.int IntKind.u8 0), (Value.int IntKind.i64 0), (Value.string ByteArray.empty)])) (by kernel_rfl)
@[simp] theorem op_alloc_80 : nP.op (.alloc 80) w K Kp = K (.pointer (some ⟨w.heap.size, 0, none⟩)) (w.alloc (.cells #[Value.int IntKind.i64 0, Value.string ByteArray.empty, Value.int IntKind.i64 0, Value.bool false, Value.bool false] 80)) := op_alloc (z := (.agg #[(Value.int IntKind.i64 0), (Value.string ByteArray.empty), (Value.int IntKind.i64 0), (Value.bool false), (Value.bool false)])) (by kernel_rfl)
@[simp] theorem op_fa_73_1 {p : Addr} : nP.op (.fieldAddr 73 (.pointer (some p)) 1) w K Kp = K (.pointer (some (p.add 1))) w := op_fa (k := .one) (by kernel_rfl)
@[simp] theorem pur_fa_73_1 {p : Addr} : nP.pur (.fieldAddr 73 (.pointer (some p)) 1) K1 = K1 (.pointer (some (p.add 1))) := pur_fa (k := .one) (by kernel_rfl)
@[simp] theorem op_fa_73_2 {p : Addr} : nP.op (.fieldAddr 73 (.pointer (some p)) 2) w K Kp = K (.pointer (some (p.add 2))) w := op_fa (k := .one) (by kernel_rfl)
@[simp] theorem pur_fa_73_2 {p : Addr} : nP.pur (.fieldAddr 73 (.pointer (some p)) 2) K1 = K1 (.pointer (some (p.add 2))) := pur_fa (k := .one) (by kernel_rfl)
@[simp] theorem op_fa_73_0 {p : Addr} : nP.op (.fieldAddr 73 (.pointer (some p)) 0) w K Kp = K (.pointer (some (p.add 0))) w := op_fa (k := .one) (by kernel_rfl)
@[simp] theorem pur_fa_73_0 {p : Addr} : nP.pur (.fieldAddr 73 (.pointer (some p)) 0) K1 = K1 (.pointer (some (p.add 0))) := pur_fa (k := .one) (by kernel_rfl)
@[simp] theorem call_136 {args : List Value} : nP.call (.fn 136) args w K Kp = Calls Tryz.prog 136 args.toArray w (ret K Kp) := call_fn (by kernel_rfl)
@[simp] theorem call_126 {args : List Value} : nP.call (.fn 126) args w K Kp = Calls Tryz.prog 126 args.toArray w (ret K Kp) := call_fn (by kernel_rfl)
@[simp] theorem call_137 {args : List Value} : nP.call (.fn 137) args w K Kp = Calls Tryz.prog 137 args.toArray w (ret K Kp) := call_fn (by kernel_rfl)
@[simp] theorem call_128 {args : List Value} : nP.call (.fn 128) args w K Kp = Calls Tryz.prog 128 args.toArray w (ret K Kp) := call_fn (by kernel_rfl)
@[simp] theorem call_139 {args : List Value} : nP.call (.fn 139) args w K Kp = Calls Tryz.prog 139 args.toArray w (ret K Kp) := call_fn (by kernel_rfl)
@[simp] theorem call_140 {args : List Value} : nP.call (.fn 140) args w K Kp = Calls Tryz.prog 140 args.toArray w (ret K Kp) := call_fn (by kernel_rfl)
@[simp] theorem call_127 {args : List Value} : nP.call (.fn 127) args w K Kp = Calls Tryz.prog 127 args.toArray w (ret K Kp) := call_fn (by kernel_rfl)
@[simp] theorem op_ld_80 {p : Addr} : nP.op (.load 80 (.pointer (some p))) w K Kp = ∃ cs e fz, w.heap[p.block]? = some (.cells cs e fz) ∧ p.spot = none ∧ p.off + 5 ≤ cs.size ∧ K (.agg (cs.extract p.off (p.off + 5))) w := op_ldn (by kernel_rfl)
@[simp] theorem ld_ld_80 {p : Addr} : nP.ld (.load 80 (.pointer (some p))) w K1 = ∃ cs e fz, w.heap[p.block]? = some (.cells cs e fz) ∧ p.spot = none ∧ p.off + 5 ≤ cs.size ∧ K1 (.agg (cs.extract p.off (p.off + 5))) := ld_ldn (by kernel_rfl)
@[simp] theorem same_ld_80 {p : Addr} {v : Value} : nP.same (.load 80 (.pointer (some p))) v w = ∃ cs e fz, w.heap[p.block]? = some (.cells cs e fz) ∧ p.spot = none ∧ p.off + 5 ≤ cs.size ∧ .agg (cs.extract p.off (p.off + 5)) = v := same_ldn (by kernel_rfl)
theorem lit_76_1 {y0_0 y0_1 y0_2 y0_3 y0_4 : Value} : sliceLit Tryz.prog 76 1 [(0, .agg #[y0_0, y0_1, y0_2, y0_3, y0_4])] = some (80, #[y0_0, y0_1, y0_2, y0_3, y0_4]) := by
  have e : sliceLit Tryz.prog 76 1 [(0, .agg #[y0_0, y0_1, y0_2, y0_3, y0_4])] = (Instr.fill (fun i => some (i * 5, 5)) (#[Value.int IntKind.i64 0, Value.string ByteArray.empty, Value.int IntKind.i64 0, Value.bool false, Value.bool false]) [(0, .agg #[y0_0, y0_1, y0_2, y0_3, y0_4])]).map fun cs => (80, cs) := by kernel_rfl
  rw [e]; simp [Instr.fill, Value.cells]
@[simp] theorem op_lit_76_1 {y0_0 y0_1 y0_2 y0_3 y0_4 : Value} : nP.op (.buildSlice 76 1 [(0, .agg #[y0_0, y0_1, y0_2, y0_3, y0_4])]) w K Kp = K (.slice (some ⟨w.heap.size, 0, none⟩) 1 1) (w.alloc (.cells #[y0_0, y0_1, y0_2, y0_3, y0_4] 80)) := op_lit (lit_76_1)
@[simp] theorem call_162 {args : List Value} : nP.call (.fn 162) args w K Kp = Calls Tryz.prog 162 args.toArray w (ret K Kp) := call_fn (by kernel_rfl)
@[simp] theorem op_len_182 {a : Option Addr} {n c ty : Nat} : nP.op (.blt .len [182] ty [.slice a n c]) w K Kp = K (.int .i64 n) w := op_len_slice (by kernel_rfl)
@[simp] theorem pur_len_182 {a : Option Addr} {n c ty : Nat} : nP.pur (.blt .len [182] ty [.slice a n c]) K1 = K1 (.int .i64 n) := pur_len_slice (by kernel_rfl)
@[simp] theorem ld_len_182 {a : Option Addr} {n c ty : Nat} : nP.ld (.blt .len [182] ty [.slice a n c]) w K1 = K1 (.int .i64 n) := ld_len_slice (by kernel_rfl)
@[simp] theorem same_len_182 {a : Option Addr} {n c ty : Nat} {u : Value} : nP.same (.blt .len [182] ty [.slice a n c]) u w = (.int .i64 n = u) := same_len_slice (by kernel_rfl)
@[simp] theorem op_ix_182 {p : Addr} {len cap : Nat} {k : IntKind} {j : Int} : nP.op (.indexAddr 182 (.slice (some p) len cap) (.int k j)) w K Kp = ((0 ≤ j ∧ j < (len : Int)) ∧ K (.pointer (some (p.add (j.toNat * 1)))) w) := op_ix_slice (e := 2) (by kernel_rfl)
@[simp] theorem pur_ix_182 {p : Addr} {len cap : Nat} {k : IntKind} {j : Int} : nP.pur (.indexAddr 182 (.slice (some p) len cap) (.int k j)) K1 = ((0 ≤ j ∧ j < (len : Int)) ∧ K1 (.pointer (some (p.add (j.toNat * 1))))) := pur_ix_slice (e := 2) (by kernel_rfl)
theorem build_235_  : buildV Tryz.prog 235 [] = some (.agg (#[])) := by
  have e : buildV Tryz.prog 235 [] = (Instr.fill ((#[] : Array (Nat × Nat))[·]?) (#[]) []).map .agg := by kernel_rfl
  rw [e]; simp [Instr.fill]
@[simp] theorem op_build_235_  : nP.op (.build 235 []) w K Kp = K (.agg (#[])) w := op_build (build_235_)
@[simp] theorem pur_build_235_  : nP.pur (.build 235 []) K1 = K1 (.agg (#[])) := pur_build (build_235_)
@[simp] theorem call_163 {args : List Value} : nP.call (.fn 163) args w K Kp = Calls Tryz.prog 163 args.toArray w (ret K Kp) := call_fn (by kernel_rfl)
theorem build_177_0 {x0 : Value} (h0 : x0.oneCell' = true) : buildV Tryz.prog 177 [(0, x0)] = some (.agg (#[x0])) := by
  have e : buildV Tryz.prog 177 [(0, x0)] = (Instr.fill ((#[(0, 1)] : Array (Nat × Nat))[·]?) (#[Value.pointer none]) [(0, x0)]).map .agg := by kernel_rfl
  rw [e]; simp [Instr.fill, cells_of_one h0]
@[simp] theorem op_build_177_0 {x0 : Value} (h0 : x0.oneCell' = true) : nP.op (.build 177 [(0, x0)]) w K Kp = K (.agg (#[x0])) w := op_build (build_177_0 h0)
@[simp] theorem pur_build_177_0 {x0 : Value} (h0 : x0.oneCell' = true) : nP.pur (.build 177 [(0, x0)]) K1 = K1 (.agg (#[x0])) := pur_build (build_177_0 h0)
theorem build_314_2 {x2 : Value} (h2 : x2.oneCell' = true) : buildV Tryz.prog 314 [(2, x2)] = some (.agg (#[Value.int IntKind.i64 0, Value.nilIface, x2])) := by
  have e : buildV Tryz.prog 314 [(2, x2)] = (Instr.fill ((#[(0, 1), (1, 1), (2, 1)] : Array (Nat × Nat))[·]?) (#[Value.int IntKind.i64 0, Value.nilIface, Value.nilIface]) [(2, x2)]).map .agg := by kernel_rfl
  rw [e]; simp [Instr.fill, cells_of_one h2]
@[simp] theorem op_build_314_2 {x2 : Value} (h2 : x2.oneCell' = true) : nP.op (.build 314 [(2, x2)]) w K Kp = K (.agg (#[Value.int IntKind.i64 0, Value.nilIface, x2])) w := op_build (build_314_2 h2)
@[simp] theorem pur_build_314_2 {x2 : Value} (h2 : x2.oneCell' = true) : nP.pur (.build 314 [(2, x2)]) K1 = K1 (.agg (#[Value.int IntKind.i64 0, Value.nilIface, x2])) := pur_build (build_314_2 h2)
@[simp] theorem op_fa_177_0 {p : Addr} : nP.op (.fieldAddr 177 (.pointer (some p)) 0) w K Kp = K (.pointer (some (p.add 0))) w := op_fa (k := .one) (by kernel_rfl)
@[simp] theorem pur_fa_177_0 {p : Addr} : nP.pur (.fieldAddr 177 (.pointer (some p)) 0) K1 = K1 (.pointer (some (p.add 0))) := pur_fa (k := .one) (by kernel_rfl)
@[simp] theorem op_ld_175 {p : Addr} : nP.op (.load 175 (.pointer (some p))) w K Kp = ∃ cs e fz, w.heap[p.block]? = some (.cells cs e fz) ∧ p.spot = none ∧ ∃ v, cs[p.off]? = some v ∧ K v w := op_ld (by kernel_rfl)
@[simp] theorem ld_ld_175 {p : Addr} : nP.ld (.load 175 (.pointer (some p))) w K1 = ∃ cs e fz, w.heap[p.block]? = some (.cells cs e fz) ∧ p.spot = none ∧ ∃ v, cs[p.off]? = some v ∧ K1 v := ld_ld (by kernel_rfl)
@[simp] theorem same_ld_175 {p : Addr} {v : Value} : nP.same (.load 175 (.pointer (some p))) v w = ∃ cs e fz, w.heap[p.block]? = some (.cells cs e fz) ∧ p.spot = none ∧ cs[p.off]? = some v := same_ld (by kernel_rfl)
@[simp] theorem call_168 {args : List Value} : nP.call (.fn 168) args w K Kp = Calls Tryz.prog 168 args.toArray w (ret K Kp) := call_fn (by kernel_rfl)
theorem build_255_0 {x0 : Value} (h0 : x0.oneCell' = true) : buildV Tryz.prog 255 [(0, x0)] = some (.agg (#[x0])) := by
  have e : buildV Tryz.prog 255 [(0, x0)] = (Instr.fill ((#[(0, 1)] : Array (Nat × Nat))[·]?) (#[Value.pointer none]) [(0, x0)]).map .agg := by kernel_rfl
  rw [e]; simp [Instr.fill, cells_of_one h0]
@[simp] theorem op_build_255_0 {x0 : Value} (h0 : x0.oneCell' = true) : nP.op (.build 255 [(0, x0)]) w K Kp = K (.agg (#[x0])) w := op_build (build_255_0 h0)
@[simp] theorem pur_build_255_0 {x0 : Value} (h0 : x0.oneCell' = true) : nP.pur (.build 255 [(0, x0)]) K1 = K1 (.agg (#[x0])) := pur_build (build_255_0 h0)
@[simp] theorem op_fa_255_0 {p : Addr} : nP.op (.fieldAddr 255 (.pointer (some p)) 0) w K Kp = K (.pointer (some (p.add 0))) w := op_fa (k := .one) (by kernel_rfl)
@[simp] theorem pur_fa_255_0 {p : Addr} : nP.pur (.fieldAddr 255 (.pointer (some p)) 0) K1 = K1 (.pointer (some (p.add 0))) := pur_fa (k := .one) (by kernel_rfl)
@[simp] theorem op_ld_252 {p : Addr} : nP.op (.load 252 (.pointer (some p))) w K Kp = ∃ cs e fz, w.heap[p.block]? = some (.cells cs e fz) ∧ p.spot = none ∧ ∃ v, cs[p.off]? = some v ∧ K v w := op_ld (by kernel_rfl)
@[simp] theorem ld_ld_252 {p : Addr} : nP.ld (.load 252 (.pointer (some p))) w K1 = ∃ cs e fz, w.heap[p.block]? = some (.cells cs e fz) ∧ p.spot = none ∧ ∃ v, cs[p.off]? = some v ∧ K1 v := ld_ld (by kernel_rfl)
@[simp] theorem same_ld_252 {p : Addr} {v : Value} : nP.same (.load 252 (.pointer (some p))) v w = ∃ cs e fz, w.heap[p.block]? = some (.cells cs e fz) ∧ p.spot = none ∧ cs[p.off]? = some v := same_ld (by kernel_rfl)
@[simp] theorem call_169 {args : List Value} : nP.call (.fn 169) args w K Kp = Calls Tryz.prog 169 args.toArray w (ret K Kp) := call_fn (by kernel_rfl)
@[simp] theorem call_182 {args : List Value} : nP.call (.fn 182) args w K Kp = Calls Tryz.prog 182 args.toArray w (ret K Kp) := call_fn (by kernel_rfl)
def zero_332 : Array Value := #[Value.pointer none, Value.nilIface, Value.int IntKind.i64 0, Value.nilIface, Value.int IntKind.i64 0, Value.nilIface, Value.int IntKind.i64 0, Value.nilIface, Value.int IntKind.i64 0, Value.nilIface, Value.int IntKind.i64 0, Value.nilIface, Value.int IntKind.i64 0, Value.nilIface, Value.int IntKind.i64 0, Value.nilIface, Value.int IntKind.i64 0, Value.nilIface, Value.int IntKind.i64 0, Value.nilIface, Value.int IntKind.i64 0, Value.nilIface, Value.int IntKind.i64 0, Value.nilIface, Value.int IntKind.i64 0, Value.nilIface, Value.int IntKind.i64 0, Value.nilIface, Value.int IntKind.i64 0, Value.nilIface, Value.int IntKind.i64 0, Value.nilIface, Value.int IntKind.i64 0, Value.nilIface, Value.int IntKind.i64 0, Value.nilIface, Value.int IntKind.i64 0, Value.nilIface, Value.int IntKind.i64 0, Value.nilIface, Value.int IntKind.i64 0, Value.nilIface, Value.int IntKind.i64 0, Value.nilIface, Value.int IntKind.i64 0, Value.nilIface, Value.int IntKind.i64 0, Value.nilIface, Value.int IntKind.i64 0, Value.nilIface, Value.int IntKind.i64 0, Value.nilIface, Value.int IntKind.i64 0, Value.nilIface, Value.int IntKind.i64 0, Value.nilIface, Value.int IntKind.i64 0, Value.nilIface, Value.int IntKind.i64 0, Value.nilIface, Value.int IntKind.i64 0, Value.nilIface, Value.int IntKind.i64 0, Value.nilIface, Value.int IntKind.i64 0, Value.int IntKind.i64 0]
theorem build_332_0 {x0 : Value} (h0 : x0.oneCell' = true) : buildV Tryz.prog 332 [(0, x0)] = some (.agg ((zero_332).setIfInBounds 0 x0)) := by
  have e : buildV Tryz.prog 332 [(0, x0)] = (Instr.fill ((#[(0, 1), (1, 64), (65, 1)] : Array (Nat × Nat))[·]?) (zero_332) [(0, x0)]).map .agg := by kernel_rfl
  rw [e]; simp [Instr.fill, cells_of_one h0, zero_332]
@[simp] theorem op_build_332_0 {x0 : Value} (h0 : x0.oneCell' = true) : nP.op (.build 332 [(0, x0)]) w K Kp = K (.agg ((zero_332).setIfInBounds 0 x0)) w := op_build (build_332_0 h0)
@[simp] theorem pur_build_332_0 {x0 : Value} (h0 : x0.oneCell' = true) : nP.pur (.build 332 [(0, x0)]) K1 = K1 (.agg ((zero_332).setIfInBounds 0 x0)) := pur_build (build_332_0 h0)
@[simp] theorem op_fa_332_0 {p : Addr} : nP.op (.fieldAddr 332 (.pointer (some p)) 0) w K Kp = K (.pointer (some (p.add 0))) w := op_fa (k := .one) (by kernel_rfl)
@[simp] theorem pur_fa_332_0 {p : Addr} : nP.pur (.fieldAddr 332 (.pointer (some p)) 0) K1 = K1 (.pointer (some (p.add 0))) := pur_fa (k := .one) (by kernel_rfl)
@[simp] theorem op_fa_314_1 {p : Addr} : nP.op (.fieldAddr 314 (.pointer (some p)) 1) w K Kp = K (.pointer (some (p.add 1))) w := op_fa (k := .one) (by kernel_rfl)
@[simp] theorem pur_fa_314_1 {p : Addr} : nP.pur (.fieldAddr 314 (.pointer (some p)) 1) K1 = K1 (.pointer (some (p.add 1))) := pur_fa (k := .one) (by kernel_rfl)
@[simp] theorem op_ld_312 {p : Addr} : nP.op (.load 312 (.pointer (some p))) w K Kp = ∃ cs e fz, w.heap[p.block]? = some (.cells cs e fz) ∧ p.spot = none ∧ ∃ v, cs[p.off]? = some v ∧ K v w := op_ld (by kernel_rfl)
@[simp] theorem ld_ld_312 {p : Addr} : nP.ld (.load 312 (.pointer (some p))) w K1 = ∃ cs e fz, w.heap[p.block]? = some (.cells cs e fz) ∧ p.spot = none ∧ ∃ v, cs[p.off]? = some v ∧ K1 v := ld_ld (by kernel_rfl)
@[simp] theorem same_ld_312 {p : Addr} {v : Value} : nP.same (.load 312 (.pointer (some p))) v w = ∃ cs e fz, w.heap[p.block]? = some (.cells cs e fz) ∧ p.spot = none ∧ cs[p.off]? = some v := same_ld (by kernel_rfl)
@[simp] theorem op_eql_312_y {xc yc : Bool} {u : TypeId} {v : Value} : nP.op (.bin BinOp.eql 312 xc yc (.iface u v) .nilIface) w K Kp = K (.bool false) w := op_eq_iface (by kernel_rfl) rfl
@[simp] theorem op_eql_312_n {xc : Bool} : nP.op (.bin BinOp.eql 312 xc true .nilIface .nilIface) w K Kp = K (.bool true) w := op_eq_niface (by kernel_rfl) rfl
@[simp] theorem pur_eql_312_y {xc yc : Bool} {u : TypeId} {v : Value} : nP.pur (.bin BinOp.eql 312 xc yc (.iface u v) .nilIface) K1 = K1 (.bool false) := pur_eq_iface (by kernel_rfl) rfl
@[simp] theorem pur_eql_312_n {xc : Bool} : nP.pur (.bin BinOp.eql 312 xc true .nilIface .nilIface) K1 = K1 (.bool true) := pur_eq_niface (by kernel_rfl) rfl
@[simp] theorem op_fa_332_2 {p : Addr} : nP.op (.fieldAddr 332 (.pointer (some p)) 2) w K Kp = K (.pointer (some (p.add 65))) w := op_fa (k := .one) (by kernel_rfl)
@[simp] theorem pur_fa_332_2 {p : Addr} : nP.pur (.fieldAddr 332 (.pointer (some p)) 2) K1 = K1 (.pointer (some (p.add 65))) := pur_fa (k := .one) (by kernel_rfl)
theorem build_329_0 {x0 : Value} (h0 : x0.oneCell' = true) : buildV Tryz.prog 329 [(0, x0)] = some (.agg (#[x0, Value.int IntKind.i64 0])) := by
  have e : buildV Tryz.prog 329 [(0, x0)] = (Instr.fill ((#[(0, 1), (1, 1)] : Array (Nat × Nat))[·]?) (#[Value.nilIface, Value.int IntKind.i64 0]) [(0, x0)]).map .agg := by kernel_rfl
  rw [e]; simp [Instr.fill, cells_of_one h0]
@[simp] theorem op_build_329_0 {x0 : Value} (h0 : x0.oneCell' = true) : nP.op (.build 329 [(0, x0)]) w K Kp = K (.agg (#[x0, Value.int IntKind.i64 0])) w := op_build (build_329_0 h0)
@[simp] theorem pur_build_329_0 {x0 : Value} (h0 : x0.oneCell' = true) : nP.pur (.build 329 [(0, x0)]) K1 = K1 (.agg (#[x0, Value.int IntKind.i64 0])) := pur_build (build_329_0 h0)
@[simp] theorem op_fa_332_1 {p : Addr} : nP.op (.fieldAddr 332 (.pointer (some p)) 1) w K Kp = K (.pointer (some (p.add 1))) w := op_fa (k := (.agg 64)) (by kernel_rfl)
@[simp] theorem pur_fa_332_1 {p : Addr} : nP.pur (.fieldAddr 332 (.pointer (some p)) 1) K1 = K1 (.pointer (some (p.add 1))) := pur_fa (k := (.agg 64)) (by kernel_rfl)
@[simp] theorem op_ix_330 {p : Addr} {k : IntKind} {j : Int} : nP.op (.indexAddr 330 (.pointer (some p)) (.int k j)) w K Kp = ((0 ≤ j ∧ j < 32) ∧ K (.pointer (some (p.add (j.toNat * 2)))) w) := op_ix_arr (by kernel_rfl)
@[simp] theorem pur_ix_330 {p : Addr} {k : IntKind} {j : Int} : nP.pur (.indexAddr 330 (.pointer (some p)) (.int k j)) K1 = ((0 ≤ j ∧ j < 32) ∧ K1 (.pointer (some (p.add (j.toNat * 2))))) := pur_ix_arr (by kernel_rfl)
@[simp] theorem op_st_329 {p : Addr} {vs : Array Value} : nP.op (.store 329 (.pointer (some p)) (.agg vs)) w K Kp = (vs.size = 2 ∧ (∀ u ∈ vs.toList, u.oneCell' = true) ∧ ∃ cs e, w.heap[p.block]? = some (.cells cs e (0, 0)) ∧ p.spot = none ∧ p.off + 2 ≤ cs.size ∧ K undef (w.upd p.block (.cells (ow cs p.off vs.toList) e (0, 0)))) := op_stn (by kernel_rfl)
@[simp] theorem call_202 {args : List Value} : nP.call (.fn 202) args w K Kp = Calls Tryz.prog 202 args.toArray w (ret K Kp) := call_fn (by kernel_rfl)
@[simp] theorem call_208 {args : List Value} : nP.call (.fn 208) args w K Kp = Calls Tryz.prog 208 args.toArray w (ret K Kp) := call_fn (by kernel_rfl)
@[simp] theorem call_109 {args : List Value} : nP.call (.fn 109) args w K Kp = Calls Tryz.prog 109 args.toArray w (ret K Kp) := call_fn (by kernel_rfl)
@[simp] theorem op_alloc_164 : nP.op (.alloc 164) w K Kp = K (.pointer (some ⟨w.heap.size, 0, none⟩)) (w.alloc (.cells #[Value.pointer none] 164)) := op_alloc (z := (.agg #[(Value.pointer none)])) (by kernel_rfl)
@[simp] theorem op_ld_164 {p : Addr} : nP.op (.load 164 (.pointer (some p))) w K Kp = ∃ cs e fz, w.heap[p.block]? = some (.cells cs e fz) ∧ p.spot = none ∧ p.off + 1 ≤ cs.size ∧ K (.agg (cs.extract p.off (p.off + 1))) w := op_ldn (by kernel_rfl)
@[simp] theorem ld_ld_164 {p : Addr} : nP.ld (.load 164 (.pointer (some p))) w K1 = ∃ cs e fz, w.heap[p.block]? = some (.cells cs e fz) ∧ p.spot = none ∧ p.off + 1 ≤ cs.size ∧ K1 (.agg (cs.extract p.off (p.off + 1))) := ld_ldn (by kernel_rfl)
@[simp] theorem same_ld_164 {p : Addr} {v : Value} : nP.same (.load 164 (.pointer (some p))) v w = ∃ cs e fz, w.heap[p.block]? = some (.cells cs e fz) ∧ p.spot = none ∧ p.off + 1 ≤ cs.size ∧ .agg (cs.extract p.off (p.off + 1)) = v := same_ldn (by kernel_rfl)
@[simp] theorem op_st_164 {p : Addr} {vs : Array Value} : nP.op (.store 164 (.pointer (some p)) (.agg vs)) w K Kp = (vs.size = 1 ∧ (∀ u ∈ vs.toList, u.oneCell' = true) ∧ ∃ cs e, w.heap[p.block]? = some (.cells cs e (0, 0)) ∧ p.spot = none ∧ p.off + 1 ≤ cs.size ∧ K undef (w.upd p.block (.cells (ow cs p.off vs.toList) e (0, 0)))) := op_stn (by kernel_rfl)
@[simp] theorem call_110 {args : List Value} : nP.call (.fn 110) args w K Kp = Calls Tryz.prog 110 args.toArray w (ret K Kp) := call_fn (by kernel_rfl)
@[simp] theorem call_115 {args : List Value} : nP.call (.fn 115) args w K Kp = Calls Tryz.prog 115 args.toArray w (ret K Kp) := call_fn (by kernel_rfl)
@[simp] theorem call_130 {args : List Value} : nP.call (.fn 130) args w K Kp = Calls Tryz.prog 130 args.toArray w (ret K Kp) := call_fn (by kernel_rfl)
@[simp] theorem call_116 {args : List Value} : nP.call (.fn 116) args w K Kp = Calls Tryz.prog 116 args.toArray w (ret K Kp) := call_fn (by kernel_rfl)
@[simp] theorem call_131 {args : List Value} : nP.call (.fn 131) args w K Kp = Calls Tryz.prog 131 args.toArray w (ret K Kp) := call_fn (by kernel_rfl)
@[simp] theorem call_118 {args : List Value} : nP.call (.fn 118) args w K Kp = Calls Tryz.prog 118 args.toArray w (ret K Kp) := call_fn (by kernel_rfl)
@[simp] theorem call_133 {args : List Value} : nP.call (.fn 133) args w K Kp = Calls Tryz.prog 133 args.toArray w (ret K Kp) := call_fn (by kernel_rfl)
@[simp] theorem call_134 {args : List Value} : nP.call (.fn 134) args w K Kp = Calls Tryz.prog 134 args.toArray w (ret K Kp) := call_fn (by kernel_rfl)
@[simp] theorem call_117 {args : List Value} : nP.call (.fn 117) args w K Kp = Calls Tryz.prog 117 args.toArray w (ret K Kp) := call_fn (by kernel_rfl)
@[simp] theorem call_151 {args : List Value} : nP.call (.fn 151) args w K Kp = Calls Tryz.prog 151 args.toArray w (ret K Kp) := call_fn (by kernel_rfl)
@[simp] theorem op_len_169 {a : Option Addr} {n c ty : Nat} : nP.op (.blt .len [169] ty [.slice a n c]) w K Kp = K (.int .i64 n) w := op_len_slice (by kernel_rfl)
@[simp] theorem pur_len_169 {a : Option Addr} {n c ty : Nat} : nP.pur (.blt .len [169] ty [.slice a n c]) K1 = K1 (.int .i64 n) := pur_len_slice (by kernel_rfl)
@[simp] theorem ld_len_169 {a : Option Addr} {n c ty : Nat} : nP.ld (.blt .len [169] ty [.slice a n c]) w K1 = K1 (.int .i64 n) := ld_len_slice (by kernel_rfl)
@[simp] theorem same_len_169 {a : Option Addr} {n c ty : Nat} {u : Value} : nP.same (.blt .len [169] ty [.slice a n c]) u w = (.int .i64 n = u) := same_len_slice (by kernel_rfl)
@[simp] theorem op_ix_169 {p : Addr} {len cap : Nat} {k : IntKind} {j : Int} : nP.op (.indexAddr 169 (.slice (some p) len cap) (.int k j)) w K Kp = ((0 ≤ j ∧ j < (len : Int)) ∧ K (.pointer (some (p.add (j.toNat * 1)))) w) := op_ix_slice (e := 9) (by kernel_rfl)
@[simp] theorem pur_ix_169 {p : Addr} {len cap : Nat} {k : IntKind} {j : Int} : nP.pur (.indexAddr 169 (.slice (some p) len cap) (.int k j)) K1 = ((0 ≤ j ∧ j < (len : Int)) ∧ K1 (.pointer (some (p.add (j.toNat * 1))))) := pur_ix_slice (e := 9) (by kernel_rfl)
@[simp] theorem call_152 {args : List Value} : nP.call (.fn 152) args w K Kp = Calls Tryz.prog 152 args.toArray w (ret K Kp) := call_fn (by kernel_rfl)
theorem build_164_0 {x0 : Value} (h0 : x0.oneCell' = true) : buildV Tryz.prog 164 [(0, x0)] = some (.agg (#[x0])) := by
  have e : buildV Tryz.prog 164 [(0, x0)] = (Instr.fill ((#[(0, 1)] : Array (Nat × Nat))[·]?) (#[Value.pointer none]) [(0, x0)]).map .agg := by kernel_rfl
  rw [e]; simp [Instr.fill, cells_of_one h0]
@[simp] theorem op_build_164_0 {x0 : Value} (h0 : x0.oneCell' = true) : nP.op (.build 164 [(0, x0)]) w K Kp = K (.agg (#[x0])) w := op_build (build_164_0 h0)
@[simp] theorem pur_build_164_0 {x0 : Value} (h0 : x0.oneCell' = true) : nP.pur (.build 164 [(0, x0)]) K1 = K1 (.agg (#[x0])) := pur_build (build_164_0 h0)
theorem build_290_2 {x2 : Value} (h2 : x2.oneCell' = true) : buildV Tryz.prog 290 [(2, x2)] = some (.agg (#[Value.int IntKind.i64 0, Value.nilIface, x2])) := by
  have e : buildV Tryz.prog 290 [(2, x2)] = (Instr.fill ((#[(0, 1), (1, 1), (2, 1)] : Array (Nat × Nat))[·]?) (#[Value.int IntKind.i64 0, Value.nilIface, Value.nilIface]) [(2, x2)]).map .agg := by kernel_rfl
  rw [e]; simp [Instr.fill, cells_of_one h2]
@[simp] theorem op_build_290_2 {x2 : Value} (h2 : x2.oneCell' = true) : nP.op (.build 290 [(2, x2)]) w K Kp = K (.agg (#[Value.int IntKind.i64 0, Value.nilIface, x2])) w := op_build (build_290_2 h2)
@[simp] theorem pur_build_290_2 {x2 : Value} (h2 : x2.oneCell' = true) : nP.pur (.build 290 [(2, x2)]) K1 = K1 (.agg (#[Value.int IntKind.i64 0, Value.nilIface, x2])) := pur_build (build_290_2 h2)
@[simp] theorem op_fa_164_0 {p : Addr} : nP.op (.fieldAddr 164 (.pointer (some p)) 0) w K Kp = K (.pointer (some (p.add 0))) w := op_fa (k := .one) (by kernel_rfl)
@[simp] theorem pur_fa_164_0 {p : Addr} : nP.pur (.fieldAddr 164 (.pointer (some p)) 0) K1 = K1 (.pointer (some (p.add 0))) := pur_fa (k := .one) (by kernel_rfl)
@[simp] theorem op_ld_162 {p : Addr} : nP.op (.load 162 (.pointer (some p))) w K Kp = ∃ cs e fz, w.heap[p.block]? = some (.cells cs e fz) ∧ p.spot = none ∧ ∃ v, cs[p.off]? = some v ∧ K v w := op_ld (by kernel_rfl)
@[simp] theorem ld_ld_162 {p : Addr} : nP.ld (.load 162 (.pointer (some p))) w K1 = ∃ cs e fz, w.heap[p.block]? = some (.cells cs e fz) ∧ p.spot = none ∧ ∃ v, cs[p.off]? = some v ∧ K1 v := ld_ld (by kernel_rfl)
@[simp] theorem same_ld_162 {p : Addr} {v : Value} : nP.same (.load 162 (.pointer (some p))) v w = ∃ cs e fz, w.heap[p.block]? = some (.cells cs e fz) ∧ p.spot = none ∧ cs[p.off]? = some v := same_ld (by kernel_rfl)
@[simp] theorem call_157 {args : List Value} : nP.call (.fn 157) args w K Kp = Calls Tryz.prog 157 args.toArray w (ret K Kp) := call_fn (by kernel_rfl)
theorem build_244_0 {x0 : Value} (h0 : x0.oneCell' = true) : buildV Tryz.prog 244 [(0, x0)] = some (.agg (#[x0])) := by
  have e : buildV Tryz.prog 244 [(0, x0)] = (Instr.fill ((#[(0, 1)] : Array (Nat × Nat))[·]?) (#[Value.pointer none]) [(0, x0)]).map .agg := by kernel_rfl
  rw [e]; simp [Instr.fill, cells_of_one h0]
@[simp] theorem op_build_244_0 {x0 : Value} (h0 : x0.oneCell' = true) : nP.op (.build 244 [(0, x0)]) w K Kp = K (.agg (#[x0])) w := op_build (build_244_0 h0)
@[simp] theorem pur_build_244_0 {x0 : Value} (h0 : x0.oneCell' = true) : nP.pur (.build 244 [(0, x0)]) K1 = K1 (.agg (#[x0])) := pur_build (build_244_0 h0)
@[simp] theorem op_fa_244_0 {p : Addr} : nP.op (.fieldAddr 244 (.pointer (some p)) 0) w K Kp = K (.pointer (some (p.add 0))) w := op_fa (k := .one) (by kernel_rfl)
@[simp] theorem pur_fa_244_0 {p : Addr} : nP.pur (.fieldAddr 244 (.pointer (some p)) 0) K1 = K1 (.pointer (some (p.add 0))) := pur_fa (k := .one) (by kernel_rfl)
@[simp] theorem op_ld_241 {p : Addr} : nP.op (.load 241 (.pointer (some p))) w K Kp = ∃ cs e fz, w.heap[p.block]? = some (.cells cs e fz) ∧ p.spot = none ∧ ∃ v, cs[p.off]? = some v ∧ K v w := op_ld (by kernel_rfl)
@[simp] theorem ld_ld_241 {p : Addr} : nP.ld (.load 241 (.pointer (some p))) w K1 = ∃ cs e fz, w.heap[p.block]? = some (.cells cs e fz) ∧ p.spot = none ∧ ∃ v, cs[p.off]? = some v ∧ K1 v := ld_ld (by kernel_rfl)
@[simp] theorem same_ld_241 {p : Addr} {v : Value} : nP.same (.load 241 (.pointer (some p))) v w = ∃ cs e fz, w.heap[p.block]? = some (.cells cs e fz) ∧ p.spot = none ∧ cs[p.off]? = some v := same_ld (by kernel_rfl)
@[simp] theorem call_158 {args : List Value} : nP.call (.fn 158) args w K Kp = Calls Tryz.prog 158 args.toArray w (ret K Kp) := call_fn (by kernel_rfl)
@[simp] theorem call_177 {args : List Value} : nP.call (.fn 177) args w K Kp = Calls Tryz.prog 177 args.toArray w (ret K Kp) := call_fn (by kernel_rfl)
def zero_308 : Array Value := #[Value.pointer none, Value.nilIface, Value.int IntKind.i64 0, Value.nilIface, Value.int IntKind.i64 0, Value.nilIface, Value.int IntKind.i64 0, Value.nilIface, Value.int IntKind.i64 0, Value.nilIface, Value.int IntKind.i64 0, Value.nilIface, Value.int IntKind.i64 0, Value.nilIface, Value.int IntKind.i64 0, Value.nilIface, Value.int IntKind.i64 0, Value.nilIface, Value.int IntKind.i64 0, Value.nilIface, Value.int IntKind.i64 0, Value.nilIface, Value.int IntKind.i64 0, Value.nilIface, Value.int IntKind.i64 0, Value.nilIface, Value.int IntKind.i64 0, Value.nilIface, Value.int IntKind.i64 0, Value.nilIface, Value.int IntKind.i64 0, Value.nilIface, Value.int IntKind.i64 0, Value.nilIface, Value.int IntKind.i64 0, Value.nilIface, Value.int IntKind.i64 0, Value.nilIface, Value.int IntKind.i64 0, Value.nilIface, Value.int IntKind.i64 0, Value.nilIface, Value.int IntKind.i64 0, Value.nilIface, Value.int IntKind.i64 0, Value.nilIface, Value.int IntKind.i64 0, Value.nilIface, Value.int IntKind.i64 0, Value.nilIface, Value.int IntKind.i64 0, Value.nilIface, Value.int IntKind.i64 0, Value.nilIface, Value.int IntKind.i64 0, Value.nilIface, Value.int IntKind.i64 0, Value.nilIface, Value.int IntKind.i64 0, Value.nilIface, Value.int IntKind.i64 0, Value.nilIface, Value.int IntKind.i64 0, Value.nilIface, Value.int IntKind.i64 0, Value.int IntKind.i64 0]
theorem build_308_0 {x0 : Value} (h0 : x0.oneCell' = true) : buildV Tryz.prog 308 [(0, x0)] = some (.agg ((zero_308).setIfInBounds 0 x0)) := by
  have e : buildV Tryz.prog 308 [(0, x0)] = (Instr.fill ((#[(0, 1), (1, 64), (65, 1)] : Array (Nat × Nat))[·]?) (zero_308) [(0, x0)]).map .agg := by kernel_rfl
  rw [e]; simp [Instr.fill, cells_of_one h0, zero_308]
@[simp] theorem op_build_308_0 {x0 : Value} (h0 : x0.oneCell' = true) : nP.op (.build 308 [(0, x0)]) w K Kp = K (.agg ((zero_308).setIfInBounds 0 x0)) w := op_build (build_308_0 h0)
@[simp] theorem pur_build_308_0 {x0 : Value} (h0 : x0.oneCell' = true) : nP.pur (.build 308 [(0, x0)]) K1 = K1 (.agg ((zero_308).setIfInBounds 0 x0)) := pur_build (build_308_0 h0)
@[simp] theorem op_fa_308_0 {p : Addr} : nP.op (.fieldAddr 308 (.pointer (some p)) 0) w K Kp = K (.pointer (some (p.add 0))) w := op_fa (k := .one) (by kernel_rfl)
@[simp] theorem pur_fa_308_0 {p : Addr} : nP.pur (.fieldAddr 308 (.pointer (some p)) 0) K1 = K1 (.pointer (some (p.add 0))) := pur_fa (k := .one) (by kernel_rfl)
@[simp] theorem op_fa_290_1 {p : Addr} : nP.op (.fieldAddr 290 (.pointer (some p)) 1) w K Kp = K (.pointer (some (p.add 1))) w := op_fa (k := .one) (by kernel_rfl)
@[simp] theorem pur_fa_290_1 {p : Addr} : nP.pur (.fieldAddr 290 (.pointer (some p)) 1) K1 = K1 (.pointer (some (p.add 1))) := pur_fa (k := .one) (by kernel_rfl)
@[simp] theorem op_ld_288 {p : Addr} : nP.op (.load 288 (.pointer (some p))) w K Kp = ∃ cs e fz, w.heap[p.block]? = some (.cells cs e fz) ∧ p.spot = none ∧ ∃ v, cs[p.off]? = some v ∧ K v w := op_ld (by kernel_rfl)
@[simp] theorem ld_ld_288 {p : Addr} : nP.ld (.load 288 (.pointer (some p))) w K1 = ∃ cs e fz, w.heap[p.block]? = some (.cells cs e fz) ∧ p.spot = none ∧ ∃ v, cs[p.off]? = some v ∧ K1 v := ld_ld (by kernel_rfl)
@[simp] theorem same_ld_288 {p : Addr} {v : Value} : nP.same (.load 288 (.pointer (some p))) v w = ∃ cs e fz, w.heap[p.block]? = some (.cells cs e fz) ∧ p.spot = none ∧ cs[p.off]? = some v := same_ld (by kernel_rfl)
@[simp] theorem op_eql_288_y {xc yc : Bool} {u : TypeId} {v : Value} : nP.op (.bin BinOp.eql 288 xc yc (.iface u v) .nilIface) w K Kp = K (.bool false) w := op_eq_iface (by kernel_rfl) rfl
@[simp] theorem op_eql_288_n {xc : Bool} : nP.op (.bin BinOp.eql 288 xc true .nilIface .nilIface) w K Kp = K (.bool true) w := op_eq_niface (by kernel_rfl) rfl
@[simp] theorem pur_eql_288_y {xc yc : Bool} {u : TypeId} {v : Value} : nP.pur (.bin BinOp.eql 288 xc yc (.iface u v) .nilIface) K1 = K1 (.bool false) := pur_eq_iface (by kernel_rfl) rfl
@[simp] theorem pur_eql_288_n {xc : Bool} : nP.pur (.bin BinOp.eql 288 xc true .nilIface .nilIface) K1 = K1 (.bool true) := pur_eq_niface (by kernel_rfl) rfl
@[simp] theorem op_fa_308_2 {p : Addr} : nP.op (.fieldAddr 308 (.pointer (some p)) 2) w K Kp = K (.pointer (some (p.add 65))) w := op_fa (k := .one) (by kernel_rfl)
@[simp] theorem pur_fa_308_2 {p : Addr} : nP.pur (.fieldAddr 308 (.pointer (some p)) 2) K1 = K1 (.pointer (some (p.add 65))) := pur_fa (k := .one) (by kernel_rfl)
theorem build_305_0 {x0 : Value} (h0 : x0.oneCell' = true) : buildV Tryz.prog 305 [(0, x0)] = some (.agg (#[x0, Value.int IntKind.i64 0])) := by
  have e : buildV Tryz.prog 305 [(0, x0)] = (Instr.fill ((#[(0, 1), (1, 1)] : Array (Nat × Nat))[·]?) (#[Value.nilIface, Value.int IntKind.i64 0]) [(0, x0)]).map .agg := by kernel_rfl
  rw [e]; simp [Instr.fill, cells_of_one h0]
@[simp] theorem op_build_305_0 {x0 : Value} (h0 : x0.oneCell' = true) : nP.op (.build 305 [(0, x0)]) w K Kp = K (.agg (#[x0, Value.int IntKind.i64 0])) w := op_build (build_305_0 h0)
@[simp] theorem pur_build_305_0 {x0 : Value} (h0 : x0.oneCell' = true) : nP.pur (.build 305 [(0, x0)]) K1 = K1 (.agg (#[x0, Value.int IntKind.i64 0])) := pur_build (build_305_0 h0)
@[simp] theorem op_fa_308_1 {p : Addr} : nP.op (.fieldAddr 308 (.pointer (some p)) 1) w K Kp = K (.pointer (some (p.add 1))) w := op_fa (k := (.agg 64)) (by kernel_rfl)
@[simp] theorem pur_fa_308_1 {p : Addr} : nP.pur (.fieldAddr 308 (.pointer (some p)) 1) K1 = K1 (.pointer (some (p.add 1))) := pur_fa (k := (.agg 64)) (by kernel_rfl)
@[simp] theorem op_ix_306 {p : Addr} {k : IntKind} {j : Int} : nP.op (.indexAddr 306 (.pointer (some p)) (.int k j)) w K Kp = ((0 ≤ j ∧ j < 32) ∧ K (.pointer (some (p.add (j.toNat * 2)))) w) := op_ix_arr (by kernel_rfl)
@[simp] theorem pur_ix_306 {p : Addr} {k : IntKind} {j : Int} : nP.pur (.indexAddr 306 (.pointer (some p)) (.int k j)) K1 = ((0 ≤ j ∧ j < 32) ∧ K1 (.pointer (some (p.add (j.toNat * 2))))) := pur_ix_arr (by kernel_rfl)
@[simp] theorem op_st_305 {p : Addr} {vs : Array Value} : nP.op (.store 305 (.pointer (some p)) (.agg vs)) w K Kp = (vs.size = 2 ∧ (∀ u ∈ vs.toList, u.oneCell' = true) ∧ ∃ cs e, w.heap[p.block]? = some (.cells cs e (0, 0)) ∧ p.spot = none ∧ p.off + 2 ≤ cs.size ∧ K undef (w.upd p.block (.cells (ow cs p.off vs.toList) e (0, 0)))) := op_stn (by kernel_rfl)
@[simp] theorem call_196 {args : List Value} : nP.call (.fn 196) args w K Kp = Calls Tryz.prog 196 args.toArray w (ret K Kp) := call_fn (by kernel_rfl)
@[simp] theorem call_206 {args : List Value} : nP.call (.fn 206) args w K Kp = Calls Tryz.prog 206 args.toArray w (ret K Kp) := call_fn (by kernel_rfl)
end Go.Proofs.YtodjijfblgnfmaaGreatDoor
end
section
namespace Go.Proofs.YtodjijfblgnfmaaGreatDoor
open Go.Vc Go.Proofs
variable {S : Sig} {a0 a1 a2 a3 a4 a5 a6 a7 a8 a9 : Value} {w : World} {K : KV} {Kp : KP}
private theorem follows_BVcWI : Tryz.prog.follows .mixedOrders = true := by kernel_rfl
def vc62 (S : Sig) (a0 a1 a2 a3 a4 : Value) (w : World) (K : KV) (Kp : KP) : Prop :=
 S.op (.box 98 a0) w (fun v5 w =>
 S.call (.fn 79) [a1] w (fun v25 w =>
 S.call (.fn 119) [a1, (.slice none 0 0)] w (fun v27 w =>
 S.op (.alloc 177) w (fun v12 w =>
 S.op (.store 177 v12 v27) w (fun _ w =>
 S.op (.blt .len [46] 3 [a3]) w (fun v29 w =>
 Lp fun (I4 : Value → KV) (μ4 : Value → Value → World → Nat) => I4 v25 (.int .i64 0) w ∧
 ∀ (wl4 : World) (_ : Nat → Value) (s11 : Value) (s30 : Value), I4 s11 s30 wl4 →
 S.op (.bin .lss 3 false false s30 v29) wl4 (fun v31 w =>
 Br v31 (
 S.op (.indexAddr 46 a3 s30) w (fun v32 w =>
 S.op (.load 49 v32) w (fun v33 w =>
 S.op (.alloc 49) w (fun v14 w =>
 S.op (.store 49 v14 v33) w (fun _ w =>
 Br a2 (
 S.ld (.load 177 v12) w.drew (fun v35 =>
 S.pur (.fieldAddr 98 v5 0) (fun v36 =>
 S.ld (.load 94 v36) w.drew (fun v37 =>
 S.pur (.fieldAddr 49 v14 0) (fun v38 =>
 S.ld (.load 2 v38) w.drew (fun v39 =>
 S.pur (.fieldAddr 49 v14 1) (fun v40 =>
 S.ld (.load 9 v40) w.drew (fun v41 =>
 S.call (.val v37) [v39, v41] w.drew (fun v42 w =>
 S.same (.load 177 v12) v35 w ∧
 S.call (.fn 120) [v35, v42] w (fun v43 w =>
 S.op (.store 177 v12 v43) w (fun _ w =>
 S.op (.bin .add 3 false true s30 (.int .i64 1)) w (fun v55 w =>
 I4 s11 v55 w ∧ μ4 s11 v55 w < μ4 s11 s30 wl4) Kp) Kp) Kp) Kp)))))))) (
 S.pur (.fieldAddr 98 v5 0) (fun v45 =>
 S.ld (.load 94 v45) w.drew (fun v46 =>
 S.pur (.fieldAddr 49 v14 0) (fun v47 =>
 S.ld (.load 2 v47) w.drew (fun v48 =>
 S.pur (.fieldAddr 49 v14 1) (fun v49 =>
 S.ld (.load 9 v49) w.drew (fun v50 =>
 S.pur (.fieldAddr 49 v14 2) (fun v52 =>
 S.ld (.load 2 v52) w.drew (fun v53 =>
 S.call (.val v46) [v48, v50] w.drew (fun v51 w =>
 S.same (.load 2 v52) v53 w ∧
 S.call (.fn 80) [s11, v51, v53] w (fun v54 w =>
 S.op (.bin .add 3 false true s30 (.int .i64 1)) w (fun v55 w =>
 I4 v54 v55 w ∧ μ4 v54 v55 w < μ4 s11 s30 wl4) Kp) Kp) Kp)))))))))) Kp) Kp) Kp) Kp) (
 S.ld (.load 177 v12) w.drew (fun v58 =>
 S.call (.fn 84) [s11] w.drew (fun v57 w =>
 S.same (.load 177 v12) v58 w ∧
 S.call (.fn 125) [v58] w (fun v59 w =>
 S.op (.blt .len [74] 3 [a4]) w (fun v61 w =>
 Lp fun (I13 : Value → KV) (μ13 : Value → Value → World → Nat) => I13 (.slice none 0 0) (.int .i64 0) w ∧
 ∀ (wl13 : World) (_ : Nat → Value) (s17 : Value) (s62 : Value), I13 s17 s62 wl13 →
 S.op (.bin .lss 3 false false s62 v61) wl13 (fun v63 w =>
 Br v63 (
 S.op (.indexAddr 74 a4 s62) w (fun v64 w =>
 S.op (.load 73 v64) w (fun v65 w =>
 S.op (.alloc 73) w (fun v19 w =>
 S.op (.store 73 v19 v65) w (fun _ w =>
 S.op (.alloc 80) w (fun v20 w =>
 S.op (.fieldAddr 98 v5 0) w (fun v66 w =>
 S.op (.load 94 v66) w (fun v67 w =>
 S.op (.fieldAddr 73 v19 1) w (fun v68 w =>
 S.op (.load 2 v68) w (fun v69 w =>
 S.op (.fieldAddr 73 v19 2) w (fun v70 w =>
 S.op (.load 9 v70) w (fun v71 w =>
 S.call (.val v67) [v69, v71] w (fun v72 w =>
 Jn fun (J39 : World → Prop) =>
 (S.op (.fieldAddr 73 v19 0) w (fun v73 w =>
 S.op (.load 5 v73) w (fun v74 w =>
 S.op (.bin .eql 5 false true v74 (.int .u8 0)) w (fun v76 w =>
 Br v76 (
 S.call (.fn 135) [v57] w (fun v78 w =>
 S.call (.fn 136) [v59] w (fun v80 w =>
 J39 w) Kp) Kp) (
 S.op (.bin .eql 5 false true v74 (.int .u8 1)) w (fun v82 w =>
 Br v82 (
 S.call (.fn 86) [v57] w (fun v84 w =>
 S.call (.fn 126) [v59] w (fun v86 w =>
 J39 w) Kp) Kp) (
 S.op (.bin .eql 5 false true v74 (.int .u8 2)) w (fun v88 w =>
 Br v88 (
 Br a2 (
 S.call (.fn 137) [v59] w (fun v92 w =>
 S.op (.extract v92 0) w (fun v93 w =>
 S.op (.extract v92 1) w (fun v94 w =>
 S.op (.fieldAddr 80 v20 1) w (fun v95 w =>
 S.op (.store 4 v95 v94) w (fun _ w =>
 S.op (.fieldAddr 98 v5 2) w (fun v103 w =>
 S.op (.load 96 v103) w (fun v104 w =>
 S.call (.val v104) [v93, (.int .i64 0)] w (fun v107 w =>
 S.op (.fieldAddr 80 v20 0) w (fun v108 w =>
 S.op (.store 49 v108 v107) w (fun _ w =>
 J39 w) Kp) Kp) Kp) Kp) Kp) Kp) Kp) Kp) Kp) Kp) (
 S.call (.fn 138) [v57] w (fun v98 w =>
 S.op (.extract v98 0) w (fun v99 w =>
 S.op (.extract v98 1) w (fun v100 w =>
 S.op (.extract v98 2) w (fun v101 w =>
 S.op (.fieldAddr 80 v20 1) w (fun v102 w =>
 S.op (.store 4 v102 v101) w (fun _ w =>
 S.op (.fieldAddr 98 v5 2) w (fun v103 w =>
 S.op (.load 96 v103) w (fun v104 w =>
 S.call (.val v104) [v99, v100] w (fun v107 w =>
 S.op (.fieldAddr 80 v20 0) w (fun v108 w =>
 S.op (.store 49 v108 v107) w (fun _ w =>
 J39 w) Kp) Kp) Kp) Kp) Kp) Kp) Kp) Kp) Kp) Kp) Kp)) (
 S.op (.bin .eql 5 false true v74 (.int .u8 3)) w (fun v110 w =>
 Br v110 (
 Br a2 (
 S.call (.fn 128) [v59] w (fun v114 w =>
 S.op (.extract v114 0) w (fun v115 w =>
 S.op (.extract v114 1) w (fun v116 w =>
 S.op (.fieldAddr 80 v20 1) w (fun v117 w =>
 S.op (.store 4 v117 v116) w (fun _ w =>
 S.op (.fieldAddr 98 v5 2) w (fun v125 w =>
 S.op (.load 96 v125) w (fun v126 w =>
 S.call (.val v126) [v115, (.int .i64 0)] w (fun v129 w =>
 S.op (.fieldAddr 80 v20 0) w (fun v130 w =>
 S.op (.store 49 v130 v129) w (fun _ w =>
 J39 w) Kp) Kp) Kp) Kp) Kp) Kp) Kp) Kp) Kp) Kp) (
 S.call (.fn 88) [v57] w (fun v120 w =>
 S.op (.extract v120 0) w (fun v121 w =>
 S.op (.extract v120 1) w (fun v122 w =>
 S.op (.extract v120 2) w (fun v123 w =>
 S.op (.fieldAddr 80 v20 1) w (fun v124 w =>
 S.op (.store 4 v124 v123) w (fun _ w =>
 S.op (.fieldAddr 98 v5 2) w (fun v125 w =>
 S.op (.load 96 v125) w (fun v126 w =>
 S.call (.val v126) [v121, v122] w (fun v129 w =>
 S.op (.fieldAddr 80 v20 0) w (fun v130 w =>
 S.op (.store 49 v130 v129) w (fun _ w =>
 J39 w) Kp) Kp) Kp) Kp) Kp) Kp) Kp) Kp) Kp) Kp) Kp)) (
 S.op (.bin .eql 5 false true v74 (.int .u8 4)) w (fun v132 w =>
 Br v132 (
 S.call (.fn 139) [v57, v72] w (fun v135 w =>
 S.call (.fn 140) [v59, v72] w (fun v138 w =>
 J39 w) Kp) Kp) (
 J39 w)) Kp)) Kp)) Kp)) Kp)) Kp) Kp) Kp) ∧
 (∀ (w : World) (_ : Nat → Value), J39 w →
 S.call (.fn 87) [v57] w (fun v140 w =>
 S.op (.fieldAddr 80 v20 2) w (fun v141 w =>
 S.op (.store 4 v141 v140) w (fun _ w =>
 Br a2 (
 S.call (.fn 127) [v59] w (fun v144 w =>
 S.op (.fieldAddr 80 v20 2) w (fun v145 w =>
 S.op (.store 4 v145 v144) w (fun _ w =>
 S.op (.load 80 v20) w (fun v147 w =>
 S.op (.buildSlice 76 1 [(0, v147)]) w (fun v148 w =>
 S.op (.blt .append [76, 76] 76 [s17, v148]) w (fun v149 w =>
 S.op (.bin .add 3 false true s62 (.int .i64 1)) w (fun v150 w =>
 I13 v149 v150 w ∧ μ13 v149 v150 w < μ13 s17 s62 wl13) Kp) Kp) Kp) Kp) Kp) Kp) Kp) (
 S.op (.load 80 v20) w (fun v147 w =>
 S.op (.buildSlice 76 1 [(0, v147)]) w (fun v148 w =>
 S.op (.blt .append [76, 76] 76 [s17, v148]) w (fun v149 w =>
 S.op (.bin .add 3 false true s62 (.int .i64 1)) w (fun v150 w =>
 I13 v149 v150 w ∧ μ13 v149 v150 w < μ13 s17 s62 wl13) Kp) Kp) Kp) Kp)) Kp) Kp) Kp)) Kp) Kp) Kp) Kp) Kp) Kp) Kp) Kp) Kp) Kp) Kp) Kp) (
 K s17 w)) Kp) Kp) Kp) Kp))) Kp) Kp) Kp) Kp) Kp) Kp) Kp
theorem vc62_eq : vc62 S a0 a1 a2 a3 a4 w K Kp = fVC S [(4, [11, 30]), (13, [17, 62])] [(39, [])] Tryz.f62 [a0, a1, a2, a3, a4] w K Kp := by kernel_rfl
theorem vc62_calls (h : vc62 nP a0 a1 a2 a3 a4 w K Kp) : Calls Tryz.prog 62 #[a0, a1, a2, a3, a4] w (ret K Kp) :=
 fVC_sound (args := [a0, a1, a2, a3, a4]) nice_le follows_BVcWI Tryz.func62 (by kernel_rfl) (Eq.mp vc62_eq h)
def vc119 (S : Sig) (a0 a1 : Value) (w : World) (K : KV) (Kp : KP) : Prop :=
 S.op (.alloc 177) w (fun v4 w =>
 S.call (.fn 162) [a0] w (fun v9 w =>
 S.op (.blt .len [182] 3 [a1]) w (fun v11 w =>
 Lp fun (I3 : Value → KV) (μ3 : Value → Value → World → Nat) => I3 v9 (.int .i64 0) w ∧
 ∀ (wl3 : World) (_ : Nat → Value) (s5 : Value) (s12 : Value), I3 s5 s12 wl3 →
 S.op (.bin .lss 3 false false s12 v11) wl3 (fun v13 w =>
 Br v13 (
 S.op (.indexAddr 182 a1 s12) w (fun v14 w =>
 S.op (.load 2 v14) w (fun v15 w =>
 S.op (.build 235 []) w (fun v18 w =>
 S.call (.fn 163) [s5, v15, v18, (.bool true)] w (fun v19 w =>
 S.op (.bin .add 3 false true s12 (.int .i64 1)) w (fun v20 w =>
 I3 v19 v20 w ∧ μ3 v19 v20 w < μ3 s5 s12 wl3) Kp) Kp) Kp) Kp) Kp) (
 S.op (.build 177 [(0, s5)]) w (fun v22 w =>
 S.op (.store 177 v4 v22) w (fun _ w =>
 S.ld (.load 177 v4) w (fun r0 =>
 K r0 w)) Kp) Kp)) Kp) Kp) Kp) Kp
theorem vc119_eq : vc119 S a0 a1 w K Kp = fVC S [(3, [5, 12])] [] Tryz.f119 [a0, a1] w K Kp := by kernel_rfl
theorem vc119_calls (h : vc119 nP a0 a1 w K Kp) : Calls Tryz.prog 119 #[a0, a1] w (ret K Kp) :=
 fVC_sound (args := [a0, a1]) nice_le follows_BVcWI Tryz.func119 (by kernel_rfl) (Eq.mp vc119_eq h)
def vc162 (S : Sig) (a0 : Value) (w : World) (K : KV) (Kp : KP) : Prop :=
 S.op (.build 314 [(2, a0)]) w (fun v4 w =>
 S.op (.box 314 v4) w (fun v5 w =>
 K v5 w) Kp) Kp
theorem vc162_eq : vc162 S a0 w K Kp = fVC S [] [] Tryz.f162 [a0] w K Kp := by kernel_rfl
theorem vc162_calls (h : vc162 nP a0 w K Kp) : Calls Tryz.prog 162 #[a0] w (ret K Kp) :=
 fVC_sound (args := [a0]) nice_le follows_BVcWI Tryz.func162 (by kernel_rfl) (Eq.mp vc162_eq h)
def vc125 (S : Sig) (a0 : Value) (w : World) (K : KV) (Kp : KP) : Prop :=
 S.op (.box 177 a0) w (fun v1 w =>
 S.op (.fieldAddr 177 v1 0) w (fun v4 w =>
 S.op (.load 175 v4) w (fun v5 w =>
 S.call (.fn 168) [v5] w (fun v6 w =>
 S.op (.build 255 [(0, v6)]) w (fun v7 w =>
 S.op (.box 255 v7) w (fun v8 w =>
 S.op (.nilCheck v8) w (fun v10 w =>
 S.op (.fieldAddr 255 v10 0) w (fun v11 w =>
 S.op (.load 252 v11) w (fun v12 w =>
 S.call (.fn 169) [v12] w (fun v13 w =>
 K v8 w) Kp) Kp) Kp) Kp) Kp) Kp) Kp) Kp) Kp) Kp
theorem vc125_eq : vc125 S a0 w K Kp = fVC S [] [] Tryz.f125 [a0] w K Kp := by kernel_rfl
theorem vc125_calls (h : vc125 nP a0 w K Kp) : Calls Tryz.prog 125 #[a0] w (ret K Kp) :=
 fVC_sound (args := [a0]) nice_le follows_BVcWI Tryz.func125 (by kernel_rfl) (Eq.mp vc125_eq h)
def vc140 (S : Sig) (a0 a1 : Value) (w : World) (K : KV) (Kp : KP) : Prop :=
 S.op (.nilCheck a0) w (fun v5 w =>
 S.op (.fieldAddr 255 v5 0) w (fun v6 w =>
 S.op (.load 252 v6) w (fun v7 w =>
 S.call (.fn 182) [v7, a1] w (fun v9 w =>
 K (.tuple #[]) w) Kp) Kp) Kp) Kp
theorem vc140_eq : vc140 S a0 a1 w K Kp = fVC S [] [] Tryz.f140 [a0, a1] w K Kp := by kernel_rfl
theorem vc140_calls (h : vc140 nP a0 a1 w K Kp) : Calls Tryz.prog 140 #[a0, a1] w (ret K Kp) :=
 fVC_sound (args := [a0, a1]) nice_le follows_BVcWI Tryz.func140 (by kernel_rfl) (Eq.mp vc140_eq h)
def vc168 (S : Sig) (a0 : Value) (w : World) (K : KV) (Kp : KP) : Prop :=
 S.op (.build 332 [(0, a0)]) w (fun v5 w =>
 S.op (.box 332 v5) w (fun v6 w =>
 S.call (.fn 169) [v6] w (fun v8 w =>
 K v6 w) Kp) Kp) Kp
theorem vc168_eq : vc168 S a0 w K Kp = fVC S [] [] Tryz.f168 [a0] w K Kp := by kernel_rfl
theorem vc168_calls (h : vc168 nP a0 w K Kp) : Calls Tryz.prog 168 #[a0] w (ret K Kp) :=
 fVC_sound (args := [a0]) nice_le follows_BVcWI Tryz.func168 (by kernel_rfl) (Eq.mp vc168_eq h)
def vc169 (S : Sig) (a0 : Value) (w : World) (K : KV) (Kp : KP) : Prop :=
 S.op (.nilCheck a0) w (fun v3 w =>
 S.op (.fieldAddr 332 v3 0) w (fun v4 w =>
 S.op (.load 175 v4) w (fun v5 w =>
 S.op (.nilCheck v5) w (fun v6 w =>
 S.op (.fieldAddr 314 v6 1) w (fun v7 w =>
 S.op (.load 312 v7) w (fun v8 w =>
 S.op (.bin .eql 312 false true v8 .nilIface) w (fun v9 w =>
 Br v9 (
 S.op (.nilCheck a0) w (fun v11 w =>
 S.op (.fieldAddr 332 v11 2) w (fun v12 w =>
 S.op (.store 3 v12 (.int .i64 (-1))) w (fun _ w =>
 K (.tuple #[]) w) Kp) Kp) Kp) (
 S.pur (.nilCheck a0) (fun v15 =>
 S.pur (.fieldAddr 332 v15 0) (fun v16 =>
 S.ld (.load 175 v16) w.drew (fun v17 =>
 S.pur (.nilCheck v17) (fun v18 =>
 S.pur (.fieldAddr 314 v18 1) (fun v19 =>
 S.ld (.load 312 v19) w.drew (fun v20 =>
 S.pur (.build 329 [(0, v20)]) (fun v21 =>
 S.pur (.nilCheck a0) (fun v22 =>
 S.pur (.fieldAddr 332 v22 1) (fun v23 =>
 S.pur (.indexAddr 330 v23 (.int .i64 0)) (fun v24 =>
 S.op (.store 329 v24 v21) w.drew (fun _ w =>
 S.op (.nilCheck a0) w (fun v26 w =>
 S.op (.fieldAddr 332 v26 2) w (fun v27 w =>
 S.op (.store 3 v27 (.int .i64 0)) w (fun _ w =>
 S.call (.fn 202) [a0] w (fun v29 w =>
 K (.tuple #[]) w) Kp) Kp) Kp) Kp) Kp)))))))))))) Kp) Kp) Kp) Kp) Kp) Kp) Kp
theorem vc169_eq : vc169 S a0 w K Kp = fVC S [] [] Tryz.f169 [a0] w K Kp := by kernel_rfl
theorem vc169_calls (h : vc169 nP a0 w K Kp) : Calls Tryz.prog 169 #[a0] w (ret K Kp) :=
 fVC_sound (args := [a0]) nice_le follows_BVcWI Tryz.func169 (by kernel_rfl) (Eq.mp vc169_eq h)
def vc182 (S : Sig) (a0 a1 : Value) (w : World) (K : KV) (Kp : KP) : Prop :=
 S.op (.nilCheck a0) w (fun v5 w =>
 S.op (.fieldAddr 332 v5 0) w (fun v6 w =>
 S.op (.load 175 v6) w (fun v7 w =>
 S.op (.nilCheck v7) w (fun v8 w =>
 S.op (.fieldAddr 314 v8 1) w (fun v9 w =>
 S.op (.load 312 v9) w (fun v10 w =>
 S.op (.bin .eql 312 false true v10 .nilIface) w (fun v11 w =>
 Br v11 (
 S.op (.nilCheck a0) w (fun v13 w =>
 S.op (.fieldAddr 332 v13 2) w (fun v14 w =>
 S.op (.store 3 v14 (.int .i64 (-1))) w (fun _ w =>
 K (.tuple #[]) w) Kp) Kp) Kp) (
 S.pur (.nilCheck a0) (fun v17 =>
 S.pur (.fieldAddr 332 v17 0) (fun v18 =>
 S.ld (.load 175 v18) w.drew (fun v19 =>
 S.pur (.nilCheck v19) (fun v20 =>
 S.pur (.fieldAddr 314 v20 1) (fun v21 =>
 S.ld (.load 312 v21) w.drew (fun v22 =>
 S.pur (.build 329 [(0, v22)]) (fun v23 =>
 S.pur (.nilCheck a0) (fun v24 =>
 S.pur (.fieldAddr 332 v24 1) (fun v25 =>
 S.pur (.indexAddr 330 v25 (.int .i64 0)) (fun v26 =>
 S.op (.store 329 v26 v23) w.drew (fun _ w =>
 S.op (.nilCheck a0) w (fun v28 w =>
 S.op (.fieldAddr 332 v28 2) w (fun v29 w =>
 S.op (.store 3 v29 (.int .i64 0)) w (fun _ w =>
 S.call (.fn 208) [a0, a1] w (fun v32 w =>
 K (.tuple #[]) w) Kp) Kp) Kp) Kp) Kp)))))))))))) Kp) Kp) Kp) Kp) Kp) Kp) Kp
theorem vc182_eq : vc182 S a0 a1 w K Kp = fVC S [] [] Tryz.f182 [a0, a1] w K Kp := by kernel_rfl
theorem vc182_calls (h : vc182 nP a0 a1 w K Kp) : Calls Tryz.prog 182 #[a0, a1] w (ret K Kp) :=
 fVC_sound (args := [a0, a1]) nice_le follows_BVcWI Tryz.func182 (by kernel_rfl) (Eq.mp vc182_eq h)
end Go.Proofs.YtodjijfblgnfmaaGreatDoor
end
section
namespace Go.Proofs.YtodjijfblgnfmaaGreatDoor.I
open Go.Vc Go.Proofs Go.Proofs.YtodjijfblgnfmaaGreatDoor Go.Vc.Bt
variable {w w' : World} {v cv : Value} {K : KV} {Kp : KP} {k : Ky} {sb ib mb : Nat}
def NoIt (w : World) (sb ib : Nat) : Prop := ∃ mb cs c0 c2, w.heap[sb]? = some (.cells #[ptr ib] 255 (0, 0)) ∧ w.heap[ib]? = some (.cells cs 332 (0, 0)) ∧ cs.size = 66 ∧ cs[0]? = some (ptr mb) ∧
  w.heap[mb]? = some (.cells #[c0, .nilIface, c2] 314 (0, 0))
theorem NoIt.frame {M : Nat → Prop} (h : NoIt w sb ib) (hf : Frm M w w') (hM : ∀ c, M c → ∀ cs, w.heap[c]? ≠ some (.cells cs 255 (0, 0)) ∧ w.heap[c]? ≠ some (.cells cs 332 (0, 0)) ∧ w.heap[c]? ≠ some (.cells cs 314 (0, 0))) : NoIt w' sb ib := by
  obtain ⟨mb, cs, c0, c2, h1, h2, h3, h4, h5⟩ := h
  exact ⟨mb, cs, c0, c2, hf.get h1 fun hm => (hM _ hm _).1 h1, hf.get h2 fun hm => (hM _ hm _).2.1 h2, h3, h4, hf.get h5 fun hm => (hM _ hm _).2.2 h5⟩
theorem NoIt.still (h : NoIt w sb ib) (hf : Frm (fun _ => False) w w') : NoIt w' sb ib := h.frame hf fun _ h => h.elim
theorem first0_ok {cs : Array Value} {c0 c2 : Value} (h2 : w.heap[ib]? = some (.cells cs 332 (0, 0))) (h3 : cs.size = 66) (h4 : cs[0]? = some (ptr mb)) (h5 : w.heap[mb]? = some (.cells #[c0, .nilIface, c2] 314 (0, 0)))
    (hK : ∀ w' cs', Frm (· = ib) w w' → w'.heap[ib]? = some (.cells cs' 332 (0, 0)) → cs'.size = 66 → cs'[0]? = some (ptr mb) → K (.tuple #[]) w') :
    Calls Tryz.prog 169 #[ptr ib] w (ret K Kp) := by
  refine vc169_calls ?_
  delta vc169
  simp [-getElem?_pos, -Array.getElem?_eq_getElem, -Int.natCast_add, -op_alloc_177, -op_st_177, -op_st_3, ptr, h2, h4, h5]
  refine op_store_ok (by kernel_rfl) h2 (by omega) rfl fun w1 k1 z1 b1 => ?_
  exact hK w1 _ k1 b1 (by simp [h3]) (by rw [set_at (by omega), if_neg (by omega)]; exact h4)
theorem seek0_ok (h : NoIt w sb ib) (hK : ∀ w', Frm (· = ib) w w' → NoIt w' sb ib → K (.tuple #[]) w') : Calls Tryz.prog 140 #[ptr sb, ek k] w (ret K Kp) := by
  obtain ⟨mb, cs, c0, c2, h1, h2, h3, h4, h5⟩ := h
  refine vc140_calls ?_
  delta vc140
  simp [-getElem?_pos, -Array.getElem?_eq_getElem, -Int.natCast_add, -op_alloc_177, -op_st_177, -op_st_3, ptr, h1]
  refine vc182_calls ?_
  delta vc182
  have hne : mb ≠ ib := fun e => by rw [e, h2] at h5; cases h5
  have hns : sb ≠ ib := fun e => by rw [e, h2] at h1; cases h1
  simp [-getElem?_pos, -Array.getElem?_eq_getElem, -Int.natCast_add, -op_alloc_177, -op_st_177, -op_st_3, ptr, h2, h4, h5]
  refine op_store_ok (by kernel_rfl) h2 (by omega) rfl fun w1 k1 z1 b1 => ?_
  exact hK w1 k1 ⟨mb, _, c0, c2, k1.get h1 hns, b1, by simp [h3], by rw [set_at (by omega), if_neg (by omega)]; exact h4, k1.get h5 hne⟩
def NoSet (w : World) (v : Value) : Prop := ∃ mb c0 c2, v = .agg #[ptr mb] ∧ w.heap[mb]? = some (.cells #[c0, .nilIface, c2] 314 (0, 0))
theorem NoSet.still (h : NoSet w v) (hf : Frm (fun _ => False) w w') : NoSet w' v := by
  obtain ⟨mb, c0, c2, e, h⟩ := h
  exact ⟨mb, c0, c2, e, hf.get h fun h => h⟩
theorem set0_ok (hv : cv.oneCell' = true) (hK : ∀ w' v, Frm (fun _ => False) w w' → NoSet w' v → K v w') : Calls Tryz.prog 119 #[cv, .slice none 0 0] w (ret K Kp) := by
  refine vc119_calls ?_
  delta vc119
  refine op_alloc_ok (z := .agg #[.pointer none]) (by kernel_rfl) fun w1 k1 z1 b1 => ?_
  simp only [cells_agg] at b1
  simp only [call_162]
  refine vc162_calls ?_
  delta vc162
  rw [op_build_314_2 hv]
  refine op_box_ok fun w2 k2 z2 b2 => ?_
  simp only [cells_agg] at b2
  have n2 := k2.size
  simp [-getElem?_pos, -Array.getElem?_eq_getElem, -Int.natCast_add, -op_alloc_177, -op_st_177, -op_st_3]
  obtain ⟨I, hI⟩ : ∃ I : Value → KV, ∀ m v wl, I m v wl ↔ m = ptr w1.heap.size ∧ v = .int .i64 0 ∧ wl = w2 := ⟨_, fun _ _ _ => Iff.rfl⟩
  refine Lp.intro I (fun _ _ _ => 0) ⟨(hI _ _ _).2 ⟨rfl, rfl, rfl⟩, ?_⟩
  intro wl m v hm
  obtain ⟨rfl, rfl, rfl⟩ := (hI _ _ _).1 hm
  have b1' := k2.get b1 fun h => h
  simp [-getElem?_pos, -Array.getElem?_eq_getElem, -Int.natCast_add, -op_alloc_177, -op_st_177, -op_st_3, ptr]
  refine op_storeN_ok (n := 1) (by kernel_rfl) b1' rfl (by decide) (fun u hu => ?_) fun w3 k3 z3 b3 => ?_
  · simp only [List.mem_toArray, List.mem_cons, List.not_mem_nil, or_false] at hu
    subst hu; rfl
  rw [ow_all (by simp)] at b3
  have hlt := lt_of_get b1
  have := hK w3 (.agg #[ptr w1.heap.size]) ((k1.no k2).old k3 fun c hc => .inr (by omega)) ⟨_, _, _, rfl, k3.get b2 (by omega)⟩
  simp [-getElem?_pos, -Array.getElem?_eq_getElem, -Int.natCast_add, -op_alloc_177, -op_st_177, -op_st_3, b3]
  exact this
theorem iter0_ok (h : NoSet w v) (hK : ∀ w' sb ib, Frm (fun _ => False) w w' → w.heap.size ≤ ib → NoIt w' sb ib → K (ptr sb) w') : Calls Tryz.prog 125 #[v] w (ret K Kp) := by
  obtain ⟨mb, c0, c2, rfl, hm⟩ := h
  refine vc125_calls ?_
  delta vc125
  refine op_box_ok fun w1 k1 z1 b1 => ?_
  simp only [cells_agg] at b1
  have hm1 := k1.get hm fun h => h
  simp [-getElem?_pos, -Array.getElem?_eq_getElem, -Int.natCast_add, -op_alloc_177, -op_st_177, -op_st_3, b1]
  refine vc168_calls ?_
  delta vc168
  rw [op_build_332_0 (x0 := ptr mb) rfl]
  refine op_box_ok fun w2 k2 z2 b2 => ?_
  simp only [cells_agg] at b2
  have n1 := k1.size
  have n2 := k2.size
  have hm2 := k2.get hm1 fun h => h
  have hlm := lt_of_get hm1
  simp only [call_169]
  refine first0_ok b2 rfl rfl hm2 fun w3 cs3 k3 b3 s3 g3 => ?_
  have hm3 := k3.get hm2 (by omega)
  have k13 := (k1.no k2).old k3 fun c hc => .inr (by omega)
  rw [op_build_255_0 rfl]
  refine op_box_ok fun w4 k4 z4 b4 => ?_
  simp only [cells_agg] at b4
  have n3 := k3.size
  have b34 := k4.get b3 fun h => h
  have hm4 := k4.get hm3 fun h => h
  simp [-getElem?_pos, -Array.getElem?_eq_getElem, -Int.natCast_add, -op_alloc_177, -op_st_177, -op_st_3, ptr, b4]
  refine first0_ok b34 s3 g3 hm4 fun w5 cs5 k5 b5 s5 g5 => ?_
  exact hK w5 _ _ ((k13.no k4).old k5 fun c hc => .inr (by omega)) n1 ⟨mb, cs5, _, _, k5.get b4 (by have := lt_of_get b3; omega), b5, s5, g5, k5.get hm4 (by omega)⟩
def kd0 (k : Ky) : Prop := k = (0 : Int)
theorem itNone_ok {mb : Nat} {L : List (Ky × Vl)} (h : At w ib mb L none) (hK : ∀ k0 : Ky, kd0 k0 → K (.tuple #[ek k0, .int .i64 0, .bool false]) w) : Calls Tryz.prog 138 #[ptr ib] w (ret K Kp) := by
  refine vc138_calls ?_
  simp only [vc138, call_87, call_180]
  refine done_ok h ?_
  simp [-getElem?_pos, -Array.getElem?_eq_getElem, -Int.natCast_add, -op_alloc_177, -op_st_177, -op_st_3]
  exact hK 0 rfl
end Go.Proofs.YtodjijfblgnfmaaGreatDoor.I
end
section
namespace Go.Vc.Bt
structure WSt where
  op : Nat
  key : Int
  text : ByteArray
def WSt.cells (s : WSt) : List Value := [.int .u8 s.op, .int .i64 s.key, .string s.text]
theorem WSt.len (s : WSt) : s.cells.length = 3 := rfl
theorem WSt.one (s : WSt) : ∀ u ∈ s.cells, u.oneCell' = true := fun u hu => by
  simp only [WSt.cells, List.mem_cons, List.not_mem_nil, or_false] at hu
  rcases hu with rfl | rfl | rfl <;> rfl
structure WAn where
  pair : SPr
  ok : Bool
  done : Bool
def WAn.cells (a : WAn) : List Value := [.int .i64 a.pair.key, .string a.pair.text, .int .i64 a.pair.val, .bool a.ok, .bool a.done]
theorem WAn.len (s : WAn) : s.cells.length = 5 := rfl
theorem WAn.one (s : WAn) : ∀ u ∈ s.cells, u.oneCell' = true := fun u hu => by
  simp only [WAn.cells, List.mem_cons, List.not_mem_nil, or_false] at hu
  rcases hu with rfl | rfl | rfl | rfl | rfl <;> rfl
def zeroP : SPr := ⟨0, ByteArray.empty, 0⟩
section
variable {κ : Type} [DecidableEq κ] {lt : κ → κ → Bool} {kd : Kd κ}
def stand (L : Vn κ) (p : Nat) : Option Nat := if p < L.length then some p else none
def stepQ (lt : κ → κ → Bool) (kd : Kd κ) (L : Vn κ) (q : Option Nat) (m : WSt) : Option Nat × WAn :=
  if m.op = 4 then (stand L (place lt L (kd.key m.key m.text)), ⟨zeroP, false, (stand L (place lt L (kd.key m.key m.text))).isNone⟩)
  else match q with
    | some p => (stand L (p + 1), ⟨(L[p]?.map fun e => kd.pair e.1 e.2).getD zeroP, true, (stand L (p + 1)).isNone⟩)
    | none => (none, ⟨zeroP, false, true⟩)
theorem stepQ_some {L : Vn κ} {p : Nat} {m : WSt} (h : m.op = 2) : stepQ lt kd L (some p) m = (stand L (p + 1), ⟨(L[p]?.map fun e => kd.pair e.1 e.2).getD zeroP, true, (stand L (p + 1)).isNone⟩) := by unfold stepQ; rw [if_neg (by omega)]
theorem stepQ_none {L : Vn κ} {m : WSt} (h : m.op = 2) : stepQ lt kd L none m = (none, ⟨zeroP, false, true⟩) := by unfold stepQ; rw [if_neg (by omega)]
theorem stepQ_seek {L : Vn κ} {q : Option Nat} {m : WSt} (h : m.op = 4) : stepQ lt kd L q m = (stand L (place lt L (kd.key m.key m.text)), ⟨zeroP, false, (stand L (place lt L (kd.key m.key m.text))).isNone⟩) := by unfold stepQ; rw [if_pos h]
theorem stepQ_done {L : Vn κ} {q : Option Nat} {m : WSt} (h : m.op = 2 ∨ m.op = 4) : (stepQ lt kd L q m).2.done = (stepQ lt kd L q m).1.isNone := by
  rcases h with h | h
  · cases q with
    | none => rw [stepQ_none h]; rfl
    | some p => rw [stepQ_some h]
  · rw [stepQ_seek h]
def oneQ (lt : κ → κ → Bool) (kd : Kd κ) (L : Vn κ) (qs : Option Nat × List WAn) (m : WSt) : Option Nat × List WAn := ((stepQ lt kd L qs.1 m).1, qs.2 ++ [(stepQ lt kd L qs.1 m).2])
def runQ (lt : κ → κ → Bool) (kd : Kd κ) (L : Vn κ) (ms : List WSt) : Option Nat × List WAn := ms.foldl (oneQ lt kd L) (stand L 0, [])
theorem runQ_snoc {L : Vn κ} (ms : List WSt) (m : WSt) : runQ lt kd L (ms ++ [m]) = oneQ lt kd L (runQ lt kd L ms) m := by simp [runQ]
theorem runQ_len {L : Vn κ} (ms : List WSt) : (runQ lt kd L ms).2.length = ms.length := by
  rw [← List.reverse_reverse ms]
  generalize ms.reverse = r
  induction r with
  | nil => rfl
  | cons s r ih => rw [List.reverse_cons, runQ_snoc]; simp [oneQ] at ih ⊢; omega
def seekMs (key : Int) (text : ByteArray) (n : Nat) : List WSt := ⟨4, key, text⟩ :: List.replicate n ⟨2, 0, ByteArray.empty⟩
theorem seekMs_len {key : Int} {text : ByteArray} {n : Nat} : (seekMs key text n).length = n + 1 := by simp [seekMs]
theorem seekMs_snoc {key : Int} {text : ByteArray} {n : Nat} : seekMs key text (n + 1) = seekMs key text n ++ [⟨2, 0, ByteArray.empty⟩] := by
  simp [seekMs, List.replicate_succ']
def seekAn (kd : Kd κ) (L : Vn κ) (p n : Nat) : List WAn := ⟨zeroP, false, (stand L p).isNone⟩ :: (List.range n).map fun i => if p + i < L.length then ⟨(L[p + i]?.map fun e => kd.pair e.1 e.2).getD zeroP, true, (stand L (p + i + 1)).isNone⟩ else ⟨zeroP, false, true⟩
theorem seek_run {L : Vn κ} {key : Int} {text : ByteArray} : ∀ n, runQ lt kd L (seekMs key text n) = (stand L (place lt L (kd.key key text) + n), seekAn kd L (place lt L (kd.key key text)) n)
  | 0 => by simp [runQ, seekMs, oneQ, stepQ, seekAn]
  | n + 1 => by
    rw [seekMs_snoc, runQ_snoc, seek_run n]
    generalize place lt L (kd.key key text) = p
    unfold oneQ stepQ
    simp only [show ¬ (2 = 4) from by decide, if_false]
    by_cases h : p + n < L.length
    · have e : stand L (p + n) = some (p + n) := by unfold stand; rw [if_pos h]
      rw [e]
      simp only [seekAn, List.range_succ, List.map_append, List.map_singleton, if_pos h, List.cons_append]
      rfl
    · have e : stand L (p + n) = none := by unfold stand; rw [if_neg h]
      have e1 : stand L (p + (n + 1)) = none := by unfold stand; rw [if_neg (by omega)]
      rw [e, e1]
      simp only [seekAn, List.range_succ, List.map_append, List.map_singleton, if_neg h, List.cons_append]
theorem filter_place (hl : Lin lt) {L : Vn κ} (hs : Sd lt L) (k : κ) : L.filter (fun e => !lt e.1 k) = L.drop (place lt L k) := by
  conv => lhs; rw [← List.take_append_drop (place lt L k) L]
  rw [List.filter_append, List.filter_eq_nil_iff.2, List.nil_append, List.filter_eq_self.2]
  · intro e he; rw [behind hl hs e he]; rfl
  · intro e he; rw [before e he]; simp
theorem seekAn_len {L : Vn κ} {p n : Nat} : (seekAn kd L p n).length = n + 1 := by simp [seekAn]
theorem seekAn_get {L : Vn κ} {p : Nat} (hp : p ≤ L.length) {i : Nat} (hi : p + i < L.length) : ∃ a b, (seekAn kd L p (L.length - p + 1))[i + 1]? = some a ∧ (seekAn kd L p (L.length - p + 1))[i]? = some b ∧ a.pair = kd.pair L[p + i].1 L[p + i].2 ∧ a.ok = true ∧ b.done = false := by
  have h1 : (seekAn kd L p (L.length - p + 1))[i + 1]? = some ⟨kd.pair L[p + i].1 L[p + i].2, true, (stand L (p + i + 1)).isNone⟩ := by
    unfold seekAn
    rw [List.getElem?_cons_succ, List.getElem?_map, List.getElem?_range (by omega)]
    simp only [Option.map_some, if_pos hi, List.getElem?_eq_getElem hi, Option.getD_some]
  refine ⟨_, _, h1, List.getElem?_eq_getElem (by rw [seekAn_len]; omega), rfl, rfl, ?_⟩
  have key : ∀ b, (seekAn kd L p (L.length - p + 1))[i]? = some b → b.done = false := by
    intro b hb
    unfold seekAn at hb
    cases i with
    | zero =>
      simp at hb
      rw [← hb]
      show (stand L p).isNone = false
      unfold stand; rw [if_pos (by omega)]; rfl
    | succ i =>
      rw [List.getElem?_cons_succ, List.getElem?_map, List.getElem?_range (by omega)] at hb
      simp only [Option.map_some] at hb
      rw [if_pos (by omega)] at hb
      rw [← Option.some.inj hb]
      show (stand L (p + i + 1)).isNone = false
      unfold stand; rw [if_pos (by omega)]; rfl
  exact key _ (List.getElem?_eq_getElem (by rw [seekAn_len]; omega))
theorem seekAn_last {L : Vn κ} {p : Nat} (hp : p ≤ L.length) : (seekAn kd L p (L.length - p + 1))[L.length - p + 1]? = some ⟨zeroP, false, true⟩ := by
  unfold seekAn
  rw [List.getElem?_cons_succ, List.getElem?_map, List.getElem?_range (by omega)]
  simp only [Option.map_some]
  rw [if_neg (by omega)]
end
end Go.Vc.Bt
end
