import Derived.Test.YtodjijfblgnfmaaGreatDoorW3
import Derived.Tactics
import Derived.Tactics2
import Derived.Defers
import Derived.Recover
import Derived.Laws.Pointers
import Derived.Test.YtodjijfblgnfmaaGreatDoorW2
import Derived.Test.YtodjijfblgnfmaaGreatDoorW0
import Derived.ProofKit
import Derived.WideKeyArgs
import Derived.Deep.Slices
import Derived.Carry
import Derived.LaidMore
import Derived.OpenShut
import Derived.Stop.Joined
import Derived.Test.YtodjijfblgnfmaaGreatDoorRows
import Derived.Test.YtodjijfblgnfmaaGreatDoorCards
import Derived.Test.YtodjijfblgnfmaaGreatDoorTie
import Derived.Test.YtodjijfblgnfmaaGreatDoorW1
set_option linter.unusedSimpArgs false
set_option linter.unusedVariables false
set_option linter.unusedSectionVars false
set_option maxRecDepth 100000
set_option maxHeartbeats 4000000
section
namespace Go.Proofs.YtodjijfblgnfmaaGreatDoor.T
open Go.Vc Go.Proofs Go.Proofs.YtodjijfblgnfmaaGreatDoor Go.Vc.Bt
variable {w w' : World} {v cv : Value} {K : KV} {Kp : KP} {lt : Ky → Ky → Bool} {ib mb b : Nat} {L : List (Ky × Vl)} {cs cs' : Array Value} {s : Tr} {n N : Nat} {M : Nat → Prop}
theorem call_key {args : List Value} : nP.call (.val (.func (.func 75) #[] #[])) args w K Kp = Calls Tryz.prog 75 args.toArray w (ret K Kp) := by
  rw [call_val (by kernel_rfl)]; simp
theorem call_many {args : List Value} : nP.call (.val (.func (.func 76) #[] #[])) args w K Kp = Calls Tryz.prog 76 args.toArray w (ret K Kp) := by
  rw [call_val (by kernel_rfl)]; simp
theorem call_pair {args : List Value} : nP.call (.val (.func (.func 78) #[] #[])) args w K Kp = Calls Tryz.prog 78 args.toArray w (ret K Kp) := by
  rw [call_val (by kernel_rfl)]; simp
theorem sortedRun_ok {a2 : Option Addr} {c2 : Nat} {steps : List SSt} (hC : CmpOk cv lt none) (hl : Lin lt) (h2 : Row w a2 (steps.flatMap SSt.cells)) (hs : ∀ s ∈ steps, s.text.size ≤ 100) (hc : scost steps < 2 ^ 30)
    (hD : (∃ s ∈ steps, s.op = 1 ∨ s.op = 6) → DelOk lt) (hG : (∃ s ∈ steps, s.op = 2) → GetOk lt) (hB : (∃ s ∈ steps, s.op = 4) → BackOk lt) (hM : (∃ s ∈ steps, s.op = 5 ∨ s.op = 6) → ManyOk w)
    (hK : ∀ l w' G, Frm (fun _ => False) w w' → RowsOf ElA w' w.heap.size 56 4 l (runS lt kd steps).2 G → K l w') :
    Calls Tryz.prog 39 #[kdV, cv, .slice a2 steps.length c2] w (ret K Kp) := by
  have hE := flat_ok (fun b : Nat => [ptr b])
  refine vc39_calls ?_
  delta vc39
  refine op_box_ok fun w1 k1 z1 b1 => ?_
  simp only [kdV, cells_agg] at b1
  simp only [call_64]
  refine new_ok hC fun w2 mb k2 hmb hM2 => ?_
  have n1 := k1.size
  have n2 := k2.size
  refine op_row1 (base := w1.heap.size) (El := Flat fun b => [ptr b]) (u := [ptr mb]) (y := mb) (G2 := fun _ => False) hE apO (lit_120_1 rfl) rfl rfl (fun _ h => h.elim) (by omega) fun l3 w3 k3 hR3 ho3 => ?_
  have k13 := k2.no k3
  obtain ⟨a3, c3, rfl, _⟩ := hR3.slice
  simp [-getElem?_pos, -Array.getElem?_eq_getElem, -Int.natCast_add, -op_lit_46_1, -op_lit_28_1, -op_lit_120_1, -op_alloc_54, -op_alloc_56, -op_st_54, -op_st_2, -op_st_3, -op_st_4, -op_st_46]
  obtain ⟨I, hI⟩ : ∃ I : Value → Value → KV, ∀ l out v wl, I l out v wl ↔ ∃ (i : Nat) (bs : List Nat) (G : Nat → Prop), v = .int .i64 i ∧ i ≤ steps.length ∧ Frm (fun _ => False) w1 wl ∧
      RowsOf (Flat fun b => [ptr b]) wl w1.heap.size 118 1 l bs (fun _ => False) ∧ bs.length = (runS lt kd (steps.take i)).1.length ∧
      (∀ (j b : Nat) (L : List (Ky × Vl)), bs[j]? = some b → (runS lt kd (steps.take i)).1[j]? = some L → Ver wl b lt (scost (steps.take i)) L) ∧
      RowsOf ElA wl w1.heap.size 56 4 out (runS lt kd (steps.take i)).2 G ∧ ∀ c, G c → ∃ cs, wl.heap[c]? = some (.cells cs 49 (0, 0)) := ⟨_, fun _ _ _ _ => Iff.rfl⟩
  refine Lp.intro I (fun _ _ v _ => steps.length - nOf v) ⟨(hI _ _ _ _).2 ⟨0, [mb], fun _ => False, rfl, by omega, k13, hR3, by simp [runS], fun j b L hb hL => ?_, rows_nil, fun _ h => h.elim⟩, ?_⟩
  · cases j with
    | zero =>
      simp [runS] at hb hL
      subst hb hL
      exact ⟨none, hM2.still k3, trivial, rfl⟩
    | succ j => simp at hb
  intro wl l out v hlv
  obtain ⟨i, bs, G, rfl, hi, kl, hR, hbl, hV, hO, hGt⟩ := (hI _ _ _ _).1 hlv
  clear hlv hR3 hM2 k13 k3
  simp only [op_lss, Br_dec]
  refine ⟨fun hlt' => ?_, fun hnl' => ?_⟩
  rotate_left
  · have : i = steps.length := by omega
    subst this
    rw [List.take_length] at hO
    exact hK out wl G (k1.no kl) (hO.base_le n1)
  have hi' : i < steps.length := by omega
  have htk : steps.take (i + 1) = steps.take i ++ [steps[i]] := List.take_succ_eq_append_getElem hi'
  have hmem : steps[i] ∈ steps := List.getElem_mem hi'
  have hctk := scost_take steps (i + 1)
  have hsl := scost_len steps
  have hlenr := runS_len (lt := lt) (kd := kd) (steps.take i)
  have hle := runS_le (lt := lt) (kd := kd) (steps.take i)
  have hsnoc := runS_snoc (lt := lt) (kd := kd) (steps.take i) steps[i]
  rw [← htk] at hsnoc
  rw [htk, scost_snoc] at hctk
  have hcsn := scost_snoc (steps.take i) steps[i]
  rw [← htk] at hcsn
  rw [List.length_take] at hlenr
  obtain ⟨bp, o, cs, e, fz, rfl, hcs, hsz, hext⟩ := (h2.frame (k1.no kl) (fun _ _ h => h)).part SSt.len (by decide) hi'
  have hst := hs _ hmem
  have hD' : steps[i].op = 1 ∨ steps[i].op = 6 → DelOk lt := fun h => hD ⟨_, hmem, h⟩
  have hG' : steps[i].op = 2 → GetOk lt := fun h => hG ⟨_, hmem, h⟩
  have hB' : steps[i].op = 4 → BackOk lt := fun h => hB ⟨_, hmem, h⟩
  have hM' : steps[i].op = 5 ∨ steps[i].op = 6 → ManyOk w := fun h => hM ⟨_, hmem, h⟩
  generalize steps[i] = s at *
  generalize hvs : runS lt kd (steps.take i) = vs at *
  obtain ⟨vs, an⟩ := vs
  simp only at hbl hV hO hlenr hle
  generalize hNn : scost (steps.take i) = N at *
  have hq : atV s vs.length < vs.length := atV_lt hlenr.1
  have hqb : atV s bs.length < bs.length := by rw [hbl]; exact hq
  have bk := kl.get b1 fun h => h
  have nl := kl.size
  have hlow := hR.own_lt
  have hlowO := hO.own_lt
  simp [-getElem?_pos, -Array.getElem?_eq_getElem, -Int.natCast_add, -op_lit_46_1, -op_lit_28_1, -op_lit_120_1, -op_alloc_54, -op_alloc_56, -op_st_54, -op_st_2, -op_st_3, -op_st_4, -op_st_46, hcs, hsz, hext]
  refine ⟨hi', ?_⟩
  refine op_alloc_ok (z := .agg #[.int .u8 0, .int .i64 0, .int .i64 0, .string ByteArray.empty, .int .i64 0, .int .i64 0, .int .i64 0]) (by kernel_rfl) fun w5 k5 z5 b5 => ?_
  simp only [cells_agg] at b5
  refine op_storeN_ok (n := 7) (by kernel_rfl) b5 rfl (by decide) (by simp [SSt.cells]) fun w6 k6 z6 b6 => ?_
  have b6 : w6.heap[wl.heap.size]? = some (.cells s.cells.toArray 54 (0, 0)) := by
    rw [ow_all (by simp [SSt.cells])] at b6; simpa [SSt.cells] using b6
  simp only [SSt.cells] at b6
  have k56 : Frm (fun _ => False) wl w6 := k5.old k6 fun c hc => .inr (by omega)
  have hR6 := hR.still hE k56
  obtain ⟨u, g, c, cur, hlg, hg1, hu, hg3, hg4, hg5, hub⟩ := hR6.get hqb
  cases hlg
  have hub : u = [ptr bs[atV s bs.length]] := hub
  subst hub
  have hg0 : cur[atV s bs.length]? = some (ptr bs[atV s bs.length]) := by have := hg3 0 (by decide); simpa using this
  obtain ⟨L0, hL0⟩ : ∃ L0, vs[atV s bs.length]? = some L0 := ⟨_, List.getElem?_eq_getElem (by omega)⟩
  have hV6 := (hV _ _ _ (List.getElem?_eq_getElem hqb) hL0).still k56
  have hL0N : L0.length ≤ N := hle _ (List.mem_of_getElem? hL0)
  have hsd := hV6.sd
  generalize hbv : bs[atV s bs.length] = bv at *
  simp [-getElem?_pos, -Array.getElem?_eq_getElem, -Int.natCast_add, -op_lit_46_1, -op_lit_28_1, -op_lit_120_1, -op_alloc_54, -op_alloc_56, -op_st_54, -op_st_2, -op_st_3, -op_st_4, -op_st_46, b6]
  refine at_ok (by omega) (by omega) ?_
  have hat : ((s.fro % (bs.length : Int)).toNat) = atV s bs.length := rfl
  rw [hat]
  simp [-getElem?_pos, -Array.getElem?_eq_getElem, -Int.natCast_add, -op_lit_46_1, -op_lit_28_1, -op_lit_120_1, -op_alloc_54, -op_alloc_56, -op_st_54, -op_st_2, -op_st_3, -op_st_4, -op_st_46, hg1, hg0]
  refine ⟨hqb, ?_⟩
  refine op_alloc_ok (z := .agg #[.int .i64 0, .int .i64 0, .bool false, .slice none 0 0]) (by kernel_rfl) fun wA kA zA bA => ?_
  simp only [cells_agg] at bA
  have k6A : Frm (fun _ => False) wl wA := k56.no kA
  have bS := kA.get b6 fun h => h
  have bK := k6A.get bk fun h => h
  have hVA := hV6.still kA
  have hlS := lt_of_get b6
  have nA := k6A.size
  have hne : ¬ wl.heap.size = w6.heap.size := by omega
  have hneK : ¬ w.heap.size = w6.heap.size := by omega
  generalize hab : w6.heap.size = ab at *
  obtain ⟨J, hJ⟩ : ∃ J : KV, ∀ e wz, J e wz ↔ ∃ b' pv, e = ptr b' ∧ Mid lt s N L0 ab wA wz b' pv := ⟨_, fun _ _ => Iff.rfl⟩
  refine Jn.intro J ⟨?_, ?_⟩
  · have hz : ∀ {wz : World} {b' : Nat} {m : List (Ky × Vl)}, newV lt kd s L0 = some m → Frm (fun _ => False) wA wz → Ver wz b' lt (N + s.cost) m → J (ptr b') wz := fun {wz b' m} hm hf hv => by
      have e : midA lt s L0 = zeroA := by unfold midA; rw [hm]; rfl
      refine (hJ _ _).2 ⟨b', .slice none 0 0, rfl, hf.to fun _ h => h.elim, by rw [hm]; exact hv, ?_, ?_, fun c hc => nomatch hc⟩
      · rw [e]; exact hf.get bA fun h => h
      · rw [e]; exact IsSl.nil
    have hx3 : (#[.func (.func 75) #[] #[], .func (.func 76) #[] #[], .func (.func 78) #[] #[]] : Array Value).extract 0 3 = #[.func (.func 75) #[] #[], .func (.func 76) #[] #[], .func (.func 78) #[] #[]] := rfl
    have hc1 : 1 ≤ s.cost := by unfold SSt.cost; omega
    have hdr := hVA.still (Frm.drew wA)
    by_cases h0 : s.op = 0
    · simp [-getElem?_pos, -Array.getElem?_eq_getElem, -Int.natCast_add, -op_lit_46_1, -op_lit_28_1, -op_lit_120_1, -op_alloc_54, -op_alloc_56, -op_st_54, -op_st_2, -op_st_3, -op_st_4, -op_st_46, bS, bK, h0, call_key]
      refine key_ok hst ?_
      try simp [-getElem?_pos, -Array.getElem?_eq_getElem, -Int.natCast_add, -op_lit_46_1, -op_lit_28_1, -op_lit_120_1, -op_alloc_54, -op_alloc_56, -op_st_54, -op_st_2, -op_st_3, -op_st_4, -op_st_46, bS]
      refine ver_set hl hdr (by omega) fun w7 b' k7 v7 => ?_
      exact hz (by unfold newV; rw [if_pos h0]) (Frm.dr k7) (v7.mono (by omega))
    by_cases h1 : s.op = 1
    · simp [-getElem?_pos, -Array.getElem?_eq_getElem, -Int.natCast_add, -op_lit_46_1, -op_lit_28_1, -op_lit_120_1, -op_alloc_54, -op_alloc_56, -op_st_54, -op_st_2, -op_st_3, -op_st_4, -op_st_46, bS, bK, h1, call_key]
      refine key_ok hst ?_
      try simp [-getElem?_pos, -Array.getElem?_eq_getElem, -Int.natCast_add, -op_lit_46_1, -op_lit_28_1, -op_lit_120_1, -op_alloc_54, -op_alloc_56, -op_st_54, -op_st_2, -op_st_3, -op_st_4, -op_st_46, bS]
      refine hD' (.inl h1) hVA (by omega) fun w7 b' k7 v7 => ?_
      exact hz (by unfold newV; rw [if_neg h0, if_pos h1]) k7 (v7.mono (by omega))
    by_cases h5 : s.op = 5
    · simp [-getElem?_pos, -Array.getElem?_eq_getElem, -Int.natCast_add, -op_lit_46_1, -op_lit_28_1, -op_lit_120_1, -op_alloc_54, -op_alloc_56, -op_st_54, -op_st_2, -op_st_3, -op_st_4, -op_st_46, bS, h5]
      obtain ⟨I2, hI2⟩ : ∃ I2 : Value → KV, ∀ m v wz, I2 m v wz ↔ ∃ j b' : Nat, m = ptr b' ∧ v = .int .i64 j ∧ j ≤ s.count.toNat ∧ Frm (fun _ => False) wA wz ∧ Ver wz b' lt (N + j) (putN lt kd s j L0) := ⟨_, fun _ _ _ => Iff.rfl⟩
      refine Lp.intro I2 (fun _ v _ => s.count.toNat - nOf v) ⟨(hI2 _ _ _).2 ⟨0, bv, rfl, rfl, by omega, Frm.refl, hVA⟩, ?_⟩
      intro wz m v hm
      obtain ⟨j, b', rfl, rfl, hj, kz, vz⟩ := (hI2 _ _ _).1 hm
      have bSz := kz.get bS fun h => h
      have bKz := kz.get bK fun h => h
      have hpl := putN_le (lt := lt) (kd := kd) s L0 j
      have hcost : s.cost = 1 + s.count.toNat := rfl
      have hx7 : (#[.int .u8 s.op, .int .i64 s.fro, .int .i64 s.key, .string s.text, .int .i64 s.value, .int .i64 s.count, .int .i64 s.by'] : Array Value).extract 0 7 = s.cells.toArray := rfl
      simp [-getElem?_pos, -Array.getElem?_eq_getElem, -Int.natCast_add, -op_lit_46_1, -op_lit_28_1, -op_lit_120_1, -op_alloc_54, -op_alloc_56, -op_st_54, -op_st_2, -op_st_3, -op_st_4, -op_st_46, bSz]
      refine ⟨fun hlt2 => ?_, fun hge => ?_⟩
      · simp [-getElem?_pos, -Array.getElem?_eq_getElem, -Int.natCast_add, -op_lit_46_1, -op_lit_28_1, -op_lit_120_1, -op_alloc_54, -op_alloc_56, -op_st_54, -op_st_2, -op_st_3, -op_st_4, -op_st_46, bSz, bKz, call_many, hx7]
        refine hM' (.inl h5) hst ((k1.no kl).no (k6A.no (kz.no (Frm.drew _)))) fun w7 k7 => ?_
        have bS7 := (Frm.dr k7).get bSz fun h => h
        simp [-getElem?_pos, -Array.getElem?_eq_getElem, -Int.natCast_add, -op_lit_46_1, -op_lit_28_1, -op_lit_120_1, -op_alloc_54, -op_alloc_56, -op_st_54, -op_st_2, -op_st_3, -op_st_4, -op_st_46, bS7]
        refine ver_set hl (vz.still (Frm.dr k7)) (by omega) fun w8 b8 k8 v8 => ?_
        rw [show IntKind.i64.wrap ((j : Int) + 1) = ((j + 1 : Nat) : Int) from by rw [IntKind.wrap_i64]; omega]
        refine ⟨(hI2 _ _ _).2 ⟨j + 1, b8, rfl, rfl, by omega, kz.no ((Frm.dr k7).no k8), v8⟩, by simp only [nOf_int]; omega⟩
      · have : j = s.count.toNat := by omega
        subst this
        exact hz (by unfold newV; rw [if_neg h0, if_neg h1, if_pos h5]) kz (vz.mono (by omega))
    by_cases h6 : s.op = 6
    · simp [-getElem?_pos, -Array.getElem?_eq_getElem, -Int.natCast_add, -op_lit_46_1, -op_lit_28_1, -op_lit_120_1, -op_alloc_54, -op_alloc_56, -op_st_54, -op_st_2, -op_st_3, -op_st_4, -op_st_46, bS, h6]
      obtain ⟨I2, hI2⟩ : ∃ I2 : Value → KV, ∀ m v wz, I2 m v wz ↔ ∃ j b' : Nat, m = ptr b' ∧ v = .int .i64 j ∧ j ≤ s.count.toNat ∧ Frm (fun _ => False) wA wz ∧ Ver wz b' lt N (remN lt kd s j L0) := ⟨_, fun _ _ _ => Iff.rfl⟩
      refine Lp.intro I2 (fun _ v _ => s.count.toNat - nOf v) ⟨(hI2 _ _ _).2 ⟨0, bv, rfl, rfl, by omega, Frm.refl, hVA⟩, ?_⟩
      intro wz m v hm
      obtain ⟨j, b', rfl, rfl, hj, kz, vz⟩ := (hI2 _ _ _).1 hm
      have bSz := kz.get bS fun h => h
      have bKz := kz.get bK fun h => h
      have hpl := remN_le (lt := lt) (kd := kd) s L0 j
      have hcost : s.cost = 1 + s.count.toNat := rfl
      have hx7 : (#[.int .u8 s.op, .int .i64 s.fro, .int .i64 s.key, .string s.text, .int .i64 s.value, .int .i64 s.count, .int .i64 s.by'] : Array Value).extract 0 7 = s.cells.toArray := rfl
      simp [-getElem?_pos, -Array.getElem?_eq_getElem, -Int.natCast_add, -op_lit_46_1, -op_lit_28_1, -op_lit_120_1, -op_alloc_54, -op_alloc_56, -op_st_54, -op_st_2, -op_st_3, -op_st_4, -op_st_46, bSz]
      refine ⟨fun hlt2 => ?_, fun hge => ?_⟩
      · simp [-getElem?_pos, -Array.getElem?_eq_getElem, -Int.natCast_add, -op_lit_46_1, -op_lit_28_1, -op_lit_120_1, -op_alloc_54, -op_alloc_56, -op_st_54, -op_st_2, -op_st_3, -op_st_4, -op_st_46, bSz, bKz, call_many, hx7]
        refine hM' (.inr h6) hst ((k1.no kl).no (k6A.no kz)) fun w7 k7 => ?_
        have bS7 := k7.get bSz fun h => h
        try simp [-getElem?_pos, -Array.getElem?_eq_getElem, -Int.natCast_add, -op_lit_46_1, -op_lit_28_1, -op_lit_120_1, -op_alloc_54, -op_alloc_56, -op_st_54, -op_st_2, -op_st_3, -op_st_4, -op_st_46, bS7]
        refine hD' (.inr h6) (vz.still k7) (by omega) fun w8 b8 k8 v8 => ?_
        try simp [-getElem?_pos, -Array.getElem?_eq_getElem, -Int.natCast_add, -op_lit_46_1, -op_lit_28_1, -op_lit_120_1, -op_alloc_54, -op_alloc_56, -op_st_54, -op_st_2, -op_st_3, -op_st_4, -op_st_46]
        rw [show IntKind.i64.wrap ((j : Int) + 1) = ((j + 1 : Nat) : Int) from by rw [IntKind.wrap_i64]; omega]
        refine ⟨(hI2 _ _ _).2 ⟨j + 1, b8, rfl, rfl, by omega, kz.no (k7.no k8), v8⟩, by simp only [nOf_int]; omega⟩
      · have : j = s.count.toNat := by omega
        subst this
        exact hz (by unfold newV; rw [if_neg h0, if_neg h1, if_neg h5, if_pos h6]) kz (vz.mono (by omega))
    have hnone : newV lt kd s L0 = none := by unfold newV; rw [if_neg h0, if_neg h1, if_neg h5, if_neg h6]
    have hmid : midA lt s L0 = ansV lt kd s L0 := by unfold midA; rw [hnone]; rfl
    have hn : ∀ {wz : World} {pv : Value}, Frm (· = ab) wA wz → wz.heap[ab]? = some (.cells #[.int .i64 (ansV lt kd s L0).value, .int .i64 (ansV lt kd s L0).n, .bool (ansV lt kd s L0).ok, pv] 56 (0, 0)) → IsSl wz pv (ansV lt kd s L0).list.length ((ansV lt kd s L0).list.flatMap SPr.cells) →
        (∀ c, pv.ownBlock = some c → wA.heap.size ≤ c ∧ ∃ cs, wz.heap[c]? = some (.cells cs 49 (0, 0))) → J (ptr bv) wz := fun {wz pv} hf hcell hrow hown => by
      refine (hJ _ _).2 ⟨bv, pv, rfl, hf, ?_, by rw [hmid]; exact hcell, by rw [hmid]; exact hrow, hown⟩
      rw [hnone]
      exact (hVA.quiet (quiet_ans bA) hf).mono (by omega)
    by_cases h2' : s.op = 2
    · simp [-getElem?_pos, -Array.getElem?_eq_getElem, -Int.natCast_add, -op_lit_46_1, -op_lit_28_1, -op_lit_120_1, -op_alloc_54, -op_alloc_56, -op_st_54, -op_st_2, -op_st_3, -op_st_4, -op_st_46, bS, bK, h2', call_key]
      refine key_ok hst ?_
      try simp [-getElem?_pos, -Array.getElem?_eq_getElem, -Int.natCast_add, -op_lit_46_1, -op_lit_28_1, -op_lit_120_1, -op_alloc_54, -op_alloc_56, -op_st_54, -op_st_2, -op_st_3, -op_st_4, -op_st_46, bS]
      refine hG' h2' hVA fun w7 k7 => ?_
      have b7 := k7.get bA fun h => h
      cases hgg : got lt L0 (kd.key s.key s.text) with
      | none =>
        have ea : ansV lt kd s L0 = zeroA := by unfold ansV; rw [if_pos h2', hgg]
        simp [-getElem?_pos, -Array.getElem?_eq_getElem, -Int.natCast_add, -op_lit_46_1, -op_lit_28_1, -op_lit_120_1, -op_alloc_54, -op_alloc_56, -op_st_54, -op_st_2, -op_st_3, -op_st_4, -op_st_46, gotV]
        refine op_store_ok (by kernel_rfl) b7 (by decide) rfl fun w8 k8 z8 b8 => ?_
        refine op_store_ok (by kernel_rfl) b8 (by decide) rfl fun w9 k9 z9 b9 => ?_
        refine hn ((k7.fst k8).trans k9 fun _ h _ => h) (pv := .slice none 0 0) (by rw [ea]; simpa [zeroA, zv] using b9) (by rw [ea]; exact IsSl.nil) fun c hc => nomatch hc
      | some x =>
        have ea : ansV lt kd s L0 = ⟨x, 0, true, []⟩ := by unfold ansV; rw [if_pos h2', hgg]
        simp [-getElem?_pos, -Array.getElem?_eq_getElem, -Int.natCast_add, -op_lit_46_1, -op_lit_28_1, -op_lit_120_1, -op_alloc_54, -op_alloc_56, -op_st_54, -op_st_2, -op_st_3, -op_st_4, -op_st_46, gotV]
        refine op_store_ok (by kernel_rfl) b7 (by decide) rfl fun w8 k8 z8 b8 => ?_
        refine op_store_ok (by kernel_rfl) b8 (by simp) rfl fun w9 k9 z9 b9 => ?_
        refine hn ((k7.fst k8).trans k9 fun _ h _ => h) (pv := .slice none 0 0) (by rw [ea]; simpa [ev] using b9) (by rw [ea]; exact IsSl.nil) fun c hc => nomatch hc
    by_cases h3 : s.op = 3
    · have ea : ansV lt kd s L0 = ⟨0, L0.length, false, prs L0⟩ := by unfold ansV; rw [if_neg h2', if_pos h3]; rfl
      simp [-getElem?_pos, -Array.getElem?_eq_getElem, -Int.natCast_add, -op_lit_46_1, -op_lit_28_1, -op_lit_120_1, -op_alloc_54, -op_alloc_56, -op_st_54, -op_st_2, -op_st_3, -op_st_4, -op_st_46, bS, bK, h3, hx3]
      refine ver_iter hdr (by omega) fun w7 ib k7 hib hA7 => ?_
      have k7 := Frm.dr k7
      have bK7 := k7.get bK fun h => h
      have n7 := k7.size
      have hib : wA.heap.size ≤ ib := hib
      simp [-getElem?_pos, -Array.getElem?_eq_getElem, -Int.natCast_add, -op_lit_46_1, -op_lit_28_1, -op_lit_120_1, -op_alloc_54, -op_alloc_56, -op_st_54, -op_st_2, -op_st_3, -op_st_4, -op_st_46, bK7, hx3]
      refine pairsOf_ok hA7 (by omega) fun pv w8 k8 hR8 => ?_
      rw [restOf_zero] at hR8
      have k78 : Frm (fun _ => False) wA w8 := k7.old k8 fun c hc => .inr (by omega)
      have b8 := k78.get bA fun h => h
      try simp [-getElem?_pos, -Array.getElem?_eq_getElem, -Int.natCast_add, -op_lit_46_1, -op_lit_28_1, -op_lit_120_1, -op_alloc_54, -op_alloc_56, -op_st_54, -op_st_2, -op_st_3, -op_st_4, -op_st_46]
      refine ver_len (hVA.still k78) ?_
      refine op_store_ok (by kernel_rfl) b8 (by decide) hR8.one fun w9 k9 z9 b9 => ?_
      try simp [-getElem?_pos, -Array.getElem?_eq_getElem, -Int.natCast_add, -op_lit_46_1, -op_lit_28_1, -op_lit_120_1, -op_alloc_54, -op_alloc_56, -op_st_54, -op_st_2, -op_st_3, -op_st_4, -op_st_46]
      refine op_store_ok (by kernel_rfl) b9 (by simp) rfl fun w10 k10 z10 b10 => ?_
      have k810 : Frm (· = ab) w8 w10 := k9.trans k10 fun _ h _ => h
      have hlow8 := hR8.own_lt
      have hlA := lt_of_get bA
      refine hn (k78.fst k810) (pv := pv) (by rw [ea]; simpa using b10) ?_ fun c hc => ?_
      · rw [ea]
        exact (hR8.flat).frame k810 fun c hc => by have := hlow8 c hc; omega
      · have hge := hlow8 c hc
        obtain ⟨cs', hcs'⟩ := rows_ty hR8 c hc
        exact ⟨by omega, cs', k810.get hcs' (by omega)⟩
    by_cases h4 : s.op = 4
    · have ea : ansV lt kd s L0 = ⟨0, L0.length, false, prs L0.reverse⟩ := by unfold ansV; rw [if_neg h2', if_neg h3, if_pos h4]; rfl
      obtain ⟨hLast, hPrev⟩ := hB' h4
      simp [-getElem?_pos, -Array.getElem?_eq_getElem, -Int.natCast_add, -op_lit_46_1, -op_lit_28_1, -op_lit_120_1, -op_alloc_54, -op_alloc_56, -op_st_54, -op_st_2, -op_st_3, -op_st_4, -op_st_46, bS, h4]
      refine ver_len hVA ?_
      refine op_store_ok (by kernel_rfl) bA (by decide) rfl fun w7 k7 z7 b7 => ?_
      have b7 : w7.heap[ab]? = some (.cells #[.int .i64 0, .int .i64 L0.length, .bool false, .slice none 0 0] 56 (0, 0)) := by simpa using b7
      have hlA := lt_of_get bA
      have hV7 := hVA.quiet (quiet_ans bA) k7
      try simp [-getElem?_pos, -Array.getElem?_eq_getElem, -Int.natCast_add, -op_lit_46_1, -op_lit_28_1, -op_lit_120_1, -op_alloc_54, -op_alloc_56, -op_st_54, -op_st_2, -op_st_3, -op_st_4, -op_st_46]
      refine ver_iter hV7 (by omega) fun w8 ib k8 hib hA8 => ?_
      try simp [-getElem?_pos, -Array.getElem?_eq_getElem, -Int.natCast_add, -op_lit_46_1, -op_lit_28_1, -op_lit_120_1, -op_alloc_54, -op_alloc_56, -op_st_54, -op_st_2, -op_st_3, -op_st_4, -op_st_46]
      have hV8 := hV7.still k8
      have hib2 := hA8.below
      have n7 := k7.size
      have n8 := k8.size
      refine hLast hA8 hV8 (by omega) fun w9 k9 hA9 => ?_
      have n9 := k9.size
      have b9 := k9.get (k8.get b7 fun h => h) (by omega)
      have bK9 := k9.get (k8.get (k7.get bK hneK) fun h => h) (by omega)
      obtain ⟨I2, hI2⟩ : ∃ I2 : World → Prop, ∀ wz, I2 wz ↔ ∃ (q : Option Nat) (D : List (Ky × Vl)) (pv : Value), D ++ backOf L0 q = L0.reverse ∧ Frm (fun c => c = ab ∨ c = ib) w9 wz ∧ At wz ib bv L0 q ∧ (∀ x, q = some x → x < L0.length) ∧
          wz.heap[ab]? = some (.cells #[.int .i64 0, .int .i64 L0.length, .bool false, pv] 56 (0, 0)) ∧ RowsOf (Flat SPr.cells) wz w9.heap.size 49 3 pv (prs D) (fun _ => False) := ⟨_, fun _ => Iff.rfl⟩
      try simp [-getElem?_pos, -Array.getElem?_eq_getElem, -Int.natCast_add, -op_lit_46_1, -op_lit_28_1, -op_lit_120_1, -op_alloc_54, -op_alloc_56, -op_st_54, -op_st_2, -op_st_3, -op_st_4, -op_st_46]
      refine Lp.intro I2 (fun wz => L0.length - lenAt wz ab 3) ⟨(hI2 _).2 ⟨_, [], _, backOf_last, Frm.refl, hA9, fun x hx => ?_, b9, rows_nil⟩, ?_⟩
      · split at hx
        · cases hx
        · cases hx; omega
      intro wz hm
      obtain ⟨q, D, pv, hDL, kz, hAz, hqz, bz, hRz⟩ := (hI2 _).1 hm
      have nz := kz.size
      have bKz := kz.get bK9 (by omega)
      have hlowz := hRz.own_lt
      refine done_ok hAz ?_
      match q, hAz, hDL, hqz with
      | none, hAz, hDL, hqz =>
        simp [-getElem?_pos, -Array.getElem?_eq_getElem, -Int.natCast_add, -op_lit_46_1, -op_lit_28_1, -op_lit_120_1, -op_alloc_54, -op_alloc_56, -op_st_54, -op_st_2, -op_st_3, -op_st_4, -op_st_46]
        rw [show D = L0.reverse from by rw [← hDL]; simp [backOf]] at hRz
        have k9z : Frm (fun c => c = ab ∨ c = ib) w7 wz := ((k8.to fun _ h => h.elim).trans (k9.to fun _ h => .inr h) fun _ h _ => h).trans kz fun _ h _ => h
        have kAz : Frm (· = ab) wA wz := (k7.to (M' := fun c => c = ab ∨ c = ib) fun _ h => .inl h).trans k9z (fun _ h _ => h) |>.mono fun c hc hl => by
          rcases hc with h | h
          · exact h
          · omega
        refine hn kAz (pv := pv) (by rw [ea]; exact bz) (by rw [ea]; exact hRz.flat) fun c hc => ?_
        have := hlowz c hc
        exact ⟨by omega, rows_ty hRz c hc⟩
      | some q, hAz, hDL, hqz =>
        have hql := hqz q rfl
        have hget : L0[q]? = some L0[q] := List.getElem?_eq_getElem hql
        simp [-getElem?_pos, -Array.getElem?_eq_getElem, -Int.natCast_add, -op_lit_46_1, -op_lit_28_1, -op_lit_120_1, -op_alloc_54, -op_alloc_56, -op_st_54, -op_st_2, -op_st_3, -op_st_4, -op_st_46]
        refine hPrev hAz fun w10 k10 e he hA10 => ?_
        have e2 : e = L0[q] := Option.some.inj (he.symm.trans hget)
        subst e2
        have n10 := k10.size
        have bK10 := k10.get bKz (by omega)
        have b10 := k10.get bz (by omega)
        have hR10 := hRz.frame (flat_ok _) k10 (fun _ h => h.elim) fun b hb he => by have := hlowz b hb; omega
        simp [-getElem?_pos, -Array.getElem?_eq_getElem, -Int.natCast_add, -op_lit_46_1, -op_lit_28_1, -op_lit_120_1, -op_alloc_54, -op_alloc_56, -op_st_54, -op_st_2, -op_st_3, -op_st_4, -op_st_46, b10, bK10, call_pair]
        refine pair_ok fun w11 k11 => ?_
        have k11 := Frm.dr k11
        have hR11 := hR10.still (flat_ok _) k11
        have hA11 := hA10.still k11
        have b11 := k11.get b10 fun h => h
        have n11 := k11.size
        have hlen : (prs D).length = D.length := by simp [prs]
        have hDl : D.length + 1 ≤ L0.length := by
          have := congrArg List.length hDL
          rw [backOf_prev hget] at this
          simp only [List.length_append, List.length_cons, List.length_reverse] at this
          omega
        have hlow11 := hR11.own_lt
        have hsame : ∀ {wq : World}, Frm (fun b => some b = pv.ownBlock) w11 wq ∨ Frm (fun _ => False) w11 wq → wq.heap[ab]? = some (.cells #[.int .i64 0, .int .i64 L0.length, .bool false, pv] 56 (0, 0)) := fun {wq} h => by
          rcases h with h | h
          · exact h.get b11 fun he => by have := hlow11 ab he.symm; omega
          · exact h.get b11 fun h => h
        refine ⟨⟨_, ⟨_, _, _, b11⟩, rfl⟩, op_pushQ (lit_sp _) (fun w1 h1 => ⟨_, ⟨_, _, _, hsame (.inr h1)⟩, rfl⟩) ?_⟩
        refine op_push (u := (kd.pair L0[q].1 L0[q].2).cells) (flat_ok SPr.cells) apSP (lit_sp _) rfl (SPr.one _) hR11 rfl (G2 := fun _ => False) (fun _ h => h.elim) (fun _ _ h => h) (by omega) (by omega) fun l' w12 k12 hR12 ho12 => ?_
        have b12 := hsame (.inl k12)
        have n12 := k12.size
        refine op_store_ok (by kernel_rfl) b12 (by simp) hR12.one fun w13 k13 z13 b13 => ?_
        have b13 : w13.heap[ab]? = some (.cells #[.int .i64 0, .int .i64 L0.length, .bool false, l'] 56 (0, 0)) := by simpa using b13
        have hlow12 := hR12.own_lt
        have hA12 := At.keep (rows_off hR11 (by decide)) k12 hA11 (fun he => by have := hlow11 ib he.symm; omega)
        have hA13 := At.keep (quiet_ans b12).node k13 hA12 (by omega)
        have hR13 := (hR12.frame (M := (· = ab)) (flat_ok _) k13 (fun _ h => h.elim (fun h => h.elim) fun h => h.elim) fun b hb he => by have := hlow12 b hb; omega).mono (flat_ok _) (G' := fun _ => False) (fun _ h => h.elim id fun h => h) (fun _ h => h.elim) fun _ _ h => h
        refine ⟨(hI2 _).2 ⟨if 0 < q then some (q - 1) else none, D ++ [L0[q]], l', ?_, ?_, hA13, fun x hx => ?_, b13, ?_⟩, ?_⟩
        · rw [← hDL, backOf_prev hget, List.append_assoc]; rfl
        · refine (((kz.trans (k10.to fun _ h => .inr h) fun _ h _ => h).trans (k11.to fun _ h => h.elim) fun _ h _ => h).old k12 fun c hc => .inr (hlow11 c hc.symm).1).trans (k13.to fun _ h => .inl h) fun _ h _ => h
        · split at hx
          · cases hx; omega
          · cases hx
        · rw [show prs (D ++ [L0[q]]) = prs D ++ [kd.pair L0[q].1 L0[q].2] from by simp [prs]]
          exact hR13
        · have e1 : lenAt wz ab 3 = D.length := by
            obtain ⟨a0, c0, rfl, _⟩ := hRz.slice
            simp [lenAt, bz, hlen]
          have e2 : lenAt w13 ab 3 = D.length + 1 := by
            obtain ⟨a0, c0, rfl, _⟩ := hR12.slice
            simp [lenAt, b13, hlen]
          rw [e1, e2]; omega
    have ea : ansV lt kd s L0 = zeroA := by unfold ansV; rw [if_neg h2', if_neg h3, if_neg h4, hnone]
    have g0 : ¬ (s.op : Int) = 0 := by omega
    have g1 : ¬ (s.op : Int) = 1 := by omega
    have g2 : ¬ (s.op : Int) = 2 := by omega
    have g3 : ¬ (s.op : Int) = 3 := by omega
    have g4 : ¬ (s.op : Int) = 4 := by omega
    have g5 : ¬ (s.op : Int) = 5 := by omega
    have g6 : ¬ (s.op : Int) = 6 := by omega
    simp [-getElem?_pos, -Array.getElem?_eq_getElem, -Int.natCast_add, -op_lit_46_1, -op_lit_28_1, -op_lit_120_1, -op_alloc_54, -op_alloc_56, -op_st_54, -op_st_2, -op_st_3, -op_st_4, -op_st_46, bS, h0, g1, g2, g3, g4, g5, g6]
    exact hn (pv := .slice none 0 0) Frm.refl (by rw [ea]; exact bA) (by rw [ea]; exact IsSl.nil) fun c hc => nomatch hc
  · intro w9 m hm
    obtain ⟨b', pv, rfl, hmid⟩ := (hJ _ _).1 hm
    obtain ⟨kf, hv, hcell, hrow, hown⟩ := hmid
    have hlA := lt_of_get bA
    have bS9 := kf.get bS hne
    have n9 := kf.size
    have hisn := newV_some (lt := lt) (kd := kd) s L0
    have k9 : Frm (fun _ => False) wl w9 := k6A.old kf fun c hc => .inr (by omega)
    simp [-getElem?_pos, -Array.getElem?_eq_getElem, -Int.natCast_add, -op_lit_46_1, -op_lit_28_1, -op_lit_120_1, -op_alloc_54, -op_alloc_56, -op_st_54, -op_st_2, -op_st_3, -op_st_4, -op_st_46, bS9]
    obtain ⟨J2, hJ2⟩ : ∃ J2 : KV, ∀ e wz, J2 e wz ↔ e = .bool (newV lt kd s L0).isSome ∧ wz = w9 := ⟨_, fun _ _ => Iff.rfl⟩
    have hj2 : ∀ {c : Bool}, c = (newV lt kd s L0).isSome → J2 (.bool c) w9 := fun {c} h => (hJ2 _ _).2 ⟨by rw [h], rfl⟩
    rw [hisn] at hj2
    refine Jn.intro J2 ⟨fun h0 => hj2 (by simp [h0]), fun h0 => ⟨fun h1 => hj2 ?_, fun h1 => ⟨fun h5 => hj2 ?_, fun h5 => hj2 ?_⟩⟩, ?_⟩
    · have h1 : s.op = 1 := by omega
      simp [h1]
    · have h5 : s.op = 5 := by omega
      simp [h5]
    · have e : ((s.op : Int) = 6) ↔ s.op = 6 := by omega
      have h1 : ¬ s.op = 1 := by omega
      have h5 : ¬ s.op = 5 := by omega
      simp [h0, h1, h5, e]
    intro wz e9 h9
    obtain ⟨rfl, rfl⟩ := (hJ2 _ _).1 h9
    clear h9 hj2 hJ2 J2
    have hone : ∀ u ∈ [Value.int .i64 (midA lt s L0).value, .int .i64 (midA lt s L0).n, .bool (midA lt s L0).ok, pv], u.oneCell' = true := fun u hu => by
      simp only [List.mem_cons, List.not_mem_nil, or_false] at hu
      rcases hu with rfl | rfl | rfl | rfl
      · rfl
      · rfl
      · rfl
      · exact hrow.one
    have hO9 := hO.still elA_ok k9
    have hR9 := hR.still hE k9
    have hcn : (vs ++ (newV lt kd s L0).toList).length ≤ vs.length + 1 := by cases newV lt kd s L0 <;> simp
    have hone1 : oneS lt kd (vs, an) s = (vs ++ (newV lt kd s L0).toList, an ++ [ansV lt kd s L0]) := by
      unfold oneS
      rw [← hbl, hL0]; rfl
    rw [hone1] at hsnoc
    have hla : an.length = i := by omega
    cases hnw : newV lt kd s L0 with
    | none =>
      have hmd : midA lt s L0 = ansV lt kd s L0 := by unfold midA; rw [hnw]; rfl
      rw [hnw] at hsnoc hv
      simp only [Option.toList_none, List.append_nil] at hsnoc
      have hx4 : (#[.int .i64 (midA lt s L0).value, .int .i64 (midA lt s L0).n, .bool (midA lt s L0).ok, pv] : Array Value).extract 0 4 = #[.int .i64 (midA lt s L0).value, .int .i64 (midA lt s L0).n, .bool (midA lt s L0).ok, pv] := rfl
      simp [-getElem?_pos, -Array.getElem?_eq_getElem, -Int.natCast_add, -op_lit_46_1, -op_lit_28_1, -op_lit_120_1, -op_alloc_54, -op_alloc_56, -op_st_54, -op_st_2, -op_st_3, -op_st_4, -op_st_46, hcell, hx4]
      refine op_push (u := [.int .i64 (midA lt s L0).value, .int .i64 (midA lt s L0).n, .bool (midA lt s L0).ok, pv]) (y := ansV lt kd s L0) (G2 := fun c => pv.ownBlock = some c) elA_ok apA (lit_ans _ _ _ _) rfl hone hO9 ⟨pv, by rw [hmd], by rw [← hmd]; exact hrow, fun _ h => h⟩ (fun c hc => ?_) (fun b hb hc => ?_) (by omega) (by omega) fun o' w12 k12 hO12 ho12 => ?_
      · obtain ⟨h1, cs', h2⟩ := hown c hc; have := lt_of_get h2; omega
      · have := (hown b hc).1; have := hlowO b hb; omega
      try simp [-getElem?_pos, -Array.getElem?_eq_getElem, -Int.natCast_add, -op_lit_46_1, -op_lit_28_1, -op_lit_120_1, -op_alloc_54, -op_alloc_56, -op_st_54, -op_st_2, -op_st_3, -op_st_4, -op_st_46]
      rw [show IntKind.i64.wrap ((i : Int) + 1) = ((i + 1 : Nat) : Int) from by rw [IntKind.wrap_i64]; omega]
      have hq12 := rows_quiet hO9 (by decide)
      refine ⟨(hI _ _ _ _).2 ⟨i + 1, bs, fun c => G c ∨ pv.ownBlock = some c, rfl, by omega, (kl.no k9).old k12 fun c hc => .inr (hlowO c hc.symm).1, ?_, ?_, ?_, ?_, ?_⟩, by simp only [nOf_int]; omega⟩
      · refine hR9.frame hE k12 (fun _ h => h.elim) fun b hb he => ?_
        obtain ⟨c1, t1⟩ := rows_ty hR9 b hb
        obtain ⟨c2, t2⟩ := rows_ty hO9 b he.symm
        rw [t1] at t2; cases t2
      · rw [hsnoc]; exact hbl
      · rw [hsnoc]
        intro j b L hb hL
        rw [hcsn]
        exact (((hV j b L hb hL).still k9).quiet hq12 k12).mono (by omega)
      · rw [hsnoc]; exact hO12
      · intro c hc
        rcases hc with hc | hc
        · obtain ⟨cs', h1⟩ := hGt c hc
          refine ⟨cs', k12.get (k9.get h1 fun h => h) fun he => ?_⟩
          obtain ⟨c2, t2⟩ := rows_ty hO9 c he.symm
          have := k9.get h1 fun h => h
          rw [this] at t2; cases t2
        · obtain ⟨h1, cs', h2⟩ := hown c hc
          exact ⟨cs', k12.get h2 fun he => by have := hlowO c he.symm; omega⟩
    | some mm =>
      have hmd : midA lt s L0 = zeroA := by unfold midA; rw [hnw]; rfl
      have han := ansV_new hnw
      rw [hnw] at hsnoc hv
      rw [hmd] at hcell hrow
      simp only [Option.toList_some] at hsnoc
      simp only [Option.getD_some] at hv
      simp [-getElem?_pos, -Array.getElem?_eq_getElem, -Int.natCast_add, -op_lit_46_1, -op_lit_28_1, -op_lit_120_1, -op_alloc_54, -op_alloc_56, -op_st_54, -op_st_2, -op_st_3, -op_st_4, -op_st_46]
      refine ver_len hv ?_
      refine op_store_ok (by kernel_rfl) hcell (by simp) rfl fun w10 k10 z10 b10 => ?_
      have b10 : w10.heap[ab]? = some (.cells #[.int .i64 0, .int .i64 mm.length, .bool false, pv] 56 (0, 0)) := by simpa [zeroA] using b10
      have n10 := k10.size
      have hv10 := hv.quiet (quiet_ans hcell) k10
      have k910 : Frm (fun _ => False) wl w10 := k9.old k10 fun c hc => .inr (by omega)
      have hR10 := hR.still hE k910
      have hO10 := hO.still elA_ok k910
      have hrow10 := hrow.frame k10 fun b hb he => by have := (hown b hb).1; omega
      try simp [-getElem?_pos, -Array.getElem?_eq_getElem, -Int.natCast_add, -op_lit_46_1, -op_lit_28_1, -op_lit_120_1, -op_alloc_54, -op_alloc_56, -op_st_54, -op_st_2, -op_st_3, -op_st_4, -op_st_46]
      refine op_push (u := [ptr b']) (y := b') (G2 := fun _ => False) hE apO (lit_120_1 rfl) rfl (by simp [ptr]) hR10 rfl (fun _ h => h.elim) (fun _ _ h => h) (by omega) (by omega) fun l' w11 k11 hR11 ho11 => ?_
      have n11 := k11.size
      have b11 := k11.get b10 fun he => by have := hlow ab he.symm; omega
      have hqR := rows_quiet hR10 (by decide)
      have hO11 := hO10.frame elA_ok k11 (fun c hc he => by
        obtain ⟨cs', h1⟩ := hGt c hc
        obtain ⟨c2, t2⟩ := rows_ty hR10 c he.symm
        rw [k910.get h1 fun h => h] at t2; cases t2) fun b hb he => by
        obtain ⟨c1, t1⟩ := rows_ty hO10 b hb
        obtain ⟨c2, t2⟩ := rows_ty hR10 b he.symm
        rw [t1] at t2; cases t2
      have hrow11 := hrow10.frame k11 fun b hb he => by have := (hown b hb).1; have := hlow b he.symm; omega
      have hx4 : (#[.int .i64 0, .int .i64 mm.length, .bool false, pv] : Array Value).extract 0 4 = #[.int .i64 0, .int .i64 mm.length, .bool false, pv] := rfl
      simp [-getElem?_pos, -Array.getElem?_eq_getElem, -Int.natCast_add, -op_lit_46_1, -op_lit_28_1, -op_lit_120_1, -op_alloc_54, -op_alloc_56, -op_st_54, -op_st_2, -op_st_3, -op_st_4, -op_st_46, b11, hx4]
      refine op_push (u := [.int .i64 0, .int .i64 mm.length, .bool false, pv]) (y := ansV lt kd s L0) (G2 := fun c => pv.ownBlock = some c) elA_ok apA (lit_ans _ _ _ _) rfl (fun u hu => ?_) hO11 ⟨pv, by rw [han], by rw [han]; exact hrow11, fun _ h => h⟩ (fun c hc => ?_) (fun b hb hc => ?_) (by omega) (by omega) fun o' w12 k12 hO12 ho12 => ?_
      · simp only [List.mem_cons, List.not_mem_nil, or_false] at hu
        rcases hu with rfl | rfl | rfl | rfl
        · rfl
        · rfl
        · rfl
        · exact hrow.one
      · obtain ⟨h1, cs', h2⟩ := hown c hc; have := lt_of_get h2; omega
      · have := (hown b hc).1; have := hlowO b hb; omega
      try simp [-getElem?_pos, -Array.getElem?_eq_getElem, -Int.natCast_add, -op_lit_46_1, -op_lit_28_1, -op_lit_120_1, -op_alloc_54, -op_alloc_56, -op_st_54, -op_st_2, -op_st_3, -op_st_4, -op_st_46]
      rw [show IntKind.i64.wrap ((i : Int) + 1) = ((i + 1 : Nat) : Int) from by rw [IntKind.wrap_i64]; omega]
      have hqO := rows_quiet hO11 (by decide)
      have hlow11 := hR11.own_lt
      have hty11 := rows_ty hR11
      refine ⟨(hI _ _ _ _).2 ⟨i + 1, bs ++ [b'], fun c => G c ∨ pv.ownBlock = some c, rfl, by omega, ((kl.no k910).old k11 fun c hc => .inr (hlow c hc.symm).1).old k12 fun c hc => .inr (hlowO c hc.symm).1, ?_, ?_, ?_, ?_, ?_⟩, by simp only [nOf_int]; omega⟩
      · refine (hR11.frame hE k12 (fun _ h => h.elim (fun h => h.elim) fun h => h.elim) fun b hb he => ?_).mono hE (G' := fun _ => False) (fun _ h => h.elim id fun h => h) (fun _ h => h.elim) fun _ _ h => h
        obtain ⟨c1, t1⟩ := rows_ty hR11 b hb
        obtain ⟨c2, t2⟩ := rows_ty hO11 b he.symm
        rw [t1] at t2; cases t2
      · rw [hsnoc]; simp [hbl]
      · rw [hsnoc]
        intro j b L hb hL
        rw [hcsn]
        by_cases hj : j < bs.length
        · rw [List.getElem?_append_left hj] at hb
          rw [List.getElem?_append_left (by omega)] at hL
          exact ((((hV j b L hb hL).still k910).quiet hqR k11).quiet hqO k12).mono (by omega)
        · rw [List.getElem?_append_right (by omega)] at hb
          rw [List.getElem?_append_right (by omega)] at hL
          have hj0 : j - bs.length = 0 := by
            have := (List.getElem?_eq_some_iff.1 hb).1
            simp at this; omega
          rw [hj0] at hb
          rw [← hbl, hj0] at hL
          simp at hb hL
          subst hb hL
          exact (hv10.quiet hqR k11).quiet hqO k12
      · rw [hsnoc]; exact hO12
      · intro c hc
        rcases hc with hc | hc
        · obtain ⟨cs', h1⟩ := hGt c hc
          have h2 := k910.get h1 fun h => h
          have h3 := k11.get h2 fun he => by
            obtain ⟨c2, t2⟩ := rows_ty hR10 c he.symm
            rw [h2] at t2; cases t2
          refine ⟨cs', k12.get h3 fun he => ?_⟩
          obtain ⟨c2, t2⟩ := rows_ty hO11 c he.symm
          rw [h3] at t2; cases t2
        · obtain ⟨h1, cs', h2⟩ := hown c hc
          have h3 := k10.get h2 (by omega)
          have h4 := k11.get h3 fun he => by have := hlow c he.symm; omega
          exact ⟨cs', k12.get h4 fun he => by have := hlowO c he.symm; omega⟩
end Go.Proofs.YtodjijfblgnfmaaGreatDoor.T
end
section
namespace Go.Proofs.YtodjijfblgnfmaaGreatDoor
open Go.Vc Go.Proofs
theorem catch_panicking (p : Addr) (x : Bool) (u : TypeId) (pv : Value) (older : List PanicEntry) (w : World) (hc : w.cell? p = some (.bool x)) (hz : w.frozen? p = false) :
    CallsD Tryz.prog 63 #[.pointer (some p)] (.panicking ({ v := .iface u pv, recovered := false } :: older)) w fun e u' w' =>
      e = .returned (.tuple #[]) ∧ u' = .panicking ({ v := .iface u pv, recovered := true } :: older) ∧ w' = w.setCell p (.bool true) := by
  refine callsD_of_wpS Tryz.func63 rfl fun c₀ cs hu => ?_
  apply wpS_region
  simp [wpOpsS, go_sem, recoverD, hu, Tryz.ntmps63, Exit.thenS, hc, hz, bodyPostS, results, Tryz.results63]
theorem catch_idle (p : Addr) (x : Bool) (w : World) (hc : w.cell? p = some (.bool x)) (hz : w.frozen? p = false) :
    CallsD Tryz.prog 63 #[.pointer (some p)] .returning w fun e u' w' => e = .returned (.tuple #[]) ∧ u' = .returning ∧ w' = w.setCell p (.bool false) := by
  refine callsD_of_wpS Tryz.func63 rfl fun c₀ cs hu => ?_
  apply wpS_region
  simp [wpOpsS, go_sem, recoverD, hu, Tryz.ntmps63, Exit.thenS, hc, hz, bodyPostS, results, Tryz.results63]
  cases c₀
  simp_all
theorem cell_at {w : World} {b : Nat} {v : Value} (h : w.heap[b]? = some (.cells #[v] 4 (0, 0))) : w.cell? ⟨b, 0, none⟩ = some v := by simp [World.cell?, h]
theorem frozen_at {w : World} {b : Nat} {v : Value} (h : w.heap[b]? = some (.cells #[v] 4 (0, 0))) : w.frozen? ⟨b, 0, none⟩ = false := by simp [World.frozen?, h]
theorem bool_set {w : World} {b : Nat} {v u : Value} (h : w.heap[b]? = some (.cells #[v] 4 (0, 0))) : w.setCell ⟨b, 0, none⟩ u = w.upd b (.cells #[u] 4 (0, 0)) := by
  rw [setCell_upd (p := ⟨b, 0, none⟩) h rfl]; rfl
theorem thrown_ok {f : FuncId} {x y : Array Value} {w : World} {K : KV} {Kp : KP} (hf : callFn Tryz.prog f = true)
    (hcall : Calls Tryz.prog f (x ++ y) (w.alloc (.cells #[.bool false] 4)) (ret (fun _ w' => w'.heap[w.heap.size]? = some (.cells #[.bool false] 4 (0, 0)) ∧ K (.bool false) w')
      (fun ch w' => ∃ u pv, ch = [{ v := .iface u pv, recovered := false }] ∧ w'.heap[w.heap.size]? = some (.cells #[.bool false] 4 (0, 0)) ∧ K (.bool true) (w'.upd w.heap.size (.cells #[.bool true] 4 (0, 0)))))) :
    Calls Tryz.prog 37 #[.func (.func f) x y] w (ret K Kp) := by
  have hmf : ∀ (fn : Fn) (first cap : Array Value) (w : World), (Instr.makeFunc fn first cap).run Tryz.prog w = .ok (.func fn first cap) w := fun _ _ _ _ => rfl
  go_enter_defers Tryz.func37, Tryz.ntmps37
  go_wp2
  rw [callFunc_run hf, Oper.upon_enter]
  refine hcall.mono ?_
  intro e w' he
  cases e with
  | returned v =>
    obtain ⟨hh, hK⟩ := he
    have hc := cell_at hh
    have hz := frozen_at hh
    have hs := fun u => bool_set (u := u) hh
    dsimp only
    go_wp2
    have hid : w'.upd w.heap.size (.cells #[.bool false] 4) = w' := upd_id hh
    rw [hid]
    refine leaves_cons (f := 63) (args := #[.pointer (some ⟨w.heap.size, 0, none⟩)]) (by simp) (by simp [go_sem]) ?_
    refine (catch_idle ⟨w.heap.size, 0, none⟩ false w' hc hz).mono ?_
    rintro e u' w'' ⟨rfl, rfl, rfl⟩
    rw [hs, hid]
    simp [Leaves, settle, results, Tryz.results37, go_sem, hc]
    exact hK
  | panicked ch =>
    obtain ⟨u, pv, rfl, hh, hK⟩ := he
    have hc := cell_at hh
    have hz := frozen_at hh
    have hs := fun u => bool_set (u := u) hh
    have hc2 := cell_at (heap_upd_same (o := .cells #[.bool true] 4 (0, 0)) hh)
    refine leaves_cons (f := 63) (args := #[.pointer (some ⟨w.heap.size, 0, none⟩)]) (by simp) (by simp [go_sem]) ?_
    refine (catch_panicking ⟨w.heap.size, 0, none⟩ false u pv [] w' hc hz).mono ?_
    rintro e u' w'' ⟨rfl, rfl, rfl⟩
    rw [hs]
    simp [Leaves, settle, results, Tryz.results37, go_sem, hc2]
    exact hK
  | outgrown => exact he.elim
end Go.Proofs.YtodjijfblgnfmaaGreatDoor
end
section
namespace Go.Proofs.YtodjijfblgnfmaaGreatDoor
open Go.Vc Go.Proofs Go.Vc.Bt
variable {w w' : World} {K : KV} {Kp : KP} {n : Int} {kn : Nat} {text : Bool}
def orderV (kn : Nat) (n : Int) : Value := .agg #[.int .u8 kn, .int .i64 n]
def ansOf (text : Bool) (kn : Nat) (n : Int) (steps : List SSt) : List SAns := if text then (runS (T.ordI kn n) T.kd steps).2 else (runS (I.ordI kn n) I.kd steps).2
structure Asks (text : Bool) (kn : Nat) (n : Int) (steps : List SSt) (w : World) : Prop where
  texts : ∀ s ∈ steps, s.text.size ≤ 100
  cost : scost steps < 2 ^ 30
  del : (∃ s ∈ steps, s.op = 1 ∨ s.op = 6) → I.DelOk (I.ordI kn n) ∧ T.DelOk (T.ordI kn n)
  get : (∃ s ∈ steps, s.op = 2) → I.GetOk (I.ordI kn n) ∧ T.GetOk (T.ordI kn n)
  back : (∃ s ∈ steps, s.op = 4) → I.BackOk (I.ordI kn n) ∧ T.BackOk (T.ordI kn n)
  many : (∃ s ∈ steps, s.op = 5 ∨ s.op = 6) → text = true → T.ManyOk w
theorem many_still (h : T.ManyOk w) (hf : Frm (fun _ => False) w w') : T.ManyOk w' := fun h1 h2 h3 => h h1 (hf.no h2) h3
theorem closure_ok {a2 : Option Addr} {c2 : Nat} {steps : List SSt} {b0 b1 b2 b3 : Nat} {v3 : Value} (h1 : -9223372036854775808 ≤ n) (h2 : n ≤ 9223372036854775807) (hr : Row w a2 (steps.flatMap SSt.cells)) (ha : Asks text kn n steps w)
    (k0 : w.heap[b0]? = some (.cells #[.bool text] 4 (0, 0))) (k1 : w.heap[b1]? = some (.cells #[.int .u8 kn, .int .i64 n] 31 (0, 0))) (k2 : w.heap[b2]? = some (.cells #[.slice a2 steps.length c2] 32 (0, 0)))
    (k3 : w.heap[b3]? = some (.cells #[v3] 28 (0, 0)))
    (hK : ∀ l w' G, Frm (· = b3) w w' → w'.heap[b3]? = some (.cells #[l] 28 (0, 0)) → RowsOf ElA w' w.heap.size 56 4 l (ansOf text kn n steps) G → K (.tuple #[]) w') :
    Calls Tryz.prog 38 #[.pointer (some ⟨b0, 0, none⟩), .pointer (some ⟨b1, 0, none⟩), .pointer (some ⟨b2, 0, none⟩), .pointer (some ⟨b3, 0, none⟩)] w (ret K Kp) := by
  refine vc38_calls ?_
  delta vc38
  have hx : (#[.int .u8 kn, .int .i64 n] : Array Value).extract 0 2 = #[.int .u8 kn, .int .i64 n] := rfl
  have hfin : ∀ {l : Value} {w9 : World} {G : Nat → Prop}, Frm (fun _ => False) w w9 → RowsOf ElA w9 w.heap.size 56 4 l (ansOf text kn n steps) G →
      nP.op (.store 28 (.pointer (some ⟨b3, 0, none⟩)) l) w9 (fun _ w => K (.tuple #[]) w) Kp := fun {l w9 G} k9 hR => by
    have hl3 := lt_of_get k3
    have hlow := hR.own_lt
    refine op_store_ok (by kernel_rfl) (k9.get k3 fun h => h) (by simp) hR.one fun w10 k10 z10 b10 => ?_
    refine hK l w10 G (k9.fst k10) (by simpa using b10) (hR.frame elA_ok k10 (fun c hc he => by have := (hR.low c hc).1; omega) fun b hb he => by have := (hlow b hb).1; omega)
  cases text with
  | true =>
    simp [-getElem?_pos, -Array.getElem?_eq_getElem, -Int.natCast_add, -op_alloc_28, -op_st_28, k0, k1, k2, hx]
    refine T.keys_ok fun w4 f4 => ?_
    have f4 := Frm.dr f4
    have q1 := f4.get k1 fun h => h
    have q2 := f4.get k2 fun h => h
    simp [-getElem?_pos, -Array.getElem?_eq_getElem, -Int.natCast_add, -op_alloc_28, -op_st_28, q1, q2, hx]
    refine T.comparer_ok h1 h2 fun cv w5 f5 hc => ?_
    have q5 := f5.get q2 fun h => h
    have f45 := f4.no f5
    simp [-getElem?_pos, -Array.getElem?_eq_getElem, -Int.natCast_add, -op_alloc_28, -op_st_28, q5]
    refine T.sortedRun_ok hc T.ordI_lin (hr.frame f45 fun _ _ h => h) ha.texts ha.cost (fun h => (ha.del h).2) (fun h => (ha.get h).2) (fun h => (ha.back h).2) (fun h => many_still (ha.many h rfl) f45) fun l w6 G f6 hR => ?_
    exact hfin (f45.no f6) (hR.base_le f45.size)
  | false =>
    simp [-getElem?_pos, -Array.getElem?_eq_getElem, -Int.natCast_add, -op_alloc_28, -op_st_28, k0, k1, k2, hx]
    refine I.keys_ok fun w4 f4 => ?_
    have f4 := Frm.dr f4
    have q1 := f4.get k1 fun h => h
    have q2 := f4.get k2 fun h => h
    simp [-getElem?_pos, -Array.getElem?_eq_getElem, -Int.natCast_add, -op_alloc_28, -op_st_28, q1, q2, hx]
    refine I.comparer_ok h1 h2 fun cv w5 f5 hc => ?_
    have q5 := f5.get q2 fun h => h
    have f45 := f4.no f5
    simp [-getElem?_pos, -Array.getElem?_eq_getElem, -Int.natCast_add, -op_alloc_28, -op_st_28, q5]
    refine I.sortedRun_ok hc I.ordI_lin (hr.frame f45 fun _ _ h => h) ha.texts ha.cost (fun h => (ha.del h).1) (fun h => (ha.get h).1) (fun h => (ha.back h).1) (fun h => I.many_ok _) fun l w6 G f6 hR => ?_
    exact hfin (f45.no f6) (hR.base_le f45.size)
theorem sorted_ok {a2 : Option Addr} {c2 : Nat} {steps : List SSt} (h1 : -9223372036854775808 ≤ n) (h2 : n ≤ 9223372036854775807) (hr : Row w a2 (steps.flatMap SSt.cells)) (ha : Asks text kn n steps w)
    (hK : ∀ l w' G, Frm (fun _ => False) w w' → RowsOf ElA w' w.heap.size 56 4 l (ansOf text kn n steps) G → K (.tuple #[l, .bool true]) w') :
    Calls Tryz.prog 15 #[.bool text, orderV kn n, .slice a2 steps.length c2] w (ret K Kp) := by
  refine vc15_calls ?_
  delta vc15 orderV
  refine op_box_ok fun w1 k1 z1 b1 => op_box_ok fun w2 k2 z2 b2 => op_box_ok fun w3 k3 z3 b3 => ?_
  rw [cells_of_one (by rfl)] at b1 b3
  simp only [cells_agg] at b2
  refine op_alloc_ok (z := .slice none 0 0) (by kernel_rfl) fun w4 k4 z4 b4 => ?_
  rw [cells_of_one (by rfl)] at b4
  have c1 := k4.get (k3.get (k2.get b1 fun h => h) fun h => h) fun h => h
  have c2' := k4.get (k3.get b2 fun h => h) fun h => h
  have c3 := k4.get b3 fun h => h
  have k04 := ((k1.no k2).no k3).no k4
  simp [-getElem?_pos, -Array.getElem?_eq_getElem, -Int.natCast_add, -op_alloc_28, -op_st_28]
  have k5 : Frm (fun _ => False) w4 (w4.alloc (.cells #[.bool false] 4)) := Frm.alloc _ _
  refine thrown_ok (x := #[]) (by kernel_rfl) ?_
  have k05 := k04.no k5
  rw [show (#[] ++ #[Value.pointer (some ⟨w.heap.size, 0, none⟩), .pointer (some ⟨w1.heap.size, 0, none⟩), .pointer (some ⟨w2.heap.size, 0, none⟩), .pointer (some ⟨w3.heap.size, 0, none⟩)] : Array Value) = #[.pointer (some ⟨w.heap.size, 0, none⟩), .pointer (some ⟨w1.heap.size, 0, none⟩), .pointer (some ⟨w2.heap.size, 0, none⟩), .pointer (some ⟨w3.heap.size, 0, none⟩)] from rfl]
  refine closure_ok (text := text) (kn := kn) (n := n) (steps := steps) h1 h2 (hr.frame k05 fun _ _ h => h) ⟨ha.texts, ha.cost, ha.del, ha.get, ha.back, fun h1 h2 => many_still (ha.many h1 h2) k05⟩ (k5.get c1 fun h => h) (k5.get c2' fun h => h) (k5.get c3 fun h => h) (k5.get b4 fun h => h) fun l w6 G k6 b6 hR => ?_
  have n1 := k1.size
  have n2 := k2.size
  have n3 := k3.size
  have n4 := k4.size
  have hlow := hR.own_lt
  have hsz : (w4.alloc (.cells #[.bool false] 4)).heap.size = w4.heap.size + 1 := by simp
  refine ⟨k6.get hp_alloc_new (by omega), ?_⟩
  simp [-getElem?_pos, -Array.getElem?_eq_getElem, -Int.natCast_add, -op_alloc_28, -op_st_28, b6]
  refine op_store_ok (by kernel_rfl) b6 (by simp) hR.one fun w7 k7 z7 b7 => ?_
  have b7 : w7.heap[w3.heap.size]? = some (.cells #[l] 28 (0, 0)) := by simpa using b7
  have := hK l w7 G ((k05.old k6 fun c hc => .inr (by omega)).old k7 fun c hc => .inr (by omega)) ((hR.frame elA_ok k7 (fun c hc he => by have := (hR.low c hc).1; omega) fun b hb he => by have := (hlow b hb).1; omega).base_le (by omega))
  simp [-getElem?_pos, -Array.getElem?_eq_getElem, -Int.natCast_add, -op_alloc_28, -op_st_28, b7]
  exact this
end Go.Proofs.YtodjijfblgnfmaaGreatDoor
end
section
namespace Go.Proofs.YtodjijfblgnfmaaGreatDoor
open Go.Vc Go.Proofs
variable {w : World} {K : KV} {Kp : KP} {K1 : Value → Prop}
@[simp] theorem op_fa_23_0 {p : Addr} : nP.op (.fieldAddr 23 (.pointer (some p)) 0) w K Kp = K (.pointer (some (p.add 0))) w := op_fa (k := .one) (by kernel_rfl)
@[simp] theorem pur_fa_23_0 {p : Addr} : nP.pur (.fieldAddr 23 (.pointer (some p)) 0) K1 = K1 (.pointer (some (p.add 0))) := pur_fa (k := .one) (by kernel_rfl)
@[simp] theorem op_fa_23_1 {p : Addr} : nP.op (.fieldAddr 23 (.pointer (some p)) 1) w K Kp = K (.pointer (some (p.add 1))) w := op_fa (k := .one) (by kernel_rfl)
@[simp] theorem pur_fa_23_1 {p : Addr} : nP.pur (.fieldAddr 23 (.pointer (some p)) 1) K1 = K1 (.pointer (some (p.add 1))) := pur_fa (k := .one) (by kernel_rfl)
@[simp] theorem op_ld_23 {p : Addr} : nP.op (.load 23 (.pointer (some p))) w K Kp = ∃ cs e fz, w.heap[p.block]? = some (.cells cs e fz) ∧ p.spot = none ∧ p.off + 2 ≤ cs.size ∧ K (.agg (cs.extract p.off (p.off + 2))) w := op_ldn (by kernel_rfl)
@[simp] theorem ld_ld_23 {p : Addr} : nP.ld (.load 23 (.pointer (some p))) w K1 = ∃ cs e fz, w.heap[p.block]? = some (.cells cs e fz) ∧ p.spot = none ∧ p.off + 2 ≤ cs.size ∧ K1 (.agg (cs.extract p.off (p.off + 2))) := ld_ldn (by kernel_rfl)
@[simp] theorem same_ld_23 {p : Addr} {v : Value} : nP.same (.load 23 (.pointer (some p))) v w = ∃ cs e fz, w.heap[p.block]? = some (.cells cs e fz) ∧ p.spot = none ∧ p.off + 2 ≤ cs.size ∧ .agg (cs.extract p.off (p.off + 2)) = v := same_ldn (by kernel_rfl)
@[simp] theorem call_29 {args : List Value} : nP.call (.fn 29) args w K Kp = Calls Tryz.prog 29 args.toArray w (ret K Kp) := call_fn (by kernel_rfl)
@[simp] theorem op_len_38 {a : Option Addr} {n c ty : Nat} : nP.op (.blt .len [38] ty [.slice a n c]) w K Kp = K (.int .i64 n) w := op_len_slice (by kernel_rfl)
@[simp] theorem pur_len_38 {a : Option Addr} {n c ty : Nat} : nP.pur (.blt .len [38] ty [.slice a n c]) K1 = K1 (.int .i64 n) := pur_len_slice (by kernel_rfl)
@[simp] theorem ld_len_38 {a : Option Addr} {n c ty : Nat} : nP.ld (.blt .len [38] ty [.slice a n c]) w K1 = K1 (.int .i64 n) := ld_len_slice (by kernel_rfl)
@[simp] theorem same_len_38 {a : Option Addr} {n c ty : Nat} {u : Value} : nP.same (.blt .len [38] ty [.slice a n c]) u w = (.int .i64 n = u) := same_len_slice (by kernel_rfl)
@[simp] theorem op_ix_38 {p : Addr} {len cap : Nat} {k : IntKind} {j : Int} : nP.op (.indexAddr 38 (.slice (some p) len cap) (.int k j)) w K Kp = ((0 ≤ j ∧ j < (len : Int)) ∧ K (.pointer (some (p.add (j.toNat * 3)))) w) := op_ix_slice (e := 45) (by kernel_rfl)
@[simp] theorem pur_ix_38 {p : Addr} {len cap : Nat} {k : IntKind} {j : Int} : nP.pur (.indexAddr 38 (.slice (some p) len cap) (.int k j)) K1 = ((0 ≤ j ∧ j < (len : Int)) ∧ K1 (.pointer (some (p.add (j.toNat * 3))))) := pur_ix_slice (e := 45) (by kernel_rfl)
@[simp] theorem op_ld_45 {p : Addr} : nP.op (.load 45 (.pointer (some p))) w K Kp = ∃ cs e fz, w.heap[p.block]? = some (.cells cs e fz) ∧ p.spot = none ∧ p.off + 3 ≤ cs.size ∧ K (.agg (cs.extract p.off (p.off + 3))) w := op_ldn (by kernel_rfl)
@[simp] theorem ld_ld_45 {p : Addr} : nP.ld (.load 45 (.pointer (some p))) w K1 = ∃ cs e fz, w.heap[p.block]? = some (.cells cs e fz) ∧ p.spot = none ∧ p.off + 3 ≤ cs.size ∧ K1 (.agg (cs.extract p.off (p.off + 3))) := ld_ldn (by kernel_rfl)
@[simp] theorem same_ld_45 {p : Addr} {v : Value} : nP.same (.load 45 (.pointer (some p))) v w = ∃ cs e fz, w.heap[p.block]? = some (.cells cs e fz) ∧ p.spot = none ∧ p.off + 3 ≤ cs.size ∧ .agg (cs.extract p.off (p.off + 3)) = v := same_ldn (by kernel_rfl)
@[simp] theorem op_st_45 {p : Addr} {vs : Array Value} : nP.op (.store 45 (.pointer (some p)) (.agg vs)) w K Kp = (vs.size = 3 ∧ (∀ u ∈ vs.toList, u.oneCell' = true) ∧ ∃ cs e, w.heap[p.block]? = some (.cells cs e (0, 0)) ∧ p.spot = none ∧ p.off + 3 ≤ cs.size ∧ K undef (w.upd p.block (.cells (ow cs p.off vs.toList) e (0, 0)))) := op_stn (by kernel_rfl)
@[simp] theorem op_alloc_45 : nP.op (.alloc 45) w K Kp = K (.pointer (some ⟨w.heap.size, 0, none⟩)) (w.alloc (.cells #[Value.int IntKind.i64 0, Value.string ByteArray.empty, Value.int IntKind.i64 0] 45)) := op_alloc (z := (.agg #[(Value.int IntKind.i64 0), (Value.string ByteArray.empty), (Value.int IntKind.i64 0)])) (by kernel_rfl)
@[simp] theorem op_fa_45_1 {p : Addr} : nP.op (.fieldAddr 45 (.pointer (some p)) 1) w K Kp = K (.pointer (some (p.add 1))) w := op_fa (k := .one) (by kernel_rfl)
@[simp] theorem pur_fa_45_1 {p : Addr} : nP.pur (.fieldAddr 45 (.pointer (some p)) 1) K1 = K1 (.pointer (some (p.add 1))) := pur_fa (k := .one) (by kernel_rfl)
@[simp] theorem call_24 {args : List Value} : nP.call (.fn 24) args w K Kp = Calls Tryz.prog 24 args.toArray w (ret K Kp) := call_fn (by kernel_rfl)
@[simp] theorem op_fa_45_0 {p : Addr} : nP.op (.fieldAddr 45 (.pointer (some p)) 0) w K Kp = K (.pointer (some (p.add 0))) w := op_fa (k := .one) (by kernel_rfl)
@[simp] theorem pur_fa_45_0 {p : Addr} : nP.pur (.fieldAddr 45 (.pointer (some p)) 0) K1 = K1 (.pointer (some (p.add 0))) := pur_fa (k := .one) (by kernel_rfl)
@[simp] theorem op_fa_45_2 {p : Addr} : nP.op (.fieldAddr 45 (.pointer (some p)) 2) w K Kp = K (.pointer (some (p.add 2))) w := op_fa (k := .one) (by kernel_rfl)
@[simp] theorem pur_fa_45_2 {p : Addr} : nP.pur (.fieldAddr 45 (.pointer (some p)) 2) K1 = K1 (.pointer (some (p.add 2))) := pur_fa (k := .one) (by kernel_rfl)
theorem build_54_0_1_2_3_4 {x0 : Value} {x1 : Value} {x2 : Value} {x3 : Value} {x4 : Value} (h0 : x0.oneCell' = true) (h1 : x1.oneCell' = true) (h2 : x2.oneCell' = true) (h3 : x3.oneCell' = true) (h4 : x4.oneCell' = true) : buildV Tryz.prog 54 [(0, x0), (1, x1), (2, x2), (3, x3), (4, x4)] = some (.agg (#[x0, x1, x2, x3, x4, Value.int IntKind.i64 0, Value.int IntKind.i64 0])) := by
  have e : buildV Tryz.prog 54 [(0, x0), (1, x1), (2, x2), (3, x3), (4, x4)] = (Instr.fill ((#[(0, 1), (1, 1), (2, 1), (3, 1), (4, 1), (5, 1), (6, 1)] : Array (Nat × Nat))[·]?) (#[Value.int IntKind.u8 0, Value.int IntKind.i64 0, Value.int IntKind.i64 0, Value.string ByteArray.empty, Value.int IntKind.i64 0, Value.int IntKind.i64 0, Value.int IntKind.i64 0]) [(0, x0), (1, x1), (2, x2), (3, x3), (4, x4)]).map .agg := by kernel_rfl
  rw [e]; simp [Instr.fill, cells_of_one h0, cells_of_one h1, cells_of_one h2, cells_of_one h3, cells_of_one h4]
@[simp] theorem op_build_54_0_1_2_3_4 {x0 : Value} {x1 : Value} {x2 : Value} {x3 : Value} {x4 : Value} (h0 : x0.oneCell' = true) (h1 : x1.oneCell' = true) (h2 : x2.oneCell' = true) (h3 : x3.oneCell' = true) (h4 : x4.oneCell' = true) : nP.op (.build 54 [(0, x0), (1, x1), (2, x2), (3, x3), (4, x4)]) w K Kp = K (.agg (#[x0, x1, x2, x3, x4, Value.int IntKind.i64 0, Value.int IntKind.i64 0])) w := op_build (build_54_0_1_2_3_4 h0 h1 h2 h3 h4)
@[simp] theorem pur_build_54_0_1_2_3_4 {x0 : Value} {x1 : Value} {x2 : Value} {x3 : Value} {x4 : Value} (h0 : x0.oneCell' = true) (h1 : x1.oneCell' = true) (h2 : x2.oneCell' = true) (h3 : x3.oneCell' = true) (h4 : x4.oneCell' = true) : nP.pur (.build 54 [(0, x0), (1, x1), (2, x2), (3, x3), (4, x4)]) K1 = K1 (.agg (#[x0, x1, x2, x3, x4, Value.int IntKind.i64 0, Value.int IntKind.i64 0])) := pur_build (build_54_0_1_2_3_4 h0 h1 h2 h3 h4)
theorem lit_32_1 {y0_0 y0_1 y0_2 y0_3 y0_4 y0_5 y0_6 : Value} : sliceLit Tryz.prog 32 1 [(0, .agg #[y0_0, y0_1, y0_2, y0_3, y0_4, y0_5, y0_6])] = some (54, #[y0_0, y0_1, y0_2, y0_3, y0_4, y0_5, y0_6]) := by
  have e : sliceLit Tryz.prog 32 1 [(0, .agg #[y0_0, y0_1, y0_2, y0_3, y0_4, y0_5, y0_6])] = (Instr.fill (fun i => some (i * 7, 7)) (#[Value.int IntKind.u8 0, Value.int IntKind.i64 0, Value.int IntKind.i64 0, Value.string ByteArray.empty, Value.int IntKind.i64 0, Value.int IntKind.i64 0, Value.int IntKind.i64 0]) [(0, .agg #[y0_0, y0_1, y0_2, y0_3, y0_4, y0_5, y0_6])]).map fun cs => (54, cs) := by kernel_rfl
  rw [e]; simp [Instr.fill, Value.cells]
@[simp] theorem op_lit_32_1 {y0_0 y0_1 y0_2 y0_3 y0_4 y0_5 y0_6 : Value} : nP.op (.buildSlice 32 1 [(0, .agg #[y0_0, y0_1, y0_2, y0_3, y0_4, y0_5, y0_6])]) w K Kp = K (.slice (some ⟨w.heap.size, 0, none⟩) 1 1) (w.alloc (.cells #[y0_0, y0_1, y0_2, y0_3, y0_4, y0_5, y0_6] 54)) := op_lit (lit_32_1)
@[simp] theorem op_len_46 {a : Option Addr} {n c ty : Nat} : nP.op (.blt .len [46] ty [.slice a n c]) w K Kp = K (.int .i64 n) w := op_len_slice (by kernel_rfl)
@[simp] theorem pur_len_46 {a : Option Addr} {n c ty : Nat} : nP.pur (.blt .len [46] ty [.slice a n c]) K1 = K1 (.int .i64 n) := pur_len_slice (by kernel_rfl)
@[simp] theorem ld_len_46 {a : Option Addr} {n c ty : Nat} : nP.ld (.blt .len [46] ty [.slice a n c]) w K1 = K1 (.int .i64 n) := ld_len_slice (by kernel_rfl)
@[simp] theorem same_len_46 {a : Option Addr} {n c ty : Nat} {u : Value} : nP.same (.blt .len [46] ty [.slice a n c]) u w = (.int .i64 n = u) := same_len_slice (by kernel_rfl)
@[simp] theorem op_ix_46 {p : Addr} {len cap : Nat} {k : IntKind} {j : Int} : nP.op (.indexAddr 46 (.slice (some p) len cap) (.int k j)) w K Kp = ((0 ≤ j ∧ j < (len : Int)) ∧ K (.pointer (some (p.add (j.toNat * 3)))) w) := op_ix_slice (e := 49) (by kernel_rfl)
@[simp] theorem pur_ix_46 {p : Addr} {len cap : Nat} {k : IntKind} {j : Int} : nP.pur (.indexAddr 46 (.slice (some p) len cap) (.int k j)) K1 = ((0 ≤ j ∧ j < (len : Int)) ∧ K1 (.pointer (some (p.add (j.toNat * 3))))) := pur_ix_slice (e := 49) (by kernel_rfl)
theorem build_23_  : buildV Tryz.prog 23 [] = some (.agg (#[Value.int IntKind.u8 0, Value.int IntKind.i64 0])) := by
  have e : buildV Tryz.prog 23 [] = (Instr.fill ((#[(0, 1), (1, 1)] : Array (Nat × Nat))[·]?) (#[Value.int IntKind.u8 0, Value.int IntKind.i64 0]) []).map .agg := by kernel_rfl
  rw [e]; simp [Instr.fill]
@[simp] theorem op_build_23_  : nP.op (.build 23 []) w K Kp = K (.agg (#[Value.int IntKind.u8 0, Value.int IntKind.i64 0])) w := op_build (build_23_)
@[simp] theorem pur_build_23_  : nP.pur (.build 23 []) K1 = K1 (.agg (#[Value.int IntKind.u8 0, Value.int IntKind.i64 0])) := pur_build (build_23_)
theorem build_45_0_2 {x0 : Value} {x2 : Value} (h0 : x0.oneCell' = true) (h2 : x2.oneCell' = true) : buildV Tryz.prog 45 [(0, x0), (2, x2)] = some (.agg (#[x0, Value.string ByteArray.empty, x2])) := by
  have e : buildV Tryz.prog 45 [(0, x0), (2, x2)] = (Instr.fill ((#[(0, 1), (1, 1), (2, 1)] : Array (Nat × Nat))[·]?) (#[Value.int IntKind.i64 0, Value.string ByteArray.empty, Value.int IntKind.i64 0]) [(0, x0), (2, x2)]).map .agg := by kernel_rfl
  rw [e]; simp [Instr.fill, cells_of_one h0, cells_of_one h2]
@[simp] theorem op_build_45_0_2 {x0 : Value} {x2 : Value} (h0 : x0.oneCell' = true) (h2 : x2.oneCell' = true) : nP.op (.build 45 [(0, x0), (2, x2)]) w K Kp = K (.agg (#[x0, Value.string ByteArray.empty, x2])) w := op_build (build_45_0_2 h0 h2)
@[simp] theorem pur_build_45_0_2 {x0 : Value} {x2 : Value} (h0 : x0.oneCell' = true) (h2 : x2.oneCell' = true) : nP.pur (.build 45 [(0, x0), (2, x2)]) K1 = K1 (.agg (#[x0, Value.string ByteArray.empty, x2])) := pur_build (build_45_0_2 h0 h2)
theorem lit_38_2 {y0_0 y0_1 y0_2 y1_0 y1_1 y1_2 : Value} : sliceLit Tryz.prog 38 2 [(0, .agg #[y0_0, y0_1, y0_2]), (1, .agg #[y1_0, y1_1, y1_2])] = some (45, #[y0_0, y0_1, y0_2, y1_0, y1_1, y1_2]) := by
  have e : sliceLit Tryz.prog 38 2 [(0, .agg #[y0_0, y0_1, y0_2]), (1, .agg #[y1_0, y1_1, y1_2])] = (Instr.fill (fun i => some (i * 3, 3)) (#[Value.int IntKind.i64 0, Value.string ByteArray.empty, Value.int IntKind.i64 0, Value.int IntKind.i64 0, Value.string ByteArray.empty, Value.int IntKind.i64 0]) [(0, .agg #[y0_0, y0_1, y0_2]), (1, .agg #[y1_0, y1_1, y1_2])]).map fun cs => (45, cs) := by kernel_rfl
  rw [e]; simp [Instr.fill, Value.cells]
@[simp] theorem op_lit_38_2 {y0_0 y0_1 y0_2 y1_0 y1_1 y1_2 : Value} : nP.op (.buildSlice 38 2 [(0, .agg #[y0_0, y0_1, y0_2]), (1, .agg #[y1_0, y1_1, y1_2])]) w K Kp = K (.slice (some ⟨w.heap.size, 0, none⟩) 2 2) (w.alloc (.cells #[y0_0, y0_1, y0_2, y1_0, y1_1, y1_2] 45)) := op_lit (lit_38_2)
@[simp] theorem call_22 {args : List Value} : nP.call (.fn 22) args w K Kp = Calls Tryz.prog 22 args.toArray w (ret K Kp) := call_fn (by kernel_rfl)
@[simp] theorem call_32 {args : List Value} : nP.call (.fn 32) args w K Kp = Calls Tryz.prog 32 args.toArray w (ret K Kp) := call_fn (by kernel_rfl)
theorem build_54_0 {x0 : Value} (h0 : x0.oneCell' = true) : buildV Tryz.prog 54 [(0, x0)] = some (.agg (#[x0, Value.int IntKind.i64 0, Value.int IntKind.i64 0, Value.string ByteArray.empty, Value.int IntKind.i64 0, Value.int IntKind.i64 0, Value.int IntKind.i64 0])) := by
  have e : buildV Tryz.prog 54 [(0, x0)] = (Instr.fill ((#[(0, 1), (1, 1), (2, 1), (3, 1), (4, 1), (5, 1), (6, 1)] : Array (Nat × Nat))[·]?) (#[Value.int IntKind.u8 0, Value.int IntKind.i64 0, Value.int IntKind.i64 0, Value.string ByteArray.empty, Value.int IntKind.i64 0, Value.int IntKind.i64 0, Value.int IntKind.i64 0]) [(0, x0)]).map .agg := by kernel_rfl
  rw [e]; simp [Instr.fill, cells_of_one h0]
@[simp] theorem op_build_54_0 {x0 : Value} (h0 : x0.oneCell' = true) : nP.op (.build 54 [(0, x0)]) w K Kp = K (.agg (#[x0, Value.int IntKind.i64 0, Value.int IntKind.i64 0, Value.string ByteArray.empty, Value.int IntKind.i64 0, Value.int IntKind.i64 0, Value.int IntKind.i64 0])) w := op_build (build_54_0 h0)
@[simp] theorem pur_build_54_0 {x0 : Value} (h0 : x0.oneCell' = true) : nP.pur (.build 54 [(0, x0)]) K1 = K1 (.agg (#[x0, Value.int IntKind.i64 0, Value.int IntKind.i64 0, Value.string ByteArray.empty, Value.int IntKind.i64 0, Value.int IntKind.i64 0, Value.int IntKind.i64 0])) := pur_build (build_54_0 h0)
@[simp] theorem call_23 {args : List Value} : nP.call (.fn 23) args w K Kp = Calls Tryz.prog 23 args.toArray w (ret K Kp) := call_fn (by kernel_rfl)
@[simp] theorem call_15 {args : List Value} : nP.call (.fn 15) args w K Kp = Calls Tryz.prog 15 args.toArray w (ret K Kp) := call_fn (by kernel_rfl)
@[simp] theorem op_len_28 {a : Option Addr} {n c ty : Nat} : nP.op (.blt .len [28] ty [.slice a n c]) w K Kp = K (.int .i64 n) w := op_len_slice (by kernel_rfl)
@[simp] theorem pur_len_28 {a : Option Addr} {n c ty : Nat} : nP.pur (.blt .len [28] ty [.slice a n c]) K1 = K1 (.int .i64 n) := pur_len_slice (by kernel_rfl)
@[simp] theorem ld_len_28 {a : Option Addr} {n c ty : Nat} : nP.ld (.blt .len [28] ty [.slice a n c]) w K1 = K1 (.int .i64 n) := ld_len_slice (by kernel_rfl)
@[simp] theorem same_len_28 {a : Option Addr} {n c ty : Nat} {u : Value} : nP.same (.blt .len [28] ty [.slice a n c]) u w = (.int .i64 n = u) := same_len_slice (by kernel_rfl)
@[simp] theorem op_ix_28 {p : Addr} {len cap : Nat} {k : IntKind} {j : Int} : nP.op (.indexAddr 28 (.slice (some p) len cap) (.int k j)) w K Kp = ((0 ≤ j ∧ j < (len : Int)) ∧ K (.pointer (some (p.add (j.toNat * 4)))) w) := op_ix_slice (e := 56) (by kernel_rfl)
@[simp] theorem pur_ix_28 {p : Addr} {len cap : Nat} {k : IntKind} {j : Int} : nP.pur (.indexAddr 28 (.slice (some p) len cap) (.int k j)) K1 = ((0 ≤ j ∧ j < (len : Int)) ∧ K1 (.pointer (some (p.add (j.toNat * 4))))) := pur_ix_slice (e := 56) (by kernel_rfl)
@[simp] theorem call_19 {args : List Value} : nP.call (.fn 19) args w K Kp = Calls Tryz.prog 19 args.toArray w (ret K Kp) := call_fn (by kernel_rfl)
@[simp] theorem call_20 {args : List Value} : nP.call (.fn 20) args w K Kp = Calls Tryz.prog 20 args.toArray w (ret K Kp) := call_fn (by kernel_rfl)
@[simp] theorem call_14 {args : List Value} : nP.call (.fn 14) args w K Kp = Calls Tryz.prog 14 args.toArray w (ret K Kp) := call_fn (by kernel_rfl)
theorem build_23_0 {x0 : Value} (h0 : x0.oneCell' = true) : buildV Tryz.prog 23 [(0, x0)] = some (.agg (#[x0, Value.int IntKind.i64 0])) := by
  have e : buildV Tryz.prog 23 [(0, x0)] = (Instr.fill ((#[(0, 1), (1, 1)] : Array (Nat × Nat))[·]?) (#[Value.int IntKind.u8 0, Value.int IntKind.i64 0]) [(0, x0)]).map .agg := by kernel_rfl
  rw [e]; simp [Instr.fill, cells_of_one h0]
@[simp] theorem op_build_23_0 {x0 : Value} (h0 : x0.oneCell' = true) : nP.op (.build 23 [(0, x0)]) w K Kp = K (.agg (#[x0, Value.int IntKind.i64 0])) w := op_build (build_23_0 h0)
@[simp] theorem pur_build_23_0 {x0 : Value} (h0 : x0.oneCell' = true) : nP.pur (.build 23 [(0, x0)]) K1 = K1 (.agg (#[x0, Value.int IntKind.i64 0])) := pur_build (build_23_0 h0)
theorem lit_32_10 {y0_0 y0_1 y0_2 y0_3 y0_4 y0_5 y0_6 y1_0 y1_1 y1_2 y1_3 y1_4 y1_5 y1_6 y2_0 y2_1 y2_2 y2_3 y2_4 y2_5 y2_6 y3_0 y3_1 y3_2 y3_3 y3_4 y3_5 y3_6 y4_0 y4_1 y4_2 y4_3 y4_4 y4_5 y4_6 y5_0 y5_1 y5_2 y5_3 y5_4 y5_5 y5_6 y6_0 y6_1 y6_2 y6_3 y6_4 y6_5 y6_6 y7_0 y7_1 y7_2 y7_3 y7_4 y7_5 y7_6 y8_0 y8_1 y8_2 y8_3 y8_4 y8_5 y8_6 y9_0 y9_1 y9_2 y9_3 y9_4 y9_5 y9_6 : Value} : sliceLit Tryz.prog 32 10 [(0, .agg #[y0_0, y0_1, y0_2, y0_3, y0_4, y0_5, y0_6]), (1, .agg #[y1_0, y1_1, y1_2, y1_3, y1_4, y1_5, y1_6]), (2, .agg #[y2_0, y2_1, y2_2, y2_3, y2_4, y2_5, y2_6]), (3, .agg #[y3_0, y3_1, y3_2, y3_3, y3_4, y3_5, y3_6]), (4, .agg #[y4_0, y4_1, y4_2, y4_3, y4_4, y4_5, y4_6]), (5, .agg #[y5_0, y5_1, y5_2, y5_3, y5_4, y5_5, y5_6]), (6, .agg #[y6_0, y6_1, y6_2, y6_3, y6_4, y6_5, y6_6]), (7, .agg #[y7_0, y7_1, y7_2, y7_3, y7_4, y7_5, y7_6]), (8, .agg #[y8_0, y8_1, y8_2, y8_3, y8_4, y8_5, y8_6]), (9, .agg #[y9_0, y9_1, y9_2, y9_3, y9_4, y9_5, y9_6])] = some (54, #[y0_0, y0_1, y0_2, y0_3, y0_4, y0_5, y0_6, y1_0, y1_1, y1_2, y1_3, y1_4, y1_5, y1_6, y2_0, y2_1, y2_2, y2_3, y2_4, y2_5, y2_6, y3_0, y3_1, y3_2, y3_3, y3_4, y3_5, y3_6, y4_0, y4_1, y4_2, y4_3, y4_4, y4_5, y4_6, y5_0, y5_1, y5_2, y5_3, y5_4, y5_5, y5_6, y6_0, y6_1, y6_2, y6_3, y6_4, y6_5, y6_6, y7_0, y7_1, y7_2, y7_3, y7_4, y7_5, y7_6, y8_0, y8_1, y8_2, y8_3, y8_4, y8_5, y8_6, y9_0, y9_1, y9_2, y9_3, y9_4, y9_5, y9_6]) := by
  have e : sliceLit Tryz.prog 32 10 [(0, .agg #[y0_0, y0_1, y0_2, y0_3, y0_4, y0_5, y0_6]), (1, .agg #[y1_0, y1_1, y1_2, y1_3, y1_4, y1_5, y1_6]), (2, .agg #[y2_0, y2_1, y2_2, y2_3, y2_4, y2_5, y2_6]), (3, .agg #[y3_0, y3_1, y3_2, y3_3, y3_4, y3_5, y3_6]), (4, .agg #[y4_0, y4_1, y4_2, y4_3, y4_4, y4_5, y4_6]), (5, .agg #[y5_0, y5_1, y5_2, y5_3, y5_4, y5_5, y5_6]), (6, .agg #[y6_0, y6_1, y6_2, y6_3, y6_4, y6_5, y6_6]), (7, .agg #[y7_0, y7_1, y7_2, y7_3, y7_4, y7_5, y7_6]), (8, .agg #[y8_0, y8_1, y8_2, y8_3, y8_4, y8_5, y8_6]), (9, .agg #[y9_0, y9_1, y9_2, y9_3, y9_4, y9_5, y9_6])] = (Instr.fill (fun i => some (i * 7, 7)) (#[Value.int IntKind.u8 0, Value.int IntKind.i64 0, Value.int IntKind.i64 0, Value.string ByteArray.empty, Value.int IntKind.i64 0, Value.int IntKind.i64 0, Value.int IntKind.i64 0, Value.int IntKind.u8 0, Value.int IntKind.i64 0, Value.int IntKind.i64 0, Value.string ByteArray.empty, Value.int IntKind.i64 0, Value.int IntKind.i64 0, Value.int IntKind.i64 0, Value.int IntKind.u8 0, Value.int IntKind.i64 0, Value.int IntKind.i64 0, Value.string ByteArray.empty, Value.int IntKind.i64 0, Value.int IntKind.i64 0, Value.int IntKind.i64 0, Value.int IntKind.u8 0, Value.int IntKind.i64 0, Value.int IntKind.i64 0, Value.string ByteArray.empty, Value.int IntKind.i64 0, Value.int IntKind.i64 0, Value.int IntKind.i64 0, Value.int IntKind.u8 0, Value.int IntKind.i64 0, Value.int IntKind.i64 0, Value.string ByteArray.empty, Value.int IntKind.i64 0, Value.int IntKind.i64 0, Value.int IntKind.i64 0, Value.int IntKind.u8 0, Value.int IntKind.i64 0, Value.int IntKind.i64 0, Value.string ByteArray.empty, Value.int IntKind.i64 0, Value.int IntKind.i64 0, Value.int IntKind.i64 0, Value.int IntKind.u8 0, Value.int IntKind.i64 0, Value.int IntKind.i64 0, Value.string ByteArray.empty, Value.int IntKind.i64 0, Value.int IntKind.i64 0, Value.int IntKind.i64 0, Value.int IntKind.u8 0, Value.int IntKind.i64 0, Value.int IntKind.i64 0, Value.string ByteArray.empty, Value.int IntKind.i64 0, Value.int IntKind.i64 0, Value.int IntKind.i64 0, Value.int IntKind.u8 0, Value.int IntKind.i64 0, Value.int IntKind.i64 0, Value.string ByteArray.empty, Value.int IntKind.i64 0, Value.int IntKind.i64 0, Value.int IntKind.i64 0, Value.int IntKind.u8 0, Value.int IntKind.i64 0, Value.int IntKind.i64 0, Value.string ByteArray.empty, Value.int IntKind.i64 0, Value.int IntKind.i64 0, Value.int IntKind.i64 0]) [(0, .agg #[y0_0, y0_1, y0_2, y0_3, y0_4, y0_5, y0_6]), (1, .agg #[y1_0, y1_1, y1_2, y1_3, y1_4, y1_5, y1_6]), (2, .agg #[y2_0, y2_1, y2_2, y2_3, y2_4, y2_5, y2_6]), (3, .agg #[y3_0, y3_1, y3_2, y3_3, y3_4, y3_5, y3_6]), (4, .agg #[y4_0, y4_1, y4_2, y4_3, y4_4, y4_5, y4_6]), (5, .agg #[y5_0, y5_1, y5_2, y5_3, y5_4, y5_5, y5_6]), (6, .agg #[y6_0, y6_1, y6_2, y6_3, y6_4, y6_5, y6_6]), (7, .agg #[y7_0, y7_1, y7_2, y7_3, y7_4, y7_5, y7_6]), (8, .agg #[y8_0, y8_1, y8_2, y8_3, y8_4, y8_5, y8_6]), (9, .agg #[y9_0, y9_1, y9_2, y9_3, y9_4, y9_5, y9_6])]).map fun cs => (54, cs) := by kernel_rfl
  rw [e]; simp [Instr.fill, Value.cells]
@[simp] theorem op_lit_32_10 {y0_0 y0_1 y0_2 y0_3 y0_4 y0_5 y0_6 y1_0 y1_1 y1_2 y1_3 y1_4 y1_5 y1_6 y2_0 y2_1 y2_2 y2_3 y2_4 y2_5 y2_6 y3_0 y3_1 y3_2 y3_3 y3_4 y3_5 y3_6 y4_0 y4_1 y4_2 y4_3 y4_4 y4_5 y4_6 y5_0 y5_1 y5_2 y5_3 y5_4 y5_5 y5_6 y6_0 y6_1 y6_2 y6_3 y6_4 y6_5 y6_6 y7_0 y7_1 y7_2 y7_3 y7_4 y7_5 y7_6 y8_0 y8_1 y8_2 y8_3 y8_4 y8_5 y8_6 y9_0 y9_1 y9_2 y9_3 y9_4 y9_5 y9_6 : Value} : nP.op (.buildSlice 32 10 [(0, .agg #[y0_0, y0_1, y0_2, y0_3, y0_4, y0_5, y0_6]), (1, .agg #[y1_0, y1_1, y1_2, y1_3, y1_4, y1_5, y1_6]), (2, .agg #[y2_0, y2_1, y2_2, y2_3, y2_4, y2_5, y2_6]), (3, .agg #[y3_0, y3_1, y3_2, y3_3, y3_4, y3_5, y3_6]), (4, .agg #[y4_0, y4_1, y4_2, y4_3, y4_4, y4_5, y4_6]), (5, .agg #[y5_0, y5_1, y5_2, y5_3, y5_4, y5_5, y5_6]), (6, .agg #[y6_0, y6_1, y6_2, y6_3, y6_4, y6_5, y6_6]), (7, .agg #[y7_0, y7_1, y7_2, y7_3, y7_4, y7_5, y7_6]), (8, .agg #[y8_0, y8_1, y8_2, y8_3, y8_4, y8_5, y8_6]), (9, .agg #[y9_0, y9_1, y9_2, y9_3, y9_4, y9_5, y9_6])]) w K Kp = K (.slice (some ⟨w.heap.size, 0, none⟩) 10 10) (w.alloc (.cells #[y0_0, y0_1, y0_2, y0_3, y0_4, y0_5, y0_6, y1_0, y1_1, y1_2, y1_3, y1_4, y1_5, y1_6, y2_0, y2_1, y2_2, y2_3, y2_4, y2_5, y2_6, y3_0, y3_1, y3_2, y3_3, y3_4, y3_5, y3_6, y4_0, y4_1, y4_2, y4_3, y4_4, y4_5, y4_6, y5_0, y5_1, y5_2, y5_3, y5_4, y5_5, y5_6, y6_0, y6_1, y6_2, y6_3, y6_4, y6_5, y6_6, y7_0, y7_1, y7_2, y7_3, y7_4, y7_5, y7_6, y8_0, y8_1, y8_2, y8_3, y8_4, y8_5, y8_6, y9_0, y9_1, y9_2, y9_3, y9_4, y9_5, y9_6] 54)) := op_lit (lit_32_10)
@[simp] theorem call_59 {args : List Value} : nP.call (.fn 59) args w K Kp = Calls Tryz.prog 59 args.toArray w (ret K Kp) := call_fn (by kernel_rfl)
@[simp] theorem call_34 {args : List Value} : nP.call (.fn 34) args w K Kp = Calls Tryz.prog 34 args.toArray w (ret K Kp) := call_fn (by kernel_rfl)
@[simp] theorem call_48 {args : List Value} : nP.call (.fn 48) args w K Kp = Calls Tryz.prog 48 args.toArray w (ret K Kp) := call_fn (by kernel_rfl)
theorem build_45_  : buildV Tryz.prog 45 [] = some (.agg (#[Value.int IntKind.i64 0, Value.string ByteArray.empty, Value.int IntKind.i64 0])) := by
  have e : buildV Tryz.prog 45 [] = (Instr.fill ((#[(0, 1), (1, 1), (2, 1)] : Array (Nat × Nat))[·]?) (#[Value.int IntKind.i64 0, Value.string ByteArray.empty, Value.int IntKind.i64 0]) []).map .agg := by kernel_rfl
  rw [e]; simp [Instr.fill]
@[simp] theorem op_build_45_  : nP.op (.build 45 []) w K Kp = K (.agg (#[Value.int IntKind.i64 0, Value.string ByteArray.empty, Value.int IntKind.i64 0])) w := op_build (build_45_)
@[simp] theorem pur_build_45_  : nP.pur (.build 45 []) K1 = K1 (.agg (#[Value.int IntKind.i64 0, Value.string ByteArray.empty, Value.int IntKind.i64 0])) := pur_build (build_45_)
theorem lit_38_1 {y0_0 y0_1 y0_2 : Value} : sliceLit Tryz.prog 38 1 [(0, .agg #[y0_0, y0_1, y0_2])] = some (45, #[y0_0, y0_1, y0_2]) := by
  have e : sliceLit Tryz.prog 38 1 [(0, .agg #[y0_0, y0_1, y0_2])] = (Instr.fill (fun i => some (i * 3, 3)) (#[Value.int IntKind.i64 0, Value.string ByteArray.empty, Value.int IntKind.i64 0]) [(0, .agg #[y0_0, y0_1, y0_2])]).map fun cs => (45, cs) := by kernel_rfl
  rw [e]; simp [Instr.fill, Value.cells]
@[simp] theorem op_lit_38_1 {y0_0 y0_1 y0_2 : Value} : nP.op (.buildSlice 38 1 [(0, .agg #[y0_0, y0_1, y0_2])]) w K Kp = K (.slice (some ⟨w.heap.size, 0, none⟩) 1 1) (w.alloc (.cells #[y0_0, y0_1, y0_2] 45)) := op_lit (lit_38_1)
@[simp] theorem call_49 {args : List Value} : nP.call (.fn 49) args w K Kp = Calls Tryz.prog 49 args.toArray w (ret K Kp) := call_fn (by kernel_rfl)
@[simp] theorem call_46 {args : List Value} : nP.call (.fn 46) args w K Kp = Calls Tryz.prog 46 args.toArray w (ret K Kp) := call_fn (by kernel_rfl)
@[simp] theorem op_len_39 {a : Option Addr} {n c ty : Nat} : nP.op (.blt .len [39] ty [.slice a n c]) w K Kp = K (.int .i64 n) w := op_len_slice (by kernel_rfl)
@[simp] theorem pur_len_39 {a : Option Addr} {n c ty : Nat} : nP.pur (.blt .len [39] ty [.slice a n c]) K1 = K1 (.int .i64 n) := pur_len_slice (by kernel_rfl)
@[simp] theorem ld_len_39 {a : Option Addr} {n c ty : Nat} : nP.ld (.blt .len [39] ty [.slice a n c]) w K1 = K1 (.int .i64 n) := ld_len_slice (by kernel_rfl)
@[simp] theorem same_len_39 {a : Option Addr} {n c ty : Nat} {u : Value} : nP.same (.blt .len [39] ty [.slice a n c]) u w = (.int .i64 n = u) := same_len_slice (by kernel_rfl)
@[simp] theorem call_21 {args : List Value} : nP.call (.fn 21) args w K Kp = Calls Tryz.prog 21 args.toArray w (ret K Kp) := call_fn (by kernel_rfl)
@[simp] theorem op_lit_38_0 : nP.op (.buildSlice 38 0 []) w K Kp = K (.slice (some ⟨w.heap.size, 0, none⟩) 0 0) (w.alloc (.cells #[] 45)) := op_lit (by kernel_rfl)
end Go.Proofs.YtodjijfblgnfmaaGreatDoor
end
section
namespace Go.Proofs.YtodjijfblgnfmaaGreatDoor
open Go.Vc Go.Proofs
variable {S : Sig} {a0 a1 a2 a3 a4 a5 a6 a7 a8 a9 : Value} {w : World} {K : KV} {Kp : KP}
private theorem follows_BVcLA : Tryz.prog.follows .mixedOrders = true := by kernel_rfl
def vc29 (S : Sig) (a0 : Value) (w : World) (K : KV) (Kp : KP) : Prop :=
 S.op (.box 23 a0) w (fun v1 w =>
 S.op (.fieldAddr 23 v1 0) w (fun v3 w =>
 S.op (.load 5 v3) w (fun v4 w =>
 S.op (.bin .leq 5 false true v4 (.int .u8 3)) w (fun v5 w =>
 Br v5 (
 S.op (.fieldAddr 23 v1 0) w (fun v7 w =>
 S.op (.load 5 v7) w (fun v8 w =>
 S.op (.bin .neq 5 false true v8 (.int .u8 3)) w (fun v9 w =>
 Br v9 (
 K (.bool true) w) (
 S.op (.fieldAddr 23 v1 1) w (fun v11 w =>
 S.op (.load 2 v11) w (fun v12 w =>
 S.op (.bin .geq 2 false true v12 (.int .i64 1)) w (fun v13 w =>
 Br v13 (
 S.op (.fieldAddr 23 v1 1) w (fun v15 w =>
 S.op (.load 2 v15) w (fun v16 w =>
 S.op (.bin .leq 2 false true v16 (.int .i64 1000)) w (fun v17 w =>
 K v17 w) Kp) Kp) Kp) (
 K (.bool false) w)) Kp) Kp) Kp)) Kp) Kp) Kp) (
 K (.bool false) w)) Kp) Kp) Kp) Kp
theorem vc29_eq : vc29 S a0 w K Kp = fVC S [] [] Tryz.f29 [a0] w K Kp := by kernel_rfl
theorem vc29_calls (h : vc29 nP a0 w K Kp) : Calls Tryz.prog 29 #[a0] w (ret K Kp) :=
 fVC_sound (args := [a0]) nice_le follows_BVcLA Tryz.func29 (by kernel_rfl) (Eq.mp vc29_eq h)
def vc20 (S : Sig) (a0 a1 : Value) (w : World) (K : KV) (Kp : KP) : Prop :=
 S.op (.box 23 a0) w (fun v2 w =>
 S.op (.load 23 v2) w (fun v7 w =>
 S.call (.fn 29) [v7] w (fun v8 w =>
 S.op (.un .not v8) w (fun v9 w =>
 Br v9 (
 K (.bool false) w) (
 S.op (.blt .len [38] 3 [a1]) w (fun v12 w =>
 S.op (.bin .gtr 3 false true v12 (.int .i64 1000)) w (fun v13 w =>
 Br v13 (
 K (.bool false) w) (
 S.op (.blt .len [38] 3 [a1]) w (fun v16 w =>
 Lp fun (I4 : KV) (μ4 : Value → World → Nat) => I4 (.int .i64 0) w ∧
 ∀ (wl4 : World) (_ : Nat → Value) (s17 : Value), I4 s17 wl4 →
 S.op (.bin .lss 3 false false s17 v16) wl4 (fun v18 w =>
 Br v18 (
 S.op (.indexAddr 38 a1 s17) w (fun v19 w =>
 S.op (.load 45 v19) w (fun v20 w =>
 S.op (.alloc 45) w (fun v6 w =>
 S.op (.store 45 v6 v20) w (fun _ w =>
 S.op (.fieldAddr 45 v6 1) w (fun v21 w =>
 S.op (.load 9 v21) w (fun v22 w =>
 S.op (.blt .len [9] 3 [v22]) w (fun v23 w =>
 S.op (.bin .gtr 3 false true v23 (.int .i64 100)) w (fun v24 w =>
 Br v24 (
 K (.bool false) w) (
 S.op (.bin .add 3 false true s17 (.int .i64 1)) w (fun v25 w =>
 I4 v25 w ∧ μ4 v25 w < μ4 s17 wl4) Kp)) Kp) Kp) Kp) Kp) Kp) Kp) Kp) Kp) (
 K (.bool true) w)) Kp) Kp)) Kp) Kp)) Kp) Kp) Kp) Kp
theorem vc20_eq : vc20 S a0 a1 w K Kp = fVC S [(4, [17])] [] Tryz.f20 [a0, a1] w K Kp := by kernel_rfl
theorem vc20_calls (h : vc20 nP a0 a1 w K Kp) : Calls Tryz.prog 20 #[a0, a1] w (ret K Kp) :=
 fVC_sound (args := [a0, a1]) nice_le follows_BVcLA Tryz.func20 (by kernel_rfl) (Eq.mp vc20_eq h)
def vc19 (S : Sig) (a0 : Value) (w : World) (K : KV) (Kp : KP) : Prop :=
 S.op (.blt .len [38] 3 [a0]) w (fun v6 w =>
 S.op (.bin .gtr 3 false true v6 (.int .i64 2147483647)) w (fun v7 w =>
 Br v7 (
 K (.bool false) w) (
 S.op (.blt .len [38] 3 [a0]) w (fun v9 w =>
 Lp fun (I4 : KV) (μ4 : Value → World → Nat) => I4 (.int .i64 0) w ∧
 ∀ (wl4 : World) (_ : Nat → Value) (s10 : Value), I4 s10 wl4 →
 S.op (.bin .lss 3 false false s10 v9) wl4 (fun v11 w =>
 Br v11 (
 S.op (.indexAddr 38 a0 s10) w (fun v12 w =>
 S.op (.load 45 v12) w (fun v13 w =>
 S.op (.alloc 45) w (fun v4 w =>
 S.op (.store 45 v4 v13) w (fun _ w =>
 S.op (.load 45 v4) w (fun v14 w =>
 S.call (.fn 24) [v14] w (fun v15 w =>
 S.op (.un .not v15) w (fun v16 w =>
 Br v16 (
 K (.bool false) w) (
 S.op (.bin .add 3 false true s10 (.int .i64 1)) w (fun v17 w =>
 I4 v17 w ∧ μ4 v17 w < μ4 s10 wl4) Kp)) Kp) Kp) Kp) Kp) Kp) Kp) Kp) (
 K (.bool true) w)) Kp) Kp)) Kp) Kp
theorem vc19_eq : vc19 S a0 w K Kp = fVC S [(4, [10])] [] Tryz.f19 [a0] w K Kp := by kernel_rfl
theorem vc19_calls (h : vc19 nP a0 w K Kp) : Calls Tryz.prog 19 #[a0] w (ret K Kp) :=
 fVC_sound (args := [a0]) nice_le follows_BVcLA Tryz.func19 (by kernel_rfl) (Eq.mp vc19_eq h)
def vc24 (S : Sig) (a0 : Value) (w : World) (K : KV) (Kp : KP) : Prop :=
 S.op (.box 45 a0) w (fun v1 w =>
 S.op (.fieldAddr 45 v1 1) w (fun v3 w =>
 S.op (.load 9 v3) w (fun v4 w =>
 S.op (.blt .len [9] 3 [v4]) w (fun v5 w =>
 S.op (.bin .gtr 3 false true v5 (.int .i64 2147483647)) w (fun v6 w =>
 Br v6 (
 K (.bool false) w) (
 K (.bool true) w)) Kp) Kp) Kp) Kp) Kp
theorem vc24_eq : vc24 S a0 w K Kp = fVC S [] [] Tryz.f24 [a0] w K Kp := by kernel_rfl
theorem vc24_calls (h : vc24 nP a0 w K Kp) : Calls Tryz.prog 24 #[a0] w (ret K Kp) :=
 fVC_sound (args := [a0]) nice_le follows_BVcLA Tryz.func24 (by kernel_rfl) (Eq.mp vc24_eq h)
def vc23 (S : Sig) (a0 a1 : Value) (w : World) (K : KV) (Kp : KP) : Prop :=
 S.op (.blt .len [38] 3 [a0]) w (fun v11 w =>
 Lp fun (I3 : Value → KV) (μ3 : Value → Value → World → Nat) => I3 (.slice none 0 0) (.int .i64 0) w ∧
 ∀ (wl3 : World) (_ : Nat → Value) (s5 : Value) (s12 : Value), I3 s5 s12 wl3 →
 S.op (.bin .lss 3 false false s12 v11) wl3 (fun v13 w =>
 Br v13 (
 S.op (.indexAddr 38 a0 s12) w (fun v15 w =>
 S.op (.load 45 v15) w (fun v16 w =>
 S.op (.alloc 45) w (fun v7 w =>
 S.op (.store 45 v7 v16) w (fun _ w =>
 S.op (.fieldAddr 45 v7 0) w (fun v19 w =>
 S.op (.load 2 v19) w (fun v20 w =>
 S.op (.fieldAddr 45 v7 1) w (fun v21 w =>
 S.op (.load 9 v21) w (fun v22 w =>
 S.op (.fieldAddr 45 v7 2) w (fun v23 w =>
 S.op (.load 2 v23) w (fun v24 w =>
 S.op (.build 54 [(0, (.int .u8 0)), (1, s12), (2, v20), (3, v22), (4, v24)]) w (fun v25 w =>
 S.op (.buildSlice 32 1 [(0, v25)]) w (fun v26 w =>
 S.op (.blt .append [32, 32] 32 [s5, v26]) w (fun v27 w =>
 S.op (.bin .add 3 false true s12 (.int .i64 1)) w (fun v28 w =>
 I3 v27 v28 w ∧ μ3 v27 v28 w < μ3 s5 s12 wl3) Kp) Kp) Kp) Kp) Kp) Kp) Kp) Kp) Kp) Kp) Kp) Kp) Kp) Kp) (
 S.op (.blt .len [32] 3 [a1]) w (fun v30 w =>
 Lp fun (I8 : Value → KV) (μ8 : Value → Value → World → Nat) => I8 s5 (.int .i64 0) w ∧
 ∀ (wl8 : World) (_ : Nat → Value) (s5 : Value) (s31 : Value), I8 s5 s31 wl8 →
 S.op (.bin .lss 3 false false s31 v30) wl8 (fun v32 w =>
 Br v32 (
 S.op (.indexAddr 32 a1 s31) w (fun v33 w =>
 S.op (.load 54 v33) w (fun v34 w =>
 S.op (.alloc 54) w (fun v9 w =>
 S.op (.store 54 v9 v34) w (fun _ w =>
 S.op (.fieldAddr 54 v9 1) w (fun v35 w =>
 S.op (.load 3 v35) w (fun v36 w =>
 S.op (.blt .len [38] 3 [a0]) w (fun v38 w =>
 S.op (.bin .add 3 false false v36 v38) w (fun v39 w =>
 S.op (.fieldAddr 54 v9 1) w (fun v40 w =>
 S.op (.store 3 v40 v39) w (fun _ w =>
 S.op (.load 54 v9) w (fun v42 w =>
 S.op (.buildSlice 32 1 [(0, v42)]) w (fun v43 w =>
 S.op (.blt .append [32, 32] 32 [s5, v43]) w (fun v44 w =>
 S.op (.bin .add 3 false true s31 (.int .i64 1)) w (fun v45 w =>
 I8 v44 v45 w ∧ μ8 v44 v45 w < μ8 s5 s31 wl8) Kp) Kp) Kp) Kp) Kp) Kp) Kp) Kp) Kp) Kp) Kp) Kp) Kp) Kp) (
 K s5 w)) Kp) Kp)) Kp) Kp
theorem vc23_eq : vc23 S a0 a1 w K Kp = fVC S [(3, [5, 12]), (8, [5, 31])] [] Tryz.f23 [a0, a1] w K Kp := by kernel_rfl
theorem vc23_calls (h : vc23 nP a0 a1 w K Kp) : Calls Tryz.prog 23 #[a0, a1] w (ret K Kp) :=
 fVC_sound (args := [a0, a1]) nice_le follows_BVcLA Tryz.func23 (by kernel_rfl) (Eq.mp vc23_eq h)
def vc32 (S : Sig) (a0 a1 : Value) (w : World) (K : KV) (Kp : KP) : Prop :=
 S.op (.blt .len [46] 3 [a0]) w (fun v7 w =>
 S.op (.blt .len [38] 3 [a1]) w (fun v9 w =>
 S.op (.bin .neq 3 false false v7 v9) w (fun v10 w =>
 Br v10 (
 K (.bool false) w) (
 S.op (.blt .len [46] 3 [a0]) w (fun v12 w =>
 Lp fun (I4 : KV) (μ4 : Value → World → Nat) => I4 (.int .i64 0) w ∧
 ∀ (wl4 : World) (_ : Nat → Value) (s13 : Value), I4 s13 wl4 →
 S.op (.bin .lss 3 false false s13 v12) wl4 (fun v14 w =>
 Br v14 (
 S.pur (.indexAddr 46 a0 s13) (fun v18 =>
 S.ld (.load 49 v18) w.drew (fun v19 =>
 S.pur (.indexAddr 38 a1 s13) (fun v22 =>
 S.ld (.load 45 v22) w.drew (fun v23 =>
 S.pur (.bin .neq 45 false false v19 v23) (fun v24 =>
 Br v24 (
 K (.bool false) w.drew) (
 S.op (.bin .add 3 false true s13 (.int .i64 1)) w.drew (fun v25 w =>
 I4 v25 w ∧ μ4 v25 w < μ4 s13 wl4) Kp))))))) (
 K (.bool true) w)) Kp) Kp)) Kp) Kp) Kp
theorem vc32_eq : vc32 S a0 a1 w K Kp = fVC S [(4, [13])] [] Tryz.f32 [a0, a1] w K Kp := by kernel_rfl
theorem vc32_calls (h : vc32 nP a0 a1 w K Kp) : Calls Tryz.prog 32 #[a0, a1] w (ret K Kp) :=
 fVC_sound (args := [a0, a1]) nice_le follows_BVcLA Tryz.func32 (by kernel_rfl) (Eq.mp vc32_eq h)
def vc14 (S : Sig) (w : World) (K : KV) (Kp : KP) : Prop :=
 S.op (.build 23 []) w (fun v4 w =>
 S.op (.build 45 [(0, (.int .i64 5)), (2, (.int .i64 1))]) w (fun v5 w =>
 S.op (.build 45 [(0, (.int .i64 (-3))), (2, (.int .i64 2))]) w (fun v6 w =>
 S.op (.buildSlice 38 2 [(0, v5), (1, v6)]) w (fun v7 w =>
 S.call (.fn 22) [(.bool false), v4, v7] w (fun v8 w =>
 S.op (.extract v8 0) w (fun v9 w =>
 S.op (.extract v8 1) w (fun v10 w =>
 Br v10 (
 S.op (.build 45 [(0, (.int .i64 (-3))), (2, (.int .i64 2))]) w (fun v14 w =>
 S.op (.build 45 [(0, (.int .i64 5)), (2, (.int .i64 1))]) w (fun v15 w =>
 S.op (.buildSlice 38 2 [(0, v14), (1, v15)]) w (fun v16 w =>
 S.call (.fn 32) [v9, v16] w (fun v17 w =>
 K v17 w) Kp) Kp) Kp) Kp) (
 K (.bool false) w)) Kp) Kp) Kp) Kp) Kp) Kp) Kp
theorem vc14_eq : vc14 S  w K Kp = fVC S [] [] Tryz.f14 [] w K Kp := by kernel_rfl
theorem vc14_calls (h : vc14 nP  w K Kp) : Calls Tryz.prog 14 #[] w (ret K Kp) :=
 fVC_sound (args := []) nice_le follows_BVcLA Tryz.func14 (by kernel_rfl) (Eq.mp vc14_eq h)
def vc22 (S : Sig) (a0 a1 a2 : Value) (w : World) (K : KV) (Kp : KP) : Prop :=
 S.op (.box 23 a1) w (fun v4 w =>
 S.ld (.load 23 v4) w.drew (fun v12 =>
 S.pur (.build 54 [(0, (.int .u8 3))]) (fun v14 =>
 S.op (.buildSlice 32 1 [(0, v14)]) w.drew (fun v15 w =>
 S.same (.load 23 v4) v12 w ∧
 S.call (.fn 23) [a2, v15] w (fun v16 w =>
 S.same (.load 23 v4) v12 w ∧
 S.call (.fn 15) [a0, v12, v16] w (fun v17 w =>
 S.pur (.extract v17 0) (fun v18 =>
 S.pur (.extract v17 1) (fun v19 =>
 S.op (.un .not v19) w (fun v21 w =>
 Br v21 (
 K (.tuple #[(.slice none 0 0), (.bool false)]) w) (
 S.op (.blt .len [28] 3 [v18]) w (fun v24 w =>
 S.op (.blt .len [38] 3 [a2]) w (fun v26 w =>
 S.op (.bin .add 3 false true v26 (.int .i64 1)) w (fun v27 w =>
 S.op (.bin .neq 3 false false v24 v27) w (fun v28 w =>
 Br v28 (
 K (.tuple #[(.slice none 0 0), (.bool false)]) w) (
 S.op (.blt .len [38] 3 [a2]) w (fun v32 w =>
 S.op (.indexAddr 28 v18 v32) w (fun v33 w =>
 S.op (.fieldAddr 56 v33 3) w (fun v34 w =>
 S.op (.load 46 v34) w (fun v35 w =>
 K (.tuple #[v35, (.bool true)]) w) Kp) Kp) Kp) Kp)) Kp) Kp) Kp) Kp)) Kp))) Kp) Kp) Kp))) Kp
theorem vc22_eq : vc22 S a0 a1 a2 w K Kp = fVC S [] [] Tryz.f22 [a0, a1, a2] w K Kp := by kernel_rfl
theorem vc22_calls (h : vc22 nP a0 a1 a2 w K Kp) : Calls Tryz.prog 22 #[a0, a1, a2] w (ret K Kp) :=
 fVC_sound (args := [a0, a1, a2]) nice_le follows_BVcLA Tryz.func22 (by kernel_rfl) (Eq.mp vc22_eq h)
end Go.Proofs.YtodjijfblgnfmaaGreatDoor
end
section
namespace Go.Vc
variable {P : Program} {w : World} {K : Value → World → Prop} {K1 : Value → Prop} {Kp : KP} {t : TypeId}
end Go.Vc
end
section
namespace Go.Vc.Bt
open Go.Vc
variable {P : Program} {w : World} {K : Value → World → Prop} {K1 : Value → Prop} {Kp : KP} {t : TypeId}
def fldI (P : Program) (f : Field) (o : Nat) : Bool := f.name != "_" && f.offset == o && (match P.underlying f.type with | some (.int .i64) => true | _ => false) && (match ldk P f.type with | some .one => true | _ => false)
def fldS (P : Program) (f : Field) (o : Nat) : Bool := f.name != "_" && f.offset == o && (match P.underlying f.type with | some .string => true | _ => false) && (match ldk P f.type with | some .one => true | _ => false)
def sprT (P : Program) (t : TypeId) : Bool := (match (P.fieldsOf t).toList with
  | [f0, f1, f2] => fldI P f0 0 && fldS P f1 1 && fldI P f2 2
  | _ => false) && !P.stoodInHeld t && !P.eqGuardType P.depth t
theorem fldI_eq {f : Field} {o d : Nat} {fs : List Field} {xs ys : Array Value} {a b : Int} (h : fldI P f o = true) (hx : xs[o]? = some (.int .i64 a)) (hy : ys[o]? = some (.int .i64 b)) (w : World) {r : Bool}
    (hr : (Op.eqFields (d + 1) xs ys fs).run P w = .ok r w) : (Op.eqFields (d + 1) xs ys (f :: fs)).run P w = .ok (decide (a = b) && r) w := by
  simp only [fldI, Bool.and_eq_true] at h
  obtain ⟨⟨⟨h1, h2⟩, h3⟩, h4⟩ := h
  have h2 : f.offset = o := by simpa using h2
  have h1 : f.name ≠ "_" := by simpa using h1
  have hu : P.underlying f.type = some (.int .i64) := by split at h3; assumption; cases h3
  have hl : ldk P f.type = some .one := by split at h4; assumption; cases h4
  have px : (part f.type xs f.offset).run P w = .ok (.int .i64 a) w := by rw [h2]; exact ldk_part hl (by simp [partV, hx]) w
  have py : (part f.type ys f.offset).run P w = .ok (.int .i64 b) w := by rw [h2]; exact ldk_part hl (by simp [partV, hy]) w
  rw [Op.eqFields, if_pos h1]
  simp only [Sem.run_bind, px, py, Result.andThen_ok, run_equalIn_int (k' := .i64) (h := hu)]
  by_cases e : a = b
  · subst e; simp [hr]
  · have e' : (a == b) = false := beq_eq_false_iff_ne.2 e
    simp only [e', Bool.not_false, if_true, Sem.run_pure, decide_eq_false e, Bool.false_and]
theorem fldS_eq {f : Field} {o d : Nat} {fs : List Field} {xs ys : Array Value} {a b : ByteArray} (h : fldS P f o = true) (hx : xs[o]? = some (.string a)) (hy : ys[o]? = some (.string b)) (w : World) {r : Bool}
    (hr : (Op.eqFields (d + 1) xs ys fs).run P w = .ok r w) : (Op.eqFields (d + 1) xs ys (f :: fs)).run P w = .ok (decide (a = b) && r) w := by
  simp only [fldS, Bool.and_eq_true] at h
  obtain ⟨⟨⟨h1, h2⟩, h3⟩, h4⟩ := h
  have h2 : f.offset = o := by simpa using h2
  have h1 : f.name ≠ "_" := by simpa using h1
  have hu : P.underlying f.type = some .string := by split at h3; assumption; cases h3
  have hl : ldk P f.type = some .one := by split at h4; assumption; cases h4
  have px : (part f.type xs f.offset).run P w = .ok (.string a) w := by rw [h2]; exact ldk_part hl (by simp [partV, hx]) w
  have py : (part f.type ys f.offset).run P w = .ok (.string b) w := by rw [h2]; exact ldk_part hl (by simp [partV, hy]) w
  rw [Op.eqFields, if_pos h1]
  simp only [Sem.run_bind, px, py, Result.andThen_ok, run_equalIn_string (h := hu)]
  by_cases e : a = b
  · subst e; simp [hr]
  · have e' : (a.toList == b.toList) = false := beq_eq_false_iff_ne.2 fun h => e (toList_inj.1 h)
    simp only [e', Bool.not_false, if_true, Sem.run_pure, decide_eq_false e, Bool.false_and]
theorem SPr.ext_iff' {x y : SPr} : (decide (x.key = y.key) && (decide (x.text = y.text) && (decide (x.val = y.val) && true))) = decide (x = y) := by
  cases x; cases y; simp
theorem spr_eq_run (ht : P.underlying t = some (.struct (P.fieldsOf t))) (h : sprT P t = true) (x y : SPr) (w : World) : (Op.equal t (.agg x.cells.toArray) (.agg y.cells.toArray)).run P w = .ok (decide (x = y)) w := by
  simp only [sprT, Bool.and_eq_true] at h
  obtain ⟨⟨h1, h2⟩, h3⟩ := h
  have h2 : P.stoodInHeld t = false := by simpa using h2
  unfold Op.equal Op.maxDepth
  rw [run_equalIn_struct w 9999 t _ _ ht h2]
  split at h1
  · rename_i f0 f1 f2 hf
    rw [hf]
    simp only [Bool.and_eq_true] at h1
    obtain ⟨⟨g0, g1⟩, g2⟩ := h1
    rw [fldI_eq (d := 9998) (a := x.key) (b := y.key) g0 rfl rfl w (fldS_eq (a := x.text) (b := y.text) g1 rfl rfl w (fldI_eq (a := x.val) (b := y.val) g2 rfl rfl w (r := true) (by simp [Op.eqFields])))]
    rw [SPr.ext_iff']
  · cases h1
theorem pur_neq_spr (ht : P.underlying t = some (.struct (P.fieldsOf t))) (h : sprT P t = true) {x y : SPr} (hK : K1 (.bool (!decide (x = y)))) :
    (nice P).pur (.bin .neq t false false (.agg x.cells.toArray) (.agg y.cells.toArray)) K1 := by
  refine ⟨_, fun w => ?_, hK⟩
  have hg : P.eqGuardType P.depth t = false := by
    simp only [sprT, Bool.and_eq_true] at h; simpa using h.2
  have h2 : ∀ w, (eqGuard .neq t (opd false) (opd false) (.agg x.cells.toArray) (.agg y.cells.toArray)).run P w = .ok () w := fun w => by
    have hp : (program : Sem Program).run P w = .ok P w := rfl
    simp [eqGuard, hp, hg]
  simp only [VOp.sem, Sem.run_bind, h2, Result.andThen_ok]
  simp [binOp, spr_eq_run ht h]
/-! ### scripts that put pairs -/
def putSteps (ps : List SPr) : List SSt := ps.mapIdx fun i p => ⟨0, i, p.key, p.text, p.val, 0, 0⟩
theorem putSteps_len (ps : List SPr) : (putSteps ps).length = ps.length := by simp [putSteps]
theorem putSteps_snoc (ps : List SPr) (p : SPr) : putSteps (ps ++ [p]) = putSteps ps ++ [⟨0, ps.length, p.key, p.text, p.val, 0, 0⟩] := by simp [putSteps, List.mapIdx_append]
def SSt.later (n : Nat) (s : SSt) : SSt := { s with fro := IntKind.i64.wrap (s.fro + n) }
theorem putSteps_mem {ps : List SPr} {s : SSt} (h : s ∈ putSteps ps) : s.op = 0 ∧ s.count = 0 ∧ ∃ p ∈ ps, s.text = p.text := by
  simp only [putSteps, List.mem_mapIdx] at h
  obtain ⟨i, hi, rfl⟩ := h
  exact ⟨rfl, rfl, _, List.getElem_mem hi, rfl⟩
theorem putSteps_cost : ∀ (ps : List SPr), scost (putSteps ps) = ps.length := by
  intro ps
  rw [← List.reverse_reverse ps]
  generalize ps.reverse = r
  induction r with
  | nil => rfl
  | cons p r ih => rw [List.reverse_cons, putSteps_snoc, scost_snoc, ih]; simp [SSt.cost]
section
variable {κ : Type} [DecidableEq κ] {lt : κ → κ → Bool} {kd : Kd κ}
def Kd.kv (kd : Kd κ) (p : SPr) : κ × Int := (kd.key p.key p.text, p.val)
theorem atV_small {s : SSt} {i n : Nat} (h : s.fro = i) (hi : i < n) : atV s n = i := by
  unfold atV
  rw [h, Int.emod_eq_of_lt (by omega) (by omega)]; simp
theorem runS_put (ps : List SPr) : (runS lt kd (putSteps ps)).1.length = ps.length + 1 ∧ (runS lt kd (putSteps ps)).1[ps.length]? = some (putAll lt [] (ps.map kd.kv)) ∧ (runS lt kd (putSteps ps)).2.length = ps.length := by
  rw [← List.reverse_reverse ps]
  generalize ps.reverse = r
  induction r with
  | nil => exact ⟨rfl, rfl, rfl⟩
  | cons p r ih =>
    obtain ⟨h1, h2, h3⟩ := ih
    rw [List.reverse_cons, putSteps_snoc, runS_snoc]
    generalize runS lt kd (putSteps r.reverse) = q at *
    have ha : atV (⟨0, (r.reverse.length : Nat), p.key, p.text, p.val, 0, 0⟩ : SSt) q.1.length = r.reverse.length := atV_small rfl (by omega)
    unfold oneS
    rw [ha, h2, Option.getD_some]
    have hn : newV lt kd ⟨0, (r.reverse.length : Nat), p.key, p.text, p.val, 0, 0⟩ (putAll lt [] (r.reverse.map kd.kv)) = some (put lt (putAll lt [] (r.reverse.map kd.kv)) (kd.key p.key p.text) p.val) := by unfold newV; rw [if_pos rfl]
    rw [hn]
    refine ⟨?_, ?_, ?_⟩
    · rw [Option.toList_some, List.length_append, List.length_singleton, List.length_append, List.length_singleton, h1]
    · rw [Option.toList_some, List.length_append, List.length_singleton, List.getElem?_append_right (by omega), h1, Nat.sub_self, List.map_append, List.map_singleton, putAll_snoc]
      rfl
    · rw [List.length_append, List.length_singleton, List.length_append, List.length_singleton, h3]
end
end Go.Vc.Bt
namespace Go.Vc.Bt
open Go.Vc
variable {P : Program} {w : World} {K : Value → World → Prop} {Kp : KP}
theorem sameLoop {t1 e1 t2 e2 t3 : TypeId} {l1 l2 : Value} {xs : List SPr} (s1 : sliceOf P t1 = some (e1, 3)) (s2 : sliceOf P t2 = some (e2, 3)) (d1 : ldk P e1 = some (.agg 3)) (d2 : ldk P e2 = some (.agg 3)) (ht : P.underlying t3 = some (.struct (P.fieldsOf t3))) (hq : sprT P t3 = true)
    (k1 : kd P t1 = .slice) (h1 : IsSl w l1 xs.length (xs.flatMap SPr.cells)) (h2 : IsSl w l2 xs.length (xs.flatMap SPr.cells)) (hn : xs.length < 2 ^ 60) (hK : ∀ w', Frm (fun _ => False) w w' → K (.bool true) w') :
    (nice P).op (.blt Builtin.len [t1] 3 [l1]) w (fun v50 w =>
    Lp fun (I10 : Value → World → Prop) (μ10 : Value → World → Nat) => I10 (Value.int IntKind.i64 0) w ∧
    ∀ (wl10 : World) (junk : Nat → Value) (s51_ : Value), I10 s51_ wl10 →
      (nice P).op (.bin BinOp.lss 3 false false s51_ v50) wl10 (fun v52 w =>
      Br v52 (
        (nice P).pur (.indexAddr t1 l1 s51_) (fun v56 =>
        (nice P).ld (.load e1 v56) w.drew (fun v57 =>
        (nice P).pur (.indexAddr t2 l2 s51_) (fun v60 =>
        (nice P).ld (.load e2 v60) w.drew (fun v61 =>
        (nice P).pur (.bin BinOp.neq t3 false false v57 v61) (fun v62 =>
        Br v62 (
          K (Value.bool false) w.drew) (
          (nice P).op (.bin BinOp.add 3 false true s51_ (Value.int IntKind.i64 1)) w.drew (fun v63 w =>
          I10 v63 w ∧ μ10 v63 w < μ10 s51_ wl10) Kp))))))) (
        K (Value.bool true) w)) Kp) Kp := by
  obtain ⟨a1, c1, rfl, hc1, hm1, r1, _⟩ := h1
  obtain ⟨a2, c2, rfl, hc2, hm2, r2, _⟩ := h2
  rw [op_len_slice k1]
  obtain ⟨I, hI⟩ : ∃ I : Value → World → Prop, ∀ v wl, I v wl ↔ ∃ i : Nat, v = .int .i64 i ∧ i ≤ xs.length ∧ Frm (fun _ => False) w wl := ⟨_, fun _ _ => Iff.rfl⟩
  refine Lp.intro I (fun v _ => xs.length - (match v with | .int _ j => j.toNat | _ => 0)) ⟨(hI _ _).2 ⟨0, rfl, by omega, Frm.refl⟩, ?_⟩
  intro wl _ v hv
  obtain ⟨i, rfl, hi, kl⟩ := (hI _ _).1 hv
  simp only [op_lss, Br_dec]
  refine ⟨fun hlt => ?_, fun hge => hK wl kl⟩
  have hi' : i < xs.length := by omega
  have kd := kl.no (Frm.drew wl)
  obtain ⟨b1, o1, cs1, e1', f1, rfl, q1, q2, q3⟩ := (r1.frame kd fun _ _ h => h).part SPr.len (by decide) hi'
  obtain ⟨b2, o2, cs2, e2', f2, rfl, p1, p2, p3⟩ := (r2.frame kd fun _ _ h => h).part SPr.len (by decide) hi'
  rw [pur_ix_slice s1]
  refine ⟨⟨by omega, by omega⟩, ?_⟩
  rw [add_spot rfl, ld_ldn d1]
  simp only [Int.toNat_natCast]
  refine ⟨cs1, e1', f1, q1, trivial, q2, ?_⟩
  rw [q3, pur_ix_slice s2]
  refine ⟨⟨by omega, by omega⟩, ?_⟩
  rw [add_spot rfl, ld_ldn d2]
  simp only [Int.toNat_natCast]
  refine ⟨cs2, e2', f2, p1, trivial, p2, ?_⟩
  rw [p3]
  refine pur_neq_spr ht hq ?_
  rw [decide_eq_true rfl]
  show Br (.bool false) _ _
  rw [show ∀ A B : Prop, Br (.bool false) A B = B from fun A B => by simp [Br], op_add]
  have e : IntKind.i64.wrap ((i : Int) + 1) = ((i + 1 : Nat) : Int) := by rw [IntKind.wrap_i64]; omega
  rw [e]
  refine ⟨(hI _ _).2 ⟨i + 1, rfl, by omega, kd⟩, ?_⟩
  simp only [Int.toNat_natCast]; omega
end Go.Vc.Bt
namespace Go.Vc.Bt
section
variable {κ : Type} [DecidableEq κ] {lt : κ → κ → Bool} {kd : Kd κ}
def prsOf (kd : Kd κ) (L : Vn κ) : List SPr := L.map fun e => kd.pair e.1 e.2
theorem runS_items (ps : List SPr) (hn : ps.length < 2 ^ 31) {s : SSt} (hop : s.op = 3) (h0 : s.fro = 0) :
    (runS lt kd (putSteps ps ++ [s.later ps.length])).2.length = ps.length + 1 ∧
    ((runS lt kd (putSteps ps ++ [s.later ps.length])).2[ps.length]?).map SAns.list = some (prsOf kd (putAll lt [] (ps.map kd.kv))) := by
  obtain ⟨h1, h2, h3⟩ := runS_put (lt := lt) (kd := kd) ps
  rw [runS_snoc]
  generalize runS lt kd (putSteps ps) = q at *
  have hf : (s.later ps.length).fro = ps.length := by
    show IntKind.i64.wrap (s.fro + ps.length) = _
    rw [h0, IntKind.wrap_i64]; omega
  have ha : atV (s.later ps.length) q.1.length = ps.length := atV_small hf (by omega)
  unfold oneS
  rw [ha, h2, Option.getD_some]
  refine ⟨by rw [List.length_append, List.length_singleton, h3], ?_⟩
  rw [List.getElem?_append_right (by omega), h3, Nat.sub_self]
  have ho : (s.later ps.length).op = 3 := hop
  unfold ansV
  rw [if_neg (by omega), if_pos ho]; rfl
end
end Go.Vc.Bt
namespace Go.Vc.Bt
section
variable {κ : Type} [DecidableEq κ] {lt : κ → κ → Bool} {kd : Kd κ}
end
end Go.Vc.Bt
end
section
namespace Go.Proofs.YtodjijfblgnfmaaGreatDoor
open Go.Vc Go.Proofs Go.Vc.Bt
variable {w w' : World} {K : KV} {Kp : KP} {n : Int} {kn : Nat} {a1 : Option Addr} {c1 : Nat} {ps : List SPr}
theorem fits7_ok {p : SPr} (hK : ∀ b w', Frm (fun _ => False) w w' → K (.bool b) w') : Calls Tryz.prog 24 #[.agg p.cells.toArray] w (ret K Kp) := by
  refine vc24_calls ?_
  delta vc24
  refine op_box_ok fun w1 k1 z1 b1 => ?_
  simp only [cells_agg, SPr.cells] at b1
  have h0 := hK true w1 k1
  have h1 := hK false w1 k1
  simp [-getElem?_pos, -Array.getElem?_eq_getElem, -Int.natCast_add, -op_alloc_45, -op_st_45, b1]
  exact ⟨fun _ => h1, fun _ => h0⟩
theorem fits6_ok (hr : Row w a1 (ps.flatMap SPr.cells)) (hK : ∀ b w', Frm (fun _ => False) w w' → (b = true → ps.length ≤ 2147483647) → K (.bool b) w') : Calls Tryz.prog 19 #[.slice a1 ps.length c1] w (ret K Kp) := by
  refine vc19_calls ?_
  delta vc19
  simp [-getElem?_pos, -Array.getElem?_eq_getElem, -Int.natCast_add, -op_alloc_45, -op_st_45]
  refine ⟨fun _ => hK false w Frm.refl (fun h => nomatch h), fun hle => ?_⟩
  obtain ⟨I, hI⟩ : ∃ I : KV, ∀ v wl, I v wl ↔ ∃ i : Nat, v = .int .i64 i ∧ i ≤ ps.length ∧ Frm (fun _ => False) w wl := ⟨_, fun _ _ => Iff.rfl⟩
  refine Lp.intro I (fun v _ => ps.length - nOf v) ⟨(hI _ _).2 ⟨0, rfl, by omega, Frm.refl⟩, ?_⟩
  intro wl v hv
  obtain ⟨i, rfl, hi, kl⟩ := (hI _ _).1 hv
  simp only [op_lss, Br_dec]
  refine ⟨fun hlt => ?_, fun hge => hK true wl kl fun _ => by omega⟩
  have hi' : i < ps.length := by omega
  obtain ⟨b, o, cs, e, fz, rfl, q1, q2, q3⟩ := (hr.frame kl fun _ _ h => h).part SPr.len (by decide) hi'
  simp [-getElem?_pos, -Array.getElem?_eq_getElem, -Int.natCast_add, -op_alloc_45, -op_st_45, q1, q2, q3]
  refine ⟨hi', ?_⟩
  refine op_alloc_ok (z := .agg #[.int .i64 0, .string ByteArray.empty, .int .i64 0]) (by kernel_rfl) fun w5 k5 z5 b5 => ?_
  simp only [cells_agg] at b5
  refine op_storeN_ok (n := 3) (by kernel_rfl) b5 rfl (by decide) (by simp [SPr.cells]) fun w6 k6 z6 b6 => ?_
  have b6 : w6.heap[wl.heap.size]? = some (.cells ps[i].cells.toArray 45 (0, 0)) := by
    rw [ow_all (by simp [SPr.cells])] at b6; exact b6
  have hx : ps[i].cells.toArray.extract 0 3 = ps[i].cells.toArray := extract_self (by simp [SPr.cells])
  have hs3 : 3 ≤ ps[i].cells.length := Nat.le_refl _
  simp [-getElem?_pos, -Array.getElem?_eq_getElem, -Int.natCast_add, -op_alloc_45, -op_st_45, b6, hx, hs3]
  refine fits7_ok fun b w7 k7 => ?_
  have k67 := (kl.no (k5.old k6 fun c hc => .inr (by omega))).no k7
  cases b with
  | false =>
    simp [-getElem?_pos, -Array.getElem?_eq_getElem, -Int.natCast_add, -op_alloc_45, -op_st_45]
    exact hK false w7 k67 (fun h => nomatch h)
  | true =>
    simp [-getElem?_pos, -Array.getElem?_eq_getElem, -Int.natCast_add, -op_alloc_45, -op_st_45]
    rw [show IntKind.i64.wrap ((i : Int) + 1) = ((i + 1 : Nat) : Int) from by rw [IntKind.wrap_i64]; omega]
    exact ⟨(hI _ _).2 ⟨i + 1, rfl, by omega, k67⟩, by simp only [nOf_int]; omega⟩
def Right (kn : Nat) (n : Int) : Prop := kn ≤ 3 ∧ (kn = 3 → 1 ≤ n ∧ n ≤ 1000)
theorem right_ok (hK : ∀ b w', Frm (fun _ => False) w w' → (b = true ↔ Right kn n) → K (.bool b) w') : Calls Tryz.prog 29 #[orderV kn n] w (ret K Kp) := by
  refine vc29_calls ?_
  delta vc29 orderV
  refine op_box_ok fun w1 k1 z1 b1 => ?_
  simp only [cells_agg] at b1
  have h0 := fun h => hK true w1 k1 h
  have h1 := fun h => hK false w1 k1 h
  simp [-getElem?_pos, -Array.getElem?_eq_getElem, -Int.natCast_add, -op_alloc_45, -op_st_45, b1]
  refine ⟨fun h3 => ⟨fun hne => h0 ⟨fun _ => ⟨by omega, fun e => by omega⟩, fun _ => rfl⟩, fun he => ⟨fun hn => ?_, fun hn => h1 ⟨(fun h => nomatch h), fun h => ?_⟩⟩⟩, fun h3 => h1 ⟨(fun h => nomatch h), fun h => ?_⟩⟩
  · refine hK _ w1 k1 ?_
    unfold Right
    rw [decide_eq_true_iff]
    constructor
    · intro h; exact ⟨by omega, fun _ => ⟨hn, h⟩⟩
    · intro h; exact (h.2 (by omega)).2
  · have := h.2 (by omega); omega
  · have := h.1; omega
theorem pairsRight_ok (hr : Row w a1 (ps.flatMap SPr.cells)) (hK : ∀ b w', Frm (fun _ => False) w w' → (b = true → Right kn n ∧ ps.length ≤ 1000 ∧ ∀ p ∈ ps, p.text.size ≤ 100) → K (.bool b) w') : Calls Tryz.prog 20 #[orderV kn n, .slice a1 ps.length c1] w (ret K Kp) := by
  refine vc20_calls ?_
  delta vc20 orderV
  refine op_box_ok fun w1 k1 z1 b1 => ?_
  simp only [cells_agg] at b1
  have hx2 : (#[.int .u8 kn, .int .i64 n] : Array Value).extract 0 2 = #[.int .u8 kn, .int .i64 n] := rfl
  simp [-getElem?_pos, -Array.getElem?_eq_getElem, -Int.natCast_add, -op_alloc_45, -op_st_45, b1, hx2]
  refine right_ok (kn := kn) (n := n) fun b w2 k2 hb => ?_
  have k12 := k1.no k2
  cases b with
  | false =>
    simp [-getElem?_pos, -Array.getElem?_eq_getElem, -Int.natCast_add, -op_alloc_45, -op_st_45]
    exact hK false w2 k12 (fun h => nomatch h)
  | true =>
    have hri := hb.1 rfl
    simp [-getElem?_pos, -Array.getElem?_eq_getElem, -Int.natCast_add, -op_alloc_45, -op_st_45]
    refine ⟨fun _ => hK false w2 k12 (fun h => nomatch h), fun hle => ?_⟩
    obtain ⟨I, hI⟩ : ∃ I : KV, ∀ v wl, I v wl ↔ ∃ i : Nat, v = .int .i64 i ∧ i ≤ ps.length ∧ Frm (fun _ => False) w wl ∧ ∀ p ∈ ps.take i, p.text.size ≤ 100 := ⟨_, fun _ _ => Iff.rfl⟩
    refine Lp.intro I (fun v _ => ps.length - nOf v) ⟨(hI _ _).2 ⟨0, rfl, by omega, k12, by simp⟩, ?_⟩
    intro wl v hv
    obtain ⟨i, rfl, hi, kl, hall⟩ := (hI _ _).1 hv
    simp only [op_lss, Br_dec]
    refine ⟨fun hlt => ?_, fun hge => hK true wl kl fun _ => ⟨hri, by omega, by rwa [List.take_of_length_le (by omega)] at hall⟩⟩
    have hi' : i < ps.length := by omega
    obtain ⟨b, o, cs, e, fz, rfl, q1, q2, q3⟩ := (hr.frame kl fun _ _ h => h).part SPr.len (by decide) hi'
    simp [-getElem?_pos, -Array.getElem?_eq_getElem, -Int.natCast_add, -op_alloc_45, -op_st_45, q1, q2, q3]
    refine ⟨hi', ?_⟩
    refine op_alloc_ok (z := .agg #[.int .i64 0, .string ByteArray.empty, .int .i64 0]) (by kernel_rfl) fun w5 k5 z5 b5 => ?_
    simp only [cells_agg] at b5
    refine op_storeN_ok (n := 3) (by kernel_rfl) b5 rfl (by decide) (by simp [SPr.cells]) fun w6 k6 z6 b6 => ?_
    have b6 : w6.heap[wl.heap.size]? = some (.cells #[.int .i64 ps[i].key, .string ps[i].text, .int .i64 ps[i].val] 45 (0, 0)) := by
      rw [ow_all (by simp [SPr.cells])] at b6; exact b6
    have k6' := kl.no (k5.old k6 fun c hc => .inr (by omega))
    simp [-getElem?_pos, -Array.getElem?_eq_getElem, -Int.natCast_add, -op_alloc_45, -op_st_45, b6]
    refine ⟨fun _ => hK false w6 k6' (fun h => nomatch h), fun h100 => ?_⟩
    rw [show IntKind.i64.wrap ((i : Int) + 1) = ((i + 1 : Nat) : Int) from by rw [IntKind.wrap_i64]; omega]
    refine ⟨(hI _ _).2 ⟨i + 1, rfl, by omega, k6', fun p hp => ?_⟩, by simp only [nOf_int]; omega⟩
    rw [List.take_succ_eq_append_getElem hi'] at hp
    rcases List.mem_append.1 hp with hp | hp
    · exact hall p hp
    · rw [List.mem_singleton.1 hp]; omega
end Go.Proofs.YtodjijfblgnfmaaGreatDoor
end
section
namespace Go.Proofs.YtodjijfblgnfmaaGreatDoor
open Go.Vc Go.Proofs Go.Vc.Bt
variable {w w' : World} {K : KV} {Kp : KP} {n : Int} {a1 : Option Addr} {c1 : Nat} {ps : List SPr}
theorem apS : apOf Tryz.prog 32 = some (54, 7, 64) := by kernel_rfl
theorem lit_st (s : SSt) : sliceLit Tryz.prog 32 1 [(0, .agg s.cells.toArray)] = some (54, s.cells.toArray) := lit_32_1
theorem sortedPut_ok {m : List SSt} {v2 : Value} (hr : Row w a1 (ps.flatMap SPr.cells)) (hm : IsSl w v2 m.length (m.flatMap SSt.cells)) (hn : ps.length ≤ 2 ^ 20) (hml : m.length ≤ 1000)
    (hK : ∀ l w', Frm (fun _ => False) w w' → RowsOf (Flat SSt.cells) w' w.heap.size 54 7 l (putSteps ps ++ m.map (SSt.later ps.length)) (fun _ => False) → K l w') :
    Calls Tryz.prog 23 #[.slice a1 ps.length c1, v2] w (ret K Kp) := by
  have hE := flat_ok SSt.cells
  obtain ⟨a2, c2, rfl, hc2, hm2, hr2, _⟩ := hm
  refine vc23_calls ?_
  delta vc23
  simp [-getElem?_pos, -Array.getElem?_eq_getElem, -Int.natCast_add, -op_alloc_45, -op_st_45, -op_alloc_54, -op_st_54, -op_lit_32_1, -op_st_3]
  obtain ⟨I, hI⟩ : ∃ I : Value → KV, ∀ l v wl, I l v wl ↔ ∃ i : Nat, v = .int .i64 i ∧ i ≤ ps.length ∧ Frm (fun _ => False) w wl ∧ RowsOf (Flat SSt.cells) wl w.heap.size 54 7 l (putSteps (ps.take i)) (fun _ => False) := ⟨_, fun _ _ _ => Iff.rfl⟩
  refine Lp.intro I (fun _ v _ => ps.length - nOf v) ⟨(hI _ _ _).2 ⟨0, rfl, by omega, Frm.refl, rows_nil⟩, ?_⟩
  intro wl l v hv
  obtain ⟨i, rfl, hi, kl, hR⟩ := (hI _ _ _).1 hv
  have hlow := hR.own_lt
  have nl := kl.size
  simp only [op_lss, Br_dec]
  refine ⟨fun hlt => ?_, fun hge => ?_⟩
  · have hi' : i < ps.length := by omega
    obtain ⟨b, o, cs, e, fz, rfl, q1, q2, q3⟩ := (hr.frame kl fun _ _ h => h).part SPr.len (by decide) hi'
    simp [-getElem?_pos, -Array.getElem?_eq_getElem, -Int.natCast_add, -op_alloc_45, -op_st_45, -op_alloc_54, -op_st_54, -op_lit_32_1, -op_st_3, q1, q2, q3]
    refine ⟨hi', ?_⟩
    refine op_alloc_ok (z := .agg #[.int .i64 0, .string ByteArray.empty, .int .i64 0]) (by kernel_rfl) fun w5 k5 z5 b5 => ?_
    simp only [cells_agg] at b5
    refine op_storeN_ok (n := 3) (by kernel_rfl) b5 rfl (by decide) (by simp [SPr.cells]) fun w6 k6 z6 b6 => ?_
    have b6 : w6.heap[wl.heap.size]? = some (.cells #[.int .i64 ps[i].key, .string ps[i].text, .int .i64 ps[i].val] 45 (0, 0)) := by
      rw [ow_all (by simp [SPr.cells])] at b6; exact b6
    have k6' := k5.old k6 fun c hc => .inr (by omega)
    have hR6 := hR.still hE k6'
    have n6 := k6'.size
    simp [-getElem?_pos, -Array.getElem?_eq_getElem, -Int.natCast_add, -op_alloc_45, -op_st_45, -op_alloc_54, -op_st_54, -op_lit_32_1, -op_st_3, b6]
    have htl : (putSteps (ps.take i)).length = i := by rw [putSteps_len, List.length_take]; omega
    have e0 : (#[.int .u8 0, .int .i64 (i : Nat), .int .i64 ps[i].key, .string ps[i].text, .int .i64 ps[i].val, .int .i64 0, .int .i64 0] : Array Value) = (⟨0, (i : Nat), ps[i].key, ps[i].text, ps[i].val, 0, 0⟩ : SSt).cells.toArray := by simp [SSt.cells]
    rw [e0]
    generalize hs0 : (⟨0, (i : Nat), ps[i].key, ps[i].text, ps[i].val, 0, 0⟩ : SSt) = s0 at *
    refine op_push (u := s0.cells) (y := s0) (G2 := fun _ => False) hE apS (lit_st _) rfl (SSt.one _) hR6 rfl (fun _ h => h.elim) (fun _ _ h => h) (by rw [htl]; omega) (by omega) fun l' w7 k7 hR7 ho7 => ?_
    try simp [-getElem?_pos, -Array.getElem?_eq_getElem, -Int.natCast_add, -op_alloc_45, -op_st_45, -op_alloc_54, -op_st_54, -op_lit_32_1, -op_st_3]
    rw [show IntKind.i64.wrap ((i : Int) + 1) = ((i + 1 : Nat) : Int) from by rw [IntKind.wrap_i64]; omega]
    refine ⟨(hI _ _ _).2 ⟨i + 1, rfl, by omega, (kl.no k6').old k7 fun c hc => .inr (hlow c hc.symm).1, ?_⟩, by simp only [nOf_int]; omega⟩
    rw [List.take_succ_eq_append_getElem hi', putSteps_snoc, List.length_take, Nat.min_eq_left (by omega), hs0]
    exact hR7.mono hE (fun _ h => h.elim id fun h => h) (fun _ h => h.elim) fun _ _ h => h
  · have : i = ps.length := by omega
    subst this
    rw [List.take_length] at hR
    clear hI I hv
    try simp [-getElem?_pos, -Array.getElem?_eq_getElem, -Int.natCast_add, -op_alloc_45, -op_st_45, -op_alloc_54, -op_st_54, -op_lit_32_1, -op_st_3]
    obtain ⟨I, hI⟩ : ∃ I : Value → KV, ∀ l v wl, I l v wl ↔ ∃ i : Nat, v = .int .i64 i ∧ i ≤ m.length ∧ Frm (fun _ => False) w wl ∧ RowsOf (Flat SSt.cells) wl w.heap.size 54 7 l (putSteps ps ++ (m.take i).map (SSt.later ps.length)) (fun _ => False) := ⟨_, fun _ _ _ => Iff.rfl⟩
    refine Lp.intro I (fun _ v _ => m.length - nOf v) ⟨(hI _ _ _).2 ⟨0, rfl, by omega, kl, by simpa using hR⟩, ?_⟩
    clear hlow nl kl hR hi hge
    intro wl l v hv
    obtain ⟨i, rfl, hi, kl, hR⟩ := (hI _ _ _).1 hv
    have hlow := hR.own_lt
    have nl := kl.size
    simp only [op_lss, Br_dec]
    refine ⟨fun hlt => ?_, fun hge => ?_⟩
    · have hi' : i < m.length := by omega
      obtain ⟨b, o, cs, e, fz, rfl, q1, q2, q3⟩ := (hr2.frame kl fun _ _ h => h).part SSt.len (by decide) hi'
      simp [-getElem?_pos, -Array.getElem?_eq_getElem, -Int.natCast_add, -op_alloc_45, -op_st_45, -op_alloc_54, -op_st_54, -op_lit_32_1, -op_st_3, q1, q2, q3]
      refine ⟨hi', ?_⟩
      refine op_alloc_ok (z := .agg #[.int .u8 0, .int .i64 0, .int .i64 0, .string ByteArray.empty, .int .i64 0, .int .i64 0, .int .i64 0]) (by kernel_rfl) fun w5 k5 z5 b5 => ?_
      simp only [cells_agg] at b5
      refine op_storeN_ok (n := 7) (by kernel_rfl) b5 rfl (by decide) (by simp [SSt.cells]) fun w6 k6 z6 b6 => ?_
      have b6 : w6.heap[wl.heap.size]? = some (.cells #[.int .u8 m[i].op, .int .i64 m[i].fro, .int .i64 m[i].key, .string m[i].text, .int .i64 m[i].value, .int .i64 m[i].count, .int .i64 m[i].by'] 54 (0, 0)) := by
        rw [ow_all (by simp [SSt.cells])] at b6; exact b6
      have k6' := k5.old k6 fun c hc => .inr (by omega)
      simp [-getElem?_pos, -Array.getElem?_eq_getElem, -Int.natCast_add, -op_alloc_45, -op_st_45, -op_alloc_54, -op_st_54, -op_lit_32_1, -op_st_3, b6]
      refine op_store_ok (by kernel_rfl) b6 (by simp) rfl fun w7 k7 z7 b7 => ?_
      have b7 : w7.heap[wl.heap.size]? = some (.cells (m[i].later ps.length).cells.toArray 54 (0, 0)) := by simpa [SSt.later, SSt.cells] using b7
      have k7' := k6'.old k7 fun c hc => .inr (by omega)
      have hR7 := hR.still hE k7'
      have n7 := k7'.size
      have hx : (m[i].later ps.length).cells.toArray.extract 0 7 = (m[i].later ps.length).cells.toArray := extract_self (by simp [SSt.cells])
      have hs7 : 7 ≤ (m[i].later ps.length).cells.length := Nat.le_refl _
      simp [-getElem?_pos, -Array.getElem?_eq_getElem, -Int.natCast_add, -op_alloc_45, -op_st_45, -op_alloc_54, -op_st_54, -op_lit_32_1, -op_st_3, b7, hx, hs7]
      have htl : (putSteps ps ++ (m.take i).map (SSt.later ps.length)).length = ps.length + i := by rw [List.length_append, putSteps_len, List.length_map, List.length_take]; omega
      refine op_push (u := (m[i].later ps.length).cells) (y := m[i].later ps.length) (G2 := fun _ => False) hE apS (lit_st _) rfl (SSt.one _) hR7 rfl (fun _ h => h.elim) (fun _ _ h => h) (by rw [htl]; omega) (by omega) fun l' w8 k8 hR8 ho8 => ?_
      try simp [-getElem?_pos, -Array.getElem?_eq_getElem, -Int.natCast_add, -op_alloc_45, -op_st_45, -op_alloc_54, -op_st_54, -op_lit_32_1, -op_st_3]
      rw [show IntKind.i64.wrap ((i : Int) + 1) = ((i + 1 : Nat) : Int) from by rw [IntKind.wrap_i64]; omega]
      refine ⟨(hI _ _ _).2 ⟨i + 1, rfl, by omega, (kl.no k7').old k8 fun c hc => .inr (hlow c hc.symm).1, ?_⟩, by simp only [nOf_int]; omega⟩
      rw [List.take_succ_eq_append_getElem hi', List.map_append, ← List.append_assoc]
      exact hR8.mono hE (fun _ h => h.elim id fun h => h) (fun _ h => h.elim) fun _ _ h => h
    · have : i = m.length := by omega
      subst this
      rw [List.take_length] at hR
      exact hK l wl kl hR
end Go.Proofs.YtodjijfblgnfmaaGreatDoor
end
section
namespace Go.Proofs.YtodjijfblgnfmaaGreatDoor
open Go.Vc Go.Proofs Go.Vc.Bt
variable {w w' : World} {K : KV} {Kp : KP} {n : Int} {kn : Nat} {text : Bool} {a1 : Option Addr} {c1 : Nat} {ps : List SPr}
def itemsOf (text : Bool) (kn : Nat) (n : Int) (ps : List SPr) : List SPr := if text then prsOf T.kd (putAll (T.ordI kn n) [] (ps.map T.kd.kv)) else prsOf I.kd (putAll (I.ordI kn n) [] (ps.map I.kd.kv))
theorem items_ans (hn : ps.length < 2 ^ 31) {s : SSt} (hop : s.op = 3) (h0 : s.fro = 0) : (ansOf text kn n (putSteps ps ++ [s.later ps.length])).length = ps.length + 1 ∧ ((ansOf text kn n (putSteps ps ++ [s.later ps.length]))[ps.length]?).map SAns.list = some (itemsOf text kn n ps) := by
  unfold ansOf itemsOf
  cases text
  · exact runS_items ps hn hop h0
  · exact runS_items ps hn hop h0
theorem asks_puts {steps : List SSt} (h1 : ∀ s ∈ steps, s.text.size ≤ 100) (h2 : scost steps < 2 ^ 30) (h3 : ∀ s ∈ steps, s.op = 0 ∨ s.op = 3) : Asks text kn n steps w :=
  ⟨h1, h2, fun ⟨s, hs, h⟩ => by have := h3 s hs; omega, fun ⟨s, hs, h⟩ => by have := h3 s hs; omega, fun ⟨s, hs, h⟩ => by have := h3 s hs; omega, fun ⟨s, hs, h⟩ => by have := h3 s hs; omega⟩
theorem sortedItems_ok (h1 : -9223372036854775808 ≤ n) (h2 : n ≤ 9223372036854775807) (hr : Row w a1 (ps.flatMap SPr.cells)) (hn : ps.length ≤ 1000) (ht : ∀ p ∈ ps, p.text.size ≤ 100)
    (hK : ∀ v w', Frm (fun _ => False) w w' → IsSl w' v (itemsOf text kn n ps).length ((itemsOf text kn n ps).flatMap SPr.cells) → K (.tuple #[v, .bool true]) w') :
    Calls Tryz.prog 22 #[.bool text, orderV kn n, .slice a1 ps.length c1] w (ret K Kp) := by
  refine vc22_calls ?_
  delta vc22
  refine op_box_ok fun w1 k1 z1 b1 => ?_
  simp only [orderV, cells_agg] at b1
  have hx2 : (#[.int .u8 kn, .int .i64 n] : Array Value).extract 0 2 = #[.int .u8 kn, .int .i64 n] := rfl
  simp [-getElem?_pos, -Array.getElem?_eq_getElem, -Int.natCast_add, -op_lit_32_1, -op_lit_38_2, b1, hx2]
  have e0 : (#[.int .u8 3, .int .i64 0, .int .i64 0, .string ByteArray.empty, .int .i64 0, .int .i64 0, .int .i64 0] : Array Value) = (⟨3, 0, 0, ByteArray.empty, 0, 0, 0⟩ : SSt).cells.toArray := by simp [SSt.cells]
  rw [e0]
  generalize hs0 : (⟨3, 0, 0, ByteArray.empty, 0, 0, 0⟩ : SSt) = s0 at *
  refine op_lit_ok (lit_st s0) fun w2 k2 z2 b2 => ?_
  have k2 := Frm.dr k2
  have q2 := k2.get b1 fun h => h
  simp [-getElem?_pos, -Array.getElem?_eq_getElem, -Int.natCast_add, -op_lit_32_1, -op_lit_38_2, q2, hx2]
  have hop : s0.op = 3 := by rw [← hs0]
  have h0 : s0.fro = 0 := by rw [← hs0]
  have ht0 : s0.text.size ≤ 100 := by rw [← hs0]; exact Nat.zero_le _
  have hc0 : s0.cost = 1 := by rw [← hs0]; rfl
  have k12 := k1.no k2
  refine sortedPut_ok (m := [s0]) (hr.frame k12 fun _ _ h => h) ⟨_, _, rfl, Nat.le_refl _, by simp [maxLen], .inr ⟨_, 0, _, _, _, rfl, b2, fun j v hj => by simpa using hj⟩, fun h => nomatch h⟩ (by omega) (by simp) fun l w3 k3 hR3 => ?_
  have hasks : ∀ wz, Asks text kn n (putSteps ps ++ [s0].map (SSt.later ps.length)) wz := fun wz => by
    refine asks_puts (fun s hs => ?_) ?_ fun s hs => ?_
    · rcases List.mem_append.1 hs with hs | hs
      · obtain ⟨_, _, p, hp, e⟩ := putSteps_mem hs
        rw [e]; exact ht p hp
      · simp at hs; rw [hs]; exact ht0
    · rw [scost_app, putSteps_cost]
      have : scost ([s0].map (SSt.later ps.length)) = s0.cost := by simp [scost, SSt.later, SSt.cost]
      omega
    · rcases List.mem_append.1 hs with hs | hs
      · exact .inl (putSteps_mem hs).1
      · simp at hs; rw [hs]; exact .inr hop
  obtain ⟨g1, g2⟩ := items_ans (text := text) (kn := kn) (n := n) (ps := ps) (by omega) hop h0
  rw [← List.map_singleton (f := SSt.later ps.length) (a := s0)] at g1 g2
  generalize putSteps ps ++ [s0].map (SSt.later ps.length) = S at *
  obtain ⟨a3, c3, rfl, hc3, hm3, hr3, _⟩ := hR3.flat
  have q3 := k3.get q2 fun h => h
  have k13 := k12.no k3
  simp [-getElem?_pos, -Array.getElem?_eq_getElem, -Int.natCast_add, -op_lit_32_1, -op_lit_38_2, q3, hx2]
  refine sorted_ok (text := text) (kn := kn) (n := n) h1 h2 hr3 (hasks w3) fun l4 w4 G k4 hR4 => ?_
  generalize ansOf text kn n S = A at *
  have hA : ps.length < A.length := by omega
  obtain ⟨u, g, c, cs, hl4, hg1, hu, hg3, hg4, hg5, pv, hpv, hpr, _⟩ := hR4.get hA
  subst hl4 hpv
  have hg0 : cs[ps.length * 4 + 3]? = some pv := by have := hg3 3 (by decide); simpa using this
  rw [List.getElem?_eq_getElem hA, Option.map_some] at g2
  have g2 := Option.some.inj g2
  rw [g2] at hpr
  have e1 : IntKind.i64.wrap ((ps.length : Int) + 1) = ((ps.length + 1 : Nat) : Int) := by rw [IntKind.wrap_i64]; omega
  have := hK pv w4 (k13.no k4) hpr
  simp [-getElem?_pos, -Array.getElem?_eq_getElem, -Int.natCast_add, -op_lit_32_1, -op_lit_38_2, g1, e1, hg1, hg0]
  exact this
theorem awake_items : itemsOf false 0 0 [⟨5, ByteArray.empty, 1⟩, ⟨-3, ByteArray.empty, 2⟩] = [⟨-3, ByteArray.empty, 2⟩, ⟨5, ByteArray.empty, 1⟩] := by decide +kernel
theorem samePairs_ok {v1 v2 : Value} {xs : List SPr} (h1 : IsSl w v1 xs.length (xs.flatMap SPr.cells)) (h2 : IsSl w v2 xs.length (xs.flatMap SPr.cells)) (hn : xs.length < 2 ^ 60) (hK : ∀ w', Frm (fun _ => False) w w' → K (.bool true) w') :
    Calls Tryz.prog 32 #[v1, v2] w (ret K Kp) := by
  refine vc32_calls ?_
  delta vc32
  obtain ⟨a2, c2, rfl, _⟩ := id h2
  obtain ⟨a1, c1, rfl, _⟩ := id h1
  rw [op_len_slice (by kernel_rfl), op_len_slice (by kernel_rfl), op_neq, decide_eq_true rfl, Bool.not_true, Br_false]
  exact sameLoop (by kernel_rfl) (by kernel_rfl) (by kernel_rfl) (by kernel_rfl) (by kernel_rfl) (by kernel_rfl) (by kernel_rfl) h1 h2 hn hK
theorem awake_ok (hK : ∀ w', Frm (fun _ => False) w w' → K (.bool true) w') : Calls Tryz.prog 14 #[] w (ret K Kp) := by
  refine vc14_calls ?_
  delta vc14
  simp [-getElem?_pos, -Array.getElem?_eq_getElem, -Int.natCast_add, -op_lit_32_1, -op_lit_38_2]
  refine op_lit_ok lit_38_2 fun w1 k1 z1 b1 => ?_
  have hp1 : Row w1 (some ⟨w.heap.size, 0, none⟩) ([(⟨5, ByteArray.empty, 1⟩ : SPr), ⟨-3, ByteArray.empty, 2⟩].flatMap SPr.cells) := .inr ⟨_, 0, _, _, _, rfl, b1, fun j v hj => by simpa [SPr.cells] using hj⟩
  refine sortedItems_ok (text := false) (kn := 0) (n := 0) (ps := [⟨5, ByteArray.empty, 1⟩, ⟨-3, ByteArray.empty, 2⟩]) (by decide) (by decide) hp1 (by decide) (fun p hp => ?_) fun v w2 k2 hv => ?_
  · simp at hp
    rcases hp with rfl | rfl <;> exact Nat.zero_le _
  rw [awake_items] at hv
  simp [-getElem?_pos, -Array.getElem?_eq_getElem, -Int.natCast_add, -op_lit_32_1, -op_lit_38_2]
  refine op_lit_ok lit_38_2 fun w3 k3 z3 b3 => ?_
  refine samePairs_ok (xs := [⟨-3, ByteArray.empty, 2⟩, ⟨5, ByteArray.empty, 1⟩]) (hv.still k3) ⟨_, _, rfl, Nat.le_refl _, by simp [maxLen], .inr ⟨_, 0, _, _, _, rfl, b3, fun j v hj => by simpa [SPr.cells] using hj⟩, fun h => nomatch h⟩ (by decide) fun w4 k4 => ?_
  exact hK w4 (((k1.no k2).no k3).no k4)
end Go.Proofs.YtodjijfblgnfmaaGreatDoor
end
section
namespace Go.Vc
open Go.ChangeShapes Go.WideShapes Go.ChangeAt Go.RowKit Go.WideElems
variable {H : Type} {enc : TypeId × Value → H} {P : Program} {W W' : World}
def typed (P : Program) (ts : List TypeId) : Bool := ts.all fun t => P.readableRec t && decide (t < P.types.size)
theorem below_of (h : ∀ {M}, Frm M W W') : Below W.heap.size W W' := ⟨(h (M := fun _ => False)).os, (h (M := fun _ => False)).tape, (h (M := fun _ => False)).output, (h (M := fun _ => False)).size, fun k hk => (h (M := fun _ => False)).block k hk (fun h => h)⟩
theorem trodAll_below (hl : laidOutB P = true) {sp : Nat → Bool} (hb : Below W.heap.size W W') :
    ∀ {ts : List TypeId} {vs : List Value} {ds : List (DataW H)} {ps : List MemPlace}, typed P ts = true → (∀ p ∈ ps, p.block < W.heap.size) → (∀ p ∈ ps, sp p.block = true) →
      DataW.TrodAll enc P W 0 (fun _ => true) true ts vs ds ps → DataW.TrodAll enc P W' 0 sp true ts vs ds ps
  | [], [], [], _, _, _, _, h => h
  | t :: ts, v :: vs, d :: ds, ps, ht, h1, h2, h => by
    obtain ⟨p, q, hd, hr, rfl⟩ := h
    simp only [typed, List.all_cons, Bool.and_eq_true, decide_eq_true_eq] at ht
    refine ⟨p, q, Trod_stays hl ht.1.1 ht.1.2 hd (fun x hx => hb.same (h1 x (by simp [hx]))) (fun x hx => h2 x (by simp [hx])), ?_, rfl⟩
    exact trodAll_below hl hb (by simpa [typed] using ht.2) (fun x hx => h1 x (by simp [hx])) (fun x hx => h2 x (by simp [hx])) hr
  | [], [], _ :: _, _, _, _, _, h => h.elim
  | [], _ :: _, _, _, _, _, _, h => h.elim
  | _ :: _, [], _, _, _, _, _, h => h.elim
  | _ :: _, _ :: _, [], _, _, _, _, h => h.elim
theorem trodAll_len : ∀ {ts : List TypeId} {vs : List Value} {ds : List (DataW H)} {ps : List MemPlace} {b : Nat} {sp : Nat → Bool} {hd : Bool}, DataW.TrodAll enc P W b sp hd ts vs ds ps → ds.length = ts.length
  | [], [], [], _, _, _, _, _ => rfl
  | t :: ts, v :: vs, d :: ds, ps, _, _, _, h => by
    obtain ⟨p, q, hd, hr, rfl⟩ := h
    simp [trodAll_len hr]
  | [], [], _ :: _, _, _, _, _, h => h.elim
  | [], _ :: _, _, _, _, _, _, h => h.elim
  | _ :: _, [], _, _, _, _, _, h => h.elim
  | _ :: _, _ :: _, [], _, _, _, _, h => h.elim
/-! ### arguments -/
theorem open_rows {t e : TypeId} {base : Nat} {v : Value} {d : DataW H} {ps : List MemPlace} (ht : P.underlying t = some (.slice e)) {c : Nat} (hc : P.cellsOf e = c) (hc0 : 0 < c)
    (hok : Value.okWide P W .any base t v) (h : DataW.Trod enc P W 0 (fun _ => true) true t v d ps) :
    ∃ (a : Option Addr) (len cap : Nat) (f : Nat → List Value), v = .slice a len cap ∧ len ≤ cap ∧ cap ≤ maxLen ∧ (a = none → len = 0) ∧ (∀ p, a = some p → p.spot = none ∧ p.block < W.heap.size) ∧
      Row W a ((List.range len).flatMap f) ∧ (∀ i, (f i).length = c) ∧ ∀ i, i < len → ∃ n x, DataW.trod enc P W 0 (fun _ => true) true n e (f i) = some x := by
  have hv : v = .slice none 0 0 ∨ ∃ p len cap, v = .slice (some p) len cap ∧ p.spot = none ∧ p.block < W.heap.size := by
    unfold Value.okWide at hok
    rw [ht] at hok
    simp only [Cell.okWide, ht] at hok
    unfold Cell.ok at hok
    rw [ht] at hok
    cases v with
    | slice a len cap =>
      cases a with
      | none =>
        match len, cap, hok with
        | 0, 0, _ => exact .inl rfl
      | some p =>
        refine .inr ⟨p, len, cap, rfl, hok.2.2.2.1, ?_⟩
        obtain ⟨row, cells, hsh, _⟩ := hok.2.2.2.2
        unfold World.shape? at hsh
        split at hsh
        · rename_i hb; exact lt_of_get hb
        · cases hsh
    | _ => exact hok.elim
  obtain ⟨fuel, hf⟩ := h
  rcases hv with rfl | ⟨p, len, cap, rfl, hs, hbl⟩
  · exact ⟨none, 0, 0, fun _ => List.replicate c undef, rfl, Nat.le_refl _, by simp [maxLen], fun _ => rfl, (fun p h => nomatch h), .inl rfl, fun i => by simp, fun i hi => by omega⟩
  · have hf' : DataW.trod enc P W 0 (fun _ => true) true fuel t [.slice (some p) len cap] = some (d, ps) := hf
    rcases Go.Deep.open_slice ht hf' with ⟨h0, _⟩ | ⟨a, len', cap', m, n, D, Pl, hcs, _, hl, hm, hmm, _, hx⟩
    · cases h0
    · simp only [List.cons.injEq, Value.slice.injEq, Option.some.injEq, and_true] at hcs
      obtain ⟨rfl, rfl, rfl⟩ := hcs
      obtain ⟨b, o, sp⟩ := p
      simp only at hs
      subst hs
      have hle : ∀ i, i < len → ∃ cs', W.cells? 0 ((⟨b, o, none⟩ : Addr).add (i * c)) c = some cs' ∧ DataW.trod enc P W 0 (fun _ => true) true n e cs' = some (D i, Pl i) := fun i hi => by
        have := hx i (by rw [hmm]; simp; omega)
        rwa [hc] at this
      have hcell : ∀ i, i < len → ∃ cs' : List Value, cs'.length = c ∧ (∀ r, r < c → W.cell? ⟨b, o + (i * c + r), none⟩ = cs'[r]?) ∧ DataW.trod enc P W 0 (fun _ => true) true n e cs' = some (D i, Pl i) := fun i hi => by
        obtain ⟨cs', h1, h2⟩ := hle i hi
        obtain ⟨_, h3, h4⟩ := World.cells?_some h1
        refine ⟨cs', h3, fun r hr => ?_, h2⟩
        rw [← h4 r hr, Go.Deep.add_add, add_spot rfl]
      have hch : ∃ f : Nat → List Value, (∀ i, (f i).length = c) ∧ ∀ i, i < len → (∀ r, r < c → W.cell? ⟨b, o + (i * c + r), none⟩ = (f i)[r]?) ∧ DataW.trod enc P W 0 (fun _ => true) true n e (f i) = some (D i, Pl i) := by
        classical
        refine ⟨fun i => if hi : i < len then Classical.choose (hcell i hi) else List.replicate c undef, fun i => ?_, fun i hi => ?_⟩
        · by_cases hi : i < len
          · simp only [dif_pos hi]; exact (Classical.choose_spec (hcell i hi)).1
          · simp only [dif_neg hi]; simp
        · simp only [dif_pos hi]; exact (Classical.choose_spec (hcell i hi)).2
      obtain ⟨f, hf1, hf2⟩ := hch
      have hrow : Row W (some ⟨b, o, none⟩) ((List.range len).flatMap f) ∧ (len ≠ 0 → b < W.heap.size) := by
        by_cases h0 : len = 0
        · subst h0; exact ⟨.inl rfl, fun h => absurd rfl h⟩
        · have hz := (hf2 0 (by omega)).1 0 hc0
          rw [List.getElem?_eq_getElem (by rw [hf1]; exact hc0)] at hz
          have hb : ∃ cs e' fz, W.heap[b]? = some (.cells cs e' fz) := by
            unfold World.cell? at hz
            split at hz
            · rename_i c' e' fz hb; exact ⟨_, _, _, hb⟩
            · cases hz
          obtain ⟨cs, e', fz, hb⟩ := hb
          refine ⟨.inr ⟨b, o, cs, e', fz, rfl, hb, fun j v hj => ?_⟩, fun _ => lt_of_get hb⟩
          have hjl : j < len * c := by
            have := (List.getElem?_eq_some_iff.1 hj).1
            rwa [flatMap_len hf1, List.length_range] at this
          have hjc : j = j / c * c + j % c := by rw [Nat.mul_comm]; exact (Nat.div_add_mod j c).symm
          have hi : j / c < len := Nat.div_lt_of_lt_mul (by rw [Nat.mul_comm]; exact hjl)
          have hr : j % c < c := Nat.mod_lt _ hc0
          have hg := flatMap_get hf1 (List.range len) (j / c) (j % c) (by simpa using hi) hr
          rw [← hjc] at hg
          rw [hg] at hj
          simp only [List.getElem_range] at hj
          have := (hf2 _ hi).1 _ hr
          rw [← hjc, hj] at this
          rw [← this]
          exact (cell_of (p := ⟨b, o + j, none⟩) hb rfl).symm
      exact ⟨some ⟨b, o, none⟩, len, cap, f, rfl, hl, hm, (fun h => nomatch h), fun p hp => by cases hp; exact ⟨rfl, hbl⟩, hrow.1, hf1, fun i hi => ⟨n, _, (hf2 i hi).2⟩⟩
theorem open_fields {t : TypeId} {fs : Array Field} {n : Nat} {cs : List Value} {x : DataW H × List MemPlace} (ht : P.underlying t = some (.struct fs)) (h : DataW.trod enc P W 0 (fun _ => true) true n t cs = some x)
    {i : Nat} {f : Field} (hf : fs[i]? = some f) (ho : f.offset = i) (hc : P.cellsOf f.type = 1) (hi : i < cs.length) :
    ∃ n y, DataW.trod enc P W 0 (fun _ => true) true n f.type [cs[i]] = some y := by
  obtain ⟨xs, k, rfl, rfl, hl, hxl, hx⟩ := DataW.trod_struct ht h
  have h1 := hx i f hf
  have hi2 : i < xs.length := by rw [hxl]; exact (Array.getElem?_eq_some_iff.1 hf).1
  rw [ho, hc, List.getElem?_eq_getElem hi2, List.drop_eq_getElem_cons hi, List.take_succ_cons, List.take_zero] at h1
  exact ⟨k, _, h1⟩
theorem field_int {t : TypeId} {k : IntKind} {n : Nat} {u : Value} {x : DataW H × List MemPlace} (ht : P.underlying t = some (.int k)) (h : DataW.trod enc P W 0 (fun _ => true) true n t [u] = some x) : ∃ m, u = .int k m ∧ k.min ≤ m ∧ m ≤ k.max := by
  obtain ⟨m, hm, _, hw⟩ := DataW.trod_int ht h
  simp only [Lit.wf, Bool.and_eq_true, decide_eq_true_eq] at hw
  exact ⟨m, by simpa using hm, hw.1, hw.2⟩
end Go.Vc
end
section
namespace Go.RowKit
open Go.ChangeShapes Go.WideShapes Go.ChangeAt Go.WideElems
variable {H : Type} {enc : TypeId × Value → H} {P : Program} {w : World} {base : Nat} {spare : Nat → Bool} {held : Bool}
end Go.RowKit
end
section
namespace Go.Vc
open Go.ChangeShapes Go.WideShapes Go.ChangeAt Go.RowKit Go.WideElems
variable {H : Type} {enc : TypeId × Value → H} {P : Program} {W W' : World}
theorem open_agg {t : TypeId} {fs : Array Field} {base n : Nat} {v : Value} {d : DataW H} {ps : List MemPlace} (ht : P.underlying t = some (.struct fs)) (hc : P.cellsOf t = n)
    (hok : Value.okWide P W .any base t v) (h : DataW.Trod enc P W 0 (fun _ => true) true t v d ps) :
    ∃ cs : List Value, v = .agg cs.toArray ∧ cs.length = n ∧ ∃ m x, DataW.trod enc P W 0 (fun _ => true) true m t cs = some x := by
  unfold Value.okWide at hok
  rw [ht] at hok
  obtain ⟨cs, rfl, hs, _⟩ := hok
  obtain ⟨fuel, hf⟩ := h
  exact ⟨cs.toList, by simp, by simp [hs, hc], fuel, _, hf⟩
theorem rows_of {α : Type} {f : Nat → List Value} {c : α → List Value} {len : Nat} {a : Option Addr} (d : α) (h : Row W a ((List.range len).flatMap f)) (hf : ∀ i, i < len → ∃ s, f i = c s) : ∃ xs : List α, xs.length = len ∧ Row W a (xs.flatMap c) := by
  obtain ⟨g, hg⟩ := Classical.axiomOfChoice (r := fun i (s : α) => i < len → f i = c s) fun i => by
    by_cases hi : i < len
    · obtain ⟨s, hs⟩ := hf i hi
      exact ⟨s, fun _ => hs⟩
    · exact ⟨d, fun h => absurd h hi⟩
  refine ⟨(List.range len).map g, by simp, ?_⟩
  rw [Go.Deep.flatMap_congr_range hg] at h
  rwa [List.flatMap_map]
end Go.Vc
end
section
namespace Go.Vc
open Go.ChangeShapes Go.WideShapes Go.ChangeAt Go.RowKit
variable {H : Type} {enc : TypeId × Value → H} {P : Program} {W W' : World}
theorem returns_true_laid {C : Checked} {os : Os} {f : FuncId} {fn : Func} {s : ChangeSpec} {tb : TypeId} {laid : List (String × DataW Unit)}
    (own : ownKnob C.prog.godebug = none) (started : os.Started) (noInit : C.prog.inits.idxOf? f = none) (hfn : C.prog.funcs[f]? = some fn)
    (witness : ∃ (w : World) (tape : Tape) (i : Input), w.os = os ∧ (w.forCall tape i).Shaped C.prog ∧ i.vars = [] ∧ Input.okWide C.prog (w.forCall tape i) .any w.heap.size f i ∧
      ((s.pre enc C.prog fn [] false (w.forCall tape i).memory i.args ∧ laidMetH C.prog laid (w.forCall tape i).memory) ∧ sizedMet enc C.prog fn (OpenSpec.ofChange s) false (w.forCall tape i).memory i.args) ∧ ({} : Assume).holds C.prog (lone (Frame.enter C.prog f i.args .normal) [] (w.forCall tape i)))
    (hl : laidOutB C.prog = true) (ht : typed C.prog fn.params.toList = true) (hv : s.vars = []) (hres : fn.resultTypes = #[tb]) (hb : C.prog.underlying tb = some .bool)
    (hs : ∀ ds : List (DataW H), ds.length = fn.params.toList.length → s.fn H ds = { results := [.lit (.bool true)], args := ds })
    (contract : ∀ (W : World) (base : Nat) (args : Array Value) (ds : List (DataW H)) (before : List MemPlace), W.ShapedOpen C.prog → laidMetH C.prog laid W →
      (∀ (j : Nat) t v, fn.params[j]? = some t → args[j]? = some v → Value.okWide C.prog W .any base t v) →
      DataW.TrodAll enc C.prog W 0 (fun _ => true) true fn.params.toList args.toList ds before → (∀ p ∈ before, p.block < W.heap.size) →
      Calls C.prog f args W (ret (fun v W' => v = .bool true ∧ ∀ M, Frm M W W') fun _ _ => False)) :
    ReturnsInHanded {} C os f .any (fun w args => (s.pre enc C.prog fn [] false w args ∧ laidMetH C.prog laid w) ∧ sizedMet enc C.prog fn (OpenSpec.ofChange s) false w args) (s.post enc C.prog fn false true false false) := by
  refine returnsInHanded_of_calls own started noInit witness ?_
  intro w tape i _ hsh _ hok hpre hholds
  obtain ⟨_, _, _, fn', hfn', _, _, _, _, hval⟩ := hok
  have e : fn' = fn := Option.some.inj (hfn'.symm.trans hfn)
  subst e
  obtain ⟨⟨⟨ds, gs, before, hw, hc⟩, hL⟩, hz⟩ := hpre
  have hL' : laidMetH C.prog laid (w.forCall tape i) := hL.of_heap (by rfl)
  have hw' := DataW.Whole.of_heap (w' := w.forCall tape i) (by rfl) hw
  have hlt := hw'.lt
  have hw'' := hw'
  obtain ⟨p, q, hA, hV, rfl, hfz, hnd⟩ := hw'
  rw [hv] at hV
  obtain ⟨rfl, rfl⟩ := trodVars_none hV
  rw [List.append_nil] at hlt hw''
  refine (contract (w.forCall tape i) w.heap.size i.args ds p hsh hL' hval hA hlt).mono fun e W' he => ?_
  cases e with
  | returned v =>
    obtain ⟨rfl, hf⟩ := he
    have hb' := below_of (fun {M} => hf M)
    have hlen := trodAll_len hA
    have hsd : s.fn H (ds ++ []) = { results := [.lit (.bool true)], args := ds } := by rw [List.append_nil]; exact hs ds hlen
    refine ChangeSpec.post_blind ⟨ds, [], p, [], p, [], hw'', ?_, ?_, ?_, World.keptBut_mono (fun x hx => ⟨hx, .inr (.inl hx)⟩) (hb'.frame (· ∈ p)), (fun h => nomatch h)⟩
    · rw [hsd, hres]; exact trodAll_mk1 (shut_bool hb _)
    · rw [hsd]; exact trodAll_below hl hb' ht hlt (fun x hx => by simpa using hlt x hx) hA
    · rw [hsd, hv]; rfl
  | panicked _ => exact he.elim
  | outgrown => exact he.elim
end Go.Vc
end
section
namespace Go.Proofs.YtodjijfblgnfmaaGreatDoor
open Go.Vc Go.Proofs Go.Vc.Bt Go.ChangeShapes Go.WideShapes Go.ChangeAt Go.RowKit
variable {H : Type} {enc : TypeId × Value → H} {W : World}
theorem row_own : ownKnob Tryz.prog.godebug = none := by kernel_rfl
theorem row_laid : laidOutB Tryz.prog = true := by kernel_rfl
abbrev laid3 : List (String × DataW Unit) := [("math/bits.deBruijn32tab", Rows.laid_math_bits_deBruijn32tab), ("math/bits.deBruijn64tab", Rows.laid_math_bits_deBruijn64tab), ("internal/strconv.uint64pow10", Rows.laid_internal_strconv_uint64pow10)]
theorem door_met (os : Os) (args : Array Value) : laidMetH Tryz.prog laid3 ((World.doorLaid Tryz.prog 24 os).forCall (fun _ _ => 0) ⟨#[], args, []⟩).memory :=
  laidMetH_of_parts3 (fuel := 8) (laidMet_of_run' 8 (by kernel_rfl) (by kernel_rfl)) (by kernel_rfl) (by kernel_rfl)
theorem open_order {base : Nat} {v : Value} {d : DataW H} {ps : List MemPlace} (hok : Value.okWide Tryz.prog W .any base 23 v) (h : DataW.Trod enc Tryz.prog W 0 (fun _ => true) true 23 v d ps) :
    ∃ (kn : Nat) (n : Int), v = orderV kn n ∧ -9223372036854775808 ≤ n ∧ n ≤ 9223372036854775807 := by
  obtain ⟨cs, rfl, hl, n, x, hx⟩ := open_agg Tryz.underlying23 (n := 2) (by kernel_rfl) hok h
  match cs, hl, hx with
  | [u0, u1], _, hx =>
    have hu := Tryz.underlying23
    obtain ⟨n0, y0, z0⟩ := open_fields hu hx (i := 0) rfl rfl (by kernel_rfl) (by simp)
    obtain ⟨n1, y1, z1⟩ := open_fields hu hx (i := 1) rfl rfl (by kernel_rfl) (by simp)
    obtain ⟨m0, e0, b0, _⟩ := field_int Tryz.underlying5 z0
    obtain ⟨m1, e1, b1, b2⟩ := field_int Tryz.underlying2 z1
    have h0 : (m0.toNat : Int) = m0 := Int.toNat_of_nonneg b0
    refine ⟨m0.toNat, m1, ?_, b1, b2⟩
    simp only [List.getElem_cons_zero, List.getElem_cons_succ] at e0 e1
    simp only [orderV, h0, e0, e1]
theorem spr_of {n : Nat} {cs : List Value} {x : DataW H × List MemPlace} (hl : cs.length = 3) (h : DataW.trod enc Tryz.prog W 0 (fun _ => true) true n 45 cs = some x) : ∃ s : SPr, cs = s.cells := by
  match cs, hl, h with
  | [u0, u1, u2], _, h =>
    have hu := Tryz.underlying45
    obtain ⟨n0, y0, z0⟩ := open_fields hu h (i := 0) rfl rfl (by kernel_rfl) (by simp)
    obtain ⟨n1, y1, z1⟩ := open_fields hu h (i := 1) rfl rfl (by kernel_rfl) (by simp)
    obtain ⟨n2, y2, z2⟩ := open_fields hu h (i := 2) rfl rfl (by kernel_rfl) (by simp)
    obtain ⟨m0, e0, _⟩ := field_int Tryz.underlying2 z0
    obtain ⟨m1, e1, _⟩ := DataW.trod_string Tryz.underlying9 z1
    obtain ⟨m2, e2, _⟩ := field_int Tryz.underlying2 z2
    refine ⟨⟨m0, m1, m2⟩, ?_⟩
    simp only [List.getElem_cons_zero, List.getElem_cons_succ] at e0 e1 e2
    obtain ⟨rfl, _⟩ := List.cons.inj e1
    simp only [SPr.cells, e0, e2]
theorem open_pairs {base : Nat} {v : Value} {d : DataW H} {ps : List MemPlace} (hok : Value.okWide Tryz.prog W .any base 38 v) (h : DataW.Trod enc Tryz.prog W 0 (fun _ => true) true 38 v d ps) :
    ∃ (a : Option Addr) (cap : Nat) (xs : List SPr), v = .slice a xs.length cap ∧ xs.length ≤ cap ∧ cap ≤ maxLen ∧ (a = none → xs.length = 0) ∧ Row W a (xs.flatMap SPr.cells) := by
  obtain ⟨a, len, cap, f, rfl, h1, h2, h3, h4, h6, h7, h8⟩ := open_rows Tryz.underlying38 (c := 3) (by kernel_rfl) (by decide) hok h
  obtain ⟨xs, rfl, hr⟩ := rows_of (c := SPr.cells) ⟨0, ⟨#[]⟩, 0⟩ h6 fun i hi => by
    obtain ⟨n, x, hx⟩ := h8 i hi
    exact spr_of (h7 i) hx
  exact ⟨a, cap, xs, rfl, h1, h2, h3, hr⟩
theorem open_flag {base : Nat} {v : Value} {d : DataW H} {ps : List MemPlace} (hok : Value.okWide Tryz.prog W .any base 4 v) (h : DataW.Trod enc Tryz.prog W 0 (fun _ => true) true 4 v d ps) : ∃ b : Bool, v = .bool b := by
  obtain ⟨b, h1, _⟩ := open_bool Tryz.underlying4 hok h
  exact ⟨b, h1⟩
end Go.Proofs.YtodjijfblgnfmaaGreatDoor
end
section
namespace Go.Proofs.YtodjijfblgnfmaaGreatDoor
open Go.Vc Go.Proofs
variable {S : Sig} {a0 a1 a2 a3 a4 a5 a6 a7 a8 a9 : Value} {w : World} {K : KV} {Kp : KP}
private theorem follows_BVcLP : Tryz.prog.follows .mixedOrders = true := by kernel_rfl
def vc34 (S : Sig) (a0 a1 a2 a3 : Value) (w : World) (K : KV) (Kp : KP) : Prop :=
 S.op (.box 23 a0) w (fun v4 w =>
 S.op (.box 45 a2) w (fun v6 w =>
 S.op (.box 45 a3) w (fun v7 w =>
 Jn fun (J4 : KV) =>
 (S.op (.fieldAddr 23 v4 0) w (fun v14 w =>
 S.op (.load 5 v14) w (fun v15 w =>
 S.op (.bin .eql 5 false true v15 (.int .u8 2)) w (fun v16 w =>
 Br v16 (
 J4 (.int .i64 (-1)) w) (
 J4 (.int .i64 1) w)) Kp) Kp) Kp) ∧
 (∀ (w : World) (_ : Nat → Value) (j9 : Value), J4 j9 w →
 S.pur (.fieldAddr 45 v6 0) (fun v17 =>
 S.ld (.load 2 v17) w.drew (fun v18 =>
 S.pur (.fieldAddr 45 v7 0) (fun v19 =>
 S.ld (.load 2 v19) w.drew (fun v20 =>
 S.pur (.bin .lss 2 false false v18 v20) (fun v21 =>
 S.pur (.fieldAddr 45 v6 0) (fun v22 =>
 S.ld (.load 2 v22) w.drew (fun v23 =>
 S.pur (.fieldAddr 45 v7 0) (fun v24 =>
 S.ld (.load 2 v24) w.drew (fun v25 =>
 S.pur (.bin .gtr 2 false false v23 v25) (fun v26 =>
 S.same (.load 2 v24) v25 w.drew ∧
 S.same (.load 2 v22) v23 w.drew ∧
 Jn fun (J9 : Value → KV) =>
 (S.op (.fieldAddr 23 v4 0) w.drew (fun v27 w =>
 S.op (.load 5 v27) w (fun v28 w =>
 S.op (.bin .eql 5 false true v28 (.int .u8 3)) w (fun v29 w =>
 Br v29 (
 S.pur (.fieldAddr 45 v6 0) (fun v30 =>
 S.ld (.load 2 v30) w.drew (fun v31 =>
 S.pur (.fieldAddr 23 v4 1) (fun v32 =>
 S.ld (.load 2 v32) w.drew (fun v33 =>
 S.pur (.fieldAddr 45 v7 0) (fun v35 =>
 S.ld (.load 2 v35) w.drew (fun v36 =>
 S.pur (.fieldAddr 23 v4 1) (fun v37 =>
 S.ld (.load 2 v37) w.drew (fun v38 =>
 S.call (.fn 59) [v31, v33] w.drew (fun v34 w =>
 S.same (.load 2 v37) v38 w ∧
 S.same (.load 2 v35) v36 w ∧
 S.call (.fn 59) [v36, v38] w (fun v39 w =>
 S.op (.bin .neq 2 false false v34 v39) w (fun v42 w =>
 Br v42 (
 S.op (.bin .lss 2 false false v34 v39) w (fun v45 w =>
 S.op (.bin .gtr 2 false false v34 v39) w (fun v48 w =>
 J9 v45 v48 w) Kp) Kp) (
 J9 v21 v26 w)) Kp) Kp) Kp))))))))) (
 J9 v21 v26 w)) Kp) Kp) Kp) ∧
 (∀ (w : World) (_ : Nat → Value) (j10 : Value) (j11 : Value), J9 j10 j11 w →
 Br a1 (
 S.pur (.fieldAddr 45 v6 1) (fun v50 =>
 S.ld (.load 9 v50) w.drew (fun v51 =>
 S.pur (.fieldAddr 45 v7 1) (fun v52 =>
 S.ld (.load 9 v52) w.drew (fun v53 =>
 S.pur (.bin .lss 9 false false v51 v53) (fun v54 =>
 S.pur (.fieldAddr 45 v6 1) (fun v55 =>
 S.ld (.load 9 v55) w.drew (fun v56 =>
 S.pur (.fieldAddr 45 v7 1) (fun v57 =>
 S.ld (.load 9 v57) w.drew (fun v58 =>
 S.pur (.bin .gtr 9 false false v56 v58) (fun v59 =>
 S.same (.load 9 v57) v58 w.drew ∧
 S.same (.load 9 v55) v56 w.drew ∧
 S.op (.fieldAddr 23 v4 0) w.drew (fun v60 w =>
 S.op (.load 5 v60) w (fun v61 w =>
 S.op (.bin .eql 5 false true v61 (.int .u8 3)) w (fun v62 w =>
 Br v62 (
 S.op (.fieldAddr 45 v6 1) w (fun v64 w =>
 S.op (.load 9 v64) w (fun v65 w =>
 S.op (.blt .len [9] 3 [v65]) w (fun v66 w =>
 S.op (.fieldAddr 45 v7 1) w (fun v67 w =>
 S.op (.load 9 v67) w (fun v68 w =>
 S.op (.blt .len [9] 3 [v68]) w (fun v69 w =>
 S.op (.bin .neq 3 false false v66 v69) w (fun v70 w =>
 Br v70 (
 S.pur (.fieldAddr 45 v6 1) (fun v72 =>
 S.ld (.load 9 v72) w.drew (fun v73 =>
 S.ld (.blt .len [9] 3 [v73]) w.drew (fun v74 =>
 S.pur (.fieldAddr 45 v7 1) (fun v75 =>
 S.ld (.load 9 v75) w.drew (fun v76 =>
 S.ld (.blt .len [9] 3 [v76]) w.drew (fun v77 =>
 S.pur (.bin .lss 3 false false v74 v77) (fun v78 =>
 S.pur (.fieldAddr 45 v6 1) (fun v79 =>
 S.ld (.load 9 v79) w.drew (fun v80 =>
 S.ld (.blt .len [9] 3 [v80]) w.drew (fun v81 =>
 S.pur (.fieldAddr 45 v7 1) (fun v82 =>
 S.ld (.load 9 v82) w.drew (fun v83 =>
 S.ld (.blt .len [9] 3 [v83]) w.drew (fun v84 =>
 S.pur (.bin .gtr 3 false false v81 v84) (fun v85 =>
 S.same (.blt .len [9] 3 [v83]) v84 w.drew ∧
 S.same (.load 9 v82) v83 w.drew ∧
 S.same (.blt .len [9] 3 [v80]) v81 w.drew ∧
 S.same (.load 9 v79) v80 w.drew ∧
 Br v78 (
 S.op (.un .neg j9) w.drew (fun v89 w =>
 K v89 w) Kp) (
 Br v85 (
 K j9 w.drew) (
 K (.int .i64 0) w.drew))))))))))))))))) (
 Br v54 (
 S.op (.un .neg j9) w (fun v89 w =>
 K v89 w) Kp) (
 Br v59 (
 K j9 w) (
 K (.int .i64 0) w)))) Kp) Kp) Kp) Kp) Kp) Kp) Kp) (
 Br v54 (
 S.op (.un .neg j9) w (fun v89 w =>
 K v89 w) Kp) (
 Br v59 (
 K j9 w) (
 K (.int .i64 0) w)))) Kp) Kp) Kp))))))))))) (
 Br j10 (
 S.op (.un .neg j9) w (fun v89 w =>
 K v89 w) Kp) (
 Br j11 (
 K j9 w) (
 K (.int .i64 0) w)))))))))))))))) Kp) Kp) Kp
theorem vc34_eq : vc34 S a0 a1 a2 a3 w K Kp = fVC S [] [(4, [9]), (9, [10, 11])] Tryz.f34 [a0, a1, a2, a3] w K Kp := by kernel_rfl
theorem vc34_calls (h : vc34 nP a0 a1 a2 a3 w K Kp) : Calls Tryz.prog 34 #[a0, a1, a2, a3] w (ret K Kp) :=
 fVC_sound (args := [a0, a1, a2, a3]) nice_le follows_BVcLP Tryz.func34 (by kernel_rfl) (Eq.mp vc34_eq h)
def vc59 (S : Sig) (a0 a1 : Value) (w : World) (K : KV) (Kp : KP) : Prop :=
 S.op (.bin .rem 2 false false a0 a1) w (fun v8 w =>
 S.op (.bin .lss 2 false true v8 (.int .i64 0)) w (fun v10 w =>
 Br v10 (
 S.op (.bin .add 2 false false v8 a1) w (fun v13 w =>
 K v13 w) Kp) (
 K v8 w)) Kp) Kp
theorem vc59_eq : vc59 S a0 a1 w K Kp = fVC S [] [] Tryz.f59 [a0, a1] w K Kp := by kernel_rfl
theorem vc59_calls (h : vc59 nP a0 a1 w K Kp) : Calls Tryz.prog 59 #[a0, a1] w (ret K Kp) :=
 fVC_sound (args := [a0, a1]) nice_le follows_BVcLP Tryz.func59 (by kernel_rfl) (Eq.mp vc59_eq h)
def vc48 (S : Sig) (a0 a1 a2 a3 : Value) (w : World) (K : KV) (Kp : KP) : Prop :=
 S.op (.box 23 a0) w (fun v4 w =>
 S.op (.box 45 a3) w (fun v7 w =>
 S.op (.blt .len [38] 3 [a2]) w (fun v14 w =>
 Lp fun (I2 : Value → KV) (μ2 : Value → Value → World → Nat) => I2 (.int .i64 0) v14 w ∧
 ∀ (wl2 : World) (_ : Nat → Value) (s10 : Value) (s11 : Value), I2 s10 s11 wl2 →
 S.op (.bin .lss 3 false false s10 s11) wl2 (fun v17 w =>
 Br v17 (
 S.op (.bin .add 3 false false s10 s11) w (fun v20 w =>
 S.op (.bin .quo 3 false true v20 (.int .i64 2)) w (fun v21 w =>
 S.ld (.load 23 v4) w.drew (fun v22 =>
 S.pur (.indexAddr 38 a2 v21) (fun v26 =>
 S.ld (.load 45 v26) w.drew (fun v27 =>
 S.ld (.load 45 v7) w.drew (fun v28 =>
 S.call (.fn 34) [v22, a1, v27, v28] w.drew (fun v29 w =>
 S.pur (.bin .lss 3 false true v29 (.int .i64 0)) (fun v30 =>
 Br v30 (
 S.op (.bin .add 3 false true v21 (.int .i64 1)) w (fun v32 w =>
 I2 v32 s11 w ∧ μ2 v32 s11 w < μ2 s10 s11 wl2) Kp) (
 I2 s10 v21 w ∧ μ2 s10 v21 w < μ2 s10 s11 wl2))) Kp))))) Kp) Kp) (
 S.ld (.blt .len [38] 3 [a2]) w.drew (fun v37 =>
 S.pur (.bin .lss 3 false false s10 v37) (fun v38 =>
 Br v38 (
 S.ld (.load 23 v4) w.drew (fun v40 =>
 S.pur (.indexAddr 38 a2 s10) (fun v44 =>
 S.ld (.load 45 v44) w.drew (fun v45 =>
 S.ld (.load 45 v7) w.drew (fun v46 =>
 S.call (.fn 34) [v40, a1, v45, v46] w.drew (fun v47 w =>
 S.pur (.bin .eql 3 false true v47 (.int .i64 0)) (fun v48 =>
 K (.tuple #[s10, v48]) w)) Kp))))) (
 K (.tuple #[s10, (.bool false)]) w.drew))))) Kp) Kp) Kp) Kp
theorem vc48_eq : vc48 S a0 a1 a2 a3 w K Kp = fVC S [(2, [10, 11])] [] Tryz.f48 [a0, a1, a2, a3] w K Kp := by kernel_rfl
theorem vc48_calls (h : vc48 nP a0 a1 a2 a3 w K Kp) : Calls Tryz.prog 48 #[a0, a1, a2, a3] w (ret K Kp) :=
 fVC_sound (args := [a0, a1, a2, a3]) nice_le follows_BVcLP Tryz.func48 (by kernel_rfl) (Eq.mp vc48_eq h)
def vc46 (S : Sig) (a0 a1 a2 a3 : Value) (w : World) (K : KV) (Kp : KP) : Prop :=
 S.op (.box 23 a0) w (fun v4 w =>
 S.op (.box 45 a3) w (fun v7 w =>
 S.op (.load 23 v4) w (fun v12 w =>
 S.op (.load 45 v7) w (fun v15 w =>
 S.call (.fn 48) [v12, a1, a2, v15] w (fun v16 w =>
 S.op (.extract v16 0) w (fun v17 w =>
 S.op (.extract v16 1) w (fun v18 w =>
 Br v18 (
 S.op (.load 45 v7) w (fun v22 w =>
 S.op (.indexAddr 38 a2 v17) w (fun v23 w =>
 S.op (.store 45 v23 v22) w (fun _ w =>
 K a2 w) Kp) Kp) Kp) (
 S.op (.build 45 []) w (fun v26 w =>
 S.op (.buildSlice 38 1 [(0, v26)]) w (fun v27 w =>
 S.op (.blt .append [38, 38] 38 [a2, v27]) w (fun v28 w =>
 S.pur (.bin .add 3 false true v17 (.int .i64 1)) (fun v31 =>
 S.pur (.slice 38 v28 (some v31) none none) (fun v32 =>
 S.pur (.slice 38 v28 (some v17) none none) (fun v35 =>
 S.op (.blt .copy [38, 38] 3 [v32, v35]) w.drew (fun v36 w =>
 S.op (.load 45 v7) w (fun v39 w =>
 S.op (.indexAddr 38 v28 v17) w (fun v40 w =>
 S.op (.store 45 v40 v39) w (fun _ w =>
 K v28 w) Kp) Kp) Kp) Kp)))) Kp) Kp) Kp)) Kp) Kp) Kp) Kp) Kp) Kp) Kp
theorem vc46_eq : vc46 S a0 a1 a2 a3 w K Kp = fVC S [] [] Tryz.f46 [a0, a1, a2, a3] w K Kp := by kernel_rfl
theorem vc46_calls (h : vc46 nP a0 a1 a2 a3 w K Kp) : Calls Tryz.prog 46 #[a0, a1, a2, a3] w (ret K Kp) :=
 fVC_sound (args := [a0, a1, a2, a3]) nice_le follows_BVcLP Tryz.func46 (by kernel_rfl) (Eq.mp vc46_eq h)
def vc21 (S : Sig) (a0 a1 a2 : Value) (w : World) (K : KV) (Kp : KP) : Prop :=
 S.op (.box 23 a1) w (fun v4 w =>
 S.op (.blt .len [38] 3 [a2]) w (fun v11 w =>
 Lp fun (I3 : Value → KV) (μ3 : Value → Value → World → Nat) => I3 (.slice none 0 0) (.int .i64 0) w ∧
 ∀ (wl3 : World) (_ : Nat → Value) (s7 : Value) (s12 : Value), I3 s7 s12 wl3 →
 S.op (.bin .lss 3 false false s12 v11) wl3 (fun v13 w =>
 Br v13 (
 S.op (.indexAddr 38 a2 s12) w (fun v14 w =>
 S.op (.load 45 v14) w (fun v15 w =>
 S.op (.alloc 45) w (fun v9 w =>
 S.op (.store 45 v9 v15) w (fun _ w =>
 S.ld (.load 23 v4) w.drew (fun v16 =>
 S.ld (.load 45 v9) w.drew (fun v20 =>
 S.call (.fn 49) [a0, v20] w.drew (fun v21 w =>
 S.same (.load 23 v4) v16 w ∧
 S.call (.fn 46) [v16, a0, s7, v21] w (fun v22 w =>
 S.op (.bin .add 3 false true s12 (.int .i64 1)) w (fun v23 w =>
 I3 v22 v23 w ∧ μ3 v22 v23 w < μ3 s7 s12 wl3) Kp) Kp) Kp))) Kp) Kp) Kp) Kp) (
 K s7 w)) Kp) Kp) Kp
theorem vc21_eq : vc21 S a0 a1 a2 w K Kp = fVC S [(3, [7, 12])] [] Tryz.f21 [a0, a1, a2] w K Kp := by kernel_rfl
theorem vc21_calls (h : vc21 nP a0 a1 a2 w K Kp) : Calls Tryz.prog 21 #[a0, a1, a2] w (ret K Kp) :=
 fVC_sound (args := [a0, a1, a2]) nice_le follows_BVcLP Tryz.func21 (by kernel_rfl) (Eq.mp vc21_eq h)
def vc49 (S : Sig) (a0 a1 : Value) (w : World) (K : KV) (Kp : KP) : Prop :=
 S.op (.box 45 a1) w (fun v3 w =>
 S.op (.alloc 45) w (fun v4 w =>
 Br a0 (
 S.op (.fieldAddr 45 v3 0) w (fun v6 w =>
 S.op (.store 2 v6 (.int .i64 0)) w (fun _ w =>
 S.op (.load 45 v3) w (fun v8 w =>
 S.op (.store 45 v4 v8) w (fun _ w =>
 S.ld (.load 45 v4) w (fun r0 =>
 K r0 w)) Kp) Kp) Kp) Kp) (
 S.op (.fieldAddr 45 v3 1) w (fun v7 w =>
 S.op (.store 9 v7 (.string { data := #[] })) w (fun _ w =>
 S.op (.load 45 v3) w (fun v8 w =>
 S.op (.store 45 v4 v8) w (fun _ w =>
 S.ld (.load 45 v4) w (fun r0 =>
 K r0 w)) Kp) Kp) Kp) Kp)) Kp) Kp
theorem vc49_eq : vc49 S a0 a1 w K Kp = fVC S [] [] Tryz.f49 [a0, a1] w K Kp := by kernel_rfl
theorem vc49_calls (h : vc49 nP a0 a1 w K Kp) : Calls Tryz.prog 49 #[a0, a1] w (ret K Kp) :=
 fVC_sound (args := [a0, a1]) nice_le follows_BVcLP Tryz.func49 (by kernel_rfl) (Eq.mp vc49_eq h)
end Go.Proofs.YtodjijfblgnfmaaGreatDoor
end
section
namespace Go.Proofs.YtodjijfblgnfmaaGreatDoor
open Go.Vc Go.Proofs Go.Vc.Bt
variable {w w' : World} {K : KV} {Kp : KP} {K1 : Value → Prop} {n : Int} {kn : Nat} {text : Bool} {a b : SPr}
theorem pur_lss_s {t : TypeId} {xc yc : Bool} {a b : ByteArray} : nP.pur (.bin .lss t xc yc (.string a) (.string b)) K1 = K1 (.bool (lessB a b)) := pur_of' (by simp [pv, binV, strV, lessB])
theorem pur_gtr_s {t : TypeId} {xc yc : Bool} {a b : ByteArray} : nP.pur (.bin .gtr t xc yc (.string a) (.string b)) K1 = K1 (.bool (lessB b a)) := by
  have h : (!(lessB a b || decide (a = b))) = lessB b a := by
    cases h1 : lessB a b with
    | true => rw [lin_lessB.asym h1]; rfl
    | false =>
      cases h2 : lessB b a with
      | true =>
        have hne : ¬ a = b := fun e => by rw [e, lin_lessB.irr] at h2; cases h2
        simp [hne]
      | false => simp [lin_lessB.tri h1 h2]
  rw [← h]
  exact pur_of' (by simp [pv, binV, strV, lessB])
theorem rest_ok {a : Int} (h1 : 1 ≤ n) (h2 : n ≤ 1000) (hK : K (.int .i64 (a % n)) w) : Calls Tryz.prog 59 #[.int .i64 a, .int .i64 n] w (ret K Kp) := by
  refine vc59_calls ?_
  delta vc59
  obtain ⟨t1, t2, t3⟩ := I.tmod_pos (a := a) (m := n) (by omega)
  simp [-getElem?_pos, -Array.getElem?_eq_getElem, -Int.natCast_add, add_spot, and_assoc, Br_dec]
  refine ⟨by omega, fun h => ?_, fun h => ?_⟩
  · rw [if_pos h] at t3
    rw [show IntKind.i64.wrap (a.tmod n + n) = a % n from by rw [IntKind.wrap_i64]; omega]
    exact hK
  · rw [if_neg (by omega)] at t3
    rw [← t3]; exact hK
def ltS (text : Bool) (kn : Nat) (n : Int) (a b : SPr) : Bool := if text then T.ordB kn a.text b.text else I.ordI kn n a.key b.key
def cmpS (text : Bool) (kn : Nat) (n : Int) (a b : SPr) : Int := if ltS text kn n a b then -1 else if ltS text kn n b a then 1 else 0
theorem ltS_asym (h : ltS text kn n a b = true) : ltS text kn n b a = false := by
  unfold ltS at *
  cases text
  · exact I.ordI_lin.asym h
  · exact T.ordB_lin.asym h
theorem c_lt (h : ltS text kn n a b = true) : cmpS text kn n a b = -1 := by unfold cmpS; rw [if_pos h]
theorem c_gt (h : ltS text kn n b a = true) : cmpS text kn n a b = 1 := by unfold cmpS; rw [if_neg (by rw [ltS_asym h]; simp), if_pos h]
theorem c_eq (h : ltS text kn n a b = false) (h' : ltS text kn n b a = false) : cmpS text kn n a b = 0 := by unfold cmpS; rw [if_neg (by simp [h]), if_neg (by simp [h'])]
theorem compareS_ok (hR : Right kn n) (hK : ∀ w', Frm (fun _ => False) w w' → K (.int .i64 (cmpS text kn n a b)) w') : Calls Tryz.prog 34 #[orderV kn n, .bool text, .agg a.cells.toArray, .agg b.cells.toArray] w (ret K Kp) := by
  refine vc34_calls ?_
  delta vc34 orderV
  refine op_box_ok fun w1 k1 z1 b1 => op_box_ok fun w2 k2 z2 b2 => op_box_ok fun w3 k3 z3 b3 => ?_
  simp only [cells_agg, SPr.cells] at b1 b2 b3
  have k13 := (k1.no k2).no k3
  have c1 := k3.get (k2.get b1 fun h => h) fun h => h
  have c2 := k3.get b2 fun h => h
  have kd : ∀ {wz}, Frm (fun _ => False) w3 wz → K (.int .i64 (cmpS text kn n a b)) wz := fun hf => hK _ (k13.no hf)
  have dr := Frm.drew (M := fun _ => False) w3
  have dd := dr.no (Frm.drew (M := fun _ => False) w3.drew)
  clear hK
  have klt : ∀ {wz : World} {m : Int}, Frm (fun _ => False) w3 wz → ltS text kn n a b = true → m = -1 → K (.int .i64 m) wz := fun hf h e => by have := kd hf; rw [c_lt h] at this; rw [e]; exact this
  have kgt : ∀ {wz : World} {m : Int}, Frm (fun _ => False) w3 wz → ltS text kn n b a = true → m = 1 → K (.int .i64 m) wz := fun hf h e => by have := kd hf; rw [c_gt h] at this; rw [e]; exact this
  have keq : ∀ {wz : World}, Frm (fun _ => False) w3 wz → ltS text kn n a b = false → ltS text kn n b a = false → K (.int .i64 0) wz := fun hf h h' => by have := kd hf; rw [c_eq h h'] at this; exact this
  clear kd
  by_cases e2 : kn = 2
  · subst e2
    simp [-getElem?_pos, -Array.getElem?_eq_getElem, -Int.natCast_add, c1]
    refine Jn.intro (fun v wz => v = .int .i64 (-1) ∧ wz = w3) ⟨⟨rfl, rfl⟩, ?_⟩
    rintro wz _ ⟨rfl, rfl⟩
    obtain ⟨J, hJ⟩ : ∃ J : Value → KV, ∀ u v wq, J u v wq ↔ u = .bool (decide (a.key < b.key)) ∧ v = .bool (decide (b.key < a.key)) ∧ Frm (fun _ => False) wz wq := ⟨_, fun _ _ _ => Iff.rfl⟩
    simp [-getElem?_pos, -Array.getElem?_eq_getElem, -Int.natCast_add, c1, c2, b3]
    refine Jn.intro J ⟨(hJ _ _ _).2 ⟨rfl, by simp, dr⟩, ?_⟩
    intro wq u v hq
    obtain ⟨rfl, rfl, kq⟩ := (hJ _ _ _).1 hq
    have q1 := kq.get c1 fun h => h
    have q2 := kq.get c2 fun h => h
    have q3 := kq.get b3 fun h => h
    have kqd := kq.no (Frm.drew wq)
    cases text with
    | true =>
      have hlt : ltS true 2 n b a = lessB a.text b.text := rfl
      have hgt : ltS true 2 n a b = lessB b.text a.text := rfl
      rw [hgt] at klt keq
      rw [hlt] at kgt keq
      simp [-getElem?_pos, -Array.getElem?_eq_getElem, -Int.natCast_add, q1, q2, q3, pur_lss_s, pur_gtr_s]
      exact ⟨fun h => kgt kqd h (by decide), fun h => ⟨fun h' => klt kqd h' rfl, fun h' => keq kqd h' h⟩⟩
    | false =>
      have hlt : ltS false 2 n b a = decide (a.key < b.key) := by simp [ltS, I.ordI, ltInt]
      have hgt : ltS false 2 n a b = decide (b.key < a.key) := by simp [ltS, I.ordI, ltInt]
      rw [hgt] at klt keq
      rw [hlt] at kgt keq
      simp [-getElem?_pos, -Array.getElem?_eq_getElem, -Int.natCast_add, add_spot, and_assoc, Br_dec]
      exact ⟨fun h => kgt kq (by simpa using h) (by decide), fun h => ⟨fun h' => klt kq (by simpa using h') rfl, fun h' => keq kq (by simpa using h') (by simpa using h)⟩⟩
  have g2 : ¬ (kn : Int) = 2 := by omega
  simp [-getElem?_pos, -Array.getElem?_eq_getElem, -Int.natCast_add, c1, g2]
  refine Jn.intro (fun v wz => v = .int .i64 1 ∧ wz = w3) ⟨⟨rfl, rfl⟩, ?_⟩
  rintro wz _ ⟨rfl, rfl⟩
  by_cases e3 : kn = 3
  · subst e3
    obtain ⟨r1, r2⟩ := hR.2 rfl
    have hby : ∀ x y : Int, by1 (· % n) ltInt x y = if x % n = y % n then decide (x < y) else decide (x % n < y % n) := fun x y => rfl
    obtain ⟨J, hJ⟩ : ∃ J : Value → KV, ∀ u v wq, J u v wq ↔ u = .bool (by1 (· % n) ltInt a.key b.key) ∧ v = .bool (by1 (· % n) ltInt b.key a.key) ∧ Frm (fun _ => False) wz wq := ⟨_, fun _ _ _ => Iff.rfl⟩
    simp [-getElem?_pos, -Array.getElem?_eq_getElem, -Int.natCast_add, c1, c2, b3]
    refine Jn.intro J ⟨?_, ?_⟩
    · refine rest_ok r1 r2 ?_
      simp [-getElem?_pos, -Array.getElem?_eq_getElem, -Int.natCast_add, c1, b3]
      refine rest_ok r1 r2 ?_
      simp [-getElem?_pos, -Array.getElem?_eq_getElem, -Int.natCast_add, add_spot, and_assoc, Br_dec]
      refine ⟨fun h => (hJ _ _ _).2 ⟨?_, ?_, dd⟩, fun h => (hJ _ _ _).2 ⟨?_, ?_, dd⟩⟩
      · rw [hby, if_neg h]
      · rw [hby, if_neg (fun e => h e.symm)]
      · rw [hby, if_pos h]
      · rw [hby, if_pos h.symm]
    intro wq u v hq
    obtain ⟨rfl, rfl, kq⟩ := (hJ _ _ _).1 hq
    have q1 := kq.get c1 fun h => h
    have q2 := kq.get c2 fun h => h
    have q3 := kq.get b3 fun h => h
    have kqd := kq.no (Frm.drew wq)
    have kqdd := kqd.no (Frm.drew wq.drew)
    cases text with
    | true =>
      have hlt : ltS true 3 n a b = if (a.text.size : Int) = b.text.size then lessB a.text b.text else decide ((a.text.size : Int) < b.text.size) := rfl
      have hgt : ltS true 3 n b a = if (b.text.size : Int) = a.text.size then lessB b.text a.text else decide ((b.text.size : Int) < a.text.size) := rfl
      simp [-getElem?_pos, -Array.getElem?_eq_getElem, -Int.natCast_add, q1, q2, q3, pur_lss_s, pur_gtr_s]
      refine ⟨fun hne => ?_, fun he => ?_⟩
      · rw [if_neg (by omega)] at hlt hgt
        rw [hlt] at klt keq
        rw [hgt] at kgt keq
        exact ⟨fun h => klt kqdd (decide_eq_true (by omega)) (by decide), fun h => ⟨fun h' => kgt kqdd (decide_eq_true (by omega)) rfl, fun h' => keq kqdd (decide_eq_false (by omega)) (decide_eq_false (by omega))⟩⟩
      · rw [if_pos (by omega)] at hlt hgt
        rw [hlt] at klt keq
        rw [hgt] at kgt keq
        exact ⟨fun h => klt kqd h (by decide), fun h => ⟨fun h' => kgt kqd h' rfl, fun h' => keq kqd h h'⟩⟩
    | false =>
      have hlt : ltS false 3 n a b = by1 (· % n) ltInt a.key b.key := by simp only [ltS, I.ordI]; rw [if_neg (by simp)]; rw [if_neg (by decide), if_pos ⟨by trivial, by omega⟩]
      have hgt : ltS false 3 n b a = by1 (· % n) ltInt b.key a.key := by simp only [ltS, I.ordI]; rw [if_neg (by simp)]; rw [if_neg (by decide), if_pos ⟨by trivial, by omega⟩]
      rw [hlt] at klt keq
      rw [hgt] at kgt keq
      simp [-getElem?_pos, -Array.getElem?_eq_getElem, -Int.natCast_add, add_spot, and_assoc, Br_dec]
      exact ⟨fun h => klt kq h (by decide), fun h => ⟨fun h' => kgt kq h' rfl, fun h' => keq kq h h'⟩⟩
  · have g3 : ¬ (kn : Int) = 3 := by omega
    obtain ⟨J, hJ⟩ : ∃ J : Value → KV, ∀ u v wq, J u v wq ↔ u = .bool (decide (a.key < b.key)) ∧ v = .bool (decide (b.key < a.key)) ∧ Frm (fun _ => False) wz wq := ⟨_, fun _ _ _ => Iff.rfl⟩
    simp [-getElem?_pos, -Array.getElem?_eq_getElem, -Int.natCast_add, c1, c2, b3, g3]
    refine Jn.intro J ⟨(hJ _ _ _).2 ⟨rfl, by simp, dr⟩, ?_⟩
    intro wq u v hq
    obtain ⟨rfl, rfl, kq⟩ := (hJ _ _ _).1 hq
    have q1 := kq.get c1 fun h => h
    have q2 := kq.get c2 fun h => h
    have q3 := kq.get b3 fun h => h
    have kqd := kq.no (Frm.drew wq)
    cases text with
    | true =>
      have hlt : ltS true kn n a b = lessB a.text b.text := by simp [ltS, T.ordB, e2, e3]
      have hgt : ltS true kn n b a = lessB b.text a.text := by simp [ltS, T.ordB, e2, e3]
      rw [hlt] at klt keq
      rw [hgt] at kgt keq
      simp [-getElem?_pos, -Array.getElem?_eq_getElem, -Int.natCast_add, q1, q2, q3, g3, pur_lss_s, pur_gtr_s]
      exact ⟨fun h => klt kqd h (by decide), fun h => ⟨fun h' => kgt kqd h' rfl, fun h' => keq kqd h h'⟩⟩
    | false =>
      have hlt : ltS false kn n a b = decide (a.key < b.key) := by simp [ltS, I.ordI, ltInt, e2, e3]
      have hgt : ltS false kn n b a = decide (b.key < a.key) := by simp [ltS, I.ordI, ltInt, e2, e3]
      rw [hlt] at klt keq
      rw [hgt] at kgt keq
      simp [-getElem?_pos, -Array.getElem?_eq_getElem, -Int.natCast_add, add_spot, and_assoc, Br_dec]
      exact ⟨fun h => klt kq (by simpa using h) (by decide), fun h => ⟨fun h' => kgt kq (by simpa using h') rfl, fun h' => keq kq (by simpa using h) (by simpa using h')⟩⟩
end Go.Proofs.YtodjijfblgnfmaaGreatDoor
end
section
namespace Go.Vc
variable {P : Program} {w w' : World} {K : Value → World → Prop} {Kp : KP} {e : TypeId} {k : Nat}
theorem wrap_small64 {n : Int} (h0 : 0 ≤ n) (h1 : n < 9223372036854775808) : IntKind.i64.wrap n = n := by rw [IntKind.wrap_i64]; omega
theorem conv_ok {α : Type} {f : α → List Value} {tin tel tout e s : TypeId} {bytes : Nat} {z : Value} (hk : ∀ x, (f x).length = k) (hk0 : 0 < k) (hone : ∀ x, ∀ u ∈ f x, u.oneCell' = true) (hin : sliceOf P tin = some (e, k)) (hkd : kd P tin = .slice) (hel : ldk P tel = some (.agg k))
    (hz : zeroOf P tel = some z) (hzk : z.cells.size = k) (ha : apOf P tout = some (s, k, bytes)) (hl : ∀ x, sliceLit P tout 1 [(0, .agg (f x).toArray)] = some (s, (f x).toArray)) {a : Option Addr} {c : Nat} {xs : List α} (h : Row w a (xs.flatMap f)) (hn : (xs.length + 1) * (bytes + 1) ≤ 140737488355328)
    (hK : ∀ l w', Frm (fun _ => False) w w' → RowsOf (Flat f) w' w.heap.size s k l xs (fun _ => False) → K l w') :
    (nice P).op (.blt .len [tin] 3 [.slice a xs.length c]) w (fun v7 w =>
    Lp fun (I3 : Value → Value → World → Prop) (μ3 : Value → Value → World → Nat) => I3 (Value.slice none 0 0) (Value.int IntKind.i64 0) w ∧
    ∀ (wl3 : World) (junk : Nat → Value) (s3_out : Value) (s8_ : Value), I3 s3_out s8_ wl3 →
      (nice P).op (.bin BinOp.lss 3 false false s8_ v7) wl3 (fun v9 w =>
      Br v9 (
        (nice P).op (.indexAddr tin (.slice a xs.length c) s8_) w (fun v10 w =>
        (nice P).op (.load tel v10) w (fun v11 w =>
        (nice P).op (.alloc tel) w (fun v5_p w =>
        (nice P).op (.store tel v5_p v11) w (fun _ w =>
        (nice P).op (.load tel v5_p) w (fun v13 w =>
        (nice P).op (.buildSlice tout 1 [(0, v13)]) w (fun v14 w =>
        (nice P).op (.blt Builtin.append [tout, tout] tout [s3_out, v14]) w (fun v15 w =>
        (nice P).op (.bin BinOp.add 3 false true s8_ (Value.int IntKind.i64 1)) w (fun v16 w =>
        I3 v15 v16 w ∧ μ3 v15 v16 w < μ3 s3_out s8_ wl3) Kp) Kp) Kp) Kp) Kp) Kp) Kp) Kp) (
        K s3_out w)) Kp) Kp := by
  have hb0 : 0 < bytes + 1 := by omega
  have hmax : xs.length + 1 ≤ 140737488355328 := Nat.le_trans (Nat.le_mul_of_pos_right _ hb0) hn
  rw [op_len_slice hkd]
  obtain ⟨I, hI⟩ : ∃ I : Value → Value → World → Prop, ∀ l v wl, I l v wl ↔ ∃ i : Nat, v = .int .i64 i ∧ i ≤ xs.length ∧ Frm (fun _ => False) w wl ∧ RowsOf (Flat f) wl w.heap.size s k l (xs.take i) (fun _ => False) := ⟨_, fun _ _ _ => Iff.rfl⟩
  refine Lp.intro I (fun _ v _ => xs.length - (match v with | .int _ j => j.toNat | _ => 0)) ⟨(hI _ _ _).2 ⟨0, rfl, by omega, Frm.refl, rows_nil⟩, ?_⟩
  intro wl _ l v hl'
  obtain ⟨i, rfl, hi, kl, hR⟩ := (hI _ _ _).1 hl'
  simp only [op_lss, Br_dec]
  refine ⟨fun hlt => ?_, fun hge => ?_⟩
  · have hi' : i < xs.length := by omega
    obtain ⟨b, o, cs, e', fz, rfl, hcs, hsz, hext⟩ := (h.frame kl fun _ _ h => h).part hk hk0 hi'
    rw [op_ix_slice hin]
    refine ⟨⟨by omega, by omega⟩, ?_⟩
    rw [add_spot rfl, op_ldn hel]
    simp only [Int.toNat_natCast]
    refine ⟨cs, e', fz, hcs, by first | rfl | trivial, hsz, ?_⟩
    show (nice P).op (.alloc tel) wl _ Kp
    rw [hext]
    refine op_alloc_ok hz fun w1 k1 z1 b1 => ?_
    refine op_storeN_ok (n := k) hel b1 (by simp [hk]) (by rw [hzk]; omega) (fun u hu => hone _ u (by simpa using hu)) fun w2 k2 z2 b2 => ?_
    have hb2 : w2.heap[wl.heap.size]? = some (.cells (f xs[i]).toArray tel (0, 0)) := by
      rw [ow_all (by simp [hk, hzk])] at b2; exact b2
    rw [op_ldn hel]
    refine ⟨_, _, _, hb2, rfl, by simp [hk], ?_⟩
    have hx : (f xs[i]).toArray.extract 0 (0 + k) = (f xs[i]).toArray := extract_self (by simp [hk])
    rw [hx]
    have k12 : Frm (fun _ => False) wl w2 := k1.old k2 fun c hc => .inr (by omega)
    have hR2 := hR.still (flat_ok f) k12
    have hlow := hR.own_lt
    have htl : (xs.take i).length = i := by simp; omega
    have hmul : (i + 1) * (bytes + 1) ≤ (xs.length + 1) * (bytes + 1) := Nat.mul_le_mul_right _ (by omega)
    refine op_push (flat_ok f) ha (hl _) (hk _) (hone _) hR2 rfl (G2 := fun _ => False) (fun _ h => h.elim) (fun _ _ h => h) (by rw [htl]; omega) (by have := kl.size; have := k12.size; omega) fun l' w3 k3 hR3 ho3 => ?_
    rw [op_add, wrap_small64 (by omega) (by omega)]
    have hlow2 := hR2.own_lt
    refine ⟨(hI _ _ _).2 ⟨i + 1, by simp, by omega, (kl.no k12).old k3 fun c hc => .inr (by have := hlow2 c hc.symm; omega), ?_⟩, ?_⟩
    · rw [List.take_succ_eq_append_getElem hi']
      exact hR3.mono (flat_ok f) (fun c h => h.elim (fun h => h) fun h => h) (fun _ h => h.elim) fun _ _ h => h
    · have : ((i : Int) + 1).toNat = i + 1 := by omega
      simp only [Int.toNat_natCast, this]; omega
  · have : i = xs.length := by omega
    subst this
    rw [List.take_length] at hR
    exact hK l wl kl hR
end Go.Vc
namespace Go.Vc
section
variable {P : Program} {w : World} {K : Value → World → Prop} {K1 : Value → Prop} {Kp : KP} {a b c d e : Value}
@[simp] theorem pur_ext4_0 : (nice P).pur (.extract (.tuple #[a, b, c, d]) 0) K1 = K1 a := pur_ext rfl
@[simp] theorem pur_ext4_1 : (nice P).pur (.extract (.tuple #[a, b, c, d]) 1) K1 = K1 b := pur_ext rfl
@[simp] theorem pur_ext4_2 : (nice P).pur (.extract (.tuple #[a, b, c, d]) 2) K1 = K1 c := pur_ext rfl
@[simp] theorem pur_ext4_3 : (nice P).pur (.extract (.tuple #[a, b, c, d]) 3) K1 = K1 d := pur_ext rfl
@[simp] theorem pur_ext5_0 : (nice P).pur (.extract (.tuple #[a, b, c, d, e]) 0) K1 = K1 a := pur_ext rfl
@[simp] theorem pur_ext5_1 : (nice P).pur (.extract (.tuple #[a, b, c, d, e]) 1) K1 = K1 b := pur_ext rfl
@[simp] theorem pur_ext5_2 : (nice P).pur (.extract (.tuple #[a, b, c, d, e]) 2) K1 = K1 c := pur_ext rfl
@[simp] theorem pur_ext5_3 : (nice P).pur (.extract (.tuple #[a, b, c, d, e]) 3) K1 = K1 d := pur_ext rfl
@[simp] theorem pur_ext5_4 : (nice P).pur (.extract (.tuple #[a, b, c, d, e]) 4) K1 = K1 e := pur_ext rfl
@[simp] theorem op_ext4_0 : (nice P).op (.extract (.tuple #[a, b, c, d]) 0) w K Kp = K a w := op_ext rfl
@[simp] theorem op_ext4_1 : (nice P).op (.extract (.tuple #[a, b, c, d]) 1) w K Kp = K b w := op_ext rfl
@[simp] theorem op_ext4_2 : (nice P).op (.extract (.tuple #[a, b, c, d]) 2) w K Kp = K c w := op_ext rfl
@[simp] theorem op_ext4_3 : (nice P).op (.extract (.tuple #[a, b, c, d]) 3) w K Kp = K d w := op_ext rfl
@[simp] theorem op_ext5_0 : (nice P).op (.extract (.tuple #[a, b, c, d, e]) 0) w K Kp = K a w := op_ext rfl
@[simp] theorem op_ext5_1 : (nice P).op (.extract (.tuple #[a, b, c, d, e]) 1) w K Kp = K b w := op_ext rfl
@[simp] theorem op_ext5_2 : (nice P).op (.extract (.tuple #[a, b, c, d, e]) 2) w K Kp = K c w := op_ext rfl
@[simp] theorem op_ext5_3 : (nice P).op (.extract (.tuple #[a, b, c, d, e]) 3) w K Kp = K d w := op_ext rfl
@[simp] theorem op_ext5_4 : (nice P).op (.extract (.tuple #[a, b, c, d, e]) 4) w K Kp = K e w := op_ext rfl
end
end Go.Vc
end
section
namespace Go.Vc
variable {P : Program} {w w' : World} {K : Value → World → Prop} {Kp : KP} {t e tin tel : TypeId} {s base g c : Nat} {α : Type} {f : α → List Value} {ys : List α} {l : Value}
theorem lw_flat (hf : ∀ x, (f x).length = s) : ∀ (ys : List α) (j : Nat) (y : α), j < ys.length → lw (ys.map f).flatten (j * s) (f y) = ((ys.set j y).map f).flatten
  | [], j, y, h => by simp at h
  | x :: ys, 0, y, _ => by
    simp only [List.map_cons, List.flatten_cons, List.set_cons_zero, Nat.zero_mul, lw, List.take_zero, List.nil_append, Nat.zero_add]
    rw [hf y, ← hf x, List.drop_left]
  | x :: ys, j + 1, y, h => by
    have ih := lw_flat hf ys j y (by simpa using h)
    simp only [lw] at ih ⊢
    have e1 : (j + 1) * s = (f x).length + j * s := by rw [hf, Nat.add_mul]; omega
    simp only [List.map_cons, List.flatten_cons, List.set_cons_succ]
    rw [e1, List.take_length_add_append, Nat.add_assoc, List.drop_length_add_append, ← ih]
    simp
theorem op_store_frow {j : Nat} {y : α} (hel : ldk P tel = some (.agg s)) (hf : ∀ x, (f x).length = s) (hone : ∀ x, ∀ u ∈ f x, u.oneCell' = true) (hR : FRow f w base e s (.slice (some ⟨g, 0, none⟩) ys.length c) ys) (hj : j < ys.length)
    (hK : ∀ w', Frm (· = g) w w' → w'.heap.size = w.heap.size → FRow f w' base e s (.slice (some ⟨g, 0, none⟩) ys.length c) (ys.set j y) → K undef w') : (nice P).op (.store tel (.pointer (some ⟨g, j * s, none⟩)) (.agg (f y).toArray)) w K Kp := by
  obtain ⟨⟨us, h1, h3, h4, h5⟩, h6, h7⟩ := hR
  have hus : us = ys.map f := by
    apply List.ext_getElem?
    intro i
    by_cases hi : i < us.length
    · rw [List.getElem?_eq_getElem hi, List.getElem?_map, List.getElem?_eq_getElem (by omega)]
      have := h5 i us[i] (ys[i]'(by omega)) (List.getElem?_eq_getElem _) (List.getElem?_eq_getElem _)
      rw [this]; rfl
    · rw [List.getElem?_eq_none (by omega), List.getElem?_eq_none (by simp; omega)]
  subst hus
  obtain ⟨g', cap', hv, hc, hrw, hb⟩ := Rw.of_own (n := ys.length) (own_base h4 (Nat.zero_le _)) (by omega)
  cases hv
  have hlow := Go.Vc.own_lt h4 g rfl
  have hle : (j + 1) * s ≤ ys.length * s := Nat.mul_le_mul_right _ hj
  rw [Nat.add_mul, Nat.one_mul] at hle
  have hfl := h4.1
  refine op_storeRN (n := s) hel (by simp [hf]) hrw (by omega) (fun u hu => hone y u (by simpa using hu)) fun w' k' z' hrw' => ?_
  have e1 := lw_flat hf ys j y hj
  rw [List.toList_toArray, e1] at hrw'
  refine hK w' k' z' ⟨⟨(ys.set j y).map f, by simp, fun u hu => by obtain ⟨x, _, rfl⟩ := List.mem_map.1 hu; exact hf x, ?_, fun i u y' hu hy => ?_⟩, fun _ h => h.elim, fun _ _ h => h⟩
  · rw [List.length_set]
    have hn : ((ys.set j y).map f).flatten.length = ys.length * s := by
      rw [flatten_len (k := s) fun u hu => by obtain ⟨x, _, rfl⟩ := List.mem_map.1 hu; exact hf x]; simp
    obtain ⟨q1, ⟨_, q2⟩ | ⟨g2, cap2, cur2, q2, q3, q4⟩⟩ := hrw'.own hn hc
    · omega
    · cases q2
      exact ⟨q1, .inr ⟨g, c, cur2, rfl, hlow.1, q4⟩⟩
  · rw [List.getElem?_map, hy] at hu
    exact (Option.some.inj hu).symm
end Go.Vc
namespace Go.Vc
variable {P : Program} {w w' : World} {K : Value → World → Prop} {K1 : Value → Prop} {Kp : KP} {t e : TypeId} {s base : Nat} {α : Type} {f : α → List Value} {xs : List α} {v : Value}
theorem IsSl.old {M : Nat → Prop} {n : Nat} {vs : List Value} (h : IsSl w v n vs) (hf : Frm M w w') (hM : ∀ b, M b → w.heap.size ≤ b) : IsSl w' v n vs := by
  obtain ⟨a, c, rfl, hc, hm, hr, hn⟩ := h
  exact ⟨a, c, rfl, hc, hm, hr.old hf hM, hn⟩
end Go.Vc
end
section
namespace Go.Vc
variable {P : Program} {w w' : World} {K : Value → World → Prop} {Kp : KP} {t e : TypeId} {s base : Nat} {α : Type} {f : α → List Value} {ys zs : List α} {l v2 : Value}
end Go.Vc
end
section
namespace Go.Vc
variable {P : Program} {w w' : World} {K : Value → World → Prop} {K1 : Value → Prop} {Kp : KP} {t e : TypeId} {s base g c : Nat} {α : Type} {f : α → List Value} {ys : List α} {l : Value}
theorem FRow.flatten (h : FRow f w base e s l ys) : w.ownsRow base e s l ys.length (ys.flatMap f) := by
  obtain ⟨⟨us, h1, h3, h4, h5⟩, h6, h7⟩ := h
  have hus : us = ys.map f := by
    apply List.ext_getElem?
    intro i
    by_cases hi : i < us.length
    · rw [List.getElem?_eq_getElem hi, List.getElem?_map, List.getElem?_eq_getElem (by omega)]
      have := h5 i us[i] (ys[i]'(by omega)) (List.getElem?_eq_getElem _) (List.getElem?_eq_getElem _)
      rw [this]; rfl
    · rw [List.getElem?_eq_none (by omega), List.getElem?_eq_none (by simp; omega)]
  subst hus
  rw [List.flatMap_def]; exact h4
theorem FRow.of_flat (hf : ∀ x, (f x).length = s) (h : w.ownsRow base e s l ys.length (ys.flatMap f)) : FRow f w base e s l ys :=
  ⟨⟨ys.map f, by simp, fun u hu => by obtain ⟨x, _, rfl⟩ := List.mem_map.1 hu; exact hf x, by rw [List.flatMap_def] at h; exact h, fun i u y' hu hy => by
    rw [List.getElem?_map, hy] at hu
    exact (Option.some.inj hu).symm⟩, fun _ h => h.elim, fun _ _ h => h⟩
theorem FRow.rw' (h : FRow f w base e s l ys) (hn : 0 < ys.length) : ∃ g cap, l = .slice (some ⟨g, 0, none⟩) ys.length cap ∧ base ≤ g ∧ g < w.heap.size ∧ ys.length ≤ cap ∧ Rw w e s g cap (ys.flatMap f) := by
  have ho := h.flatten
  obtain ⟨g, cap, rfl, h1, h2, h3⟩ := Rw.of_own (own_base ho (Nat.zero_le _)) hn
  have := h.own_lt g h3
  exact ⟨g, cap, rfl, this.1, this.2, h1, h2⟩
theorem FRow.of_rw (hf : ∀ x, (f x).length = s) (h : Rw w e s g c (ys.flatMap f)) (hb : base ≤ g) (hc : ys.length ≤ c) : FRow f w base e s (.slice (some ⟨g, 0, none⟩) ys.length c) ys := by
  refine FRow.of_flat hf ?_
  obtain ⟨q1, ⟨q2, q3⟩ | ⟨g2, cap2, cur2, q2, q3, q4⟩⟩ := h.own (flatMap_len hf ys) hc
  · cases q2
  · cases q2
    exact ⟨q1, .inr ⟨g, c, cur2, rfl, hb, q4⟩⟩
theorem row_ins (hf : ∀ x, (f x).length = s) {i : Nat} (hi : i ≤ ys.length) (z y : α) :
    lw (lw ((ys ++ [z]).flatMap f) ((i + 1) * s) ((((ys ++ [z]).flatMap f).drop (i * s)).take ((ys.length - i) * s))) (i * s) (f y) = (ys.take i ++ y :: ys.drop i).flatMap f := by
  have hz := hf z
  have hy := hf y
  have e1 : ys = ys.take i ++ ys.drop i := (List.take_append_drop i ys).symm
  have lp : ((ys.take i).flatMap f).length = i * s := by rw [flatMap_len hf, List.length_take, Nat.min_eq_left hi]
  have lq : ((ys.drop i).flatMap f).length = (ys.length - i) * s := by rw [flatMap_len hf, List.length_drop]
  have hX : (ys ++ [z]).flatMap f = (ys.take i).flatMap f ++ ((ys.drop i).flatMap f ++ f z) := by
    have e2 : ys.flatMap f = (ys.take i).flatMap f ++ (ys.drop i).flatMap f := by rw [← List.flatMap_append, ← e1]
    rw [List.flatMap_append, e2, List.append_assoc]
    simp
  rw [hX, List.flatMap_append, List.flatMap_cons]
  generalize (ys.take i).flatMap f = A at *
  generalize (ys.drop i).flatMap f = B at *
  have hd : (A ++ (B ++ f z)).drop (i * s) = B ++ f z := by rw [← lp]; exact List.drop_left ..
  rw [hd, ← lq, List.take_left]
  have hs1 : (i + 1) * s = i * s + s := by rw [Nat.add_mul, Nat.one_mul]
  obtain ⟨H, hH, hHl⟩ : ∃ H, lw (A ++ (B ++ f z)) ((i + 1) * s) B = A ++ (H ++ B) ∧ H.length = s := by
    refine ⟨(B ++ f z).take s, ?_, by simp [hz]⟩
    unfold lw
    rw [List.drop_of_length_le (by simp; omega), List.append_nil, hs1, ← lp, List.take_length_add_append, List.append_assoc]
  rw [hH]
  exact lw_mid' rfl lp.symm (by omega)
end Go.Vc
end
section
namespace Go.Proofs.YtodjijfblgnfmaaGreatDoor.I
open Go.Vc Go.Proofs Go.Proofs.YtodjijfblgnfmaaGreatDoor Go.Vc.Bt
variable {w w' : World} {K : KV} {Kp : KP} {n : Int} {kn : Nat} {k k' : Ky} {x x' : Vl} {V : List (Ky × Vl)} {lv : Value}
abbrev tx : Bool := false
theorem cmpP : cmpS tx kn n (kd.pair k x) (kd.pair k' x') = Bt.cmp (ordI kn n) k k' := rfl
theorem compareP_ok (hR : Right kn n) (hK : ∀ w', Frm (fun _ => False) w w' → K (.int .i64 (Bt.cmp (ordI kn n) k k')) w') : Calls Tryz.prog 34 #[orderV kn n, .bool tx, .agg (kd.pair k x).cells.toArray, .agg (kd.pair k' x').cells.toArray] w (ret K Kp) := by
  refine compareS_ok hR fun w' hf => ?_
  rw [cmpP]
  exact hK w' hf
theorem cmp_lt0 {lt : Ky → Ky → Bool} {a b : Ky} : (Bt.cmp lt a b < 0) ↔ lt a b = true := by
  unfold Bt.cmp
  split
  · rename_i h; simp [h]
  · rename_i h; split <;> simp [h]
theorem place_eq {lt : Ky → Ky → Bool} {i : Nat} (hi : i ≤ V.length) (h0 : ∀ j (hj : j < V.length), j < i → lt V[j].1 k = true) (h1 : ∀ hi : i < V.length, lt V[i].1 k = false) : place lt V k = i := by
  unfold place
  by_cases hl : i < V.length
  · rw [List.findIdx_eq hl]
    refine ⟨by simp [h1 hl], fun j hj => by simp [h0 j (by omega) hj]⟩
  · rw [show i = V.length from by omega, List.findIdx_eq_length]
    intro e he
    obtain ⟨j, hj, rfl⟩ := List.mem_iff_getElem.1 he
    simp [h0 j hj (by omega)]
theorem place_ok (hR : Right kn n) (hs : Sd (ordI kn n) V) (hl : IsSl w lv V.length ((prsOf kd V).flatMap SPr.cells)) (hn : V.length < 2 ^ 40)
    (hK : ∀ w', Frm (fun _ => False) w w' → K (.tuple #[.int .i64 (place (ordI kn n) V k : Nat), .bool (has (ordI kn n) V k)]) w') :
    Calls Tryz.prog 48 #[orderV kn n, .bool tx, lv, .agg (kd.pair k x).cells.toArray] w (ret K Kp) := by
  obtain ⟨a, c, rfl, hc, hm, hr, _⟩ := hl
  refine vc48_calls ?_
  delta vc48 orderV
  refine op_box_ok fun w1 k1 z1 b1 => op_box_ok fun w2 k2 z2 b2 => ?_
  simp only [cells_agg] at b1 b2
  have b1 := k2.get b1 fun h => h
  have k12 := k1.no k2
  have hx2 : (#[.int .u8 kn, .int .i64 n] : Array Value).extract 0 2 = #[.int .u8 kn, .int .i64 n] := rfl
  have hx3 : ∀ p : SPr, p.cells.toArray.extract 0 3 = p.cells.toArray := fun p => extract_self (by simp [SPr.cells])
  have hs3 : ∀ p : SPr, 3 ≤ p.cells.length := fun p => Nat.le_refl _
  have hpl : (prsOf kd V).length = V.length := by simp [prsOf]
  have hpg : ∀ i (hi : i < V.length), (prsOf kd V)[i]'(by omega) = kd.pair V[i].1 V[i].2 := fun i hi => by simp [prsOf]
  simp [-getElem?_pos, -Array.getElem?_eq_getElem, -Int.natCast_add, add_spot, and_assoc, Br_dec]
  obtain ⟨I, hI⟩ : ∃ I : Value → KV, ∀ u v wl, I u v wl ↔ ∃ i j : Nat, u = .int .i64 i ∧ v = .int .i64 j ∧ i ≤ j ∧ j ≤ V.length ∧ Frm (fun _ => False) w2 wl ∧ (∀ q (hq : q < V.length), q < i → ordI kn n V[q].1 k = true) ∧ ∀ q (hq : q < V.length), j ≤ q → ordI kn n V[q].1 k = false := ⟨_, fun _ _ _ => Iff.rfl⟩
  refine Lp.intro I (fun u v _ => nOf v - nOf u) ⟨(hI _ _ _).2 ⟨0, V.length, rfl, rfl, by omega, by omega, Frm.refl, fun q hq h => by omega, fun q hq h => by omega⟩, ?_⟩
  intro wl u v hv
  obtain ⟨i, j, rfl, rfl, hij, hjl, kl, hlo, hhi⟩ := (hI _ _ _).1 hv
  have b1l := kl.get b1 fun h => h
  have b2l := kl.get b2 fun h => h
  simp only [op_lss, Br_dec]
  refine ⟨fun hlt => ?_, fun hge => ?_⟩
  · have e0 : IntKind.i64.wrap ((i : Int) + j) = ((i + j : Nat) : Int) := by rw [IntKind.wrap_i64]; omega
    obtain ⟨q, hqd⟩ : ∃ q, q = (i + j) / 2 := ⟨_, rfl⟩
    have hq : q < V.length := by omega
    have e1 : IntKind.i64.wrap (((i + j : Nat) : Int) / 2) = (q : Int) := by rw [IntKind.wrap_i64]; omega
    obtain ⟨b, o, cs, e, fz, rfl, q1, q2, q3⟩ := (hr.frame ((k12.no kl).no (Frm.drew wl)) fun _ _ h => h).part SPr.len (by decide) (i := q) (by omega)
    rw [hpg _ hq] at q3
    have q1' : wl.heap[b]? = some (.cells cs e fz) := by simpa using q1
    simp [-getElem?_pos, -Array.getElem?_eq_getElem, -Int.natCast_add, e0, e1, b1l, b2l, hx2, hx3, hs3, q1', q2, q3]
    have hqi : i ≤ q := by omega
    have hqj : q < j := by omega
    refine ⟨hq, compareP_ok hR fun w5 k5 => ?_⟩
    have k5 := kl.no (Frm.dr k5)
    have elt := cmp_lt0 (lt := ordI kn n) (a := V[q].1) (b := k)
    simp [-getElem?_pos, -Array.getElem?_eq_getElem, -Int.natCast_add, elt]
    refine ⟨fun h => ⟨(hI _ _ _).2 ⟨q + 1, j, by rw [show IntKind.i64.wrap ((q : Int) + 1) = ((q + 1 : Nat) : Int) from by rw [IntKind.wrap_i64]; omega], rfl, by omega, hjl, k5, fun p hp hpq => ?_, hhi⟩, ?_⟩, fun h => ⟨(hI _ _ _).2 ⟨i, q, rfl, rfl, by omega, by omega, k5, hlo, fun p hp hpq => ?_⟩, by simp only [nOf_int]; omega⟩⟩
    · by_cases e : p = q
      · subst e; exact h
      · have h1 := List.pairwise_iff_getElem.1 hs p q hp hq (by omega)
        exact ordI_lin.tr h1 h
    · rw [show IntKind.i64.wrap ((q : Int) + 1) = ((q + 1 : Nat) : Int) from by rw [IntKind.wrap_i64]; omega]
      simp only [nOf_int]; omega
    · by_cases e : p = q
      · subst e; exact h
      · have h1 := List.pairwise_iff_getElem.1 hs q p hq hp (by omega)
        cases hc : ordI kn n V[p].1 k with
        | false => rfl
        | true => rw [ordI_lin.tr h1 hc] at h; cases h
  · have hij' : i = j := by omega
    subst hij'
    have hp : place (ordI kn n) V k = i := place_eq hjl (fun j hj h => hlo j hj h) (fun hi => hhi i hi (Nat.le_refl _))
    rw [hp] at hK
    have hhas : has (ordI kn n) V k = if h : i < V.length then decide (V[i].1 = k) else false := by
      unfold has
      rw [hp]
      split
      · rename_i e h
        obtain ⟨h1, h2⟩ := List.getElem?_eq_some_iff.1 h
        rw [dif_pos h1, h2]
      · rename_i h
        rw [dif_neg (by rw [List.getElem?_eq_none_iff] at h; omega)]
    simp [-getElem?_pos, -Array.getElem?_eq_getElem, -Int.natCast_add, add_spot, and_assoc, Br_dec]
    refine ⟨fun hil => ?_, fun hge => ?_⟩
    · have hil : i < V.length := by omega
      rw [dif_pos hil] at hhas
      obtain ⟨b, o, cs, e, fz, rfl, q1, q2, q3⟩ := (hr.frame (k12.no kl) fun _ _ h => h).part SPr.len (by decide) (i := i) (by omega)
      rw [hpg _ hil] at q3
      simp [-getElem?_pos, -Array.getElem?_eq_getElem, -Int.natCast_add, b1l, b2l, hx2, hx3, hs3, q1, q2, q3]
      refine ⟨hil, compareP_ok hR fun w5 k5 => ?_⟩
      have ez : decide (Bt.cmp (ordI kn n) V[i].1 k = 0) = decide (V[i].1 = k) := decide_eq_decide.2 (cmp_zero ordI_lin)
      simp [-getElem?_pos, -Array.getElem?_eq_getElem, -Int.natCast_add, add_spot, and_assoc, Br_dec]
      rw [ez, ← hhas]
      exact hK w5 ((k12.no kl).no (Frm.dr k5))
    · rw [dif_neg (by omega)] at hhas
      rw [hhas] at hK
      exact hK _ ((k12.no kl).no (Frm.drew _))
end Go.Proofs.YtodjijfblgnfmaaGreatDoor.I
end
section
namespace Go.Proofs.YtodjijfblgnfmaaGreatDoor.I
open Go.Vc Go.Proofs Go.Proofs.YtodjijfblgnfmaaGreatDoor Go.Vc.Bt
variable {w w' : World} {K : KV} {Kp : KP} {n : Int} {kn base : Nat} {k : Ky} {x : Vl} {V : List (Ky × Vl)} {l : Value} {p : SPr}
abbrev PRow (w : World) (base : Nat) (l : Value) (L : List SPr) : Prop := FRow SPr.cells w base 45 3 l L
theorem apP : apOf Tryz.prog 38 = some (45, 3, 32) := by kernel_rfl
theorem lit_pr (p : SPr) : sliceLit Tryz.prog 38 1 [(0, .agg p.cells.toArray)] = some (45, p.cells.toArray) := lit_38_1
theorem prs_set {i : Nat} : prsOf kd (V.set i (k, x)) = (prsOf kd V).set i (kd.pair k x) := by simp [prsOf, List.map_set]
theorem prs_ins {i : Nat} : prsOf kd (V.take i ++ (k, x) :: V.drop i) = (prsOf kd V).take i ++ kd.pair k x :: (prsOf kd V).drop i := by simp [prsOf, List.map_take, List.map_drop]
theorem prs_len : (prsOf kd V).length = V.length := by simp [prsOf]
theorem put_ok (hR : Right kn n) (hs : Sd (ordI kn n) V) (hl : PRow w base l (prsOf kd V)) (hn : V.length < 2 ^ 40) (hb : base ≤ w.heap.size)
    (hK : ∀ l' w', Frm (fun b => some b = l.ownBlock) w w' → PRow w' base l' (prsOf kd (Bt.put (ordI kn n) V k x)) → K l' w') :
    Calls Tryz.prog 46 #[orderV kn n, .bool tx, l, .agg (kd.pair k x).cells.toArray] w (ret K Kp) := by
  refine vc46_calls ?_
  delta vc46 orderV
  refine op_box_ok fun w1 k1 z1 b1 => op_box_ok fun w2 k2 z2 b2 => ?_
  simp only [cells_agg] at b1 b2
  have b1 := k2.get b1 fun h => h
  have k12 := k1.no k2
  have hx2 : (#[.int .u8 kn, .int .i64 n] : Array Value).extract 0 2 = #[.int .u8 kn, .int .i64 n] := rfl
  have hx3 : ∀ p : SPr, p.cells.toArray.extract 0 3 = p.cells.toArray := fun p => extract_self (by simp [SPr.cells])
  have hs3 : ∀ p : SPr, 3 ≤ p.cells.length := fun p => Nat.le_refl _
  have hpl := prs_len (V := V)
  simp [-getElem?_pos, -Array.getElem?_eq_getElem, -Int.natCast_add, -op_lit_38_1, -op_st_45, -op_alloc_45, -op_st_2, -op_st_9, b1, b2, hx2, hx3, hs3]
  have hfl := (frow_still hl k12).flat
  rw [hpl] at hfl
  refine place_ok (k := k) (x := x) hR hs hfl hn fun w3 k3 => ?_
  have k13 := k12.no k3
  have b13 := k3.get b1 fun h => h
  have b23 := k3.get b2 fun h => h
  have hl3 := frow_still hl k13
  have hlow := hl3.own_lt
  have n3 := k13.size
  have hlow0 := hl.own_lt
  cases hh : has (ordI kn n) V k with
  | true =>
    have hi := has_lt hh
    obtain ⟨g, cap, rfl, hg1, hg2, hg3, hg4⟩ := FRow.rw' hl3 (by omega)
    have hput : Bt.put (ordI kn n) V k x = V.set (place (ordI kn n) V k) (k, x) := by unfold Bt.put; rw [if_pos hh]
    rw [hput] at hK
    have hi' : place (ordI kn n) V k < (prsOf kd V).length := by omega
    generalize place (ordI kn n) V k = i at *
    simp [-getElem?_pos, -Array.getElem?_eq_getElem, -Int.natCast_add, -op_lit_38_1, -op_st_45, -op_alloc_45, -op_st_2, -op_st_9, b23, hx3, hs3]
    refine ⟨hi', ?_⟩
    refine op_store_frow (f := SPr.cells) (by kernel_rfl) SPr.len (fun p => SPr.one p) hl3 hi' fun w4 k4 z4 hl4 => ?_
    rw [← prs_set] at hl4
    refine hK _ w4 (k13.fst (k4.to fun b hb => by subst hb; rfl)) ?_
    rw [show (prsOf kd V).length = (prsOf kd (V.set i (k, x))).length from by simp [prsOf]] at hl4
    rw [show (prsOf kd V).length = (prsOf kd (V.set i (k, x))).length from by simp [prsOf]]
    exact hl4
  | false =>
    have hi := place_le (lt := ordI kn n) V k
    have hput : Bt.put (ordI kn n) V k x = V.take (place (ordI kn n) V k) ++ (k, x) :: V.drop (place (ordI kn n) V k) := by unfold Bt.put; rw [if_neg (by simp [hh])]
    rw [hput] at hK
    generalize place (ordI kn n) V k = i at *
    simp [-getElem?_pos, -Array.getElem?_eq_getElem, -Int.natCast_add, -op_lit_38_1, -op_st_45, -op_alloc_45, -op_st_2, -op_st_9]
    have ez : (#[.int .i64 0, .string ByteArray.empty, .int .i64 0] : Array Value) = (⟨0, ByteArray.empty, 0⟩ : SPr).cells.toArray := by simp [SPr.cells]
    rw [ez]
    generalize hz0 : (⟨0, ByteArray.empty, 0⟩ : SPr) = z at *
    refine op_push (u := z.cells) (y := z) (G2 := fun _ => False) (flat_ok SPr.cells) apP (lit_pr z) rfl (SPr.one _) hl3 rfl (fun _ h => h.elim) (fun _ _ h => h) (by rw [hpl]; omega) (by omega) fun l4 w4 k4 hl4 ho4 => ?_
    have hl4 : PRow w4 base l4 (prsOf kd V ++ [z]) := hl4.mono (flat_ok _) (fun _ h => h.elim id fun h => h) (fun _ h => h.elim) fun _ _ h => h
    obtain ⟨g, cap, rfl, hg1, hg2, hg3, hg4⟩ := FRow.rw' hl4 (by simp)
    have hlen4 : (prsOf kd V ++ [z]).length = V.length + 1 := by simp [hpl]
    rw [hlen4] at hg3
    have b24 : w4.heap[w1.heap.size]? = some (.cells (kd.pair k x).cells.toArray 45 (0, 0)) := k4.get b23 fun he => by have := hlow0 _ he.symm; have := k1.size; omega
    have e1 : IntKind.i64.wrap ((i : Int) + 1) = ((i + 1 : Nat) : Int) := by rw [IntKind.wrap_i64]; omega
    rw [hlen4]
    simp [-getElem?_pos, -Array.getElem?_eq_getElem, -Int.natCast_add, -op_lit_38_1, -op_st_45, -op_alloc_45, -op_st_2, -op_st_9, e1, pur_cut_lo (P := Tryz.prog) (t := 38) (e := 45) (s := 3) (by kernel_rfl)]
    refine ⟨hi, hg3, by omega, hg3, ?_⟩
    have hfl4 : ((prsOf kd V ++ [z]).flatMap SPr.cells).length = (V.length + 1) * 3 := by rw [flatMap_len SPr.len, hlen4]
    refine op_copyX (s := 3) (x1 := i + 1) (x2 := i) (n := V.length - i) (g := g) (q := g) (by kernel_rfl) hg4.drew hg4.drew ?_ ?_ (by omega) (by omega) (by omega) (fun v hv => ?_) fun w5 k5 z5 r5 => ?_
    · split
      · exact .inr ⟨rfl, by omega⟩
      · exact .inl rfl
    · rw [if_neg (by omega)]; exact .inl rfl
    · obtain ⟨q, _, hq⟩ := List.mem_flatMap.1 hv
      exact SPr.one q v hq
    have k45 : Frm (· = g) w4 w5 := (Frm.drew _).fst k5
    have hne : ¬ w1.heap.size = g := by
      have := k1.size
      rcases ho4 with h | ⟨b, h, h'⟩
      · have := hlow0 g (by rw [← h]; rfl); omega
      · have : g = b := Option.some.inj h
        have := lt_of_get b23; omega
    have b25 := k45.get b24 hne
    simp [-getElem?_pos, -Array.getElem?_eq_getElem, -Int.natCast_add, -op_lit_38_1, -op_st_45, -op_alloc_45, -op_st_2, -op_st_9, b25, hx3, hs3]
    refine ⟨by omega, ?_⟩
    refine op_storeRN (n := 3) (by kernel_rfl) (by simp [SPr.cells]) r5 (by rw [lw_len (by simp only [List.length_take, List.length_drop]; omega)]; omega) (fun u hu => SPr.one _ u (by simpa using hu)) fun w6 k6 z6 r6 => ?_
    have hri := row_ins (f := SPr.cells) SPr.len (ys := prsOf kd V) (i := i) (by omega) z (kd.pair k x)
    rw [hpl] at hri
    rw [show (kd.pair k x).cells.toArray.toList = (kd.pair k x).cells from rfl, hri, ← prs_ins] at r6
    have hlr : (prsOf kd (V.take i ++ (k, x) :: V.drop i)).length = V.length + 1 := by rw [prs_len]; simp; omega
    have hfin := FRow.of_rw SPr.len r6 hg1 (by rw [hlr]; exact hg3)
    rw [hlr] at hfin
    have k46 : Frm (· = g) w4 w6 := k45.trans k6 fun _ h _ => h
    refine hK _ w6 ((k13.fst k4).old k46 fun b hb => ?_) hfin
    rcases ho4 with h | ⟨q, h, h'⟩
    · exact .inl (by rw [hb, ← h]; rfl)
    · have : g = q := Option.some.inj h
      exact .inr (by omega)
theorem sortedKey_ok (ht : p.text.size ≤ 1000) (hK : ∀ w', Frm (fun _ => False) w w' → K (.agg (kd.pair (kd.key p.key p.text) p.val).cells.toArray) w') :
    Calls Tryz.prog 49 #[.bool tx, .agg p.cells.toArray] w (ret K Kp) := by
  refine vc49_calls ?_
  delta vc49
  refine op_box_ok fun w1 k1 z1 b1 => ?_
  simp only [cells_agg, SPr.cells] at b1
  refine op_alloc_ok (z := .agg #[.int .i64 0, .string ByteArray.empty, .int .i64 0]) (by kernel_rfl) fun w2 k2 z2 b2 => ?_
  simp only [cells_agg] at b2
  have b1 := k2.get b1 fun h => h
  have k12 := k1.no k2
  have hx : ∀ a b c : Value, (#[a, b, c] : Array Value).extract 0 3 = #[a, b, c] := fun a b c => rfl
  simp [-getElem?_pos, -Array.getElem?_eq_getElem, -Int.natCast_add, -op_lit_38_1, -op_st_45, -op_alloc_45, -op_st_2, -op_st_9]
  refine op_store_ok (by kernel_rfl) b1 (by simp) rfl fun w3 k3 z3 b3 => ?_
  have b3 : w3.heap[w.heap.size]? = some (.cells #[.int .i64 p.key, .string ByteArray.empty, .int .i64 p.val] 45 (0, 0)) := by simp at b3; exact b3
  have hl1 := lt_of_get b1
  have b23 := k3.get b2 (by omega)
  simp [-getElem?_pos, -Array.getElem?_eq_getElem, -Int.natCast_add, -op_lit_38_1, -op_st_45, -op_alloc_45, -op_st_2, -op_st_9, b3, hx]
  refine op_storeN_ok (n := 3) (by kernel_rfl) b23 rfl (by simp) (by simp) fun w4 k4 z4 b4 => ?_
  rw [ow_all (by simp)] at b4
  have := hK w4 ((k12.old k3 fun c hc => .inr (by omega)).old k4 fun c hc => .inr (by omega))
  simp [-getElem?_pos, -Array.getElem?_eq_getElem, -Int.natCast_add, -op_lit_38_1, -op_st_45, -op_alloc_45, -op_st_2, -op_st_9, b4, hx]
  exact this
theorem pairs_ok {a2 : Option Addr} {c2 : Nat} {ps : List SPr} (hR : Right kn n) (hr : Row w a2 (ps.flatMap SPr.cells)) (hn : ps.length ≤ 1000) (ht : ∀ p ∈ ps, p.text.size ≤ 100)
    (hK : ∀ l w', Frm (fun _ => False) w w' → PRow w' w.heap.size l (prsOf kd (putAll (ordI kn n) [] (ps.map kd.kv))) → K l w') :
    Calls Tryz.prog 21 #[.bool tx, orderV kn n, .slice a2 ps.length c2] w (ret K Kp) := by
  refine vc21_calls ?_
  delta vc21 orderV
  refine op_box_ok fun w1 k1 z1 b1 => ?_
  simp only [cells_agg] at b1
  have n1 := k1.size
  have hx2 : (#[.int .u8 kn, .int .i64 n] : Array Value).extract 0 2 = #[.int .u8 kn, .int .i64 n] := rfl
  have hx3 : ∀ p : SPr, p.cells.toArray.extract 0 3 = p.cells.toArray := fun p => extract_self (by simp [SPr.cells])
  have hs3 : ∀ p : SPr, 3 ≤ p.cells.length := fun p => Nat.le_refl _
  simp [-getElem?_pos, -Array.getElem?_eq_getElem, -Int.natCast_add, -op_lit_38_1, -op_st_45, -op_alloc_45, -op_st_2, -op_st_9]
  obtain ⟨I, hI⟩ : ∃ I : Value → KV, ∀ l v wl, I l v wl ↔ ∃ i : Nat, v = .int .i64 i ∧ i ≤ ps.length ∧ Frm (fun _ => False) w1 wl ∧ PRow wl w1.heap.size l (prsOf kd (putAll (ordI kn n) [] ((ps.take i).map kd.kv))) := ⟨_, fun _ _ _ => Iff.rfl⟩
  refine Lp.intro I (fun _ v _ => ps.length - nOf v) ⟨(hI _ _ _).2 ⟨0, rfl, by omega, Frm.refl, rows_nil⟩, ?_⟩
  intro wl l v hv
  obtain ⟨i, rfl, hi, kl, hR'⟩ := (hI _ _ _).1 hv
  have nl := kl.size
  have b1l := kl.get b1 fun h => h
  simp only [op_lss, Br_dec]
  refine ⟨fun hlt => ?_, fun hge => ?_⟩
  · have hi' : i < ps.length := by omega
    obtain ⟨b, o, cs, e, fz, rfl, q1, q2, q3⟩ := (hr.frame (k1.no kl) fun _ _ h => h).part SPr.len (by decide) hi'
    simp [-getElem?_pos, -Array.getElem?_eq_getElem, -Int.natCast_add, -op_lit_38_1, -op_st_45, -op_alloc_45, -op_st_2, -op_st_9, q1, q2, q3]
    refine ⟨hi', ?_⟩
    refine op_alloc_ok (z := .agg #[.int .i64 0, .string ByteArray.empty, .int .i64 0]) (by kernel_rfl) fun w5 k5 z5 b5 => ?_
    simp only [cells_agg] at b5
    refine op_storeN_ok (n := 3) (by kernel_rfl) b5 rfl (by decide) (by simp [SPr.cells]) fun w6 k6 z6 b6 => ?_
    have b6 : w6.heap[wl.heap.size]? = some (.cells ps[i].cells.toArray 45 (0, 0)) := by
      rw [ow_all (by simp [SPr.cells])] at b6; exact b6
    have k6' := k5.old k6 fun c hc => .inr (by omega)
    have b16 := k6'.get b1l fun h => h
    have htp := ht _ (List.getElem_mem hi')
    simp [-getElem?_pos, -Array.getElem?_eq_getElem, -Int.natCast_add, -op_lit_38_1, -op_st_45, -op_alloc_45, -op_st_2, -op_st_9, b16, hx2, b6, hx3, hs3]
    refine sortedKey_ok (by omega) fun w7 k7 => ?_
    have k7' := k6'.no (Frm.dr k7)
    have b17 := k7'.get b1l fun h => h
    simp [-getElem?_pos, -Array.getElem?_eq_getElem, -Int.natCast_add, -op_lit_38_1, -op_st_45, -op_alloc_45, -op_st_2, -op_st_9, b17, hx2]
    have hpl := putAll_len (lt := ordI kn n) ((ps.take i).map kd.kv) []
    rw [List.length_map, List.length_take, List.length_nil] at hpl
    have hlow := hR'.own_lt
    refine put_ok (kn := kn) (n := n) hR (putAll_sd ordI_lin _ List.Pairwise.nil) (frow_still hR' k7') (by omega) (by have := k7'.size; omega) fun l' w8 k8 hl8 => ?_
    try simp [-getElem?_pos, -Array.getElem?_eq_getElem, -Int.natCast_add, -op_lit_38_1, -op_st_45, -op_alloc_45, -op_st_2, -op_st_9]
    rw [show IntKind.i64.wrap ((i : Int) + 1) = ((i + 1 : Nat) : Int) from by rw [IntKind.wrap_i64]; omega]
    refine ⟨(hI _ _ _).2 ⟨i + 1, rfl, by omega, (kl.no k7').old k8 fun c hc => .inr (hlow c hc.symm).1, ?_⟩, by simp only [nOf_int]; omega⟩
    rw [List.take_succ_eq_append_getElem hi', List.map_append, List.map_singleton, putAll_snoc]
    exact hl8
  · have : i = ps.length := by omega
    subst this
    rw [List.take_length] at hR'
    exact hK l wl (k1.no kl) (hR'.base_le n1)
end Go.Proofs.YtodjijfblgnfmaaGreatDoor.I
end
section
namespace Go.Proofs.YtodjijfblgnfmaaGreatDoor.T
open Go.Vc Go.Proofs Go.Proofs.YtodjijfblgnfmaaGreatDoor Go.Vc.Bt
variable {w w' : World} {K : KV} {Kp : KP} {n : Int} {kn : Nat} {k k' : Ky} {x x' : Vl} {V : List (Ky × Vl)} {lv : Value}
abbrev tx : Bool := true
theorem cmpP : cmpS tx kn n (kd.pair k x) (kd.pair k' x') = Bt.cmp (ordI kn n) k k' := rfl
theorem compareP_ok (hR : Right kn n) (hK : ∀ w', Frm (fun _ => False) w w' → K (.int .i64 (Bt.cmp (ordI kn n) k k')) w') : Calls Tryz.prog 34 #[orderV kn n, .bool tx, .agg (kd.pair k x).cells.toArray, .agg (kd.pair k' x').cells.toArray] w (ret K Kp) := by
  refine compareS_ok hR fun w' hf => ?_
  rw [cmpP]
  exact hK w' hf
theorem cmp_lt0 {lt : Ky → Ky → Bool} {a b : Ky} : (Bt.cmp lt a b < 0) ↔ lt a b = true := by
  unfold Bt.cmp
  split
  · rename_i h; simp [h]
  · rename_i h; split <;> simp [h]
theorem place_eq {lt : Ky → Ky → Bool} {i : Nat} (hi : i ≤ V.length) (h0 : ∀ j (hj : j < V.length), j < i → lt V[j].1 k = true) (h1 : ∀ hi : i < V.length, lt V[i].1 k = false) : place lt V k = i := by
  unfold place
  by_cases hl : i < V.length
  · rw [List.findIdx_eq hl]
    refine ⟨by simp [h1 hl], fun j hj => by simp [h0 j (by omega) hj]⟩
  · rw [show i = V.length from by omega, List.findIdx_eq_length]
    intro e he
    obtain ⟨j, hj, rfl⟩ := List.mem_iff_getElem.1 he
    simp [h0 j hj (by omega)]
theorem place_ok (hR : Right kn n) (hs : Sd (ordI kn n) V) (hl : IsSl w lv V.length ((prsOf kd V).flatMap SPr.cells)) (hn : V.length < 2 ^ 40)
    (hK : ∀ w', Frm (fun _ => False) w w' → K (.tuple #[.int .i64 (place (ordI kn n) V k : Nat), .bool (has (ordI kn n) V k)]) w') :
    Calls Tryz.prog 48 #[orderV kn n, .bool tx, lv, .agg (kd.pair k x).cells.toArray] w (ret K Kp) := by
  obtain ⟨a, c, rfl, hc, hm, hr, _⟩ := hl
  refine vc48_calls ?_
  delta vc48 orderV
  refine op_box_ok fun w1 k1 z1 b1 => op_box_ok fun w2 k2 z2 b2 => ?_
  simp only [cells_agg] at b1 b2
  have b1 := k2.get b1 fun h => h
  have k12 := k1.no k2
  have hx2 : (#[.int .u8 kn, .int .i64 n] : Array Value).extract 0 2 = #[.int .u8 kn, .int .i64 n] := rfl
  have hx3 : ∀ p : SPr, p.cells.toArray.extract 0 3 = p.cells.toArray := fun p => extract_self (by simp [SPr.cells])
  have hs3 : ∀ p : SPr, 3 ≤ p.cells.length := fun p => Nat.le_refl _
  have hpl : (prsOf kd V).length = V.length := by simp [prsOf]
  have hpg : ∀ i (hi : i < V.length), (prsOf kd V)[i]'(by omega) = kd.pair V[i].1 V[i].2 := fun i hi => by simp [prsOf]
  simp [-getElem?_pos, -Array.getElem?_eq_getElem, -Int.natCast_add, add_spot, and_assoc, Br_dec]
  obtain ⟨I, hI⟩ : ∃ I : Value → KV, ∀ u v wl, I u v wl ↔ ∃ i j : Nat, u = .int .i64 i ∧ v = .int .i64 j ∧ i ≤ j ∧ j ≤ V.length ∧ Frm (fun _ => False) w2 wl ∧ (∀ q (hq : q < V.length), q < i → ordI kn n V[q].1 k = true) ∧ ∀ q (hq : q < V.length), j ≤ q → ordI kn n V[q].1 k = false := ⟨_, fun _ _ _ => Iff.rfl⟩
  refine Lp.intro I (fun u v _ => nOf v - nOf u) ⟨(hI _ _ _).2 ⟨0, V.length, rfl, rfl, by omega, by omega, Frm.refl, fun q hq h => by omega, fun q hq h => by omega⟩, ?_⟩
  intro wl u v hv
  obtain ⟨i, j, rfl, rfl, hij, hjl, kl, hlo, hhi⟩ := (hI _ _ _).1 hv
  have b1l := kl.get b1 fun h => h
  have b2l := kl.get b2 fun h => h
  simp only [op_lss, Br_dec]
  refine ⟨fun hlt => ?_, fun hge => ?_⟩
  · have e0 : IntKind.i64.wrap ((i : Int) + j) = ((i + j : Nat) : Int) := by rw [IntKind.wrap_i64]; omega
    obtain ⟨q, hqd⟩ : ∃ q, q = (i + j) / 2 := ⟨_, rfl⟩
    have hq : q < V.length := by omega
    have e1 : IntKind.i64.wrap (((i + j : Nat) : Int) / 2) = (q : Int) := by rw [IntKind.wrap_i64]; omega
    obtain ⟨b, o, cs, e, fz, rfl, q1, q2, q3⟩ := (hr.frame ((k12.no kl).no (Frm.drew wl)) fun _ _ h => h).part SPr.len (by decide) (i := q) (by omega)
    rw [hpg _ hq] at q3
    have q1' : wl.heap[b]? = some (.cells cs e fz) := by simpa using q1
    simp [-getElem?_pos, -Array.getElem?_eq_getElem, -Int.natCast_add, e0, e1, b1l, b2l, hx2, hx3, hs3, q1', q2, q3]
    have hqi : i ≤ q := by omega
    have hqj : q < j := by omega
    refine ⟨hq, compareP_ok hR fun w5 k5 => ?_⟩
    have k5 := kl.no (Frm.dr k5)
    have elt := cmp_lt0 (lt := ordI kn n) (a := V[q].1) (b := k)
    simp [-getElem?_pos, -Array.getElem?_eq_getElem, -Int.natCast_add, elt]
    refine ⟨fun h => ⟨(hI _ _ _).2 ⟨q + 1, j, by rw [show IntKind.i64.wrap ((q : Int) + 1) = ((q + 1 : Nat) : Int) from by rw [IntKind.wrap_i64]; omega], rfl, by omega, hjl, k5, fun p hp hpq => ?_, hhi⟩, ?_⟩, fun h => ⟨(hI _ _ _).2 ⟨i, q, rfl, rfl, by omega, by omega, k5, hlo, fun p hp hpq => ?_⟩, by simp only [nOf_int]; omega⟩⟩
    · by_cases e : p = q
      · subst e; exact h
      · have h1 := List.pairwise_iff_getElem.1 hs p q hp hq (by omega)
        exact ordI_lin.tr h1 h
    · rw [show IntKind.i64.wrap ((q : Int) + 1) = ((q + 1 : Nat) : Int) from by rw [IntKind.wrap_i64]; omega]
      simp only [nOf_int]; omega
    · by_cases e : p = q
      · subst e; exact h
      · have h1 := List.pairwise_iff_getElem.1 hs q p hq hp (by omega)
        cases hc : ordI kn n V[p].1 k with
        | false => rfl
        | true => rw [ordI_lin.tr h1 hc] at h; cases h
  · have hij' : i = j := by omega
    subst hij'
    have hp : place (ordI kn n) V k = i := place_eq hjl (fun j hj h => hlo j hj h) (fun hi => hhi i hi (Nat.le_refl _))
    rw [hp] at hK
    have hhas : has (ordI kn n) V k = if h : i < V.length then decide (V[i].1 = k) else false := by
      unfold has
      rw [hp]
      split
      · rename_i e h
        obtain ⟨h1, h2⟩ := List.getElem?_eq_some_iff.1 h
        rw [dif_pos h1, h2]
      · rename_i h
        rw [dif_neg (by rw [List.getElem?_eq_none_iff] at h; omega)]
    simp [-getElem?_pos, -Array.getElem?_eq_getElem, -Int.natCast_add, add_spot, and_assoc, Br_dec]
    refine ⟨fun hil => ?_, fun hge => ?_⟩
    · have hil : i < V.length := by omega
      rw [dif_pos hil] at hhas
      obtain ⟨b, o, cs, e, fz, rfl, q1, q2, q3⟩ := (hr.frame (k12.no kl) fun _ _ h => h).part SPr.len (by decide) (i := i) (by omega)
      rw [hpg _ hil] at q3
      simp [-getElem?_pos, -Array.getElem?_eq_getElem, -Int.natCast_add, b1l, b2l, hx2, hx3, hs3, q1, q2, q3]
      refine ⟨hil, compareP_ok hR fun w5 k5 => ?_⟩
      have ez : decide (Bt.cmp (ordI kn n) V[i].1 k = 0) = decide (V[i].1 = k) := decide_eq_decide.2 (cmp_zero ordI_lin)
      simp [-getElem?_pos, -Array.getElem?_eq_getElem, -Int.natCast_add, add_spot, and_assoc, Br_dec]
      rw [ez, ← hhas]
      exact hK w5 ((k12.no kl).no (Frm.dr k5))
    · rw [dif_neg (by omega)] at hhas
      rw [hhas] at hK
      exact hK _ ((k12.no kl).no (Frm.drew _))
end Go.Proofs.YtodjijfblgnfmaaGreatDoor.T
end
section
namespace Go.Proofs.YtodjijfblgnfmaaGreatDoor.T
open Go.Vc Go.Proofs Go.Proofs.YtodjijfblgnfmaaGreatDoor Go.Vc.Bt
variable {w w' : World} {K : KV} {Kp : KP} {n : Int} {kn base : Nat} {k : Ky} {x : Vl} {V : List (Ky × Vl)} {l : Value} {p : SPr}
abbrev PRow (w : World) (base : Nat) (l : Value) (L : List SPr) : Prop := FRow SPr.cells w base 45 3 l L
theorem apP : apOf Tryz.prog 38 = some (45, 3, 32) := by kernel_rfl
theorem lit_pr (p : SPr) : sliceLit Tryz.prog 38 1 [(0, .agg p.cells.toArray)] = some (45, p.cells.toArray) := lit_38_1
theorem prs_set {i : Nat} : prsOf kd (V.set i (k, x)) = (prsOf kd V).set i (kd.pair k x) := by simp [prsOf, List.map_set]
theorem prs_ins {i : Nat} : prsOf kd (V.take i ++ (k, x) :: V.drop i) = (prsOf kd V).take i ++ kd.pair k x :: (prsOf kd V).drop i := by simp [prsOf, List.map_take, List.map_drop]
theorem prs_len : (prsOf kd V).length = V.length := by simp [prsOf]
theorem put_ok (hR : Right kn n) (hs : Sd (ordI kn n) V) (hl : PRow w base l (prsOf kd V)) (hn : V.length < 2 ^ 40) (hb : base ≤ w.heap.size)
    (hK : ∀ l' w', Frm (fun b => some b = l.ownBlock) w w' → PRow w' base l' (prsOf kd (Bt.put (ordI kn n) V k x)) → K l' w') :
    Calls Tryz.prog 46 #[orderV kn n, .bool tx, l, .agg (kd.pair k x).cells.toArray] w (ret K Kp) := by
  refine vc46_calls ?_
  delta vc46 orderV
  refine op_box_ok fun w1 k1 z1 b1 => op_box_ok fun w2 k2 z2 b2 => ?_
  simp only [cells_agg] at b1 b2
  have b1 := k2.get b1 fun h => h
  have k12 := k1.no k2
  have hx2 : (#[.int .u8 kn, .int .i64 n] : Array Value).extract 0 2 = #[.int .u8 kn, .int .i64 n] := rfl
  have hx3 : ∀ p : SPr, p.cells.toArray.extract 0 3 = p.cells.toArray := fun p => extract_self (by simp [SPr.cells])
  have hs3 : ∀ p : SPr, 3 ≤ p.cells.length := fun p => Nat.le_refl _
  have hpl := prs_len (V := V)
  simp [-getElem?_pos, -Array.getElem?_eq_getElem, -Int.natCast_add, -op_lit_38_1, -op_st_45, -op_alloc_45, -op_st_2, -op_st_9, b1, b2, hx2, hx3, hs3]
  have hfl := (frow_still hl k12).flat
  rw [hpl] at hfl
  refine place_ok (k := k) (x := x) hR hs hfl hn fun w3 k3 => ?_
  have k13 := k12.no k3
  have b13 := k3.get b1 fun h => h
  have b23 := k3.get b2 fun h => h
  have hl3 := frow_still hl k13
  have hlow := hl3.own_lt
  have n3 := k13.size
  have hlow0 := hl.own_lt
  cases hh : has (ordI kn n) V k with
  | true =>
    have hi := has_lt hh
    obtain ⟨g, cap, rfl, hg1, hg2, hg3, hg4⟩ := FRow.rw' hl3 (by omega)
    have hput : Bt.put (ordI kn n) V k x = V.set (place (ordI kn n) V k) (k, x) := by unfold Bt.put; rw [if_pos hh]
    rw [hput] at hK
    have hi' : place (ordI kn n) V k < (prsOf kd V).length := by omega
    generalize place (ordI kn n) V k = i at *
    simp [-getElem?_pos, -Array.getElem?_eq_getElem, -Int.natCast_add, -op_lit_38_1, -op_st_45, -op_alloc_45, -op_st_2, -op_st_9, b23, hx3, hs3]
    refine ⟨hi', ?_⟩
    refine op_store_frow (f := SPr.cells) (by kernel_rfl) SPr.len (fun p => SPr.one p) hl3 hi' fun w4 k4 z4 hl4 => ?_
    rw [← prs_set] at hl4
    refine hK _ w4 (k13.fst (k4.to fun b hb => by subst hb; rfl)) ?_
    rw [show (prsOf kd V).length = (prsOf kd (V.set i (k, x))).length from by simp [prsOf]] at hl4
    rw [show (prsOf kd V).length = (prsOf kd (V.set i (k, x))).length from by simp [prsOf]]
    exact hl4
  | false =>
    have hi := place_le (lt := ordI kn n) V k
    have hput : Bt.put (ordI kn n) V k x = V.take (place (ordI kn n) V k) ++ (k, x) :: V.drop (place (ordI kn n) V k) := by unfold Bt.put; rw [if_neg (by simp [hh])]
    rw [hput] at hK
    generalize place (ordI kn n) V k = i at *
    simp [-getElem?_pos, -Array.getElem?_eq_getElem, -Int.natCast_add, -op_lit_38_1, -op_st_45, -op_alloc_45, -op_st_2, -op_st_9]
    have ez : (#[.int .i64 0, .string ByteArray.empty, .int .i64 0] : Array Value) = (⟨0, ByteArray.empty, 0⟩ : SPr).cells.toArray := by simp [SPr.cells]
    rw [ez]
    generalize hz0 : (⟨0, ByteArray.empty, 0⟩ : SPr) = z at *
    refine op_push (u := z.cells) (y := z) (G2 := fun _ => False) (flat_ok SPr.cells) apP (lit_pr z) rfl (SPr.one _) hl3 rfl (fun _ h => h.elim) (fun _ _ h => h) (by rw [hpl]; omega) (by omega) fun l4 w4 k4 hl4 ho4 => ?_
    have hl4 : PRow w4 base l4 (prsOf kd V ++ [z]) := hl4.mono (flat_ok _) (fun _ h => h.elim id fun h => h) (fun _ h => h.elim) fun _ _ h => h
    obtain ⟨g, cap, rfl, hg1, hg2, hg3, hg4⟩ := FRow.rw' hl4 (by simp)
    have hlen4 : (prsOf kd V ++ [z]).length = V.length + 1 := by simp [hpl]
    rw [hlen4] at hg3
    have b24 : w4.heap[w1.heap.size]? = some (.cells (kd.pair k x).cells.toArray 45 (0, 0)) := k4.get b23 fun he => by have := hlow0 _ he.symm; have := k1.size; omega
    have e1 : IntKind.i64.wrap ((i : Int) + 1) = ((i + 1 : Nat) : Int) := by rw [IntKind.wrap_i64]; omega
    rw [hlen4]
    simp [-getElem?_pos, -Array.getElem?_eq_getElem, -Int.natCast_add, -op_lit_38_1, -op_st_45, -op_alloc_45, -op_st_2, -op_st_9, e1, pur_cut_lo (P := Tryz.prog) (t := 38) (e := 45) (s := 3) (by kernel_rfl)]
    refine ⟨hi, hg3, by omega, hg3, ?_⟩
    have hfl4 : ((prsOf kd V ++ [z]).flatMap SPr.cells).length = (V.length + 1) * 3 := by rw [flatMap_len SPr.len, hlen4]
    refine op_copyX (s := 3) (x1 := i + 1) (x2 := i) (n := V.length - i) (g := g) (q := g) (by kernel_rfl) hg4.drew hg4.drew ?_ ?_ (by omega) (by omega) (by omega) (fun v hv => ?_) fun w5 k5 z5 r5 => ?_
    · split
      · exact .inr ⟨rfl, by omega⟩
      · exact .inl rfl
    · rw [if_neg (by omega)]; exact .inl rfl
    · obtain ⟨q, _, hq⟩ := List.mem_flatMap.1 hv
      exact SPr.one q v hq
    have k45 : Frm (· = g) w4 w5 := (Frm.drew _).fst k5
    have hne : ¬ w1.heap.size = g := by
      have := k1.size
      rcases ho4 with h | ⟨b, h, h'⟩
      · have := hlow0 g (by rw [← h]; rfl); omega
      · have : g = b := Option.some.inj h
        have := lt_of_get b23; omega
    have b25 := k45.get b24 hne
    simp [-getElem?_pos, -Array.getElem?_eq_getElem, -Int.natCast_add, -op_lit_38_1, -op_st_45, -op_alloc_45, -op_st_2, -op_st_9, b25, hx3, hs3]
    refine ⟨by omega, ?_⟩
    refine op_storeRN (n := 3) (by kernel_rfl) (by simp [SPr.cells]) r5 (by rw [lw_len (by simp only [List.length_take, List.length_drop]; omega)]; omega) (fun u hu => SPr.one _ u (by simpa using hu)) fun w6 k6 z6 r6 => ?_
    have hri := row_ins (f := SPr.cells) SPr.len (ys := prsOf kd V) (i := i) (by omega) z (kd.pair k x)
    rw [hpl] at hri
    rw [show (kd.pair k x).cells.toArray.toList = (kd.pair k x).cells from rfl, hri, ← prs_ins] at r6
    have hlr : (prsOf kd (V.take i ++ (k, x) :: V.drop i)).length = V.length + 1 := by rw [prs_len]; simp; omega
    have hfin := FRow.of_rw SPr.len r6 hg1 (by rw [hlr]; exact hg3)
    rw [hlr] at hfin
    have k46 : Frm (· = g) w4 w6 := k45.trans k6 fun _ h _ => h
    refine hK _ w6 ((k13.fst k4).old k46 fun b hb => ?_) hfin
    rcases ho4 with h | ⟨q, h, h'⟩
    · exact .inl (by rw [hb, ← h]; rfl)
    · have : g = q := Option.some.inj h
      exact .inr (by omega)
theorem sortedKey_ok (ht : p.text.size ≤ 1000) (hK : ∀ w', Frm (fun _ => False) w w' → K (.agg (kd.pair (kd.key p.key p.text) p.val).cells.toArray) w') :
    Calls Tryz.prog 49 #[.bool tx, .agg p.cells.toArray] w (ret K Kp) := by
  refine vc49_calls ?_
  delta vc49
  refine op_box_ok fun w1 k1 z1 b1 => ?_
  simp only [cells_agg, SPr.cells] at b1
  refine op_alloc_ok (z := .agg #[.int .i64 0, .string ByteArray.empty, .int .i64 0]) (by kernel_rfl) fun w2 k2 z2 b2 => ?_
  simp only [cells_agg] at b2
  have b1 := k2.get b1 fun h => h
  have k12 := k1.no k2
  have hx : ∀ a b c : Value, (#[a, b, c] : Array Value).extract 0 3 = #[a, b, c] := fun a b c => rfl
  simp [-getElem?_pos, -Array.getElem?_eq_getElem, -Int.natCast_add, -op_lit_38_1, -op_st_45, -op_alloc_45, -op_st_2, -op_st_9]
  refine op_store_ok (by kernel_rfl) b1 (by simp) rfl fun w3 k3 z3 b3 => ?_
  have b3 : w3.heap[w.heap.size]? = some (.cells #[.int .i64 0, .string p.text, .int .i64 p.val] 45 (0, 0)) := by simp at b3; exact b3
  have hl1 := lt_of_get b1
  have b23 := k3.get b2 (by omega)
  simp [-getElem?_pos, -Array.getElem?_eq_getElem, -Int.natCast_add, -op_lit_38_1, -op_st_45, -op_alloc_45, -op_st_2, -op_st_9, b3, hx]
  refine op_storeN_ok (n := 3) (by kernel_rfl) b23 rfl (by simp) (by simp) fun w4 k4 z4 b4 => ?_
  rw [ow_all (by simp)] at b4
  have := hK w4 ((k12.old k3 fun c hc => .inr (by omega)).old k4 fun c hc => .inr (by omega))
  have e : kd.pair (kd.key p.key p.text) p.val = ⟨0, p.text, p.val⟩ := by show (⟨0, (tk p.text).1, p.val⟩ : SPr) = _; rw [tk_val ht]
  rw [e] at this
  simp [-getElem?_pos, -Array.getElem?_eq_getElem, -Int.natCast_add, -op_lit_38_1, -op_st_45, -op_alloc_45, -op_st_2, -op_st_9, b4, hx]
  exact this
theorem pairs_ok {a2 : Option Addr} {c2 : Nat} {ps : List SPr} (hR : Right kn n) (hr : Row w a2 (ps.flatMap SPr.cells)) (hn : ps.length ≤ 1000) (ht : ∀ p ∈ ps, p.text.size ≤ 100)
    (hK : ∀ l w', Frm (fun _ => False) w w' → PRow w' w.heap.size l (prsOf kd (putAll (ordI kn n) [] (ps.map kd.kv))) → K l w') :
    Calls Tryz.prog 21 #[.bool tx, orderV kn n, .slice a2 ps.length c2] w (ret K Kp) := by
  refine vc21_calls ?_
  delta vc21 orderV
  refine op_box_ok fun w1 k1 z1 b1 => ?_
  simp only [cells_agg] at b1
  have n1 := k1.size
  have hx2 : (#[.int .u8 kn, .int .i64 n] : Array Value).extract 0 2 = #[.int .u8 kn, .int .i64 n] := rfl
  have hx3 : ∀ p : SPr, p.cells.toArray.extract 0 3 = p.cells.toArray := fun p => extract_self (by simp [SPr.cells])
  have hs3 : ∀ p : SPr, 3 ≤ p.cells.length := fun p => Nat.le_refl _
  simp [-getElem?_pos, -Array.getElem?_eq_getElem, -Int.natCast_add, -op_lit_38_1, -op_st_45, -op_alloc_45, -op_st_2, -op_st_9]
  obtain ⟨I, hI⟩ : ∃ I : Value → KV, ∀ l v wl, I l v wl ↔ ∃ i : Nat, v = .int .i64 i ∧ i ≤ ps.length ∧ Frm (fun _ => False) w1 wl ∧ PRow wl w1.heap.size l (prsOf kd (putAll (ordI kn n) [] ((ps.take i).map kd.kv))) := ⟨_, fun _ _ _ => Iff.rfl⟩
  refine Lp.intro I (fun _ v _ => ps.length - nOf v) ⟨(hI _ _ _).2 ⟨0, rfl, by omega, Frm.refl, rows_nil⟩, ?_⟩
  intro wl l v hv
  obtain ⟨i, rfl, hi, kl, hR'⟩ := (hI _ _ _).1 hv
  have nl := kl.size
  have b1l := kl.get b1 fun h => h
  simp only [op_lss, Br_dec]
  refine ⟨fun hlt => ?_, fun hge => ?_⟩
  · have hi' : i < ps.length := by omega
    obtain ⟨b, o, cs, e, fz, rfl, q1, q2, q3⟩ := (hr.frame (k1.no kl) fun _ _ h => h).part SPr.len (by decide) hi'
    simp [-getElem?_pos, -Array.getElem?_eq_getElem, -Int.natCast_add, -op_lit_38_1, -op_st_45, -op_alloc_45, -op_st_2, -op_st_9, q1, q2, q3]
    refine ⟨hi', ?_⟩
    refine op_alloc_ok (z := .agg #[.int .i64 0, .string ByteArray.empty, .int .i64 0]) (by kernel_rfl) fun w5 k5 z5 b5 => ?_
    simp only [cells_agg] at b5
    refine op_storeN_ok (n := 3) (by kernel_rfl) b5 rfl (by decide) (by simp [SPr.cells]) fun w6 k6 z6 b6 => ?_
    have b6 : w6.heap[wl.heap.size]? = some (.cells ps[i].cells.toArray 45 (0, 0)) := by
      rw [ow_all (by simp [SPr.cells])] at b6; exact b6
    have k6' := k5.old k6 fun c hc => .inr (by omega)
    have b16 := k6'.get b1l fun h => h
    have htp := ht _ (List.getElem_mem hi')
    simp [-getElem?_pos, -Array.getElem?_eq_getElem, -Int.natCast_add, -op_lit_38_1, -op_st_45, -op_alloc_45, -op_st_2, -op_st_9, b16, hx2, b6, hx3, hs3]
    refine sortedKey_ok (by omega) fun w7 k7 => ?_
    have k7' := k6'.no (Frm.dr k7)
    have b17 := k7'.get b1l fun h => h
    simp [-getElem?_pos, -Array.getElem?_eq_getElem, -Int.natCast_add, -op_lit_38_1, -op_st_45, -op_alloc_45, -op_st_2, -op_st_9, b17, hx2]
    have hpl := putAll_len (lt := ordI kn n) ((ps.take i).map kd.kv) []
    rw [List.length_map, List.length_take, List.length_nil] at hpl
    have hlow := hR'.own_lt
    refine put_ok (kn := kn) (n := n) hR (putAll_sd ordI_lin _ List.Pairwise.nil) (frow_still hR' k7') (by omega) (by have := k7'.size; omega) fun l' w8 k8 hl8 => ?_
    try simp [-getElem?_pos, -Array.getElem?_eq_getElem, -Int.natCast_add, -op_lit_38_1, -op_st_45, -op_alloc_45, -op_st_2, -op_st_9]
    rw [show IntKind.i64.wrap ((i : Int) + 1) = ((i + 1 : Nat) : Int) from by rw [IntKind.wrap_i64]; omega]
    refine ⟨(hI _ _ _).2 ⟨i + 1, rfl, by omega, (kl.no k7').old k8 fun c hc => .inr (hlow c hc.symm).1, ?_⟩, by simp only [nOf_int]; omega⟩
    rw [List.take_succ_eq_append_getElem hi', List.map_append, List.map_singleton, putAll_snoc]
    exact hl8
  · have : i = ps.length := by omega
    subst this
    rw [List.take_length] at hR'
    exact hK l wl (k1.no kl) (hR'.base_le n1)
end Go.Proofs.YtodjijfblgnfmaaGreatDoor.T
end
section
namespace Go.Proofs.YtodjijfblgnfmaaGreatDoor
open Go.Vc Go.Proofs
variable {S : Sig} {a0 a1 a2 a3 a4 a5 a6 a7 a8 a9 : Value} {w : World} {K : KV} {Kp : KP}
private theorem follows_BVcLI : Tryz.prog.follows .mixedOrders = true := by kernel_rfl
end Go.Proofs.YtodjijfblgnfmaaGreatDoor
end
section
namespace Go.Proofs.YtodjijfblgnfmaaGreatDoor
open Go.Vc Go.Proofs Go.Vc.Bt
variable {w w' : World} {K : KV} {Kp : KP} {n : Int} {kn : Nat} {text : Bool} {a2 : Option Addr} {c2 : Nat} {ps : List SPr}
abbrev PRow := I.PRow
theorem sortedPairs_ok (hR : Right kn n) (hr : Row w a2 (ps.flatMap SPr.cells)) (hn : ps.length ≤ 1000) (ht : ∀ p ∈ ps, p.text.size ≤ 100)
    (hK : ∀ l w', Frm (fun _ => False) w w' → PRow w' w.heap.size l (itemsOf text kn n ps) → K l w') : Calls Tryz.prog 21 #[.bool text, orderV kn n, .slice a2 ps.length c2] w (ret K Kp) := by
  cases text
  · exact I.pairs_ok hR hr hn ht hK
  · exact T.pairs_ok hR hr hn ht hK
end Go.Proofs.YtodjijfblgnfmaaGreatDoor
end
section
namespace Go.Vc
variable {P : Program} {w w' w'' : World} {K : Value → World → Prop} {Kp : KP} {t e e' : TypeId} {s g o n c cap : Nat} {xs : List Value} {M M' : Nat → Nat → Prop}
structure CFrm (M : Nat → Nat → Prop) (w w' : World) : Prop where
  frm : Frm (fun b => ∃ j, M b j) w w'
  cells : ∀ b cs e, w.heap[b]? = some (.cells cs e (0, 0)) → ∃ cs', w'.heap[b]? = some (.cells cs' e (0, 0)) ∧ cs'.size = cs.size ∧ ∀ j, ¬ M b j → cs'[j]? = cs[j]?
theorem CFrm.refl : CFrm M w w := ⟨Frm.refl, fun b cs e h => ⟨cs, h, rfl, fun _ _ => rfl⟩⟩
theorem CFrm.of (h : Frm (fun _ => False) w w') : CFrm M w w' := ⟨h.to fun _ h => h.elim, fun b cs e hb => ⟨cs, h.get hb fun h => h, rfl, fun _ _ => rfl⟩⟩
theorem CFrm.trans (h : CFrm M w w') (k : CFrm M' w' w'') (hM : ∀ b j, M' b j → b < w.heap.size → M b j) : CFrm M w w'' := by
  refine ⟨h.frm.trans k.frm fun b ⟨j, hj⟩ hb => ⟨j, hM b j hj hb⟩, fun b cs e hb => ?_⟩
  obtain ⟨c1, h1, h2, h3⟩ := h.cells b cs e hb
  obtain ⟨c2, h4, h5, h6⟩ := k.cells b c1 e h1
  exact ⟨c2, h4, by omega, fun j hj => by rw [h6 j fun hm => hj (hM b j hm (lt_of_get hb)), h3 j hj]⟩
theorem CFrm.mono (h : CFrm M w w') (hM : ∀ b j, M b j → b < w.heap.size → M' b j) : CFrm M' w w' := by
  refine ⟨h.frm.mono fun b ⟨j, hj⟩ hb => ⟨j, hM b j hj hb⟩, fun b cs e hb => ?_⟩
  obtain ⟨c1, h1, h2, h3⟩ := h.cells b cs e hb
  exact ⟨c1, h1, h2, fun j hj => h3 j fun hm => hj (hM b j hm (lt_of_get hb))⟩
theorem CFrm.no (h : CFrm M w w') (k : Frm (fun _ => False) w' w'') : CFrm M w w'' := h.trans (CFrm.of (M := fun _ _ => False) k) fun _ _ h => h.elim
theorem CFrm.fst (h : Frm (fun _ => False) w w') (k : CFrm M w' w'') : CFrm M w w'' := (CFrm.of h).trans k fun _ _ h _ => h
theorem CFrm.size (h : CFrm M w w') : w.heap.size ≤ w'.heap.size := h.frm.size
theorem CFrm.old (h : CFrm M w w') (k : CFrm M' w' w'') (hM : ∀ b j, M' b j → M b j ∨ w.heap.size ≤ b) : CFrm M w w'' := h.trans k fun b j hj hb => (hM b j hj).resolve_right (by omega)
theorem CFrm.get {b : Nat} {cs : Array Value} {e : TypeId} (h : CFrm M w w') (hb : w.heap[b]? = some (.cells cs e (0, 0))) (hn : ∀ j, ¬ M b j) : w'.heap[b]? = some (.cells cs e (0, 0)) := h.frm.get hb fun ⟨j, hj⟩ => hn j hj
theorem CFrm.one {cs cs' : Array Value} {I : Nat → Prop} (h : Frm (· = g) w w') (h1 : w.heap[g]? = some (.cells cs e (0, 0))) (h2 : w'.heap[g]? = some (.cells cs' e (0, 0))) (hs : cs'.size = cs.size) (hI : ∀ j, ¬ I j → cs'[j]? = cs[j]?) (hne : ∃ j, I j) : CFrm (fun b j => b = g ∧ I j) w w' := by
  refine ⟨h.to fun b hb => by obtain ⟨j, hj⟩ := hne; exact ⟨j, hb, hj⟩, fun b c e' hb => ?_⟩
  by_cases hg : b = g
  · subst hg
    rw [h1] at hb; cases hb
    exact ⟨cs', h2, hs, fun j hj => hI j fun hi => hj ⟨rfl, hi⟩⟩
  · exact ⟨c, h.get hb hg, rfl, fun _ _ => rfl⟩
theorem Sg.cframe (h : Sg w e s g o n c xs) (hf : CFrm M w w') (hM : ∀ j, o ≤ j → j < o + c * s → ¬ M g j) : Sg w' e s g o n c xs := by
  obtain ⟨cs, h1, h2, h3, h4, h5, h6⟩ := h
  obtain ⟨cs', k1, k2, k3⟩ := hf.cells g cs e h1
  refine ⟨cs', k1, h2, h3, by omega, ?_, h6⟩
  have hnc : n * s ≤ c * s := Nat.mul_le_mul_right _ h3
  rw [← h5]
  refine List.ext_getElem? fun j => ?_
  simp only [List.getElem?_take, List.getElem?_drop, Array.getElem?_toList]
  split
  · exact k3 _ (hM _ (by omega) (by omega))
  · rfl
theorem Sg.write {cur : Array Value} {l : List Value} {x : Nat} (h : Sg w e s g o n c xs) (hb : w.heap[g]? = some (.cells cur e (0, 0))) (hx : x + l.length ≤ n * s) (hl : 0 < l.length) :
    Sg (w.upd g (.cells (ow cur (o + x) l) e (0, 0))) e s g o n c (lw xs x l) ∧ CFrm (fun b j => b = g ∧ o ≤ j ∧ j < o + c * s) w (w.upd g (.cells (ow cur (o + x) l) e (0, 0))) := by
  obtain ⟨cs, h1, h2, h3, h4, h5, h6⟩ := h
  rw [hb] at h1; cases h1
  have hnc : n * s ≤ c * s := Nat.mul_le_mul_right _ h3
  have hg := heap_upd_same (o := .cells (ow cur (o + x) l) e (0, 0)) hb
  refine ⟨⟨_, hg, by rw [lw_len (by omega), h2], h3, by rw [ow_size]; exact h4, ?_, h6⟩, CFrm.one (Frm.upd _ _ fun _ => rfl) hb hg (by rw [ow_size]) (fun j hj => ?_) ⟨o, by omega, by omega⟩⟩
  · rw [ow_lw l cur (o + x) (by omega)]
    have h7 : (lw cur.toList (o + x) l).drop o = lw (cur.toList.drop o) x l := by
      unfold lw
      rw [List.append_assoc, List.drop_append_of_le_length (by rw [List.length_take, Array.length_toList]; omega), List.drop_take, List.drop_drop, List.append_assoc, show o + x - o = x from by omega, show o + x + l.length = o + (x + l.length) from by omega]
    rw [h7, lw_take (by omega) (by rw [List.length_drop, Array.length_toList]; omega), h5]
  · rw [ow_get (by omega), if_neg (by omega)]
theorem op_storeSg {vs : Array Value} {m : Nat} {p : Addr} {x : Nat} (h : ldk P t = some (.agg m)) (hn : vs.size = m) (hm : 0 < m) (hr : Sg w e s g o n c xs) (hp : p = ⟨g, o + x, none⟩) (ho : x + m ≤ n * s) (h1 : ∀ u ∈ vs, u.oneCell' = true)
    (hK : ∀ w', CFrm (fun b j => b = g ∧ o ≤ j ∧ j < o + c * s) w w' → w'.heap.size = w.heap.size → Sg w' e s g o n c (lw xs x vs.toList) → K undef w') : (nice P).op (.store t (.pointer (some p)) (.agg vs)) w K Kp := by
  subst hp
  obtain ⟨cs, h2, h3, h4, h5, h6, h7⟩ := id hr
  have hnc : n * s ≤ c * s := Nat.mul_le_mul_right _ h4
  rw [op_stn h]
  obtain ⟨k1, k2⟩ := hr.write (l := vs.toList) h2 (by rw [Array.length_toList, hn]; exact ho) (by rw [Array.length_toList, hn]; exact hm)
  exact ⟨hn, fun u hu => h1 u (by simpa using hu), cs, e, h2, rfl, by show o + x + m ≤ cs.size; omega, hK _ k2 (by simp) k1⟩
theorem op_copyIn {dT sT ty : TypeId} {a1 a2 : Addr} {x1 x2 dl dc sl sc m : Nat} (hc : (sliceOf P dT).map (·.2) = some s) (hs0 : 0 < s) (hr : Sg w e s g o n c xs) (h1 : a1 = partAt g o c x1 s) (h2 : a2 = partAt g o c x2 s) (hn : m = min sl dl)
    (hd : x1 + m ≤ n) (hs : x2 + m ≤ n) (ho : ∀ v ∈ xs, v.oneCell' = true)
    (hK : ∀ w', CFrm (fun b j => b = g ∧ o ≤ j ∧ j < o + c * s) w w' → w'.heap.size = w.heap.size → Sg w' e s g o n c (lw xs (x1 * s) ((xs.drop (x2 * s)).take (m * s))) → K (.int .i64 m) w') :
    (nice P).op (.blt .copy [dT, sT] ty [.slice (some a1) dl dc, .slice (some a2) sl sc]) w K Kp := by
  cases hq : sliceOf P dT with
  | none => simp [hq] at hc
  | some es =>
    obtain ⟨el, s'⟩ := es
    have : s' = s := by simpa [hq] using hc
    subst this
    obtain ⟨hu, hs'⟩ := slice_spec hq
    obtain ⟨cs, k2, k3, k4, k5, k6, k7⟩ := id hr
    have hnc : n * s' ≤ c * s' := Nat.mul_le_mul_right _ k4
    have e1 : x1 * s' + m * s' ≤ n * s' := by rw [← Nat.add_mul]; exact Nat.mul_le_mul_right _ hd
    have e2 : x2 * s' + m * s' ≤ n * s' := by rw [← Nat.add_mul]; exact Nat.mul_le_mul_right _ hs
    by_cases hm : m = 0
    · subst hm
      obtain ⟨o1, p1, q1⟩ : ∃ o1, partAt g o c x1 s' = ⟨g, o1, none⟩ ∧ o1 ≤ cs.size := by
        unfold partAt; split
        · exact ⟨o, rfl, by omega⟩
        · exact ⟨_, rfl, by omega⟩
      obtain ⟨o2, p2, q2⟩ : ∃ o2, partAt g o c x2 s' = ⟨g, o2, none⟩ ∧ o2 ≤ cs.size := by
        unfold partAt; split
        · exact ⟨o, rfl, by omega⟩
        · exact ⟨_, rfl, by omega⟩
      rw [h1, h2, p1, p2]
      refine op_copyN (n := 0) hu hs' k2 k2 hn (by omega) (by omega) (fun v hv => by simp at hv) ?_
      have hid : w.upd g (.cells (ow cs o1 ((cs.toList.drop o2).take (0 * s'))) e (0, 0)) = w := by
        rw [Nat.zero_mul, List.take_zero]; exact upd_id k2
      rw [hid]
      have := hK w CFrm.refl rfl (by rw [Nat.zero_mul, List.take_zero, lw_nil]; exact hr)
      exact this
    · have hm0 : 0 < m * s' := Nat.mul_pos (by omega) hs0
      have hx1 : partAt g o c x1 s' = ⟨g, o + x1 * s', none⟩ := by unfold partAt; rw [if_neg (by omega)]
      have hx2 : partAt g o c x2 s' = ⟨g, o + x2 * s', none⟩ := by unfold partAt; rw [if_neg (by omega)]
      rw [h1, h2, hx1, hx2]
      have hseg : (cs.toList.drop (o + x2 * s')).take (m * s') = (xs.drop (x2 * s')).take (m * s') := by
        rw [← k6, List.drop_take, List.take_take, List.drop_drop]; congr 1; omega
      have hlen : ((xs.drop (x2 * s')).take (m * s')).length = m * s' := by rw [List.length_take, List.length_drop]; omega
      refine op_copyN hu hs' k2 k2 hn (by omega) (by omega) (fun v hv => ?_) ?_
      · rw [hseg] at hv; exact ho v (List.mem_of_mem_drop (List.mem_of_mem_take hv))
      · rw [hseg]
        obtain ⟨q1, q2⟩ := hr.write (l := (xs.drop (x2 * s')).take (m * s')) (x := x1 * s') k2 (by omega) (by omega)
        exact hK _ q2 (by simp) q1
theorem ins_place {A z v : List Value} {r q : Nat} (h : r ≤ A.length) (hz : z.length = q) (hv : v.length = q) : lw (lw (A ++ z) (r + q) (((A ++ z).drop r).take (A.length - r))) r v = A.take r ++ (v ++ A.drop r) := by
  have e1 : ((A ++ z).drop r).take (A.length - r) = A.drop r := by
    rw [List.drop_append_of_le_length h, List.take_append_of_le_length (by rw [List.length_drop]; exact Nat.le_refl _), List.take_of_length_le (by rw [List.length_drop]; exact Nat.le_refl _)]
  rw [e1]
  have hd : ((A ++ z).drop (r + q + (A.drop r).length)) = [] := List.drop_of_length_le (by rw [List.length_append, List.length_drop]; omega)
  have e2 : lw (A ++ z) (r + q) (A.drop r) = (A ++ z).take (r + q) ++ A.drop r := by
    unfold lw
    rw [hd, List.append_nil]
  rw [e2]
  have hl : ((A ++ z).take (r + q)).length = r + q := by rw [List.length_take, List.length_append]; omega
  have h0 : ((A ++ z).take (r + q)).take r = A.take r := by rw [List.take_take, Nat.min_eq_left (by omega), List.take_append_of_le_length h]
  generalize (A ++ z).take (r + q) = B at *
  unfold lw
  rw [List.take_append_of_le_length (by omega), h0, hv, ← hl, List.drop_left, List.append_assoc]
theorem op_growSg {bytes m c2 : Nat} {ty : TypeId} {p : Addr} {news : List Value} (ha : apOf P t = some (e, s, bytes)) (hr : Sg w e s g o n c xs) (hw : Row w (some p) news) (hm : news.length = m * s) (hm0 : 0 < m) (h1 : ∀ u ∈ news, u.oneCell' = true) (hx : ∀ u ∈ xs, u.oneCell' = true)
    (h63 : (n + m) * (bytes + 1) ≤ 140737488355328)
    (hK : ∀ w' g' o' c', CFrm (fun b j => b = g ∧ o ≤ j ∧ j < o + c * s) w w' → Sg w' e s g' o' (n + m) c' (xs ++ news) → (g' = g ∧ o' = o ∧ c' = c ∨ w.heap.size ≤ g') → w.heap.size ≤ w'.heap.size → K (.slice (some ⟨g', o', none⟩) (n + m) c') w') :
    (nice P).op (.blt .append [t, t] ty [.slice (some ⟨g, o, none⟩) n c, .slice (some p) m c2]) w K Kp := by
  obtain ⟨i, z, ht, hi, hz, hsize, hby, hzs, hsz⟩ := apOf_spec ha
  subst hsize hby
  have hb1 : (n + m) * i.bytes ≤ 140737488355328 := Nat.le_trans (Nat.mul_le_mul_left _ (by omega)) h63
  have hb2 : n + m ≤ 140737488355328 := Nat.le_trans (Nat.le_mul_of_pos_right _ (by omega)) h63
  have h63' : n + m ≤ maxLen := by unfold maxLen; omega
  show outOf P _ w K Kp
  have hcells : ∀ j u, news[j]? = some u → w.cell? (p.add j) = some u := fun j u hu => by
    rcases hw with rfl | ⟨b, o, cs, e', fz, h1, h2, h3⟩
    · simp at hu
    · obtain rfl := Option.some.inj h1
      rw [add_spot rfl, World.cell?, h2]
      exact h3 j u hu
  obtain ⟨cs, k2, k3, k4, k5, k6, k7⟩ := id hr
  have hnc : n * i.size ≤ c * i.size := Nat.mul_le_mul_right _ k4
  by_cases hroom : n + m ≤ c
  · have hmul : (n + m) * i.size ≤ c * i.size := Nat.mul_le_mul_right _ hroom
    rw [Nat.add_mul] at hmul
    have hf := run_firstCells_some (P := P) w i.size m p m c2 news hm hcells
    have hst := run_storeCells (P := P) news (w := w) (p := ⟨g, o + n * i.size, none⟩) 0 k2 rfl (by show o + n * i.size + 0 + news.length ≤ cs.size; omega) h1
    have hrun : (Builtin.append_ #[t, t] ty #[.slice (some ⟨g, o, none⟩) n c, .slice (some p) m c2]).run P w = .ok (.slice (some ⟨g, o, none⟩) (n + m) c) (w.upd g (.cells (ow cs (o + n * i.size) news) e (0, 0))) := by
      have hadd : (⟨g, o, none⟩ : Addr).add (n * i.size) = ⟨g, o + n * i.size, none⟩ := add_spot rfl _
      simp [Builtin.append_, run_underlying ht, sizeOf, typeInfo, hi, Builtin.lenOf, hroom, hf, hadd, hst, storeCells]
    refine out_ok hrun (hK _ g o c ?_ ?_ (.inl ⟨rfl, rfl, rfl⟩) (by simp))
    · refine (CFrm.one (I := fun j => o ≤ j ∧ j < o + c * i.size) (Frm.upd _ _ fun _ => rfl) k2 (heap_upd_same k2) (by rw [ow_size]) (fun j hj => ?_) ⟨o, by omega, ?_⟩)
      · rw [ow_get (by omega), if_neg (by omega)]
      · have : 0 < m * i.size := Nat.mul_pos hm0 hsz
        omega
    · refine ⟨_, heap_upd_same k2, by rw [List.length_append, k3, hm, Nat.add_mul], hroom, by rw [ow_size]; exact k5, ?_, k7⟩
      rw [ow_lw news cs (o + n * i.size) (by omega)]
      have : (lw cs.toList (o + n * i.size) news).drop o = (cs.toList.drop o).take (n * i.size) ++ (news ++ cs.toList.drop (o + n * i.size + news.length)) := by
        unfold lw
        rw [List.append_assoc, List.drop_append_of_le_length (by rw [List.length_take, Array.length_toList]; omega), List.drop_take, show o + n * i.size - o = n * i.size from by omega]
      rw [this, k6, ← List.append_assoc, List.take_append_of_le_length (by rw [List.length_append, k3, hm, Nat.add_mul]; exact Nat.le_refl _), List.take_of_length_le (by rw [List.length_append, k3, hm, Nat.add_mul]; exact Nat.le_refl _)]
  · have holds : ∀ j u, xs[j]? = some u → w.cell? ((⟨g, o, none⟩ : Addr).add j) = some u := fun j u hu => by
      obtain ⟨cs', q1, q2, q3⟩ := hr.cells
      rw [add_spot rfl, World.cell?, q1]
      show cs'[o + j]? = some u
      rw [q3 j (List.getElem?_eq_some_iff.1 hu).1]; exact hu
    have hrun := run_append_grow (P := P) w t ty e i z ht hi hz ⟨g, o, none⟩ n c xs k3 holds p m c2 news hm hcells (by omega) (by omega) (growslice_fits (by omega) hb1)
    have hge := grownCap_ge w (n + m) c e
    refine out_ok hrun (hK _ w.heap.size 0 (grownCap w (n + m) c e) (CFrm.of ((Frm.drew w).no (Frm.alloc _ _))) ?_ (.inr (Nat.le_refl _)) (by simp))
    refine ⟨_, heap_alloc_new w.drew _, by rw [List.length_append, k3, hm, Nat.add_mul], hge, ?_, ?_, grownCap_le_maxLen w (n + m) c e h63'⟩
    · simp only [Array.size_append, List.size_toArray, size_zeroCells, hzs, k3, hm, ← Nat.add_mul]
      rw [Nat.zero_add]
      exact Nat.mul_le_mul_right _ (by omega)
    · simp only [Array.toList_append, List.append_assoc, List.drop_zero]
      rw [← List.append_assoc, show (n + m) * i.size = (xs ++ news).length from by rw [List.length_append, k3, hm, Nat.add_mul]]
      exact List.take_left
end Go.Vc
end
section
namespace Go.Proofs.YtodjijfblgnfmaaGreatDoor.I
open Go.Vc Go.Proofs Go.Proofs.YtodjijfblgnfmaaGreatDoor Go.Vc.Bt
variable {w w' : World} {v : Value} {t : Tr} {K : KV} {Kp : KP} {rb : Nat} {b g o c h : Nat} {es : List (Ky × Vl)}
abbrev Foot := Nat → Nat → Prop
def own1 (b g o c s : Nat) : Foot := fun y j => y = b ∨ y = g ∧ o ≤ j ∧ j < o + c * s
abbrev Nd := Tr × Value × Foot
def Disj (F G : Foot) : Prop := ∀ b j, F b j → ¬ G b j
theorem Disj.symm {F G : Foot} (h : Disj F G) : Disj G F := fun b j hg hf => h b j hf hg
def vals (N : List Nd) : List (Tr × Value) := N.map fun p => (p.1, p.2.1)
def RepC (w : World) : Nat → Tr → Value → Foot → Prop
  | 0, .leaf es, v, F => ∃ b g o c, v = .iface 220 (ptr b) ∧ w.heap[b]? = some (.cells #[.slice (some ⟨g, o, none⟩) es.length c] 226 (0, 0)) ∧ Sg w 223 2 g o es.length c (ents es) ∧ F = own1 b g o c 2
  | h + 1, .br ks, v, F => ∃ b g o c, ∃ N : List Nd, v = .iface 279 (ptr b) ∧ w.heap[b]? = some (.cells #[.slice (some ⟨g, o, none⟩) N.length c] 284 (0, 0)) ∧ ks = N.map (·.1) ∧ Sg w 286 2 g o N.length c (els h (vals N)) ∧
      (∀ p ∈ N, RepC w h p.1 p.2.1 p.2.2) ∧ N.Pairwise (fun a b => Disj a.2.2 b.2.2) ∧ (∀ p ∈ N, Disj (own1 b g o c 2) p.2.2) ∧ F = fun y j => own1 b g o c 2 y j ∨ ∃ p ∈ N, p.2.2 y j
  | _, _, _, _ => False
def Own (w : World) (h : Nat) (N : List Nd) : Prop := (∀ p ∈ N, RepC w h p.1 p.2.1 p.2.2) ∧ N.Pairwise fun a b => Disj a.2.2 b.2.2
theorem RepC.cframe {M : Foot} : ∀ {h : Nat} {t : Tr} {v : Value} {F : Foot}, RepC w h t v F → CFrm M w w' → Disj F M → RepC w' h t v F
  | 0, .leaf es, v, F, hr, hf, hM => by
    obtain ⟨b, g, o, c, h1, h2, h3, rfl⟩ := hr
    exact ⟨b, g, o, c, h1, hf.get h2 fun j => hM b j (.inl rfl), h3.cframe hf fun j h h' => hM g j (.inr ⟨rfl, h, h'⟩), rfl⟩
  | h + 1, .br ks, v, F, hr, hf, hM => by
    obtain ⟨b, g, o, c, N, h1, h2, h3, h4, h5, h6, h7, rfl⟩ := hr
    exact ⟨b, g, o, c, N, h1, hf.get h2 fun j => hM b j (.inl (.inl rfl)), h3, h4.cframe hf fun j h h' => hM g j (.inl (.inr ⟨rfl, h, h'⟩)), fun p hp => (h5 p hp).cframe hf fun y j hy => hM y j (.inr ⟨p, hp, hy⟩), h6, h7, rfl⟩
  | 0, .br ks, v, F, hr, hf, hM => hr.elim
  | h + 1, .leaf es, v, F, hr, hf, hM => hr.elim
theorem RepC.still {F : Foot} (hr : RepC w h t v F) (hf : Frm (fun _ => False) w w') : RepC w' h t v F := hr.cframe (CFrm.of (M := fun _ _ => False) hf) fun _ _ _ h => h
theorem Own.cframe {M : Foot} {N : List Nd} (hr : Own w h N) (hf : CFrm M w w') (hM : ∀ p ∈ N, Disj p.2.2 M) : Own w' h N := ⟨fun p hp => (hr.1 p hp).cframe hf (hM p hp), hr.2⟩
theorem Own.still {N : List Nd} (hr : Own w h N) (hf : Frm (fun _ => False) w w') : Own w' h N := hr.cframe (CFrm.of (M := fun _ _ => False) hf) fun _ _ _ _ _ h => h
theorem RepC.rep : ∀ {h : Nat} {t : Tr} {v : Value} {F : Foot}, RepC w h t v F → Rep w h t v
  | 0, .leaf es, v, F, hr => by
    obtain ⟨b, g, o, c, h1, h2, h3, _⟩ := hr
    exact ⟨b, g, o, c, h1, h2, h3⟩
  | h + 1, .br ks, v, F, hr => by
    obtain ⟨b, g, o, c, N, h1, h2, h3, h4, h5, _⟩ := hr
    have e : ks.length = N.length := by rw [h3, List.length_map]
    refine ⟨b, g, o, c, vals N, h1, by rw [e]; exact h2, by rw [h3]; simp [vals], by rw [e]; exact h4, fun p hp => ?_⟩
    obtain ⟨q, hq, rfl⟩ := List.mem_map.1 hp
    exact (h5 q hq).rep
  | 0, .br ks, v, F, hr => hr.elim
  | h + 1, .leaf es, v, F, hr => hr.elim
theorem RepC.low : ∀ {h : Nat} {t : Tr} {v : Value} {F : Foot}, RepC w h t v F → ∀ y j, F y j → y < w.heap.size
  | 0, .leaf es, v, F, hr, y, j, hy => by
    obtain ⟨b, g, o, c, h1, h2, h3, rfl⟩ := hr
    rcases hy with rfl | ⟨rfl, _⟩
    · exact lt_of_get h2
    · exact h3.lt
  | h + 1, .br ks, v, F, hr, y, j, hy => by
    obtain ⟨b, g, o, c, N, h1, h2, h3, h4, h5, h6, h7, rfl⟩ := hr
    rcases hy with (rfl | ⟨rfl, _⟩) | ⟨p, hp, hy⟩
    · exact lt_of_get h2
    · exact h4.lt
    · exact (h5 p hp).low y j hy
  | 0, .br ks, v, F, hr, y, j, hy => hr.elim
  | h + 1, .leaf es, v, F, hr, y, j, hy => hr.elim
theorem RepC.ty : ∀ {h : Nat} {t : Tr} {v : Value} {F : Foot}, RepC w h t v F → ∀ y j, F y j → ∃ cs e, w.heap[y]? = some (.cells cs e (0, 0)) ∧ (e = 226 ∨ e = 223 ∨ e = 284 ∨ e = 286)
  | 0, .leaf es, v, F, hr, y, j, hy => by
    obtain ⟨b, g, o, c, h1, h2, ⟨cs, h3, _⟩, rfl⟩ := hr
    rcases hy with rfl | ⟨rfl, _⟩
    · exact ⟨_, _, h2, .inl rfl⟩
    · exact ⟨_, _, h3, .inr (.inl rfl)⟩
  | h + 1, .br ks, v, F, hr, y, j, hy => by
    obtain ⟨b, g, o, c, N, h1, h2, h3, ⟨cs, h4, _⟩, h5, h6, h7, rfl⟩ := hr
    rcases hy with (rfl | ⟨rfl, _⟩) | ⟨p, hp, hy⟩
    · exact ⟨_, _, h2, .inr (.inr (.inl rfl))⟩
    · exact ⟨_, _, h4, .inr (.inr (.inr rfl))⟩
    · exact (h5 p hp).ty y j hy
  | 0, .br ks, v, F, hr, y, j, hy => hr.elim
  | h + 1, .leaf es, v, F, hr, y, j, hy => hr.elim
theorem flag.cfrm {b b' : Bool} (h : flag w rb b) (hf : Frm (· = rb) w w') (h' : flag w' rb b') : CFrm (fun y _ => y = rb) w w' :=
  (CFrm.one (I := fun _ => True) hf h h' rfl (fun j hj => absurd trivial hj) ⟨0, trivial⟩).mono fun b j h _ => h.1
theorem RepC.flag {F : Foot} {b : Bool} (h1 : RepC w h t v F) (h2 : flag w rb b) : ∀ j, ¬ F rb j := fun j hj => by
  obtain ⟨cs, e, h3, h4⟩ := h1.ty rb j hj
  unfold I.flag at h2
  rw [h2] at h3
  cases h3
  rcases h4 with h | h | h | h <;> cases h
theorem zero_ent : ∃ z : List Value, z.length = 2 ∧ (∀ u ∈ z, u.oneCell' = true) ∧ sliceLit Tryz.prog 224 1 [(0, .agg z.toArray)] = some (223, z.toArray) ∧ ∀ {w : World} {K : KV} {Kp : KP}, nP.op (.build 223 []) w K Kp = K (.agg z.toArray) w :=
  ⟨[zk, zv], rfl, fun u hu => by simp only [List.mem_cons, List.not_mem_nil, or_false] at hu; rcases hu with rfl | rfl <;> rfl, lit_224_1, op_build_223_⟩
end Go.Proofs.YtodjijfblgnfmaaGreatDoor.I
end
