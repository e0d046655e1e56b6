import Derived.Test.YtodjijfblgnfmaaGreatDoorX2
import Derived.Test.YtodjijfblgnfmaaGreatDoorX1
import Derived.Test.YtodjijfblgnfmaaGreatDoorX0
import Derived.Tactics
import Derived.Tactics2
import Derived.Laws.Externs
import Derived.Lib.Bytealg
import Derived.Defers
import Derived.Recover
import Derived.Laws.Pointers
set_option linter.unusedSimpArgs false
set_option linter.unusedVariables false
set_option linter.unusedSectionVars false
set_option maxRecDepth 100000
set_option maxHeartbeats 4000000
section
namespace Go.Proofs.YtodjijfblgnfmaaGreatDoor.I
open Go.Vc Go.Proofs Go.Proofs.YtodjijfblgnfmaaGreatDoor Go.Vc.Bt
variable {w w' : World} {v cv : Value} {K : KV} {Kp : KP} {lt : Ky → Ky → Bool} {ib mb b : Nat} {L : List (Ky × Vl)} {cs cs' : Array Value} {s : Tr} {n N : Nat} {M : Nat → Prop}
theorem call_key {args : List Value} : nP.call (.val (.func (.func 89) #[] #[])) args w K Kp = Calls Tryz.prog 89 args.toArray w (ret K Kp) := by
  rw [call_val (by kernel_rfl)]; simp
theorem call_many {args : List Value} : nP.call (.val (.func (.func 90) #[] #[])) args w K Kp = Calls Tryz.prog 90 args.toArray w (ret K Kp) := by
  rw [call_val (by kernel_rfl)]; simp
theorem call_pair {args : List Value} : nP.call (.val (.func (.func 91) #[] #[])) args w K Kp = Calls Tryz.prog 91 args.toArray w (ret K Kp) := by
  rw [call_val (by kernel_rfl)]; simp
theorem sortedRun_ok {a2 : Option Addr} {c2 : Nat} {steps : List SSt} (hC : CmpOk cv lt none) (hl : Lin lt) (h2 : Row w a2 (steps.flatMap SSt.cells)) (hs : ∀ s ∈ steps, s.text.size ≤ 100) (hc : scost steps < 2 ^ 30)
    (hD : (∃ s ∈ steps, s.op = 1 ∨ s.op = 6) → DelOk lt) (hG : (∃ s ∈ steps, s.op = 2) → GetOk lt) (hB : (∃ s ∈ steps, s.op = 4) → BackOk lt) (hM : (∃ s ∈ steps, s.op = 5 ∨ s.op = 6) → ManyOk w)
    (hK : ∀ l w' G, Frm (fun _ => False) w w' → RowsOf ElA w' w.heap.size 56 4 l (runS lt kd steps).2 G → K l w') :
    Calls Tryz.prog 42 #[kdV, cv, .slice a2 steps.length c2] w (ret K Kp) := by
  have hE := flat_ok (fun b : Nat => [ptr b])
  refine vc42_calls ?_
  delta vc42
  refine op_box_ok fun w1 k1 z1 b1 => ?_
  simp only [kdV, cells_agg] at b1
  simp only [call_79]
  refine new_ok hC fun w2 mb k2 hmb hM2 => ?_
  have n1 := k1.size
  have n2 := k2.size
  refine op_row1 (base := w1.heap.size) (El := Flat fun b => [ptr b]) (u := [ptr mb]) (y := mb) (G2 := fun _ => False) hE apO (lit_137_1 rfl) rfl rfl (fun _ h => h.elim) (by omega) fun l3 w3 k3 hR3 ho3 => ?_
  have k13 := k2.no k3
  obtain ⟨a3, c3, rfl, _⟩ := hR3.slice
  simp [-getElem?_pos, -Array.getElem?_eq_getElem, -Int.natCast_add]
  obtain ⟨I, hI⟩ : ∃ I : Value → Value → KV, ∀ l out v wl, I l out v wl ↔ ∃ (i : Nat) (bs : List Nat) (G : Nat → Prop), v = .int .i64 i ∧ i ≤ steps.length ∧ Frm (fun _ => False) w1 wl ∧
      RowsOf (Flat fun b => [ptr b]) wl w1.heap.size 135 1 l bs (fun _ => False) ∧ bs.length = (runS lt kd (steps.take i)).1.length ∧
      (∀ (j b : Nat) (L : List (Ky × Vl)), bs[j]? = some b → (runS lt kd (steps.take i)).1[j]? = some L → Ver wl b lt (scost (steps.take i)) L) ∧
      RowsOf ElA wl w1.heap.size 56 4 out (runS lt kd (steps.take i)).2 G ∧ ∀ c, G c → ∃ cs, wl.heap[c]? = some (.cells cs 49 (0, 0)) := ⟨_, fun _ _ _ _ => Iff.rfl⟩
  refine Lp.intro I (fun _ _ v _ => steps.length - nOf v) ⟨(hI _ _ _ _).2 ⟨0, [mb], fun _ => False, rfl, by omega, k13, hR3, by simp [runS], fun j b L hb hL => ?_, rows_nil, fun _ h => h.elim⟩, ?_⟩
  · cases j with
    | zero =>
      simp [runS] at hb hL
      subst hb hL
      exact ⟨none, hM2.still k3, trivial, rfl⟩
    | succ j => simp at hb
  intro wl l out v hlv
  obtain ⟨i, bs, G, rfl, hi, kl, hR, hbl, hV, hO, hGt⟩ := (hI _ _ _ _).1 hlv
  clear hlv hR3 hM2 k13 k3
  simp only [op_lss, Br_dec]
  refine ⟨fun hlt' => ?_, fun hnl' => ?_⟩
  rotate_left
  · have : i = steps.length := by omega
    subst this
    rw [List.take_length] at hO
    exact hK out wl G (k1.no kl) (hO.base_le n1)
  have hi' : i < steps.length := by omega
  have htk : steps.take (i + 1) = steps.take i ++ [steps[i]] := List.take_succ_eq_append_getElem hi'
  have hmem : steps[i] ∈ steps := List.getElem_mem hi'
  have hctk := scost_take steps (i + 1)
  have hsl := scost_len steps
  have hlenr := runS_len (lt := lt) (kd := kd) (steps.take i)
  have hle := runS_le (lt := lt) (kd := kd) (steps.take i)
  have hsnoc := runS_snoc (lt := lt) (kd := kd) (steps.take i) steps[i]
  rw [← htk] at hsnoc
  rw [htk, scost_snoc] at hctk
  have hcsn := scost_snoc (steps.take i) steps[i]
  rw [← htk] at hcsn
  rw [List.length_take] at hlenr
  obtain ⟨bp, o, cs, e, fz, rfl, hcs, hsz, hext⟩ := (h2.frame (k1.no kl) (fun _ _ h => h)).part SSt.len (by decide) hi'
  have hst := hs _ hmem
  have hD' : steps[i].op = 1 ∨ steps[i].op = 6 → DelOk lt := fun h => hD ⟨_, hmem, h⟩
  have hG' : steps[i].op = 2 → GetOk lt := fun h => hG ⟨_, hmem, h⟩
  have hB' : steps[i].op = 4 → BackOk lt := fun h => hB ⟨_, hmem, h⟩
  have hM' : steps[i].op = 5 ∨ steps[i].op = 6 → ManyOk w := fun h => hM ⟨_, hmem, h⟩
  generalize steps[i] = s at *
  generalize hvs : runS lt kd (steps.take i) = vs at *
  obtain ⟨vs, an⟩ := vs
  simp only at hbl hV hO hlenr hle
  generalize hNn : scost (steps.take i) = N at *
  have hq : atV s vs.length < vs.length := atV_lt hlenr.1
  have hqb : atV s bs.length < bs.length := by rw [hbl]; exact hq
  have bk := kl.get b1 fun h => h
  have nl := kl.size
  have hlow := hR.own_lt
  have hlowO := hO.own_lt
  simp [-getElem?_pos, -Array.getElem?_eq_getElem, -Int.natCast_add, hcs, hsz, hext]
  refine ⟨hi', ?_⟩
  refine op_alloc_ok (z := .agg #[.int .u8 0, .int .i64 0, .int .i64 0, .string ByteArray.empty, .int .i64 0, .int .i64 0, .int .i64 0]) (by kernel_rfl) fun w5 k5 z5 b5 => ?_
  simp only [cells_agg] at b5
  refine op_storeN_ok (n := 7) (by kernel_rfl) b5 rfl (by decide) (by simp [SSt.cells]) fun w6 k6 z6 b6 => ?_
  have b6 : w6.heap[wl.heap.size]? = some (.cells s.cells.toArray 54 (0, 0)) := by
    rw [ow_all (by simp [SSt.cells])] at b6; simpa [SSt.cells] using b6
  simp only [SSt.cells] at b6
  have k56 : Frm (fun _ => False) wl w6 := k5.old k6 fun c hc => .inr (by omega)
  have hR6 := hR.still hE k56
  obtain ⟨u, g, c, cur, hlg, hg1, hu, hg3, hg4, hg5, hub⟩ := hR6.get hqb
  cases hlg
  have hub : u = [ptr bs[atV s bs.length]] := hub
  subst hub
  have hg0 : cur[atV s bs.length]? = some (ptr bs[atV s bs.length]) := by have := hg3 0 (by decide); simpa using this
  obtain ⟨L0, hL0⟩ : ∃ L0, vs[atV s bs.length]? = some L0 := ⟨_, List.getElem?_eq_getElem (by omega)⟩
  have hV6 := (hV _ _ _ (List.getElem?_eq_getElem hqb) hL0).still k56
  have hL0N : L0.length ≤ N := hle _ (List.mem_of_getElem? hL0)
  have hsd := hV6.sd
  generalize hbv : bs[atV s bs.length] = bv at *
  simp [-getElem?_pos, -Array.getElem?_eq_getElem, -Int.natCast_add, b6]
  refine at_ok (by omega) (by omega) ?_
  have hat : ((s.fro % (bs.length : Int)).toNat) = atV s bs.length := rfl
  rw [hat]
  simp [-getElem?_pos, -Array.getElem?_eq_getElem, -Int.natCast_add, hg1, hg0]
  refine ⟨hqb, ?_⟩
  refine op_alloc_ok (z := .agg #[.int .i64 0, .int .i64 0, .bool false, .slice none 0 0]) (by kernel_rfl) fun wA kA zA bA => ?_
  simp only [cells_agg] at bA
  have k6A : Frm (fun _ => False) wl wA := k56.no kA
  have bS := kA.get b6 fun h => h
  have bK := k6A.get bk fun h => h
  have hVA := hV6.still kA
  have hlS := lt_of_get b6
  have nA := k6A.size
  have hne : ¬ wl.heap.size = w6.heap.size := by omega
  have hneK : ¬ w.heap.size = w6.heap.size := by omega
  generalize hab : w6.heap.size = ab at *
  obtain ⟨J, hJ⟩ : ∃ J : KV, ∀ e wz, J e wz ↔ ∃ b' pv, e = ptr b' ∧ Mid lt s N L0 ab wA wz b' pv := ⟨_, fun _ _ => Iff.rfl⟩
  refine Jn.intro J ⟨?_, ?_⟩
  · have hz : ∀ {wz : World} {b' : Nat} {m : List (Ky × Vl)}, newV lt kd s L0 = some m → Frm (fun _ => False) wA wz → Ver wz b' lt (N + s.cost) m → J (ptr b') wz := fun {wz b' m} hm hf hv => by
      have e : midA lt s L0 = zeroA := by unfold midA; rw [hm]; rfl
      refine (hJ _ _).2 ⟨b', .slice none 0 0, rfl, hf.to fun _ h => h.elim, by rw [hm]; exact hv, ?_, ?_, fun c hc => nomatch hc⟩
      · rw [e]; exact hf.get bA fun h => h
      · rw [e]; exact IsSl.nil
    have hx3 : (#[.func (.func 89) #[] #[], .func (.func 90) #[] #[], .func (.func 91) #[] #[]] : Array Value).extract 0 3 = #[.func (.func 89) #[] #[], .func (.func 90) #[] #[], .func (.func 91) #[] #[]] := rfl
    have hc1 : 1 ≤ s.cost := by unfold SSt.cost; omega
    have hdr := hVA.still (Frm.drew wA)
    by_cases h0 : s.op = 0
    · simp [-getElem?_pos, -Array.getElem?_eq_getElem, -Int.natCast_add, bS, bK, h0, call_key]
      refine key_ok hst ?_
      try simp [-getElem?_pos, -Array.getElem?_eq_getElem, -Int.natCast_add, bS]
      refine ver_set hl hdr (by omega) fun w7 b' k7 v7 => ?_
      exact hz (by unfold newV; rw [if_pos h0]) (Frm.dr k7) (v7.mono (by omega))
    by_cases h1 : s.op = 1
    · simp [-getElem?_pos, -Array.getElem?_eq_getElem, -Int.natCast_add, bS, bK, h1, call_key]
      refine key_ok hst ?_
      try simp [-getElem?_pos, -Array.getElem?_eq_getElem, -Int.natCast_add, bS]
      refine hD' (.inl h1) hVA (by omega) fun w7 b' k7 v7 => ?_
      exact hz (by unfold newV; rw [if_neg h0, if_pos h1]) k7 (v7.mono (by omega))
    by_cases h5 : s.op = 5
    · simp [-getElem?_pos, -Array.getElem?_eq_getElem, -Int.natCast_add, bS, h5]
      obtain ⟨I2, hI2⟩ : ∃ I2 : Value → KV, ∀ m v wz, I2 m v wz ↔ ∃ j b' : Nat, m = ptr b' ∧ v = .int .i64 j ∧ j ≤ s.count.toNat ∧ Frm (fun _ => False) wA wz ∧ Ver wz b' lt (N + j) (putN lt kd s j L0) := ⟨_, fun _ _ _ => Iff.rfl⟩
      refine Lp.intro I2 (fun _ v _ => s.count.toNat - nOf v) ⟨(hI2 _ _ _).2 ⟨0, bv, rfl, rfl, by omega, Frm.refl, hVA⟩, ?_⟩
      intro wz m v hm
      obtain ⟨j, b', rfl, rfl, hj, kz, vz⟩ := (hI2 _ _ _).1 hm
      have bSz := kz.get bS fun h => h
      have bKz := kz.get bK fun h => h
      have hpl := putN_le (lt := lt) (kd := kd) s L0 j
      have hcost : s.cost = 1 + s.count.toNat := rfl
      have hx7 : (#[.int .u8 s.op, .int .i64 s.fro, .int .i64 s.key, .string s.text, .int .i64 s.value, .int .i64 s.count, .int .i64 s.by'] : Array Value).extract 0 7 = s.cells.toArray := rfl
      simp [-getElem?_pos, -Array.getElem?_eq_getElem, -Int.natCast_add, bSz]
      refine ⟨fun hlt2 => ?_, fun hge => ?_⟩
      · simp [-getElem?_pos, -Array.getElem?_eq_getElem, -Int.natCast_add, bSz, bKz, call_many, hx7]
        refine hM' (.inl h5) hst ((k1.no kl).no (k6A.no (kz.no (Frm.drew _)))) fun w7 k7 => ?_
        have bS7 := (Frm.dr k7).get bSz fun h => h
        simp [-getElem?_pos, -Array.getElem?_eq_getElem, -Int.natCast_add, bS7]
        refine ver_set hl (vz.still (Frm.dr k7)) (by omega) fun w8 b8 k8 v8 => ?_
        rw [show IntKind.i64.wrap ((j : Int) + 1) = ((j + 1 : Nat) : Int) from by rw [IntKind.wrap_i64]; omega]
        refine ⟨(hI2 _ _ _).2 ⟨j + 1, b8, rfl, rfl, by omega, kz.no ((Frm.dr k7).no k8), v8⟩, by simp only [nOf_int]; omega⟩
      · have : j = s.count.toNat := by omega
        subst this
        exact hz (by unfold newV; rw [if_neg h0, if_neg h1, if_pos h5]) kz (vz.mono (by omega))
    by_cases h6 : s.op = 6
    · simp [-getElem?_pos, -Array.getElem?_eq_getElem, -Int.natCast_add, bS, h6]
      obtain ⟨I2, hI2⟩ : ∃ I2 : Value → KV, ∀ m v wz, I2 m v wz ↔ ∃ j b' : Nat, m = ptr b' ∧ v = .int .i64 j ∧ j ≤ s.count.toNat ∧ Frm (fun _ => False) wA wz ∧ Ver wz b' lt N (remN lt kd s j L0) := ⟨_, fun _ _ _ => Iff.rfl⟩
      refine Lp.intro I2 (fun _ v _ => s.count.toNat - nOf v) ⟨(hI2 _ _ _).2 ⟨0, bv, rfl, rfl, by omega, Frm.refl, hVA⟩, ?_⟩
      intro wz m v hm
      obtain ⟨j, b', rfl, rfl, hj, kz, vz⟩ := (hI2 _ _ _).1 hm
      have bSz := kz.get bS fun h => h
      have bKz := kz.get bK fun h => h
      have hpl := remN_le (lt := lt) (kd := kd) s L0 j
      have hcost : s.cost = 1 + s.count.toNat := rfl
      have hx7 : (#[.int .u8 s.op, .int .i64 s.fro, .int .i64 s.key, .string s.text, .int .i64 s.value, .int .i64 s.count, .int .i64 s.by'] : Array Value).extract 0 7 = s.cells.toArray := rfl
      simp [-getElem?_pos, -Array.getElem?_eq_getElem, -Int.natCast_add, bSz]
      refine ⟨fun hlt2 => ?_, fun hge => ?_⟩
      · simp [-getElem?_pos, -Array.getElem?_eq_getElem, -Int.natCast_add, bSz, bKz, call_many, hx7]
        refine hM' (.inr h6) hst ((k1.no kl).no (k6A.no kz)) fun w7 k7 => ?_
        have bS7 := k7.get bSz fun h => h
        try simp [-getElem?_pos, -Array.getElem?_eq_getElem, -Int.natCast_add, bS7]
        refine hD' (.inr h6) (vz.still k7) (by omega) fun w8 b8 k8 v8 => ?_
        try simp [-getElem?_pos, -Array.getElem?_eq_getElem, -Int.natCast_add]
        rw [show IntKind.i64.wrap ((j : Int) + 1) = ((j + 1 : Nat) : Int) from by rw [IntKind.wrap_i64]; omega]
        refine ⟨(hI2 _ _ _).2 ⟨j + 1, b8, rfl, rfl, by omega, kz.no (k7.no k8), v8⟩, by simp only [nOf_int]; omega⟩
      · have : j = s.count.toNat := by omega
        subst this
        exact hz (by unfold newV; rw [if_neg h0, if_neg h1, if_neg h5, if_pos h6]) kz (vz.mono (by omega))
    have hnone : newV lt kd s L0 = none := by unfold newV; rw [if_neg h0, if_neg h1, if_neg h5, if_neg h6]
    have hmid : midA lt s L0 = ansV lt kd s L0 := by unfold midA; rw [hnone]; rfl
    have hn : ∀ {wz : World} {pv : Value}, Frm (· = ab) wA wz → wz.heap[ab]? = some (.cells #[.int .i64 (ansV lt kd s L0).value, .int .i64 (ansV lt kd s L0).n, .bool (ansV lt kd s L0).ok, pv] 56 (0, 0)) → IsSl wz pv (ansV lt kd s L0).list.length ((ansV lt kd s L0).list.flatMap SPr.cells) →
        (∀ c, pv.ownBlock = some c → wA.heap.size ≤ c ∧ ∃ cs, wz.heap[c]? = some (.cells cs 49 (0, 0))) → J (ptr bv) wz := fun {wz pv} hf hcell hrow hown => by
      refine (hJ _ _).2 ⟨bv, pv, rfl, hf, ?_, by rw [hmid]; exact hcell, by rw [hmid]; exact hrow, hown⟩
      rw [hnone]
      exact (hVA.quiet (quiet_ans bA) hf).mono (by omega)
    by_cases h2' : s.op = 2
    · simp [-getElem?_pos, -Array.getElem?_eq_getElem, -Int.natCast_add, bS, bK, h2', call_key]
      refine key_ok hst ?_
      try simp [-getElem?_pos, -Array.getElem?_eq_getElem, -Int.natCast_add, bS]
      refine hG' h2' hVA fun w7 k7 => ?_
      have b7 := k7.get bA fun h => h
      cases hgg : got lt L0 (kd.key s.key s.text) with
      | none =>
        have ea : ansV lt kd s L0 = zeroA := by unfold ansV; rw [if_pos h2', hgg]
        simp [-getElem?_pos, -Array.getElem?_eq_getElem, -Int.natCast_add, gotV]
        refine op_store_ok (by kernel_rfl) b7 (by decide) rfl fun w8 k8 z8 b8 => ?_
        refine op_store_ok (by kernel_rfl) b8 (by decide) rfl fun w9 k9 z9 b9 => ?_
        refine hn ((k7.fst k8).trans k9 fun _ h _ => h) (pv := .slice none 0 0) (by rw [ea]; simpa [zeroA, zv] using b9) (by rw [ea]; exact IsSl.nil) fun c hc => nomatch hc
      | some x =>
        have ea : ansV lt kd s L0 = ⟨x, 0, true, []⟩ := by unfold ansV; rw [if_pos h2', hgg]
        simp [-getElem?_pos, -Array.getElem?_eq_getElem, -Int.natCast_add, gotV]
        refine op_store_ok (by kernel_rfl) b7 (by decide) rfl fun w8 k8 z8 b8 => ?_
        refine op_store_ok (by kernel_rfl) b8 (by simp) rfl fun w9 k9 z9 b9 => ?_
        refine hn ((k7.fst k8).trans k9 fun _ h _ => h) (pv := .slice none 0 0) (by rw [ea]; simpa [ev] using b9) (by rw [ea]; exact IsSl.nil) fun c hc => nomatch hc
    by_cases h3 : s.op = 3
    · have ea : ansV lt kd s L0 = ⟨0, L0.length, false, prs L0⟩ := by unfold ansV; rw [if_neg h2', if_pos h3]; rfl
      simp [-getElem?_pos, -Array.getElem?_eq_getElem, -Int.natCast_add, bS, bK, h3, hx3]
      refine ver_iter hdr (by omega) fun w7 ib k7 hib hA7 => ?_
      have k7 := Frm.dr k7
      have bK7 := k7.get bK fun h => h
      have n7 := k7.size
      have hib : wA.heap.size ≤ ib := hib
      simp [-getElem?_pos, -Array.getElem?_eq_getElem, -Int.natCast_add, bK7, hx3]
      refine pairsOf_ok hA7 (by omega) fun pv w8 k8 hR8 => ?_
      rw [restOf_zero] at hR8
      have k78 : Frm (fun _ => False) wA w8 := k7.old k8 fun c hc => .inr (by omega)
      have b8 := k78.get bA fun h => h
      try simp [-getElem?_pos, -Array.getElem?_eq_getElem, -Int.natCast_add]
      refine ver_len (hVA.still k78) ?_
      refine op_store_ok (by kernel_rfl) b8 (by decide) hR8.one fun w9 k9 z9 b9 => ?_
      try simp [-getElem?_pos, -Array.getElem?_eq_getElem, -Int.natCast_add]
      refine op_store_ok (by kernel_rfl) b9 (by simp) rfl fun w10 k10 z10 b10 => ?_
      have k810 : Frm (· = ab) w8 w10 := k9.trans k10 fun _ h _ => h
      have hlow8 := hR8.own_lt
      have hlA := lt_of_get bA
      refine hn (k78.fst k810) (pv := pv) (by rw [ea]; simpa using b10) ?_ fun c hc => ?_
      · rw [ea]
        exact (hR8.flat).frame k810 fun c hc => by have := hlow8 c hc; omega
      · have hge := hlow8 c hc
        obtain ⟨cs', hcs'⟩ := rows_ty hR8 c hc
        exact ⟨by omega, cs', k810.get hcs' (by omega)⟩
    by_cases h4 : s.op = 4
    · have ea : ansV lt kd s L0 = ⟨0, L0.length, false, prs L0.reverse⟩ := by unfold ansV; rw [if_neg h2', if_neg h3, if_pos h4]; rfl
      obtain ⟨hLast, hPrev⟩ := hB' h4
      simp [-getElem?_pos, -Array.getElem?_eq_getElem, -Int.natCast_add, bS, h4]
      refine ver_len hVA ?_
      refine op_store_ok (by kernel_rfl) bA (by decide) rfl fun w7 k7 z7 b7 => ?_
      have b7 : w7.heap[ab]? = some (.cells #[.int .i64 0, .int .i64 L0.length, .bool false, .slice none 0 0] 56 (0, 0)) := by simpa using b7
      have hlA := lt_of_get bA
      have hV7 := hVA.quiet (quiet_ans bA) k7
      try simp [-getElem?_pos, -Array.getElem?_eq_getElem, -Int.natCast_add]
      refine ver_iter hV7 (by omega) fun w8 ib k8 hib hA8 => ?_
      try simp [-getElem?_pos, -Array.getElem?_eq_getElem, -Int.natCast_add]
      have hV8 := hV7.still k8
      have hib2 := hA8.below
      have n7 := k7.size
      have n8 := k8.size
      refine hLast hA8 hV8 (by omega) fun w9 k9 hA9 => ?_
      have n9 := k9.size
      have b9 := k9.get (k8.get b7 fun h => h) (by omega)
      have bK9 := k9.get (k8.get (k7.get bK hneK) fun h => h) (by omega)
      obtain ⟨I2, hI2⟩ : ∃ I2 : World → Prop, ∀ wz, I2 wz ↔ ∃ (q : Option Nat) (D : List (Ky × Vl)) (pv : Value), D ++ backOf L0 q = L0.reverse ∧ Frm (fun c => c = ab ∨ c = ib) w9 wz ∧ At wz ib bv L0 q ∧ (∀ x, q = some x → x < L0.length) ∧
          wz.heap[ab]? = some (.cells #[.int .i64 0, .int .i64 L0.length, .bool false, pv] 56 (0, 0)) ∧ RowsOf (Flat SPr.cells) wz w9.heap.size 49 3 pv (prs D) (fun _ => False) := ⟨_, fun _ => Iff.rfl⟩
      try simp [-getElem?_pos, -Array.getElem?_eq_getElem, -Int.natCast_add]
      refine Lp.intro I2 (fun wz => L0.length - lenAt wz ab 3) ⟨(hI2 _).2 ⟨_, [], _, backOf_last, Frm.refl, hA9, fun x hx => ?_, b9, rows_nil⟩, ?_⟩
      · split at hx
        · cases hx
        · cases hx; omega
      intro wz hm
      obtain ⟨q, D, pv, hDL, kz, hAz, hqz, bz, hRz⟩ := (hI2 _).1 hm
      have nz := kz.size
      have bKz := kz.get bK9 (by omega)
      have hlowz := hRz.own_lt
      refine done_ok hAz ?_
      match q, hAz, hDL, hqz with
      | none, hAz, hDL, hqz =>
        simp [-getElem?_pos, -Array.getElem?_eq_getElem, -Int.natCast_add]
        rw [show D = L0.reverse from by rw [← hDL]; simp [backOf]] at hRz
        have k9z : Frm (fun c => c = ab ∨ c = ib) w7 wz := ((k8.to fun _ h => h.elim).trans (k9.to fun _ h => .inr h) fun _ h _ => h).trans kz fun _ h _ => h
        have kAz : Frm (· = ab) wA wz := (k7.to (M' := fun c => c = ab ∨ c = ib) fun _ h => .inl h).trans k9z (fun _ h _ => h) |>.mono fun c hc hl => by
          rcases hc with h | h
          · exact h
          · omega
        refine hn kAz (pv := pv) (by rw [ea]; exact bz) (by rw [ea]; exact hRz.flat) fun c hc => ?_
        have := hlowz c hc
        exact ⟨by omega, rows_ty hRz c hc⟩
      | some q, hAz, hDL, hqz =>
        have hql := hqz q rfl
        have hget : L0[q]? = some L0[q] := List.getElem?_eq_getElem hql
        simp [-getElem?_pos, -Array.getElem?_eq_getElem, -Int.natCast_add]
        refine hPrev hAz fun w10 k10 e he hA10 => ?_
        have e2 : e = L0[q] := Option.some.inj (he.symm.trans hget)
        subst e2
        have n10 := k10.size
        have bK10 := k10.get bKz (by omega)
        have b10 := k10.get bz (by omega)
        have hR10 := hRz.frame (flat_ok _) k10 (fun _ h => h.elim) fun b hb he => by have := hlowz b hb; omega
        simp [-getElem?_pos, -Array.getElem?_eq_getElem, -Int.natCast_add, b10, bK10, call_pair]
        refine pair_ok fun w11 k11 => ?_
        have k11 := Frm.dr k11
        have hR11 := hR10.still (flat_ok _) k11
        have hA11 := hA10.still k11
        have b11 := k11.get b10 fun h => h
        have n11 := k11.size
        have hlen : (prs D).length = D.length := by simp [prs]
        have hDl : D.length + 1 ≤ L0.length := by
          have := congrArg List.length hDL
          rw [backOf_prev hget] at this
          simp only [List.length_append, List.length_cons, List.length_reverse] at this
          omega
        have hlow11 := hR11.own_lt
        have hsame : ∀ {wq : World}, Frm (fun b => some b = pv.ownBlock) w11 wq ∨ Frm (fun _ => False) w11 wq → wq.heap[ab]? = some (.cells #[.int .i64 0, .int .i64 L0.length, .bool false, pv] 56 (0, 0)) := fun {wq} h => by
          rcases h with h | h
          · exact h.get b11 fun he => by have := hlow11 ab he.symm; omega
          · exact h.get b11 fun h => h
        refine ⟨⟨_, ⟨_, _, _, b11⟩, rfl⟩, op_pushQ (lit_sp _) (fun w1 h1 => ⟨_, ⟨_, _, _, hsame (.inr h1)⟩, rfl⟩) ?_⟩
        refine op_push (u := (kd.pair L0[q].1 L0[q].2).cells) (flat_ok SPr.cells) apSP (lit_sp _) rfl (SPr.one _) hR11 rfl (G2 := fun _ => False) (fun _ h => h.elim) (fun _ _ h => h) (by omega) (by omega) fun l' w12 k12 hR12 ho12 => ?_
        have b12 := hsame (.inl k12)
        have n12 := k12.size
        refine op_store_ok (by kernel_rfl) b12 (by simp) hR12.one fun w13 k13 z13 b13 => ?_
        have b13 : w13.heap[ab]? = some (.cells #[.int .i64 0, .int .i64 L0.length, .bool false, l'] 56 (0, 0)) := by simpa using b13
        have hlow12 := hR12.own_lt
        have hA12 := At.keep (rows_off hR11 (by decide)) k12 hA11 (fun he => by have := hlow11 ib he.symm; omega)
        have hA13 := At.keep (quiet_ans b12).node k13 hA12 (by omega)
        have hR13 := (hR12.frame (M := (· = ab)) (flat_ok _) k13 (fun _ h => h.elim (fun h => h.elim) fun h => h.elim) fun b hb he => by have := hlow12 b hb; omega).mono (flat_ok _) (G' := fun _ => False) (fun _ h => h.elim id fun h => h) (fun _ h => h.elim) fun _ _ h => h
        refine ⟨(hI2 _).2 ⟨if 0 < q then some (q - 1) else none, D ++ [L0[q]], l', ?_, ?_, hA13, fun x hx => ?_, b13, ?_⟩, ?_⟩
        · rw [← hDL, backOf_prev hget, List.append_assoc]; rfl
        · refine (((kz.trans (k10.to fun _ h => .inr h) fun _ h _ => h).trans (k11.to fun _ h => h.elim) fun _ h _ => h).old k12 fun c hc => .inr (hlow11 c hc.symm).1).trans (k13.to fun _ h => .inl h) fun _ h _ => h
        · split at hx
          · cases hx; omega
          · cases hx
        · rw [show prs (D ++ [L0[q]]) = prs D ++ [kd.pair L0[q].1 L0[q].2] from by simp [prs]]
          exact hR13
        · have e1 : lenAt wz ab 3 = D.length := by
            obtain ⟨a0, c0, rfl, _⟩ := hRz.slice
            simp [lenAt, bz, hlen]
          have e2 : lenAt w13 ab 3 = D.length + 1 := by
            obtain ⟨a0, c0, rfl, _⟩ := hR12.slice
            simp [lenAt, b13, hlen]
          rw [e1, e2]; omega
    have ea : ansV lt kd s L0 = zeroA := by unfold ansV; rw [if_neg h2', if_neg h3, if_neg h4, hnone]
    have g0 : ¬ (s.op : Int) = 0 := by omega
    have g1 : ¬ (s.op : Int) = 1 := by omega
    have g2 : ¬ (s.op : Int) = 2 := by omega
    have g3 : ¬ (s.op : Int) = 3 := by omega
    have g4 : ¬ (s.op : Int) = 4 := by omega
    have g5 : ¬ (s.op : Int) = 5 := by omega
    have g6 : ¬ (s.op : Int) = 6 := by omega
    simp [-getElem?_pos, -Array.getElem?_eq_getElem, -Int.natCast_add, bS, h0, g1, g2, g3, g4, g5, g6]
    exact hn (pv := .slice none 0 0) Frm.refl (by rw [ea]; exact bA) (by rw [ea]; exact IsSl.nil) fun c hc => nomatch hc
  · intro w9 m hm
    obtain ⟨b', pv, rfl, hmid⟩ := (hJ _ _).1 hm
    obtain ⟨kf, hv, hcell, hrow, hown⟩ := hmid
    have hlA := lt_of_get bA
    have bS9 := kf.get bS hne
    have n9 := kf.size
    have hisn := newV_some (lt := lt) (kd := kd) s L0
    have k9 : Frm (fun _ => False) wl w9 := k6A.old kf fun c hc => .inr (by omega)
    simp [-getElem?_pos, -Array.getElem?_eq_getElem, -Int.natCast_add, bS9]
    obtain ⟨J2, hJ2⟩ : ∃ J2 : KV, ∀ e wz, J2 e wz ↔ e = .bool (newV lt kd s L0).isSome ∧ wz = w9 := ⟨_, fun _ _ => Iff.rfl⟩
    have hj2 : ∀ {c : Bool}, c = (newV lt kd s L0).isSome → J2 (.bool c) w9 := fun {c} h => (hJ2 _ _).2 ⟨by rw [h], rfl⟩
    rw [hisn] at hj2
    refine Jn.intro J2 ⟨fun h0 => hj2 (by simp [h0]), fun h0 => ⟨fun h1 => hj2 ?_, fun h1 => ⟨fun h5 => hj2 ?_, fun h5 => hj2 ?_⟩⟩, ?_⟩
    · have h1 : s.op = 1 := by omega
      simp [h1]
    · have h5 : s.op = 5 := by omega
      simp [h5]
    · have e : ((s.op : Int) = 6) ↔ s.op = 6 := by omega
      have h1 : ¬ s.op = 1 := by omega
      have h5 : ¬ s.op = 5 := by omega
      simp [h0, h1, h5, e]
    intro wz e9 h9
    obtain ⟨rfl, rfl⟩ := (hJ2 _ _).1 h9
    clear h9 hj2 hJ2 J2
    have hone : ∀ u ∈ [Value.int .i64 (midA lt s L0).value, .int .i64 (midA lt s L0).n, .bool (midA lt s L0).ok, pv], u.oneCell' = true := fun u hu => by
      simp only [List.mem_cons, List.not_mem_nil, or_false] at hu
      rcases hu with rfl | rfl | rfl | rfl
      · rfl
      · rfl
      · rfl
      · exact hrow.one
    have hO9 := hO.still elA_ok k9
    have hR9 := hR.still hE k9
    have hcn : (vs ++ (newV lt kd s L0).toList).length ≤ vs.length + 1 := by cases newV lt kd s L0 <;> simp
    have hone1 : oneS lt kd (vs, an) s = (vs ++ (newV lt kd s L0).toList, an ++ [ansV lt kd s L0]) := by
      unfold oneS
      rw [← hbl, hL0]; rfl
    rw [hone1] at hsnoc
    have hla : an.length = i := by omega
    cases hnw : newV lt kd s L0 with
    | none =>
      have hmd : midA lt s L0 = ansV lt kd s L0 := by unfold midA; rw [hnw]; rfl
      rw [hnw] at hsnoc hv
      simp only [Option.toList_none, List.append_nil] at hsnoc
      have hx4 : (#[.int .i64 (midA lt s L0).value, .int .i64 (midA lt s L0).n, .bool (midA lt s L0).ok, pv] : Array Value).extract 0 4 = #[.int .i64 (midA lt s L0).value, .int .i64 (midA lt s L0).n, .bool (midA lt s L0).ok, pv] := rfl
      simp [-getElem?_pos, -Array.getElem?_eq_getElem, -Int.natCast_add, hcell, hx4]
      refine op_push (u := [.int .i64 (midA lt s L0).value, .int .i64 (midA lt s L0).n, .bool (midA lt s L0).ok, pv]) (y := ansV lt kd s L0) (G2 := fun c => pv.ownBlock = some c) elA_ok apA (lit_ans _ _ _ _) rfl hone hO9 ⟨pv, by rw [hmd], by rw [← hmd]; exact hrow, fun _ h => h⟩ (fun c hc => ?_) (fun b hb hc => ?_) (by omega) (by omega) fun o' w12 k12 hO12 ho12 => ?_
      · obtain ⟨h1, cs', h2⟩ := hown c hc; have := lt_of_get h2; omega
      · have := (hown b hc).1; have := hlowO b hb; omega
      try simp [-getElem?_pos, -Array.getElem?_eq_getElem, -Int.natCast_add]
      rw [show IntKind.i64.wrap ((i : Int) + 1) = ((i + 1 : Nat) : Int) from by rw [IntKind.wrap_i64]; omega]
      have hq12 := rows_quiet hO9 (by decide)
      refine ⟨(hI _ _ _ _).2 ⟨i + 1, bs, fun c => G c ∨ pv.ownBlock = some c, rfl, by omega, (kl.no k9).old k12 fun c hc => .inr (hlowO c hc.symm).1, ?_, ?_, ?_, ?_, ?_⟩, by simp only [nOf_int]; omega⟩
      · refine hR9.frame hE k12 (fun _ h => h.elim) fun b hb he => ?_
        obtain ⟨c1, t1⟩ := rows_ty hR9 b hb
        obtain ⟨c2, t2⟩ := rows_ty hO9 b he.symm
        rw [t1] at t2; cases t2
      · rw [hsnoc]; exact hbl
      · rw [hsnoc]
        intro j b L hb hL
        rw [hcsn]
        exact (((hV j b L hb hL).still k9).quiet hq12 k12).mono (by omega)
      · rw [hsnoc]; exact hO12
      · intro c hc
        rcases hc with hc | hc
        · obtain ⟨cs', h1⟩ := hGt c hc
          refine ⟨cs', k12.get (k9.get h1 fun h => h) fun he => ?_⟩
          obtain ⟨c2, t2⟩ := rows_ty hO9 c he.symm
          have := k9.get h1 fun h => h
          rw [this] at t2; cases t2
        · obtain ⟨h1, cs', h2⟩ := hown c hc
          exact ⟨cs', k12.get h2 fun he => by have := hlowO c he.symm; omega⟩
    | some mm =>
      have hmd : midA lt s L0 = zeroA := by unfold midA; rw [hnw]; rfl
      have han := ansV_new hnw
      rw [hnw] at hsnoc hv
      rw [hmd] at hcell hrow
      simp only [Option.toList_some] at hsnoc
      simp only [Option.getD_some] at hv
      simp [-getElem?_pos, -Array.getElem?_eq_getElem, -Int.natCast_add]
      refine ver_len hv ?_
      refine op_store_ok (by kernel_rfl) hcell (by simp) rfl fun w10 k10 z10 b10 => ?_
      have b10 : w10.heap[ab]? = some (.cells #[.int .i64 0, .int .i64 mm.length, .bool false, pv] 56 (0, 0)) := by simpa [zeroA] using b10
      have n10 := k10.size
      have hv10 := hv.quiet (quiet_ans hcell) k10
      have k910 : Frm (fun _ => False) wl w10 := k9.old k10 fun c hc => .inr (by omega)
      have hR10 := hR.still hE k910
      have hO10 := hO.still elA_ok k910
      have hrow10 := hrow.frame k10 fun b hb he => by have := (hown b hb).1; omega
      try simp [-getElem?_pos, -Array.getElem?_eq_getElem, -Int.natCast_add]
      refine op_push (u := [ptr b']) (y := b') (G2 := fun _ => False) hE apO (lit_137_1 rfl) rfl (by simp [ptr]) hR10 rfl (fun _ h => h.elim) (fun _ _ h => h) (by omega) (by omega) fun l' w11 k11 hR11 ho11 => ?_
      have n11 := k11.size
      have b11 := k11.get b10 fun he => by have := hlow ab he.symm; omega
      have hqR := rows_quiet hR10 (by decide)
      have hO11 := hO10.frame elA_ok k11 (fun c hc he => by
        obtain ⟨cs', h1⟩ := hGt c hc
        obtain ⟨c2, t2⟩ := rows_ty hR10 c he.symm
        rw [k910.get h1 fun h => h] at t2; cases t2) fun b hb he => by
        obtain ⟨c1, t1⟩ := rows_ty hO10 b hb
        obtain ⟨c2, t2⟩ := rows_ty hR10 b he.symm
        rw [t1] at t2; cases t2
      have hrow11 := hrow10.frame k11 fun b hb he => by have := (hown b hb).1; have := hlow b he.symm; omega
      have hx4 : (#[.int .i64 0, .int .i64 mm.length, .bool false, pv] : Array Value).extract 0 4 = #[.int .i64 0, .int .i64 mm.length, .bool false, pv] := rfl
      simp [-getElem?_pos, -Array.getElem?_eq_getElem, -Int.natCast_add, b11, hx4]
      refine op_push (u := [.int .i64 0, .int .i64 mm.length, .bool false, pv]) (y := ansV lt kd s L0) (G2 := fun c => pv.ownBlock = some c) elA_ok apA (lit_ans _ _ _ _) rfl (fun u hu => ?_) hO11 ⟨pv, by rw [han], by rw [han]; exact hrow11, fun _ h => h⟩ (fun c hc => ?_) (fun b hb hc => ?_) (by omega) (by omega) fun o' w12 k12 hO12 ho12 => ?_
      · simp only [List.mem_cons, List.not_mem_nil, or_false] at hu
        rcases hu with rfl | rfl | rfl | rfl
        · rfl
        · rfl
        · rfl
        · exact hrow.one
      · obtain ⟨h1, cs', h2⟩ := hown c hc; have := lt_of_get h2; omega
      · have := (hown b hc).1; have := hlowO b hb; omega
      try simp [-getElem?_pos, -Array.getElem?_eq_getElem, -Int.natCast_add]
      rw [show IntKind.i64.wrap ((i : Int) + 1) = ((i + 1 : Nat) : Int) from by rw [IntKind.wrap_i64]; omega]
      have hqO := rows_quiet hO11 (by decide)
      have hlow11 := hR11.own_lt
      have hty11 := rows_ty hR11
      refine ⟨(hI _ _ _ _).2 ⟨i + 1, bs ++ [b'], fun c => G c ∨ pv.ownBlock = some c, rfl, by omega, ((kl.no k910).old k11 fun c hc => .inr (hlow c hc.symm).1).old k12 fun c hc => .inr (hlowO c hc.symm).1, ?_, ?_, ?_, ?_, ?_⟩, by simp only [nOf_int]; omega⟩
      · refine (hR11.frame hE k12 (fun _ h => h.elim (fun h => h.elim) fun h => h.elim) fun b hb he => ?_).mono hE (G' := fun _ => False) (fun _ h => h.elim id fun h => h) (fun _ h => h.elim) fun _ _ h => h
        obtain ⟨c1, t1⟩ := rows_ty hR11 b hb
        obtain ⟨c2, t2⟩ := rows_ty hO11 b he.symm
        rw [t1] at t2; cases t2
      · rw [hsnoc]; simp [hbl]
      · rw [hsnoc]
        intro j b L hb hL
        rw [hcsn]
        by_cases hj : j < bs.length
        · rw [List.getElem?_append_left hj] at hb
          rw [List.getElem?_append_left (by omega)] at hL
          exact ((((hV j b L hb hL).still k910).quiet hqR k11).quiet hqO k12).mono (by omega)
        · rw [List.getElem?_append_right (by omega)] at hb
          rw [List.getElem?_append_right (by omega)] at hL
          have hj0 : j - bs.length = 0 := by
            have := (List.getElem?_eq_some_iff.1 hb).1
            simp at this; omega
          rw [hj0] at hb
          rw [← hbl, hj0] at hL
          simp at hb hL
          subst hb hL
          exact (hv10.quiet hqR k11).quiet hqO k12
      · rw [hsnoc]; exact hO12
      · intro c hc
        rcases hc with hc | hc
        · obtain ⟨cs', h1⟩ := hGt c hc
          have h2 := k910.get h1 fun h => h
          have h3 := k11.get h2 fun he => by
            obtain ⟨c2, t2⟩ := rows_ty hR10 c he.symm
            rw [h2] at t2; cases t2
          refine ⟨cs', k12.get h3 fun he => ?_⟩
          obtain ⟨c2, t2⟩ := rows_ty hO11 c he.symm
          rw [h3] at t2; cases t2
        · obtain ⟨h1, cs', h2⟩ := hown c hc
          have h3 := k10.get h2 (by omega)
          have h4 := k11.get h3 fun he => by have := hlow c he.symm; omega
          exact ⟨cs', k12.get h4 fun he => by have := hlowO c he.symm; omega⟩
end Go.Proofs.YtodjijfblgnfmaaGreatDoor.I
end
section
namespace Go.Proofs.YtodjijfblgnfmaaGreatDoor
open Go.Vc Go.Proofs
variable {S : Sig} {a0 a1 a2 a3 a4 a5 a6 a7 a8 a9 : Value} {w : World} {K : KV} {Kp : KP}
private theorem follows_BVcT : Tryz.prog.follows .mixedOrders = true := by kernel_rfl
def vc233 (S : Sig) (a0 a1 a2 a3 a4 : Value) (w : World) (K : KV) (Kp : KP) : Prop :=
 S.call (.fn 235) [a0, a1, a2] w (fun v16 w =>
 S.pur (.nilCheck a0) (fun v19 =>
 S.pur (.fieldAddr 206 v19 0) (fun v20 =>
 S.ld (.load 204 v20) w.drew (fun v21 =>
 S.ld (.blt .len [204] 3 [v21]) w.drew (fun v22 =>
 S.pur (.bin .geq 3 false false v16 v22) (fun v23 =>
 Br v23 (
 S.op (.mkIface 200 a0) w.drew (fun v42 w =>
 K v42 w) Kp) (
 S.pur (.nilCheck a0) (fun v27 =>
 S.pur (.fieldAddr 206 v27 0) (fun v28 =>
 S.ld (.load 204 v28) w.drew (fun v29 =>
 S.pur (.indexAddr 204 v29 v16) (fun v31 =>
 S.pur (.fieldAddr 203 v31 0) (fun v32 =>
 S.ld (.load 9 v32) w.drew (fun v33 =>
 S.pur (.mkFunc (Fn.method "Compare") [a2] []) (fun v35 =>
 S.pur (.nilCheck v35) (fun v36 =>
 S.call (.inv a2 "Compare") [v33, a1] w.drew (fun v38 w =>
 S.pur (.bin .neq 3 false true v38 (.int .i64 0)) (fun v39 =>
 Br v39 (
 S.op (.mkIface 200 a0) w (fun v42 w =>
 K v42 w) Kp) (
 S.op (.nilCheck a4) w (fun v44 w =>
 S.op (.store 4 v44 (.bool true)) w (fun _ w =>
 S.op (.nilCheck a0) w (fun v46 w =>
 S.op (.fieldAddr 206 v46 0) w (fun v47 w =>
 S.op (.load 204 v47) w (fun v48 w =>
 S.op (.blt .len [204] 3 [v48]) w (fun v49 w =>
 S.op (.bin .eql 3 false true v49 (.int .i64 1)) w (fun v50 w =>
 Br v50 (
 K .nilIface w) (
 Br a3 (
 S.pur (.nilCheck a0) (fun v53 =>
 S.pur (.fieldAddr 206 v53 0) (fun v54 =>
 S.ld (.load 204 v54) w.drew (fun v55 =>
 S.pur (.slice 204 v55 (some v16) none none) (fun v57 =>
 S.pur (.nilCheck a0) (fun v59 =>
 S.pur (.fieldAddr 206 v59 0) (fun v60 =>
 S.ld (.load 204 v60) w.drew (fun v61 =>
 S.pur (.bin .add 3 false true v16 (.int .i64 1)) (fun v63 =>
 S.pur (.slice 204 v61 (some v63) none none) (fun v64 =>
 S.op (.blt .copy [204, 204] 3 [v57, v64]) w.drew (fun v65 w =>
 S.pur (.nilCheck a0) (fun v67 =>
 S.pur (.fieldAddr 206 v67 0) (fun v68 =>
 S.ld (.load 204 v68) w.drew (fun v69 =>
 S.pur (.nilCheck a0) (fun v71 =>
 S.pur (.fieldAddr 206 v71 0) (fun v72 =>
 S.ld (.load 204 v72) w.drew (fun v73 =>
 S.ld (.blt .len [204] 3 [v73]) w.drew (fun v74 =>
 S.pur (.bin .sub 3 false true v74 (.int .i64 1)) (fun v75 =>
 S.pur (.build 203 []) (fun v76 =>
 S.pur (.indexAddr 204 v69 v75) (fun v77 =>
 S.op (.store 203 v77 v76) w.drew (fun _ w =>
 S.pur (.nilCheck a0) (fun v80 =>
 S.pur (.fieldAddr 206 v80 0) (fun v81 =>
 S.ld (.load 204 v81) w.drew (fun v82 =>
 S.pur (.nilCheck a0) (fun v84 =>
 S.pur (.fieldAddr 206 v84 0) (fun v85 =>
 S.ld (.load 204 v85) w.drew (fun v86 =>
 S.ld (.blt .len [204] 3 [v86]) w.drew (fun v87 =>
 S.pur (.bin .sub 3 false true v87 (.int .i64 1)) (fun v88 =>
 S.pur (.slice 204 v82 none (some v88) none) (fun v89 =>
 S.pur (.nilCheck a0) (fun v90 =>
 S.pur (.fieldAddr 206 v90 0) (fun v91 =>
 S.op (.store 204 v91 v89) w.drew (fun _ w =>
 S.op (.mkIface 200 a0) w (fun v93 w =>
 K v93 w) Kp) Kp)))))))))))) Kp))))))))))) Kp)))))))))) (
 S.op (.nilCheck a0) w (fun v95 w =>
 S.op (.fieldAddr 206 v95 0) w (fun v96 w =>
 S.op (.load 204 v96) w (fun v97 w =>
 S.op (.blt .len [204] 3 [v97]) w (fun v98 w =>
 S.op (.bin .sub 3 false true v98 (.int .i64 1)) w (fun v99 w =>
 S.op (.mkSlice 204 v99 v99) w (fun v100 w =>
 S.op (.build 206 [(0, v100)]) w (fun v101 w =>
 S.op (.box 206 v101) w (fun v102 w =>
 S.pur (.nilCheck v102) (fun v104 =>
 S.pur (.fieldAddr 206 v104 0) (fun v105 =>
 S.ld (.load 204 v105) w.drew (fun v106 =>
 S.pur (.slice 204 v106 none (some v16) none) (fun v108 =>
 S.pur (.nilCheck a0) (fun v110 =>
 S.pur (.fieldAddr 206 v110 0) (fun v111 =>
 S.ld (.load 204 v111) w.drew (fun v112 =>
 S.pur (.slice 204 v112 none (some v16) none) (fun v114 =>
 S.op (.blt .copy [204, 204] 3 [v108, v114]) w.drew (fun v115 w =>
 S.pur (.nilCheck v102) (fun v117 =>
 S.pur (.fieldAddr 206 v117 0) (fun v118 =>
 S.ld (.load 204 v118) w.drew (fun v119 =>
 S.pur (.slice 204 v119 (some v16) none none) (fun v121 =>
 S.pur (.nilCheck a0) (fun v123 =>
 S.pur (.fieldAddr 206 v123 0) (fun v124 =>
 S.ld (.load 204 v124) w.drew (fun v125 =>
 S.pur (.bin .add 3 false true v16 (.int .i64 1)) (fun v127 =>
 S.pur (.slice 204 v125 (some v127) none none) (fun v128 =>
 S.op (.blt .copy [204, 204] 3 [v121, v128]) w.drew (fun v129 w =>
 S.op (.mkIface 200 v102) w (fun v131 w =>
 K v131 w) Kp) Kp)))))))))) Kp))))))))) Kp) Kp) Kp) Kp) Kp) Kp) Kp) Kp))) Kp) Kp) Kp) Kp) Kp) Kp) Kp))) Kp))))))))))))))) Kp
theorem vc233_eq : vc233 S a0 a1 a2 a3 a4 w K Kp = fVC S [] [] Tryz.f233 [a0, a1, a2, a3, a4] w K Kp := by kernel_rfl
theorem vc233_calls (h : vc233 nP a0 a1 a2 a3 a4 w K Kp) : Calls Tryz.prog 233 #[a0, a1, a2, a3, a4] w (ret K Kp) :=
 fVC_sound (args := [a0, a1, a2, a3, a4]) nice_le follows_BVcT Tryz.func233 (by kernel_rfl) (Eq.mp vc233_eq h)
def vc234 (S : Sig) (a0 a1 a2 : Value) (w : World) (K : KV) (Kp : KP) : Prop :=
 S.call (.fn 235) [a0, a1, a2] w (fun v12 w =>
 S.pur (.nilCheck a0) (fun v15 =>
 S.pur (.fieldAddr 206 v15 0) (fun v16 =>
 S.ld (.load 204 v16) w.drew (fun v17 =>
 S.ld (.blt .len [204] 3 [v17]) w.drew (fun v18 =>
 S.pur (.bin .eql 3 false false v12 v18) (fun v19 =>
 Br v19 (
 K (.tuple #[(.int .i64 0), (.bool false)]) w.drew) (
 S.pur (.nilCheck a0) (fun v23 =>
 S.pur (.fieldAddr 206 v23 0) (fun v24 =>
 S.ld (.load 204 v24) w.drew (fun v25 =>
 S.pur (.indexAddr 204 v25 v12) (fun v27 =>
 S.pur (.fieldAddr 203 v27 0) (fun v28 =>
 S.ld (.load 9 v28) w.drew (fun v29 =>
 S.pur (.mkFunc (Fn.method "Compare") [a2] []) (fun v31 =>
 S.pur (.nilCheck v31) (fun v32 =>
 S.call (.inv a2 "Compare") [v29, a1] w.drew (fun v34 w =>
 S.pur (.bin .neq 3 false true v34 (.int .i64 0)) (fun v35 =>
 Br v35 (
 K (.tuple #[(.int .i64 0), (.bool false)]) w) (
 S.op (.nilCheck a0) w (fun v39 w =>
 S.op (.fieldAddr 206 v39 0) w (fun v40 w =>
 S.op (.load 204 v40) w (fun v41 w =>
 S.op (.indexAddr 204 v41 v12) w (fun v43 w =>
 S.op (.fieldAddr 203 v43 1) w (fun v44 w =>
 S.op (.load 2 v44) w (fun v45 w =>
 K (.tuple #[v45, (.bool true)]) w) Kp) Kp) Kp) Kp) Kp) Kp))) Kp))))))))))))))) Kp
theorem vc234_eq : vc234 S a0 a1 a2 w K Kp = fVC S [] [] Tryz.f234 [a0, a1, a2] w K Kp := by kernel_rfl
theorem vc234_calls (h : vc234 nP a0 a1 a2 w K Kp) : Calls Tryz.prog 234 #[a0, a1, a2] w (ret K Kp) :=
 fVC_sound (args := [a0, a1, a2]) nice_le follows_BVcT Tryz.func234 (by kernel_rfl) (Eq.mp vc234_eq h)
def vc235 (S : Sig) (a0 a1 a2 : Value) (w : World) (K : KV) (Kp : KP) : Prop :=
 S.op (.box 200 a0) w (fun v3 w =>
 S.op (.box 9 a1) w (fun v4 w =>
 S.op (.box 91 a2) w (fun v5 w =>
 S.op (.load 200 v3) w (fun v7 w =>
 S.op (.nilCheck v7) w (fun v8 w =>
 S.op (.fieldAddr 206 v8 0) w (fun v9 w =>
 S.op (.load 204 v9) w (fun v10 w =>
 S.op (.blt .len [204] 3 [v10]) w (fun v11 w =>
 S.op (.mkFunc (Fn.func 242) [] [v5, v3, v4]) w (fun v12 w =>
 S.call (.fn 241) [v11, v12] w (fun v13 w =>
 K v13 w) Kp) Kp) Kp) Kp) Kp) Kp) Kp) Kp) Kp) Kp
theorem vc235_eq : vc235 S a0 a1 a2 w K Kp = fVC S [] [] Tryz.f235 [a0, a1, a2] w K Kp := by kernel_rfl
theorem vc235_calls (h : vc235 nP a0 a1 a2 w K Kp) : Calls Tryz.prog 235 #[a0, a1, a2] w (ret K Kp) :=
 fVC_sound (args := [a0, a1, a2]) nice_le follows_BVcT Tryz.func235 (by kernel_rfl) (Eq.mp vc235_eq h)
def vc236 (S : Sig) (a0 : Value) (w : World) (K : KV) (Kp : KP) : Prop :=
 S.op (.nilCheck a0) w (fun v4 w =>
 S.op (.fieldAddr 206 v4 0) w (fun v5 w =>
 S.op (.load 204 v5) w (fun v6 w =>
 S.op (.indexAddr 204 v6 (.int .i64 0)) w (fun v7 w =>
 S.op (.fieldAddr 203 v7 0) w (fun v8 w =>
 S.op (.load 9 v8) w (fun v9 w =>
 K v9 w) Kp) Kp) Kp) Kp) Kp) Kp
theorem vc236_eq : vc236 S a0 w K Kp = fVC S [] [] Tryz.f236 [a0] w K Kp := by kernel_rfl
theorem vc236_calls (h : vc236 nP a0 w K Kp) : Calls Tryz.prog 236 #[a0] w (ret K Kp) :=
 fVC_sound (args := [a0]) nice_le follows_BVcT Tryz.func236 (by kernel_rfl) (Eq.mp vc236_eq h)
def vc237 (S : Sig) (a0 a1 a2 a3 a4 a5 : Value) (w : World) (K : KV) (Kp : KP) : Prop :=
 S.call (.fn 235) [a0, a1, a3] w (fun v26 w =>
 Jn fun (J3 : KV) =>
 (S.pur (.nilCheck a0) (fun v29 =>
 S.pur (.fieldAddr 206 v29 0) (fun v30 =>
 S.ld (.load 204 v30) w.drew (fun v31 =>
 S.ld (.blt .len [204] 3 [v31]) w.drew (fun v32 =>
 S.pur (.bin .lss 3 false false v26 v32) (fun v33 =>
 Br v33 (
 S.pur (.nilCheck a0) (fun v37 =>
 S.pur (.fieldAddr 206 v37 0) (fun v38 =>
 S.ld (.load 204 v38) w.drew (fun v39 =>
 S.pur (.indexAddr 204 v39 v26) (fun v41 =>
 S.pur (.fieldAddr 203 v41 0) (fun v42 =>
 S.ld (.load 9 v42) w.drew (fun v43 =>
 S.pur (.mkFunc (Fn.method "Compare") [a3] []) (fun v45 =>
 S.pur (.nilCheck v45) (fun v46 =>
 S.call (.inv a3 "Compare") [v43, a1] w.drew (fun v48 w =>
 S.pur (.bin .eql 3 false true v48 (.int .i64 0)) (fun v49 =>
 J3 v49 w)) Kp))))))))) (
 J3 (.bool false) w.drew))))))) ∧
 (∀ (w : World) (_ : Nat → Value) (j15 : Value), J3 j15 w →
 Br a4 (
 Jn fun (J8 : World → Prop) =>
 (S.op (.un .not j15) w (fun v53 w =>
 Br v53 (
 S.op (.nilCheck a5) w (fun v55 w =>
 S.op (.store 4 v55 (.bool true)) w (fun _ w =>
 S.op (.nilCheck a0) w (fun v58 w =>
 S.op (.fieldAddr 206 v58 0) w (fun v59 w =>
 S.op (.load 204 v59) w (fun v60 w =>
 S.op (.build 203 []) w (fun v61 w =>
 S.op (.buildSlice 204 1 [(0, v61)]) w (fun v62 w =>
 S.op (.blt .append [204, 204] 204 [v60, v62]) w (fun v63 w =>
 S.op (.nilCheck a0) w (fun v64 w =>
 S.op (.fieldAddr 206 v64 0) w (fun v65 w =>
 S.op (.store 204 v65 v63) w (fun _ w =>
 S.pur (.nilCheck a0) (fun v67 =>
 S.pur (.fieldAddr 206 v67 0) (fun v68 =>
 S.ld (.load 204 v68) w.drew (fun v69 =>
 S.pur (.bin .add 3 false true v26 (.int .i64 1)) (fun v71 =>
 S.pur (.slice 204 v69 (some v71) none none) (fun v72 =>
 S.pur (.nilCheck a0) (fun v74 =>
 S.pur (.fieldAddr 206 v74 0) (fun v75 =>
 S.ld (.load 204 v75) w.drew (fun v76 =>
 S.pur (.slice 204 v76 (some v26) none none) (fun v78 =>
 S.op (.blt .copy [204, 204] 3 [v72, v78]) w.drew (fun v79 w =>
 J8 w) Kp)))))))))) Kp) Kp) Kp) Kp) Kp) Kp) Kp) Kp) Kp) Kp) Kp) (
 J8 w)) Kp) ∧
 (∀ (w : World) (_ : Nat → Value), J8 w →
 S.op (.nilCheck a0) w (fun v81 w =>
 S.op (.fieldAddr 206 v81 0) w (fun v82 w =>
 S.op (.load 204 v82) w (fun v83 w =>
 S.op (.build 203 [(0, a1), (1, a2)]) w (fun v87 w =>
 S.op (.indexAddr 204 v83 v26) w (fun v88 w =>
 S.op (.store 203 v88 v87) w (fun _ w =>
 S.op (.nilCheck a0) w (fun v90 w =>
 S.op (.fieldAddr 206 v90 0) w (fun v91 w =>
 S.op (.load 204 v91) w (fun v92 w =>
 S.op (.blt .len [204] 3 [v92]) w (fun v93 w =>
 S.op (.bin .gtr 3 false true v93 (.int .i64 32)) w (fun v94 w =>
 Br v94 (
 S.op (.nilCheck a0) w (fun v96 w =>
 S.op (.fieldAddr 206 v96 0) w (fun v97 w =>
 S.op (.load 204 v97) w (fun v98 w =>
 S.op (.blt .len [204] 3 [v98]) w (fun v99 w =>
 S.op (.bin .quo 3 false true v99 (.int .i64 2)) w (fun v100 w =>
 S.op (.nilCheck a0) w (fun v102 w =>
 S.op (.fieldAddr 206 v102 0) w (fun v103 w =>
 S.op (.load 204 v103) w (fun v104 w =>
 S.op (.slice 204 v104 none (some v100) (some v100)) w (fun v107 w =>
 S.op (.build 206 [(0, v107)]) w (fun v108 w =>
 S.op (.box 206 v108) w (fun v109 w =>
 S.op (.nilCheck a0) w (fun v111 w =>
 S.op (.fieldAddr 206 v111 0) w (fun v112 w =>
 S.op (.load 204 v112) w (fun v113 w =>
 S.op (.slice 204 v113 (some v100) none none) w (fun v115 w =>
 S.op (.build 206 [(0, v115)]) w (fun v116 w =>
 S.op (.box 206 v116) w (fun v117 w =>
 S.op (.mkIface 200 v109) w (fun v119 w =>
 S.op (.mkIface 200 v117) w (fun v121 w =>
 K (.tuple #[v119, v121]) w) Kp) Kp) Kp) Kp) Kp) Kp) Kp) Kp) Kp) Kp) Kp) Kp) Kp) Kp) Kp) Kp) Kp) Kp) Kp) (
 S.op (.mkIface 200 a0) w (fun v123 w =>
 K (.tuple #[v123, .nilIface]) w) Kp)) Kp) Kp) Kp) Kp) Kp) Kp) Kp) Kp) Kp) Kp) Kp)) (
 Jn fun (J25 : KV) =>
 (Br j15 (
 S.op (.nilCheck a0) w (fun v126 w =>
 S.op (.fieldAddr 206 v126 0) w (fun v127 w =>
 S.op (.load 204 v127) w (fun v128 w =>
 S.op (.blt .len [204] 3 [v128]) w (fun v129 w =>
 S.op (.mkSlice 204 v129 v129) w (fun v130 w =>
 S.op (.nilCheck a0) w (fun v133 w =>
 S.op (.fieldAddr 206 v133 0) w (fun v134 w =>
 S.op (.load 204 v134) w (fun v135 w =>
 S.op (.blt .copy [204, 204] 3 [v130, v135]) w (fun v136 w =>
 S.op (.build 203 [(0, a1), (1, a2)]) w (fun v141 w =>
 S.op (.indexAddr 204 v130 v26) w (fun v142 w =>
 S.op (.store 203 v142 v141) w (fun _ w =>
 J25 v130 w) Kp) Kp) Kp) Kp) Kp) Kp) Kp) Kp) Kp) Kp) Kp) Kp) (
 S.op (.nilCheck a5) w (fun v144 w =>
 S.op (.store 4 v144 (.bool true)) w (fun _ w =>
 S.op (.nilCheck a0) w (fun v146 w =>
 S.op (.fieldAddr 206 v146 0) w (fun v147 w =>
 S.op (.load 204 v147) w (fun v148 w =>
 S.op (.blt .len [204] 3 [v148]) w (fun v149 w =>
 S.op (.bin .add 3 false true v149 (.int .i64 1)) w (fun v150 w =>
 S.op (.mkSlice 204 v150 v150) w (fun v151 w =>
 S.pur (.slice 204 v151 none (some v26) none) (fun v154 =>
 S.pur (.nilCheck a0) (fun v156 =>
 S.pur (.fieldAddr 206 v156 0) (fun v157 =>
 S.ld (.load 204 v157) w.drew (fun v158 =>
 S.pur (.slice 204 v158 none (some v26) none) (fun v160 =>
 S.op (.blt .copy [204, 204] 3 [v154, v160]) w.drew (fun v161 w =>
 S.op (.build 203 [(0, a1), (1, a2)]) w (fun v166 w =>
 S.op (.indexAddr 204 v151 v26) w (fun v167 w =>
 S.op (.store 203 v167 v166) w (fun _ w =>
 S.pur (.bin .add 3 false true v26 (.int .i64 1)) (fun v170 =>
 S.pur (.slice 204 v151 (some v170) none none) (fun v171 =>
 S.pur (.nilCheck a0) (fun v173 =>
 S.pur (.fieldAddr 206 v173 0) (fun v174 =>
 S.ld (.load 204 v174) w.drew (fun v175 =>
 S.pur (.slice 204 v175 (some v26) none none) (fun v177 =>
 S.op (.blt .copy [204, 204] 3 [v171, v177]) w.drew (fun v178 w =>
 J25 v151 w) Kp))))))) Kp) Kp) Kp) Kp)))))) Kp) Kp) Kp) Kp) Kp) Kp) Kp) Kp)) ∧
 (∀ (w : World) (_ : Nat → Value) (j19 : Value), J25 j19 w →
 S.op (.blt .len [204] 3 [j19]) w (fun v180 w =>
 S.op (.bin .gtr 3 false true v180 (.int .i64 32)) w (fun v181 w =>
 Br v181 (
 S.op (.blt .len [204] 3 [j19]) w (fun v183 w =>
 S.op (.bin .quo 3 false true v183 (.int .i64 2)) w (fun v184 w =>
 S.op (.slice 204 j19 none (some v184) (some v184)) w (fun v188 w =>
 S.op (.build 206 [(0, v188)]) w (fun v189 w =>
 S.op (.box 206 v189) w (fun v190 w =>
 S.op (.slice 204 j19 (some v184) none none) w (fun v193 w =>
 S.op (.build 206 [(0, v193)]) w (fun v194 w =>
 S.op (.box 206 v194) w (fun v195 w =>
 S.op (.mkIface 200 v190) w (fun v197 w =>
 S.op (.mkIface 200 v195) w (fun v199 w =>
 K (.tuple #[v197, v199]) w) Kp) Kp) Kp) Kp) Kp) Kp) Kp) Kp) Kp) Kp) (
 S.op (.build 206 [(0, j19)]) w (fun v201 w =>
 S.op (.box 206 v201) w (fun v202 w =>
 S.op (.mkIface 200 v202) w (fun v203 w =>
 K (.tuple #[v203, .nilIface]) w) Kp) Kp) Kp)) Kp) Kp)))) Kp
theorem vc237_eq : vc237 S a0 a1 a2 a3 a4 a5 w K Kp = fVC S [] [(3, [15]), (8, []), (25, [19])] Tryz.f237 [a0, a1, a2, a3, a4, a5] w K Kp := by kernel_rfl
theorem vc237_calls (h : vc237 nP a0 a1 a2 a3 a4 a5 w K Kp) : Calls Tryz.prog 237 #[a0, a1, a2, a3, a4, a5] w (ret K Kp) :=
 fVC_sound (args := [a0, a1, a2, a3, a4, a5]) nice_le follows_BVcT Tryz.func237 (by kernel_rfl) (Eq.mp vc237_eq h)
def vc242 (S : Sig) (a0 a1 a2 a3 : Value) (w : World) (K : KV) (Kp : KP) : Prop :=
 S.ld (.load 91 a1) w.drew (fun v6 =>
 S.ld (.load 200 a2) w.drew (fun v7 =>
 S.pur (.nilCheck v7) (fun v8 =>
 S.pur (.fieldAddr 206 v8 0) (fun v9 =>
 S.ld (.load 204 v9) w.drew (fun v10 =>
 S.pur (.indexAddr 204 v10 a0) (fun v12 =>
 S.pur (.fieldAddr 203 v12 0) (fun v13 =>
 S.ld (.load 9 v13) w.drew (fun v14 =>
 S.ld (.load 9 a3) w.drew (fun v15 =>
 S.pur (.mkFunc (Fn.method "Compare") [v6] []) (fun v16 =>
 S.pur (.nilCheck v16) (fun v17 =>
 S.call (.inv v6 "Compare") [v14, v15] w.drew (fun v19 w =>
 S.pur (.bin .neq 3 false true v19 (.int .i64 (-1))) (fun v20 =>
 K v20 w)) Kp)))))))))))
theorem vc242_eq : vc242 S a0 a1 a2 a3 w K Kp = fVC S [] [] Tryz.f242 [a0, a1, a2, a3] w K Kp := by kernel_rfl
theorem vc242_calls (h : vc242 nP a0 a1 a2 a3 w K Kp) : Calls Tryz.prog 242 #[a0, a1, a2, a3] w (ret K Kp) :=
 fVC_sound (args := [a0, a1, a2, a3]) nice_le follows_BVcT Tryz.func242 (by kernel_rfl) (Eq.mp vc242_eq h)
def vc251 (S : Sig) (a0 a1 a2 a3 a4 : Value) (w : World) (K : KV) (Kp : KP) : Prop :=
 S.call (.fn 253) [a0, a1, a2] w (fun v18 w =>
 S.op (.nilCheck a0) w (fun v20 w =>
 S.op (.fieldAddr 267 v20 0) w (fun v21 w =>
 S.op (.load 265 v21) w (fun v22 w =>
 S.op (.indexAddr 265 v22 v18) w (fun v24 w =>
 S.op (.fieldAddr 269 v24 1) w (fun v25 w =>
 S.op (.load 188 v25) w (fun v26 w =>
 S.call (.inv v26 "pub-bracken/pub/immutable.delete") [a1, a2, a3, a4] w (fun v31 w =>
 S.op (.nilCheck a4) w (fun v33 w =>
 S.op (.load 4 v33) w (fun v34 w =>
 S.op (.un .not v34) w (fun v35 w =>
 Br v35 (
 S.op (.mkIface 262 a0) w (fun v37 w =>
 K v37 w) Kp) (
 S.op (.bin .eql 188 false true v31 .nilIface) w (fun v39 w =>
 Br v39 (
 S.op (.nilCheck a0) w (fun v41 w =>
 S.op (.fieldAddr 267 v41 0) w (fun v42 w =>
 S.op (.load 265 v42) w (fun v43 w =>
 S.op (.blt .len [265] 3 [v43]) w (fun v44 w =>
 S.op (.bin .eql 3 false true v44 (.int .i64 1)) w (fun v45 w =>
 Br v45 (
 K .nilIface w) (
 Br a3 (
 S.pur (.nilCheck a0) (fun v48 =>
 S.pur (.fieldAddr 267 v48 0) (fun v49 =>
 S.ld (.load 265 v49) w.drew (fun v50 =>
 S.pur (.slice 265 v50 (some v18) none none) (fun v52 =>
 S.pur (.nilCheck a0) (fun v54 =>
 S.pur (.fieldAddr 267 v54 0) (fun v55 =>
 S.ld (.load 265 v55) w.drew (fun v56 =>
 S.pur (.bin .add 3 false true v18 (.int .i64 1)) (fun v58 =>
 S.pur (.slice 265 v56 (some v58) none none) (fun v59 =>
 S.op (.blt .copy [265, 265] 3 [v52, v59]) w.drew (fun v60 w =>
 S.pur (.nilCheck a0) (fun v62 =>
 S.pur (.fieldAddr 267 v62 0) (fun v63 =>
 S.ld (.load 265 v63) w.drew (fun v64 =>
 S.pur (.nilCheck a0) (fun v66 =>
 S.pur (.fieldAddr 267 v66 0) (fun v67 =>
 S.ld (.load 265 v67) w.drew (fun v68 =>
 S.ld (.blt .len [265] 3 [v68]) w.drew (fun v69 =>
 S.pur (.bin .sub 3 false true v69 (.int .i64 1)) (fun v70 =>
 S.pur (.build 269 []) (fun v71 =>
 S.pur (.indexAddr 265 v64 v70) (fun v72 =>
 S.op (.store 269 v72 v71) w.drew (fun _ w =>
 S.pur (.nilCheck a0) (fun v75 =>
 S.pur (.fieldAddr 267 v75 0) (fun v76 =>
 S.ld (.load 265 v76) w.drew (fun v77 =>
 S.pur (.nilCheck a0) (fun v79 =>
 S.pur (.fieldAddr 267 v79 0) (fun v80 =>
 S.ld (.load 265 v80) w.drew (fun v81 =>
 S.ld (.blt .len [265] 3 [v81]) w.drew (fun v82 =>
 S.pur (.bin .sub 3 false true v82 (.int .i64 1)) (fun v83 =>
 S.pur (.slice 265 v77 none (some v83) none) (fun v84 =>
 S.pur (.nilCheck a0) (fun v85 =>
 S.pur (.fieldAddr 267 v85 0) (fun v86 =>
 S.op (.store 265 v86 v84) w.drew (fun _ w =>
 S.op (.mkIface 262 a0) w (fun v88 w =>
 K v88 w) Kp) Kp)))))))))))) Kp))))))))))) Kp)))))))))) (
 S.op (.nilCheck a0) w (fun v90 w =>
 S.op (.fieldAddr 267 v90 0) w (fun v91 w =>
 S.op (.load 265 v91) w (fun v92 w =>
 S.op (.blt .len [265] 3 [v92]) w (fun v93 w =>
 S.op (.bin .sub 3 false true v93 (.int .i64 1)) w (fun v94 w =>
 S.op (.mkSlice 265 v94 v94) w (fun v95 w =>
 S.op (.build 267 [(0, v95)]) w (fun v96 w =>
 S.op (.box 267 v96) w (fun v97 w =>
 S.pur (.nilCheck v97) (fun v99 =>
 S.pur (.fieldAddr 267 v99 0) (fun v100 =>
 S.ld (.load 265 v100) w.drew (fun v101 =>
 S.pur (.slice 265 v101 none (some v18) none) (fun v103 =>
 S.pur (.nilCheck a0) (fun v105 =>
 S.pur (.fieldAddr 267 v105 0) (fun v106 =>
 S.ld (.load 265 v106) w.drew (fun v107 =>
 S.pur (.slice 265 v107 none (some v18) none) (fun v109 =>
 S.op (.blt .copy [265, 265] 3 [v103, v109]) w.drew (fun v110 w =>
 S.pur (.nilCheck v97) (fun v112 =>
 S.pur (.fieldAddr 267 v112 0) (fun v113 =>
 S.ld (.load 265 v113) w.drew (fun v114 =>
 S.pur (.slice 265 v114 (some v18) none none) (fun v116 =>
 S.pur (.nilCheck a0) (fun v118 =>
 S.pur (.fieldAddr 267 v118 0) (fun v119 =>
 S.ld (.load 265 v119) w.drew (fun v120 =>
 S.pur (.bin .add 3 false true v18 (.int .i64 1)) (fun v122 =>
 S.pur (.slice 265 v120 (some v122) none none) (fun v123 =>
 S.op (.blt .copy [265, 265] 3 [v116, v123]) w.drew (fun v124 w =>
 S.op (.mkIface 262 v97) w (fun v126 w =>
 K v126 w) Kp) Kp)))))))))) Kp))))))))) Kp) Kp) Kp) Kp) Kp) Kp) Kp) Kp))) Kp) Kp) Kp) Kp) Kp) (
 Br a3 (
 S.pur (.nilCheck a0) (fun v129 =>
 S.pur (.fieldAddr 267 v129 0) (fun v130 =>
 S.ld (.load 265 v130) w.drew (fun v131 =>
 S.call (.inv v31 "pub-bracken/pub/immutable.minKey") [] w.drew (fun v134 w =>
 S.same (.load 265 v130) v131 w ∧
 S.pur (.build 269 [(0, v134), (1, v31)]) (fun v136 =>
 S.pur (.indexAddr 265 v131 v18) (fun v137 =>
 S.op (.store 269 v137 v136) w (fun _ w =>
 S.op (.mkIface 262 a0) w (fun v139 w =>
 K v139 w) Kp) Kp))) Kp)))) (
 S.op (.nilCheck a0) w (fun v141 w =>
 S.op (.fieldAddr 267 v141 0) w (fun v142 w =>
 S.op (.load 265 v142) w (fun v143 w =>
 S.op (.blt .len [265] 3 [v143]) w (fun v144 w =>
 S.op (.mkSlice 265 v144 v144) w (fun v145 w =>
 S.op (.build 267 [(0, v145)]) w (fun v146 w =>
 S.op (.box 267 v146) w (fun v147 w =>
 S.pur (.nilCheck v147) (fun v149 =>
 S.pur (.fieldAddr 267 v149 0) (fun v150 =>
 S.ld (.load 265 v150) w.drew (fun v151 =>
 S.pur (.nilCheck a0) (fun v153 =>
 S.pur (.fieldAddr 267 v153 0) (fun v154 =>
 S.ld (.load 265 v154) w.drew (fun v155 =>
 S.op (.blt .copy [265, 265] 3 [v151, v155]) w.drew (fun v156 w =>
 S.pur (.nilCheck v147) (fun v158 =>
 S.pur (.fieldAddr 267 v158 0) (fun v159 =>
 S.ld (.load 265 v159) w.drew (fun v160 =>
 S.call (.inv v31 "pub-bracken/pub/immutable.minKey") [] w.drew (fun v163 w =>
 S.same (.load 265 v159) v160 w ∧
 S.pur (.build 269 [(0, v163), (1, v31)]) (fun v165 =>
 S.pur (.indexAddr 265 v160 v18) (fun v166 =>
 S.op (.store 269 v166 v165) w (fun _ w =>
 S.op (.mkIface 262 v147) w (fun v168 w =>
 K v168 w) Kp) Kp))) Kp)))) Kp))))))) Kp) Kp) Kp) Kp) Kp) Kp) Kp))) Kp)) Kp) Kp) Kp) Kp) Kp) Kp) Kp) Kp) Kp) Kp) Kp
theorem vc251_eq : vc251 S a0 a1 a2 a3 a4 w K Kp = fVC S [] [] Tryz.f251 [a0, a1, a2, a3, a4] w K Kp := by kernel_rfl
theorem vc251_calls (h : vc251 nP a0 a1 a2 a3 a4 w K Kp) : Calls Tryz.prog 251 #[a0, a1, a2, a3, a4] w (ret K Kp) :=
 fVC_sound (args := [a0, a1, a2, a3, a4]) nice_le follows_BVcT Tryz.func251 (by kernel_rfl) (Eq.mp vc251_eq h)
def vc252 (S : Sig) (a0 a1 a2 : Value) (w : World) (K : KV) (Kp : KP) : Prop :=
 S.call (.fn 253) [a0, a1, a2] w (fun v12 w =>
 S.op (.nilCheck a0) w (fun v14 w =>
 S.op (.fieldAddr 267 v14 0) w (fun v15 w =>
 S.op (.load 265 v15) w (fun v16 w =>
 S.op (.indexAddr 265 v16 v12) w (fun v18 w =>
 S.op (.fieldAddr 269 v18 1) w (fun v19 w =>
 S.op (.load 188 v19) w (fun v20 w =>
 S.call (.inv v20 "pub-bracken/pub/immutable.get") [a1, a2] w (fun v23 w =>
 S.op (.extract v23 0) w (fun v24 w =>
 S.op (.extract v23 1) w (fun v25 w =>
 K (.tuple #[v24, v25]) w) Kp) Kp) Kp) Kp) Kp) Kp) Kp) Kp) Kp) Kp
theorem vc252_eq : vc252 S a0 a1 a2 w K Kp = fVC S [] [] Tryz.f252 [a0, a1, a2] w K Kp := by kernel_rfl
theorem vc252_calls (h : vc252 nP a0 a1 a2 w K Kp) : Calls Tryz.prog 252 #[a0, a1, a2] w (ret K Kp) :=
 fVC_sound (args := [a0, a1, a2]) nice_le follows_BVcT Tryz.func252 (by kernel_rfl) (Eq.mp vc252_eq h)
def vc253 (S : Sig) (a0 a1 a2 : Value) (w : World) (K : KV) (Kp : KP) : Prop :=
 S.op (.box 262 a0) w (fun v3 w =>
 S.op (.box 9 a1) w (fun v4 w =>
 S.op (.box 91 a2) w (fun v5 w =>
 S.op (.load 262 v3) w (fun v8 w =>
 S.op (.nilCheck v8) w (fun v9 w =>
 S.op (.fieldAddr 267 v9 0) w (fun v10 w =>
 S.op (.load 265 v10) w (fun v11 w =>
 S.op (.blt .len [265] 3 [v11]) w (fun v12 w =>
 S.op (.mkFunc (Fn.func 256) [] [v5, v3, v4]) w (fun v13 w =>
 S.call (.fn 241) [v12, v13] w (fun v14 w =>
 S.op (.bin .gtr 3 false true v14 (.int .i64 0)) w (fun v16 w =>
 Br v16 (
 S.op (.bin .sub 3 false true v14 (.int .i64 1)) w (fun v18 w =>
 K v18 w) Kp) (
 K (.int .i64 0) w)) Kp) Kp) Kp) Kp) Kp) Kp) Kp) Kp) Kp) Kp) Kp
theorem vc253_eq : vc253 S a0 a1 a2 w K Kp = fVC S [] [] Tryz.f253 [a0, a1, a2] w K Kp := by kernel_rfl
theorem vc253_calls (h : vc253 nP a0 a1 a2 w K Kp) : Calls Tryz.prog 253 #[a0, a1, a2] w (ret K Kp) :=
 fVC_sound (args := [a0, a1, a2]) nice_le follows_BVcT Tryz.func253 (by kernel_rfl) (Eq.mp vc253_eq h)
def vc254 (S : Sig) (a0 : Value) (w : World) (K : KV) (Kp : KP) : Prop :=
 S.op (.nilCheck a0) w (fun v4 w =>
 S.op (.fieldAddr 267 v4 0) w (fun v5 w =>
 S.op (.load 265 v5) w (fun v6 w =>
 S.op (.indexAddr 265 v6 (.int .i64 0)) w (fun v7 w =>
 S.op (.fieldAddr 269 v7 1) w (fun v8 w =>
 S.op (.load 188 v8) w (fun v9 w =>
 S.call (.inv v9 "pub-bracken/pub/immutable.minKey") [] w (fun v10 w =>
 K v10 w) Kp) Kp) Kp) Kp) Kp) Kp) Kp
theorem vc254_eq : vc254 S a0 w K Kp = fVC S [] [] Tryz.f254 [a0] w K Kp := by kernel_rfl
theorem vc254_calls (h : vc254 nP a0 w K Kp) : Calls Tryz.prog 254 #[a0] w (ret K Kp) :=
 fVC_sound (args := [a0]) nice_le follows_BVcT Tryz.func254 (by kernel_rfl) (Eq.mp vc254_eq h)
def vc255 (S : Sig) (a0 a1 a2 a3 a4 a5 : Value) (w : World) (K : KV) (Kp : KP) : Prop :=
 S.call (.fn 253) [a0, a1, a3] w (fun v27 w =>
 S.op (.nilCheck a0) w (fun v30 w =>
 S.op (.fieldAddr 267 v30 0) w (fun v31 w =>
 S.op (.load 265 v31) w (fun v32 w =>
 S.op (.indexAddr 265 v32 v27) w (fun v34 w =>
 S.op (.fieldAddr 269 v34 1) w (fun v35 w =>
 S.op (.load 188 v35) w (fun v36 w =>
 S.call (.inv v36 "pub-bracken/pub/immutable.set") [a1, a2, a3, a4, a5] w (fun v42 w =>
 S.op (.extract v42 0) w (fun v43 w =>
 S.op (.extract v42 1) w (fun v44 w =>
 Br a4 (
 S.pur (.nilCheck a0) (fun v47 =>
 S.pur (.fieldAddr 267 v47 0) (fun v48 =>
 S.ld (.load 265 v48) w.drew (fun v49 =>
 S.call (.inv v43 "pub-bracken/pub/immutable.minKey") [] w.drew (fun v52 w =>
 S.same (.load 265 v48) v49 w ∧
 S.pur (.build 269 [(0, v52), (1, v43)]) (fun v54 =>
 S.pur (.indexAddr 265 v49 v27) (fun v55 =>
 S.op (.store 269 v55 v54) w (fun _ w =>
 Jn fun (J9 : World → Prop) =>
 (S.op (.bin .neq 188 false true v44 .nilIface) w (fun v57 w =>
 Br v57 (
 S.op (.nilCheck a0) w (fun v60 w =>
 S.op (.fieldAddr 267 v60 0) w (fun v61 w =>
 S.op (.load 265 v61) w (fun v62 w =>
 S.op (.build 269 []) w (fun v63 w =>
 S.op (.buildSlice 265 1 [(0, v63)]) w (fun v64 w =>
 S.op (.blt .append [265, 265] 265 [v62, v64]) w (fun v65 w =>
 S.op (.nilCheck a0) w (fun v66 w =>
 S.op (.fieldAddr 267 v66 0) w (fun v67 w =>
 S.op (.store 265 v67 v65) w (fun _ w =>
 S.pur (.nilCheck a0) (fun v69 =>
 S.pur (.fieldAddr 267 v69 0) (fun v70 =>
 S.ld (.load 265 v70) w.drew (fun v71 =>
 S.pur (.bin .add 3 false true v27 (.int .i64 1)) (fun v73 =>
 S.pur (.slice 265 v71 (some v73) none none) (fun v74 =>
 S.pur (.nilCheck a0) (fun v76 =>
 S.pur (.fieldAddr 267 v76 0) (fun v77 =>
 S.ld (.load 265 v77) w.drew (fun v78 =>
 S.pur (.slice 265 v78 (some v27) none none) (fun v80 =>
 S.op (.blt .copy [265, 265] 3 [v74, v80]) w.drew (fun v81 w =>
 S.pur (.nilCheck a0) (fun v83 =>
 S.pur (.fieldAddr 267 v83 0) (fun v84 =>
 S.ld (.load 265 v84) w.drew (fun v85 =>
 S.pur (.bin .add 3 false true v27 (.int .i64 1)) (fun v87 =>
 S.call (.inv v44 "pub-bracken/pub/immutable.minKey") [] w.drew (fun v89 w =>
 S.same (.load 265 v84) v85 w ∧
 S.pur (.build 269 [(0, v89), (1, v44)]) (fun v91 =>
 S.pur (.indexAddr 265 v85 v87) (fun v92 =>
 S.op (.store 269 v92 v91) w (fun _ w =>
 J9 w) Kp))) Kp))))) Kp)))))))))) Kp) Kp) Kp) Kp) Kp) Kp) Kp) Kp) Kp) (
 J9 w)) Kp) ∧
 (∀ (w : World) (_ : Nat → Value), J9 w →
 S.op (.nilCheck a0) w (fun v94 w =>
 S.op (.fieldAddr 267 v94 0) w (fun v95 w =>
 S.op (.load 265 v95) w (fun v96 w =>
 S.op (.blt .len [265] 3 [v96]) w (fun v97 w =>
 S.op (.bin .gtr 3 false true v97 (.int .i64 32)) w (fun v98 w =>
 Br v98 (
 S.op (.nilCheck a0) w (fun v100 w =>
 S.op (.fieldAddr 267 v100 0) w (fun v101 w =>
 S.op (.load 265 v101) w (fun v102 w =>
 S.op (.blt .len [265] 3 [v102]) w (fun v103 w =>
 S.op (.bin .quo 3 false true v103 (.int .i64 2)) w (fun v104 w =>
 S.op (.nilCheck a0) w (fun v106 w =>
 S.op (.fieldAddr 267 v106 0) w (fun v107 w =>
 S.op (.load 265 v107) w (fun v108 w =>
 S.op (.slice 265 v108 none (some v104) (some v104)) w (fun v111 w =>
 S.op (.build 267 [(0, v111)]) w (fun v112 w =>
 S.op (.box 267 v112) w (fun v113 w =>
 S.op (.nilCheck a0) w (fun v115 w =>
 S.op (.fieldAddr 267 v115 0) w (fun v116 w =>
 S.op (.load 265 v116) w (fun v117 w =>
 S.op (.slice 265 v117 (some v104) none none) w (fun v119 w =>
 S.op (.build 267 [(0, v119)]) w (fun v120 w =>
 S.op (.box 267 v120) w (fun v121 w =>
 S.op (.mkIface 262 v113) w (fun v123 w =>
 S.op (.mkIface 262 v121) w (fun v125 w =>
 K (.tuple #[v123, v125]) w) Kp) Kp) Kp) Kp) Kp) Kp) Kp) Kp) Kp) Kp) Kp) Kp) Kp) Kp) Kp) Kp) Kp) Kp) Kp) (
 S.op (.mkIface 262 a0) w (fun v127 w =>
 K (.tuple #[v127, .nilIface]) w) Kp)) Kp) Kp) Kp) Kp) Kp)) Kp))) Kp)))) (
 S.op (.alloc 267) w (fun v20 w =>
 Jn fun (J25 : World → Prop) =>
 (S.op (.bin .eql 188 false true v44 .nilIface) w (fun v129 w =>
 Br v129 (
 S.op (.nilCheck a0) w (fun v131 w =>
 S.op (.fieldAddr 267 v131 0) w (fun v132 w =>
 S.op (.load 265 v132) w (fun v133 w =>
 S.op (.blt .len [265] 3 [v133]) w (fun v134 w =>
 S.op (.mkSlice 265 v134 v134) w (fun v135 w =>
 S.op (.fieldAddr 267 v20 0) w (fun v136 w =>
 S.op (.store 265 v136 v135) w (fun _ w =>
 S.pur (.fieldAddr 267 v20 0) (fun v137 =>
 S.ld (.load 265 v137) w.drew (fun v138 =>
 S.pur (.nilCheck a0) (fun v140 =>
 S.pur (.fieldAddr 267 v140 0) (fun v141 =>
 S.ld (.load 265 v141) w.drew (fun v142 =>
 S.op (.blt .copy [265, 265] 3 [v138, v142]) w.drew (fun v143 w =>
 S.pur (.fieldAddr 267 v20 0) (fun v144 =>
 S.ld (.load 265 v144) w.drew (fun v145 =>
 S.call (.inv v43 "pub-bracken/pub/immutable.minKey") [] w.drew (fun v148 w =>
 S.same (.load 265 v144) v145 w ∧
 S.pur (.build 269 [(0, v148), (1, v43)]) (fun v150 =>
 S.pur (.indexAddr 265 v145 v27) (fun v151 =>
 S.op (.store 269 v151 v150) w (fun _ w =>
 J25 w) Kp))) Kp))) Kp)))))) Kp) Kp) Kp) Kp) Kp) Kp) Kp) (
 S.op (.nilCheck a0) w (fun v153 w =>
 S.op (.fieldAddr 267 v153 0) w (fun v154 w =>
 S.op (.load 265 v154) w (fun v155 w =>
 S.op (.blt .len [265] 3 [v155]) w (fun v156 w =>
 S.op (.bin .add 3 false true v156 (.int .i64 1)) w (fun v157 w =>
 S.op (.mkSlice 265 v157 v157) w (fun v158 w =>
 S.op (.fieldAddr 267 v20 0) w (fun v159 w =>
 S.op (.store 265 v159 v158) w (fun _ w =>
 S.pur (.fieldAddr 267 v20 0) (fun v160 =>
 S.ld (.load 265 v160) w.drew (fun v161 =>
 S.pur (.slice 265 v161 none (some v27) none) (fun v163 =>
 S.pur (.nilCheck a0) (fun v165 =>
 S.pur (.fieldAddr 267 v165 0) (fun v166 =>
 S.ld (.load 265 v166) w.drew (fun v167 =>
 S.pur (.slice 265 v167 none (some v27) none) (fun v169 =>
 S.op (.blt .copy [265, 265] 3 [v163, v169]) w.drew (fun v170 w =>
 S.pur (.fieldAddr 267 v20 0) (fun v171 =>
 S.ld (.load 265 v171) w.drew (fun v172 =>
 S.pur (.bin .add 3 false true v27 (.int .i64 1)) (fun v174 =>
 S.pur (.slice 265 v172 (some v174) none none) (fun v175 =>
 S.pur (.nilCheck a0) (fun v177 =>
 S.pur (.fieldAddr 267 v177 0) (fun v178 =>
 S.ld (.load 265 v178) w.drew (fun v179 =>
 S.pur (.slice 265 v179 (some v27) none none) (fun v181 =>
 S.op (.blt .copy [265, 265] 3 [v175, v181]) w.drew (fun v182 w =>
 S.pur (.fieldAddr 267 v20 0) (fun v183 =>
 S.ld (.load 265 v183) w.drew (fun v184 =>
 S.call (.inv v43 "pub-bracken/pub/immutable.minKey") [] w.drew (fun v187 w =>
 S.same (.load 265 v183) v184 w ∧
 S.pur (.build 269 [(0, v187), (1, v43)]) (fun v189 =>
 S.pur (.indexAddr 265 v184 v27) (fun v190 =>
 S.op (.store 269 v190 v189) w (fun _ w =>
 S.pur (.fieldAddr 267 v20 0) (fun v191 =>
 S.ld (.load 265 v191) w.drew (fun v192 =>
 S.pur (.bin .add 3 false true v27 (.int .i64 1)) (fun v194 =>
 S.call (.inv v44 "pub-bracken/pub/immutable.minKey") [] w.drew (fun v196 w =>
 S.same (.load 265 v191) v192 w ∧
 S.pur (.build 269 [(0, v196), (1, v44)]) (fun v198 =>
 S.pur (.indexAddr 265 v192 v194) (fun v199 =>
 S.op (.store 269 v199 v198) w (fun _ w =>
 J25 w) Kp))) Kp)))) Kp))) Kp))) Kp))))))))) Kp)))))))) Kp) Kp) Kp) Kp) Kp) Kp) Kp) Kp)) Kp) ∧
 (∀ (w : World) (_ : Nat → Value), J25 w →
 S.op (.fieldAddr 267 v20 0) w (fun v200 w =>
 S.op (.load 265 v200) w (fun v201 w =>
 S.op (.blt .len [265] 3 [v201]) w (fun v202 w =>
 S.op (.bin .gtr 3 false true v202 (.int .i64 32)) w (fun v203 w =>
 Br v203 (
 S.op (.fieldAddr 267 v20 0) w (fun v204 w =>
 S.op (.load 265 v204) w (fun v205 w =>
 S.op (.blt .len [265] 3 [v205]) w (fun v206 w =>
 S.op (.bin .quo 3 false true v206 (.int .i64 2)) w (fun v207 w =>
 S.op (.fieldAddr 267 v20 0) w (fun v208 w =>
 S.op (.load 265 v208) w (fun v209 w =>
 S.op (.slice 265 v209 none (some v207) (some v207)) w (fun v212 w =>
 S.op (.build 267 [(0, v212)]) w (fun v213 w =>
 S.op (.box 267 v213) w (fun v214 w =>
 S.op (.fieldAddr 267 v20 0) w (fun v215 w =>
 S.op (.load 265 v215) w (fun v216 w =>
 S.op (.slice 265 v216 (some v207) none none) w (fun v218 w =>
 S.op (.build 267 [(0, v218)]) w (fun v219 w =>
 S.op (.box 267 v219) w (fun v220 w =>
 S.op (.mkIface 262 v214) w (fun v222 w =>
 S.op (.mkIface 262 v220) w (fun v224 w =>
 K (.tuple #[v222, v224]) w) Kp) Kp) Kp) Kp) Kp) Kp) Kp) Kp) Kp) Kp) Kp) Kp) Kp) Kp) Kp) Kp) (
 S.op (.mkIface 262 v20) w (fun v225 w =>
 K (.tuple #[v225, .nilIface]) w) Kp)) Kp) Kp) Kp) Kp)) Kp)) Kp) Kp) Kp) Kp) Kp) Kp) Kp) Kp) Kp) Kp
theorem vc255_eq : vc255 S a0 a1 a2 a3 a4 a5 w K Kp = fVC S [] [(9, []), (25, [])] Tryz.f255 [a0, a1, a2, a3, a4, a5] w K Kp := by kernel_rfl
theorem vc255_calls (h : vc255 nP a0 a1 a2 a3 a4 a5 w K Kp) : Calls Tryz.prog 255 #[a0, a1, a2, a3, a4, a5] w (ret K Kp) :=
 fVC_sound (args := [a0, a1, a2, a3, a4, a5]) nice_le follows_BVcT Tryz.func255 (by kernel_rfl) (Eq.mp vc255_eq h)
def vc256 (S : Sig) (a0 a1 a2 a3 : Value) (w : World) (K : KV) (Kp : KP) : Prop :=
 S.ld (.load 91 a1) w.drew (fun v6 =>
 S.ld (.load 262 a2) w.drew (fun v7 =>
 S.pur (.nilCheck v7) (fun v8 =>
 S.pur (.fieldAddr 267 v8 0) (fun v9 =>
 S.ld (.load 265 v9) w.drew (fun v10 =>
 S.pur (.indexAddr 265 v10 a0) (fun v12 =>
 S.pur (.fieldAddr 269 v12 0) (fun v13 =>
 S.ld (.load 9 v13) w.drew (fun v14 =>
 S.ld (.load 9 a3) w.drew (fun v15 =>
 S.pur (.mkFunc (Fn.method "Compare") [v6] []) (fun v16 =>
 S.pur (.nilCheck v16) (fun v17 =>
 S.call (.inv v6 "Compare") [v14, v15] w.drew (fun v19 w =>
 S.pur (.bin .eql 3 false true v19 (.int .i64 1)) (fun v20 =>
 K v20 w)) Kp)))))))))))
theorem vc256_eq : vc256 S a0 a1 a2 a3 w K Kp = fVC S [] [] Tryz.f256 [a0, a1, a2, a3] w K Kp := by kernel_rfl
theorem vc256_calls (h : vc256 nP a0 a1 a2 a3 w K Kp) : Calls Tryz.prog 256 #[a0, a1, a2, a3] w (ret K Kp) :=
 fVC_sound (args := [a0, a1, a2, a3]) nice_le follows_BVcT Tryz.func256 (by kernel_rfl) (Eq.mp vc256_eq h)
def vc185 (S : Sig) (a0 : Value) (w : World) (K : KV) (Kp : KP) : Prop :=
 S.op (.blt .len [343] 3 [a0]) w (fun v7 w =>
 S.op (.mkSlice 265 v7 v7) w (fun v8 w =>
 S.op (.blt .len [343] 3 [a0]) w (fun v10 w =>
 Lp fun (I3 : KV) (μ3 : Value → World → Nat) => I3 (.int .i64 0) w ∧
 ∀ (wl3 : World) (_ : Nat → Value) (s11 : Value), I3 s11 wl3 →
 S.op (.bin .lss 3 false false s11 v10) wl3 (fun v12 w =>
 Br v12 (
 S.op (.indexAddr 343 a0 s11) w (fun v14 w =>
 S.op (.load 188 v14) w (fun v15 w =>
 S.call (.inv v15 "pub-bracken/pub/immutable.minKey") [] w (fun v19 w =>
 S.op (.build 269 [(0, v19), (1, v15)]) w (fun v21 w =>
 S.op (.indexAddr 265 v8 s11) w (fun v22 w =>
 S.op (.store 269 v22 v21) w (fun _ w =>
 S.op (.bin .add 3 false true s11 (.int .i64 1)) w (fun v23 w =>
 I3 v23 w ∧ μ3 v23 w < μ3 s11 wl3) Kp) Kp) Kp) Kp) Kp) Kp) Kp) (
 S.op (.build 267 [(0, v8)]) w (fun v25 w =>
 S.op (.box 267 v25) w (fun v26 w =>
 K v26 w) Kp) Kp)) Kp) Kp) Kp) Kp
theorem vc185_eq : vc185 S a0 w K Kp = fVC S [(3, [11])] [] Tryz.f185 [a0] w K Kp := by kernel_rfl
theorem vc185_calls (h : vc185 nP a0 w K Kp) : Calls Tryz.prog 185 #[a0] w (ret K Kp) :=
 fVC_sound (args := [a0]) nice_le follows_BVcT Tryz.func185 (by kernel_rfl) (Eq.mp vc185_eq h)
def vc141 (S : Sig) (a0 a1 a2 a3 : Value) (w : World) (K : KV) (Kp : KP) : Prop :=
 S.op (.nilCheck a0) w (fun v15 w =>
 S.op (.fieldAddr 190 v15 2) w (fun v16 w =>
 S.op (.load 91 v16) w (fun v17 w =>
 Jn fun (J4 : KV) =>
 (S.op (.bin .eql 91 false true v17 .nilIface) w (fun v19 w =>
 Br v19 (
 S.call (.fn 183) [a1] w (fun v21 w =>
 J4 v21 w) Kp) (
 J4 v17 w)) Kp) ∧
 (∀ (w : World) (_ : Nat → Value) (j9 : Value), J4 j9 w →
 Jn fun (J7 : KV) =>
 (S.op (.un .not a3) w (fun v24 w =>
 Br v24 (
 S.call (.fn 184) [a0] w (fun v26 w =>
 J7 v26 w) Kp) (
 J7 a0 w)) Kp) ∧
 (∀ (w : World) (_ : Nat → Value) (j10 : Value), J7 j10 w →
 S.op (.nilCheck j10) w (fun v29 w =>
 S.op (.fieldAddr 190 v29 2) w (fun v30 w =>
 S.op (.store 91 v30 j9) w (fun _ w =>
 S.op (.nilCheck a0) w (fun v32 w =>
 S.op (.fieldAddr 190 v32 1) w (fun v33 w =>
 S.op (.load 188 v33) w (fun v34 w =>
 S.op (.bin .eql 188 false true v34 .nilIface) w (fun v35 w =>
 Br v35 (
 S.op (.nilCheck j10) w (fun v37 w =>
 S.op (.fieldAddr 190 v37 0) w (fun v38 w =>
 S.op (.store 3 v38 (.int .i64 1)) w (fun _ w =>
 S.op (.build 203 [(0, a1), (1, a2)]) w (fun v42 w =>
 S.op (.buildSlice 204 1 [(0, v42)]) w (fun v43 w =>
 S.op (.build 206 [(0, v43)]) w (fun v44 w =>
 S.op (.box 206 v44) w (fun v45 w =>
 S.op (.mkIface 200 v45) w (fun v46 w =>
 S.op (.nilCheck j10) w (fun v47 w =>
 S.op (.fieldAddr 190 v47 1) w (fun v48 w =>
 S.op (.store 188 v48 v46) w (fun _ w =>
 K j10 w) Kp) Kp) Kp) Kp) Kp) Kp) Kp) Kp) Kp) Kp) Kp) (
 S.op (.alloc 4) w (fun v11 w =>
 S.op (.nilCheck a0) w (fun v52 w =>
 S.op (.fieldAddr 190 v52 1) w (fun v53 w =>
 S.op (.load 188 v53) w (fun v54 w =>
 S.call (.inv v54 "pub-bracken/pub/immutable.set") [a1, a2, j9, a3, v11] w (fun v59 w =>
 S.op (.extract v59 0) w (fun v60 w =>
 S.op (.extract v59 1) w (fun v61 w =>
 Jn fun (J16 : KV) =>
 (S.op (.bin .neq 188 false true v61 .nilIface) w (fun v63 w =>
 Br v63 (
 S.op (.buildSlice 343 2 [(0, v60), (1, v61)]) w (fun v66 w =>
 S.call (.fn 185) [v66] w (fun v67 w =>
 S.op (.mkIface 262 v67) w (fun v68 w =>
 J16 v68 w) Kp) Kp) Kp) (
 J16 v60 w)) Kp) ∧
 (∀ (w : World) (_ : Nat → Value) (j12 : Value), J16 j12 w →
 S.op (.nilCheck a0) w (fun v71 w =>
 S.op (.fieldAddr 190 v71 0) w (fun v72 w =>
 S.op (.load 3 v72) w (fun v73 w =>
 S.op (.nilCheck j10) w (fun v74 w =>
 S.op (.fieldAddr 190 v74 0) w (fun v75 w =>
 S.op (.store 3 v75 v73) w (fun _ w =>
 S.op (.nilCheck j10) w (fun v78 w =>
 S.op (.fieldAddr 190 v78 1) w (fun v79 w =>
 S.op (.store 188 v79 j12) w (fun _ w =>
 S.op (.load 4 v11) w (fun v80 w =>
 Br v80 (
 S.op (.nilCheck j10) w (fun v82 w =>
 S.op (.fieldAddr 190 v82 0) w (fun v83 w =>
 S.op (.load 3 v83) w (fun v84 w =>
 S.op (.bin .add 3 false true v84 (.int .i64 1)) w (fun v85 w =>
 S.op (.nilCheck j10) w (fun v86 w =>
 S.op (.fieldAddr 190 v86 0) w (fun v87 w =>
 S.op (.store 3 v87 v85) w (fun _ w =>
 K j10 w) Kp) Kp) Kp) Kp) Kp) Kp) Kp) (
 K j10 w)) Kp) Kp) Kp) Kp) Kp) Kp) Kp) Kp) Kp) Kp)) Kp) Kp) Kp) Kp) Kp) Kp) Kp)) Kp) Kp) Kp) Kp) Kp) Kp) Kp))) Kp) Kp) Kp
theorem vc141_eq : vc141 S a0 a1 a2 a3 w K Kp = fVC S [] [(4, [9]), (7, [10]), (16, [12])] Tryz.f141 [a0, a1, a2, a3] w K Kp := by kernel_rfl
theorem vc141_calls (h : vc141 nP a0 a1 a2 a3 w K Kp) : Calls Tryz.prog 141 #[a0, a1, a2, a3] w (ret K Kp) :=
 fVC_sound (args := [a0, a1, a2, a3]) nice_le follows_BVcT Tryz.func141 (by kernel_rfl) (Eq.mp vc141_eq h)
def vc142 (S : Sig) (a0 a1 a2 : Value) (w : World) (K : KV) (Kp : KP) : Prop :=
 S.op (.nilCheck a0) w (fun v11 w =>
 S.op (.fieldAddr 190 v11 1) w (fun v12 w =>
 S.op (.load 188 v12) w (fun v13 w =>
 S.op (.bin .eql 188 false true v13 .nilIface) w (fun v14 w =>
 Br v14 (
 K a0 w) (
 S.op (.alloc 4) w (fun v7 w =>
 S.pur (.nilCheck a0) (fun v17 =>
 S.pur (.fieldAddr 190 v17 1) (fun v18 =>
 S.ld (.load 188 v18) w.drew (fun v19 =>
 S.pur (.nilCheck a0) (fun v22 =>
 S.pur (.fieldAddr 190 v22 2) (fun v23 =>
 S.ld (.load 91 v23) w.drew (fun v24 =>
 S.pur (.nilCheck v19) (fun v26 =>
 S.call (.inv v19 "pub-bracken/pub/immutable.delete") [a1, v24, a2, v7] w.drew (fun v28 w =>
 S.op (.load 4 v7) w (fun v29 w =>
 S.op (.un .not v29) w (fun v30 w =>
 Br v30 (
 K a0 w) (
 S.op (.un .not a2) w (fun v34 w =>
 Br v34 (
 S.call (.fn 184) [a0] w (fun v36 w =>
 S.op (.nilCheck a0) w (fun v39 w =>
 S.op (.fieldAddr 190 v39 0) w (fun v40 w =>
 S.op (.load 3 v40) w (fun v41 w =>
 S.op (.bin .sub 3 false true v41 (.int .i64 1)) w (fun v42 w =>
 S.op (.nilCheck v36) w (fun v43 w =>
 S.op (.fieldAddr 190 v43 0) w (fun v44 w =>
 S.op (.store 3 v44 v42) w (fun _ w =>
 S.op (.nilCheck v36) w (fun v47 w =>
 S.op (.fieldAddr 190 v47 1) w (fun v48 w =>
 S.op (.store 188 v48 v28) w (fun _ w =>
 K v36 w) Kp) Kp) Kp) Kp) Kp) Kp) Kp) Kp) Kp) Kp) Kp) (
 S.op (.nilCheck a0) w (fun v39 w =>
 S.op (.fieldAddr 190 v39 0) w (fun v40 w =>
 S.op (.load 3 v40) w (fun v41 w =>
 S.op (.bin .sub 3 false true v41 (.int .i64 1)) w (fun v42 w =>
 S.op (.nilCheck a0) w (fun v43 w =>
 S.op (.fieldAddr 190 v43 0) w (fun v44 w =>
 S.op (.store 3 v44 v42) w (fun _ w =>
 S.op (.nilCheck a0) w (fun v47 w =>
 S.op (.fieldAddr 190 v47 1) w (fun v48 w =>
 S.op (.store 188 v48 v28) w (fun _ w =>
 K a0 w) Kp) Kp) Kp) Kp) Kp) Kp) Kp) Kp) Kp) Kp)) Kp)) Kp) Kp) Kp)))))))) Kp)) Kp) Kp) Kp) Kp
theorem vc142_eq : vc142 S a0 a1 a2 w K Kp = fVC S [] [] Tryz.f142 [a0, a1, a2] w K Kp := by kernel_rfl
theorem vc142_calls (h : vc142 nP a0 a1 a2 w K Kp) : Calls Tryz.prog 142 #[a0, a1, a2] w (ret K Kp) :=
 fVC_sound (args := [a0, a1, a2]) nice_le follows_BVcT Tryz.func142 (by kernel_rfl) (Eq.mp vc142_eq h)
def vc68 (S : Sig) (a0 a1 : Value) (w : World) (K : KV) (Kp : KP) : Prop :=
 S.op (.nilCheck a0) w (fun v8 w =>
 S.op (.fieldAddr 190 v8 1) w (fun v9 w =>
 S.op (.load 188 v9) w (fun v10 w =>
 S.op (.bin .eql 188 false true v10 .nilIface) w (fun v11 w =>
 Br v11 (
 K (.tuple #[(.int .i64 0), (.bool false)]) w) (
 S.pur (.nilCheck a0) (fun v14 =>
 S.pur (.fieldAddr 190 v14 1) (fun v15 =>
 S.ld (.load 188 v15) w.drew (fun v16 =>
 S.pur (.nilCheck a0) (fun v19 =>
 S.pur (.fieldAddr 190 v19 2) (fun v20 =>
 S.ld (.load 91 v20) w.drew (fun v21 =>
 S.pur (.nilCheck v16) (fun v22 =>
 S.call (.inv v16 "pub-bracken/pub/immutable.get") [a1, v21] w.drew (fun v24 w =>
 S.pur (.extract v24 0) (fun v25 =>
 S.pur (.extract v24 1) (fun v26 =>
 K (.tuple #[v25, v26]) w))) Kp))))))))) Kp) Kp) Kp) Kp
theorem vc68_eq : vc68 S a0 a1 w K Kp = fVC S [] [] Tryz.f68 [a0, a1] w K Kp := by kernel_rfl
theorem vc68_calls (h : vc68 nP a0 a1 w K Kp) : Calls Tryz.prog 68 #[a0, a1] w (ret K Kp) :=
 fVC_sound (args := [a0, a1]) nice_le follows_BVcT Tryz.func68 (by kernel_rfl) (Eq.mp vc68_eq h)
def vc71 (S : Sig) (a0 : Value) (w : World) (K : KV) (Kp : KP) : Prop :=
 S.op (.nilCheck a0) w (fun v4 w =>
 S.op (.fieldAddr 190 v4 0) w (fun v5 w =>
 S.op (.load 3 v5) w (fun v6 w =>
 K v6 w) Kp) Kp) Kp
theorem vc71_eq : vc71 S a0 w K Kp = fVC S [] [] Tryz.f71 [a0] w K Kp := by kernel_rfl
theorem vc71_calls (h : vc71 nP a0 w K Kp) : Calls Tryz.prog 71 #[a0] w (ret K Kp) :=
 fVC_sound (args := [a0]) nice_le follows_BVcT Tryz.func71 (by kernel_rfl) (Eq.mp vc71_eq h)
def vc70 (S : Sig) (a0 : Value) (w : World) (K : KV) (Kp : KP) : Prop :=
 S.op (.build 198 [(0, a0)]) w (fun v5 w =>
 S.op (.box 198 v5) w (fun v6 w =>
 S.call (.fn 129) [v6] w (fun v8 w =>
 K v6 w) Kp) Kp) Kp
theorem vc70_eq : vc70 S a0 w K Kp = fVC S [] [] Tryz.f70 [a0] w K Kp := by kernel_rfl
theorem vc70_calls (h : vc70 nP a0 w K Kp) : Calls Tryz.prog 70 #[a0] w (ret K Kp) :=
 fVC_sound (args := [a0]) nice_le follows_BVcT Tryz.func70 (by kernel_rfl) (Eq.mp vc70_eq h)
def vc64 (S : Sig) (a0 : Value) (w : World) (K : KV) (Kp : KP) : Prop :=
 S.op (.build 190 [(2, a0)]) w (fun v4 w =>
 S.op (.box 190 v4) w (fun v5 w =>
 K v5 w) Kp) Kp
theorem vc64_eq : vc64 S a0 w K Kp = fVC S [] [] Tryz.f64 [a0] w K Kp := by kernel_rfl
theorem vc64_calls (h : vc64 nP a0 w K Kp) : Calls Tryz.prog 64 #[a0] w (ret K Kp) :=
 fVC_sound (args := [a0]) nice_le follows_BVcT Tryz.func64 (by kernel_rfl) (Eq.mp vc64_eq h)
end Go.Proofs.YtodjijfblgnfmaaGreatDoor
end
section
namespace Go.Proofs.YtodjijfblgnfmaaGreatDoor.T
open Go.Vc Go.Proofs Go.Proofs.YtodjijfblgnfmaaGreatDoor Go.Vc.Bt
abbrev Ky := {s : ByteArray // s.size ≤ 1000}
abbrev Vl := Int
def ek (k : Ky) : Value := .string k.1
def ev (v : Vl) : Value := .int .i64 v
def zv : Value := .int .i64 0
def zk : Value := .string ⟨#[]⟩
abbrev Tr := T (Ky × Vl)
def ent (e : Ky × Vl) : List Value := [ek e.1, ev e.2]
theorem ent_len (e : Ky × Vl) : (ent e).length = 2 := rfl
theorem one_ek (k : Ky) : (ek k).oneCell' = true := rfl
theorem one_ev (v : Vl) : (ev v).oneCell' = true := rfl
def ents (es : List (Ky × Vl)) : List Value := es.flatMap ent
theorem ents_len (es : List (Ky × Vl)) : (ents es).length = es.length * 2 := flatMap_len ent_len es
theorem ents_get {es : List (Ky × Vl)} {i r : Nat} (hi : i < es.length) (hr : r < 2) : (ents es)[i * 2 + r]? = (ent es[i])[r]? := flatMap_get ent_len es i r hi hr
theorem ents_one {es : List (Ky × Vl)} : ∀ u ∈ ents es, u.oneCell' = true := fun u hu => by
  obtain ⟨e, _, he⟩ := List.mem_flatMap.1 hu
  simp only [ent, List.mem_cons, List.not_mem_nil, or_false] at he
  rcases he with rfl | rfl <;> rfl
def ptr (b : Nat) : Value := .pointer (some ⟨b, 0, none⟩)
def el (h : Nat) (p : Tr × Value) : List Value := [((fstK h p.1).map ek).getD zk, p.2]
theorem el_len (h : Nat) (p : Tr × Value) : (el h p).length = 2 := rfl
def els (h : Nat) (ps : List (Tr × Value)) : List Value := ps.flatMap (el h)
theorem els_len (h : Nat) (ps : List (Tr × Value)) : (els h ps).length = ps.length * 2 := flatMap_len (el_len h) ps
theorem els_get {h : Nat} {ps : List (Tr × Value)} {i r : Nat} (hi : i < ps.length) (hr : r < 2) : (els h ps)[i * 2 + r]? = (el h ps[i])[r]? := flatMap_get (el_len h) ps i r hi hr
structure IsC (cv : Value) (lt : Ky → Ky → Bool) : Prop where
  lin : Lin lt
  cmp : ∀ {a b : Ky} {w : World} {K : KV} {Kp : KP}, (∀ w', Frm (fun _ => False) w w' → K (.int .i64 (Bt.cmp lt a b)) w') → nP.call (.inv cv "Compare") [ek a, ek b] w K Kp
  nilC : ∀ {K1 : Value → Prop}, nP.pur (.nilCheck (.func (.method "Compare") #[cv] #[])) K1 = K1 (.func (.method "Compare") #[cv] #[])
  iface : ∃ t p, cv = .iface t p
def Rep (w : World) : Nat → Tr → Value → Prop
  | 0, .leaf es, v => ∃ b g o c, v = .iface 200 (ptr b) ∧ w.heap[b]? = some (.cells #[.slice (some ⟨g, o, none⟩) es.length c] 206 (0, 0)) ∧ Sg w 203 2 g o es.length c (ents es)
  | h + 1, .br ks, v => ∃ b g o c ps, v = .iface 262 (ptr b) ∧ w.heap[b]? = some (.cells #[.slice (some ⟨g, o, none⟩) ks.length c] 267 (0, 0)) ∧ ks = ps.map (·.1) ∧ Sg w 269 2 g o ks.length c (els h ps) ∧ ∀ p ∈ ps, Rep w h p.1 p.2
  | _, _, _ => False
variable {w w' : World} {v cv : Value} {t : Tr} {K : KV} {Kp : KP} {lt : Ky → Ky → Bool} {k : Ky} {h : Nat}
theorem Rep.still : ∀ {h : Nat} {t : Tr} {v : Value}, Rep w h t v → Frm (fun _ => False) w w' → Rep w' h t v
  | 0, .leaf es, v, hr, hf => by
    obtain ⟨b, g, o, c, h1, h2, h3⟩ := hr
    exact ⟨b, g, o, c, h1, hf.get h2 fun h => h, h3.still hf⟩
  | h + 1, .br ks, v, hr, hf => by
    obtain ⟨b, g, o, c, ps, h1, h2, h3, h4, h5⟩ := hr
    exact ⟨b, g, o, c, ps, h1, hf.get h2 fun h => h, h3, h4.still hf, fun p hp => (h5 p hp).still hf⟩
  | 0, .br ks, v, hr, hf => hr.elim
  | h + 1, .leaf es, v, hr, hf => hr.elim
end Go.Proofs.YtodjijfblgnfmaaGreatDoor.T
end
section
namespace Go.Proofs.YtodjijfblgnfmaaGreatDoor.T
open Go.Vc Go.Proofs Go.Proofs.YtodjijfblgnfmaaGreatDoor Go.Vc.Bt
variable {w w' : World} {cv : Value} {t : Tr} {K : KV} {Kp : KP} {lt : Ky → Ky → Bool} {k : Ky} {h : Nat} {b g o c : Nat} {es : List (Ky × Vl)}
theorem leafKey (hg : Sg w 203 2 g o es.length c (ents es)) : ∃ cur, w.heap[g]? = some (.cells cur 203 (0, 0)) ∧ ∀ j (hj : j < es.length), cur[o + j * 2]? = some (ek es[j].1) := by
  obtain ⟨cur, h1, h2, h3⟩ := hg.cells
  refine ⟨cur, h1, fun j hj => ?_⟩
  rw [h3 _ (by rw [ents_len]; omega)]
  have := ents_get (r := 0) hj (by decide)
  rw [Nat.add_zero] at this
  rw [this]; rfl
theorem leafVal (hg : Sg w 203 2 g o es.length c (ents es)) : ∃ cur, w.heap[g]? = some (.cells cur 203 (0, 0)) ∧ ∀ j (hj : j < es.length), cur[o + j * 2]? = some (ek es[j].1) ∧ cur[o + j * 2 + 1]? = some (ev es[j].2) := by
  obtain ⟨cur, h1, h2, h3⟩ := hg.cells
  obtain ⟨cur', h1', h4⟩ := leafKey hg
  rw [h1] at h1'; cases h1'
  refine ⟨cur, h1, fun j hj => ⟨h4 j hj, ?_⟩⟩
  rw [Nat.add_assoc, h3 _ (by rw [ents_len]; omega), ents_get hj (by decide)]; rfl
theorem elCells {ps : List (Tr × Value)} (hg : Sg w 269 2 g o ps.length c (els h ps)) : ∃ cur, w.heap[g]? = some (.cells cur 269 (0, 0)) ∧ ∀ j (hj : j < ps.length), cur[o + j * 2]? = some (((fstK h ps[j].1).map ek).getD zk) ∧ cur[o + j * 2 + 1]? = some ps[j].2 := by
  obtain ⟨cur, h1, h2, h3⟩ := hg.cells
  refine ⟨cur, h1, fun j hj => ⟨?_, ?_⟩⟩
  · rw [h3 _ (by rw [els_len]; omega)]
    have := els_get (h := h) (r := 0) hj (by decide)
    rw [Nat.add_zero] at this
    rw [this]; rfl
  · rw [Nat.add_assoc, h3 _ (by rw [els_len]; omega), els_get hj (by decide)]; rfl
theorem ne_neg (a b : Ky) : (!decide (Bt.cmp lt a b = -1)) = !lt a b := by
  by_cases h : lt a b = true
  · rw [h, cmp_neg.2 h]; rfl
  · have h' : lt a b = false := by simpa using h
    rw [h', decide_eq_false fun e => h (cmp_neg.1 e)]
theorem eq_one (hl : Lin lt) (a b : Ky) : decide (Bt.cmp lt a b = 1) = lt b a := by
  by_cases h : lt b a = true
  · rw [h, (cmp_one hl).2 h]; rfl
  · have h' : lt b a = false := by simpa using h
    rw [h']; exact decide_eq_false fun e => h ((cmp_one hl).1 e)
theorem leafIdx_ok (hC : IsC cv lt) (hs : Sd lt es) (hn : es.length ≤ 33) (hb : w.heap[b]? = some (.cells #[.slice (some ⟨g, o, none⟩) es.length c] 206 (0, 0))) (hg : Sg w 203 2 g o es.length c (ents es))
    (hK : ∀ w', Frm (fun _ => False) w w' → K (.int .i64 (place lt es k)) w') : Calls Tryz.prog 235 #[ptr b, ek k, cv] w (ret K Kp) := by
  obtain ⟨ct, cp, rfl⟩ := hC.iface
  refine vc235_calls ?_
  delta vc235
  refine op_box_ok fun w1 k1 z1 b1 => op_box_ok fun w2 k2 z2 b2 => op_box_ok fun w3 k3 z3 b3 => ?_
  have f3 := Frm.no k1 (Frm.no k2 k3)
  have hb3 := f3.get hb fun h => h
  have hg3 := hg.still f3
  rw [cells_of_one (by rfl)] at b1 b2 b3
  have c1 := k3.get (k2.get b1 fun h => h) fun h => h
  have c2 := k3.get b2 fun h => h
  simp [-getElem?_pos, -Array.getElem?_eq_getElem, -Int.natCast_add, ptr, c1, hb3]
  refine search_ok (p := atLeaf lt es k) (by kernel_rfl) (by omega) (leaf_mono hC.lin hs k) (fun i w4 K Kp hi f4 hK4 => ?_) fun w4 f4 => ?_
  · have d1 := f4.get c1 fun h => h
    have d2 := f4.get c2 fun h => h
    have d3 := f4.get b3 fun h => h
    have hb4 := f4.get hb3 fun h => h
    obtain ⟨cur, hcur, hk⟩ := leafKey (hg3.still f4)
    have hki := hk i hi
    rw [show (#[] ++ #[Value.int .i64 i] ++ #[.pointer (some ⟨w2.heap.size, 0, none⟩), .pointer (some ⟨w.heap.size, 0, none⟩), .pointer (some ⟨w1.heap.size, 0, none⟩)] : Array Value) = #[.int .i64 i, .pointer (some ⟨w2.heap.size, 0, none⟩), .pointer (some ⟨w.heap.size, 0, none⟩), .pointer (some ⟨w1.heap.size, 0, none⟩)] from rfl]
    refine vc242_calls ?_
    delta vc242
    simp [-getElem?_pos, -Array.getElem?_eq_getElem, -Int.natCast_add, ptr, d1, d2, d3, hb4, hcur, hki, hC.nilC]
    refine ⟨hi, hC.cmp fun w5 f5 => ?_⟩
    have := hK4 w5 (Frm.dr f5)
    simp only [atLeaf, List.getElem?_eq_getElem hi] at this
    simp [-getElem?_pos, -Array.getElem?_eq_getElem, -Int.natCast_add, ne_neg]
    exact this
  · rw [leaf_first]
    exact hK w4 (Frm.no f3 f4)
theorem brIdx_ok {ks : List Tr} {ps : List (Tr × Value)} (hC : IsC cv lt) (hw : WF (h + 1) (.br ks)) (hs : Sd lt (toL (h + 1) (.br ks))) (hps : ks = ps.map (·.1)) (hb : w.heap[b]? = some (.cells #[.slice (some ⟨g, o, none⟩) ps.length c] 267 (0, 0))) (hg : Sg w 269 2 g o ps.length c (els h ps))
    (hK : ∀ w', Frm (fun _ => False) w w' → K (.int .i64 (kid lt h ks k)) w') : Calls Tryz.prog 253 #[ptr b, ek k, cv] w (ret K Kp) := by
  obtain ⟨n1, n2, n3⟩ : ks ≠ [] ∧ ks.length ≤ 32 ∧ ∀ t ∈ ks, WF h t := hw
  have hl : ps.length = ks.length := by rw [hps, List.length_map]
  obtain ⟨ct, cp, rfl⟩ := hC.iface
  refine vc253_calls ?_
  delta vc253
  refine op_box_ok fun w1 k1 z1 b1 => op_box_ok fun w2 k2 z2 b2 => op_box_ok fun w3 k3 z3 b3 => ?_
  rw [cells_of_one (by rfl)] at b1 b2 b3
  have c1 := k3.get (k2.get b1 fun h => h) fun h => h
  have c2 := k3.get b2 fun h => h
  have f3 := Frm.no k1 (Frm.no k2 k3)
  have hb3 := f3.get hb fun h => h
  have hg3 := hg.still f3
  simp [-getElem?_pos, -Array.getElem?_eq_getElem, -Int.natCast_add, ptr, c1, hb3]
  refine search_ok (p := atBr lt h ks k) (by kernel_rfl) (by omega) (by rw [hl]; exact br_mono hC.lin ⟨n1, n2, n3⟩ hs k) (fun i w4 K Kp hi f4 hK4 => ?_) fun w4 f4 => ?_
  · have d1 := f4.get c1 fun h => h
    have d2 := f4.get c2 fun h => h
    have d3 := f4.get b3 fun h => h
    have hb4 := f4.get hb3 fun h => h
    obtain ⟨cur, hcur, hk⟩ := elCells (hg3.still f4)
    have hki := (hk i hi).1
    have hki' : ks[i]? = some ps[i].1 := by rw [hps, List.getElem?_map, List.getElem?_eq_getElem hi]; rfl
    obtain ⟨e, _, _, he⟩ := fst_some (n3 ps[i].1 (List.mem_of_getElem? hki'))
    rw [he] at hki
    simp only [Option.map_some, Option.getD_some] at hki
    rw [show (#[] ++ #[Value.int .i64 i] ++ #[.pointer (some ⟨w2.heap.size, 0, none⟩), .pointer (some ⟨w.heap.size, 0, none⟩), .pointer (some ⟨w1.heap.size, 0, none⟩)] : Array Value) = #[.int .i64 i, .pointer (some ⟨w2.heap.size, 0, none⟩), .pointer (some ⟨w.heap.size, 0, none⟩), .pointer (some ⟨w1.heap.size, 0, none⟩)] from rfl]
    refine vc256_calls ?_
    delta vc256
    simp [-getElem?_pos, -Array.getElem?_eq_getElem, -Int.natCast_add, ptr, d1, d2, d3, hb4, hcur, hki, hC.nilC]
    refine ⟨hi, hC.cmp fun w5 f5 => ?_⟩
    have := hK4 w5 (Frm.dr f5)
    simp only [atBr, hki', he] at this
    simp [-getElem?_pos, -Array.getElem?_eq_getElem, -Int.natCast_add, eq_one hC.lin]
    exact this
  · have hkk := br_first (lt := lt) h ks k
    rw [← hl] at hkk
    have := hK w4 (Frm.no f3 f4)
    rw [← hkk] at this
    have hfl : firstOf (atBr lt h ks k) ps.length ≤ ps.length := by unfold firstOf; have := List.findIdx_le_length (p := atBr lt h ks k) (xs := List.range ps.length); simpa using this
    generalize firstOf (atBr lt h ks k) ps.length = q at *
    simp only [op_gtr, Br_dec, op_sub]
    refine ⟨fun h0 => ?_, fun h0 => ?_⟩
    · rw [show IntKind.i64.wrap ((q : Int) - 1) = ((q - 1 : Nat) : Int) from by rw [IntKind.wrap_i64]; omega]
      exact this
    · rw [show q - 1 = 0 from by omega] at this
      exact this
end Go.Proofs.YtodjijfblgnfmaaGreatDoor.T
end
section
namespace Go.Proofs.YtodjijfblgnfmaaGreatDoor.T
open Go.Vc Go.Proofs Go.Proofs.YtodjijfblgnfmaaGreatDoor Go.Vc.Bt
variable {w w' : World} {v cv : Value} {t : Tr} {K : KV} {Kp : KP} {lt : Ky → Ky → Bool} {k : Ky} {x : Vl} {b g o c : Nat} {es : List (Ky × Vl)}
theorem minKey_ok : ∀ {h : Nat} {t : Tr} {v : Value} {w : World} {K : KV} {Kp : KP}, Rep w h t v → WF h t → (∀ w' m, Frm (fun _ => False) w w' → fstK h t = some m → K (ek m) w') → nP.call (.inv v "pub-bracken/pub/immutable.minKey") [] w K Kp
  | 0, t, v, w, K, Kp, hr, hw, hK => by
    obtain ⟨es, rfl, h1, h2⟩ := wf_zero.1 hw
    obtain ⟨b, g, o, c, rfl, hb, hg⟩ := hr
    simp only [inv_200_236]
    refine vc236_calls ?_
    delta vc236
    obtain ⟨cur, hcur, hk⟩ := leafKey hg
    have h0 : 0 < es.length := List.length_pos_iff.2 h1
    have hk0 := hk 0 h0
    rw [Nat.zero_mul, Nat.add_zero] at hk0
    simp [-getElem?_pos, -Array.getElem?_eq_getElem, -Int.natCast_add, ptr, hb, hcur, hk0]
    refine ⟨h0, hK _ _ Frm.refl ?_⟩
    rw [fstK, toL_zero, List.head?_eq_getElem?, List.getElem?_eq_getElem h0]; rfl
  | h + 1, t, v, w, K, Kp, hr, hw, hK => by
    obtain ⟨ks, rfl, h1, h2, h3⟩ := wf_succ.1 hw
    obtain ⟨b, g, o, c, ps, rfl, hb, hps, hg, hc⟩ := hr
    have hl : ps.length = ks.length := by rw [hps, List.length_map]
    rw [← hl] at hb hg
    simp only [inv_262_254]
    refine vc254_calls ?_
    delta vc254
    obtain ⟨cur, hcur, hk⟩ := elCells hg
    have h0 : 0 < ps.length := by rw [hl]; exact List.length_pos_iff.2 h1
    have hk0 := (hk 0 h0).2
    rw [Nat.zero_mul, Nat.add_zero] at hk0
    have hm0 : ps[0].1 ∈ ks := by rw [hps]; exact List.mem_map.2 ⟨_, List.getElem_mem h0, rfl⟩
    simp [-getElem?_pos, -Array.getElem?_eq_getElem, -Int.natCast_add, ptr, hb, hcur, hk0]
    refine ⟨h0, minKey_ok (hc _ (List.getElem_mem h0)) (h3 _ hm0) fun w' m hf he => hK w' m hf ?_⟩
    obtain ⟨e, e1, e2, e3⟩ := fst_some (h3 _ hm0)
    rw [e3] at he
    match ps, h0, hps with
    | p :: ps, _, hps =>
      subst hps
      simp only [List.getElem_cons_zero] at e1
      rw [← he, fstK, toL_succ, List.map_cons, List.flatMap_cons, List.head?_append, e1]; rfl
/-! ### get -/
def gotV (o : Option Vl) : Value := match o with
  | some x => .tuple #[ev x, .bool true]
  | none => .tuple #[zv, .bool false]
theorem get_ok (hC : IsC cv lt) : ∀ {h : Nat} {t : Tr} {v : Value} {w : World} {K : KV} {Kp : KP}, Rep w h t v → WF h t → Sd lt (toL h t) → (∀ w', Frm (fun _ => False) w w' → K (gotV (getT lt h t k)) w') → nP.call (.inv v "pub-bracken/pub/immutable.get") [ek k, cv] w K Kp
  | 0, t, v, w, K, Kp, hr, hw, hs, hK => by
    obtain ⟨es, rfl, h1, h2⟩ := wf_zero.1 hw
    obtain ⟨b, g, o, c, rfl, hb, hg⟩ := hr
    rw [toL_zero] at hs
    simp only [inv_200_234]
    refine vc234_calls ?_
    simp only [vc234, call_235]
    refine leafIdx_ok hC hs (by omega) hb hg fun w1 f1 => ?_
    have hb1 := f1.get hb fun h => h
    have hp := place_le (lt := lt) es k
    simp [-getElem?_pos, -Array.getElem?_eq_getElem, -Int.natCast_add, ptr, hb1]
    refine ⟨fun he => ?_, fun hne => ?_⟩
    · have := hK w1.drew (Frm.no f1 (Frm.drew _))
      have hn : got lt es k = none := by
        unfold got has
        rw [List.getElem?_eq_none (by omega)]; rfl
      rw [getT, hn] at this
      exact this
    · have hlt : place lt es k < es.length := by omega
      obtain ⟨cur, hcur, hk⟩ := leafVal (hg.still f1)
      have hki := hk _ hlt
      simp [-getElem?_pos, -Array.getElem?_eq_getElem, -Int.natCast_add, hcur, hki, hC.nilC]
      refine ⟨hlt, hC.cmp fun w2 f2 => ?_⟩
      have := hK w2 (Frm.no f1 (Frm.dr f2))
      have hb2 := (Frm.dr f2).get hb1 fun h => h
      obtain ⟨cur2, hcur2, hk2⟩ := leafVal ((hg.still f1).still (Frm.dr f2))
      have hki2 := hk2 _ hlt
      have hz : Bt.cmp lt es[place lt es k].1 k = 0 ↔ es[place lt es k].1 = k := cmp_zero hC.lin
      simp only [getT, got, has, List.getElem?_eq_getElem hlt, Option.map_some] at this
      by_cases e : es[place lt es k].1 = k
      · rw [if_pos (by simpa using e)] at this
        simp [-getElem?_pos, -Array.getElem?_eq_getElem, -Int.natCast_add, hz.2 e, hb2, hcur2, hki2]
        exact ⟨hlt, this⟩
      · rw [if_neg (by simpa using e)] at this
        have he : ¬ Bt.cmp lt es[place lt es k].1 k = 0 := fun h => e (hz.1 h)
        simp [-getElem?_pos, -Array.getElem?_eq_getElem, -Int.natCast_add, he]
        exact this
  | h + 1, t, v, w, K, Kp, hr, hw, hs, hK => by
    obtain ⟨ks, rfl, h1, h2, h3⟩ := wf_succ.1 hw
    obtain ⟨b, g, o, c, ps, rfl, hb, hps, hg, hc⟩ := hr
    have hl : ps.length = ks.length := by rw [hps, List.length_map]
    rw [← hl] at hb hg
    simp only [inv_262_252]
    refine vc252_calls ?_
    simp only [vc252, call_253]
    refine brIdx_ok hC hw hs hps hb hg fun w1 f1 => ?_
    have hb1 := f1.get hb fun h => h
    have hi := kid_lt (lt := lt) (h := h) (k := k) h1
    have hsp := toL_split (h := h) hi
    obtain ⟨cur, hcur, hk⟩ := elCells (hg.still f1)
    rw [getT, List.getElem?_eq_getElem hi, Option.bind_some] at hK
    generalize kid lt h ks k = i at *
    have hki := (hk i (by omega)).2
    have hs2 : Sd lt (toL h ks[i]) := by
      rw [hsp] at hs
      exact (List.pairwise_append.1 (List.pairwise_append.1 hs).2.1).1
    have hpi : (ps[i]'(by omega)).1 = ks[i] := by simp [hps]
    have hr' := (hc _ (List.getElem_mem (show i < ps.length by omega))).still f1
    rw [hpi] at hr'
    simp [-getElem?_pos, -Array.getElem?_eq_getElem, -Int.natCast_add, ptr, hb1, hcur, hki]
    refine ⟨by omega, get_ok hC hr' (h3 _ (List.getElem_mem hi)) hs2 fun w2 f2 => ?_⟩
    have := hK w2 (Frm.no f1 f2)
    cases hgg : getT lt h ks[i] k with
    | none =>
      rw [hgg] at this
      simp [-getElem?_pos, -Array.getElem?_eq_getElem, -Int.natCast_add, gotV]
      exact this
    | some y =>
      rw [hgg] at this
      simp [-getElem?_pos, -Array.getElem?_eq_getElem, -Int.natCast_add, gotV]
      exact this
end Go.Proofs.YtodjijfblgnfmaaGreatDoor.T
end
section
namespace Go.Proofs.YtodjijfblgnfmaaGreatDoor.T
open Go.Vc Go.Proofs Go.Proofs.YtodjijfblgnfmaaGreatDoor Go.Vc.Bt
variable {w w' : World} {v : Value} {t : Tr} {K : KV} {Kp : KP} {rb : Nat} {b g o c h : Nat} {es : List (Ky × Vl)}
def flag (w : World) (rb : Nat) (b : Bool) : Prop := w.heap[rb]? = some (.cells #[.bool b] 4 (0, 0))
theorem flag.frame {M : Nat → Prop} {b : Bool} (h : flag w rb b) (hf : Frm M w w') (hM : ¬ M rb) : flag w' rb b := hf.get h hM
theorem raise_ok {b : Bool} (h : flag w rb b) (hK : ∀ w', Frm (· = rb) w w' → w'.heap.size = w.heap.size → flag w' rb true → K undef w') : nP.op (.store 4 (.pointer (some ⟨rb, 0, none⟩)) (.bool true)) w K Kp :=
  op_store_ok (by kernel_rfl) h (by simp) rfl fun w' hf hs hb => hK w' hf hs (by simpa [flag] using hb)
theorem flag.below {b : Bool} (h : flag w rb b) : rb < w.heap.size := lt_of_get h
theorem flag.typed {b : Bool} {cs : Array Value} {e : TypeId} {fz : Nat × Nat} {q : Nat} (h : flag w rb b) (hq : w.heap[q]? = some (.cells cs e fz)) (he : e ≠ 4) : q ≠ rb := fun e' => by
  subst e'
  unfold flag at h
  rw [h] at hq
  cases hq
  exact he rfl
theorem Sg.past {b : Bool} {e : TypeId} {s g o n c : Nat} {xs : List Value} (h : Sg w e s g o n c xs) (hfl : flag w rb b) (he : e ≠ 4) (hf : Frm (· = rb) w w') : Sg w' e s g o n c xs := by
  obtain ⟨cs, h1, h2⟩ := id h
  exact h.frame hf (hfl.typed h1 he)
theorem Rep.past {b : Bool} : ∀ {h : Nat} {t : Tr} {v : Value}, Rep w h t v → flag w rb b → Frm (· = rb) w w' → Rep w' h t v
  | 0, .leaf es, v, hr, hfl, hf => by
    obtain ⟨b, g, o, c, h1, h2, h3⟩ := hr
    exact ⟨b, g, o, c, h1, hf.get h2 (hfl.typed h2 (by decide)), Sg.past h3 hfl (by decide) hf⟩
  | h + 1, .br ks, v, hr, hfl, hf => by
    obtain ⟨b, g, o, c, ps, h1, h2, h3, h4, h5⟩ := hr
    exact ⟨b, g, o, c, ps, h1, hf.get h2 (hfl.typed h2 (by decide)), h3, Sg.past h4 hfl (by decide) hf, fun p hp => (h5 p hp).past hfl hf⟩
  | 0, .br ks, v, hr, hfl, hf => hr.elim
  | h + 1, .leaf es, v, hr, hfl, hf => hr.elim
def Reps (w : World) (h : Nat) : List Tr → List Value → Prop
  | [], [] => True
  | t :: ts, v :: vs => Rep w h t v ∧ Reps w h ts vs
  | _, _ => False
def two : List Value → Value
  | [a] => .tuple #[a, .nilIface]
  | [a, b] => .tuple #[a, b]
  | _ => .nilIface
theorem apE : apOf Tryz.prog 204 = some (203, 2, 24) := by kernel_rfl
theorem ents_take (es : List (Ky × Vl)) (i : Nat) : ents (es.take i) = (ents es).take (i * 2) := fm_take ent_len es i
theorem ents_drop (es : List (Ky × Vl)) (i : Nat) : ents (es.drop i) = (ents es).drop (i * 2) := fm_drop ent_len es i
theorem split_one {α : Type} {l : List α} (h : l.length ≤ 32) : split l = [l] := by unfold Bt.split; rw [if_neg (by omega)]
theorem split_two {α : Type} {l : List α} (h : l.length = 33) : split l = [l.take 16, l.drop 16] := by unfold Bt.split; rw [if_pos (by omega), h]
@[simp] theorem op_ent (a : Ky) (c : Vl) {w : World} {K : KV} {Kp : KP} : nP.op (.build 203 [(0, ek a), (1, ev c)]) w K Kp = K (.agg #[ek a, ev c]) w := op_build_203_0_1 (one_ek a) (one_ev c)
end Go.Proofs.YtodjijfblgnfmaaGreatDoor.T
end
section
namespace Go.Proofs.YtodjijfblgnfmaaGreatDoor.T
open Go.Vc Go.Proofs Go.Proofs.YtodjijfblgnfmaaGreatDoor Go.Vc.Bt
variable {w w' : World} {v : Value} {t : Tr} {K : KV} {Kp : KP} {b g o c h : Nat} {ks : List Tr}
theorem apX : apOf Tryz.prog 265 = some (269, 2, 32) := by kernel_rfl
theorem Rep.iface : ∀ {h : Nat} {t : Tr} {v : Value}, Rep w h t v → ∃ u p, v = .iface u p
  | 0, .leaf es, v, ⟨b, g, o, c, h1, h2⟩ => ⟨_, _, h1⟩
  | h + 1, .br ks, v, ⟨b, g, o, c, ps, h1, h2⟩ => ⟨_, _, h1⟩
  | 0, .br ks, v, hr => hr.elim
  | h + 1, .leaf es, v, hr => hr.elim
theorem els_one {ps : List (Tr × Value)} (hp : ∀ p ∈ ps, Rep w h p.1 p.2) : ∀ u ∈ els h ps, u.oneCell' = true := fun u hu => by
  obtain ⟨p, hp', he⟩ := List.mem_flatMap.1 hu
  simp only [el, List.mem_cons, List.not_mem_nil, or_false] at he
  rcases he with rfl | rfl
  · cases fstK h p.1 with
    | none => rfl
    | some m => rfl
  · obtain ⟨a, q, hq⟩ := (hp p hp').iface
    rw [hq]; rfl
theorem el_of {s : Tr} {n : Value} {m : Ky} (h1 : fstK h s = some m) : el h (s, n) = [ek m, n] := by unfold el; rw [h1]; rfl
theorem els_take (ps : List (Tr × Value)) (i : Nat) : els h (ps.take i) = (els h ps).take (i * 2) := fm_take (el_len h) ps i
theorem els_drop (ps : List (Tr × Value)) (i : Nat) : els h (ps.drop i) = (els h ps).drop (i * 2) := fm_drop (el_len h) ps i
theorem op_storeX {m : Ky} {n : Value} {o cap : Nat} {zs : List Value} (hn : n.oneCell' = true) (hr : Rw w 269 2 g cap zs) (ho : o + 2 ≤ zs.length) (hK : ∀ w', Frm (· = g) w w' → w'.heap.size = w.heap.size → Rw w' 269 2 g cap (lw zs o [ek m, n]) → K undef w') : nP.op (.store 269 (.pointer (some ⟨g, o, none⟩)) (.agg #[ek m, n])) w K Kp :=
  op_storeRN (n := 2) (by kernel_rfl) rfl hr ho (fun u hu => by simp only [List.mem_toArray, List.mem_cons, List.not_mem_nil, or_false] at hu; rcases hu with rfl | rfl; rfl; exact hn) hK
@[simp] theorem op_elB {m : Ky} {u : TypeId} {p : Value} {w : World} {K : KV} {Kp : KP} : nP.op (.build 269 [(0, ek m), (1, .iface u p)]) w K Kp = K (.agg #[ek m, .iface u p]) w := op_build_269_0_1 (one_ek m) rfl
@[simp] theorem pur_elB {m : Ky} {u : TypeId} {p : Value} {K1 : Value → Prop} : nP.pur (.build 269 [(0, ek m), (1, .iface u p)]) K1 = K1 (.agg #[ek m, .iface u p]) := pur_build_269_0_1 (one_ek m) rfl
theorem Reps.one {l : List Tr} {ns : List Value} (hr : Reps w h l ns) (hl : l.length = 1) : ∃ s n, l = [s] ∧ ns = [n] ∧ Rep w h s n := by
  match l, ns, hr, hl with
  | [s], [n], hr, _ => exact ⟨s, n, rfl, rfl, hr.1⟩
theorem Reps.pair {l : List Tr} {ns : List Value} (hr : Reps w h l ns) (hl : l.length = 2) : ∃ s n s2 n2, l = [s, s2] ∧ ns = [n, n2] ∧ Rep w h s n ∧ Rep w h s2 n2 := by
  match l, ns, hr, hl with
  | [s, s2], [n, n2], hr, _ => exact ⟨s, n, s2, n2, rfl, rfl, hr.1, hr.2.1⟩
end Go.Proofs.YtodjijfblgnfmaaGreatDoor.T
end
section
namespace Go.Proofs.YtodjijfblgnfmaaGreatDoor.T
open Go.Vc Go.Proofs Go.Proofs.YtodjijfblgnfmaaGreatDoor Go.Vc.Bt

end Go.Proofs.YtodjijfblgnfmaaGreatDoor.T
end
section
namespace Go.Proofs.YtodjijfblgnfmaaGreatDoor.T
open Go.Vc Go.Proofs Go.Proofs.YtodjijfblgnfmaaGreatDoor Go.Vc.Bt

end Go.Proofs.YtodjijfblgnfmaaGreatDoor.T
end
section
namespace Go.Proofs.YtodjijfblgnfmaaGreatDoor.T
open Go.Vc Go.Proofs Go.Proofs.YtodjijfblgnfmaaGreatDoor Go.Vc.Bt
variable {w w' : World} {v cv : Value} {t : Tr} {K : KV} {Kp : KP} {lt : Ky → Ky → Bool} {k : Ky} {n : Nat} {b h : Nat} {r : Root Ky Vl}
def RepR (w : World) : Root Ky Vl → Value → Prop
  | none, v => v = .nilIface
  | some (h, t), v => Rep w h t v
theorem RepR.still (h : RepR w r v) (hf : Frm (fun _ => False) w w') : RepR w' r v := by
  match r, h with
  | none, h => exact h
  | some (h, t), hr => exact Rep.still hr hf
theorem RepR.one (h : RepR w r v) : v.oneCell' = true := by
  match r, h with
  | none, h => rw [show v = .nilIface from h]; rfl
  | some (h, t), hr => obtain ⟨u, p, rfl⟩ := Rep.iface hr; rfl
def Dflt (lt : Ky → Ky → Bool) : Prop := ∀ {k : Ky} {w : World} {K : KV} {Kp : KP}, (∀ w' cv, Frm (fun _ => False) w w' → IsC cv lt → K cv w') → Calls Tryz.prog 183 #[ek k] w (ret K Kp)
def CmpOk (cv : Value) (lt : Ky → Ky → Bool) (r : Root Ky Vl) : Prop := IsC cv lt ∨ cv = .nilIface ∧ Dflt lt ∧ r = none
theorem CmpOk.one (h : CmpOk cv lt r) : cv.oneCell' = true := by
  rcases h with h | h
  · obtain ⟨u, p, rfl⟩ := h.iface; rfl
  · rw [h.1]; rfl
def RepM (w : World) (b : Nat) (lt : Ky → Ky → Bool) (r : Root Ky Vl) : Prop := ∃ rv cv, w.heap[b]? = some (.cells #[.int .i64 (rL r).length, rv, cv] 190 (0, 0)) ∧ RepR w r rv ∧ CmpOk cv lt r
theorem RepM.still (h : RepM w b lt r) (hf : Frm (fun _ => False) w w') : RepM w' b lt r := by
  obtain ⟨rv, cv, h1, h2, h3⟩ := h
  exact ⟨rv, cv, hf.get h1 fun h => h, h2.still hf, h3⟩
theorem RepM.below (h : RepM w b lt r) : b < w.heap.size := by obtain ⟨rv, cv, h1, _⟩ := h; exact lt_of_get h1
theorem new_ok (hc : CmpOk cv lt none) (hK : ∀ w' b, Frm (fun _ => False) w w' → w.heap.size ≤ b → RepM w' b lt none → K (ptr b) w') : Calls Tryz.prog 64 #[cv] w (ret K Kp) := by
  refine vc64_calls ?_
  delta vc64
  rw [op_build_190_2 hc.one]
  refine op_box_ok fun w1 k1 z1 b1 => ?_
  simp only [cells_agg] at b1
  exact hK w1 _ k1 (Nat.le_refl _) ⟨.nilIface, cv, b1, rfl, hc⟩
theorem len_ok (hm : RepM w b lt r) (hK : K (.int .i64 (rL r).length) w) : Calls Tryz.prog 71 #[ptr b] w (ret K Kp) := by
  obtain ⟨rv, cv, h1, h2, h3⟩ := hm
  refine vc71_calls ?_
  delta vc71
  simp [-getElem?_pos, -Array.getElem?_eq_getElem, -Int.natCast_add, ptr, h1]
  exact hK
theorem mapGet_ok (hm : RepM w b lt r) (hok : Ok lt n r) (hK : ∀ w', Frm (fun _ => False) w w' → K (gotV (getR lt r k)) w') : Calls Tryz.prog 68 #[ptr b, ek k] w (ret K Kp) := by
  obtain ⟨rv, cv, h1, h2, h3⟩ := hm
  refine vc68_calls ?_
  delta vc68
  match r, h2, h3, hok with
  | none, h2, h3, _ =>
    obtain rfl : rv = .nilIface := h2
    simp [-getElem?_pos, -Array.getElem?_eq_getElem, -Int.natCast_add, ptr, h1]
    exact hK _ Frm.refl
  | some (h, t), h2, h3, hok =>
    have hC : IsC cv lt := h3.resolve_right fun h => nomatch h.2.2
    obtain ⟨o1, o2, o3, o4⟩ := hok
    have hr : Rep w h t rv := h2
    obtain ⟨u, p, rfl⟩ := hr.iface
    simp [-getElem?_pos, -Array.getElem?_eq_getElem, -Int.natCast_add, ptr, h1]
    refine get_ok hC (hr.still (Frm.drew _)) o1 o2 fun w2 f2 => ?_
    have := hK w2 (Frm.dr f2)
    rw [getR] at this
    cases hgg : getT lt h t k with
    | none =>
      rw [hgg] at this
      simp [-getElem?_pos, -Array.getElem?_eq_getElem, -Int.natCast_add, gotV]
      exact this
    | some y =>
      rw [hgg] at this
      simp [-getElem?_pos, -Array.getElem?_eq_getElem, -Int.natCast_add, gotV]
      exact this
end Go.Proofs.YtodjijfblgnfmaaGreatDoor.T
end
section
namespace Go.Proofs.YtodjijfblgnfmaaGreatDoor.T
open Go.Vc Go.Proofs Go.Proofs.YtodjijfblgnfmaaGreatDoor Go.Vc.Bt
variable {w w' : World} {v : Value} {t : Tr} {K : KV} {Kp : KP} {n : Nat} {b g o c h : Nat} {ks : List Tr} {r : Root Ky Vl}
def Off (w : World) (c : Nat) : Prop := ∃ cs e fz, w.heap[c]? = some (.cells cs e fz) ∧ e ≠ 206 ∧ e ≠ 203 ∧ e ≠ 267 ∧ e ≠ 269
theorem Rep.off {z : Nat} (ho : Off w z) (hf : Frm (· = z) w w') : ∀ {h : Nat} {t : Tr} {v : Value}, Rep w h t v → Rep w' h t v
  | 0, .leaf es, v, hr => by
    obtain ⟨b, g, o, c, h1, h2, h3⟩ := hr
    obtain ⟨cs, e, fz, q1, q2, q3, q4, q5⟩ := ho
    have n1 : b ≠ z := fun e' => by rw [e', q1] at h2; cases h2; exact q2 rfl
    obtain ⟨cs', p1, p2⟩ := id h3
    have n2 : g ≠ z := fun e' => by rw [e', q1] at p1; cases p1; exact q3 rfl
    exact ⟨b, g, o, c, h1, hf.get h2 n1, h3.frame hf n2⟩
  | h + 1, .br ks, v, hr => by
    obtain ⟨b, g, o, c, ps, h1, h2, h3, h4, h5⟩ := hr
    have hrec := fun p hp => Rep.off ho hf (h5 p hp)
    obtain ⟨cs, e, fz, q1, q2, q3, q4, q5⟩ := ho
    have n1 : b ≠ z := fun e' => by rw [e', q1] at h2; cases h2; exact q4 rfl
    obtain ⟨cs', p1, p2⟩ := id h4
    have n2 : g ≠ z := fun e' => by rw [e', q1] at p1; cases p1; exact q5 rfl
    exact ⟨b, g, o, c, ps, h1, hf.get h2 n1, h3, h4.frame hf n2, hrec⟩
  | 0, .br ks, v, hr => hr.elim
  | h + 1, .leaf es, v, hr => hr.elim
theorem RepR.off {c : Nat} (h : RepR w r v) (ho : Off w c) (hf : Frm (· = c) w w') : RepR w' r v := by
  match r, h with
  | none, h => exact h
  | some (h, t), hr => exact Rep.off ho hf hr
theorem newBr0_ok {q : Nat} {s s2 : Tr} {n1 n2 : Value} (hq : w.heap[q]? = some (.cells #[n1, n2] 188 (0, 0))) (h1 : Rep w h s n1) (h2 : Rep w h s2 n2) (hw1 : WF h s) (hw2 : WF h s2)
    (hK : ∀ w' b, Frm (fun _ => False) w w' → w.heap.size < b → w'.heap[b]? = some (.cells #[.slice (some ⟨w.heap.size, 0, none⟩) 2 2] 267 (0, 0)) → Sg w' 269 2 w.heap.size 0 2 2 (els h [(s, n1), (s2, n2)]) → K (ptr b) w') : Calls Tryz.prog 185 #[.slice (some ⟨q, 0, none⟩) 2 2] w (ret K Kp) := by
  refine vc185_calls ?_
  delta vc185
  simp [-getElem?_pos, -Array.getElem?_eq_getElem, -Int.natCast_add]
  refine op_make_ok (n := 2) apX rfl (by omega) fun w1 zs k1 z1 hz r1 => ?_
  obtain ⟨L, hL⟩ : ∃ L : List (Tr × Value), L = [(s, n1), (s2, n2)] := ⟨_, rfl⟩
  have hLn : L.length = 2 := by rw [hL]; rfl
  have hLq : ∀ j (hj : j < L.length), (#[n1, n2] : Array Value)[j]? = some L[j].2 := fun j hj => by
    subst hL
    have : j = 0 ∨ j = 1 := by simp at hj; omega
    rcases this with rfl | rfl <;> rfl
  have hLr : ∀ p ∈ L, Rep w h p.1 p.2 ∧ WF h p.1 := fun p hp => by
    subst hL
    simp only [List.mem_cons, List.not_mem_nil, or_false] at hp
    rcases hp with rfl | rfl
    · exact ⟨h1, hw1⟩
    · exact ⟨h2, hw2⟩
  obtain ⟨I, hI⟩ : ∃ I : KV, ∀ z wl, I z wl ↔ ∃ (j : Nat) (xs : List Value), z = .int .i64 j ∧ j ≤ 2 ∧ Frm (fun _ => False) w wl ∧ Rw wl 269 2 w.heap.size 2 xs ∧ xs.length = 4 ∧ xs.take (j * 2) = els h (L.take j) := ⟨_, fun _ _ => Iff.rfl⟩
  simp [-getElem?_pos, -Array.getElem?_eq_getElem, -Int.natCast_add]
  refine Lp.intro I (fun z _ => 2 - nOf z) ⟨(hI _ _).2 ⟨0, zs, rfl, by omega, k1, r1, by omega, rfl⟩, ?_⟩
  intro wl z hz'
  obtain ⟨j, xs, rfl, hj, hf, hr, hx, hxt⟩ := (hI _ _).1 hz'
  simp only [op_lss, Br_dec]
  refine ⟨fun hlt => ?_, fun hge => ?_⟩
  · have hjl : j < L.length := by omega
    have hql := hf.get hq fun h => h
    have hqj := hLq j hjl
    obtain ⟨hrj, hwj⟩ := hLr _ (List.getElem_mem hjl)
    obtain ⟨u, p, hup⟩ := hrj.iface
    rw [hup] at hqj
    simp [-getElem?_pos, -Array.getElem?_eq_getElem, -Int.natCast_add, hql, hqj]
    refine ⟨by omega, ?_⟩
    rw [hup] at hrj
    refine minKey_ok (hrj.still hf) hwj fun w2 m f2 hm => ?_
    try simp [-getElem?_pos, -Array.getElem?_eq_getElem, -Int.natCast_add]
    refine ⟨by omega, op_storeX rfl (hr.frame f2 fun h => h) (by omega) fun w3 k3 z3 r3 => ?_⟩
    try simp [-getElem?_pos, -Array.getElem?_eq_getElem, -Int.natCast_add]
    rw [show IntKind.i64.wrap ((j : Int) + 1) = ((j + 1 : Nat) : Int) from by rw [IntKind.wrap_i64]; omega]
    have hs := hf.size
    refine ⟨(hI _ _).2 ⟨j + 1, _, rfl, by omega, (hf.no f2).old k3 fun b hb => .inr (by omega), r3, by rw [lw_len (by simp; omega), hx], ?_⟩, by simp only [nOf_int]; omega⟩
    have e1 : els h (L.take (j + 1)) = els h (L.take j) ++ [ek m, .iface u p] := by
      rw [List.take_add_one, List.getElem?_eq_getElem hjl, Option.toList_some]
      unfold els
      rw [List.flatMap_append, List.flatMap_cons, List.flatMap_nil, List.append_nil, ← el_of hm, ← hup]
    rw [e1, ← hxt]
    unfold lw
    rw [List.take_append_of_le_length (by simp; omega), List.take_of_length_le (by simp; omega)]
  · obtain rfl : j = 2 := by omega
    have hxs : xs = els h L := by
      rw [List.take_of_length_le (by omega), List.take_of_length_le (by omega)] at hxt; exact hxt
    subst hxs
    try simp [-getElem?_pos, -Array.getElem?_eq_getElem, -Int.natCast_add]
    refine op_box_ok fun w2 k2 z2 b2 => ?_
    simp only [cells_agg] at b2
    have hsg := hr.sg (n := 2) (by rw [els_len, hLn]) (Nat.le_refl _)
    exact hK w2 _ (hf.no k2) hsg.lt b2 (by rw [← hL]; exact hsg.still k2)
end Go.Proofs.YtodjijfblgnfmaaGreatDoor.T
end
section
namespace Go.Proofs.YtodjijfblgnfmaaGreatDoor.T
open Go.Vc Go.Proofs Go.Proofs.YtodjijfblgnfmaaGreatDoor Go.Vc.Bt

end Go.Proofs.YtodjijfblgnfmaaGreatDoor.T
end
section
namespace Go.Proofs.YtodjijfblgnfmaaGreatDoor.T
open Go.Vc Go.Proofs Go.Proofs.YtodjijfblgnfmaaGreatDoor Go.Vc.Bt
variable {w w' : World} {K : KV} {Kp : KP} {kd : Nat} {n : Int}
theorem cmp_by1 {α : Type} {f : α → Int} {lt : α → α → Bool} (a b : α) : Bt.cmp (by1 f lt) a b = if f a = f b then Bt.cmp lt a b else Bt.cmp ltInt (f a) (f b) := by
  by_cases h : f a = f b
  · have e1 : by1 f lt a b = lt a b := by unfold by1; rw [if_pos h]
    have e2 : by1 f lt b a = lt b a := by unfold by1; rw [if_pos h.symm]
    unfold Bt.cmp; rw [e1, e2, if_pos h]
  · have e1 : by1 f lt a b = ltInt (f a) (f b) := by unfold by1; rw [if_neg h]; rfl
    have e2 : by1 f lt b a = ltInt (f b) (f a) := by unfold by1; rw [if_neg fun e => h e.symm]; rfl
    unfold Bt.cmp; rw [e1, e2, if_neg h]
theorem compared_ok {a b : Int} (hK : K (.int .i64 (Bt.cmp ltInt a b)) w) : Calls Tryz.prog 238 #[.int .i64 a, .int .i64 b] w (ret K Kp) := by
  refine vc238_calls ?_
  delta vc238
  simp only [op_lss, op_gtr, Br_dec]
  unfold Bt.cmp ltInt at hK
  refine ⟨fun h => ?_, fun h => ⟨fun h' => ?_, fun h' => ?_⟩⟩
  · rw [if_pos (decide_eq_true h)] at hK; exact hK
  · rw [if_neg (by simpa using h), if_pos (by simpa using h')] at hK; exact hK
  · rw [if_neg (by simpa using h), if_neg (by simpa using h')] at hK; exact hK
theorem cmpString_ok (a b : ByteArray) (w : World) : Calls Tryz.prog 243 #[.string a, .string b] w fun e w' => e = .returned (.int .i64 (Bt.cmp lessB a b)) ∧ w' = w := by
  rw [← compare_lessB]
  go_enter Tryz.func243, Tryz.ntmps243
  go_wp2
  rw [run_callFunc_extern Tryz.func244 (by kernel_rfl) (by kernel_rfl) (by kernel_rfl) (e := Extern.BytealgCompare.compare) (by kernel_rfl), Lib.run_compareString]
  simp only [Result.andThen]
  rw [Oper.upon_value]
  go_wp2
  go_ret
  exact ⟨rfl, rfl⟩
theorem compare_ok {a b : ByteArray} (hK : K (.int .i64 (Bt.cmp lessB a b)) w) : Calls Tryz.prog 239 #[.string a, .string b] w (ret K Kp) := by
  refine vc239_calls ?_
  delta vc239
  simp only [call_243]
  refine calls_of (cmpString_ok a b w) fun e w' h => ?_
  obtain ⟨rfl, rfl⟩ := h
  exact hK
def ordB (kd : Nat) : ByteArray → ByteArray → Bool := if kd = 2 then fun a b => lessB b a else if kd = 3 then by1 (fun s => (s.size : Int)) lessB else lessB
theorem ordB_lin : Lin (ordB kd) := by
  unfold ordB
  split
  · exact lin_lessB.flip
  · split
    · exact lin_lessB.by1 _
    · exact lin_lessB
def ordI (kd : Nat) (n : Int) (a b : Ky) : Bool := ordB kd a.1 b.1
theorem ordI_lin : Lin (ordI kd n) := ordB_lin.comap (f := fun a : Ky => a.1) fun a b h => Subtype.ext h
def cmpV (kd : Nat) (n : Int) : Value := .iface 134 (.agg #[.int .u8 kd, .int .i64 n])
theorem cmpV_ok (h1 : -9223372036854775808 ≤ n) (h2 : n ≤ 9223372036854775807) : IsC (cmpV kd n) (ordI kd n) where
  lin := ordI_lin
  cmp := fun {a b w K Kp} hK => by
    simp only [cmpV, inv_134_231]
    refine vc231_calls ?_
    simp only [vc231]
    refine op_box_ok fun w1 k1 z1 b1 => ?_
    simp only [cells_agg] at b1
    have hK1 : ∀ w', Frm (fun _ => False) w1 w' → K (.int .i64 (Bt.cmp (ordB kd) a.1 b.1)) w' := fun w' hf => hK w' (k1.no hf)
    unfold ordB at hK1
    by_cases e2 : kd = 2
    · subst e2
      rw [if_pos rfl] at hK1
      simp [-getElem?_pos, -Array.getElem?_eq_getElem, -Int.natCast_add, b1, ek]
      exact compare_ok (hK1 w1 Frm.refl)
    · rw [if_neg e2] at hK1
      have e2' : ¬ ((kd : Int) = 2) := by omega
      by_cases e3 : kd = 3
      · subst e3
        rw [if_pos rfl] at hK1
        have hd := hK1 w1 Frm.refl
        rw [cmp_by1] at hd
        simp [-getElem?_pos, -Array.getElem?_eq_getElem, -Int.natCast_add, b1, ek]
        refine ⟨fun h => ?_, fun h => ?_⟩
        · rw [if_neg (by omega)] at hd; exact compared_ok hd
        · rw [if_pos (by omega)] at hd; exact compare_ok hd
      · have e3' : ¬ ((kd : Int) = 3) := by omega
        rw [if_neg e3] at hK1
        simp [-getElem?_pos, -Array.getElem?_eq_getElem, -Int.natCast_add, b1, ek, e2', e3']
        exact compare_ok (hK1 w1 Frm.refl)
  nilC := by intro K1; simp [cmpV]
  iface := ⟨_, _, rfl⟩
end Go.Proofs.YtodjijfblgnfmaaGreatDoor.T
end
section
namespace Go.Proofs.YtodjijfblgnfmaaGreatDoor.T
open Go.Vc Go.Proofs Go.Proofs.YtodjijfblgnfmaaGreatDoor Go.Vc.Bt
variable {w w' : World} {K : KV} {Kp : KP}
theorem op_lss_s {t : TypeId} {xc yc : Bool} {a b : ByteArray} : nP.op (.bin .lss t xc yc (.string a) (.string b)) w K Kp = K (.bool (lessB a b)) w := op_of' (by simp [pv, binV, strV, lessB])
theorem op_gtr_s {t : TypeId} {xc yc : Bool} {a b : ByteArray} : nP.op (.bin .gtr t xc yc (.string a) (.string b)) w K Kp = K (.bool (lessB b a)) w := by
  have h : (!(lessB a b || decide (a = b))) = lessB b a := by
    cases h1 : lessB a b with
    | true => rw [lin_lessB.asym h1]; rfl
    | false =>
      cases h2 : lessB b a with
      | true =>
        have hne : ¬ a = b := fun e => by rw [e, lin_lessB.irr] at h2; cases h2
        simp [hne]
      | false => simp [lin_lessB.tri h1 h2]
  rw [← h]
  exact op_of' (by simp [pv, binV, strV, lessB])
theorem defCmp_ok {a b : ByteArray} (hK : K (.int .i64 (Bt.cmp lessB a b)) w) : Calls Tryz.prog 299 #[.string a, .string b] w (ret K Kp) := by
  refine vc299_calls ?_
  delta vc299
  simp only [op_lss_s, op_gtr_s, Br_bool]
  unfold Bt.cmp at hK
  refine ⟨fun h => ?_, fun h => ⟨fun h' => ?_, fun h' => ?_⟩⟩
  · rw [if_pos h] at hK; exact hK
  · rw [if_neg (by simp [h]), if_pos h'] at hK; exact hK
  · rw [if_neg (by simp [h]), if_neg (by simp [h'])] at hK; exact hK
def dfltV (p : Addr) : Value := .iface 341 (.pointer (some p))
theorem dfltV_ok (p : Addr) : IsC (dfltV p) (ordI 0 0) where
  lin := ordI_lin
  cmp := fun {a b w K Kp} hK => by
    simp only [dfltV, inv_341_287]
    refine vc287_calls ?_
    simp only [vc287]
    simp [-getElem?_pos, -Array.getElem?_eq_getElem, -Int.natCast_add, ek]
    exact defCmp_ok (hK w Frm.refl)
  nilC := by intro K1; simp [dfltV]
  iface := ⟨_, _, rfl⟩
private theorem mixed : Tryz.prog.follows .mixedOrders = true := by kernel_rfl
set_option maxHeartbeats 4000000 in
theorem newCmp_ok {k : Ky} (hK : ∀ p w', Frm (fun _ => False) w w' → K (dfltV p) w') : Calls Tryz.prog 183 #[ek k] w (ret K Kp) := by
  refine fVC_sound (args := [ek k]) (aL := []) (aJ := []) nice_le mixed Tryz.func183 (by kernel_rfl) ?_
  refine fVC_of (c := _) rfl ?_
  refine code_seq ?_
  refine code_region ?_
  refine ops_move rfl (.inr rfl) ?_
  refine ops_end ?_
  refine code_seq ?_
  refine code_seq ?_
  refine code_region ?_
  refine ops_move rfl (.inl rfl) ?_
  refine ops_op rfl rfl rfl ?_
  refine Eq.mpr (op_mki_9 (v := ek k)) ?_
  refine ops_end ?_
  refine code_block ?_
  refine code_seq ?_
  refine code_region ?_
  refine ops_op rfl rfl rfl ?_
  refine Eq.mpr (op_ta_20_3 (u := 9) (v := ek k)) ?_
  refine ite_no (by decide) ?_
  refine ops_op rfl rfl rfl ?_
  refine Eq.mpr op_ext2_1 ?_
  refine ops_op rfl rfl rfl ?_
  refine Eq.mpr op_ext2_0 ?_
  refine ops_op rfl rfl rfl ?_
  refine Eq.mpr (op_ta_20_337 (u := 9) (v := ek k)) ?_
  refine ite_no (by decide) ?_
  refine ops_op rfl rfl rfl ?_
  refine Eq.mpr op_ext2_1 ?_
  refine ops_op rfl rfl rfl ?_
  refine Eq.mpr op_ext2_0 ?_
  refine ops_op rfl rfl rfl ?_
  refine Eq.mpr (op_ta_20_338 (u := 9) (v := ek k)) ?_
  refine ite_no (by decide) ?_
  refine ops_op rfl rfl rfl ?_
  refine Eq.mpr op_ext2_1 ?_
  refine ops_op rfl rfl rfl ?_
  refine Eq.mpr op_ext2_0 ?_
  refine ops_op rfl rfl rfl ?_
  refine Eq.mpr (op_ta_20_21 (u := 9) (v := ek k)) ?_
  refine ite_no (by decide) ?_
  refine ops_op rfl rfl rfl ?_
  refine Eq.mpr op_ext2_1 ?_
  refine ops_op rfl rfl rfl ?_
  refine Eq.mpr op_ext2_0 ?_
  refine ops_op rfl rfl rfl ?_
  refine Eq.mpr (op_ta_20_2 (u := 9) (v := ek k)) ?_
  refine ite_no (by decide) ?_
  refine ops_op rfl rfl rfl ?_
  refine Eq.mpr op_ext2_1 ?_
  refine ops_op rfl rfl rfl ?_
  refine Eq.mpr op_ext2_0 ?_
  refine ops_op rfl rfl rfl ?_
  refine Eq.mpr (op_ta_20_339 (u := 9) (v := ek k)) ?_
  refine ite_no (by decide) ?_
  refine ops_op rfl rfl rfl ?_
  refine Eq.mpr op_ext2_1 ?_
  refine ops_op rfl rfl rfl ?_
  refine Eq.mpr op_ext2_0 ?_
  refine ops_op rfl rfl rfl ?_
  refine Eq.mpr (op_ta_20_5 (u := 9) (v := ek k)) ?_
  refine ite_no (by decide) ?_
  refine ops_op rfl rfl rfl ?_
  refine Eq.mpr op_ext2_1 ?_
  refine ops_op rfl rfl rfl ?_
  refine Eq.mpr op_ext2_0 ?_
  refine ops_op rfl rfl rfl ?_
  refine Eq.mpr (op_ta_20_43 (u := 9) (v := ek k)) ?_
  refine ite_no (by decide) ?_
  refine ops_op rfl rfl rfl ?_
  refine Eq.mpr op_ext2_1 ?_
  refine ops_op rfl rfl rfl ?_
  refine Eq.mpr op_ext2_0 ?_
  refine ops_op rfl rfl rfl ?_
  refine Eq.mpr (op_ta_20_340 (u := 9) (v := ek k)) ?_
  refine ite_no (by decide) ?_
  refine ops_op rfl rfl rfl ?_
  refine Eq.mpr op_ext2_1 ?_
  refine ops_op rfl rfl rfl ?_
  refine Eq.mpr op_ext2_0 ?_
  refine ops_op rfl rfl rfl ?_
  refine Eq.mpr (op_ta_20_227 (u := 9) (v := ek k)) ?_
  refine ite_no (by decide) ?_
  refine ops_op rfl rfl rfl ?_
  refine Eq.mpr op_ext2_1 ?_
  refine ops_op rfl rfl rfl ?_
  refine Eq.mpr op_ext2_0 ?_
  refine ops_op rfl rfl rfl ?_
  refine Eq.mpr (op_ta_20_12 (u := 9) (v := ek k)) ?_
  refine ite_no (by decide) ?_
  refine ops_op rfl rfl rfl ?_
  refine Eq.mpr op_ext2_1 ?_
  refine ops_op rfl rfl rfl ?_
  refine Eq.mpr op_ext2_0 ?_
  refine ops_op rfl rfl rfl ?_
  refine Eq.mpr (op_ta_20_9 (u := 9) (v := ek k)) ?_
  refine ite_yes rfl ?_
  refine ops_op rfl rfl rfl ?_
  refine Eq.mpr op_ext2_1 ?_
  refine ops_op rfl rfl rfl ?_
  refine Eq.mpr op_ext2_0 ?_
  refine ops_pick (b := false) rfl rfl rfl rfl ?_
  refine ops_pick (b := false) rfl rfl rfl rfl ?_
  refine ops_pick (b := false) rfl rfl rfl rfl ?_
  refine ops_pick (b := false) rfl rfl rfl rfl ?_
  refine ops_pick (b := false) rfl rfl rfl rfl ?_
  refine ops_pick (b := false) rfl rfl rfl rfl ?_
  refine ops_pick (b := false) rfl rfl rfl rfl ?_
  refine ops_pick (b := false) rfl rfl rfl rfl ?_
  refine ops_pick (b := false) rfl rfl rfl rfl ?_
  refine ops_pick (b := false) rfl rfl rfl rfl ?_
  refine ops_pick (b := false) rfl rfl rfl rfl ?_
  refine ops_end ?_
  refine code_cond (t := true) rfl (.inl rfl) ?_
  refine code_seq ?_
  refine code_region ?_
  refine ops_op rfl rfl rfl ?_
  refine Eq.mpr (op_build (v := .agg #[]) (by kernel_rfl)) ?_
  refine ops_op rfl rfl rfl ?_
  refine op_box_ok fun w1 k1 z1 b1 => ?_
  refine ops_op rfl rfl rfl ?_
  refine Eq.mpr (op_mki_341 (v := ptr w.heap.size)) ?_
  refine ops_move rfl (.inr rfl) ?_
  refine ops_end ?_
  refine code_ret ?_
  exact hK _ w1 k1
theorem dflt_ok : Dflt (ordI 0 0) := fun hK => newCmp_ok fun p w' hf => hK w' _ hf (dfltV_ok p)
end Go.Proofs.YtodjijfblgnfmaaGreatDoor.T
end
section
namespace Go.Proofs.YtodjijfblgnfmaaGreatDoor
open Go.Vc Go.Proofs
variable {S : Sig} {a0 a1 a2 a3 a4 a5 a6 a7 a8 a9 : Value} {w : World} {K : KV} {Kp : KP}
private theorem follows_BVcJT : Tryz.prog.follows .mixedOrders = true := by kernel_rfl
def vc129 (S : Sig) (a0 : Value) (w : World) (K : KV) (Kp : KP) : Prop :=
 S.op (.nilCheck a0) w (fun v3 w =>
 S.op (.fieldAddr 198 v3 0) w (fun v4 w =>
 S.op (.load 118 v4) w (fun v5 w =>
 S.op (.nilCheck v5) w (fun v6 w =>
 S.op (.fieldAddr 190 v6 1) w (fun v7 w =>
 S.op (.load 188 v7) w (fun v8 w =>
 S.op (.bin .eql 188 false true v8 .nilIface) w (fun v9 w =>
 Br v9 (
 S.op (.nilCheck a0) w (fun v11 w =>
 S.op (.fieldAddr 198 v11 2) w (fun v12 w =>
 S.op (.store 3 v12 (.int .i64 (-1))) w (fun _ w =>
 K (.tuple #[]) w) Kp) Kp) Kp) (
 S.pur (.nilCheck a0) (fun v15 =>
 S.pur (.fieldAddr 198 v15 0) (fun v16 =>
 S.ld (.load 118 v16) w.drew (fun v17 =>
 S.pur (.nilCheck v17) (fun v18 =>
 S.pur (.fieldAddr 190 v18 1) (fun v19 =>
 S.ld (.load 188 v19) w.drew (fun v20 =>
 S.pur (.build 195 [(0, v20)]) (fun v21 =>
 S.pur (.nilCheck a0) (fun v22 =>
 S.pur (.fieldAddr 198 v22 1) (fun v23 =>
 S.pur (.indexAddr 196 v23 (.int .i64 0)) (fun v24 =>
 S.op (.store 195 v24 v21) w.drew (fun _ w =>
 S.op (.nilCheck a0) w (fun v26 w =>
 S.op (.fieldAddr 198 v26 2) w (fun v27 w =>
 S.op (.store 3 v27 (.int .i64 0)) w (fun _ w =>
 S.call (.fn 173) [a0] w (fun v29 w =>
 K (.tuple #[]) w) Kp) Kp) Kp) Kp) Kp)))))))))))) Kp) Kp) Kp) Kp) Kp) Kp) Kp
theorem vc129_eq : vc129 S a0 w K Kp = fVC S [] [] Tryz.f129 [a0] w K Kp := by kernel_rfl
theorem vc129_calls (h : vc129 nP a0 w K Kp) : Calls Tryz.prog 129 #[a0] w (ret K Kp) :=
 fVC_sound (args := [a0]) nice_le follows_BVcJT Tryz.func129 (by kernel_rfl) (Eq.mp vc129_eq h)
def vc173 (S : Sig) (a0 : Value) (w : World) (K : KV) (Kp : KP) : Prop :=
 Lp fun (I0 : World → Prop) (μ0 : World → Nat) => I0 w ∧
 ∀ (wl0 : World) (_ : Nat → Value), I0 wl0 →
 S.pur (.nilCheck a0) (fun v7 =>
 S.pur (.fieldAddr 198 v7 2) (fun v8 =>
 S.ld (.load 3 v8) wl0.drew (fun v9 =>
 S.pur (.nilCheck a0) (fun v10 =>
 S.pur (.fieldAddr 198 v10 1) (fun v11 =>
 S.pur (.indexAddr 196 v11 v9) (fun v12 =>
 S.op (.nilCheck v12) wl0.drew (fun v14 w =>
 S.op (.fieldAddr 195 v14 1) w (fun v15 w =>
 S.op (.store 3 v15 (.int .i64 0)) w (fun _ w =>
 S.op (.nilCheck v12) w (fun v17 w =>
 S.op (.fieldAddr 195 v17 0) w (fun v18 w =>
 S.op (.load 188 v18) w (fun v19 w =>
 S.op (.tassert v19 188 262 true) w (fun v20 w =>
 S.op (.extract v20 1) w (fun v21 w =>
 S.op (.extract v20 0) w (fun v22 w =>
 Br v21 (
 S.pur (.nilCheck a0) (fun v25 =>
 S.pur (.fieldAddr 198 v25 2) (fun v26 =>
 S.ld (.load 3 v26) w.drew (fun v27 =>
 S.pur (.bin .add 3 false true v27 (.int .i64 1)) (fun v28 =>
 S.pur (.nilCheck v22) (fun v30 =>
 S.pur (.fieldAddr 267 v30 0) (fun v31 =>
 S.ld (.load 265 v31) w.drew (fun v32 =>
 S.pur (.nilCheck v12) (fun v34 =>
 S.pur (.fieldAddr 195 v34 1) (fun v35 =>
 S.ld (.load 3 v35) w.drew (fun v36 =>
 S.pur (.indexAddr 265 v32 v36) (fun v37 =>
 S.pur (.fieldAddr 269 v37 1) (fun v38 =>
 S.ld (.load 188 v38) w.drew (fun v39 =>
 S.pur (.build 195 [(0, v39)]) (fun v40 =>
 S.pur (.nilCheck a0) (fun v41 =>
 S.pur (.fieldAddr 198 v41 1) (fun v42 =>
 S.pur (.indexAddr 196 v42 v28) (fun v43 =>
 S.op (.store 195 v43 v40) w.drew (fun _ w =>
 S.op (.nilCheck a0) w (fun v45 w =>
 S.op (.fieldAddr 198 v45 2) w (fun v46 w =>
 S.op (.load 3 v46) w (fun v47 w =>
 S.op (.bin .add 3 false true v47 (.int .i64 1)) w (fun v48 w =>
 S.op (.nilCheck a0) w (fun v49 w =>
 S.op (.fieldAddr 198 v49 2) w (fun v50 w =>
 S.op (.store 3 v50 v48) w (fun _ w =>
 I0 w ∧ μ0 w < μ0 wl0) Kp) Kp) Kp) Kp) Kp) Kp) Kp) Kp)))))))))))))))))) (
 S.op (.tassert v19 188 200 true) w (fun v51 w =>
 S.op (.extract v51 1) w (fun v52 w =>
 S.op (.extract v51 0) w (fun v53 w =>
 Br v52 (
 K (.tuple #[]) w) (
 I0 w ∧ μ0 w < μ0 wl0)) Kp) Kp) Kp)) Kp) Kp) Kp) Kp) Kp) Kp) Kp) Kp) Kp))))))
theorem vc173_eq : vc173 S a0 w K Kp = fVC S [(0, [])] [] Tryz.f173 [a0] w K Kp := by kernel_rfl
theorem vc173_calls (h : vc173 nP a0 w K Kp) : Calls Tryz.prog 173 #[a0] w (ret K Kp) :=
 fVC_sound (args := [a0]) nice_le follows_BVcJT Tryz.func173 (by kernel_rfl) (Eq.mp vc173_eq h)
def vc132 (S : Sig) (a0 : Value) (w : World) (K : KV) (Kp : KP) : Prop :=
 S.call (.fn 73) [a0] w (fun v9 w =>
 Br v9 (
 K (.tuple #[(.string { data := #[] }), (.int .i64 0), (.bool false)]) w) (
 S.pur (.nilCheck a0) (fun v14 =>
 S.pur (.fieldAddr 198 v14 2) (fun v15 =>
 S.ld (.load 3 v15) w.drew (fun v16 =>
 S.pur (.nilCheck a0) (fun v17 =>
 S.pur (.fieldAddr 198 v17 1) (fun v18 =>
 S.pur (.indexAddr 196 v18 v16) (fun v19 =>
 S.op (.nilCheck v19) w.drew (fun v21 w =>
 S.op (.fieldAddr 195 v21 0) w (fun v22 w =>
 S.op (.load 188 v22) w (fun v23 w =>
 S.op (.tassert v23 188 200 false) w (fun v24 w =>
 S.pur (.nilCheck v24) (fun v26 =>
 S.pur (.fieldAddr 206 v26 0) (fun v27 =>
 S.ld (.load 204 v27) w.drew (fun v28 =>
 S.pur (.nilCheck v19) (fun v30 =>
 S.pur (.fieldAddr 195 v30 1) (fun v31 =>
 S.ld (.load 3 v31) w.drew (fun v32 =>
 S.pur (.indexAddr 204 v28 v32) (fun v33 =>
 S.pur (.nilCheck v33) (fun v35 =>
 S.pur (.fieldAddr 203 v35 0) (fun v36 =>
 S.ld (.load 9 v36) w.drew.drew (fun v37 =>
 S.pur (.nilCheck v33) (fun v39 =>
 S.pur (.fieldAddr 203 v39 1) (fun v40 =>
 S.ld (.load 2 v40) w.drew.drew (fun v41 =>
 S.same (.load 2 v40) v41 w.drew.drew ∧
 S.call (.fn 175) [a0] w.drew.drew (fun v43 w =>
 K (.tuple #[v37, v41, (.bool true)]) w) Kp)))))))))))))) Kp) Kp) Kp) Kp)))))))) Kp
theorem vc132_eq : vc132 S a0 w K Kp = fVC S [] [] Tryz.f132 [a0] w K Kp := by kernel_rfl
theorem vc132_calls (h : vc132 nP a0 w K Kp) : Calls Tryz.prog 132 #[a0] w (ret K Kp) :=
 fVC_sound (args := [a0]) nice_le follows_BVcJT Tryz.func132 (by kernel_rfl) (Eq.mp vc132_eq h)
def vc175 (S : Sig) (a0 : Value) (w : World) (K : KV) (Kp : KP) : Prop :=
 Lp fun (I0 : World → Prop) (μ0 : World → Nat) => I0 w ∧
 ∀ (wl0 : World) (_ : Nat → Value), I0 wl0 →
 S.op (.nilCheck a0) wl0 (fun v6 w =>
 S.op (.fieldAddr 198 v6 2) w (fun v7 w =>
 S.op (.load 3 v7) w (fun v8 w =>
 S.op (.bin .geq 3 false true v8 (.int .i64 0)) w (fun v9 w =>
 Br v9 (
 S.pur (.nilCheck a0) (fun v19 =>
 S.pur (.fieldAddr 198 v19 2) (fun v20 =>
 S.ld (.load 3 v20) w.drew (fun v21 =>
 S.pur (.nilCheck a0) (fun v22 =>
 S.pur (.fieldAddr 198 v22 1) (fun v23 =>
 S.pur (.indexAddr 196 v23 v21) (fun v24 =>
 S.op (.nilCheck v24) w.drew (fun v26 w =>
 S.op (.fieldAddr 195 v26 0) w (fun v27 w =>
 S.op (.load 188 v27) w (fun v28 w =>
 S.op (.tassert v28 188 200 true) w (fun v29 w =>
 S.op (.extract v29 1) w (fun v30 w =>
 S.op (.extract v29 0) w (fun v31 w =>
 Br v30 (
 S.pur (.nilCheck v24) (fun v33 =>
 S.pur (.fieldAddr 195 v33 1) (fun v34 =>
 S.ld (.load 3 v34) w.drew (fun v35 =>
 S.pur (.nilCheck v31) (fun v37 =>
 S.pur (.fieldAddr 206 v37 0) (fun v38 =>
 S.ld (.load 204 v38) w.drew (fun v39 =>
 S.ld (.blt .len [204] 3 [v39]) w.drew (fun v40 =>
 S.pur (.bin .sub 3 false true v40 (.int .i64 1)) (fun v41 =>
 S.pur (.bin .lss 3 false false v35 v41) (fun v42 =>
 Br v42 (
 S.op (.nilCheck v24) w.drew (fun v44 w =>
 S.op (.fieldAddr 195 v44 1) w (fun v45 w =>
 S.op (.load 3 v45) w (fun v46 w =>
 S.op (.bin .add 3 false true v46 (.int .i64 1)) w (fun v47 w =>
 S.op (.nilCheck v24) w (fun v48 w =>
 S.op (.fieldAddr 195 v48 1) w (fun v49 w =>
 S.op (.store 3 v49 v47) w (fun _ w =>
 K (.tuple #[]) w) Kp) Kp) Kp) Kp) Kp) Kp) Kp) (
 S.op (.nilCheck a0) w.drew (fun v11 w =>
 S.op (.fieldAddr 198 v11 2) w (fun v12 w =>
 S.op (.load 3 v12) w (fun v13 w =>
 S.op (.bin .sub 3 false true v13 (.int .i64 1)) w (fun v14 w =>
 S.op (.nilCheck a0) w (fun v15 w =>
 S.op (.fieldAddr 198 v15 2) w (fun v16 w =>
 S.op (.store 3 v16 v14) w (fun _ w =>
 I0 w ∧ μ0 w < μ0 wl0) Kp) Kp) Kp) Kp) Kp) Kp) Kp))))))))))) (
 S.op (.tassert v28 188 262 true) w (fun v50 w =>
 S.op (.extract v50 1) w (fun v51 w =>
 S.op (.extract v50 0) w (fun v52 w =>
 Br v51 (
 S.pur (.nilCheck v24) (fun v54 =>
 S.pur (.fieldAddr 195 v54 1) (fun v55 =>
 S.ld (.load 3 v55) w.drew (fun v56 =>
 S.pur (.nilCheck v52) (fun v58 =>
 S.pur (.fieldAddr 267 v58 0) (fun v59 =>
 S.ld (.load 265 v59) w.drew (fun v60 =>
 S.ld (.blt .len [265] 3 [v60]) w.drew (fun v61 =>
 S.pur (.bin .sub 3 false true v61 (.int .i64 1)) (fun v62 =>
 S.pur (.bin .lss 3 false false v56 v62) (fun v63 =>
 Br v63 (
 S.op (.nilCheck v24) w.drew (fun v65 w =>
 S.op (.fieldAddr 195 v65 1) w (fun v66 w =>
 S.op (.load 3 v66) w (fun v67 w =>
 S.op (.bin .add 3 false true v67 (.int .i64 1)) w (fun v68 w =>
 S.op (.nilCheck v24) w (fun v69 w =>
 S.op (.fieldAddr 195 v69 1) w (fun v70 w =>
 S.op (.store 3 v70 v68) w (fun _ w =>
 S.pur (.nilCheck a0) (fun v73 =>
 S.pur (.fieldAddr 198 v73 2) (fun v74 =>
 S.ld (.load 3 v74) w.drew (fun v75 =>
 S.pur (.bin .add 3 false true v75 (.int .i64 1)) (fun v76 =>
 S.pur (.nilCheck v52) (fun v78 =>
 S.pur (.fieldAddr 267 v78 0) (fun v79 =>
 S.ld (.load 265 v79) w.drew (fun v80 =>
 S.pur (.nilCheck v24) (fun v82 =>
 S.pur (.fieldAddr 195 v82 1) (fun v83 =>
 S.ld (.load 3 v83) w.drew (fun v84 =>
 S.pur (.indexAddr 265 v80 v84) (fun v85 =>
 S.pur (.fieldAddr 269 v85 1) (fun v86 =>
 S.ld (.load 188 v86) w.drew (fun v87 =>
 S.pur (.nilCheck a0) (fun v88 =>
 S.pur (.fieldAddr 198 v88 1) (fun v89 =>
 S.pur (.indexAddr 196 v89 v76) (fun v90 =>
 S.pur (.fieldAddr 195 v90 0) (fun v91 =>
 S.op (.store 188 v91 v87) w.drew (fun _ w =>
 S.op (.nilCheck a0) w (fun v93 w =>
 S.op (.fieldAddr 198 v93 2) w (fun v94 w =>
 S.op (.load 3 v94) w (fun v95 w =>
 S.op (.bin .add 3 false true v95 (.int .i64 1)) w (fun v96 w =>
 S.op (.nilCheck a0) w (fun v97 w =>
 S.op (.fieldAddr 198 v97 2) w (fun v98 w =>
 S.op (.store 3 v98 v96) w (fun _ w =>
 S.call (.fn 173) [a0] w (fun v100 w =>
 K (.tuple #[]) w) Kp) Kp) Kp) Kp) Kp) Kp) Kp) Kp) Kp)))))))))))))))))) Kp) Kp) Kp) Kp) Kp) Kp) Kp) (
 S.op (.nilCheck a0) w.drew (fun v11 w =>
 S.op (.fieldAddr 198 v11 2) w (fun v12 w =>
 S.op (.load 3 v12) w (fun v13 w =>
 S.op (.bin .sub 3 false true v13 (.int .i64 1)) w (fun v14 w =>
 S.op (.nilCheck a0) w (fun v15 w =>
 S.op (.fieldAddr 198 v15 2) w (fun v16 w =>
 S.op (.store 3 v16 v14) w (fun _ w =>
 I0 w ∧ μ0 w < μ0 wl0) Kp) Kp) Kp) Kp) Kp) Kp) Kp))))))))))) (
 S.op (.nilCheck a0) w (fun v11 w =>
 S.op (.fieldAddr 198 v11 2) w (fun v12 w =>
 S.op (.load 3 v12) w (fun v13 w =>
 S.op (.bin .sub 3 false true v13 (.int .i64 1)) w (fun v14 w =>
 S.op (.nilCheck a0) w (fun v15 w =>
 S.op (.fieldAddr 198 v15 2) w (fun v16 w =>
 S.op (.store 3 v16 v14) w (fun _ w =>
 I0 w ∧ μ0 w < μ0 wl0) Kp) Kp) Kp) Kp) Kp) Kp) Kp)) Kp) Kp) Kp)) Kp) Kp) Kp) Kp) Kp) Kp))))))) (
 K (.tuple #[]) w)) Kp) Kp) Kp) Kp
theorem vc175_eq : vc175 S a0 w K Kp = fVC S [(0, [])] [] Tryz.f175 [a0] w K Kp := by kernel_rfl
theorem vc175_calls (h : vc175 nP a0 w K Kp) : Calls Tryz.prog 175 #[a0] w (ret K Kp) :=
 fVC_sound (args := [a0]) nice_le follows_BVcJT Tryz.func175 (by kernel_rfl) (Eq.mp vc175_eq h)
def vc73 (S : Sig) (a0 : Value) (w : World) (K : KV) (Kp : KP) : Prop :=
 S.op (.nilCheck a0) w (fun v4 w =>
 S.op (.fieldAddr 198 v4 2) w (fun v5 w =>
 S.op (.load 3 v5) w (fun v6 w =>
 S.op (.bin .eql 3 false true v6 (.int .i64 (-1))) w (fun v7 w =>
 K v7 w) Kp) Kp) Kp) Kp
theorem vc73_eq : vc73 S a0 w K Kp = fVC S [] [] Tryz.f73 [a0] w K Kp := by kernel_rfl
theorem vc73_calls (h : vc73 nP a0 w K Kp) : Calls Tryz.prog 73 #[a0] w (ret K Kp) :=
 fVC_sound (args := [a0]) nice_le follows_BVcJT Tryz.func73 (by kernel_rfl) (Eq.mp vc73_eq h)
end Go.Proofs.YtodjijfblgnfmaaGreatDoor
end
section
namespace Go.Proofs.YtodjijfblgnfmaaGreatDoor.T
open Go.Vc Go.Proofs Go.Proofs.YtodjijfblgnfmaaGreatDoor Go.Vc.Bt
variable {w w' : World} {v : Value} {K : KV} {Kp : KP} {ib mb d p : Nat} {L : List (Ky × Vl)} {cs cs' : Array Value} {s : Tr}
theorem set_at {cs : Array Value} {i j : Nat} {u : Value} (h : j < cs.size) : (cs.setIfInBounds j u)[i]? = if j = i then some u else cs[i]? := by
  rw [Array.getElem?_setIfInBounds]
  split
  · rename_i e; subst e; simp [h]
  · rfl
structure Fr where
  s : Tr
  v : Value
  i : Nat
def Fr.fm (r : Fr) : Fm Ky Vl := (r.s, r.i)
def fms (up : List Fr) : List (Fm Ky Vl) := up.map Fr.fm
def Stk (w : World) (cs : Array Value) : Nat → List Fr → Prop
  | _, [] => True
  | d, r :: fs => cs[1 + fs.length * 2]? = some r.v ∧ cs[1 + fs.length * 2 + 1]? = some (.int .i64 r.i) ∧ Rep w d r.s r.v ∧ WF d r.s ∧ Stk w cs (d + 1) fs
theorem Stk.off (ho : Off w ib) (hf : Frm (· = ib) w w') : ∀ {fs : List Fr} {d : Nat}, Stk w cs d fs → Stk w' cs d fs
  | [], _, _ => trivial
  | r :: fs, d, h => ⟨h.1, h.2.1, h.2.2.1.off ho hf, h.2.2.2.1, Stk.off ho hf h.2.2.2.2⟩
theorem Stk.still (hf : Frm (fun _ => False) w w') : ∀ {fs : List Fr} {d : Nat}, Stk w cs d fs → Stk w' cs d fs
  | [], _, _ => trivial
  | r :: fs, d, h => ⟨h.1, h.2.1, h.2.2.1.still hf, h.2.2.2.1, Stk.still hf h.2.2.2.2⟩
theorem Stk.cells : ∀ {fs : List Fr} {d : Nat}, Stk w cs d fs → (∀ i, i < 1 + fs.length * 2 → cs'[i]? = cs[i]?) → Stk w cs' d fs
  | [], _, _, _ => trivial
  | r :: fs, d, h, hc => by
    simp only [List.length_cons] at hc
    exact ⟨by rw [hc _ (by omega)]; exact h.1, by rw [hc _ (by omega)]; exact h.2.1, h.2.2.1, h.2.2.2.1, Stk.cells h.2.2.2.2 fun i hi => hc i (by omega)⟩
structure Low (w : World) (ib mb d : Nat) (cs : Array Value) (s : Tr) (v : Value) (up : List Fr) : Prop where
  hb : w.heap[ib]? = some (.cells cs 198 (0, 0))
  sz : cs.size = 66
  m : cs[0]? = some (ptr mb)
  dep : cs[65]? = some (.int .i64 (up.length : Int))
  node : cs[1 + up.length * 2]? = some v
  rep : Rep w d s v
  wf : WF d s
  stk : Stk w cs (d + 1) up
  ab : Above d s (fms up)
  len : d + up.length ≤ 31
def depthOf (w : World) (ib : Nat) : Nat := match w.heap[ib]? with
  | some (.cells cs _ _) => match (cs[65]?).getD undef with
    | .int _ j => (j + 1).toNat
    | _ => 0
  | _ => 0
theorem depthOf_eq {ib : Nat} {d : Int} {cs : Array Value} {e : TypeId} {fz : Nat × Nat} (h : w.heap[ib]? = some (.cells cs e fz)) (hd : cs[65]? = some (.int .i64 d)) : depthOf w ib = (d + 1).toNat := by
  simp only [depthOf, h, hd, Option.getD_some]
def At (w : World) (ib mb : Nat) (L : List (Ky × Vl)) : Option Nat → Prop
  | none => ∃ cs, w.heap[ib]? = some (.cells cs 198 (0, 0)) ∧ cs.size = 66 ∧ cs[0]? = some (ptr mb) ∧ cs[65]? = some (.int .i64 (-1))
  | some p => ∃ (cs : Array Value) (es : List (Ky × Vl)) (v : Value) (up : List Fr) (j : Nat), Low w ib mb 0 cs (.leaf es) v up ∧ cs[1 + up.length * 2 + 1]? = some (.int .i64 (j : Int)) ∧ j < es.length ∧ L = bw 1 (fms up) ++ (es ++ fw 1 (fms up)) ∧ p = (bw 1 (fms up)).length + j
theorem off_Q (h : w.heap[ib]? = some (.cells cs 198 (0, 0))) : Off w ib := ⟨_, _, _, h, by decide, by decide, by decide, by decide⟩
theorem Low.still {up : List Fr} (h : Low w ib mb d cs s v up) (hf : Frm (fun _ => False) w w') : Low w' ib mb d cs s v up :=
  ⟨hf.get h.hb fun h => h, h.sz, h.m, h.dep, h.node, h.rep.still hf, h.wf, h.stk.still hf, h.ab, h.len⟩
theorem At.still {q : Option Nat} (h : At w ib mb L q) (hf : Frm (fun _ => False) w w') : At w' ib mb L q := by
  match q, h with
  | none, ⟨cs, h1, h2⟩ => exact ⟨cs, hf.get h1 fun h => h, h2⟩
  | some p, ⟨cs, es, v, up, j, h1, h2⟩ => exact ⟨cs, es, v, up, j, h1.still hf, h2⟩
theorem bw_cons {ks : List Tr} {i : Nat} {up : List Fr} : bw (d + 1) (fms (⟨.br ks, v, i⟩ :: up)) = bw (d + 1 + 1) (fms up) ++ (ks.take i).flatMap (toL d) := rfl
theorem fw_cons {ks : List Tr} {i : Nat} {up : List Fr} : fw (d + 1) (fms (⟨.br ks, v, i⟩ :: up)) = (ks.drop (i + 1)).flatMap (toL d) ++ fw (d + 1 + 1) (fms up) := rfl
theorem frame_eq {ks : List Tr} {i : Nat} {up : List Fr} {t : Tr} (hi : ks[i]? = some t) : bw (d + 1) (fms (⟨.br ks, v, i⟩ :: up)) ++ (toL d t ++ fw (d + 1) (fms (⟨.br ks, v, i⟩ :: up))) = bw (d + 1 + 1) (fms up) ++ (toL (d + 1) (.br ks) ++ fw (d + 1 + 1) (fms up)) := by
  obtain ⟨hil, hie⟩ := List.getElem?_eq_some_iff.1 hi
  rw [bw_cons, fw_cons, toL_split hil, hie]
  simp only [List.append_assoc]
theorem first_ok {up : List Fr} (h : Low w ib mb d cs s v up) (hK : ∀ w', Frm (· = ib) w w' → At w' ib mb (bw (d + 1) (fms up) ++ (toL d s ++ fw (d + 1) (fms up))) (some (bw (d + 1) (fms up)).length) → K (.tuple #[]) w') :
    Calls Tryz.prog 173 #[ptr ib] w (ret K Kp) := by
  refine vc173_calls ?_
  delta vc173
  obtain ⟨L, hL⟩ : ∃ L, L = bw (d + 1) (fms up) ++ (toL d s ++ fw (d + 1) (fms up)) := ⟨_, rfl⟩
  obtain ⟨p, hp⟩ : ∃ p, p = (bw (d + 1) (fms up)).length := ⟨_, rfl⟩
  rw [← hL, ← hp] at hK
  obtain ⟨I, hI⟩ : ∃ I : World → Prop, ∀ wl, I wl ↔ ∃ d cs s v up, Low wl ib mb d cs s v up ∧ Frm (· = ib) w wl ∧ L = bw (d + 1) (fms up) ++ (toL d s ++ fw (d + 1) (fms up)) ∧ p = (bw (d + 1) (fms up)).length := ⟨_, fun _ => Iff.rfl⟩
  refine Lp.intro I (fun wl => 40 - depthOf wl ib) ⟨(hI _).2 ⟨d, cs, s, v, up, h, Frm.refl, hL, hp⟩, ?_⟩
  clear hL hp h
  intro wl _ hi
  obtain ⟨d, cs, s, v, up, h, hf, hL, hp⟩ := (hI _).1 hi
  have hu := h.len
  have hd0 := depthOf_eq h.hb h.dep
  have hsz := h.sz
  have hoff := off_Q h.hb
  simp [-getElem?_pos, -Array.getElem?_eq_getElem, -Int.natCast_add, ptr, h.hb, h.dep]
  refine ⟨by omega, ?_⟩
  refine op_store_ok (by kernel_rfl) h.hb (by omega) rfl fun w1 k1 z1 b1 => ?_
  have k1 := Frm.dr k1
  have r1 := h.rep.off hoff k1
  have t1 := h.stk.off hoff k1
  have g1 : ∀ i, (cs.setIfInBounds (1 + up.length * 2 + 1) (.int .i64 0))[i]? = if 1 + up.length * 2 + 1 = i then some (.int .i64 0) else cs[i]? := fun i => set_at (by omega)
  have n1 : (cs.setIfInBounds (1 + up.length * 2 + 1) (.int .i64 0))[1 + up.length * 2]? = some v := by rw [g1, if_neg (by omega)]; exact h.node
  have i1 : (cs.setIfInBounds (1 + up.length * 2 + 1) (.int .i64 0))[1 + up.length * 2 + 1]? = some (.int .i64 0) := by rw [g1, if_pos rfl]
  have d1 : (cs.setIfInBounds (1 + up.length * 2 + 1) (.int .i64 0))[65]? = some (.int .i64 (up.length : Int)) := by rw [g1, if_neg (by omega)]; exact h.dep
  have m1 : (cs.setIfInBounds (1 + up.length * 2 + 1) (.int .i64 0))[0]? = some (ptr mb) := by rw [g1, if_neg (by omega)]; exact h.m
  have z1' : (cs.setIfInBounds (1 + up.length * 2 + 1) (.int .i64 0)).size = 66 := by simp [hsz]
  have st1 : Stk w1 (cs.setIfInBounds (1 + up.length * 2 + 1) (.int .i64 0)) (d + 1) up := t1.cells fun i hi => by rw [g1, if_neg (by omega)]
  generalize hcs : cs.setIfInBounds (1 + up.length * 2 + 1) (.int .i64 0) = c1 at *
  have hwf := h.wf
  have hab := h.ab
  have hf1 : Frm (· = ib) w w1 := hf.trans k1 fun _ h _ => h
  simp [-getElem?_pos, -Array.getElem?_eq_getElem, -Int.natCast_add, b1, n1]
  match d, hwf, r1 with
  | 0, hwf, r1 =>
    obtain ⟨es, rfl, e1, e2⟩ := wf_zero.1 hwf
    have r1' := r1
    obtain ⟨b, g, o, c, rfl, hb, hg⟩ := r1
    simp [-getElem?_pos, -Array.getElem?_eq_getElem, -Int.natCast_add]
    refine hK w1 hf1 ⟨c1, es, _, up, 0, ⟨b1, z1', m1, d1, n1, r1', hwf, st1, hab, hu⟩, i1, by have := List.length_pos_iff.2 e1; omega, hL, by rw [hp]; rfl⟩
  | d + 1, hwf, r1 =>
    obtain ⟨ks, rfl, e1, e2, e3⟩ := wf_succ.1 hwf
    have r1' := r1
    obtain ⟨b, g, o, c, ps, rfl, hb, hps, hg, hc⟩ := r1
    have hl : ps.length = ks.length := by rw [hps, List.length_map]
    rw [← hl] at hb hg
    obtain ⟨cur, hcur, hk⟩ := elCells hg
    have h0 : 0 < ps.length := by rw [hl]; exact List.length_pos_iff.2 e1
    have hk0 := (hk 0 h0).2
    rw [Nat.zero_mul, Nat.add_zero] at hk0
    have hr0 := hc _ (List.getElem_mem h0)
    obtain ⟨uc, pc, hcv⟩ := hr0.iface
    rw [hcv] at hk0
    have ewd : IntKind.i64.wrap ((up.length : Int) + 1) = ((up.length + 1 : Nat) : Int) := by rw [IntKind.wrap_i64]; omega
    simp [-getElem?_pos, -Array.getElem?_eq_getElem, -Int.natCast_add, ptr, b1, d1, i1, hb, hcur, hk0, ewd]
    refine ⟨h0, by omega, ?_⟩
    refine op_storeN_ok (n := 2) (by kernel_rfl) b1 rfl (by omega) (fun u hu => ?_) fun w2 k2 z2 b2 => ?_
    · simp only [List.mem_toArray, List.mem_cons, List.not_mem_nil, or_false] at hu
      rcases hu with rfl | rfl <;> rfl
    · have k2 := Frm.dr k2
      have g2 : ∀ j, (ow c1 (1 + (up.length + 1) * 2) [Value.iface uc pc, .int .i64 0])[j]? = if 1 + (up.length + 1) * 2 ≤ j ∧ j < 1 + (up.length + 1) * 2 + 2 then [Value.iface uc pc, .int .i64 0][j - (1 + (up.length + 1) * 2)]? else c1[j]? := fun j => ow_get (by simp; omega)
      have z2' : (ow c1 (1 + (up.length + 1) * 2) [Value.iface uc pc, .int .i64 0]).size = 66 := by rw [ow_size, z1']
      have d2 : (ow c1 (1 + (up.length + 1) * 2) [Value.iface uc pc, .int .i64 0])[65]? = some (.int .i64 (up.length : Int)) := by rw [g2, if_neg (by omega)]; exact d1
      simp [-getElem?_pos, -Array.getElem?_eq_getElem, -Int.natCast_add, b2, d2, ewd]
      refine op_store_ok (by kernel_rfl) b2 (by rw [ow_size]; omega) rfl fun w3 k3 z3 b3 => ?_
      have g3 : ∀ j, ((ow c1 (1 + (up.length + 1) * 2) [Value.iface uc pc, .int .i64 0]).setIfInBounds 65 (.int .i64 ((up.length + 1 : Nat) : Int)))[j]? = if 65 = j then some (.int .i64 ((up.length + 1 : Nat) : Int)) else (ow c1 (1 + (up.length + 1) * 2) [Value.iface uc pc, .int .i64 0])[j]? := fun j => set_at (by omega)
      have k13 : Frm (· = ib) w1 w3 := k2.trans k3 fun _ h _ => h
      have hm0 : ps[0].1 ∈ ks := by rw [hps]; exact List.mem_map.2 ⟨_, List.getElem_mem h0, rfl⟩
      have hks0 : ks[0]? = some ps[0].1 := by rw [hps, List.getElem?_map, List.getElem?_eq_getElem h0]; rfl
      have off1 := off_Q b1
      rw [hcv] at hr0
      have hst3 : Stk w3 ((ow c1 (1 + (up.length + 1) * 2) [Value.iface uc pc, .int .i64 0]).setIfInBounds 65 (.int .i64 ((up.length + 1 : Nat) : Int))) (d + 1 + 1) up := (st1.off off1 k13).cells fun j hj => by rw [g3, if_neg (by omega), g2, if_neg (by omega)]
      have hlow : Low w3 ib mb d ((ow c1 (1 + (up.length + 1) * 2) [Value.iface uc pc, .int .i64 0]).setIfInBounds 65 (.int .i64 ((up.length + 1 : Nat) : Int))) ps[0].1 (.iface uc pc) (⟨.br ks, .iface 262 (ptr b), 0⟩ :: up) := by
        refine ⟨by simpa using b3, by simp [z2'], ?_, ?_, ?_, hr0.off off1 k13, e3 _ hm0, ⟨?_, ?_, r1'.off off1 k13, hwf, hst3⟩, ⟨hwf, ⟨ks, rfl, hks0⟩, hab⟩, by simp only [List.length_cons]; omega⟩
        · rw [g3, if_neg (by omega), g2, if_neg (by omega)]; exact m1
        · rw [g3, if_pos rfl]; rfl
        · rw [g3, if_neg (by simp only [List.length_cons]; omega), g2, if_pos (by simp only [List.length_cons]; omega)]
          simp
        · rw [g3, if_neg (by omega), g2, if_neg (by omega)]; exact n1
        · rw [g3, if_neg (by omega), g2, if_neg (by omega)]; exact i1
      have hd3 := depthOf_eq hlow.hb hlow.dep
      refine ⟨(hI _).2 ⟨d, _, _, _, _, hlow, hf1.trans k13 fun _ h _ => h, ?_, ?_⟩, ?_⟩
      · rw [hL]; exact (frame_eq hks0).symm
      · rw [hp, bw_cons]; simp [aheadF]
      · rw [hd0, hd3]; simp only [List.length_cons]; omega
end Go.Proofs.YtodjijfblgnfmaaGreatDoor.T
end
section
namespace Go.Proofs.YtodjijfblgnfmaaGreatDoor.T
open Go.Vc Go.Proofs Go.Proofs.YtodjijfblgnfmaaGreatDoor Go.Vc.Bt

end Go.Proofs.YtodjijfblgnfmaaGreatDoor.T
end
section
namespace Go.Proofs.YtodjijfblgnfmaaGreatDoor.T
open Go.Vc Go.Proofs Go.Proofs.YtodjijfblgnfmaaGreatDoor Go.Vc.Bt
variable {w w' : World} {v : Value} {K : KV} {Kp : KP} {ib mb d : Nat} {L : List (Ky × Vl)} {cs : Array Value}
structure Pop (w : World) (ib mb d : Nat) (cs : Array Value) (r : Fr) (up : List Fr) : Prop where
  hb : w.heap[ib]? = some (.cells cs 198 (0, 0))
  sz : cs.size = 66
  m : cs[0]? = some (ptr mb)
  dep : cs[65]? = some (.int .i64 (up.length : Int))
  stk : Stk w cs d (r :: up)
  ab : Above d r.s (fms up)
  len : d + up.length ≤ 31
  inr : r.i < r.s.size ∨ d = 0 ∧ r.i = r.s.size
theorem at_pop {q : Nat} (h : At w ib mb L (some q)) : ∃ cs r up, Pop w ib mb 0 cs r up ∧ L = bw 1 (fms up) ++ (toL 0 r.s ++ fw 1 (fms up)) ∧ q + 1 + (fw 0 (fms (r :: up))).length = L.length := by
  obtain ⟨cs, es, v, up, j, h1, h2, h3, h4, h5⟩ := h
  refine ⟨cs, ⟨.leaf es, v, j⟩, up, ⟨h1.hb, h1.sz, h1.m, h1.dep, ⟨h1.node, h2, h1.rep, h1.wf, h1.stk⟩, h1.ab, h1.len, .inl h3⟩, h4, ?_⟩
  have e : fw 0 (fms (⟨.leaf es, v, j⟩ :: up)) = es.drop (j + 1) ++ fw 1 (fms up) := rfl
  rw [e, h4, h5]
  simp only [List.length_append, List.length_drop]; omega
theorem next_pop {q : Nat} (h : ∃ cs r up, Pop w ib mb 0 cs r up ∧ L = bw 1 (fms up) ++ (toL 0 r.s ++ fw 1 (fms up)) ∧ q + 1 + (fw 0 (fms (r :: up))).length = L.length) (hK : ∀ w', Frm (· = ib) w w' → At w' ib mb L (if q + 1 < L.length then some (q + 1) else none) → K (.tuple #[]) w') :
    Calls Tryz.prog 175 #[ptr ib] w (ret K Kp) := by
  refine vc175_calls ?_
  delta vc175
  obtain ⟨I, hI⟩ : ∃ I : World → Prop, ∀ wl, I wl ↔ Frm (· = ib) w wl ∧ ((∃ d cs r up, Pop wl ib mb d cs r up ∧ L = bw (d + 1) (fms up) ++ (toL d r.s ++ fw (d + 1) (fms up)) ∧ q + 1 + (fw d (fms (r :: up))).length = L.length) ∨ (At wl ib mb L none ∧ q + 1 = L.length)) := ⟨_, fun _ => Iff.rfl⟩
  refine Lp.intro I (fun wl => depthOf wl ib) ⟨(hI _).2 ⟨Frm.refl, .inl ?_⟩, ?_⟩
  · obtain ⟨cs, r, up, h1, h2, h3⟩ := h
    exact ⟨0, cs, r, up, h1, h2, h3⟩
  intro wl _ hi
  obtain ⟨hf, hi | ⟨⟨cs, h1, h2, h3, h4⟩, hq⟩⟩ := (hI _).1 hi
  · obtain ⟨d, cs, r, up, h1, hL, hq⟩ := hi
    have hd0 := depthOf_eq h1.hb h1.dep
    have hsz := h1.sz
    have hlen := h1.len
    obtain ⟨k1, k2, k3, k4, k5⟩ := h1.stk
    have hab := h1.ab
    have hinr := h1.inr
    have hoff := off_Q h1.hb
    have hpop : ∀ w1, Frm (· = ib) wl w1 → w1.heap[ib]? = some (.cells (cs.setIfInBounds 65 (.int .i64 ((up.length : Int) - 1))) 198 (0, 0)) → fw d (fms (r :: up)) = fw (d + 1) (fms up) → I w1 ∧ depthOf w1 ib < depthOf wl ib := by
      intro w1 k1' b1 he
      have g1 : ∀ i, (cs.setIfInBounds 65 (.int .i64 ((up.length : Int) - 1)))[i]? = if 65 = i then some (.int .i64 ((up.length : Int) - 1)) else cs[i]? := fun i => set_at (by omega)
      have hd1 := depthOf_eq b1 (by rw [g1, if_pos rfl])
      have hf1 : Frm (· = ib) w w1 := hf.trans k1' fun _ h _ => h
      refine ⟨(hI _).2 ⟨hf1, ?_⟩, by rw [hd1, hd0]; omega⟩
      cases up with
      | nil =>
        refine .inr ⟨⟨_, b1, by simp [hsz], by rw [g1, if_neg (by omega)]; exact h1.m, by rw [g1, if_pos rfl]; rfl⟩, ?_⟩
        rw [he] at hq
        have : (fw (d + 1) (fms ([] : List Fr))).length = 0 := rfl
        omega
      | cons r' up' =>
        obtain ⟨s', v', i'⟩ := r'
        obtain ⟨a1, ⟨ks, a2, a3⟩, a4⟩ := hab
        obtain rfl : s' = .br ks := a2
        obtain ⟨hil, hie⟩ := List.getElem?_eq_some_iff.1 a3
        refine .inl ⟨d + 1, _, ⟨.br ks, v', i'⟩, up', ⟨b1, by simp [hsz], by rw [g1, if_neg (by omega)]; exact h1.m, ?_, (k5.off hoff k1').cells fun j hj => ?_, a4, ?_, .inl hil⟩, ?_, ?_⟩
        · rw [g1, if_pos rfl]; simp
        · simp only [List.length_cons] at hj hlen
          rw [g1, if_neg (by omega)]
        · simp only [List.length_cons] at hlen; omega
        · rw [hL]; exact frame_eq a3
        · rw [← he]; exact hq
    simp [-getElem?_pos, -Array.getElem?_eq_getElem, -Int.natCast_add, ptr, h1.hb, h1.dep, k1]
    refine ⟨by omega, ?_⟩
    have ewm : IntKind.i64.wrap ((up.length : Int) - 1) = (up.length : Int) - 1 := by rw [IntKind.wrap_i64]; omega
    obtain ⟨rs, rv, ri⟩ := r
    match d, k4, k3 with
    | 0, k4, k3 =>
      obtain ⟨es, rfl, e1, e2⟩ := wf_zero.1 k4
      have k3' := k3
      obtain ⟨b, g, o, c, rfl, hb, hg⟩ := k3
      have hri : ri ≤ es.length := by
        rcases hinr with h | ⟨_, h⟩
        · exact Nat.le_of_lt h
        · exact Nat.le_of_eq h
      have h0 : 0 < es.length := List.length_pos_iff.2 e1
      have ewl : IntKind.i64.wrap ((es.length : Int) - 1) = (es.length : Int) - 1 := by rw [IntKind.wrap_i64]; omega
      have ewi : IntKind.i64.wrap ((ri : Int) + 1) = ((ri + 1 : Nat) : Int) := by rw [IntKind.wrap_i64]; omega
      simp [-getElem?_pos, -Array.getElem?_eq_getElem, -Int.natCast_add, ptr, h1.hb, h1.dep, k2, hb, ewl, ewi, ewm]
      refine ⟨fun hlt => ?_, fun hge => ?_⟩
      · refine op_store_ok (by kernel_rfl) h1.hb (by omega) rfl fun w1 p1 z1 b1 => ?_
        have p1 := Frm.dr (Frm.dr p1)
        have g1 : ∀ i, (cs.setIfInBounds (1 + up.length * 2 + 1) (.int .i64 ((ri + 1 : Nat) : Int)))[i]? = if 1 + up.length * 2 + 1 = i then some (.int .i64 ((ri + 1 : Nat) : Int)) else cs[i]? := fun i => set_at (by omega)
        have hz : (bw (0 + 1) (fms up)).length + es.length + (fw (0 + 1) (fms up)).length = L.length := by rw [hL]; simp only [List.length_append, toL_zero]; omega
        have hz2 : q + 1 + (es.length - (ri + 1) + (fw (0 + 1) (fms up)).length) = L.length := by
          rw [← hq]; show _ = q + 1 + (es.drop (ri + 1) ++ fw (0 + 1) (fms up)).length
          rw [List.length_append, List.length_drop]
        refine hK w1 (hf.trans p1 fun _ h _ => h) ?_
        rw [if_pos (by omega)]
        refine ⟨_, es, _, up, ri + 1, ⟨b1, by simp [hsz], ?_, ?_, ?_, k3'.off hoff p1, k4, (k5.off hoff p1).cells fun i hi => by rw [g1, if_neg (by omega)], hab, hlen⟩, by rw [g1, if_pos rfl], by omega, hL, ?_⟩
        · rw [g1, if_neg (by omega)]; exact h1.m
        · rw [g1, if_neg (by omega)]; exact h1.dep
        · rw [g1, if_neg (by omega)]; exact k1
        · show q + 1 = (bw (0 + 1) (fms up)).length + _; omega
      · refine op_store_ok (by kernel_rfl) h1.hb (by omega) rfl fun w1 p1 z1 b1 => ?_
        refine hpop w1 (Frm.dr (Frm.dr p1)) b1 ?_
        have e : fw 0 (fms (⟨.leaf es, .iface 200 (ptr b), ri⟩ :: up)) = es.drop (ri + 1) ++ fw 1 (fms up) := rfl
        rw [e, List.drop_of_length_le (by omega)]; rfl
    | d + 1, k4, k3 =>
      obtain ⟨ks, rfl, e1, e2, e3⟩ := wf_succ.1 k4
      have k3' := k3
      obtain ⟨b, g, o, c, ps, rfl, hb, hps, hg, hc⟩ := k3
      have hl : ps.length = ks.length := by rw [hps, List.length_map]
      rw [← hl] at hb hg
      have hri : ri < ks.length := hinr.resolve_right (by omega)
      have ewl : IntKind.i64.wrap ((ps.length : Int) - 1) = (ps.length : Int) - 1 := by rw [IntKind.wrap_i64]; omega
      have ewi : IntKind.i64.wrap ((ri : Int) + 1) = ((ri + 1 : Nat) : Int) := by rw [IntKind.wrap_i64]; omega
      have ewd : IntKind.i64.wrap ((up.length : Int) + 1) = ((up.length + 1 : Nat) : Int) := by rw [IntKind.wrap_i64]; omega
      simp [-getElem?_pos, -Array.getElem?_eq_getElem, -Int.natCast_add, ptr, h1.hb, h1.dep, k2, hb, ewl, ewi, ewm]
      refine ⟨fun hlt => ?_, fun hge => ?_⟩
      · refine op_store_ok (by kernel_rfl) h1.hb (by omega) rfl fun w1 p1 z1 b1 => ?_
        have p1 := Frm.dr (Frm.dr p1)
        obtain ⟨m, hm⟩ : ∃ m, m = ri + 1 := ⟨_, rfl⟩
        rw [← hm] at b1
        have h0 : m < ps.length := by omega
        have g1 : ∀ i, (cs.setIfInBounds (1 + up.length * 2 + 1) (.int .i64 (m : Int)))[i]? = if 1 + up.length * 2 + 1 = i then some (.int .i64 (m : Int)) else cs[i]? := fun i => set_at (by omega)
        have n1 : (cs.setIfInBounds (1 + up.length * 2 + 1) (.int .i64 (m : Int)))[1 + up.length * 2]? = some (.iface 262 (ptr b)) := by rw [g1, if_neg (by omega)]; exact k1
        have i1 : (cs.setIfInBounds (1 + up.length * 2 + 1) (.int .i64 (m : Int)))[1 + up.length * 2 + 1]? = some (.int .i64 (m : Int)) := by rw [g1, if_pos rfl]
        have d1 : (cs.setIfInBounds (1 + up.length * 2 + 1) (.int .i64 (m : Int)))[65]? = some (.int .i64 (up.length : Int)) := by rw [g1, if_neg (by omega)]; exact h1.dep
        have m1 : (cs.setIfInBounds (1 + up.length * 2 + 1) (.int .i64 (m : Int)))[0]? = some (ptr mb) := by rw [g1, if_neg (by omega)]; exact h1.m
        have z1' : (cs.setIfInBounds (1 + up.length * 2 + 1) (.int .i64 (m : Int))).size = 66 := by simp [hsz]
        have st1 : Stk w1 (cs.setIfInBounds (1 + up.length * 2 + 1) (.int .i64 (m : Int))) (d + 1 + 1) up := (k5.off hoff p1).cells fun i hi => by rw [g1, if_neg (by omega)]
        generalize hcs : cs.setIfInBounds (1 + up.length * 2 + 1) (.int .i64 (m : Int)) = c1 at *
        have hf1 : Frm (· = ib) w w1 := hf.trans p1 fun _ h _ => h
        have r1' := k3'.off hoff p1
        obtain ⟨bs, q1, q2, q3⟩ := id hg
        obtain ⟨co, ce, cz, o1, o2, o3, o4, o5⟩ := id hoff
        have nb : b ≠ ib := fun e => by rw [e, o1] at hb; cases hb; exact o4 rfl
        have ng : g ≠ ib := fun e => by rw [e, o1] at q1; cases q1; exact o5 rfl
        have hb1 := p1.get hb nb
        obtain ⟨cur, hcur, hk⟩ := elCells (hg.frame p1 ng)
        have hk0 := (hk m h0).2
        have hr0 := (hc _ (List.getElem_mem h0)).off hoff p1
        obtain ⟨uc, pc, hcv⟩ := hr0.iface
        rw [hcv] at hk0
        simp [-getElem?_pos, -Array.getElem?_eq_getElem, -Int.natCast_add, ptr, b1, d1, i1, hb1, hcur, hk0, ewd]
        refine ⟨h0, by omega, ?_⟩
        refine op_store_ok (by kernel_rfl) b1 (by omega) rfl fun w2 k2 z2 b2 => ?_
        have k2 := Frm.dr k2
        have g2 : ∀ j, (c1.setIfInBounds (1 + (up.length + 1) * 2) (.iface uc pc))[j]? = if 1 + (up.length + 1) * 2 = j then some (.iface uc pc) else c1[j]? := fun j => set_at (by omega)
        have d2 : (c1.setIfInBounds (1 + (up.length + 1) * 2) (.iface uc pc))[65]? = some (.int .i64 (up.length : Int)) := by rw [g2, if_neg (by omega)]; exact d1
        have z2' : (c1.setIfInBounds (1 + (up.length + 1) * 2) (.iface uc pc)).size = 66 := by simp [z1']
        simp [-getElem?_pos, -Array.getElem?_eq_getElem, -Int.natCast_add, b2, d2, ewd]
        refine op_store_ok (by kernel_rfl) b2 (by omega) rfl fun w3 k3 z3 b3 => ?_
        have g3 : ∀ j, ((c1.setIfInBounds (1 + (up.length + 1) * 2) (.iface uc pc)).setIfInBounds 65 (.int .i64 ((up.length + 1 : Nat) : Int)))[j]? = if 65 = j then some (.int .i64 ((up.length + 1 : Nat) : Int)) else (c1.setIfInBounds (1 + (up.length + 1) * 2) (.iface uc pc))[j]? := fun j => set_at (by omega)
        have k13 : Frm (· = ib) w1 w3 := k2.trans k3 fun _ h _ => h
        have hm0 : ps[m].1 ∈ ks := by rw [hps]; exact List.mem_map.2 ⟨_, List.getElem_mem h0, rfl⟩
        have hks0 : ks[m]? = some ps[m].1 := by rw [hps, List.getElem?_map, List.getElem?_eq_getElem h0]; rfl
        have off1 := off_Q b1
        rw [hcv] at hr0
        have hst3 : Stk w3 ((c1.setIfInBounds (1 + (up.length + 1) * 2) (.iface uc pc)).setIfInBounds 65 (.int .i64 ((up.length + 1 : Nat) : Int))) (d + 1 + 1) up := (st1.off off1 k13).cells fun j hj => by rw [g3, if_neg (by omega), g2, if_neg (by omega)]
        have hlow : Low w3 ib mb d ((c1.setIfInBounds (1 + (up.length + 1) * 2) (.iface uc pc)).setIfInBounds 65 (.int .i64 ((up.length + 1 : Nat) : Int))) ps[m].1 (.iface uc pc) (⟨.br ks, .iface 262 (ptr b), m⟩ :: up) := by
          refine ⟨by simpa using b3, by simp [z2'], ?_, ?_, ?_, hr0.off off1 k13, e3 _ hm0, ⟨?_, ?_, r1'.off off1 k13, k4, hst3⟩, ⟨k4, ⟨ks, rfl, hks0⟩, hab⟩, by simp only [List.length_cons]; omega⟩
          · rw [g3, if_neg (by omega), g2, if_neg (by omega)]; exact m1
          · rw [g3, if_pos rfl]; rfl
          · rw [g3, if_neg (by simp only [List.length_cons]; omega), g2, if_pos (by simp only [List.length_cons])]
          · rw [g3, if_neg (by omega), g2, if_neg (by omega)]; exact n1
          · rw [g3, if_neg (by omega), g2, if_neg (by omega)]; exact i1
        have hne : 0 < (toL d ps[m].1).length := List.length_pos_iff.2 (toL_ne d _ (e3 _ hm0))
        refine first_ok hlow fun w4 k4' hat => ?_
        have hf4 : Frm (· = ib) w w4 := (hf1.trans k13 fun _ h _ => h).trans k4' fun _ h _ => h
        rw [frame_eq hks0, ← hL] at hat
        have hfw : q + 1 + ((ks.drop m).flatMap (toL d)).length + (fw (d + 1 + 1) (fms up)).length = L.length := by
          rw [← hq, fw_cons, hm, List.length_append]; omega
        have hsum : ((ks.take m).flatMap (toL d)).length + ((ks.drop m).flatMap (toL d)).length = (toL (d + 1) (.br ks)).length := by
          rw [toL_succ, ← List.length_append, ← List.flatMap_append, List.take_append_drop]
        have hall : L.length = (bw (d + 1 + 1) (fms up)).length + ((toL (d + 1) (.br ks)).length + (fw (d + 1 + 1) (fms up)).length) := by rw [hL, List.length_append, List.length_append]
        have hdm : (toL d ps[m].1).length ≤ ((ks.drop m).flatMap (toL d)).length := by
          obtain ⟨hil, hie⟩ := List.getElem?_eq_some_iff.1 hks0
          rw [List.drop_eq_getElem_cons hil, List.flatMap_cons, hie, List.length_append]; omega
        have hpos : (bw (d + 1) (fms (⟨.br ks, .iface 262 (ptr b), m⟩ :: up))).length = q + 1 := by
          rw [bw_cons, List.length_append]; omega
        rw [hpos] at hat
        refine hK w4 hf4 ?_
        rw [if_pos (by omega)]
        exact hat
      · refine op_store_ok (by kernel_rfl) h1.hb (by omega) rfl fun w1 p1 z1 b1 => ?_
        refine hpop w1 (Frm.dr (Frm.dr p1)) b1 ?_
        rw [fw_cons, List.drop_of_length_le (by omega)]; rfl
  · simp [-getElem?_pos, -Array.getElem?_eq_getElem, -Int.natCast_add, ptr, h1, h4]
    refine hK wl hf ?_
    rw [if_neg (by omega)]
    exact ⟨cs, h1, h2, h3, h4⟩
theorem next_ok {q : Nat} (h : At w ib mb L (some q)) (hK : ∀ w', Frm (· = ib) w w' → At w' ib mb L (if q + 1 < L.length then some (q + 1) else none) → K (.tuple #[]) w') :
    Calls Tryz.prog 175 #[ptr ib] w (ret K Kp) := next_pop (at_pop h) hK
end Go.Proofs.YtodjijfblgnfmaaGreatDoor.T
end
section
namespace Go.Proofs.YtodjijfblgnfmaaGreatDoor.T
open Go.Vc Go.Proofs Go.Proofs.YtodjijfblgnfmaaGreatDoor Go.Vc.Bt

end Go.Proofs.YtodjijfblgnfmaaGreatDoor.T
end
section
namespace Go.Proofs.YtodjijfblgnfmaaGreatDoor.T
open Go.Vc Go.Proofs Go.Proofs.YtodjijfblgnfmaaGreatDoor Go.Vc.Bt
variable {w w' : World} {v cv : Value} {K : KV} {Kp : KP} {lt : Ky → Ky → Bool} {ib mb p : Nat} {L : List (Ky × Vl)} {cs : Array Value} {r : Root Ky Vl} {n : Nat}
theorem done_ok {q : Option Nat} (h : At w ib mb L q) (hK : K (.bool q.isNone) w) : Calls Tryz.prog 73 #[ptr ib] w (ret K Kp) := by
  refine vc73_calls ?_
  delta vc73
  match q, h with
  | none, ⟨cs, h1, h2, h3, h4⟩ =>
    simp [-getElem?_pos, -Array.getElem?_eq_getElem, -Int.natCast_add, ptr, h1, h4]
    exact hK
  | some q, ⟨cs, es, v, up, j, h1, h2⟩ =>
    have hne : ¬ ((up.length : Int) = -1) := by omega
    simp [-getElem?_pos, -Array.getElem?_eq_getElem, -Int.natCast_add, ptr, h1.hb, h1.dep, hne]
    exact hK
def It (w : World) (ib mb : Nat) : Prop := ∃ cs, w.heap[ib]? = some (.cells cs 198 (0, 0)) ∧ cs.size = 66 ∧ cs[0]? = some (ptr mb)
theorem At.it {q : Option Nat} (h : At w ib mb L q) : It w ib mb := by
  match q, h with
  | none, ⟨cs, h1, h2, h3, h4⟩ => exact ⟨cs, h1, h2, h3⟩
  | some q, ⟨cs, es, v, up, j, h1, h2⟩ => exact ⟨cs, h1.hb, h1.sz, h1.m⟩
theorem high {h : Nat} (h1 : 16 ^ h ≤ n + 1) (h2 : n < 2 ^ 60) : h ≤ 31 := by
  refine Classical.byContradiction fun hn => ?_
  have : 16 ^ 32 ≤ 16 ^ h := Nat.pow_le_pow_right (by decide) (by omega)
  have e : (16 : Nat) ^ 32 = 340282366920938463463374607431768211456 := by decide
  omega
theorem itFirst_ok (hi : It w ib mb) (hm : RepM w mb lt r) (hok : Ok lt n r) (hn : n < 2 ^ 60)
    (hK : ∀ w', Frm (· = ib) w w' → At w' ib mb (rL r) (if (rL r).length = 0 then none else some 0) → K (.tuple #[]) w') : Calls Tryz.prog 129 #[ptr ib] w (ret K Kp) := by
  refine vc129_calls ?_
  delta vc129
  obtain ⟨cs, h1, h2, h3⟩ := hi
  obtain ⟨rv, cv, m1, m2, m3⟩ := hm
  have hoff := off_Q h1
  match r, m2, hok with
  | none, m2, _ =>
    obtain rfl : rv = .nilIface := m2
    simp [-getElem?_pos, -Array.getElem?_eq_getElem, -Int.natCast_add, ptr, h1, h3, m1]
    refine op_store_ok (by kernel_rfl) h1 (by omega) rfl fun w1 k1 z1 b1 => ?_
    refine hK w1 k1 ⟨_, b1, by simp [h2], ?_, ?_⟩
    · rw [set_at (by omega), if_neg (by omega)]; exact h3
    · rw [set_at (by omega), if_pos rfl]
  | some (h, t), m2, hok =>
    obtain ⟨o1, o2, o3, o4⟩ := hok
    have hr : Rep w h t rv := m2
    obtain ⟨u, p, rfl⟩ := hr.iface
    have hh := high o4 hn
    simp [-getElem?_pos, -Array.getElem?_eq_getElem, -Int.natCast_add, ptr, h1, h3, m1]
    refine op_storeN_ok (n := 2) (by kernel_rfl) h1 rfl (by omega) (fun u hu => ?_) fun w2 k2 z2 b2 => ?_
    · simp only [List.mem_toArray, List.mem_cons, List.not_mem_nil, or_false] at hu
      rcases hu with rfl | rfl <;> rfl
    · have k2 := Frm.dr k2
      have g2 : ∀ j, (ow cs 1 [Value.iface u p, .int .i64 0])[j]? = if 1 ≤ j ∧ j < 1 + 2 then [Value.iface u p, .int .i64 0][j - 1]? else cs[j]? := fun j => ow_get (by simp; omega)
      refine op_store_ok (by kernel_rfl) b2 (by rw [ow_size]; omega) rfl fun w3 k3 z3 b3 => ?_
      have g3 : ∀ j, ((ow cs 1 [Value.iface u p, .int .i64 0]).setIfInBounds 65 (.int .i64 0))[j]? = if 65 = j then some (.int .i64 0) else (ow cs 1 [Value.iface u p, .int .i64 0])[j]? := fun j => set_at (by rw [ow_size]; omega)
      have k13 : Frm (· = ib) w w3 := k2.trans k3 fun _ h _ => h
      have hlow : Low w3 ib mb h ((ow cs 1 [Value.iface u p, .int .i64 0]).setIfInBounds 65 (.int .i64 0)) t (.iface u p) [] :=
        ⟨b3, by simp [ow_size, h2], by rw [g3, if_neg (by omega), g2, if_neg (by omega)]; exact h3, by rw [g3, if_pos rfl]; rfl, by rw [g3, if_neg (by simp), g2, if_pos (by simp)]; rfl, hr.off hoff k13, o1, trivial, trivial, by simpa using hh⟩
      have hne : 0 < (toL h t).length := List.length_pos_iff.2 (toL_ne h t o1)
      refine first_ok hlow fun w4 k4 hat => ?_
      refine hK w4 (k13.trans k4 fun _ h _ => h) ?_
      rw [if_neg (by show ¬ (toL h t).length = 0; omega)]
      have e1 : bw (h + 1) (fms []) ++ (toL h t ++ fw (h + 1) (fms [])) = rL (some (h, t)) := by
        show [] ++ (toL h t ++ []) = toL h t
        simp
      rw [e1] at hat
      exact hat
end Go.Proofs.YtodjijfblgnfmaaGreatDoor.T
end
section
namespace Go.Proofs.YtodjijfblgnfmaaGreatDoor.T
open Go.Vc Go.Proofs Go.Proofs.YtodjijfblgnfmaaGreatDoor Go.Vc.Bt
variable {w w' : World} {v : Value} {K : KV} {Kp : KP} {lt : Ky → Ky → Bool} {ib mb : Nat} {L : List (Ky × Vl)} {cs : Array Value} {r : Root Ky Vl} {n : Nat}
theorem itNext_ok {q : Nat} (h : At w ib mb L (some q)) (hK : ∀ w', Frm (· = ib) w w' → ∀ e, L[q]? = some e → At w' ib mb L (if q + 1 < L.length then some (q + 1) else none) → K (.tuple #[ek e.1, ev e.2, .bool true]) w') : Calls Tryz.prog 132 #[ptr ib] w (ret K Kp) := by
  refine vc132_calls ?_
  simp only [vc132, call_73, call_175]
  refine done_ok h ?_
  have h' := h
  obtain ⟨cs, es, v, up, j, h1, h2, h3, h4, h5⟩ := h
  have hr := h1.rep
  obtain ⟨b, g, o, c, rfl, hb, hg⟩ := hr
  obtain ⟨cur, hcur, hk⟩ := leafVal hg
  have hkj := hk j h3
  have hu := h1.len
  simp [-getElem?_pos, -Array.getElem?_eq_getElem, -Int.natCast_add, ptr, h1.hb, h1.dep, h1.node, h2, hb, hcur, hkj]
  refine ⟨by omega, h3, ?_⟩
  have f3 : Frm (fun _ => False) w w.drew.drew.drew := ((Frm.drew _).no (Frm.drew _)).no (Frm.drew _)
  refine next_ok (h'.still f3) fun w' hf hat => ?_
  refine hK w' (f3.fst hf) es[j] ?_ hat
  have e : (es ++ fw 1 (fms up))[j]? = some es[j] := by rw [List.getElem?_append_left h3, List.getElem?_eq_getElem h3]
  rw [h4, h5, List.getElem?_append_right (by omega), Nat.add_sub_cancel_left]; exact e
theorem iter_ok (hm : RepM w mb lt r) (hok : Ok lt n r) (hn : n < 2 ^ 60)
    (hK : ∀ w' ib, Frm (fun _ => False) w w' → w.heap.size ≤ ib → At w' ib mb (rL r) (if (rL r).length = 0 then none else some 0) → K (ptr ib) w') : Calls Tryz.prog 70 #[ptr mb] w (ret K Kp) := by
  refine vc70_calls ?_
  simp only [vc70, call_129]
  rw [op_build_198_0 (x0 := ptr mb) rfl]
  refine op_box_ok fun w1 k1 z1 b1 => ?_
  simp only [cells_agg] at b1
  refine itFirst_ok ⟨_, b1, rfl, rfl⟩ (hm.still k1) hok hn fun w2 k2 hat => ?_
  exact hK w2 _ (k1.old k2 fun b hb => .inr (by omega)) (Nat.le_refl _) hat
end Go.Proofs.YtodjijfblgnfmaaGreatDoor.T
end
section
namespace Go.Proofs.YtodjijfblgnfmaaGreatDoor.T
open Go.Vc Go.Proofs Go.Proofs.YtodjijfblgnfmaaGreatDoor Go.Vc.Bt
variable {w w' : World} {K : KV} {Kp : KP} {kn : Nat} {n : Int}
def kdV : Value := .agg #[.func (.func 75) #[] #[], .func (.func 76) #[] #[], .func (.func 78) #[] #[]]
def tk (s : ByteArray) : Ky := if h : s.size ≤ 1000 then ⟨s, h⟩ else ⟨⟨#[]⟩, by decide⟩
theorem tk_val {s : ByteArray} (h : s.size ≤ 1000) : (tk s).1 = s := by unfold tk; rw [dif_pos h]
def kd : Kd Ky := ⟨fun _ s => tk s, fun s i => tk (s.text ++ decI (IntKind.i64.wrap (s.key + IntKind.i64.wrap ((i : Int) * s.by')))), fun k v => ⟨0, k.1, v⟩⟩
theorem key_ok {s : ByteArray} (hs : s.size ≤ 100) (hK : K (ek (kd.key n s)) w) :
    Calls Tryz.prog 75 #[.int .i64 n, .string s] w (ret K Kp) := by
  refine vc75_calls ?_
  show K (.string s) w
  rw [show (Value.string s) = ek (kd.key n s) from by show _ = Value.string (tk s).1; rw [tk_val (by omega)]]
  exact hK
theorem pair_ok {k : Ky} {v : Vl} (hK : ∀ w', Frm (fun _ => False) w w' → K (.agg (kd.pair k v).cells.toArray) w') :
    Calls Tryz.prog 78 #[ek k, ev v] w (ret K Kp) := by
  refine vc78_calls ?_
  delta vc78
  refine op_alloc_ok (z := .agg #[.int .i64 0, .string ByteArray.empty, .int .i64 0]) (by kernel_rfl) fun w1 k1 z1 b1 => ?_
  simp only [cells_agg] at b1
  rw [op_build_49_1_2 (x1 := ek k) (x2 := ev v) rfl rfl]
  refine op_storeN_ok (n := 3) (by kernel_rfl) b1 rfl (by decide) (fun u hu => ?_) fun w2 k2 z2 b2 => ?_
  · simp only [List.mem_toArray, List.mem_cons, List.not_mem_nil, or_false] at hu
    rcases hu with rfl | rfl | rfl <;> rfl
  rw [ow_all (by simp)] at b2
  have := hK w2 (k1.old k2 fun c hc => .inr (by omega))
  simp [-getElem?_pos, -Array.getElem?_eq_getElem, -Int.natCast_add, b2]
  exact this
def ManyOk (w0 : World) : Prop := ∀ {s : SSt} {i : Nat} {w : World} {K : KV} {Kp : KP}, s.text.size ≤ 100 → Frm (fun _ => False) w0 w → (∀ w', Frm (fun _ => False) w w' → K (ek (kd.many s i)) w') →
  Calls Tryz.prog 76 #[.agg s.cells.toArray, .int .i64 i] w (ret K Kp)
theorem keys_ok (hK : ∀ w', Frm (fun _ => False) w w' → K kdV w') :
    Calls Tryz.prog 40 #[] w (ret K Kp) := by
  refine vc40_calls ?_
  delta vc40
  refine op_alloc_ok (z := .agg #[.nilFunc, .nilFunc, .nilFunc]) (by kernel_rfl) fun w1 k1 z1 b1 => ?_
  simp only [cells_agg] at b1
  rw [op_build_88_0_1_2 rfl rfl rfl]
  refine op_storeN_ok (n := 3) (by kernel_rfl) b1 rfl (by decide) (fun u hu => ?_) fun w2 k2 z2 b2 => ?_
  · simp only [List.mem_toArray, List.mem_cons, List.not_mem_nil, or_false] at hu
    rcases hu with rfl | rfl | rfl <;> rfl
  rw [ow_all (by simp)] at b2
  have := hK w2 (k1.old k2 fun c hc => .inr (by omega))
  simp [-getElem?_pos, -Array.getElem?_eq_getElem, -Int.natCast_add, b2]
  exact this
def orderV (kn : Nat) (n : Int) : Value := .agg #[.int .u8 kn, .int .i64 n]
theorem comparer_ok (h1 : -9223372036854775808 ≤ n) (h2 : n ≤ 9223372036854775807) (hK : ∀ cv w', Frm (fun _ => False) w w' → CmpOk cv (ordI kn n) none → K cv w') :
    Calls Tryz.prog 41 #[orderV kn n] w (ret K Kp) := by
  refine vc41_calls ?_
  delta vc41 orderV
  refine op_box_ok fun w1 k1 z1 b1 => ?_
  simp only [cells_agg] at b1
  have hx : (#[.int .u8 kn, .int .i64 n] : Array Value).extract 0 2 = #[.int .u8 kn, .int .i64 n] := rfl
  simp [-getElem?_pos, -Array.getElem?_eq_getElem, -Int.natCast_add, b1, hx]
  refine ⟨fun h => ?_, fun h => ?_⟩
  · have h : kn = 0 := by omega
    subst h
    have e : ordI 0 n = ordI 0 0 := by
      rfl
    exact hK .nilIface w1 k1 (.inr ⟨rfl, by rw [e]; exact dflt_ok, rfl⟩)
  · exact hK (cmpV kn n) w1 k1 (.inl (cmpV_ok h1 h2))
end Go.Proofs.YtodjijfblgnfmaaGreatDoor.T
end
section
namespace Go.Proofs.YtodjijfblgnfmaaGreatDoor
open Go.Vc Go.Proofs
variable {S : Sig} {a0 a1 a2 a3 a4 a5 a6 a7 a8 a9 : Value} {w : World} {K : KV} {Kp : KP}
private theorem follows_BVcKT : Tryz.prog.follows .mixedOrders = true := by kernel_rfl
def vc69 (S : Sig) (a0 a1 : Value) (w : World) (K : KV) (Kp : KP) : Prop :=
 S.op (.box 88 a0) w (fun v2 w =>
 Lp fun (I2 : KV) (μ2 : Value → World → Nat) => I2 (.slice none 0 0) w ∧
 ∀ (wl2 : World) (_ : Nat → Value) (s5 : Value), I2 s5 wl2 →
 S.call (.fn 73) [a1] wl2 (fun v10 w =>
 S.op (.un .not v10) w (fun v11 w =>
 Br v11 (
 S.call (.fn 132) [a1] w (fun v14 w =>
 S.op (.extract v14 0) w (fun v15 w =>
 S.op (.extract v14 1) w (fun v16 w =>
 S.op (.extract v14 2) w (fun v17 w =>
 S.op (.fieldAddr 88 v2 2) w (fun v19 w =>
 S.op (.load 86 v19) w (fun v20 w =>
 S.call (.val v20) [v15, v16] w (fun v23 w =>
 S.op (.buildSlice 46 1 [(0, v23)]) w (fun v24 w =>
 S.op (.blt .append [46, 46] 46 [s5, v24]) w (fun v25 w =>
 I2 v25 w ∧ μ2 v25 w < μ2 s5 wl2) Kp) Kp) Kp) Kp) Kp) Kp) Kp) Kp) Kp) (
 K s5 w)) Kp) Kp) Kp
theorem vc69_eq : vc69 S a0 a1 w K Kp = fVC S [(2, [5])] [] Tryz.f69 [a0, a1] w K Kp := by kernel_rfl
theorem vc69_calls (h : vc69 nP a0 a1 w K Kp) : Calls Tryz.prog 69 #[a0, a1] w (ret K Kp) :=
 fVC_sound (args := [a0, a1]) nice_le follows_BVcKT Tryz.func69 (by kernel_rfl) (Eq.mp vc69_eq h)
end Go.Proofs.YtodjijfblgnfmaaGreatDoor
end
section
namespace Go.Proofs.YtodjijfblgnfmaaGreatDoor.T
open Go.Vc Go.Proofs Go.Proofs.YtodjijfblgnfmaaGreatDoor Go.Vc.Bt
variable {w w' : World} {v cv : Value} {K : KV} {Kp : KP} {lt : Ky → Ky → Bool} {ib mb d p : Nat} {L : List (Ky × Vl)} {cs cs' : Array Value} {s : Tr} {r : Root Ky Vl} {n : Nat} {M : Nat → Prop}
def NoNode (w : World) (M : Nat → Prop) : Prop := ∀ c, M c → Off w c ∨ w.heap.size ≤ c
theorem NoNode.ne {b : Nat} {cs : Array Value} {e : TypeId} {fz : Nat × Nat} (h : NoNode w M) (hb : w.heap[b]? = some (.cells cs e fz)) (he : e = 206 ∨ e = 203 ∨ e = 267 ∨ e = 269) : ¬ M b := fun hm => by
  rcases h b hm with ⟨cs', e', fz', q1, q2, q3, q4, q5⟩ | h
  · rw [hb] at q1
    cases q1
    rcases he with he | he | he | he
    · exact q2 he
    · exact q3 he
    · exact q4 he
    · exact q5 he
  · have := lt_of_get hb; omega
theorem Rep.keep (ho : NoNode w M) (hf : Frm M w w') : ∀ {h : Nat} {t : Tr} {v : Value}, Rep w h t v → Rep w' h t v
  | 0, .leaf es, v, hr => by
    obtain ⟨b, g, o, c, h1, h2, h3⟩ := hr
    obtain ⟨cs', p1, p2⟩ := id h3
    exact ⟨b, g, o, c, h1, hf.get h2 (ho.ne h2 (.inl rfl)), h3.frame hf (ho.ne p1 (.inr (.inl rfl)))⟩
  | h + 1, .br ks, v, hr => by
    obtain ⟨b, g, o, c, ps, h1, h2, h3, h4, h5⟩ := hr
    have hrec := fun p hp => Rep.keep ho hf (h5 p hp)
    obtain ⟨cs', p1, p2⟩ := id h4
    exact ⟨b, g, o, c, ps, h1, hf.get h2 (ho.ne h2 (.inr (.inr (.inl rfl)))), h3, h4.frame hf (ho.ne p1 (.inr (.inr (.inr rfl)))), hrec⟩
  | 0, .br ks, v, hr => hr.elim
  | h + 1, .leaf es, v, hr => hr.elim
theorem RepR.keep (ho : NoNode w M) (hf : Frm M w w') (h : RepR w r v) : RepR w' r v := by
  match r, h with
  | none, h => exact h
  | some (h, t), hr => exact Rep.keep ho hf hr
theorem RepM.keep {b : Nat} (ho : NoNode w M) (hf : Frm M w w') (h : RepM w b lt r) (hb : ¬ M b) : RepM w' b lt r := by
  obtain ⟨rv, cv, h1, h2, h3⟩ := h
  exact ⟨rv, cv, hf.get h1 hb, h2.keep ho hf, h3⟩
theorem Stk.keep (ho : NoNode w M) (hf : Frm M w w') : ∀ {fs : List Fr} {d : Nat}, Stk w cs d fs → Stk w' cs d fs
  | [], _, _ => trivial
  | r :: fs, d, h => ⟨h.1, h.2.1, h.2.2.1.keep ho hf, h.2.2.2.1, Stk.keep ho hf h.2.2.2.2⟩
theorem At.keep {q : Option Nat} (ho : NoNode w M) (hf : Frm M w w') (h : At w ib mb L q) (hb : ¬ M ib) : At w' ib mb L q := by
  match q, h with
  | none, ⟨cs, h1, h2⟩ => exact ⟨cs, hf.get h1 hb, h2⟩
  | some p, ⟨cs, es, v, up, j, h1, h2⟩ => exact ⟨cs, es, v, up, j, ⟨hf.get h1.hb hb, h1.sz, h1.m, h1.dep, h1.node, h1.rep.keep ho hf, h1.wf, h1.stk.keep ho hf, h1.ab, h1.len⟩, h2⟩
theorem At.below {q : Option Nat} (h : At w ib mb L q) : ib < w.heap.size := by obtain ⟨cs, h1, _⟩ := h.it; exact lt_of_get h1
theorem rows_off {α : Type} {El : World → List Value → α → (Nat → Prop) → Prop} {base e s : Nat} {l : Value} {ys : List α} {G : Nat → Prop} (h : RowsOf El w base e s l ys G) (he : e ≠ 206 ∧ e ≠ 203 ∧ e ≠ 267 ∧ e ≠ 269) : NoNode w (fun b => some b = l.ownBlock) := fun c hc => by
  obtain ⟨⟨us, h1, h2, h3, h4⟩, _⟩ := h
  obtain ⟨h5, ⟨rfl, h6⟩ | ⟨g, cap, cur, rfl, k3, k4, k5⟩⟩ := h3
  · cases hc
  · have : c = g := Option.some.inj hc
    subst this
    exact .inl ⟨_, _, _, k4, he⟩
theorem apSP : apOf Tryz.prog 46 = some (49, 3, 32) := by kernel_rfl
theorem lit_sp (p : SPr) : sliceLit Tryz.prog 46 1 [(0, .agg p.cells.toArray)] = some (49, p.cells.toArray) := lit_46_1
def restOf (L : List (Ky × Vl)) : Option Nat → List (Ky × Vl)
  | none => []
  | some q => L.drop q
def nextOf (L : List (Ky × Vl)) (q : Nat) : Option Nat := if q + 1 < L.length then some (q + 1) else none
theorem restOf_next {q : Nat} {e : Ky × Vl} (h : L[q]? = some e) : restOf L (some q) = e :: restOf L (nextOf L q) := by
  obtain ⟨hq, rfl⟩ := List.getElem?_eq_some_iff.1 h
  unfold nextOf
  split
  · exact List.drop_eq_getElem_cons hq
  · show L.drop q = L[q] :: []
    rw [List.drop_eq_getElem_cons hq, List.drop_of_length_le (by omega)]
def prs (L : List (Ky × Vl)) : List SPr := L.map fun e => kd.pair e.1 e.2
theorem pairsOf_ok {q0 : Option Nat} (h : At w ib mb L q0) (hL : L.length < 2 ^ 31)
    (hK : ∀ pv w', Frm (· = ib) w w' → RowsOf (Flat SPr.cells) w' w.heap.size 49 3 pv (prs (restOf L q0)) (fun _ => False) → K pv w') :
    Calls Tryz.prog 69 #[kdV, ptr ib] w (ret K Kp) := by
  refine vc69_calls ?_
  delta vc69
  refine op_box_ok fun w1 k1 z1 b1 => ?_
  simp only [kdV, cells_agg] at b1
  have hib := h.below
  have n1 := k1.size
  obtain ⟨I, hI⟩ : ∃ I : KV, ∀ l wl, I l wl ↔ ∃ (q : Option Nat) (D : List (Ky × Vl)), D ++ restOf L q = restOf L q0 ∧ Frm (· = ib) w1 wl ∧ At wl ib mb L q ∧ (∀ x, q = some x → x < L.length) ∧
      RowsOf (Flat SPr.cells) wl w1.heap.size 49 3 l (prs D) (fun _ => False) := ⟨_, fun _ _ => Iff.rfl⟩
  refine Lp.intro I (fun l _ => L.length - (match l with | .slice _ n _ => n | _ => 0)) ⟨(hI _ _).2 ⟨q0, [], rfl, Frm.refl, h.still k1, fun x hx => ?_, rows_nil⟩, ?_⟩
  · subst hx
    obtain ⟨cs, es, v, up, j, h1, h2, h3, h4, h5⟩ := h
    rw [h4, h5]; simp; omega
  intro wl _ l hl
  obtain ⟨q, D, hD, kl, hA, hq, hR⟩ := (hI _ _).1 hl
  have nl := kl.size
  have bl := kl.get b1 (by omega)
  have hlow := hR.own_lt
  simp only [call_73]
  refine done_ok hA ?_
  match q, hA, hD, hq with
  | none, hA, hD, hq =>
    simp [-getElem?_pos, -Array.getElem?_eq_getElem, -Int.natCast_add]
    rw [show D = restOf L q0 from by rw [← hD]; simp [restOf]] at hR
    exact hK l wl (k1.fst kl) (hR.base_le n1)
  | some q, hA, hD, hq =>
    have hql := hq q rfl
    have hget : L[q]? = some L[q] := List.getElem?_eq_getElem hql
    simp [-getElem?_pos, -Array.getElem?_eq_getElem, -Int.natCast_add]
    refine itNext_ok hA fun w2 k2 e he hA2 => ?_
    have e2 : e = L[q] := Option.some.inj (he.symm.trans hget)
    subst e2
    have n2 := k2.size
    have b2 := k2.get bl (by omega)
    have hR2 := hR.frame (flat_ok _) k2 (fun _ h => h.elim) fun b hb he => by have := hlow b hb; omega
    simp [-getElem?_pos, -Array.getElem?_eq_getElem, -Int.natCast_add, b2, call_val (P := Tryz.prog) (x := #[]) (y := #[]) (f := 78) (by kernel_rfl)]
    refine pair_ok fun w3 k3 => ?_
    have hR3 := hR2.still (flat_ok _) k3
    have hA3 := hA2.still k3
    have hlen : (prs D).length = D.length := by simp [prs]
    have hDl : D.length + 1 ≤ L.length := by
      have := congrArg List.length hD
      rw [restOf_next hget] at this
      simp only [List.length_append, List.length_cons] at this
      have : (restOf L q0).length ≤ L.length := by cases q0 <;> simp [restOf]
      omega
    refine op_push (u := (kd.pair L[q].1 L[q].2).cells) (flat_ok SPr.cells) apSP (lit_sp _) rfl (SPr.one _) hR3 rfl (G2 := fun _ => False) (fun _ h => h.elim) (fun _ _ h => h) (by omega) (by have := k3.size; omega) fun l' w4 k4 hR4 ho4 => ?_
    have hlow3 := hR3.own_lt
    have hA4 : At w4 ib mb L (nextOf L q) := At.keep (rows_off hR3 (by decide)) k4 hA3 (fun he => by have := hlow3 ib he.symm; omega)
    refine ⟨(hI _ _).2 ⟨nextOf L q, D ++ [L[q]], ?_, ((kl.trans k2 fun _ h _ => h).trans k3 fun _ h _ => h.elim).old k4 fun c hc => .inr (hlow3 c hc.symm).1, hA4, fun x hx => ?_, ?_⟩, ?_⟩
    · rw [← hD, restOf_next hget, List.append_assoc]; rfl
    · unfold nextOf at hx; split at hx
      · cases hx; assumption
      · cases hx
    · rw [show prs (D ++ [L[q]]) = prs D ++ [kd.pair L[q].1 L[q].2] from by simp [prs]]
      exact hR4.mono (flat_ok _) (fun _ h => h.elim id fun h => h) (fun _ h => h.elim) fun _ _ h => h
    · obtain ⟨a0, c0, rfl, _⟩ := hR.slice
      obtain ⟨a1, c1, rfl, _⟩ := hR4.slice
      simp only [List.length_append, List.length_singleton, hlen]; omega
end Go.Proofs.YtodjijfblgnfmaaGreatDoor.T
end
section
namespace Go.Proofs.YtodjijfblgnfmaaGreatDoor.T
open Go.Vc Go.Proofs Go.Proofs.YtodjijfblgnfmaaGreatDoor Go.Vc.Bt
variable {w w' : World} {cv : Value} {K : KV} {Kp : KP} {lt : Ky → Ky → Bool} {k : Ky} {ib mb b : Nat} {L : List (Ky × Vl)} {cs : Array Value} {s : Tr} {r : Root Ky Vl} {N : Nat} {M : Nat → Prop}
def Quiet (w : World) (M : Nat → Prop) : Prop := ∀ c, M c → (∃ cs e fz, w.heap[c]? = some (.cells cs e fz) ∧ e ≠ 206 ∧ e ≠ 203 ∧ e ≠ 267 ∧ e ≠ 269 ∧ e ≠ 190) ∨ w.heap.size ≤ c
theorem Quiet.node (h : Quiet w M) : NoNode w M := fun c hc => (h c hc).imp (fun ⟨cs, e, fz, h1, h2, h3, h4, h5, h6⟩ => ⟨cs, e, fz, h1, h2, h3, h4, h5⟩) id
theorem RepM.quiet (h : RepM w b lt r) (hq : Quiet w M) (hf : Frm M w w') : RepM w' b lt r := h.keep hq.node hf fun hm => by
  obtain ⟨rv, cv, h1, _⟩ := h
  rcases hq b hm with ⟨cs, e, fz, q1, q2, q3, q4, q5, q6⟩ | h
  · rw [h1] at q1; cases q1; exact q6 rfl
  · have := lt_of_get h1; omega
theorem rows_quiet {α : Type} {El : World → List Value → α → (Nat → Prop) → Prop} {base e s : Nat} {l : Value} {ys : List α} {G : Nat → Prop} (h : RowsOf El w base e s l ys G) (he : e ≠ 206 ∧ e ≠ 203 ∧ e ≠ 267 ∧ e ≠ 269 ∧ e ≠ 190) : Quiet w (fun b => some b = l.ownBlock) := fun c hc => by
  obtain ⟨⟨us, h1, h2, h3, h4⟩, _⟩ := h
  obtain ⟨h5, ⟨rfl, h6⟩ | ⟨g, cap, cur, rfl, k3, k4, k5⟩⟩ := h3
  · cases hc
  · have : c = g := Option.some.inj hc
    subst this
    exact .inl ⟨_, _, _, k4, he⟩
theorem rows_ty {α : Type} {El : World → List Value → α → (Nat → Prop) → Prop} {base e s : Nat} {l : Value} {ys : List α} {G : Nat → Prop} (h : RowsOf El w base e s l ys G) : ∀ b, l.ownBlock = some b → ∃ cs, w.heap[b]? = some (.cells cs e (0, 0)) := fun c hc => by
  obtain ⟨⟨us, h1, h2, h3, h4⟩, _⟩ := h
  obtain ⟨h5, ⟨rfl, h6⟩ | ⟨g, cap, cur, rfl, k3, k4, k5⟩⟩ := h3
  · cases hc
  · have : g = c := Option.some.inj hc
    subst this
    exact ⟨_, k4⟩
def Ver (w : World) (b : Nat) (lt : Ky → Ky → Bool) (N : Nat) (L : List (Ky × Vl)) : Prop := ∃ r, RepM w b lt r ∧ Ok lt N r ∧ rL r = L
theorem Ver.still (h : Ver w b lt N L) (hf : Frm (fun _ => False) w w') : Ver w' b lt N L := by obtain ⟨r, h1, h2⟩ := h; exact ⟨r, h1.still hf, h2⟩
theorem Ver.quiet (h : Ver w b lt N L) (hq : Quiet w M) (hf : Frm M w w') : Ver w' b lt N L := by obtain ⟨r, h1, h2⟩ := h; exact ⟨r, h1.quiet hq hf, h2⟩
theorem Ver.mono {m : Nat} (h : Ver w b lt N L) (hm : N ≤ m) : Ver w b lt m L := by obtain ⟨r, h1, h2, h3⟩ := h; exact ⟨r, h1, h2.mono hm, h3⟩
theorem Ver.sd (h : Ver w b lt N L) : Sd lt L := by obtain ⟨r, h1, h2, rfl⟩ := h; exact h2.sd
def DelOk (lt : Ky → Ky → Bool) : Prop := ∀ {w : World} {b N : Nat} {L : List (Ky × Vl)} {k : Ky} {K : KV} {Kp : KP}, Ver w b lt N L → L.length < 2 ^ 60 → (∀ w' b', Frm (fun _ => False) w w' → Ver w' b' lt N (rem lt L k) → K (ptr b') w') → Calls Tryz.prog 67 #[ptr b, ek k] w (ret K Kp)
def GetOk (lt : Ky → Ky → Bool) : Prop := ∀ {w : World} {b N : Nat} {L : List (Ky × Vl)} {k : Ky} {K : KV} {Kp : KP}, Ver w b lt N L → (∀ w', Frm (fun _ => False) w w' → K (gotV (got lt L k)) w') → Calls Tryz.prog 68 #[ptr b, ek k] w (ret K Kp)
theorem getOk (hl : Lin lt) : GetOk lt := fun {w b N L k K Kp} h hK => by
  obtain ⟨r, h1, h2, rfl⟩ := h
  refine mapGet_ok h1 h2 (k := k) fun w' hf => ?_
  rw [getR_spec hl h2 k]
  exact hK w' hf
theorem ver_len (h : Ver w b lt N L) (hK : K (.int .i64 L.length) w) : Calls Tryz.prog 71 #[ptr b] w (ret K Kp) := by
  obtain ⟨r, h1, h2, rfl⟩ := h
  exact len_ok h1 hK
theorem ver_iter (h : Ver w b lt N L) (hN : N < 2 ^ 60) (hK : ∀ w' ib, Frm (fun _ => False) w w' → w.heap.size ≤ ib → At w' ib b L (if L.length = 0 then none else some 0) → K (ptr ib) w') : Calls Tryz.prog 70 #[ptr b] w (ret K Kp) := by
  obtain ⟨r, h1, h2, rfl⟩ := h
  exact iter_ok h1 h2 hN hK
def BackOk (lt : Ky → Ky → Bool) : Prop :=
  (∀ {w : World} {ib mb N : Nat} {L : List (Ky × Vl)} {q : Option Nat} {K : KV} {Kp : KP}, At w ib mb L q → Ver w mb lt N L → N < 2 ^ 60 → (∀ w', Frm (· = ib) w w' → At w' ib mb L (if L.length = 0 then none else some (L.length - 1)) → K (.tuple #[]) w') → Calls Tryz.prog 72 #[ptr ib] w (ret K Kp)) ∧
  ∀ {w : World} {ib mb q : Nat} {L : List (Ky × Vl)} {K : KV} {Kp : KP}, At w ib mb L (some q) → (∀ w', Frm (· = ib) w w' → ∀ e, L[q]? = some e → At w' ib mb L (if 0 < q then some (q - 1) else none) → K (.tuple #[ek e.1, ev e.2, .bool true]) w') → Calls Tryz.prog 74 #[ptr ib] w (ret K Kp)
theorem restOf_zero {L : List (Ky × Vl)} : restOf L (if L.length = 0 then none else some 0) = L := by
  split
  · rename_i h; exact (List.eq_nil_of_length_eq_zero h).symm
  · rfl
end Go.Proofs.YtodjijfblgnfmaaGreatDoor.T
end
section
namespace Go.Proofs.YtodjijfblgnfmaaGreatDoor.T
open Go.Vc Go.Proofs Go.Proofs.YtodjijfblgnfmaaGreatDoor Go.Vc.Bt
variable {w : World} {lt : Ky → Ky → Bool} {d b : Nat} {L : List (Ky × Vl)} {cs : Array Value} {s : Tr} {N : Nat}
theorem apO : apOf Tryz.prog 120 = some (118, 1, 8) := by kernel_rfl
theorem apA : apOf Tryz.prog 28 = some (56, 4, 48) := by kernel_rfl
theorem lit_ans (a b c d : Value) : sliceLit Tryz.prog 28 1 [(0, .agg #[a, b, c, d])] = some (56, [a, b, c, d].toArray) := lit_28_1
def midA (lt : Ky → Ky → Bool) (s : SSt) (L : List (Ky × Vl)) : SAns := if (newV lt kd s L).isSome then zeroA else ansV lt kd s L
structure Mid (lt : Ky → Ky → Bool) (s : SSt) (N : Nat) (L : List (Ky × Vl)) (ab : Nat) (wA wz : World) (b' : Nat) (pv : Value) : Prop where
  frm : Frm (· = ab) wA wz
  ver : Ver wz b' lt (N + s.cost) ((newV lt kd s L).getD L)
  cell : wz.heap[ab]? = some (.cells #[.int .i64 (midA lt s L).value, .int .i64 (midA lt s L).n, .bool (midA lt s L).ok, pv] 56 (0, 0))
  row : IsSl wz pv (midA lt s L).list.length ((midA lt s L).list.flatMap SPr.cells)
  own : ∀ c, pv.ownBlock = some c → wA.heap.size ≤ c ∧ ∃ cs, wz.heap[c]? = some (.cells cs 49 (0, 0))
theorem quiet_ans {c : Nat} {cs : Array Value} (h : w.heap[c]? = some (.cells cs 56 (0, 0))) : Quiet w (· = c) := fun x hx => by
  subst hx; exact .inl ⟨_, _, _, h, by decide, by decide, by decide, by decide, by decide⟩
end Go.Proofs.YtodjijfblgnfmaaGreatDoor.T
end
section
namespace Go.Proofs.YtodjijfblgnfmaaGreatDoor.T
open Go.Vc Go.Proofs Go.Proofs.YtodjijfblgnfmaaGreatDoor Go.Vc.Bt
variable {w : World} {K : KV} {Kp : KP}
theorem call_key {args : List Value} : nP.call (.val (.func (.func 75) #[] #[])) args w K Kp = Calls Tryz.prog 75 args.toArray w (ret K Kp) := by
  rw [call_val (by kernel_rfl)]; simp
end Go.Proofs.YtodjijfblgnfmaaGreatDoor.T
end
section
namespace Go.Proofs.YtodjijfblgnfmaaGreatDoor
open Go.Vc Go.Proofs
theorem catch_panicking (p : Addr) (x : Bool) (u : TypeId) (pv : Value) (older : List PanicEntry) (w : World) (hc : w.cell? p = some (.bool x)) (hz : w.frozen? p = false) :
    CallsD Tryz.prog 63 #[.pointer (some p)] (.panicking ({ v := .iface u pv, recovered := false } :: older)) w fun e u' w' =>
      e = .returned (.tuple #[]) ∧ u' = .panicking ({ v := .iface u pv, recovered := true } :: older) ∧ w' = w.setCell p (.bool true) := by
  refine callsD_of_wpS Tryz.func63 rfl fun c₀ cs hu => ?_
  apply wpS_region
  simp [wpOpsS, go_sem, recoverD, hu, Tryz.ntmps63, Exit.thenS, hc, hz, bodyPostS, results, Tryz.results63]
theorem catch_idle (p : Addr) (x : Bool) (w : World) (hc : w.cell? p = some (.bool x)) (hz : w.frozen? p = false) :
    CallsD Tryz.prog 63 #[.pointer (some p)] .returning w fun e u' w' => e = .returned (.tuple #[]) ∧ u' = .returning ∧ w' = w.setCell p (.bool false) := by
  refine callsD_of_wpS Tryz.func63 rfl fun c₀ cs hu => ?_
  apply wpS_region
  simp [wpOpsS, go_sem, recoverD, hu, Tryz.ntmps63, Exit.thenS, hc, hz, bodyPostS, results, Tryz.results63]
  cases c₀
  simp_all
theorem cell_at {w : World} {b : Nat} {v : Value} (h : w.heap[b]? = some (.cells #[v] 4 (0, 0))) : w.cell? ⟨b, 0, none⟩ = some v := by simp [World.cell?, h]
theorem frozen_at {w : World} {b : Nat} {v : Value} (h : w.heap[b]? = some (.cells #[v] 4 (0, 0))) : w.frozen? ⟨b, 0, none⟩ = false := by simp [World.frozen?, h]
theorem bool_set {w : World} {b : Nat} {v u : Value} (h : w.heap[b]? = some (.cells #[v] 4 (0, 0))) : w.setCell ⟨b, 0, none⟩ u = w.upd b (.cells #[u] 4 (0, 0)) := by
  rw [setCell_upd (p := ⟨b, 0, none⟩) h rfl]; rfl
theorem thrown_ok {f : FuncId} {x y : Array Value} {w : World} {K : KV} {Kp : KP} (hf : callFn Tryz.prog f = true)
    (hcall : Calls Tryz.prog f (x ++ y) (w.alloc (.cells #[.bool false] 4)) (ret (fun _ w' => w'.heap[w.heap.size]? = some (.cells #[.bool false] 4 (0, 0)) ∧ K (.bool false) w')
      (fun ch w' => ∃ u pv, ch = [{ v := .iface u pv, recovered := false }] ∧ w'.heap[w.heap.size]? = some (.cells #[.bool false] 4 (0, 0)) ∧ K (.bool true) (w'.upd w.heap.size (.cells #[.bool true] 4 (0, 0)))))) :
    Calls Tryz.prog 37 #[.func (.func f) x y] w (ret K Kp) := by
  have hmf : ∀ (fn : Fn) (first cap : Array Value) (w : World), (Instr.makeFunc fn first cap).run Tryz.prog w = .ok (.func fn first cap) w := fun _ _ _ _ => rfl
  go_enter_defers Tryz.func37, Tryz.ntmps37
  go_wp2
  rw [callFunc_run hf, Oper.upon_enter]
  refine hcall.mono ?_
  intro e w' he
  cases e with
  | returned v =>
    obtain ⟨hh, hK⟩ := he
    have hc := cell_at hh
    have hz := frozen_at hh
    have hs := fun u => bool_set (u := u) hh
    dsimp only
    go_wp2
    have hid : w'.upd w.heap.size (.cells #[.bool false] 4) = w' := upd_id hh
    rw [hid]
    refine leaves_cons (f := 63) (args := #[.pointer (some ⟨w.heap.size, 0, none⟩)]) (by simp) (by simp [go_sem]) ?_
    refine (catch_idle ⟨w.heap.size, 0, none⟩ false w' hc hz).mono ?_
    rintro e u' w'' ⟨rfl, rfl, rfl⟩
    rw [hs, hid]
    simp [Leaves, settle, results, Tryz.results37, go_sem, hc]
    exact hK
  | panicked ch =>
    obtain ⟨u, pv, rfl, hh, hK⟩ := he
    have hc := cell_at hh
    have hz := frozen_at hh
    have hs := fun u => bool_set (u := u) hh
    have hc2 := cell_at (heap_upd_same (o := .cells #[.bool true] 4 (0, 0)) hh)
    refine leaves_cons (f := 63) (args := #[.pointer (some ⟨w.heap.size, 0, none⟩)]) (by simp) (by simp [go_sem]) ?_
    refine (catch_panicking ⟨w.heap.size, 0, none⟩ false u pv [] w' hc hz).mono ?_
    rintro e u' w'' ⟨rfl, rfl, rfl⟩
    rw [hs]
    simp [Leaves, settle, results, Tryz.results37, go_sem, hc2]
    exact hK
  | outgrown => exact he.elim
end Go.Proofs.YtodjijfblgnfmaaGreatDoor
end
section
namespace Go.Proofs.YtodjijfblgnfmaaGreatDoor
open Go.Vc Go.Proofs Go.Vc.Bt
variable {w : World} {n : Int} {kn : Nat} {text : Bool}
def orderV (kn : Nat) (n : Int) : Value := .agg #[.int .u8 kn, .int .i64 n]
structure Asks (text : Bool) (kn : Nat) (n : Int) (steps : List SSt) (w : World) : Prop where
  texts : ∀ s ∈ steps, s.text.size ≤ 100
  cost : scost steps < 2 ^ 30
  del : (∃ s ∈ steps, s.op = 1 ∨ s.op = 6) → I.DelOk (I.ordI kn n) ∧ T.DelOk (T.ordI kn n)
  get : (∃ s ∈ steps, s.op = 2) → I.GetOk (I.ordI kn n) ∧ T.GetOk (T.ordI kn n)
  back : (∃ s ∈ steps, s.op = 4) → I.BackOk (I.ordI kn n) ∧ T.BackOk (T.ordI kn n)
  many : (∃ s ∈ steps, s.op = 5 ∨ s.op = 6) → text = true → T.ManyOk w
end Go.Proofs.YtodjijfblgnfmaaGreatDoor
end
section
namespace Go.Proofs.YtodjijfblgnfmaaGreatDoor
open Go.Vc Go.Proofs
variable {w : World} {K : KV} {Kp : KP} {K1 : Value → Prop}
@[simp] theorem op_fa_23_0 {p : Addr} : nP.op (.fieldAddr 23 (.pointer (some p)) 0) w K Kp = K (.pointer (some (p.add 0))) w := op_fa (k := .one) (by kernel_rfl)
@[simp] theorem pur_fa_23_0 {p : Addr} : nP.pur (.fieldAddr 23 (.pointer (some p)) 0) K1 = K1 (.pointer (some (p.add 0))) := pur_fa (k := .one) (by kernel_rfl)
@[simp] theorem op_fa_23_1 {p : Addr} : nP.op (.fieldAddr 23 (.pointer (some p)) 1) w K Kp = K (.pointer (some (p.add 1))) w := op_fa (k := .one) (by kernel_rfl)
@[simp] theorem pur_fa_23_1 {p : Addr} : nP.pur (.fieldAddr 23 (.pointer (some p)) 1) K1 = K1 (.pointer (some (p.add 1))) := pur_fa (k := .one) (by kernel_rfl)
@[simp] theorem op_ld_23 {p : Addr} : nP.op (.load 23 (.pointer (some p))) w K Kp = ∃ cs e fz, w.heap[p.block]? = some (.cells cs e fz) ∧ p.spot = none ∧ p.off + 2 ≤ cs.size ∧ K (.agg (cs.extract p.off (p.off + 2))) w := op_ldn (by kernel_rfl)
@[simp] theorem ld_ld_23 {p : Addr} : nP.ld (.load 23 (.pointer (some p))) w K1 = ∃ cs e fz, w.heap[p.block]? = some (.cells cs e fz) ∧ p.spot = none ∧ p.off + 2 ≤ cs.size ∧ K1 (.agg (cs.extract p.off (p.off + 2))) := ld_ldn (by kernel_rfl)
@[simp] theorem same_ld_23 {p : Addr} {v : Value} : nP.same (.load 23 (.pointer (some p))) v w = ∃ cs e fz, w.heap[p.block]? = some (.cells cs e fz) ∧ p.spot = none ∧ p.off + 2 ≤ cs.size ∧ .agg (cs.extract p.off (p.off + 2)) = v := same_ldn (by kernel_rfl)
@[simp] theorem call_29 {args : List Value} : nP.call (.fn 29) args w K Kp = Calls Tryz.prog 29 args.toArray w (ret K Kp) := call_fn (by kernel_rfl)
@[simp] theorem op_len_38 {a : Option Addr} {n c ty : Nat} : nP.op (.blt .len [38] ty [.slice a n c]) w K Kp = K (.int .i64 n) w := op_len_slice (by kernel_rfl)
@[simp] theorem pur_len_38 {a : Option Addr} {n c ty : Nat} : nP.pur (.blt .len [38] ty [.slice a n c]) K1 = K1 (.int .i64 n) := pur_len_slice (by kernel_rfl)
@[simp] theorem ld_len_38 {a : Option Addr} {n c ty : Nat} : nP.ld (.blt .len [38] ty [.slice a n c]) w K1 = K1 (.int .i64 n) := ld_len_slice (by kernel_rfl)
@[simp] theorem same_len_38 {a : Option Addr} {n c ty : Nat} {u : Value} : nP.same (.blt .len [38] ty [.slice a n c]) u w = (.int .i64 n = u) := same_len_slice (by kernel_rfl)
@[simp] theorem op_ix_38 {p : Addr} {len cap : Nat} {k : IntKind} {j : Int} : nP.op (.indexAddr 38 (.slice (some p) len cap) (.int k j)) w K Kp = ((0 ≤ j ∧ j < (len : Int)) ∧ K (.pointer (some (p.add (j.toNat * 3)))) w) := op_ix_slice (e := 45) (by kernel_rfl)
@[simp] theorem pur_ix_38 {p : Addr} {len cap : Nat} {k : IntKind} {j : Int} : nP.pur (.indexAddr 38 (.slice (some p) len cap) (.int k j)) K1 = ((0 ≤ j ∧ j < (len : Int)) ∧ K1 (.pointer (some (p.add (j.toNat * 3))))) := pur_ix_slice (e := 45) (by kernel_rfl)
@[simp] theorem op_ld_45 {p : Addr} : nP.op (.load 45 (.pointer (some p))) w K Kp = ∃ cs e fz, w.heap[p.block]? = some (.cells cs e fz) ∧ p.spot = none ∧ p.off + 3 ≤ cs.size ∧ K (.agg (cs.extract p.off (p.off + 3))) w := op_ldn (by kernel_rfl)
@[simp] theorem ld_ld_45 {p : Addr} : nP.ld (.load 45 (.pointer (some p))) w K1 = ∃ cs e fz, w.heap[p.block]? = some (.cells cs e fz) ∧ p.spot = none ∧ p.off + 3 ≤ cs.size ∧ K1 (.agg (cs.extract p.off (p.off + 3))) := ld_ldn (by kernel_rfl)
@[simp] theorem same_ld_45 {p : Addr} {v : Value} : nP.same (.load 45 (.pointer (some p))) v w = ∃ cs e fz, w.heap[p.block]? = some (.cells cs e fz) ∧ p.spot = none ∧ p.off + 3 ≤ cs.size ∧ .agg (cs.extract p.off (p.off + 3)) = v := same_ldn (by kernel_rfl)
@[simp] theorem op_fa_45_1 {p : Addr} : nP.op (.fieldAddr 45 (.pointer (some p)) 1) w K Kp = K (.pointer (some (p.add 1))) w := op_fa (k := .one) (by kernel_rfl)
@[simp] theorem pur_fa_45_1 {p : Addr} : nP.pur (.fieldAddr 45 (.pointer (some p)) 1) K1 = K1 (.pointer (some (p.add 1))) := pur_fa (k := .one) (by kernel_rfl)
@[simp] theorem op_fa_45_0 {p : Addr} : nP.op (.fieldAddr 45 (.pointer (some p)) 0) w K Kp = K (.pointer (some (p.add 0))) w := op_fa (k := .one) (by kernel_rfl)
@[simp] theorem pur_fa_45_0 {p : Addr} : nP.pur (.fieldAddr 45 (.pointer (some p)) 0) K1 = K1 (.pointer (some (p.add 0))) := pur_fa (k := .one) (by kernel_rfl)
@[simp] theorem op_fa_45_2 {p : Addr} : nP.op (.fieldAddr 45 (.pointer (some p)) 2) w K Kp = K (.pointer (some (p.add 2))) w := op_fa (k := .one) (by kernel_rfl)
@[simp] theorem pur_fa_45_2 {p : Addr} : nP.pur (.fieldAddr 45 (.pointer (some p)) 2) K1 = K1 (.pointer (some (p.add 2))) := pur_fa (k := .one) (by kernel_rfl)
theorem build_54_0_1_2_3_4 {x0 : Value} {x1 : Value} {x2 : Value} {x3 : Value} {x4 : Value} (h0 : x0.oneCell' = true) (h1 : x1.oneCell' = true) (h2 : x2.oneCell' = true) (h3 : x3.oneCell' = true) (h4 : x4.oneCell' = true) : buildV Tryz.prog 54 [(0, x0), (1, x1), (2, x2), (3, x3), (4, x4)] = some (.agg (#[x0, x1, x2, x3, x4, Value.int IntKind.i64 0, Value.int IntKind.i64 0])) := by
  have e : buildV Tryz.prog 54 [(0, x0), (1, x1), (2, x2), (3, x3), (4, x4)] = (Instr.fill ((#[(0, 1), (1, 1), (2, 1), (3, 1), (4, 1), (5, 1), (6, 1)] : Array (Nat × Nat))[·]?) (#[Value.int IntKind.u8 0, Value.int IntKind.i64 0, Value.int IntKind.i64 0, Value.string ByteArray.empty, Value.int IntKind.i64 0, Value.int IntKind.i64 0, Value.int IntKind.i64 0]) [(0, x0), (1, x1), (2, x2), (3, x3), (4, x4)]).map .agg := by kernel_rfl
  rw [e]; simp [Instr.fill, cells_of_one h0, cells_of_one h1, cells_of_one h2, cells_of_one h3, cells_of_one h4]
@[simp] theorem op_build_54_0_1_2_3_4 {x0 : Value} {x1 : Value} {x2 : Value} {x3 : Value} {x4 : Value} (h0 : x0.oneCell' = true) (h1 : x1.oneCell' = true) (h2 : x2.oneCell' = true) (h3 : x3.oneCell' = true) (h4 : x4.oneCell' = true) : nP.op (.build 54 [(0, x0), (1, x1), (2, x2), (3, x3), (4, x4)]) w K Kp = K (.agg (#[x0, x1, x2, x3, x4, Value.int IntKind.i64 0, Value.int IntKind.i64 0])) w := op_build (build_54_0_1_2_3_4 h0 h1 h2 h3 h4)
@[simp] theorem pur_build_54_0_1_2_3_4 {x0 : Value} {x1 : Value} {x2 : Value} {x3 : Value} {x4 : Value} (h0 : x0.oneCell' = true) (h1 : x1.oneCell' = true) (h2 : x2.oneCell' = true) (h3 : x3.oneCell' = true) (h4 : x4.oneCell' = true) : nP.pur (.build 54 [(0, x0), (1, x1), (2, x2), (3, x3), (4, x4)]) K1 = K1 (.agg (#[x0, x1, x2, x3, x4, Value.int IntKind.i64 0, Value.int IntKind.i64 0])) := pur_build (build_54_0_1_2_3_4 h0 h1 h2 h3 h4)
theorem lit_32_1 {y0_0 y0_1 y0_2 y0_3 y0_4 y0_5 y0_6 : Value} : sliceLit Tryz.prog 32 1 [(0, .agg #[y0_0, y0_1, y0_2, y0_3, y0_4, y0_5, y0_6])] = some (54, #[y0_0, y0_1, y0_2, y0_3, y0_4, y0_5, y0_6]) := by
  have e : sliceLit Tryz.prog 32 1 [(0, .agg #[y0_0, y0_1, y0_2, y0_3, y0_4, y0_5, y0_6])] = (Instr.fill (fun i => some (i * 7, 7)) (#[Value.int IntKind.u8 0, Value.int IntKind.i64 0, Value.int IntKind.i64 0, Value.string ByteArray.empty, Value.int IntKind.i64 0, Value.int IntKind.i64 0, Value.int IntKind.i64 0]) [(0, .agg #[y0_0, y0_1, y0_2, y0_3, y0_4, y0_5, y0_6])]).map fun cs => (54, cs) := by kernel_rfl
  rw [e]; simp [Instr.fill, Value.cells]
@[simp] theorem op_len_46 {a : Option Addr} {n c ty : Nat} : nP.op (.blt .len [46] ty [.slice a n c]) w K Kp = K (.int .i64 n) w := op_len_slice (by kernel_rfl)
@[simp] theorem pur_len_46 {a : Option Addr} {n c ty : Nat} : nP.pur (.blt .len [46] ty [.slice a n c]) K1 = K1 (.int .i64 n) := pur_len_slice (by kernel_rfl)
@[simp] theorem ld_len_46 {a : Option Addr} {n c ty : Nat} : nP.ld (.blt .len [46] ty [.slice a n c]) w K1 = K1 (.int .i64 n) := ld_len_slice (by kernel_rfl)
@[simp] theorem same_len_46 {a : Option Addr} {n c ty : Nat} {u : Value} : nP.same (.blt .len [46] ty [.slice a n c]) u w = (.int .i64 n = u) := same_len_slice (by kernel_rfl)
@[simp] theorem op_ix_46 {p : Addr} {len cap : Nat} {k : IntKind} {j : Int} : nP.op (.indexAddr 46 (.slice (some p) len cap) (.int k j)) w K Kp = ((0 ≤ j ∧ j < (len : Int)) ∧ K (.pointer (some (p.add (j.toNat * 3)))) w) := op_ix_slice (e := 49) (by kernel_rfl)
@[simp] theorem pur_ix_46 {p : Addr} {len cap : Nat} {k : IntKind} {j : Int} : nP.pur (.indexAddr 46 (.slice (some p) len cap) (.int k j)) K1 = ((0 ≤ j ∧ j < (len : Int)) ∧ K1 (.pointer (some (p.add (j.toNat * 3))))) := pur_ix_slice (e := 49) (by kernel_rfl)
theorem build_23_  : buildV Tryz.prog 23 [] = some (.agg (#[Value.int IntKind.u8 0, Value.int IntKind.i64 0])) := by
  have e : buildV Tryz.prog 23 [] = (Instr.fill ((#[(0, 1), (1, 1)] : Array (Nat × Nat))[·]?) (#[Value.int IntKind.u8 0, Value.int IntKind.i64 0]) []).map .agg := by kernel_rfl
  rw [e]; simp [Instr.fill]
@[simp] theorem op_build_23_  : nP.op (.build 23 []) w K Kp = K (.agg (#[Value.int IntKind.u8 0, Value.int IntKind.i64 0])) w := op_build (build_23_)
@[simp] theorem pur_build_23_  : nP.pur (.build 23 []) K1 = K1 (.agg (#[Value.int IntKind.u8 0, Value.int IntKind.i64 0])) := pur_build (build_23_)
theorem build_45_0_2 {x0 : Value} {x2 : Value} (h0 : x0.oneCell' = true) (h2 : x2.oneCell' = true) : buildV Tryz.prog 45 [(0, x0), (2, x2)] = some (.agg (#[x0, Value.string ByteArray.empty, x2])) := by
  have e : buildV Tryz.prog 45 [(0, x0), (2, x2)] = (Instr.fill ((#[(0, 1), (1, 1), (2, 1)] : Array (Nat × Nat))[·]?) (#[Value.int IntKind.i64 0, Value.string ByteArray.empty, Value.int IntKind.i64 0]) [(0, x0), (2, x2)]).map .agg := by kernel_rfl
  rw [e]; simp [Instr.fill, cells_of_one h0, cells_of_one h2]
@[simp] theorem op_build_45_0_2 {x0 : Value} {x2 : Value} (h0 : x0.oneCell' = true) (h2 : x2.oneCell' = true) : nP.op (.build 45 [(0, x0), (2, x2)]) w K Kp = K (.agg (#[x0, Value.string ByteArray.empty, x2])) w := op_build (build_45_0_2 h0 h2)
@[simp] theorem pur_build_45_0_2 {x0 : Value} {x2 : Value} (h0 : x0.oneCell' = true) (h2 : x2.oneCell' = true) : nP.pur (.build 45 [(0, x0), (2, x2)]) K1 = K1 (.agg (#[x0, Value.string ByteArray.empty, x2])) := pur_build (build_45_0_2 h0 h2)
theorem lit_38_2 {y0_0 y0_1 y0_2 y1_0 y1_1 y1_2 : Value} : sliceLit Tryz.prog 38 2 [(0, .agg #[y0_0, y0_1, y0_2]), (1, .agg #[y1_0, y1_1, y1_2])] = some (45, #[y0_0, y0_1, y0_2, y1_0, y1_1, y1_2]) := by
  have e : sliceLit Tryz.prog 38 2 [(0, .agg #[y0_0, y0_1, y0_2]), (1, .agg #[y1_0, y1_1, y1_2])] = (Instr.fill (fun i => some (i * 3, 3)) (#[Value.int IntKind.i64 0, Value.string ByteArray.empty, Value.int IntKind.i64 0, Value.int IntKind.i64 0, Value.string ByteArray.empty, Value.int IntKind.i64 0]) [(0, .agg #[y0_0, y0_1, y0_2]), (1, .agg #[y1_0, y1_1, y1_2])]).map fun cs => (45, cs) := by kernel_rfl
  rw [e]; simp [Instr.fill, Value.cells]
@[simp] theorem call_22 {args : List Value} : nP.call (.fn 22) args w K Kp = Calls Tryz.prog 22 args.toArray w (ret K Kp) := call_fn (by kernel_rfl)
@[simp] theorem call_32 {args : List Value} : nP.call (.fn 32) args w K Kp = Calls Tryz.prog 32 args.toArray w (ret K Kp) := call_fn (by kernel_rfl)
theorem build_54_0 {x0 : Value} (h0 : x0.oneCell' = true) : buildV Tryz.prog 54 [(0, x0)] = some (.agg (#[x0, Value.int IntKind.i64 0, Value.int IntKind.i64 0, Value.string ByteArray.empty, Value.int IntKind.i64 0, Value.int IntKind.i64 0, Value.int IntKind.i64 0])) := by
  have e : buildV Tryz.prog 54 [(0, x0)] = (Instr.fill ((#[(0, 1), (1, 1), (2, 1), (3, 1), (4, 1), (5, 1), (6, 1)] : Array (Nat × Nat))[·]?) (#[Value.int IntKind.u8 0, Value.int IntKind.i64 0, Value.int IntKind.i64 0, Value.string ByteArray.empty, Value.int IntKind.i64 0, Value.int IntKind.i64 0, Value.int IntKind.i64 0]) [(0, x0)]).map .agg := by kernel_rfl
  rw [e]; simp [Instr.fill, cells_of_one h0]
@[simp] theorem op_build_54_0 {x0 : Value} (h0 : x0.oneCell' = true) : nP.op (.build 54 [(0, x0)]) w K Kp = K (.agg (#[x0, Value.int IntKind.i64 0, Value.int IntKind.i64 0, Value.string ByteArray.empty, Value.int IntKind.i64 0, Value.int IntKind.i64 0, Value.int IntKind.i64 0])) w := op_build (build_54_0 h0)
@[simp] theorem pur_build_54_0 {x0 : Value} (h0 : x0.oneCell' = true) : nP.pur (.build 54 [(0, x0)]) K1 = K1 (.agg (#[x0, Value.int IntKind.i64 0, Value.int IntKind.i64 0, Value.string ByteArray.empty, Value.int IntKind.i64 0, Value.int IntKind.i64 0, Value.int IntKind.i64 0])) := pur_build (build_54_0 h0)
@[simp] theorem call_23 {args : List Value} : nP.call (.fn 23) args w K Kp = Calls Tryz.prog 23 args.toArray w (ret K Kp) := call_fn (by kernel_rfl)
@[simp] theorem call_15 {args : List Value} : nP.call (.fn 15) args w K Kp = Calls Tryz.prog 15 args.toArray w (ret K Kp) := call_fn (by kernel_rfl)
@[simp] theorem op_len_28 {a : Option Addr} {n c ty : Nat} : nP.op (.blt .len [28] ty [.slice a n c]) w K Kp = K (.int .i64 n) w := op_len_slice (by kernel_rfl)
@[simp] theorem pur_len_28 {a : Option Addr} {n c ty : Nat} : nP.pur (.blt .len [28] ty [.slice a n c]) K1 = K1 (.int .i64 n) := pur_len_slice (by kernel_rfl)
@[simp] theorem ld_len_28 {a : Option Addr} {n c ty : Nat} : nP.ld (.blt .len [28] ty [.slice a n c]) w K1 = K1 (.int .i64 n) := ld_len_slice (by kernel_rfl)
@[simp] theorem same_len_28 {a : Option Addr} {n c ty : Nat} {u : Value} : nP.same (.blt .len [28] ty [.slice a n c]) u w = (.int .i64 n = u) := same_len_slice (by kernel_rfl)
@[simp] theorem op_ix_28 {p : Addr} {len cap : Nat} {k : IntKind} {j : Int} : nP.op (.indexAddr 28 (.slice (some p) len cap) (.int k j)) w K Kp = ((0 ≤ j ∧ j < (len : Int)) ∧ K (.pointer (some (p.add (j.toNat * 4)))) w) := op_ix_slice (e := 56) (by kernel_rfl)
@[simp] theorem pur_ix_28 {p : Addr} {len cap : Nat} {k : IntKind} {j : Int} : nP.pur (.indexAddr 28 (.slice (some p) len cap) (.int k j)) K1 = ((0 ≤ j ∧ j < (len : Int)) ∧ K1 (.pointer (some (p.add (j.toNat * 4))))) := pur_ix_slice (e := 56) (by kernel_rfl)
@[simp] theorem call_14 {args : List Value} : nP.call (.fn 14) args w K Kp = Calls Tryz.prog 14 args.toArray w (ret K Kp) := call_fn (by kernel_rfl)
theorem build_23_0 {x0 : Value} (h0 : x0.oneCell' = true) : buildV Tryz.prog 23 [(0, x0)] = some (.agg (#[x0, Value.int IntKind.i64 0])) := by
  have e : buildV Tryz.prog 23 [(0, x0)] = (Instr.fill ((#[(0, 1), (1, 1)] : Array (Nat × Nat))[·]?) (#[Value.int IntKind.u8 0, Value.int IntKind.i64 0]) [(0, x0)]).map .agg := by kernel_rfl
  rw [e]; simp [Instr.fill, cells_of_one h0]
@[simp] theorem op_build_23_0 {x0 : Value} (h0 : x0.oneCell' = true) : nP.op (.build 23 [(0, x0)]) w K Kp = K (.agg (#[x0, Value.int IntKind.i64 0])) w := op_build (build_23_0 h0)
@[simp] theorem pur_build_23_0 {x0 : Value} (h0 : x0.oneCell' = true) : nP.pur (.build 23 [(0, x0)]) K1 = K1 (.agg (#[x0, Value.int IntKind.i64 0])) := pur_build (build_23_0 h0)
theorem lit_32_10 {y0_0 y0_1 y0_2 y0_3 y0_4 y0_5 y0_6 y1_0 y1_1 y1_2 y1_3 y1_4 y1_5 y1_6 y2_0 y2_1 y2_2 y2_3 y2_4 y2_5 y2_6 y3_0 y3_1 y3_2 y3_3 y3_4 y3_5 y3_6 y4_0 y4_1 y4_2 y4_3 y4_4 y4_5 y4_6 y5_0 y5_1 y5_2 y5_3 y5_4 y5_5 y5_6 y6_0 y6_1 y6_2 y6_3 y6_4 y6_5 y6_6 y7_0 y7_1 y7_2 y7_3 y7_4 y7_5 y7_6 y8_0 y8_1 y8_2 y8_3 y8_4 y8_5 y8_6 y9_0 y9_1 y9_2 y9_3 y9_4 y9_5 y9_6 : Value} : sliceLit Tryz.prog 32 10 [(0, .agg #[y0_0, y0_1, y0_2, y0_3, y0_4, y0_5, y0_6]), (1, .agg #[y1_0, y1_1, y1_2, y1_3, y1_4, y1_5, y1_6]), (2, .agg #[y2_0, y2_1, y2_2, y2_3, y2_4, y2_5, y2_6]), (3, .agg #[y3_0, y3_1, y3_2, y3_3, y3_4, y3_5, y3_6]), (4, .agg #[y4_0, y4_1, y4_2, y4_3, y4_4, y4_5, y4_6]), (5, .agg #[y5_0, y5_1, y5_2, y5_3, y5_4, y5_5, y5_6]), (6, .agg #[y6_0, y6_1, y6_2, y6_3, y6_4, y6_5, y6_6]), (7, .agg #[y7_0, y7_1, y7_2, y7_3, y7_4, y7_5, y7_6]), (8, .agg #[y8_0, y8_1, y8_2, y8_3, y8_4, y8_5, y8_6]), (9, .agg #[y9_0, y9_1, y9_2, y9_3, y9_4, y9_5, y9_6])] = some (54, #[y0_0, y0_1, y0_2, y0_3, y0_4, y0_5, y0_6, y1_0, y1_1, y1_2, y1_3, y1_4, y1_5, y1_6, y2_0, y2_1, y2_2, y2_3, y2_4, y2_5, y2_6, y3_0, y3_1, y3_2, y3_3, y3_4, y3_5, y3_6, y4_0, y4_1, y4_2, y4_3, y4_4, y4_5, y4_6, y5_0, y5_1, y5_2, y5_3, y5_4, y5_5, y5_6, y6_0, y6_1, y6_2, y6_3, y6_4, y6_5, y6_6, y7_0, y7_1, y7_2, y7_3, y7_4, y7_5, y7_6, y8_0, y8_1, y8_2, y8_3, y8_4, y8_5, y8_6, y9_0, y9_1, y9_2, y9_3, y9_4, y9_5, y9_6]) := by
  have e : sliceLit Tryz.prog 32 10 [(0, .agg #[y0_0, y0_1, y0_2, y0_3, y0_4, y0_5, y0_6]), (1, .agg #[y1_0, y1_1, y1_2, y1_3, y1_4, y1_5, y1_6]), (2, .agg #[y2_0, y2_1, y2_2, y2_3, y2_4, y2_5, y2_6]), (3, .agg #[y3_0, y3_1, y3_2, y3_3, y3_4, y3_5, y3_6]), (4, .agg #[y4_0, y4_1, y4_2, y4_3, y4_4, y4_5, y4_6]), (5, .agg #[y5_0, y5_1, y5_2, y5_3, y5_4, y5_5, y5_6]), (6, .agg #[y6_0, y6_1, y6_2, y6_3, y6_4, y6_5, y6_6]), (7, .agg #[y7_0, y7_1, y7_2, y7_3, y7_4, y7_5, y7_6]), (8, .agg #[y8_0, y8_1, y8_2, y8_3, y8_4, y8_5, y8_6]), (9, .agg #[y9_0, y9_1, y9_2, y9_3, y9_4, y9_5, y9_6])] = (Instr.fill (fun i => some (i * 7, 7)) (#[Value.int IntKind.u8 0, Value.int IntKind.i64 0, Value.int IntKind.i64 0, Value.string ByteArray.empty, Value.int IntKind.i64 0, Value.int IntKind.i64 0, Value.int IntKind.i64 0, Value.int IntKind.u8 0, Value.int IntKind.i64 0, Value.int IntKind.i64 0, Value.string ByteArray.empty, Value.int IntKind.i64 0, Value.int IntKind.i64 0, Value.int IntKind.i64 0, Value.int IntKind.u8 0, Value.int IntKind.i64 0, Value.int IntKind.i64 0, Value.string ByteArray.empty, Value.int IntKind.i64 0, Value.int IntKind.i64 0, Value.int IntKind.i64 0, Value.int IntKind.u8 0, Value.int IntKind.i64 0, Value.int IntKind.i64 0, Value.string ByteArray.empty, Value.int IntKind.i64 0, Value.int IntKind.i64 0, Value.int IntKind.i64 0, Value.int IntKind.u8 0, Value.int IntKind.i64 0, Value.int IntKind.i64 0, Value.string ByteArray.empty, Value.int IntKind.i64 0, Value.int IntKind.i64 0, Value.int IntKind.i64 0, Value.int IntKind.u8 0, Value.int IntKind.i64 0, Value.int IntKind.i64 0, Value.string ByteArray.empty, Value.int IntKind.i64 0, Value.int IntKind.i64 0, Value.int IntKind.i64 0, Value.int IntKind.u8 0, Value.int IntKind.i64 0, Value.int IntKind.i64 0, Value.string ByteArray.empty, Value.int IntKind.i64 0, Value.int IntKind.i64 0, Value.int IntKind.i64 0, Value.int IntKind.u8 0, Value.int IntKind.i64 0, Value.int IntKind.i64 0, Value.string ByteArray.empty, Value.int IntKind.i64 0, Value.int IntKind.i64 0, Value.int IntKind.i64 0, Value.int IntKind.u8 0, Value.int IntKind.i64 0, Value.int IntKind.i64 0, Value.string ByteArray.empty, Value.int IntKind.i64 0, Value.int IntKind.i64 0, Value.int IntKind.i64 0, Value.int IntKind.u8 0, Value.int IntKind.i64 0, Value.int IntKind.i64 0, Value.string ByteArray.empty, Value.int IntKind.i64 0, Value.int IntKind.i64 0, Value.int IntKind.i64 0]) [(0, .agg #[y0_0, y0_1, y0_2, y0_3, y0_4, y0_5, y0_6]), (1, .agg #[y1_0, y1_1, y1_2, y1_3, y1_4, y1_5, y1_6]), (2, .agg #[y2_0, y2_1, y2_2, y2_3, y2_4, y2_5, y2_6]), (3, .agg #[y3_0, y3_1, y3_2, y3_3, y3_4, y3_5, y3_6]), (4, .agg #[y4_0, y4_1, y4_2, y4_3, y4_4, y4_5, y4_6]), (5, .agg #[y5_0, y5_1, y5_2, y5_3, y5_4, y5_5, y5_6]), (6, .agg #[y6_0, y6_1, y6_2, y6_3, y6_4, y6_5, y6_6]), (7, .agg #[y7_0, y7_1, y7_2, y7_3, y7_4, y7_5, y7_6]), (8, .agg #[y8_0, y8_1, y8_2, y8_3, y8_4, y8_5, y8_6]), (9, .agg #[y9_0, y9_1, y9_2, y9_3, y9_4, y9_5, y9_6])]).map fun cs => (54, cs) := by kernel_rfl
  rw [e]; simp [Instr.fill, Value.cells]
@[simp] theorem op_lit_32_10 {y0_0 y0_1 y0_2 y0_3 y0_4 y0_5 y0_6 y1_0 y1_1 y1_2 y1_3 y1_4 y1_5 y1_6 y2_0 y2_1 y2_2 y2_3 y2_4 y2_5 y2_6 y3_0 y3_1 y3_2 y3_3 y3_4 y3_5 y3_6 y4_0 y4_1 y4_2 y4_3 y4_4 y4_5 y4_6 y5_0 y5_1 y5_2 y5_3 y5_4 y5_5 y5_6 y6_0 y6_1 y6_2 y6_3 y6_4 y6_5 y6_6 y7_0 y7_1 y7_2 y7_3 y7_4 y7_5 y7_6 y8_0 y8_1 y8_2 y8_3 y8_4 y8_5 y8_6 y9_0 y9_1 y9_2 y9_3 y9_4 y9_5 y9_6 : Value} : nP.op (.buildSlice 32 10 [(0, .agg #[y0_0, y0_1, y0_2, y0_3, y0_4, y0_5, y0_6]), (1, .agg #[y1_0, y1_1, y1_2, y1_3, y1_4, y1_5, y1_6]), (2, .agg #[y2_0, y2_1, y2_2, y2_3, y2_4, y2_5, y2_6]), (3, .agg #[y3_0, y3_1, y3_2, y3_3, y3_4, y3_5, y3_6]), (4, .agg #[y4_0, y4_1, y4_2, y4_3, y4_4, y4_5, y4_6]), (5, .agg #[y5_0, y5_1, y5_2, y5_3, y5_4, y5_5, y5_6]), (6, .agg #[y6_0, y6_1, y6_2, y6_3, y6_4, y6_5, y6_6]), (7, .agg #[y7_0, y7_1, y7_2, y7_3, y7_4, y7_5, y7_6]), (8, .agg #[y8_0, y8_1, y8_2, y8_3, y8_4, y8_5, y8_6]), (9, .agg #[y9_0, y9_1, y9_2, y9_3, y9_4, y9_5, y9_6])]) w K Kp = K (.slice (some ⟨w.heap.size, 0, none⟩) 10 10) (w.alloc (.cells #[y0_0, y0_1, y0_2, y0_3, y0_4, y0_5, y0_6, y1_0, y1_1, y1_2, y1_3, y1_4, y1_5, y1_6, y2_0, y2_1, y2_2, y2_3, y2_4, y2_5, y2_6, y3_0, y3_1, y3_2, y3_3, y3_4, y3_5, y3_6, y4_0, y4_1, y4_2, y4_3, y4_4, y4_5, y4_6, y5_0, y5_1, y5_2, y5_3, y5_4, y5_5, y5_6, y6_0, y6_1, y6_2, y6_3, y6_4, y6_5, y6_6, y7_0, y7_1, y7_2, y7_3, y7_4, y7_5, y7_6, y8_0, y8_1, y8_2, y8_3, y8_4, y8_5, y8_6, y9_0, y9_1, y9_2, y9_3, y9_4, y9_5, y9_6] 54)) := op_lit (lit_32_10)
@[simp] theorem call_59 {args : List Value} : nP.call (.fn 59) args w K Kp = Calls Tryz.prog 59 args.toArray w (ret K Kp) := call_fn (by kernel_rfl)
@[simp] theorem call_34 {args : List Value} : nP.call (.fn 34) args w K Kp = Calls Tryz.prog 34 args.toArray w (ret K Kp) := call_fn (by kernel_rfl)
@[simp] theorem call_48 {args : List Value} : nP.call (.fn 48) args w K Kp = Calls Tryz.prog 48 args.toArray w (ret K Kp) := call_fn (by kernel_rfl)
theorem build_45_  : buildV Tryz.prog 45 [] = some (.agg (#[Value.int IntKind.i64 0, Value.string ByteArray.empty, Value.int IntKind.i64 0])) := by
  have e : buildV Tryz.prog 45 [] = (Instr.fill ((#[(0, 1), (1, 1), (2, 1)] : Array (Nat × Nat))[·]?) (#[Value.int IntKind.i64 0, Value.string ByteArray.empty, Value.int IntKind.i64 0]) []).map .agg := by kernel_rfl
  rw [e]; simp [Instr.fill]
@[simp] theorem op_build_45_  : nP.op (.build 45 []) w K Kp = K (.agg (#[Value.int IntKind.i64 0, Value.string ByteArray.empty, Value.int IntKind.i64 0])) w := op_build (build_45_)
@[simp] theorem pur_build_45_  : nP.pur (.build 45 []) K1 = K1 (.agg (#[Value.int IntKind.i64 0, Value.string ByteArray.empty, Value.int IntKind.i64 0])) := pur_build (build_45_)
theorem lit_38_1 {y0_0 y0_1 y0_2 : Value} : sliceLit Tryz.prog 38 1 [(0, .agg #[y0_0, y0_1, y0_2])] = some (45, #[y0_0, y0_1, y0_2]) := by
  have e : sliceLit Tryz.prog 38 1 [(0, .agg #[y0_0, y0_1, y0_2])] = (Instr.fill (fun i => some (i * 3, 3)) (#[Value.int IntKind.i64 0, Value.string ByteArray.empty, Value.int IntKind.i64 0]) [(0, .agg #[y0_0, y0_1, y0_2])]).map fun cs => (45, cs) := by kernel_rfl
  rw [e]; simp [Instr.fill, Value.cells]
@[simp] theorem call_49 {args : List Value} : nP.call (.fn 49) args w K Kp = Calls Tryz.prog 49 args.toArray w (ret K Kp) := call_fn (by kernel_rfl)
@[simp] theorem call_46 {args : List Value} : nP.call (.fn 46) args w K Kp = Calls Tryz.prog 46 args.toArray w (ret K Kp) := call_fn (by kernel_rfl)
@[simp] theorem op_len_39 {a : Option Addr} {n c ty : Nat} : nP.op (.blt .len [39] ty [.slice a n c]) w K Kp = K (.int .i64 n) w := op_len_slice (by kernel_rfl)
@[simp] theorem pur_len_39 {a : Option Addr} {n c ty : Nat} : nP.pur (.blt .len [39] ty [.slice a n c]) K1 = K1 (.int .i64 n) := pur_len_slice (by kernel_rfl)
@[simp] theorem ld_len_39 {a : Option Addr} {n c ty : Nat} : nP.ld (.blt .len [39] ty [.slice a n c]) w K1 = K1 (.int .i64 n) := ld_len_slice (by kernel_rfl)
@[simp] theorem same_len_39 {a : Option Addr} {n c ty : Nat} {u : Value} : nP.same (.blt .len [39] ty [.slice a n c]) u w = (.int .i64 n = u) := same_len_slice (by kernel_rfl)
end Go.Proofs.YtodjijfblgnfmaaGreatDoor
end
section
namespace Go.Proofs.YtodjijfblgnfmaaGreatDoor
open Go.Vc Go.Proofs
variable {S : Sig} {a0 a1 a2 a3 a4 a5 a6 a7 a8 a9 : Value} {w : World} {K : KV} {Kp : KP}
private theorem follows_BVcLA : Tryz.prog.follows .mixedOrders = true := by kernel_rfl
def vc29 (S : Sig) (a0 : Value) (w : World) (K : KV) (Kp : KP) : Prop :=
 S.op (.box 23 a0) w (fun v1 w =>
 S.op (.fieldAddr 23 v1 0) w (fun v3 w =>
 S.op (.load 5 v3) w (fun v4 w =>
 S.op (.bin .leq 5 false true v4 (.int .u8 3)) w (fun v5 w =>
 Br v5 (
 S.op (.fieldAddr 23 v1 0) w (fun v7 w =>
 S.op (.load 5 v7) w (fun v8 w =>
 S.op (.bin .neq 5 false true v8 (.int .u8 3)) w (fun v9 w =>
 Br v9 (
 K (.bool true) w) (
 S.op (.fieldAddr 23 v1 1) w (fun v11 w =>
 S.op (.load 2 v11) w (fun v12 w =>
 S.op (.bin .geq 2 false true v12 (.int .i64 1)) w (fun v13 w =>
 Br v13 (
 S.op (.fieldAddr 23 v1 1) w (fun v15 w =>
 S.op (.load 2 v15) w (fun v16 w =>
 S.op (.bin .leq 2 false true v16 (.int .i64 1000)) w (fun v17 w =>
 K v17 w) Kp) Kp) Kp) (
 K (.bool false) w)) Kp) Kp) Kp)) Kp) Kp) Kp) (
 K (.bool false) w)) Kp) Kp) Kp) Kp
theorem vc29_eq : vc29 S a0 w K Kp = fVC S [] [] Tryz.f29 [a0] w K Kp := by kernel_rfl
theorem vc29_calls (h : vc29 nP a0 w K Kp) : Calls Tryz.prog 29 #[a0] w (ret K Kp) :=
 fVC_sound (args := [a0]) nice_le follows_BVcLA Tryz.func29 (by kernel_rfl) (Eq.mp vc29_eq h)
def vc23 (S : Sig) (a0 a1 : Value) (w : World) (K : KV) (Kp : KP) : Prop :=
 S.op (.blt .len [38] 3 [a0]) w (fun v11 w =>
 Lp fun (I3 : Value → KV) (μ3 : Value → Value → World → Nat) => I3 (.slice none 0 0) (.int .i64 0) w ∧
 ∀ (wl3 : World) (_ : Nat → Value) (s5 : Value) (s12 : Value), I3 s5 s12 wl3 →
 S.op (.bin .lss 3 false false s12 v11) wl3 (fun v13 w =>
 Br v13 (
 S.op (.indexAddr 38 a0 s12) w (fun v15 w =>
 S.op (.load 45 v15) w (fun v16 w =>
 S.op (.alloc 45) w (fun v7 w =>
 S.op (.store 45 v7 v16) w (fun _ w =>
 S.op (.fieldAddr 45 v7 0) w (fun v19 w =>
 S.op (.load 2 v19) w (fun v20 w =>
 S.op (.fieldAddr 45 v7 1) w (fun v21 w =>
 S.op (.load 9 v21) w (fun v22 w =>
 S.op (.fieldAddr 45 v7 2) w (fun v23 w =>
 S.op (.load 2 v23) w (fun v24 w =>
 S.op (.build 54 [(0, (.int .u8 0)), (1, s12), (2, v20), (3, v22), (4, v24)]) w (fun v25 w =>
 S.op (.buildSlice 32 1 [(0, v25)]) w (fun v26 w =>
 S.op (.blt .append [32, 32] 32 [s5, v26]) w (fun v27 w =>
 S.op (.bin .add 3 false true s12 (.int .i64 1)) w (fun v28 w =>
 I3 v27 v28 w ∧ μ3 v27 v28 w < μ3 s5 s12 wl3) Kp) Kp) Kp) Kp) Kp) Kp) Kp) Kp) Kp) Kp) Kp) Kp) Kp) Kp) (
 S.op (.blt .len [32] 3 [a1]) w (fun v30 w =>
 Lp fun (I8 : Value → KV) (μ8 : Value → Value → World → Nat) => I8 s5 (.int .i64 0) w ∧
 ∀ (wl8 : World) (_ : Nat → Value) (s5 : Value) (s31 : Value), I8 s5 s31 wl8 →
 S.op (.bin .lss 3 false false s31 v30) wl8 (fun v32 w =>
 Br v32 (
 S.op (.indexAddr 32 a1 s31) w (fun v33 w =>
 S.op (.load 54 v33) w (fun v34 w =>
 S.op (.alloc 54) w (fun v9 w =>
 S.op (.store 54 v9 v34) w (fun _ w =>
 S.op (.fieldAddr 54 v9 1) w (fun v35 w =>
 S.op (.load 3 v35) w (fun v36 w =>
 S.op (.blt .len [38] 3 [a0]) w (fun v38 w =>
 S.op (.bin .add 3 false false v36 v38) w (fun v39 w =>
 S.op (.fieldAddr 54 v9 1) w (fun v40 w =>
 S.op (.store 3 v40 v39) w (fun _ w =>
 S.op (.load 54 v9) w (fun v42 w =>
 S.op (.buildSlice 32 1 [(0, v42)]) w (fun v43 w =>
 S.op (.blt .append [32, 32] 32 [s5, v43]) w (fun v44 w =>
 S.op (.bin .add 3 false true s31 (.int .i64 1)) w (fun v45 w =>
 I8 v44 v45 w ∧ μ8 v44 v45 w < μ8 s5 s31 wl8) Kp) Kp) Kp) Kp) Kp) Kp) Kp) Kp) Kp) Kp) Kp) Kp) Kp) Kp) (
 K s5 w)) Kp) Kp)) Kp) Kp
theorem vc23_eq : vc23 S a0 a1 w K Kp = fVC S [(3, [5, 12]), (8, [5, 31])] [] Tryz.f23 [a0, a1] w K Kp := by kernel_rfl
theorem vc23_calls (h : vc23 nP a0 a1 w K Kp) : Calls Tryz.prog 23 #[a0, a1] w (ret K Kp) :=
 fVC_sound (args := [a0, a1]) nice_le follows_BVcLA Tryz.func23 (by kernel_rfl) (Eq.mp vc23_eq h)
def vc32 (S : Sig) (a0 a1 : Value) (w : World) (K : KV) (Kp : KP) : Prop :=
 S.op (.blt .len [46] 3 [a0]) w (fun v7 w =>
 S.op (.blt .len [38] 3 [a1]) w (fun v9 w =>
 S.op (.bin .neq 3 false false v7 v9) w (fun v10 w =>
 Br v10 (
 K (.bool false) w) (
 S.op (.blt .len [46] 3 [a0]) w (fun v12 w =>
 Lp fun (I4 : KV) (μ4 : Value → World → Nat) => I4 (.int .i64 0) w ∧
 ∀ (wl4 : World) (_ : Nat → Value) (s13 : Value), I4 s13 wl4 →
 S.op (.bin .lss 3 false false s13 v12) wl4 (fun v14 w =>
 Br v14 (
 S.pur (.indexAddr 46 a0 s13) (fun v18 =>
 S.ld (.load 49 v18) w.drew (fun v19 =>
 S.pur (.indexAddr 38 a1 s13) (fun v22 =>
 S.ld (.load 45 v22) w.drew (fun v23 =>
 S.pur (.bin .neq 45 false false v19 v23) (fun v24 =>
 Br v24 (
 K (.bool false) w.drew) (
 S.op (.bin .add 3 false true s13 (.int .i64 1)) w.drew (fun v25 w =>
 I4 v25 w ∧ μ4 v25 w < μ4 s13 wl4) Kp))))))) (
 K (.bool true) w)) Kp) Kp)) Kp) Kp) Kp
theorem vc32_eq : vc32 S a0 a1 w K Kp = fVC S [(4, [13])] [] Tryz.f32 [a0, a1] w K Kp := by kernel_rfl
theorem vc32_calls (h : vc32 nP a0 a1 w K Kp) : Calls Tryz.prog 32 #[a0, a1] w (ret K Kp) :=
 fVC_sound (args := [a0, a1]) nice_le follows_BVcLA Tryz.func32 (by kernel_rfl) (Eq.mp vc32_eq h)
def vc14 (S : Sig) (w : World) (K : KV) (Kp : KP) : Prop :=
 S.op (.build 23 []) w (fun v4 w =>
 S.op (.build 45 [(0, (.int .i64 5)), (2, (.int .i64 1))]) w (fun v5 w =>
 S.op (.build 45 [(0, (.int .i64 (-3))), (2, (.int .i64 2))]) w (fun v6 w =>
 S.op (.buildSlice 38 2 [(0, v5), (1, v6)]) w (fun v7 w =>
 S.call (.fn 22) [(.bool false), v4, v7] w (fun v8 w =>
 S.op (.extract v8 0) w (fun v9 w =>
 S.op (.extract v8 1) w (fun v10 w =>
 Br v10 (
 S.op (.build 45 [(0, (.int .i64 (-3))), (2, (.int .i64 2))]) w (fun v14 w =>
 S.op (.build 45 [(0, (.int .i64 5)), (2, (.int .i64 1))]) w (fun v15 w =>
 S.op (.buildSlice 38 2 [(0, v14), (1, v15)]) w (fun v16 w =>
 S.call (.fn 32) [v9, v16] w (fun v17 w =>
 K v17 w) Kp) Kp) Kp) Kp) (
 K (.bool false) w)) Kp) Kp) Kp) Kp) Kp) Kp) Kp
theorem vc14_eq : vc14 S  w K Kp = fVC S [] [] Tryz.f14 [] w K Kp := by kernel_rfl
theorem vc14_calls (h : vc14 nP  w K Kp) : Calls Tryz.prog 14 #[] w (ret K Kp) :=
 fVC_sound (args := []) nice_le follows_BVcLA Tryz.func14 (by kernel_rfl) (Eq.mp vc14_eq h)
def vc22 (S : Sig) (a0 a1 a2 : Value) (w : World) (K : KV) (Kp : KP) : Prop :=
 S.op (.box 23 a1) w (fun v4 w =>
 S.ld (.load 23 v4) w.drew (fun v12 =>
 S.pur (.build 54 [(0, (.int .u8 3))]) (fun v14 =>
 S.op (.buildSlice 32 1 [(0, v14)]) w.drew (fun v15 w =>
 S.same (.load 23 v4) v12 w ∧
 S.call (.fn 23) [a2, v15] w (fun v16 w =>
 S.same (.load 23 v4) v12 w ∧
 S.call (.fn 15) [a0, v12, v16] w (fun v17 w =>
 S.pur (.extract v17 0) (fun v18 =>
 S.pur (.extract v17 1) (fun v19 =>
 S.op (.un .not v19) w (fun v21 w =>
 Br v21 (
 K (.tuple #[(.slice none 0 0), (.bool false)]) w) (
 S.op (.blt .len [28] 3 [v18]) w (fun v24 w =>
 S.op (.blt .len [38] 3 [a2]) w (fun v26 w =>
 S.op (.bin .add 3 false true v26 (.int .i64 1)) w (fun v27 w =>
 S.op (.bin .neq 3 false false v24 v27) w (fun v28 w =>
 Br v28 (
 K (.tuple #[(.slice none 0 0), (.bool false)]) w) (
 S.op (.blt .len [38] 3 [a2]) w (fun v32 w =>
 S.op (.indexAddr 28 v18 v32) w (fun v33 w =>
 S.op (.fieldAddr 56 v33 3) w (fun v34 w =>
 S.op (.load 46 v34) w (fun v35 w =>
 K (.tuple #[v35, (.bool true)]) w) Kp) Kp) Kp) Kp)) Kp) Kp) Kp) Kp)) Kp))) Kp) Kp) Kp))) Kp
theorem vc22_eq : vc22 S a0 a1 a2 w K Kp = fVC S [] [] Tryz.f22 [a0, a1, a2] w K Kp := by kernel_rfl
theorem vc22_calls (h : vc22 nP a0 a1 a2 w K Kp) : Calls Tryz.prog 22 #[a0, a1, a2] w (ret K Kp) :=
 fVC_sound (args := [a0, a1, a2]) nice_le follows_BVcLA Tryz.func22 (by kernel_rfl) (Eq.mp vc22_eq h)
end Go.Proofs.YtodjijfblgnfmaaGreatDoor
end
section
namespace Go.Vc
variable {P : Program} {w : World} {K : Value → World → Prop} {K1 : Value → Prop} {Kp : KP} {t : TypeId}
end Go.Vc
end
section
namespace Go.Vc.Bt
open Go.Vc
variable {P : Program} {w : World} {K : Value → World → Prop} {K1 : Value → Prop} {Kp : KP} {t : TypeId}
def fldI (P : Program) (f : Field) (o : Nat) : Bool := f.name != "_" && f.offset == o && (match P.underlying f.type with | some (.int .i64) => true | _ => false) && (match ldk P f.type with | some .one => true | _ => false)
def fldS (P : Program) (f : Field) (o : Nat) : Bool := f.name != "_" && f.offset == o && (match P.underlying f.type with | some .string => true | _ => false) && (match ldk P f.type with | some .one => true | _ => false)
def sprT (P : Program) (t : TypeId) : Bool := (match (P.fieldsOf t).toList with
  | [f0, f1, f2] => fldI P f0 0 && fldS P f1 1 && fldI P f2 2
  | _ => false) && !P.stoodInHeld t && !P.eqGuardType P.depth t
theorem fldI_eq {f : Field} {o d : Nat} {fs : List Field} {xs ys : Array Value} {a b : Int} (h : fldI P f o = true) (hx : xs[o]? = some (.int .i64 a)) (hy : ys[o]? = some (.int .i64 b)) (w : World) {r : Bool}
    (hr : (Op.eqFields (d + 1) xs ys fs).run P w = .ok r w) : (Op.eqFields (d + 1) xs ys (f :: fs)).run P w = .ok (decide (a = b) && r) w := by
  simp only [fldI, Bool.and_eq_true] at h
  obtain ⟨⟨⟨h1, h2⟩, h3⟩, h4⟩ := h
  have h2 : f.offset = o := by simpa using h2
  have h1 : f.name ≠ "_" := by simpa using h1
  have hu : P.underlying f.type = some (.int .i64) := by split at h3; assumption; cases h3
  have hl : ldk P f.type = some .one := by split at h4; assumption; cases h4
  have px : (part f.type xs f.offset).run P w = .ok (.int .i64 a) w := by rw [h2]; exact ldk_part hl (by simp [partV, hx]) w
  have py : (part f.type ys f.offset).run P w = .ok (.int .i64 b) w := by rw [h2]; exact ldk_part hl (by simp [partV, hy]) w
  rw [Op.eqFields, if_pos h1]
  simp only [Sem.run_bind, px, py, Result.andThen_ok, run_equalIn_int (k' := .i64) (h := hu)]
  by_cases e : a = b
  · subst e; simp [hr]
  · have e' : (a == b) = false := beq_eq_false_iff_ne.2 e
    simp only [e', Bool.not_false, if_true, Sem.run_pure, decide_eq_false e, Bool.false_and]
theorem fldS_eq {f : Field} {o d : Nat} {fs : List Field} {xs ys : Array Value} {a b : ByteArray} (h : fldS P f o = true) (hx : xs[o]? = some (.string a)) (hy : ys[o]? = some (.string b)) (w : World) {r : Bool}
    (hr : (Op.eqFields (d + 1) xs ys fs).run P w = .ok r w) : (Op.eqFields (d + 1) xs ys (f :: fs)).run P w = .ok (decide (a = b) && r) w := by
  simp only [fldS, Bool.and_eq_true] at h
  obtain ⟨⟨⟨h1, h2⟩, h3⟩, h4⟩ := h
  have h2 : f.offset = o := by simpa using h2
  have h1 : f.name ≠ "_" := by simpa using h1
  have hu : P.underlying f.type = some .string := by split at h3; assumption; cases h3
  have hl : ldk P f.type = some .one := by split at h4; assumption; cases h4
  have px : (part f.type xs f.offset).run P w = .ok (.string a) w := by rw [h2]; exact ldk_part hl (by simp [partV, hx]) w
  have py : (part f.type ys f.offset).run P w = .ok (.string b) w := by rw [h2]; exact ldk_part hl (by simp [partV, hy]) w
  rw [Op.eqFields, if_pos h1]
  simp only [Sem.run_bind, px, py, Result.andThen_ok, run_equalIn_string (h := hu)]
  by_cases e : a = b
  · subst e; simp [hr]
  · have e' : (a.toList == b.toList) = false := beq_eq_false_iff_ne.2 fun h => e (toList_inj.1 h)
    simp only [e', Bool.not_false, if_true, Sem.run_pure, decide_eq_false e, Bool.false_and]
theorem SPr.ext_iff' {x y : SPr} : (decide (x.key = y.key) && (decide (x.text = y.text) && (decide (x.val = y.val) && true))) = decide (x = y) := by
  cases x; cases y; simp
theorem spr_eq_run (ht : P.underlying t = some (.struct (P.fieldsOf t))) (h : sprT P t = true) (x y : SPr) (w : World) : (Op.equal t (.agg x.cells.toArray) (.agg y.cells.toArray)).run P w = .ok (decide (x = y)) w := by
  simp only [sprT, Bool.and_eq_true] at h
  obtain ⟨⟨h1, h2⟩, h3⟩ := h
  have h2 : P.stoodInHeld t = false := by simpa using h2
  unfold Op.equal Op.maxDepth
  rw [run_equalIn_struct w 9999 t _ _ ht h2]
  split at h1
  · rename_i f0 f1 f2 hf
    rw [hf]
    simp only [Bool.and_eq_true] at h1
    obtain ⟨⟨g0, g1⟩, g2⟩ := h1
    rw [fldI_eq (d := 9998) (a := x.key) (b := y.key) g0 rfl rfl w (fldS_eq (a := x.text) (b := y.text) g1 rfl rfl w (fldI_eq (a := x.val) (b := y.val) g2 rfl rfl w (r := true) (by simp [Op.eqFields])))]
    rw [SPr.ext_iff']
  · cases h1
theorem pur_neq_spr (ht : P.underlying t = some (.struct (P.fieldsOf t))) (h : sprT P t = true) {x y : SPr} (hK : K1 (.bool (!decide (x = y)))) :
    (nice P).pur (.bin .neq t false false (.agg x.cells.toArray) (.agg y.cells.toArray)) K1 := by
  refine ⟨_, fun w => ?_, hK⟩
  have hg : P.eqGuardType P.depth t = false := by
    simp only [sprT, Bool.and_eq_true] at h; simpa using h.2
  have h2 : ∀ w, (eqGuard .neq t (opd false) (opd false) (.agg x.cells.toArray) (.agg y.cells.toArray)).run P w = .ok () w := fun w => by
    have hp : (program : Sem Program).run P w = .ok P w := rfl
    simp [eqGuard, hp, hg]
  simp only [VOp.sem, Sem.run_bind, h2, Result.andThen_ok]
  simp [binOp, spr_eq_run ht h]
/-! ### scripts that put pairs -/
def putSteps (ps : List SPr) : List SSt := ps.mapIdx fun i p => ⟨0, i, p.key, p.text, p.val, 0, 0⟩
theorem putSteps_len (ps : List SPr) : (putSteps ps).length = ps.length := by simp [putSteps]
theorem putSteps_snoc (ps : List SPr) (p : SPr) : putSteps (ps ++ [p]) = putSteps ps ++ [⟨0, ps.length, p.key, p.text, p.val, 0, 0⟩] := by simp [putSteps, List.mapIdx_append]
def SSt.later (n : Nat) (s : SSt) : SSt := { s with fro := IntKind.i64.wrap (s.fro + n) }
theorem putSteps_mem {ps : List SPr} {s : SSt} (h : s ∈ putSteps ps) : s.op = 0 ∧ s.count = 0 ∧ ∃ p ∈ ps, s.text = p.text := by
  simp only [putSteps, List.mem_mapIdx] at h
  obtain ⟨i, hi, rfl⟩ := h
  exact ⟨rfl, rfl, _, List.getElem_mem hi, rfl⟩
theorem putSteps_cost : ∀ (ps : List SPr), scost (putSteps ps) = ps.length := by
  intro ps
  rw [← List.reverse_reverse ps]
  generalize ps.reverse = r
  induction r with
  | nil => rfl
  | cons p r ih => rw [List.reverse_cons, putSteps_snoc, scost_snoc, ih]; simp [SSt.cost]
section
variable {κ : Type} [DecidableEq κ] {lt : κ → κ → Bool} {kd : Kd κ}
def Kd.kv (kd : Kd κ) (p : SPr) : κ × Int := (kd.key p.key p.text, p.val)
theorem atV_small {s : SSt} {i n : Nat} (h : s.fro = i) (hi : i < n) : atV s n = i := by
  unfold atV
  rw [h, Int.emod_eq_of_lt (by omega) (by omega)]; simp
theorem runS_put (ps : List SPr) : (runS lt kd (putSteps ps)).1.length = ps.length + 1 ∧ (runS lt kd (putSteps ps)).1[ps.length]? = some (putAll lt [] (ps.map kd.kv)) ∧ (runS lt kd (putSteps ps)).2.length = ps.length := by
  rw [← List.reverse_reverse ps]
  generalize ps.reverse = r
  induction r with
  | nil => exact ⟨rfl, rfl, rfl⟩
  | cons p r ih =>
    obtain ⟨h1, h2, h3⟩ := ih
    rw [List.reverse_cons, putSteps_snoc, runS_snoc]
    generalize runS lt kd (putSteps r.reverse) = q at *
    have ha : atV (⟨0, (r.reverse.length : Nat), p.key, p.text, p.val, 0, 0⟩ : SSt) q.1.length = r.reverse.length := atV_small rfl (by omega)
    unfold oneS
    rw [ha, h2, Option.getD_some]
    have hn : newV lt kd ⟨0, (r.reverse.length : Nat), p.key, p.text, p.val, 0, 0⟩ (putAll lt [] (r.reverse.map kd.kv)) = some (put lt (putAll lt [] (r.reverse.map kd.kv)) (kd.key p.key p.text) p.val) := by unfold newV; rw [if_pos rfl]
    rw [hn]
    refine ⟨?_, ?_, ?_⟩
    · rw [Option.toList_some, List.length_append, List.length_singleton, List.length_append, List.length_singleton, h1]
    · rw [Option.toList_some, List.length_append, List.length_singleton, List.getElem?_append_right (by omega), h1, Nat.sub_self, List.map_append, List.map_singleton, putAll_snoc]
      rfl
    · rw [List.length_append, List.length_singleton, List.length_append, List.length_singleton, h3]
end
end Go.Vc.Bt
namespace Go.Vc.Bt
open Go.Vc
variable {P : Program} {w : World} {K : Value → World → Prop} {Kp : KP}
theorem sameLoop {t1 e1 t2 e2 t3 : TypeId} {l1 l2 : Value} {xs : List SPr} (s1 : sliceOf P t1 = some (e1, 3)) (s2 : sliceOf P t2 = some (e2, 3)) (d1 : ldk P e1 = some (.agg 3)) (d2 : ldk P e2 = some (.agg 3)) (ht : P.underlying t3 = some (.struct (P.fieldsOf t3))) (hq : sprT P t3 = true)
    (k1 : kd P t1 = .slice) (h1 : IsSl w l1 xs.length (xs.flatMap SPr.cells)) (h2 : IsSl w l2 xs.length (xs.flatMap SPr.cells)) (hn : xs.length < 2 ^ 60) (hK : ∀ w', Frm (fun _ => False) w w' → K (.bool true) w') :
    (nice P).op (.blt Builtin.len [t1] 3 [l1]) w (fun v50 w =>
    Lp fun (I10 : Value → World → Prop) (μ10 : Value → World → Nat) => I10 (Value.int IntKind.i64 0) w ∧
    ∀ (wl10 : World) (junk : Nat → Value) (s51_ : Value), I10 s51_ wl10 →
      (nice P).op (.bin BinOp.lss 3 false false s51_ v50) wl10 (fun v52 w =>
      Br v52 (
        (nice P).pur (.indexAddr t1 l1 s51_) (fun v56 =>
        (nice P).ld (.load e1 v56) w.drew (fun v57 =>
        (nice P).pur (.indexAddr t2 l2 s51_) (fun v60 =>
        (nice P).ld (.load e2 v60) w.drew (fun v61 =>
        (nice P).pur (.bin BinOp.neq t3 false false v57 v61) (fun v62 =>
        Br v62 (
          K (Value.bool false) w.drew) (
          (nice P).op (.bin BinOp.add 3 false true s51_ (Value.int IntKind.i64 1)) w.drew (fun v63 w =>
          I10 v63 w ∧ μ10 v63 w < μ10 s51_ wl10) Kp))))))) (
        K (Value.bool true) w)) Kp) Kp := by
  obtain ⟨a1, c1, rfl, hc1, hm1, r1, _⟩ := h1
  obtain ⟨a2, c2, rfl, hc2, hm2, r2, _⟩ := h2
  rw [op_len_slice k1]
  obtain ⟨I, hI⟩ : ∃ I : Value → World → Prop, ∀ v wl, I v wl ↔ ∃ i : Nat, v = .int .i64 i ∧ i ≤ xs.length ∧ Frm (fun _ => False) w wl := ⟨_, fun _ _ => Iff.rfl⟩
  refine Lp.intro I (fun v _ => xs.length - (match v with | .int _ j => j.toNat | _ => 0)) ⟨(hI _ _).2 ⟨0, rfl, by omega, Frm.refl⟩, ?_⟩
  intro wl _ v hv
  obtain ⟨i, rfl, hi, kl⟩ := (hI _ _).1 hv
  simp only [op_lss, Br_dec]
  refine ⟨fun hlt => ?_, fun hge => hK wl kl⟩
  have hi' : i < xs.length := by omega
  have kd := kl.no (Frm.drew wl)
  obtain ⟨b1, o1, cs1, e1', f1, rfl, q1, q2, q3⟩ := (r1.frame kd fun _ _ h => h).part SPr.len (by decide) hi'
  obtain ⟨b2, o2, cs2, e2', f2, rfl, p1, p2, p3⟩ := (r2.frame kd fun _ _ h => h).part SPr.len (by decide) hi'
  rw [pur_ix_slice s1]
  refine ⟨⟨by omega, by omega⟩, ?_⟩
  rw [add_spot rfl, ld_ldn d1]
  simp only [Int.toNat_natCast]
  refine ⟨cs1, e1', f1, q1, trivial, q2, ?_⟩
  rw [q3, pur_ix_slice s2]
  refine ⟨⟨by omega, by omega⟩, ?_⟩
  rw [add_spot rfl, ld_ldn d2]
  simp only [Int.toNat_natCast]
  refine ⟨cs2, e2', f2, p1, trivial, p2, ?_⟩
  rw [p3]
  refine pur_neq_spr ht hq ?_
  rw [decide_eq_true rfl]
  show Br (.bool false) _ _
  rw [show ∀ A B : Prop, Br (.bool false) A B = B from fun A B => by simp [Br], op_add]
  have e : IntKind.i64.wrap ((i : Int) + 1) = ((i + 1 : Nat) : Int) := by rw [IntKind.wrap_i64]; omega
  rw [e]
  refine ⟨(hI _ _).2 ⟨i + 1, rfl, by omega, kd⟩, ?_⟩
  simp only [Int.toNat_natCast]; omega
end Go.Vc.Bt
namespace Go.Vc.Bt
section
variable {κ : Type} [DecidableEq κ] {lt : κ → κ → Bool} {kd : Kd κ}
def prsOf (kd : Kd κ) (L : Vn κ) : List SPr := L.map fun e => kd.pair e.1 e.2
theorem runS_items (ps : List SPr) (hn : ps.length < 2 ^ 31) {s : SSt} (hop : s.op = 3) (h0 : s.fro = 0) :
    (runS lt kd (putSteps ps ++ [s.later ps.length])).2.length = ps.length + 1 ∧
    ((runS lt kd (putSteps ps ++ [s.later ps.length])).2[ps.length]?).map SAns.list = some (prsOf kd (putAll lt [] (ps.map kd.kv))) := by
  obtain ⟨h1, h2, h3⟩ := runS_put (lt := lt) (kd := kd) ps
  rw [runS_snoc]
  generalize runS lt kd (putSteps ps) = q at *
  have hf : (s.later ps.length).fro = ps.length := by
    show IntKind.i64.wrap (s.fro + ps.length) = _
    rw [h0, IntKind.wrap_i64]; omega
  have ha : atV (s.later ps.length) q.1.length = ps.length := atV_small hf (by omega)
  unfold oneS
  rw [ha, h2, Option.getD_some]
  refine ⟨by rw [List.length_append, List.length_singleton, h3], ?_⟩
  rw [List.getElem?_append_right (by omega), h3, Nat.sub_self]
  have ho : (s.later ps.length).op = 3 := hop
  unfold ansV
  rw [if_neg (by omega), if_pos ho]; rfl
end
end Go.Vc.Bt
namespace Go.Vc.Bt
section
variable {κ : Type} [DecidableEq κ] {lt : κ → κ → Bool} {kd : Kd κ}
end
end Go.Vc.Bt
end
section
namespace Go.Proofs.YtodjijfblgnfmaaGreatDoor
open Go.Vc Go.Proofs Go.Vc.Bt
variable {w w' : World} {K : KV} {Kp : KP} {n : Int} {kn : Nat}
def Right (kn : Nat) (n : Int) : Prop := kn ≤ 3 ∧ (kn = 3 → 1 ≤ n ∧ n ≤ 1000)
theorem right_ok (hK : ∀ b w', Frm (fun _ => False) w w' → (b = true ↔ Right kn n) → K (.bool b) w') : Calls Tryz.prog 29 #[orderV kn n] w (ret K Kp) := by
  refine vc29_calls ?_
  delta vc29 orderV
  refine op_box_ok fun w1 k1 z1 b1 => ?_
  simp only [cells_agg] at b1
  have h0 := fun h => hK true w1 k1 h
  have h1 := fun h => hK false w1 k1 h
  simp [-getElem?_pos, -Array.getElem?_eq_getElem, -Int.natCast_add, b1]
  refine ⟨fun h3 => ⟨fun hne => h0 ⟨fun _ => ⟨by omega, fun e => by omega⟩, fun _ => rfl⟩, fun he => ⟨fun hn => ?_, fun hn => h1 ⟨(fun h => nomatch h), fun h => ?_⟩⟩⟩, fun h3 => h1 ⟨(fun h => nomatch h), fun h => ?_⟩⟩
  · refine hK _ w1 k1 ?_
    unfold Right
    rw [decide_eq_true_iff]
    constructor
    · intro h; exact ⟨by omega, fun _ => ⟨hn, h⟩⟩
    · intro h; exact (h.2 (by omega)).2
  · have := h.2 (by omega); omega
  · have := h.1; omega
end Go.Proofs.YtodjijfblgnfmaaGreatDoor
end
