import Derived.Test.YtodjijfblgnfmaaGreatDoorU5
import Derived.Test.YtodjijfblgnfmaaGreatDoorU4
set_option linter.unusedSimpArgs false
set_option linter.unusedVariables false
set_option linter.unusedSectionVars false
set_option maxRecDepth 100000
set_option maxHeartbeats 4000000
section
namespace Go.Proofs.YtodjijfblgnfmaaGreatDoor.T
open Go.Vc Go.Proofs Go.Proofs.YtodjijfblgnfmaaGreatDoor Go.Vc.Bt
variable {w w' : World} {K : KV} {Kp : KP} {n : Int} {kn base : Nat} {l : Value} {p : SPr} {s : SSt}
theorem sortedS_ok {a2 : Option Addr} {c2 : Nat} {steps : List SSt} (hRt : Right kn n) (h2 : Row w a2 (steps.flatMap SSt.cells)) (hs : ∀ s ∈ steps, s.text.size ≤ 100 ∧ 0 ≤ s.count ∧ s.count ≤ 3000 ∧ s.op ≤ 6) (hc : scost steps < 2 ^ 30)
    (hK : ∀ l w' G, Frm (fun _ => False) w w' → RowsOf ElA w' w.heap.size 104 4 l (runS (ordI kn n) kd steps).2 G → K l w') :
    Calls Tryz.prog 18 #[.bool tx, .bool false, orderV kn n, .slice a2 steps.length c2] w (ret K Kp) := by
  refine vc18_calls ?_
  delta vc18 orderV
  refine op_box_ok fun w1 k1 z1 b1 => ?_
  simp only [cells_agg] at b1
  have n1 := k1.size
  have hx2 : (#[.int .u8 kn, .int .i64 n] : Array Value).extract 0 2 = #[.int .u8 kn, .int .i64 n] := rfl
  refine op_row1 (base := w1.heap.size) (El := ElV) (u := [.slice none 0 0]) (y := []) (G2 := fun _ => False) elV_ok apV (lit_65_1 rfl) rfl ⟨_, rfl, IsSl.nil, fun _ h => nomatch h⟩ (fun _ h => h.elim) (by omega) fun l3 w3 k3 hR3 ho3 => ?_
  simp [-getElem?_pos, -Array.getElem?_eq_getElem, -Int.natCast_add, -op_lit_38_1, -op_lit_38_0, -op_lit_65_1, -op_lit_35_1, -op_st_45, -op_alloc_45, -op_st_64, -op_alloc_64, -op_st_104, -op_alloc_104, -op_st_2, -op_st_3, -op_st_4, -op_st_38]
  obtain ⟨I, hI⟩ : ∃ I : Value → Value → KV, ∀ l out v wl, I l out v wl ↔ ∃ (i : Nat) (G1 G2 : Nat → Prop), v = .int .i64 i ∧ i ≤ steps.length ∧ Frm (fun _ => False) w1 wl ∧
      RowsOf ElV wl w1.heap.size 38 1 l (runS (ordI kn n) kd (steps.take i)).1 G1 ∧ Prs wl G1 ∧
      RowsOf ElA wl w1.heap.size 104 4 out (runS (ordI kn n) kd (steps.take i)).2 G2 ∧ Prs wl G2 := ⟨_, fun _ _ _ _ => Iff.rfl⟩
  refine Lp.intro I (fun _ _ v _ => steps.length - nOf v) ⟨(hI _ _ _ _).2 ⟨0, _, fun _ => False, rfl, by omega, k3, hR3, fun _ h => h.elim, rows_nil, fun _ h => h.elim⟩, ?_⟩
  intro wl l out v hlv
  obtain ⟨i, G1, G2, rfl, hi, kl, hR, hP1, hO, hP2⟩ := (hI _ _ _ _).1 hlv
  clear hlv hR3 k3
  simp only [op_lss, Br_dec]
  refine ⟨fun hlt' => ?_, fun hnl' => ?_⟩
  rotate_left
  · have : i = steps.length := by omega
    subst this
    rw [List.take_length] at hO
    exact hK out wl G2 (k1.no kl) (hO.base_le n1)
  have hi' : i < steps.length := by omega
  have htk : steps.take (i + 1) = steps.take i ++ [steps[i]] := List.take_succ_eq_append_getElem hi'
  have hmem : steps[i] ∈ steps := List.getElem_mem hi'
  have hctk := scost_take steps (i + 1)
  have hsl := scost_len steps
  have hlenr := runS_len (lt := ordI kn n) (kd := kd) (steps.take i)
  have hle := runS_le (lt := ordI kn n) (kd := kd) (steps.take i)
  have hsda := runS_sd (lt := ordI kn n) (kd := kd) ordI_lin (steps.take i)
  have hsnoc := runS_snoc (lt := ordI kn n) (kd := kd) (steps.take i) steps[i]
  rw [← htk] at hsnoc
  rw [htk, scost_snoc] at hctk
  rw [List.length_take] at hlenr
  obtain ⟨bp, o, cs, e, fz, rfl, hcs, hsz, hext⟩ := (h2.frame (k1.no kl) (fun _ _ h => h)).part SSt.len (by decide) hi'
  obtain ⟨ht, h0, hc3, hop⟩ := hs _ hmem
  generalize steps[i] = s at *
  generalize hvs : runS (ordI kn n) kd (steps.take i) = vs at *
  obtain ⟨vs, an⟩ := vs
  simp only at hR hO hlenr hle hsda
  generalize hNn : scost (steps.take i) = N at *
  have hq : atV s vs.length < vs.length := atV_lt hlenr.1
  have bO := kl.get b1 fun h => h
  have nl := kl.size
  have hlow := hR.own_lt
  have hlowO := hO.own_lt
  simp [-getElem?_pos, -Array.getElem?_eq_getElem, -Int.natCast_add, -op_lit_38_1, -op_lit_38_0, -op_lit_65_1, -op_lit_35_1, -op_st_45, -op_alloc_45, -op_st_64, -op_alloc_64, -op_st_104, -op_alloc_104, -op_st_2, -op_st_3, -op_st_4, -op_st_38, hcs, hsz, hext]
  refine ⟨hi', ?_⟩
  refine op_alloc_ok (z := .agg #[.int .u8 0, .int .i64 0, .int .i64 0, .string ByteArray.empty, .int .i64 0, .int .i64 0, .int .i64 0]) (by kernel_rfl) fun w5 k5 z5 b5 => ?_
  simp only [cells_agg] at b5
  refine op_storeN_ok (n := 7) (by kernel_rfl) b5 rfl (by decide) (by simp [SSt.cells]) fun w6 k6 z6 b6 => ?_
  have b6 : w6.heap[wl.heap.size]? = some (.cells s.cells.toArray 64 (0, 0)) := by
    rw [ow_all (by simp [SSt.cells])] at b6; simpa [SSt.cells] using b6
  simp only [SSt.cells] at b6
  have k56 : Frm (fun _ => False) wl w6 := k5.old k6 fun c hc => .inr (by omega)
  have hR6 := hR.still elV_ok k56
  have hO6 := hO.still elA_ok k56
  have hP16 := hP1.still k56
  have hP26 := hP2.still k56
  obtain ⟨u, g, cV, cur, hlg, hg1, hu, hg3, hg4, hg5, pv0, hup, hpv, hpG⟩ := hR6.get hq
  subst hlg hup
  have hg0 : cur[atV s vs.length]? = some pv0 := by have := hg3 0 (by decide); simpa using this
  have hL0N : vs[atV s vs.length].length ≤ N := hle _ (List.getElem_mem hq)
  have hsd := hsda _ (List.getElem_mem hq)
  have hL0 : vs[atV s vs.length]? = some vs[atV s vs.length] := List.getElem?_eq_getElem hq
  have hone1 : oneS (ordI kn n) kd (vs, an) s = (vs ++ (newV (ordI kn n) kd s vs[atV s vs.length]).toList, an ++ [ansV (ordI kn n) kd s vs[atV s vs.length]]) := by
    unfold oneS
    rw [hL0]; rfl
  rw [hone1] at hsnoc
  generalize vs[atV s vs.length] = L0 at *
  obtain ⟨t1, t2, t3⟩ := tmod_pos (a := s.fro) (m := (vs.length : Int)) (by omega)
  have hat : (atV s vs.length : Int) = s.fro % (vs.length : Int) := by
    have hp := Int.emod_nonneg s.fro (b := (vs.length : Int)) (by omega)
    unfold atV; omega
  have hne0 : vs ≠ [] := fun h => by rw [h] at hq; simp at hq
  simp [-getElem?_pos, -Array.getElem?_eq_getElem, -Int.natCast_add, -op_lit_38_1, -op_lit_38_0, -op_lit_65_1, -op_lit_35_1, -op_st_45, -op_alloc_45, -op_st_64, -op_alloc_64, -op_st_104, -op_alloc_104, -op_st_2, -op_st_3, -op_st_4, -op_st_38, b6]
  refine ⟨hne0, ?_⟩
  refine Jn.intro (fun v wz => v = .int .i64 (atV s vs.length : Nat) ∧ wz = w6) ⟨fun h => ?_, fun h => ?_, ?_⟩
  · rw [if_pos h] at t3
    refine ⟨?_, rfl⟩
    rw [show IntKind.i64.wrap (s.fro.tmod vs.length + vs.length) = (atV s vs.length : Int) from by rw [IntKind.wrap_i64]; omega]
  · rw [if_neg (by omega)] at t3
    exact ⟨by rw [hat, t3], rfl⟩
  rintro wz v ⟨rfl, rfl⟩
  generalize atV s vs.length = at0 at *
  simp [-getElem?_pos, -Array.getElem?_eq_getElem, -Int.natCast_add, -op_lit_38_1, -op_lit_38_0, -op_lit_65_1, -op_lit_35_1, -op_st_45, -op_alloc_45, -op_st_64, -op_alloc_64, -op_st_104, -op_alloc_104, -op_st_2, -op_st_3, -op_st_4, -op_st_38, hg1, hg0]
  refine ⟨hq, ?_⟩
  refine op_alloc_ok (z := .agg #[.int .i64 0, .int .i64 0, .bool false, .slice none 0 0]) (by kernel_rfl) fun w7 k7 z7 b7 => ?_
  simp only [cells_agg] at b7
  refine op_storeN_ok (n := 4) (by kernel_rfl) b7 rfl (by decide) (by simp) fun wA k8 z8 bA => ?_
  rw [ow_all (by simp)] at bA
  have hlS := lt_of_get b6
  have k6A : Frm (fun _ => False) wz wA := k7.old k8 fun c hc => .inr (by omega)
  have bS := k6A.get b6 fun h => h
  have hx7 : (#[.int .u8 s.op, .int .i64 s.fro, .int .i64 s.key, .string s.text, .int .i64 s.value, .int .i64 s.count, .int .i64 s.by'] : Array Value).extract 0 7 = s.cells.toArray := rfl
  simp [-getElem?_pos, -Array.getElem?_eq_getElem, -Int.natCast_add, -op_lit_38_1, -op_lit_38_0, -op_lit_65_1, -op_lit_35_1, -op_st_45, -op_alloc_45, -op_st_64, -op_alloc_64, -op_st_104, -op_alloc_104, -op_st_2, -op_st_3, -op_st_4, -op_st_38, bS, hx7]
  refine sortedKeys_ok ht h0 hc3 fun kv wK kK hKR => ?_
  refine Jn.intro (fun wy => wy = wK) ⟨rfl, ?_⟩
  rintro wy rfl
  generalize hab : wz.heap.size = ab at *
  have kzK : Frm (fun _ => False) wz wy := k6A.no kK
  have bSK := kK.get bS fun h => h
  have bAK := kK.get bA fun h => h
  have k1K : Frm (fun _ => False) w1 wy := kl.no (k56.no kzK)
  have bOK := k1K.get b1 fun h => h
  have hRK := hR6.still elV_ok kzK
  have hOK := hO6.still elA_ok kzK
  have hPK1 := hP16.still kzK
  have hPK2 := hP26.still kzK
  have hpvK := hpv.still kzK
  obtain ⟨J, hJ⟩ : ∃ J : KV, ∀ e wz, J e wz ↔ ∃ pv G1 G2, MidS w1.heap.size vs an L0 n kn s ab w1 wz out e pv G1 G2 := ⟨_, fun _ _ => Iff.rfl⟩
  refine Jn.intro J ⟨?_, ?_⟩
  · have hsame : ∀ {wx : World} {M : Nat → Prop} {pv : Value}, newV (ordI kn n) kd s L0 = none → Frm M wy wx → (∀ c cs e, wy.heap[c]? = some (.cells cs e (0, 0)) → M c → c = ab) → (∀ c, M c → ab ≤ c) →
        wx.heap[ab]? = some (.cells #[.int .i64 (ansV (ordI kn n) kd s L0).value, .int .i64 (ansV (ordI kn n) kd s L0).n, .bool (ansV (ordI kn n) kd s L0).ok, pv] 104 (0, 0)) → IsSl wx pv (ansV (ordI kn n) kd s L0).list.length ((ansV (ordI kn n) kd s L0).list.flatMap SPr.cells) →
        (∀ c, pv.ownBlock = some c → wy.heap.size ≤ c ∧ ∃ cs, wx.heap[c]? = some (.cells cs 45 (0, 0))) → J (.slice (some ⟨g, 0, none⟩) vs.length cV) wx := fun {wx M pv} hn hf hM hMb hcell hrow hown => by
      have hy := kzK.size
      have hno : ∀ c cs e, wy.heap[c]? = some (.cells cs e (0, 0)) → M c → e ≠ 45 := fun c cs e h1 h2 he => by
        have := hM c cs e h1 h2
        subst this
        rw [bAK] at h1; cases h1; cases he
      refine (hJ _ _).2 ⟨pv, G1, G2, ⟨k1K.old hf fun c hc => .inr ?_, ?_, hPK1.keep hf hno, hOK.frame elA_ok hf (fun c hc hm => ?_) (fun b hb hm => ?_), hPK2.keep hf hno, hcell, hrow, fun c hc => ⟨?_, (hown c hc).2⟩⟩⟩
      · have := hMb c hc; have := (kl.no k56).size; omega
      · rw [hn, Option.toList_none, List.append_nil]
        refine hRK.frame elV_ok hf (fun c hc hm => ?_) fun b hb hm => ?_
        · obtain ⟨cs, h1⟩ := hPK1 c hc
          exact hno _ _ _ h1 hm rfl
        · have := hlow b hb; have := hMb b hm; have := k56.size; omega
      · obtain ⟨cs, h1⟩ := hPK2 c hc
        exact hno _ _ _ h1 hm rfl
      · have := hlowO b hb; have := hMb b hm; have := k56.size; omega
      · have := (hown c hc).1; have := k1K.size; omega
    by_cases hh : s.op = 0 ∨ s.op = 5 ∨ s.op = 1 ∨ s.op = 6
    · have hnv := stepL_all (lt := ordI kn n) (L := L0) hh
      have hany := ansV_new hnv
      have hkl := keyL_le (s := s) hc3
      obtain ⟨ak, ck, rfl, _⟩ := hKR.slice
      rw [prs_len] at hKR ⊢
      have hpkey : ∀ j (hj : j < (keyL s).length), (prsOf kd (keyL s))[j]'(by rw [prs_len]; exact hj) = kd.pair (keyL s)[j].1 (keyL s)[j].2 := fun j hj => by simp [prsOf]
      have hx3 : ∀ p : SPr, p.cells.toArray.extract 0 3 = p.cells.toArray := fun p => extract_self (by simp [SPr.cells])
      have hs3 : ∀ p : SPr, 3 ≤ p.cells.length := fun p => Nat.le_refl _
      rcases hh with h | h | h | h
      all_goals
        simp [-getElem?_pos, -Array.getElem?_eq_getElem, -Int.natCast_add, -op_lit_38_1, -op_lit_38_0, -op_lit_65_1, -op_lit_35_1, -op_st_45, -op_alloc_45, -op_st_64, -op_alloc_64, -op_st_104, -op_alloc_104, -op_st_2, -op_st_3, -op_st_4, -op_st_38, bSK, h]
        refine Jn.intro (fun v wx => v = .bool true ∧ wy = wx) ⟨⟨rfl, rfl⟩, ?_⟩
        rintro wx v ⟨rfl, rfl⟩
        try simp [-getElem?_pos, -Array.getElem?_eq_getElem, -Int.natCast_add, -op_lit_38_1, -op_lit_38_0, -op_lit_65_1, -op_lit_35_1, -op_st_45, -op_alloc_45, -op_st_64, -op_alloc_64, -op_st_104, -op_alloc_104, -op_st_2, -op_st_3, -op_st_4, -op_st_38]
        refine op_row0 (f := SPr.cells) (base := wy.heap.size) apP lit_pr0 (Nat.le_refl _) fun l4 w4 k4 hR4 ho4 => ?_
        refine op_concatF apP SPr.len (fun p => SPr.one p) hR4 (zs := prsOf kd L0) (by rw [prs_len]; exact hpvK.still k4) (by simp [prs_len]; omega) k4.size fun l5 w5 k5 hR5 ho5 => ?_
        rw [List.nil_append] at hR5
        have hlow4 := hR4.own_lt
        have k45 : Frm (fun _ => False) wy w5 := k4.old k5 fun c hc => .inr (hlow4 c hc.symm).1
        try simp [-getElem?_pos, -Array.getElem?_eq_getElem, -Int.natCast_add, -op_lit_38_1, -op_lit_38_0, -op_lit_65_1, -op_lit_35_1, -op_st_45, -op_alloc_45, -op_st_64, -op_alloc_64, -op_st_104, -op_alloc_104, -op_st_2, -op_st_3, -op_st_4, -op_st_38, prs_len]
        obtain ⟨I2, hI2⟩ : ∃ I2 : Value → KV, ∀ m v wz, I2 m v wz ↔ ∃ j : Nat, v = .int .i64 j ∧ j ≤ (keyL s).length ∧ Frm (fun _ => False) wy wz ∧ PRow wz wy.heap.size m (prsOf kd (stepL (ordI kn n) s L0 j)) := ⟨_, fun _ _ _ => Iff.rfl⟩
        refine Lp.intro I2 (fun _ v _ => (keyL s).length - nOf v) ⟨(hI2 _ _ _).2 ⟨0, rfl, by omega, k45, by rw [stepL_zero]; exact hR5⟩, ?_⟩
        intro wq m v hm
        obtain ⟨j, rfl, hj, kq, hRq⟩ := (hI2 _ _ _).1 hm
        have bSq := kq.get bSK fun h => h
        have bOq := kq.get bOK fun h => h
        have hle1 := stepL_le (lt := ordI kn n) (s := s) (L := L0) (j := j) hc3
        have nq := kq.size
        simp only [op_lss, Br_dec]
        refine ⟨fun hlt2 => ?_, fun hge => ?_⟩
        · have hj' : j < (keyL s).length := by omega
          obtain ⟨gk, ck2, csk, q1, q2, q3, q4, q5⟩ := frow_get (frow_still hKR kq) (j := j) (by rw [prs_len]; exact hj')
          rw [hpkey j hj'] at q5
          rw [prs_len] at q1; cases q1
          simp [-getElem?_pos, -Array.getElem?_eq_getElem, -Int.natCast_add, -op_lit_38_1, -op_lit_38_0, -op_lit_65_1, -op_lit_35_1, -op_st_45, -op_alloc_45, -op_st_64, -op_alloc_64, -op_st_104, -op_alloc_104, -op_st_2, -op_st_3, -op_st_4, -op_st_38, q2, q4, q5]
          refine ⟨hj', ?_⟩
          refine op_alloc_ok (z := .agg #[.int .i64 0, .string ByteArray.empty, .int .i64 0]) (by kernel_rfl) fun w7 k7 z7 b7 => ?_
          simp only [cells_agg] at b7
          refine op_storeN_ok (n := 3) (by kernel_rfl) b7 rfl (by decide) (by simpa using SPr.one _) fun w8 k8 z8 b8 => ?_
          have b8 : w8.heap[wq.heap.size]? = some (.cells (kd.pair (keyL s)[j].1 (keyL s)[j].2).cells.toArray 45 (0, 0)) := by
            rw [ow_all (by simp [SPr.cells])] at b8; simpa using b8
          have k78 : Frm (fun _ => False) wq w8 := k7.old k8 fun c hc => .inr (by omega)
          have bS8 := k78.get bSq fun h => h
          have bO8 := k78.get bOq fun h => h
          simp [-getElem?_pos, -Array.getElem?_eq_getElem, -Int.natCast_add, -op_lit_38_1, -op_lit_38_0, -op_lit_65_1, -op_lit_35_1, -op_st_45, -op_alloc_45, -op_st_64, -op_alloc_64, -op_st_104, -op_alloc_104, -op_st_2, -op_st_3, -op_st_4, -op_st_38, bS8, h, bO8, hx2, b8, hx3, hs3]
          have hR8 := frow_still hRq k78
          have hlow8 := hR8.own_lt
          have hsucc := stepL_succ (s := s) (lt := ordI kn n) (L := L0) hj'
          first
          | refine put_ok (base := wy.heap.size) hRt (stepL_sd ordI_lin hsd) hR8 (by omega) (by have := k78.size; omega) fun l9 w9 k9 hR9 => ?_
            rw [if_pos (by omega)] at hsucc
            try simp [-getElem?_pos, -Array.getElem?_eq_getElem, -Int.natCast_add, -op_lit_38_1, -op_lit_38_0, -op_lit_65_1, -op_lit_35_1, -op_st_45, -op_alloc_45, -op_st_64, -op_alloc_64, -op_st_104, -op_alloc_104, -op_st_2, -op_st_3, -op_st_4, -op_st_38]
            rw [← hsucc] at hR9
            rw [show IntKind.i64.wrap ((j : Int) + 1) = ((j + 1 : Nat) : Int) from by rw [IntKind.wrap_i64]; omega]
            exact ⟨(hI2 _ _ _).2 ⟨j + 1, rfl, by omega, (kq.no k78).old k9 fun c hc => .inr (hlow8 c hc.symm).1, hR9⟩, by simp only [nOf_int]; omega⟩
          | refine drop_ok (base := wy.heap.size) hRt (stepL_sd ordI_lin hsd) hR8 (by omega) (by have := k78.size; omega) fun l9 w9 k9 hR9 => ?_
            rw [if_neg (by omega)] at hsucc
            try simp [-getElem?_pos, -Array.getElem?_eq_getElem, -Int.natCast_add, -op_lit_38_1, -op_lit_38_0, -op_lit_65_1, -op_lit_35_1, -op_st_45, -op_alloc_45, -op_st_64, -op_alloc_64, -op_st_104, -op_alloc_104, -op_st_2, -op_st_3, -op_st_4, -op_st_38]
            rw [← hsucc] at hR9
            rw [show IntKind.i64.wrap ((j : Int) + 1) = ((j + 1 : Nat) : Int) from by rw [IntKind.wrap_i64]; omega]
            exact ⟨(hI2 _ _ _).2 ⟨j + 1, rfl, by omega, (kq.no k78).old k9 fun c hc => .inr (hlow8 c hc.symm).1, hR9⟩, by simp only [nOf_int]; omega⟩
        · have : j = (keyL s).length := by omega
          subst this
          have hRqv := hRK.still elV_ok kq
          have hOq := hOK.still elA_ok kq
          have hPq1 := hPK1.still kq
          have hPq2 := hPK2.still kq
          have bAq := kq.get bAK fun h => h
          have hown := hRq.own_lt
          have hmty := rows_ty hRq
          have hvty := rows_ty hRqv
          have m1 := k1K.size
          have m2 := kzK.size
          have m3 := k56.size
          refine op_push (El := ElV) (u := [m]) (y := stepL (ordI kn n) s L0 (keyL s).length) (G2 := fun c => m.ownBlock = some c) elV_ok apV (lit_65_1 hRq.one) rfl (by simpa using hRq.one) hRqv ⟨m, rfl, by have := hRq.flat; rwa [prs_len] at this, fun _ h => h⟩ (fun c hc => by have := hown c hc; omega) (fun b hb hc => by have := hown b hc; have := hlow b hb; omega) (by omega) (by omega) fun l' w10 k10 hR10 ho10 => ?_
          have b10 := k10.get bAq (fun he => by have := hlow ab he.symm; omega)
          have hoff : ∀ c cs e, wq.heap[c]? = some (.cells cs e (0, 0)) → some c = (Value.slice (some ⟨g, 0, none⟩) vs.length cV).ownBlock → e = 38 := fun c cs e h1 h2 => by
            obtain ⟨cs2, t2⟩ := hvty c h2.symm
            rw [h1] at t2; cases t2; rfl
          have hP10 : Prs w10 (fun c => G1 c ∨ m.ownBlock = some c) := Prs.keep (w := wq) (fun c hc => hc.elim (fun h => hPq1 c h) fun h => hmty c h) k10 fun c cs e h1 h2 he => by rw [hoff c cs e h1 h2] at he; cases he
          have hP10' := hPq2.keep k10 fun c cs e h1 h2 he => by rw [hoff c cs e h1 h2] at he; cases he
          have hO10 := hOq.frame elA_ok k10 (fun c hc hm => by
            obtain ⟨cs, h1⟩ := hPq2 c hc
            have := hoff c cs _ h1 hm
            cases this) fun b hb hm => by
            obtain ⟨c1, t1⟩ := rows_ty hOq b hb
            have := hoff b c1 _ t1 hm
            cases this
          obtain ⟨am, cm, rfl, _⟩ := hRq.slice
          try simp [-getElem?_pos, -Array.getElem?_eq_getElem, -Int.natCast_add, -op_lit_38_1, -op_lit_38_0, -op_lit_65_1, -op_lit_35_1, -op_st_45, -op_alloc_45, -op_st_64, -op_alloc_64, -op_st_104, -op_alloc_104, -op_st_2, -op_st_3, -op_st_4, -op_st_38, prs_len]
          refine op_store_ok (by kernel_rfl) b10 (by simp) rfl fun w11 k11 z11 b11 => ?_
          have hab3 : ∀ c cs e, w10.heap[c]? = some (.cells cs e (0, 0)) → c = ab → e ≠ 45 := fun c cs e h1 h2 he => by
            subst h2
            rw [b10] at h1; cases h1; cases he
          refine (hJ _ _).2 ⟨.slice none 0 0, _, G2, ⟨((k1K.no kq).old k10 fun c hc => .inr (hlow c hc.symm).1).old k11 fun c hc => .inr (by omega), ?_, hP10.keep k11 hab3, hO10.frame elA_ok k11 (fun c hc hm => ?_) (fun b hb hm => ?_), hP10'.keep k11 hab3, ?_, ?_, fun c hc => nomatch hc⟩⟩
          · rw [hnv]
            refine hR10.frame elV_ok k11 (fun c hc hm => ?_) fun b hb hm => ?_
            · obtain ⟨cs, h1⟩ := hP10 c hc
              exact hab3 _ _ _ h1 hm rfl
            · rcases ho10 with h | ⟨b', h, h'⟩
              · rw [h] at hb; have := hlow b hb; omega
              · rw [h] at hb; cases hb; have := lt_of_get bAq; omega
          · obtain ⟨cs, h1⟩ := hP10' c hc
            exact hab3 _ _ _ h1 hm rfl
          · have := hlowO b hb; omega
          · rw [hany]; simpa using b11
          · rw [hany]; exact IsSl.nil
    have hnone : newV (ordI kn n) kd s L0 = none := by unfold newV; rw [if_neg (by omega), if_neg (by omega), if_neg (by omega), if_neg (by omega)]
    have hx3 : ∀ p : SPr, p.cells.toArray.extract 0 3 = p.cells.toArray := fun p => extract_self (by simp [SPr.cells])
    have hs3 : ∀ p : SPr, 3 ≤ p.cells.length := fun p => Nat.le_refl _
    have nK := kzK.size
    have hlA := lt_of_get bAK
    by_cases h2 : s.op = 2
    · simp [-getElem?_pos, -Array.getElem?_eq_getElem, -Int.natCast_add, -op_lit_38_1, -op_lit_38_0, -op_lit_65_1, -op_lit_35_1, -op_st_45, -op_alloc_45, -op_st_64, -op_alloc_64, -op_st_104, -op_alloc_104, -op_st_2, -op_st_3, -op_st_4, -op_st_38, bSK, h2]
      refine Jn.intro (fun v wx => v = .bool false ∧ wy = wx) ⟨⟨rfl, rfl⟩, ?_⟩
      rintro wx v ⟨rfl, rfl⟩
      have hkl : keyL s = [(kd.key s.key s.text, s.value)] := by unfold keyL; rw [if_neg (by omega)]
      rw [hkl] at hKR
      obtain ⟨gk, ck2, csk, q1, q2, q3, q4, q5⟩ := frow_get hKR (j := 0) (by simp [prsOf])
      subst q1
      simp only [prsOf, List.map_cons, List.map_nil, List.getElem_cons_zero, Nat.zero_mul, Nat.zero_add] at q4 q5
      simp [-getElem?_pos, -Array.getElem?_eq_getElem, -Int.natCast_add, -op_lit_38_1, -op_lit_38_0, -op_lit_65_1, -op_lit_35_1, -op_st_45, -op_alloc_45, -op_st_64, -op_alloc_64, -op_st_104, -op_alloc_104, -op_st_2, -op_st_3, -op_st_4, -op_st_38, bOK, hx2, q2, q4, q5, prs_len]
      refine place_ok hRt hsd (hpvK.still (Frm.drew _)) (by omega) fun w5 k5 => ?_
      have k5 := Frm.dr k5
      have b5 := k5.get bAK fun h => h
      have hansg : ∀ g, got (ordI kn n) L0 (kd.key s.key s.text) = g → ansV (ordI kn n) kd s L0 = match g with | some v => ⟨v, 0, true, []⟩ | none => zeroA := fun g hg => by unfold ansV; rw [if_pos h2, hg]; cases g <;> rfl
      cases hh : has (ordI kn n) L0 (kd.key s.key s.text) with
      | false =>
        have ea := hansg none (by unfold got; rw [if_neg (by simp [hh])])
        simp [-getElem?_pos, -Array.getElem?_eq_getElem, -Int.natCast_add, -op_lit_38_1, -op_lit_38_0, -op_lit_65_1, -op_lit_35_1, -op_st_45, -op_alloc_45, -op_st_64, -op_alloc_64, -op_st_104, -op_alloc_104, -op_st_2, -op_st_3, -op_st_4, -op_st_38]
        exact hsame (pv := .slice none 0 0) hnone k5 (fun _ _ _ _ h => h.elim) (fun _ h => h.elim) (by rw [ea]; exact b5) (by rw [ea]; exact IsSl.nil) fun c hc => nomatch hc
      | true =>
        have hil := has_lt hh
        have ea := hansg (some (L0[place (ordI kn n) L0 (kd.key s.key s.text)]).2) (by unfold got; rw [if_pos hh, List.getElem?_eq_getElem hil]; rfl)
        generalize place (ordI kn n) L0 (kd.key s.key s.text) = j at *
        obtain ⟨a0, c0, rfl, _, _, hr0, _⟩ := hpvK.still k5
        obtain ⟨b, o2, cs2, e2, fz2, rfl, r1, r2, r3⟩ := hr0.part SPr.len (by decide) (i := j) (by rw [prs_len]; exact hil)
        have r4 : cs2[o2 + j * 3 + 2]? = some (.int .i64 (L0[j]).2) := by
          have := congrArg (fun a : Array Value => a[2]?) r3
          simp only [Array.getElem?_extract, prsOf, List.getElem_map] at this
          rw [if_pos (by omega)] at this
          rw [this]; rfl
        simp [-getElem?_pos, -Array.getElem?_eq_getElem, -Int.natCast_add, -op_lit_38_1, -op_lit_38_0, -op_lit_65_1, -op_lit_35_1, -op_st_45, -op_alloc_45, -op_st_64, -op_alloc_64, -op_st_104, -op_alloc_104, -op_st_2, -op_st_3, -op_st_4, -op_st_38, r1, r4]
        refine ⟨hil, ?_⟩
        refine op_store_ok (by kernel_rfl) b5 (by simp) rfl fun w8 k8 z8 b8 => ?_
        refine op_store_ok (by kernel_rfl) b8 (by simp) rfl fun w9 k9 z9 b9 => ?_
        refine hsame (M := (· = ab)) (pv := .slice none 0 0) hnone ((k5.fst k8).trans k9 fun _ h _ => h) (fun _ _ _ _ h => h) (fun _ h => by omega) (by rw [ea]; simpa using b9) (by rw [ea]; exact IsSl.nil) fun c hc => nomatch hc
    by_cases h3 : s.op = 3
    · have ea : ansV (ordI kn n) kd s L0 = ⟨0, L0.length, false, prsOf kd L0⟩ := by unfold ansV; rw [if_neg h2, if_pos h3]; rfl
      simp [-getElem?_pos, -Array.getElem?_eq_getElem, -Int.natCast_add, -op_lit_38_1, -op_lit_38_0, -op_lit_65_1, -op_lit_35_1, -op_st_45, -op_alloc_45, -op_st_64, -op_alloc_64, -op_st_104, -op_alloc_104, -op_st_2, -op_st_3, -op_st_4, -op_st_38, bSK, h3]
      refine Jn.intro (fun v wx => v = .bool false ∧ wy = wx) ⟨⟨rfl, rfl⟩, ?_⟩
      rintro wx v ⟨rfl, rfl⟩
      try simp [-getElem?_pos, -Array.getElem?_eq_getElem, -Int.natCast_add, -op_lit_38_1, -op_lit_38_0, -op_lit_65_1, -op_lit_35_1, -op_st_45, -op_alloc_45, -op_st_64, -op_alloc_64, -op_st_104, -op_alloc_104, -op_st_2, -op_st_3, -op_st_4, -op_st_38]
      refine op_row0 (f := SPr.cells) (base := wy.heap.size) apP lit_pr0 (Nat.le_refl _) fun l4 w4 k4 hR4 ho4 => ?_
      refine op_concatF apP SPr.len (fun p => SPr.one p) hR4 (zs := prsOf kd L0) (by rw [prs_len]; exact hpvK.still k4) (by simp [prs_len]; omega) k4.size fun l5 w5 k5 hR5 ho5 => ?_
      rw [List.nil_append] at hR5
      have hlow4 := hR4.own_lt
      have k45 : Frm (fun _ => False) wy w5 := k4.old k5 fun c hc => .inr (hlow4 c hc.symm).1
      have b5 := k45.get bAK fun h => h
      obtain ⟨a0, c0, rfl, _⟩ := id hpvK
      try simp [-getElem?_pos, -Array.getElem?_eq_getElem, -Int.natCast_add, -op_lit_38_1, -op_lit_38_0, -op_lit_65_1, -op_lit_35_1, -op_st_45, -op_alloc_45, -op_st_64, -op_alloc_64, -op_st_104, -op_alloc_104, -op_st_2, -op_st_3, -op_st_4, -op_st_38, prs_len]
      refine op_store_ok (by kernel_rfl) b5 (by simp) hR5.one fun w8 k8 z8 b8 => ?_
      refine op_store_ok (by kernel_rfl) b8 (by simp) rfl fun w9 k9 z9 b9 => ?_
      have k59 : Frm (· = ab) w5 w9 := k8.trans k9 fun _ h _ => h
      have hlow5 := hR5.own_lt
      have hty5 := rows_ty hR5
      refine hsame (M := (· = ab)) (pv := l5) hnone (k45.fst k59) (fun _ _ _ _ h => h) (fun _ h => by omega) (by rw [ea]; simpa using b9) ?_ fun c hc => ?_
      · rw [ea]; exact hR5.flat.frame k59 fun c hc => by have := hlow5 c hc; omega
      · have := hlow5 c hc
        obtain ⟨cs', h1⟩ := hty5 c hc
        exact ⟨by omega, cs', k59.get h1 (by omega)⟩
    by_cases h4 : s.op = 4
    · have ea : ansV (ordI kn n) kd s L0 = ⟨0, L0.length, false, prsOf kd L0.reverse⟩ := by unfold ansV; rw [if_neg h2, if_neg h3, if_pos h4]; rfl
      simp [-getElem?_pos, -Array.getElem?_eq_getElem, -Int.natCast_add, -op_lit_38_1, -op_lit_38_0, -op_lit_65_1, -op_lit_35_1, -op_st_45, -op_alloc_45, -op_st_64, -op_alloc_64, -op_st_104, -op_alloc_104, -op_st_2, -op_st_3, -op_st_4, -op_st_38, bSK, h4]
      refine Jn.intro (fun v wx => v = .bool false ∧ wy = wx) ⟨⟨rfl, rfl⟩, ?_⟩
      rintro wx v ⟨rfl, rfl⟩
      obtain ⟨a0, c0, rfl, _, _, hr0, _⟩ := id hpvK
      try simp [-getElem?_pos, -Array.getElem?_eq_getElem, -Int.natCast_add, -op_lit_38_1, -op_lit_38_0, -op_lit_65_1, -op_lit_35_1, -op_st_45, -op_alloc_45, -op_st_64, -op_alloc_64, -op_st_104, -op_alloc_104, -op_st_2, -op_st_3, -op_st_4, -op_st_38]
      obtain ⟨I2, hI2⟩ : ∃ I2 : KV, ∀ v wz, I2 v wz ↔ ∃ (q : Nat) (pv : Value), v = .int .i64 q ∧ q ≤ L0.length ∧ Frm (· = ab) wy wz ∧
          wz.heap[ab]? = some (.cells #[.int .i64 0, .int .i64 0, .bool false, pv] 104 (0, 0)) ∧ PRow wz wy.heap.size pv (prsOf kd (L0.reverse.take q)) := ⟨_, fun _ _ => Iff.rfl⟩
      refine Lp.intro I2 (fun v _ => L0.length - nOf v) ⟨(hI2 _ _).2 ⟨0, _, rfl, by omega, Frm.refl, bAK, rows_nil⟩, ?_⟩
      intro wq v hm
      obtain ⟨q, pv, rfl, hq2, kq, bq, hRq⟩ := (hI2 _ _).1 hm
      have nq := kq.size
      have hlowq := hRq.own_lt
      simp only [op_lss, Br_dec]
      refine ⟨fun hlt2 => ?_, fun hge => ?_⟩
      · have hq' : q < L0.length := by omega
        have kd0 : Frm (fun _ => False) wq wq.drew := Frm.drew wq
        have e1 : IntKind.i64.wrap (IntKind.i64.wrap ((L0.length : Int) - 1) - q) = ((L0.length - 1 - q : Nat) : Int) := by rw [IntKind.wrap_i64, IntKind.wrap_i64]; omega
        obtain ⟨b, o2, cs2, e2, fz2, rfl, r1, r2, r3⟩ := (hr0.frame (kq.trans kd0 fun _ h _ => h.elim) fun p hp he => by
          obtain ⟨csp, hp1⟩ := hPK1 p.block (hpG _ (by subst hp; rfl))
          rw [show p.block = ab from he, bAK] at hp1; cases hp1).part SPr.len (by decide) (i := L0.length - 1 - q) (by rw [prs_len]; omega)
        have hel : (prsOf kd L0)[L0.length - 1 - q]'(by rw [prs_len]; omega) = kd.pair (L0.reverse[q]'(by rw [List.length_reverse]; exact hq')).1 (L0.reverse[q]'(by rw [List.length_reverse]; exact hq')).2 := by
          simp [prsOf]
        have htq : L0.reverse.take (q + 1) = L0.reverse.take q ++ [L0.reverse[q]'(by rw [List.length_reverse]; exact hq')] := List.take_succ_eq_append_getElem _
        rw [hel] at r3
        generalize L0.reverse[q]'(by rw [List.length_reverse]; exact hq') = el at *
        have r1' : wq.heap[b]? = some (.cells cs2 e2 fz2) := by simpa using r1
        simp [-getElem?_pos, -Array.getElem?_eq_getElem, -Int.natCast_add, -op_lit_38_1, -op_lit_38_0, -op_lit_65_1, -op_lit_35_1, -op_st_45, -op_alloc_45, -op_st_64, -op_alloc_64, -op_st_104, -op_alloc_104, -op_st_2, -op_st_3, -op_st_4, -op_st_38, bq, e1, r1', r2, r3]
        refine ⟨by omega, ?_⟩
        have bqd : wq.drew.heap[ab]? = some (.cells #[.int .i64 0, .int .i64 0, .bool false, pv] 104 (0, 0)) := kd0.get bq fun h => h
        have hlen : (prsOf kd (L0.reverse.take q)).length = q := by rw [prs_len, List.length_take, List.length_reverse]; omega
        have hsm : ∀ {wu : World}, Frm (fun b => some b = pv.ownBlock) wq.drew wu ∨ Frm (fun _ => False) wq.drew wu → wu.heap[ab]? = some (.cells #[.int .i64 0, .int .i64 0, .bool false, pv] 104 (0, 0)) := fun {wu} h => by
          rcases h with h | h
          · exact h.get bqd fun he => by have := hlowq ab he.symm; omega
          · exact h.get bqd fun h => h
        refine op_pushQ (lit_pr (kd.pair el.1 el.2)) (fun w1 h1 => ⟨_, ⟨_, _, _, hsm (.inr h1)⟩, rfl⟩) ?_
        refine op_push (u := (kd.pair el.1 el.2).cells) (y := kd.pair el.1 el.2) (flat_ok SPr.cells) apP (lit_pr _) rfl (SPr.one _) (frow_still hRq (Frm.drew wq)) rfl (G2 := fun _ => False) (fun _ h => h.elim) (fun _ _ h => h) (by omega) nq fun l' w12 k12 hR12 ho12 => ?_
        have b12 := hsm (.inl k12)
        have n12 := k12.size
        have hlow12 := hR12.own_lt
        refine op_store_ok (by kernel_rfl) b12 (by simp) hR12.one fun w13 k13 z13 b13 => ?_
        try simp [-getElem?_pos, -Array.getElem?_eq_getElem, -Int.natCast_add, -op_lit_38_1, -op_lit_38_0, -op_lit_65_1, -op_lit_35_1, -op_st_45, -op_alloc_45, -op_st_64, -op_alloc_64, -op_st_104, -op_alloc_104, -op_st_2, -op_st_3, -op_st_4, -op_st_38]
        rw [show IntKind.i64.wrap ((q : Int) + 1) = ((q + 1 : Nat) : Int) from by rw [IntKind.wrap_i64]; omega]
        refine ⟨(hI2 _ _).2 ⟨q + 1, l', rfl, by omega, ?_, by simpa using b13, ?_⟩, by simp only [nOf_int]; omega⟩
        · exact ((kq.trans kd0 fun _ h _ => h.elim).old k12 fun c hc => .inr (hlowq c hc.symm).1).trans k13 fun _ h _ => h
        · rw [htq, show ∀ A B : List (Ky × Vl), prsOf kd (A ++ B) = prsOf kd A ++ prsOf kd B from fun A B => by simp [prsOf]]
          have hR12' : PRow w12 wy.heap.size l' (prsOf kd (L0.reverse.take q) ++ [kd.pair el.1 el.2]) := hR12.mono (flat_ok _) (fun _ h => h.elim id fun h => h) (fun _ h => h.elim) fun _ _ h => h
          exact frow_frame hR12' k13 fun b hb he => by have := hlow12 b hb; omega
      · have : q = L0.length := by omega
        subst this
        rw [List.take_of_length_le (by rw [List.length_reverse]; omega)] at hRq
        try simp [-getElem?_pos, -Array.getElem?_eq_getElem, -Int.natCast_add, -op_lit_38_1, -op_lit_38_0, -op_lit_65_1, -op_lit_35_1, -op_st_45, -op_alloc_45, -op_st_64, -op_alloc_64, -op_st_104, -op_alloc_104, -op_st_2, -op_st_3, -op_st_4, -op_st_38]
        refine op_store_ok (by kernel_rfl) bq (by simp) rfl fun w9 k9 z9 b9 => ?_
        have hty := rows_ty hRq
        refine hsame (M := (· = ab)) (pv := pv) hnone (kq.trans k9 fun _ h _ => h) (fun _ _ _ _ h => h) (fun _ h => by omega) (by rw [ea]; simpa using b9) ?_ fun c hc => ?_
        · rw [ea]; exact hRq.flat.frame k9 fun c hc => by have := hlowq c hc; omega
        · have := hlowq c hc
          obtain ⟨cs', h1⟩ := hty c hc
          exact ⟨by omega, cs', k9.get h1 (by omega)⟩
    · omega
  · intro w9 l' hm
    obtain ⟨pv, G1', G2', hmid⟩ := (hJ _ _).1 hm
    obtain ⟨kf, hvs, hp1, hos, hp2, hcell, hrow, hown⟩ := hmid
    have hlA := lt_of_get hcell
    have n9 := kf.size
    have hla : an.length = i := by omega
    have hlowO9 := hos.own_lt
    have hoty := rows_ty hos
    have hvty := rows_ty hvs
    have hx4 : (#[.int .i64 (ansV (ordI kn n) kd s L0).value, .int .i64 (ansV (ordI kn n) kd s L0).n, .bool (ansV (ordI kn n) kd s L0).ok, pv] : Array Value).extract 0 4 = #[.int .i64 (ansV (ordI kn n) kd s L0).value, .int .i64 (ansV (ordI kn n) kd s L0).n, .bool (ansV (ordI kn n) kd s L0).ok, pv] := rfl
    simp [-getElem?_pos, -Array.getElem?_eq_getElem, -Int.natCast_add, -op_lit_38_1, -op_lit_38_0, -op_lit_65_1, -op_lit_35_1, -op_st_45, -op_alloc_45, -op_st_64, -op_alloc_64, -op_st_104, -op_alloc_104, -op_st_2, -op_st_3, -op_st_4, -op_st_38, hcell, hx4]
    refine op_push (u := [.int .i64 (ansV (ordI kn n) kd s L0).value, .int .i64 (ansV (ordI kn n) kd s L0).n, .bool (ansV (ordI kn n) kd s L0).ok, pv]) (y := ansV (ordI kn n) kd s L0) (G2 := fun c => pv.ownBlock = some c) elA_ok apB (lit_an _ _ _ _) rfl (fun u hu => ?_) hos ⟨pv, rfl, hrow, fun _ h => h⟩ (fun c hc => ?_) (fun b hb hc => ?_) (by omega) (by omega) fun o' w12 k12 hO12 ho12 => ?_
    · simp only [List.mem_cons, List.not_mem_nil, or_false] at hu
      rcases hu with rfl | rfl | rfl | rfl
      · rfl
      · rfl
      · rfl
      · exact hrow.one
    · obtain ⟨h1, cs', h2⟩ := hown c hc; have := lt_of_get h2; omega
    · obtain ⟨c2, t2⟩ := hoty b hb
      obtain ⟨h1, cs', h2⟩ := hown b hc
      rw [h2] at t2; cases t2
    · try simp [-getElem?_pos, -Array.getElem?_eq_getElem, -Int.natCast_add, -op_lit_38_1, -op_lit_38_0, -op_lit_65_1, -op_lit_35_1, -op_st_45, -op_alloc_45, -op_st_64, -op_alloc_64, -op_st_104, -op_alloc_104, -op_st_2, -op_st_3, -op_st_4, -op_st_38]
      rw [show IntKind.i64.wrap ((i : Int) + 1) = ((i + 1 : Nat) : Int) from by rw [IntKind.wrap_i64]; omega]
      have hno : ∀ c cs e, w9.heap[c]? = some (.cells cs e (0, 0)) → some c = out.ownBlock → e ≠ 45 := fun c cs e h1 h2 he => by
        obtain ⟨c2, t2⟩ := hoty c h2.symm
        rw [h1] at t2; cases t2; cases he
      refine ⟨(hI _ _ _ _).2 ⟨i + 1, G1', fun c => G2' c ∨ pv.ownBlock = some c, rfl, by omega, kf.old k12 fun c hc => .inr (hlowO9 c hc.symm).1, ?_, hp1.keep k12 hno, ?_, ?_⟩, by simp only [nOf_int]; omega⟩
      · rw [hsnoc]
        refine hvs.frame elV_ok k12 (fun c hc hm => ?_) fun b hb hm => ?_
        · obtain ⟨cs, h1⟩ := hp1 c hc
          exact hno _ _ _ h1 hm rfl
        · obtain ⟨c1, t1⟩ := hvty b hb
          obtain ⟨c2, t2⟩ := hoty b hm.symm
          rw [t1] at t2; cases t2
      · rw [hsnoc]; exact hO12
      · exact Prs.keep (w := w9) (fun c hc => hc.elim (fun h => hp2 c h) fun h => (hown c h).2) k12 hno
end Go.Proofs.YtodjijfblgnfmaaGreatDoor.T
end
section
namespace Go.Proofs.YtodjijfblgnfmaaGreatDoor
open Go.Vc Go.Proofs Go.Vc.Bt
variable {w w' : World} {K : KV} {Kp : KP} {n : Int} {kn : Nat} {a2 : Option Addr} {c2 : Nat} {steps : List SSt} {s : SSt}
theorem fits5_ok (hK : ∀ b w', Frm (fun _ => False) w w' → K (.bool b) w') : Calls Tryz.prog 36 #[.agg s.cells.toArray] w (ret K Kp) := by
  refine vc36_calls ?_
  delta vc36
  refine op_box_ok fun w1 k1 z1 b1 => ?_
  simp only [cells_agg, SSt.cells] at b1
  have h0 := hK true w1 k1
  have h1 := hK false w1 k1
  simp [-getElem?_pos, -Array.getElem?_eq_getElem, -Int.natCast_add, -op_alloc_64, -op_st_64, b1]
  exact ⟨fun _ => h1, fun _ => h0⟩
theorem fits4_ok (hr : Row w a2 (steps.flatMap SSt.cells)) (hK : ∀ b w', Frm (fun _ => False) w w' → K (.bool b) w') : Calls Tryz.prog 12 #[.slice a2 steps.length c2] w (ret K Kp) := by
  refine vc12_calls ?_
  delta vc12
  simp [-getElem?_pos, -Array.getElem?_eq_getElem, -Int.natCast_add, -op_alloc_64, -op_st_64]
  refine ⟨fun _ => hK false w Frm.refl, fun hle => ?_⟩
  obtain ⟨I, hI⟩ : ∃ I : KV, ∀ v wl, I v wl ↔ ∃ i : Nat, v = .int .i64 i ∧ i ≤ steps.length ∧ Frm (fun _ => False) w wl := ⟨_, fun _ _ => Iff.rfl⟩
  refine Lp.intro I (fun v _ => steps.length - nOf v) ⟨(hI _ _).2 ⟨0, rfl, by omega, Frm.refl⟩, ?_⟩
  intro wl v hv
  obtain ⟨i, rfl, hi, kl⟩ := (hI _ _).1 hv
  simp only [op_lss, Br_dec]
  refine ⟨fun hlt => ?_, fun hge => hK true wl kl⟩
  have hi' : i < steps.length := by omega
  obtain ⟨b, o, cs, e, fz, rfl, q1, q2, q3⟩ := (hr.frame kl fun _ _ h => h).part SSt.len (by decide) hi'
  simp [-getElem?_pos, -Array.getElem?_eq_getElem, -Int.natCast_add, -op_alloc_64, -op_st_64, q1, q2, q3]
  refine ⟨hi', ?_⟩
  refine op_alloc_ok (z := .agg #[.int .u8 0, .int .i64 0, .int .i64 0, .string ByteArray.empty, .int .i64 0, .int .i64 0, .int .i64 0]) (by kernel_rfl) fun w5 k5 z5 b5 => ?_
  simp only [cells_agg] at b5
  refine op_storeN_ok (n := 7) (by kernel_rfl) b5 rfl (by decide) (by simp [SSt.cells]) fun w6 k6 z6 b6 => ?_
  have b6 : w6.heap[wl.heap.size]? = some (.cells steps[i].cells.toArray 64 (0, 0)) := by
    rw [ow_all (by simp [SSt.cells])] at b6; exact b6
  have hx : steps[i].cells.toArray.extract 0 7 = steps[i].cells.toArray := extract_self (by simp [SSt.cells])
  have hs7 : 7 ≤ steps[i].cells.length := Nat.le_refl _
  simp [-getElem?_pos, -Array.getElem?_eq_getElem, -Int.natCast_add, -op_alloc_64, -op_st_64, b6, hx, hs7]
  refine fits5_ok fun b w7 k7 => ?_
  have k67 := (kl.no (k5.old k6 fun c hc => .inr (by omega))).no k7
  cases b with
  | false =>
    simp [-getElem?_pos, -Array.getElem?_eq_getElem, -Int.natCast_add, -op_alloc_64, -op_st_64]
    exact hK false w7 k67
  | true =>
    simp [-getElem?_pos, -Array.getElem?_eq_getElem, -Int.natCast_add, -op_alloc_64, -op_st_64]
    rw [show IntKind.i64.wrap ((i : Int) + 1) = ((i + 1 : Nat) : Int) from by rw [IntKind.wrap_i64]; omega]
    exact ⟨(hI _ _).2 ⟨i + 1, rfl, by omega, k67⟩, by simp only [nOf_int]; omega⟩
def StepOk (s : SSt) : Prop := s.text.size ≤ 100 ∧ 0 ≤ s.count ∧ s.count ≤ 3000 ∧ s.op ≤ 6
theorem stepsRight_ok (hr : Row w a2 (steps.flatMap SSt.cells)) (hK : ∀ b w', Frm (fun _ => False) w w' → (b = true → Right kn n ∧ steps.length ≤ 200 ∧ ∀ s ∈ steps, StepOk s) → K (.bool b) w') : Calls Tryz.prog 13 #[orderV kn n, .slice a2 steps.length c2] w (ret K Kp) := by
  refine vc13_calls ?_
  delta vc13 orderV
  refine op_box_ok fun w1 k1 z1 b1 => ?_
  simp only [cells_agg] at b1
  have hx2 : (#[.int .u8 kn, .int .i64 n] : Array Value).extract 0 2 = #[.int .u8 kn, .int .i64 n] := rfl
  simp [-getElem?_pos, -Array.getElem?_eq_getElem, -Int.natCast_add, -op_alloc_64, -op_st_64, b1, hx2]
  refine right_ok (kn := kn) (n := n) fun b w2 k2 hb => ?_
  have k12 := k1.no k2
  cases b with
  | false =>
    simp [-getElem?_pos, -Array.getElem?_eq_getElem, -Int.natCast_add, -op_alloc_64, -op_st_64]
    exact hK false w2 k12 (fun h => nomatch h)
  | true =>
    have hri := hb.1 rfl
    simp [-getElem?_pos, -Array.getElem?_eq_getElem, -Int.natCast_add, -op_alloc_64, -op_st_64]
    refine ⟨fun _ => hK false w2 k12 (fun h => nomatch h), fun hle => ?_⟩
    obtain ⟨I, hI⟩ : ∃ I : Value → Value → KV, ∀ u1 u2 v wl, I u1 u2 v wl ↔ ∃ (i : Nat) (x y : Int), u1 = .int .i64 x ∧ u2 = .int .i64 y ∧ v = .int .i64 i ∧ i ≤ steps.length ∧ Frm (fun _ => False) w wl ∧ ∀ s ∈ steps.take i, StepOk s := ⟨_, fun _ _ _ _ => Iff.rfl⟩
    refine Lp.intro I (fun _ _ v _ => steps.length - nOf v) ⟨(hI _ _ _ _).2 ⟨0, 0, 0, rfl, rfl, rfl, by omega, k12, by simp⟩, ?_⟩
    intro wl u1 u2 v hv
    obtain ⟨i, x, y, rfl, rfl, rfl, hi, kl, hall⟩ := (hI _ _ _ _).1 hv
    have hn := hK false
    simp only [op_lss, op_leq, Br_dec]
    refine ⟨fun hlt => ?_, fun hge => ?_⟩
    · have hi' : i < steps.length := by omega
      obtain ⟨b, o, cs, e, fz, rfl, q1, q2, q3⟩ := (hr.frame kl fun _ _ h => h).part SSt.len (by decide) hi'
      have htk : steps.take (i + 1) = steps.take i ++ [steps[i]] := List.take_succ_eq_append_getElem hi'
      generalize steps[i] = s at *
      simp [-getElem?_pos, -Array.getElem?_eq_getElem, -Int.natCast_add, -op_alloc_64, -op_st_64, q1, q2, q3]
      refine ⟨hi', ?_⟩
      refine op_alloc_ok (z := .agg #[.int .u8 0, .int .i64 0, .int .i64 0, .string ByteArray.empty, .int .i64 0, .int .i64 0, .int .i64 0]) (by kernel_rfl) fun w5 k5 z5 b5 => ?_
      simp only [cells_agg] at b5
      refine op_storeN_ok (n := 7) (by kernel_rfl) b5 rfl (by decide) (by simp [SSt.cells]) fun w6 k6 z6 b6 => ?_
      have b6 : w6.heap[wl.heap.size]? = some (.cells s.cells.toArray 64 (0, 0)) := by
        rw [ow_all (by simp [SSt.cells])] at b6; exact b6
      simp only [SSt.cells] at b6
      have k6' := kl.no (k5.old k6 fun c hc => .inr (by omega))
      have hno := hn w6 k6' (fun h => nomatch h)
      have hgo : ∀ {x' y' : Int}, StepOk s → I (.int .i64 x') (.int .i64 y') (.int .i64 (IntKind.i64.wrap ((i : Int) + 1))) w6 ∧ steps.length - nOf (.int .i64 (IntKind.i64.wrap ((i : Int) + 1))) < steps.length - nOf (.int .i64 (i : Int)) := fun {x' y'} hok => by
        rw [show IntKind.i64.wrap ((i : Int) + 1) = ((i + 1 : Nat) : Int) from by rw [IntKind.wrap_i64]; omega]
        refine ⟨(hI _ _ _ _).2 ⟨i + 1, x', y', rfl, rfl, rfl, by omega, k6', fun p hp => ?_⟩, by simp only [nOf_int]; omega⟩
        rw [htk] at hp
        rcases List.mem_append.1 hp with hp | hp
        · exact hall p hp
        · rw [List.mem_singleton.1 hp]; exact hok
      simp [-getElem?_pos, -Array.getElem?_eq_getElem, -Int.natCast_add, -op_alloc_64, -op_st_64, b6]
      refine ⟨fun _ => hno, fun g1 => ⟨fun _ => hno, fun g2 => ⟨fun _ => hno, fun g3 => ⟨fun _ => hno, fun g4 => ?_⟩⟩⟩⟩
      have hok : StepOk s := ⟨by omega, by omega, by omega, by omega⟩
      exact ⟨fun _ => ⟨fun _ => hgo hok, fun _ => ⟨fun _ => hgo hok, fun _ => hgo hok⟩⟩, fun _ => ⟨fun _ => hgo hok, fun _ => ⟨fun _ => hgo hok, fun _ => hgo hok⟩⟩⟩
    · rw [List.take_of_length_le (by omega)] at hall
      exact ⟨fun _ => hK _ wl kl fun _ => ⟨hri, by omega, hall⟩, fun _ => hK _ wl kl fun h => nomatch h⟩
theorem toSteps_ok (h : Row w a2 (steps.flatMap SSt.cells)) (hn : steps.length ≤ 200) (hK : ∀ l w', Frm (fun _ => False) w w' → RowsOf (Flat SSt.cells) w' w.heap.size 54 7 l steps (fun _ => False) → K l w') : Calls Tryz.prog 16 #[.slice a2 steps.length c2] w (ret K Kp) :=
  vc16_calls (conv_ok (f := SSt.cells) (k := 7) (e := 64) (z := .agg #[.int .u8 0, .int .i64 0, .int .i64 0, .string ByteArray.empty, .int .i64 0, .int .i64 0, .int .i64 0]) (bytes := 64) SSt.len (by decide) SSt.one (by kernel_rfl) (by kernel_rfl) (by kernel_rfl) (by kernel_rfl) rfl (by kernel_rfl) (fun _ => lit_st _) h (by omega) hK)
theorem sameAnswers_ok {v1 v2 : Value} {b1 b2 : Nat} {G1 G2 : Nat → Prop} {A : List SAns} (h1 : RowsOf ElA w b1 56 4 v1 A G1) (h2 : RowsOf ElA w b2 104 4 v2 A G2) (hn : A.length < 2 ^ 60) (hA : ∀ a ∈ A, a.list.length < 2 ^ 60) (hK : ∀ w', Frm (fun _ => False) w w' → K (.bool true) w') :
    Calls Tryz.prog 17 #[v1, v2] w (ret K Kp) := by
  refine vc17_calls ?_
  delta vc17
  obtain ⟨a1, c1, rfl, _⟩ := h1.slice
  obtain ⟨a2, c2, rfl, _⟩ := h2.slice
  simp [-getElem?_pos, -Array.getElem?_eq_getElem, -Int.natCast_add, -op_alloc_64, -op_st_64]
  obtain ⟨I, hI⟩ : ∃ I : KV, ∀ v wl, I v wl ↔ ∃ i : Nat, v = .int .i64 i ∧ i ≤ A.length ∧ Frm (fun _ => False) w wl := ⟨_, fun _ _ => Iff.rfl⟩
  refine Lp.intro I (fun v _ => A.length - nOf v) ⟨(hI _ _).2 ⟨0, rfl, by omega, Frm.refl⟩, ?_⟩
  intro wl v hv
  obtain ⟨i, rfl, hi, kl⟩ := (hI _ _).1 hv
  simp only [op_lss, Br_dec]
  refine ⟨fun hlt => ?_, fun hge => hK wl kl⟩
  have hi' : i < A.length := by omega
  have hmem : A[i] ∈ A := List.getElem_mem hi'
  obtain ⟨u1, g1, cc1, cs1, e1, p1, _, p3, _, _, pv1, hu1, hs1, _⟩ := (h1.still elA_ok kl).get hi'
  obtain ⟨u2, g2, cc2, cs2, e2, q1, _, q3, _, _, pv2, hu2, hs2, _⟩ := (h2.still elA_ok kl).get hi'
  cases e1
  cases e2
  subst hu1 hu2
  have hAi := hA _ hmem
  generalize A[i] = a at *
  have p0' : cs1[i * 4]? = some (.int .i64 a.value) := by have := p3 0 (by decide); simpa using this
  have p1' : cs1[i * 4 + 1]? = some (.int .i64 a.n) := by have := p3 1 (by decide); simpa using this
  have p2' : cs1[i * 4 + 2]? = some (.bool a.ok) := by have := p3 2 (by decide); simpa using this
  have p3' : cs1[i * 4 + 3]? = some pv1 := by have := p3 3 (by decide); simpa using this
  have q0' : cs2[i * 4]? = some (.int .i64 a.value) := by have := q3 0 (by decide); simpa using this
  have q1' : cs2[i * 4 + 1]? = some (.int .i64 a.n) := by have := q3 1 (by decide); simpa using this
  have q2' : cs2[i * 4 + 2]? = some (.bool a.ok) := by have := q3 2 (by decide); simpa using this
  have q3' : cs2[i * 4 + 3]? = some pv2 := by have := q3 3 (by decide); simpa using this
  simp [-getElem?_pos, -Array.getElem?_eq_getElem, -Int.natCast_add, -op_alloc_64, -op_st_64, p1, q1, p0', p1', p2', p3', q0', q1', q2', q3', hi']
  have hd : Frm (fun _ => False) wl wl.drew := Frm.drew wl
  refine samePairs_ok (hs1.still hd) (hs2.still hd) hAi fun w5 k5 => ?_
  simp [-getElem?_pos, -Array.getElem?_eq_getElem, -Int.natCast_add, -op_alloc_64, -op_st_64]
  rw [show IntKind.i64.wrap ((i : Int) + 1) = ((i + 1 : Nat) : Int) from by rw [IntKind.wrap_i64]; omega]
  exact ⟨(hI _ _).2 ⟨i + 1, rfl, by omega, kl.no (hd.no k5)⟩, by simp only [nOf_int]; omega⟩
end Go.Proofs.YtodjijfblgnfmaaGreatDoor
end
section
namespace Go.Vc.Bt
open Go.Vc
section
variable {κ : Type} [DecidableEq κ] {lt : κ → κ → Bool} {kd : Kd κ}
theorem ansV_le (s : SSt) (L : Vn κ) : (ansV lt kd s L).list.length ≤ L.length := by
  unfold ansV
  split
  · split <;> exact Nat.zero_le _
  · split
    · simp
    · split
      · simp
      · split <;> exact Nat.zero_le _
theorem runS_ans (steps : List SSt) : ∀ a ∈ (runS lt kd steps).2, a.list.length ≤ scost steps := by
  rw [← List.reverse_reverse steps]
  generalize steps.reverse = r
  induction r with
  | nil => intro a ha; simp [runS] at ha
  | cons s r ih =>
    intro a ha
    have hle := runS_le (lt := lt) (kd := kd) r.reverse
    rw [List.reverse_cons, runS_snoc] at ha
    rw [List.reverse_cons, scost_snoc]
    unfold oneS at ha
    rcases List.mem_append.1 ha with h | h
    · have := ih a h; omega
    · rw [List.mem_singleton] at h
      subst h
      generalize hq : (runS lt kd r.reverse).1[atV s (runS lt kd r.reverse).1.length]?.getD [] = q
      have hql : q.length ≤ scost r.reverse := by
        cases hg : (runS lt kd r.reverse).1[atV s (runS lt kd r.reverse).1.length]? with
        | none => rw [hg] at hq; subst hq; exact Nat.zero_le _
        | some x => rw [hg] at hq; subst hq; exact hle x (List.mem_of_getElem? hg)
      have := ansV_le (lt := lt) (kd := kd) s q
      omega
theorem scost_small : ∀ (steps : List SSt), (∀ s ∈ steps, s.count ≤ 3000) → scost steps ≤ steps.length * 3001
  | [], _ => Nat.zero_le _
  | s :: l, h => by
    have h1 := scost_small l fun s hs => h s (List.mem_cons_of_mem _ hs)
    have h2 := h s List.mem_cons_self
    have e : scost (s :: l) = s.cost + scost l := by simp [scost]
    rw [e, List.length_cons]
    unfold SSt.cost
    omega
end
end Go.Vc.Bt
end
section
namespace Go.Proofs.YtodjijfblgnfmaaGreatDoor
open Go.Vc Go.Proofs Go.Vc.Bt
variable {w w' : World} {K : KV} {Kp : KP} {n : Int} {kn : Nat} {text : Bool} {a2 : Option Addr} {c2 : Nat} {steps : List SSt} {s : SSt}
theorem ansOf_len : (ansOf text kn n steps).length = steps.length ∧ ∀ a ∈ ansOf text kn n steps, a.list.length ≤ scost steps := by
  unfold ansOf
  cases text
  · exact ⟨(runS_len (lt := I.ordI kn n) (kd := I.kd) steps).2.2, runS_ans (lt := I.ordI kn n) (kd := I.kd) steps⟩
  · exact ⟨(runS_len (lt := T.ordI kn n) (kd := T.kd) steps).2.2, runS_ans (lt := T.ordI kn n) (kd := T.kd) steps⟩
theorem specSorted_ok (hR : Right kn n) (hr : Row w a2 (steps.flatMap SSt.cells)) (hs : ∀ s ∈ steps, StepOk s) (hc : scost steps < 2 ^ 30) (hK : ∀ l w' G, Frm (fun _ => False) w w' → RowsOf ElA w' w.heap.size 104 4 l (ansOf text kn n steps) G → K l w') :
    Calls Tryz.prog 18 #[.bool text, .bool false, orderV kn n, .slice a2 steps.length c2] w (ret K Kp) := by
  cases text
  · exact I.sortedS_ok hR hr hs hc hK
  · exact T.sortedS_ok hR hr hs hc hK
theorem law_sorted (h2 : Row w a2 (steps.flatMap SSt.cells)) (n1 : -9223372036854775808 ≤ n) (n2 : n ≤ 9223372036854775807) (hT : Tab w) (hK : ∀ w', Frm (fun _ => False) w w' → K (.bool true) w') :
    Calls Tryz.prog 3 #[.bool text, orderV kn n, .slice a2 steps.length c2] w (ret K Kp) := by
  refine vc3_calls ?_
  delta vc3
  refine op_box_ok fun w1 k1 z1 b1 => ?_
  simp only [orderV, cells_agg] at b1
  have hx2 : (#[.int .u8 kn, .int .i64 n] : Array Value).extract 0 2 = #[.int .u8 kn, .int .i64 n] := rfl
  simp only [call_12]
  refine fits4_ok (h2.frame k1 fun _ _ h => h) fun b w3 k3 => ?_
  have k13 := k1.no k3
  cases b with
  | false =>
    simp [-getElem?_pos, -Array.getElem?_eq_getElem, -Int.natCast_add, add_spot, and_assoc, Br_dec]
    exact hK w3 k13
  | true =>
  have b13 := k3.get b1 fun h => h
  simp [-getElem?_pos, -Array.getElem?_eq_getElem, -Int.natCast_add, b13, hx2]
  refine stepsRight_ok (kn := kn) (n := n) (h2.frame k13 fun _ _ h => h) fun b w5 k5 hb => ?_
  have k15 := k13.no k5
  have b15 := k5.get b13 fun h => h
  cases b with
  | false =>
    simp [-getElem?_pos, -Array.getElem?_eq_getElem, -Int.natCast_add, add_spot, and_assoc, Br_dec]
    exact awake_ok fun w6 k6 => hK w6 (k15.no k6)
  | true =>
  obtain ⟨hR, hn, hall⟩ := hb rfl
  have hcost := scost_small steps fun s hs => (hall s hs).2.2.1
  have hc30 : scost steps < 2 ^ 30 := by omega
  simp [-getElem?_pos, -Array.getElem?_eq_getElem, -Int.natCast_add, b15, hx2]
  have kd5 : Frm (fun _ => False) w5 w5.drew := Frm.drew w5
  refine toSteps_ok (h2.frame (k15.no kd5) fun _ _ h => h) hn fun l6 w6 k6 hl6 => ?_
  have k16 := k15.no (kd5.no k6)
  have b16 := (kd5.no k6).get b15 fun h => h
  obtain ⟨a6, c6, rfl, _, _, hr6, _⟩ := hl6.flat
  simp [-getElem?_pos, -Array.getElem?_eq_getElem, -Int.natCast_add, b16, hx2]
  refine sorted_ok (text := text) (kn := kn) (n := n) n1 n2 hr6 ⟨fun s hs => (hall s hs).1, hc30, fun _ => ⟨I.delOk I.ordI_lin, T.delOk T.ordI_lin⟩, fun _ => ⟨I.getOk I.ordI_lin, T.getOk T.ordI_lin⟩, fun _ => ⟨I.backOk _, T.backOk _⟩, fun _ _ => many_text _ (hT.still k16)⟩ fun l7 w7 G7 k7 hl7 => ?_
  have k17 := k16.no k7
  have b17 := k7.get b16 fun h => h
  simp [-getElem?_pos, -Array.getElem?_eq_getElem, -Int.natCast_add, add_spot, and_assoc, Br_dec]
  refine awake_ok fun w8 k8 => ?_
  have k18 := k17.no k8
  have b18 := k8.get b17 fun h => h
  simp [-getElem?_pos, -Array.getElem?_eq_getElem, -Int.natCast_add, b18, hx2]
  refine specSorted_ok hR (h2.frame k18 fun _ _ h => h) hall hc30 fun l9 w9 G9 k9 hl9 => ?_
  have k19 := k18.no k9
  have hA := ansOf_len (text := text) (kn := kn) (n := n) (steps := steps)
  try simp [-getElem?_pos, -Array.getElem?_eq_getElem, -Int.natCast_add, add_spot, and_assoc, Br_dec]
  refine sameAnswers_ok (hl7.still elA_ok (k8.no k9)) hl9 (by omega) (fun a ha => by have := hA.2 a ha; omega) fun w10 k10 => ?_
  exact hK w10 (k19.no k10)
end Go.Proofs.YtodjijfblgnfmaaGreatDoor
end
