import Derived.Test.YtodjijfblgnfmaaGreatDoorX4
import Derived.Test.YtodjijfblgnfmaaGreatDoorX5
set_option linter.unusedSimpArgs false
set_option linter.unusedVariables false
set_option linter.unusedSectionVars false
set_option maxRecDepth 100000
set_option maxHeartbeats 4000000
section
namespace Go.Proofs.YtodjijfblgnfmaaGreatDoor.T
open Go.Vc Go.Proofs Go.Proofs.YtodjijfblgnfmaaGreatDoor Go.Vc.Bt
variable {w w' : World} {K : KV} {Kp : KP} {n : Int} {kn base : Nat} {x : Vl} {l : Value} {p : SPr} {s : SSt}
theorem copyP_ok {xs : List SPr} {KK : KV} (h : IsSl w l xs.length (xs.flatMap SPr.cells)) (hn : xs.length ≤ 10000) (hb : base ≤ w.heap.size) (hK : ∀ l' w', Frm (fun _ => False) w w' → PRow w' base l' xs → (∀ b, l'.ownBlock = some b → w.heap.size ≤ b) → KK l' w') :
    nP.op (.buildSlice 38 0 []) w (fun v w => nP.op (.blt .append [38, 38] 38 [v, l]) w KK Kp) Kp := by
  refine op_row0 (f := SPr.cells) (base := w.heap.size) apP lit_pr0 (Nat.le_refl _) fun l4 w4 k4 hR4 ho4 => ?_
  refine op_concatF apP SPr.len (fun p => SPr.one p) hR4 (h.still k4) (by simp; omega) k4.size fun l5 w5 k5 hR5 ho5 => ?_
  rw [List.nil_append] at hR5
  have hlow4 := hR4.own_lt
  have hlow5 := hR5.own_lt
  exact hK l5 w5 (k4.old k5 fun c hc => .inr (hlow4 c hc.symm).1) (hR5.base_le hb) fun b hb => (hlow5 b hb).1
theorem sortedB_ok {a2 : Option Addr} {c2 : Nat} {steps : List SSt} (hRt : Right kn n) (h2 : Row w a2 (steps.flatMap SSt.cells)) (hs : ∀ s ∈ steps, s.text.size ≤ 100) (hn : steps.length ≤ 300)
    (hK : ∀ l v w' G G', Frm (fun _ => False) w w' → RowsOf ElA w' w.heap.size 104 4 l (runB (ordI kn n) kd steps).2.1 G → RowsOf ElK w' w.heap.size 38 1 v (runB (ordI kn n) kd steps).2.2 G' → K (.tuple #[l, v]) w') :
    Calls Tryz.prog 30 #[.bool tx, orderV kn n, .slice a2 steps.length c2] w (ret K Kp) := by
  refine vc30_calls ?_
  delta vc30 orderV
  refine op_box_ok fun w1 k1 z1 b1 => ?_
  simp only [cells_agg] at b1
  have n1 := k1.size
  have hlb1 := lt_of_get b1
  generalize hbase : w1.heap.size = base at *
  have hx2 : (#[.int .u8 kn, .int .i64 n] : Array Value).extract 0 2 = #[.int .u8 kn, .int .i64 n] := rfl
  have hx3 : ∀ p : SPr, p.cells.toArray.extract 0 3 = p.cells.toArray := fun p => extract_self (by simp [SPr.cells])
  have hs3 : ∀ p : SPr, 3 ≤ p.cells.length := fun p => Nat.le_refl _
  simp [-getElem?_pos, -Array.getElem?_eq_getElem, -Int.natCast_add]
  obtain ⟨I, hI⟩ : ∃ I : Value → Value → Value → KV, ∀ out kp l v wl, I out kp l v wl ↔ ∃ (i : Nat) (G1 G2 : Nat → Prop), v = .int .i64 i ∧ i ≤ steps.length ∧ Frm (fun _ => False) w1 wl ∧
      RowsOf ElA wl base 104 4 out (runB (ordI kn n) kd (steps.take i)).2.1 G1 ∧ Prs wl G1 ∧
      RowsOf ElK wl base 38 1 kp (runB (ordI kn n) kd (steps.take i)).2.2 G2 ∧ Prs wl G2 ∧ PRow wl base l (prsOf kd (runB (ordI kn n) kd (steps.take i)).1) := ⟨_, fun _ _ _ _ _ => Iff.rfl⟩
  refine Lp.intro I (fun _ _ _ v _ => steps.length - nOf v) ⟨(hI _ _ _ _ _).2 ⟨0, fun _ => False, fun _ => False, rfl, by omega, Frm.refl, rows_nil, fun _ h => h.elim, rows_nil, fun _ h => h.elim, rows_nil⟩, ?_⟩
  intro wl out kp l v hlv
  obtain ⟨i, G1, G2, rfl, hi, kl, hO, hP1, hQ, hP2, hL⟩ := (hI _ _ _ _ _).1 hlv
  clear hlv
  simp only [op_lss, Br_dec]
  refine ⟨fun hlt' => ?_, fun hnl' => ?_⟩
  rotate_left
  · have : i = steps.length := by omega
    subst this
    rw [List.take_length] at hO hQ
    exact hK out kp wl G1 G2 (k1.no kl) (hO.base_le (by omega)) (hQ.base_le (by omega))
  have hi' : i < steps.length := by omega
  have htk : steps.take (i + 1) = steps.take i ++ [steps[i]] := List.take_succ_eq_append_getElem hi'
  have hle := runB_le (kd := kd) (lt := ordI kn n) ordI_lin (steps.take i)
  have hsnoc := runB_snoc (lt := ordI kn n) (kd := kd) (steps.take i) steps[i]
  rw [← htk] at hsnoc
  rw [List.length_take] at hle
  obtain ⟨bp, o, cs, e, fz, rfl, hcs, hsz, hext⟩ := (h2.frame (k1.no kl) (fun _ _ h => h)).part SSt.len (by decide) hi'
  have ht := hs _ (List.getElem_mem hi')
  generalize steps[i] = s at *
  generalize hvs : runB (ordI kn n) kd (steps.take i) = vs at *
  obtain ⟨L, A, ks⟩ := vs
  simp only at hL hO hQ hle
  obtain ⟨hLl, hAl, hsd, hkl, hkp⟩ := hle
  have hlowL := hL.own_lt
  have hlowO := hO.own_lt
  have hlowQ := hQ.own_lt
  have nl := kl.size
  simp [-getElem?_pos, -Array.getElem?_eq_getElem, -Int.natCast_add, hcs, hsz, hext]
  refine ⟨hi', ?_⟩
  refine op_alloc_ok (z := .agg #[.int .u8 0, .int .i64 0, .int .i64 0, .string ByteArray.empty, .int .i64 0, .int .i64 0, .int .i64 0]) (by kernel_rfl) fun w5 k5 z5 b5 => ?_
  simp only [cells_agg] at b5
  refine op_storeN_ok (n := 7) (by kernel_rfl) b5 rfl (by decide) (by simp [SSt.cells]) fun w6 k6 z6 b6 => ?_
  have b6 : w6.heap[wl.heap.size]? = some (.cells s.cells.toArray 64 (0, 0)) := by
    rw [ow_all (by simp [SSt.cells])] at b6; simpa [SSt.cells] using b6
  simp only [SSt.cells] at b6
  have k56 : Frm (fun _ => False) wl w6 := k5.old k6 fun c hc => .inr (by omega)
  simp [-getElem?_pos, -Array.getElem?_eq_getElem, -Int.natCast_add, b6]
  refine sortedKey_ok (p := ⟨s.key, s.text, s.value⟩) (show s.text.size ≤ 1000 from by omega) fun w7 k7 => ?_
  have n6 := k56.size
  have hlS := lt_of_get b6
  have n7 := k7.size
  refine op_alloc_ok (z := .agg #[.int .i64 0, .string ByteArray.empty, .int .i64 0]) (by kernel_rfl) fun w8 k8 z8 b8 => ?_
  simp only [cells_agg] at b8
  generalize hpk : kd.pair (kd.key s.key s.text) s.value = pk at *
  refine op_storeN_ok (n := 3) (by kernel_rfl) b8 rfl (by decide) (by simpa using SPr.one _) fun w9 k9 z9 b9 => ?_
  have b9 : w9.heap[w7.heap.size]? = some (.cells pk.cells.toArray 45 (0, 0)) := by
    rw [ow_all (by simp [SPr.cells])] at b9; simpa using b9
  have k79 : Frm (fun _ => False) w7 w9 := k8.old k9 fun c hc => .inr (by omega)
  simp [-getElem?_pos, -Array.getElem?_eq_getElem, -Int.natCast_add]
  refine op_alloc_ok (z := .agg #[.int .i64 0, .int .i64 0, .bool false, .slice none 0 0]) (by kernel_rfl) fun w10 k10 z10 b10 => ?_
  simp only [cells_agg] at b10
  refine op_storeN_ok (n := 4) (by kernel_rfl) b10 rfl (by decide) (by simp) fun wA k11 z11 bA => ?_
  rw [ow_all (by simp)] at bA
  have k9A : Frm (fun _ => False) w9 wA := k10.old k11 fun c hc => .inr (by omega)
  have n9 := k79.size
  have bS := k9A.get ((k7.no k79).get b6 fun h => h) fun h => h
  have bP := k9A.get b9 fun h => h
  have klA : Frm (fun _ => False) wl wA := k56.no ((k7.no k79).no k9A)
  have bO := (kl.no klA).get b1 fun h => h
  have hOA := hO.still elA_ok klA
  have hQA := hQ.still elK_ok klA
  have hP1A := hP1.still klA
  have hP2A := hP2.still klA
  have hLA := frow_still hL klA
  have hPL : (prsOf kd L).length = L.length := by simp [prsOf]
  generalize hab : w9.heap.size = ab at *
  generalize hpb : w7.heap.size = pb at *
  obtain ⟨J, hJ⟩ : ∃ J : Value → KV, ∀ kp' l' wz, J kp' l' wz ↔ ∃ (pv : Value) (G1 G2 : Nat → Prop), (Frm (fun _ => False) w1 wz ∧ wl.heap.size ≤ wz.heap.size) ∧ RowsOf ElA wz base 104 4 out A G1 ∧ Prs wz G1 ∧ RowsOf ElK wz base 38 1 kp' (ks ++ if s.op = 4 then [prsOf kd L] else []) G2 ∧ Prs wz G2 ∧
      wz.heap[ab]? = some (.cells #[.int .i64 (bldA (ordI kn n) kd L s).value, .int .i64 (bldA (ordI kn n) kd L s).n, .bool (bldA (ordI kn n) kd L s).ok, pv] 104 (0, 0)) ∧ IsSl wz pv (bldA (ordI kn n) kd L s).list.length ((bldA (ordI kn n) kd L s).list.flatMap SPr.cells) ∧
      (∀ c, pv.ownBlock = some c → wl.heap.size ≤ c ∧ ∃ cs, wz.heap[c]? = some (.cells cs 45 (0, 0))) ∧ PRow wz base l' (prsOf kd (bldS (ordI kn n) kd L s)) := ⟨_, fun _ _ _ => Iff.rfl⟩
  have nA := klA.size
  refine Jn.intro J ⟨?_, ?_⟩
  · have hfin : ∀ {wz : World} {l' pv : Value} {a : SAns} {L' : List (Ky × Vl)}, bldA (ordI kn n) kd L s = a → s.op ≠ 4 → bldS (ordI kn n) kd L s = L' → Frm (· = ab) wA wz → wz.heap[ab]? = some (.cells #[.int .i64 a.value, .int .i64 a.n, .bool a.ok, pv] 104 (0, 0)) → IsSl wz pv a.list.length (a.list.flatMap SPr.cells) →
        (∀ c, pv.ownBlock = some c → wA.heap.size ≤ c ∧ ∃ cs, wz.heap[c]? = some (.cells cs 45 (0, 0))) → PRow wz base l' (prsOf kd L') → J kp l' wz := fun {wz l' pv a L'} ha h4 hL' hf hcell hrow hown hl' => by
      have hno : ∀ c cs e, wA.heap[c]? = some (.cells cs e (0, 0)) → c = ab → e ≠ 45 := fun c cs e h1 h2 he => by
        subst h2
        rw [bA] at h1; cases h1; cases he
      refine (hJ _ _ _).2 ⟨pv, G1, G2, ⟨(kl.no klA).old hf fun c hc => .inr (by omega), by have := hf.size; omega⟩, hOA.frame elA_ok hf (fun c hc he => ?_) (fun b hb he => ?_), hP1A.keep hf hno, ?_, hP2A.keep hf hno, by rw [ha]; exact hcell, by rw [ha]; exact hrow, fun c hc => ⟨by have := (hown c hc).1; omega, (hown c hc).2⟩, by rw [hL']; exact hl'⟩
      · obtain ⟨cs, h⟩ := hP1A c hc; exact hno c cs _ h he rfl
      · have := hlowO b hb; omega
      · rw [if_neg h4, List.append_nil]
        refine hQA.frame elK_ok hf (fun c hc he => ?_) fun b hb he => ?_
        · obtain ⟨cs, h⟩ := hP2A c hc; exact hno c cs _ h he rfl
        · have := hlowQ b hb; omega
    have hlA := lt_of_get bA
    have hzero : bldA (ordI kn n) kd L s = zeroA → s.op ≠ 4 → ∀ {wz : World} {l' : Value} {L' : List (Ky × Vl)}, bldS (ordI kn n) kd L s = L' → Frm (fun _ => False) wA wz → PRow wz base l' (prsOf kd L') → J kp l' wz := fun ha h4 {wz l' L'} hL' hf hl' =>
      hfin (pv := .slice none 0 0) ha h4 hL' (hf.to fun _ h => h.elim) (hf.get bA fun h => h) IsSl.nil (fun c hc => nomatch hc) hl'
    have hLs : IsSl wA l (prsOf kd L).length ((prsOf kd L).flatMap SPr.cells) := hLA.flat
    by_cases h0 : s.op = 0
    · simp [-getElem?_pos, -Array.getElem?_eq_getElem, -Int.natCast_add, bS, h0, bO, hx2, bP, hx3, hs3]
      refine op_row0 (f := SPr.cells) (base := wA.heap.size) apP lit_pr0 (Nat.le_refl _) fun l4 w4 k4 hR4 ho4 => ?_
      have k4 := Frm.dr k4
      have bO4 := k4.get bO fun h => h
      have bP4 := k4.get bP fun h => h
      have hlow4 := hR4.own_lt
      simp [-getElem?_pos, -Array.getElem?_eq_getElem, -Int.natCast_add, bO4, bP4, hx2, hx3, hs3]
      refine op_concatF apP SPr.len (fun p => SPr.one p) hR4 (zs := prsOf kd L) (hLs.still k4) (by simp [prs_len]; omega) k4.size fun l5 w5 k5 hR5 ho5 => ?_
      rw [List.nil_append] at hR5
      have k45 : Frm (fun _ => False) wA w5 := k4.old k5 fun c hc => .inr (hlow4 c hc.symm).1
      have bO5 := k45.get bO fun h => h
      have bP5 := k45.get bP fun h => h
      have hlow5 := hR5.own_lt
      have n5 := k45.size
      simp [-getElem?_pos, -Array.getElem?_eq_getElem, -Int.natCast_add, bO5, bP5, hx2, hx3, hs3]
      rw [← hpk]
      refine put_ok (base := base) hRt hsd (hR5.base_le (by omega)) (by omega) (by omega) fun l6 w6 k6 hR6 => ?_
      try simp [-getElem?_pos, -Array.getElem?_eq_getElem, -Int.natCast_add]
      exact hzero (by unfold bldA; rw [if_neg (by omega), if_neg (by omega), if_neg (by omega)]) (by omega) (by unfold bldS; rw [if_pos h0]) (k45.old k6 fun c hc => .inr (hlow5 c hc.symm).1) hR6
    by_cases h1 : s.op = 1
    · simp [-getElem?_pos, -Array.getElem?_eq_getElem, -Int.natCast_add, bS, h1, bO, hx2, bP, hx3, hs3]
      refine op_row0 (f := SPr.cells) (base := wA.heap.size) apP lit_pr0 (Nat.le_refl _) fun l4 w4 k4 hR4 ho4 => ?_
      have k4 := Frm.dr k4
      have bO4 := k4.get bO fun h => h
      have bP4 := k4.get bP fun h => h
      have hlow4 := hR4.own_lt
      simp [-getElem?_pos, -Array.getElem?_eq_getElem, -Int.natCast_add, bO4, bP4, hx2, hx3, hs3]
      refine op_concatF apP SPr.len (fun p => SPr.one p) hR4 (zs := prsOf kd L) (hLs.still k4) (by simp [prs_len]; omega) k4.size fun l5 w5 k5 hR5 ho5 => ?_
      rw [List.nil_append] at hR5
      have k45 : Frm (fun _ => False) wA w5 := k4.old k5 fun c hc => .inr (hlow4 c hc.symm).1
      have bO5 := k45.get bO fun h => h
      have bP5 := k45.get bP fun h => h
      have hlow5 := hR5.own_lt
      have n5 := k45.size
      simp [-getElem?_pos, -Array.getElem?_eq_getElem, -Int.natCast_add, bO5, bP5, hx2, hx3, hs3]
      rw [← hpk]
      refine drop_ok (base := base) hRt hsd (hR5.base_le (by omega)) (by omega) (by omega) fun l6 w6 k6 hR6 => ?_
      try simp [-getElem?_pos, -Array.getElem?_eq_getElem, -Int.natCast_add]
      exact hzero (by unfold bldA; rw [if_neg (by omega), if_neg (by omega), if_neg (by omega)]) (by omega) (by unfold bldS; rw [if_neg h0, if_pos h1]) (k45.old k6 fun c hc => .inr (hlow5 c hc.symm).1) hR6
    have hkeep : bldS (ordI kn n) kd L s = L := by unfold bldS; rw [if_neg h0, if_neg h1]
    have hLs' := hLs
    rw [prs_len] at hLs'
    by_cases h2' : s.op = 2
    · simp [-getElem?_pos, -Array.getElem?_eq_getElem, -Int.natCast_add, bS, h2', bO, hx2, bP, hx3, hs3]
      rw [← hpk]
      refine place_ok hRt hsd hLs' (by omega) fun w5 k5 => ?_
      have b5 := k5.get bA fun h => h
      have hansg : ∀ g, got (ordI kn n) L (kd.key s.key s.text) = g → bldA (ordI kn n) kd L s = match g with | some v => ⟨v, 0, true, []⟩ | none => zeroA := fun g hg => by unfold bldA; rw [if_pos h2', hg]; first | done | (cases g <;> rfl)
      cases hh : has (ordI kn n) L (kd.key s.key s.text) with
      | false =>
        have ea := hansg none (by unfold got; rw [if_neg (by simp [hh])])
        simp [-getElem?_pos, -Array.getElem?_eq_getElem, -Int.natCast_add]
        exact hzero ea (by omega) hkeep k5 (frow_still hLA k5)
      | true =>
        have hil := has_lt hh
        have ea := hansg (some (L[place (ordI kn n) L (kd.key s.key s.text)]).2) (by unfold got; rw [if_pos hh, List.getElem?_eq_getElem hil]; rfl)
        generalize place (ordI kn n) L (kd.key s.key s.text) = j at *
        have hLA5 := frow_still hLA k5
        obtain ⟨a0, c0, rfl, _, _, hr0, _⟩ := hLs'.still k5
        obtain ⟨b, o2, cs2, e2, fz2, rfl, r1, r2, r3⟩ := hr0.part SPr.len (by decide) (i := j) (by rw [prs_len]; exact hil)
        have r4 : cs2[o2 + j * 3 + 2]? = some (.int .i64 (L[j]).2) := by
          have := congrArg (fun a : Array Value => a[2]?) r3
          simp only [Array.getElem?_extract, prsOf, List.getElem_map] at this
          rw [if_pos (by omega)] at this
          rw [this]; rfl
        simp [-getElem?_pos, -Array.getElem?_eq_getElem, -Int.natCast_add, r1, r4]
        refine ⟨hil, ?_⟩
        refine op_store_ok (by kernel_rfl) b5 (by simp) rfl fun w8 k8 z8 b8 => ?_
        refine op_store_ok (by kernel_rfl) b8 (by simp) rfl fun w9 k9 z9 b9 => ?_
        have k89 : Frm (· = ab) w5 w9 := k8.trans k9 fun _ h _ => h
        exact hfin (pv := .slice none 0 0) ea (by omega) hkeep (k5.fst k89) (by simpa using b9) IsSl.nil (fun c hc => nomatch hc) (frow_frame hLA5 k89 fun b hb he => by have := hlowL b hb; omega)
    by_cases h3 : s.op = 3
    · have ea : bldA (ordI kn n) kd L s = ⟨0, L.length, false, []⟩ := by unfold bldA; rw [if_neg h2', if_pos h3]
      obtain ⟨aL, cL, rfl, _⟩ := id hLs'
      simp [-getElem?_pos, -Array.getElem?_eq_getElem, -Int.natCast_add, bS, h3]
      refine op_store_ok (by kernel_rfl) bA (by simp) rfl fun w8 k8 z8 b8 => ?_
      exact hfin (pv := .slice none 0 0) ea (by omega) hkeep k8 (by simpa using b8) IsSl.nil (fun c hc => nomatch hc) (frow_frame hLA k8 fun b hb he => by have := hlowL b hb; omega)
    by_cases h4 : s.op = 4
    · have ea : bldA (ordI kn n) kd L s = zeroA := by unfold bldA; rw [if_neg h2', if_neg h3, if_neg (by omega)]
      simp [-getElem?_pos, -Array.getElem?_eq_getElem, -Int.natCast_add, bS, h4]
      refine copyP_ok (base := base) hLs (by rw [prs_len]; omega) (by omega) fun l5 w5 k5 hR5 ho5 => ?_
      have hlow5 := hR5.own_lt
      have n5 := k5.size
      refine op_push (u := [l5]) (y := prsOf kd L) (G2 := fun c => l5.ownBlock = some c) elK_ok apV (lit_65_1 hR5.one) rfl (fun x hx => by rw [List.mem_singleton.1 hx]; exact hR5.one) (hQA.still elK_ok k5) ⟨l5, rfl, hR5.flat, fun _ h => h⟩ (fun c hc => hlow5 c hc) (fun b hb hc => by have := ho5 b hc; have := hlowQ b hb; omega) (by omega) (by omega) fun kp' w6 k6 hR6 ho6 => ?_
      try simp [-getElem?_pos, -Array.getElem?_eq_getElem, -Int.natCast_add]
      have hQ5 := hQA.still elK_ok k5
      have hoff : ∀ c cs e, w5.heap[c]? = some (.cells cs e (0, 0)) → some c = kp.ownBlock → e = 38 := fun c cs e h1 h2 => by
        obtain ⟨cs2, t2⟩ := rows_ty hQ5 c h2.symm
        rw [h1] at t2; cases t2; rfl
      have hno : ∀ c cs e, w5.heap[c]? = some (.cells cs e (0, 0)) → some c = kp.ownBlock → e ≠ 45 := fun c cs e h1 h2 he => by rw [hoff c cs e h1 h2] at he; cases he
      have hO5 := hOA.still elA_ok k5
      have hL5 := frow_still hLA k5
      have hP25 : Prs w5 (fun c => G2 c ∨ l5.ownBlock = some c) := fun c hc => hc.elim (fun h => (hP2A.still k5) c h) fun h => rows_ty hR5 c h
      refine (hJ _ _ _).2 ⟨.slice none 0 0, G1, _, ⟨((kl.no klA).no k5).old k6 fun c hc => .inr (by have := hlowQ c hc.symm; omega), by have := k6.size; omega⟩, hO5.frame elA_ok k6 (fun c hc he => ?_) (fun b hb he => ?_), (hP1A.still k5).keep k6 hno, by rw [if_pos h4]; exact hR6, hP25.keep k6 hno, ?_, by rw [ea]; exact IsSl.nil, (fun c hc => nomatch hc), ?_⟩
      · obtain ⟨cs, h⟩ := (hP1A.still k5) c hc; exact hno c cs _ h he rfl
      · obtain ⟨cs, h⟩ := rows_ty hO5 b hb
        have := hoff b cs _ h he
        cases this
      · rw [ea]
        exact k6.get (k5.get bA fun h => h) fun he => by have := hlowQ ab he.symm; omega
      · rw [hkeep]
        refine frow_frame hL5 k6 fun b hb he => ?_
        obtain ⟨cs, h⟩ := rows_ty hL5 b hb
        have := hoff b cs _ h he
        cases this
    by_cases h5 : s.op = 5
    · have ea : bldA (ordI kn n) kd L s = ⟨0, 0, false, prsOf kd L⟩ := by unfold bldA; rw [if_neg h2', if_neg h3, if_pos h5]; rfl
      simp [-getElem?_pos, -Array.getElem?_eq_getElem, -Int.natCast_add, bS, h5]
      refine copyP_ok (base := wA.heap.size) hLs (by rw [prs_len]; omega) (Nat.le_refl _) fun l5 w5 k5 hR5 ho5 => ?_
      have hlow5 := hR5.own_lt
      have b5 := k5.get bA fun h => h
      try simp [-getElem?_pos, -Array.getElem?_eq_getElem, -Int.natCast_add]
      refine op_store_ok (by kernel_rfl) b5 (by simp) hR5.one fun w8 k8 z8 b8 => ?_
      refine hfin (pv := l5) ea (by omega) hkeep (k5.fst k8) (by simpa using b8) ((hR5.flat).frame k8 fun b hb he => by have := hlow5 b hb; omega) (fun c hc => ⟨(hlow5 c hc).1, ?_⟩) (frow_frame (frow_still hLA k5) k8 fun b hb he => by have := hlowL b hb; omega)
      obtain ⟨cs, h⟩ := rows_ty hR5 c hc
      exact ⟨cs, k8.get h (by have := hlow5 c hc; omega)⟩
    have ea : bldA (ordI kn n) kd L s = zeroA := by unfold bldA; rw [if_neg h2', if_neg h3, if_neg h5]
    have g1 : ¬ (s.op : Int) = 1 := by omega
    have g2 : ¬ (s.op : Int) = 2 := by omega
    have g3 : ¬ (s.op : Int) = 3 := by omega
    have g4 : ¬ (s.op : Int) = 4 := by omega
    have g5 : ¬ (s.op : Int) = 5 := by omega
    simp [-getElem?_pos, -Array.getElem?_eq_getElem, -Int.natCast_add, bS, h0, g1, g2, g3, g4, g5]
    exact hzero ea h4 hkeep Frm.refl hLA
  · intro wz kp' l' hm
    obtain ⟨pv, G3, G4, ⟨kz, nz⟩, hO9, hP9, hQ9, hP9', hcell, hrow, hown, hL9⟩ := (hJ _ _ _).1 hm
    have hone : ∀ u ∈ [Value.int .i64 (bldA (ordI kn n) kd L s).value, .int .i64 (bldA (ordI kn n) kd L s).n, .bool (bldA (ordI kn n) kd L s).ok, pv], u.oneCell' = true := fun u hu => by
      simp only [List.mem_cons, List.not_mem_nil, or_false] at hu
      rcases hu with rfl | rfl | rfl | rfl
      · rfl
      · rfl
      · rfl
      · exact hrow.one
    have hlow9 := hO9.own_lt
    have hx4 : (#[.int .i64 (bldA (ordI kn n) kd L s).value, .int .i64 (bldA (ordI kn n) kd L s).n, .bool (bldA (ordI kn n) kd L s).ok, pv] : Array Value).extract 0 4 = #[.int .i64 (bldA (ordI kn n) kd L s).value, .int .i64 (bldA (ordI kn n) kd L s).n, .bool (bldA (ordI kn n) kd L s).ok, pv] := rfl
    simp [-getElem?_pos, -Array.getElem?_eq_getElem, -Int.natCast_add, hcell, hx4]
    have hoff : ∀ c cs e, wz.heap[c]? = some (.cells cs e (0, 0)) → some c = out.ownBlock → e = 104 := fun c cs e h1 h2 => by
      obtain ⟨cs2, t2⟩ := rows_ty hO9 c h2.symm
      rw [h1] at t2; cases t2; rfl
    refine op_push (u := [.int .i64 (bldA (ordI kn n) kd L s).value, .int .i64 (bldA (ordI kn n) kd L s).n, .bool (bldA (ordI kn n) kd L s).ok, pv]) (y := bldA (ordI kn n) kd L s) (G2 := fun c => pv.ownBlock = some c) elA_ok apB (lit_an _ _ _ _) rfl hone hO9 ⟨pv, rfl, hrow, fun _ h => h⟩ (fun c hc => ?_) (fun b hb hc => ?_) (by omega) (by omega) fun o' w12 k12 hO12 ho12 => ?_
    · obtain ⟨h1, cs', h2⟩ := hown c hc; have := lt_of_get h2; omega
    · obtain ⟨h1, cs', h2⟩ := hown b hc
      have := hoff b cs' _ h2 hb.symm
      cases this
    try simp [-getElem?_pos, -Array.getElem?_eq_getElem, -Int.natCast_add]
    rw [show IntKind.i64.wrap ((i : Int) + 1) = ((i + 1 : Nat) : Int) from by rw [IntKind.wrap_i64]; omega]
    have hno : ∀ c cs e, wz.heap[c]? = some (.cells cs e (0, 0)) → some c = out.ownBlock → e ≠ 45 := fun c cs e h1 h2 he => by rw [hoff c cs e h1 h2] at he; cases he
    have hP12 : Prs wz (fun c => G3 c ∨ pv.ownBlock = some c) := fun c hc => hc.elim (fun h => hP9 c h) fun h => (hown c h).2
    refine ⟨(hI _ _ _ _ _).2 ⟨i + 1, fun c => G3 c ∨ pv.ownBlock = some c, G4, rfl, by omega, kz.old k12 fun c hc => .inr (by have := hlow9 c hc.symm; omega), by rw [hsnoc]; exact hO12, hP12.keep k12 hno, ?_, hP9'.keep k12 hno, ?_⟩, by simp only [nOf_int]; omega⟩
    · rw [hsnoc]
      refine hQ9.frame elK_ok k12 (fun c hc he => ?_) fun b hb he => ?_
      · obtain ⟨cs, h⟩ := hP9' c hc; exact hno c cs _ h he rfl
      · obtain ⟨cs, h⟩ := rows_ty hQ9 b hb
        have := hoff b cs _ h he
        cases this
    · rw [hsnoc]
      refine frow_frame hL9 k12 fun b hb he => ?_
      obtain ⟨cs, h⟩ := rows_ty hL9 b hb
      have := hoff b cs _ h he
      cases this
end Go.Proofs.YtodjijfblgnfmaaGreatDoor.T
end
section
namespace Go.Proofs.YtodjijfblgnfmaaGreatDoor
open Go.Vc Go.Proofs Go.Vc.Bt
variable {w w' : World} {K : KV} {Kp : KP} {n : Int} {kn : Nat} {text : Bool} {a2 : Option Addr} {c2 : Nat} {steps : List SSt}
def bldR (text : Bool) (kn : Nat) (n : Int) (steps : List SSt) : List SAns × List (List SPr) := if text then (runB (T.ordI kn n) T.kd steps).2 else (runB (I.ordI kn n) I.kd steps).2
theorem bldR_le : (bldR text kn n steps).1.length = steps.length ∧ (bldR text kn n steps).2.length ≤ steps.length ∧ ∀ l ∈ (bldR text kn n steps).2, l.length ≤ steps.length := by
  unfold bldR
  cases text
  · obtain ⟨_, h1, _, h2, h3⟩ := runB_le (kd := I.kd) (lt := I.ordI kn n) I.ordI_lin steps
    exact ⟨h1, h2, h3⟩
  · obtain ⟨_, h1, _, h2, h3⟩ := runB_le (kd := T.kd) (lt := T.ordI kn n) T.ordI_lin steps
    exact ⟨h1, h2, h3⟩
theorem bldR_ans (hn : steps.length ≤ 300) : ∀ a ∈ (bldR text kn n steps).1, a.list.length < 2 ^ 60 := by
  unfold bldR
  cases text
  · exact fun a ha => by have := runB_ans (kd := I.kd) (lt := I.ordI kn n) I.ordI_lin steps a ha; omega
  · exact fun a ha => by have := runB_ans (kd := T.kd) (lt := T.ordI kn n) T.ordI_lin steps a ha; omega
theorem specB_ok (hR : Right kn n) (hr : Row w a2 (steps.flatMap SSt.cells)) (hs : ∀ s ∈ steps, s.text.size ≤ 100) (hn : steps.length ≤ 300)
    (hK : ∀ l v w' G G', Frm (fun _ => False) w w' → RowsOf ElA w' w.heap.size 104 4 l (bldR text kn n steps).1 G → RowsOf ElK w' w.heap.size 38 1 v (bldR text kn n steps).2 G' → K (.tuple #[l, v]) w') :
    Calls Tryz.prog 30 #[.bool text, orderV kn n, .slice a2 steps.length c2] w (ret K Kp) := by
  cases text
  · exact I.sortedB_ok hR hr hs hn hK
  · exact T.sortedB_ok hR hr hs hn hK
theorem toStepsB_ok (h : Row w a2 (steps.flatMap SSt.cells)) (hn : steps.length ≤ 300) (hK : ∀ l w', Frm (fun _ => False) w w' → RowsOf (Flat SSt.cells) w' w.heap.size 54 7 l steps (fun _ => False) → K l w') : Calls Tryz.prog 16 #[.slice a2 steps.length c2] w (ret K Kp) :=
  vc16_calls (conv_ok (f := SSt.cells) (k := 7) (e := 64) (z := .agg #[.int .u8 0, .int .i64 0, .int .i64 0, .string ByteArray.empty, .int .i64 0, .int .i64 0, .int .i64 0]) (bytes := 64) SSt.len (by decide) SSt.one (by kernel_rfl) (by kernel_rfl) (by kernel_rfl) (by kernel_rfl) rfl (by kernel_rfl) (fun _ => lit_st _) h (by omega) hK)
theorem build1_ok {b0 b1 b2 b3 b4 : Nat} {v3 v4 : Value} (h1 : -9223372036854775808 ≤ n) (h2 : n ≤ 9223372036854775807) (hr : Row w a2 (steps.flatMap SSt.cells)) (hs : ∀ s ∈ steps, s.text.size ≤ 100) (hn : steps.length ≤ 300) (h4 : ∀ i (hi : i < steps.length), steps[i].op = 4 → i + 1 = steps.length)
    (k0 : w.heap[b0]? = some (.cells #[.bool text] 4 (0, 0))) (k1 : w.heap[b1]? = some (.cells #[.int .u8 kn, .int .i64 n] 31 (0, 0))) (k2 : w.heap[b2]? = some (.cells #[.slice a2 steps.length c2] 32 (0, 0)))
    (k3 : w.heap[b3]? = some (.cells #[v3] 28 (0, 0))) (k4 : w.heap[b4]? = some (.cells #[v4] 68 (0, 0)))
    (hK : ∀ l v w' G G', Frm (fun c => c = b3 ∨ c = b4) w w' → w'.heap[b3]? = some (.cells #[l] 28 (0, 0)) → w'.heap[b4]? = some (.cells #[v] 68 (0, 0)) → RowsOf ElA w' w.heap.size 56 4 l (bldR text kn n steps).1 G → RowsOf ElK w' w.heap.size 46 1 v (bldR text kn n steps).2 G' → K (.tuple #[]) w') :
    Calls Tryz.prog 53 #[.pointer (some ⟨b0, 0, none⟩), .pointer (some ⟨b1, 0, none⟩), .pointer (some ⟨b2, 0, none⟩), .pointer (some ⟨b3, 0, none⟩), .pointer (some ⟨b4, 0, none⟩)] w (ret K Kp) := by
  refine vc53_calls ?_
  delta vc53
  have hx : (#[.int .u8 kn, .int .i64 n] : Array Value).extract 0 2 = #[.int .u8 kn, .int .i64 n] := rfl
  have h34 : b3 ≠ b4 := fun e => by rw [e, k4] at k3; cases k3
  have hfin : ∀ {l v : Value} {w9 : World} {G G' : Nat → Prop}, Frm (fun _ => False) w w9 → RowsOf ElA w9 w.heap.size 56 4 l (bldR text kn n steps).1 G → RowsOf ElK w9 w.heap.size 46 1 v (bldR text kn n steps).2 G' →
      nP.op (.store 28 (.pointer (some ⟨b3, 0, none⟩)) l) w9 (fun _ w => nP.op (.store 68 (.pointer (some ⟨b4, 0, none⟩)) v) w (fun _ w => K (.tuple #[]) w) Kp) Kp := fun {l v w9 G G'} k9 hA hB => by
    have hl3 := lt_of_get k3
    have hl4 := lt_of_get k4
    have lA := hA.own_lt
    have lB := hB.own_lt
    refine op_store_ok (by kernel_rfl) (k9.get k3 fun h => h) (by simp) hA.one fun w10 k10 z10 b10 => ?_
    refine op_store_ok (by kernel_rfl) (k10.get (k9.get k4 fun h => h) fun e => h34 e.symm) (by simp) hB.one fun w11 k11 z11 b11 => ?_
    have k911 : Frm (fun c => c = b3 ∨ c = b4) w9 w11 := (k10.to fun c hc => .inl hc).trans k11 fun c hc _ => .inr hc
    have hA11 := hA.frame elA_ok k911 (fun c hc he => by have := (hA.low c hc).1; omega) fun b hb he => by have := (lA b hb).1; omega
    have hB11 := hB.frame elK_ok k911 (fun c hc he => by have := (hB.low c hc).1; omega) fun b hb he => by have := (lB b hb).1; omega
    have b11 : w11.heap[b4]? = some (.cells #[v] 68 (0, 0)) := by simpa using b11
    have b10 : w10.heap[b3]? = some (.cells #[l] 28 (0, 0)) := by simpa using b10
    exact hK l v w11 G G' (k9.fst k911) (k11.get b10 h34) b11 hA11 hB11
  cases text with
  | true =>
    simp [-getElem?_pos, -Array.getElem?_eq_getElem, -Int.natCast_add, k0, k1, k2, hx]
    refine T.keys_ok fun w4 f4 => ?_
    have f4 := Frm.dr f4
    have q1 := f4.get k1 fun h => h
    have q2 := f4.get k2 fun h => h
    simp [-getElem?_pos, -Array.getElem?_eq_getElem, -Int.natCast_add, q1, q2, hx]
    refine T.comparer_ok h1 h2 fun cv w5 f5 hc => ?_
    have q5 := f5.get q2 fun h => h
    have f45 := f4.no f5
    simp [-getElem?_pos, -Array.getElem?_eq_getElem, -Int.natCast_add, q5]
    refine T.sortedBuild_ok hc T.ordI_lin (hr.frame f45 fun _ _ h => h) hs hn h4 fun l v w6 G G' f6 hA hB => ?_
    try simp [-getElem?_pos, -Array.getElem?_eq_getElem, -Int.natCast_add]
    exact hfin (f45.no f6) (hA.base_le f45.size) (hB.base_le f45.size)
  | false =>
    simp [-getElem?_pos, -Array.getElem?_eq_getElem, -Int.natCast_add, k0, k1, k2, hx]
    refine I.keys_ok fun w4 f4 => ?_
    have f4 := Frm.dr f4
    have q1 := f4.get k1 fun h => h
    have q2 := f4.get k2 fun h => h
    simp [-getElem?_pos, -Array.getElem?_eq_getElem, -Int.natCast_add, q1, q2, hx]
    refine I.comparer_ok h1 h2 fun cv w5 f5 hc => ?_
    have q5 := f5.get q2 fun h => h
    have f45 := f4.no f5
    simp [-getElem?_pos, -Array.getElem?_eq_getElem, -Int.natCast_add, q5]
    refine I.sortedBuild_ok hc I.ordI_lin (hr.frame f45 fun _ _ h => h) hs hn h4 fun l v w6 G G' f6 hA hB => ?_
    try simp [-getElem?_pos, -Array.getElem?_eq_getElem, -Int.natCast_add]
    exact hfin (f45.no f6) (hA.base_le f45.size) (hB.base_le f45.size)
theorem build_ok (h1 : -9223372036854775808 ≤ n) (h2 : n ≤ 9223372036854775807) (hr : Row w a2 (steps.flatMap SSt.cells)) (hs : ∀ s ∈ steps, s.text.size ≤ 100) (hn : steps.length ≤ 300) (h4 : ∀ i (hi : i < steps.length), steps[i].op = 4 → i + 1 = steps.length)
    (hK : ∀ l v w' G G', Frm (fun _ => False) w w' → RowsOf ElA w' w.heap.size 56 4 l (bldR text kn n steps).1 G → RowsOf ElK w' w.heap.size 46 1 v (bldR text kn n steps).2 G' → K (.tuple #[l, v, .bool true]) w') :
    Calls Tryz.prog 31 #[.bool text, orderV kn n, .slice a2 steps.length c2] w (ret K Kp) := by
  refine vc31_calls ?_
  delta vc31 orderV
  refine op_box_ok fun w1 k1 z1 b1 => op_box_ok fun w2 k2 z2 b2 => op_box_ok fun w3 k3 z3 b3 => ?_
  rw [cells_of_one (by rfl)] at b1 b3
  simp only [cells_agg] at b2
  refine op_alloc_ok (z := .slice none 0 0) (by kernel_rfl) fun w4 k4 z4 b4 => ?_
  rw [cells_of_one (by rfl)] at b4
  refine op_alloc_ok (z := .slice none 0 0) (by kernel_rfl) fun w5 k5 z5 b5 => ?_
  rw [cells_of_one (by rfl)] at b5
  have k45 := k4.no k5
  have c1 := ((k2.no k3).no k45).get b1 fun h => h
  have c2' := (k3.no k45).get b2 fun h => h
  have c3 := k45.get b3 fun h => h
  have c4 := k5.get b4 fun h => h
  have k05 := ((k1.no k2).no k3).no k45
  simp [-getElem?_pos, -Array.getElem?_eq_getElem, -Int.natCast_add]
  have k7 : Frm (fun _ => False) w5 (w5.alloc (.cells #[.bool false] 4)) := Frm.alloc _ _
  refine thrown_ok (x := #[]) (by kernel_rfl) ?_
  have k07 := k05.no k7
  rw [show ∀ a b c d e : Value, (#[] ++ #[a, b, c, d, e] : Array Value) = #[a, b, c, d, e] from fun _ _ _ _ _ => rfl]
  refine build1_ok (text := text) (kn := kn) (n := n) (steps := steps) h1 h2 (hr.frame k07 fun _ _ h => h) hs hn h4 (k7.get c1 fun h => h) (k7.get c2' fun h => h) (k7.get c3 fun h => h) (k7.get c4 fun h => h) (k7.get b5 fun h => h) fun l v w8 G G' k8 b8 d8 hA hB => ?_
  have n03 := ((k1.no k2).no k3).size
  have n4 := k4.size
  have n5 := k5.size
  have lA := hA.own_lt
  have lB := hB.own_lt
  have hsz : (w5.alloc (.cells #[.bool false] 4)).heap.size = w5.heap.size + 1 := by simp
  refine ⟨k8.get hp_alloc_new (by omega), ?_⟩
  simp [-getElem?_pos, -Array.getElem?_eq_getElem, -Int.natCast_add, b8, d8]
  have hd8 : Frm (fun _ => False) w8 w8.drew := Frm.drew w8
  refine op_store_ok (by kernel_rfl) (hd8.get b8 fun h => h) (by simp) hA.one fun w9 k9 z9 b9 => ?_
  have b9 : w9.heap[w3.heap.size]? = some (.cells #[l] 28 (0, 0)) := by simpa using b9
  have d9 := k9.get (hd8.get d8 fun h => h) (by omega)
  simp [-getElem?_pos, -Array.getElem?_eq_getElem, -Int.natCast_add, d9]
  refine op_store_ok (by kernel_rfl) d9 (by simp) hB.one fun w10 k10 z10 b10 => ?_
  have b10 : w10.heap[w4.heap.size]? = some (.cells #[v] 68 (0, 0)) := by simpa using b10
  have d10 := k10.get b9 (by omega)
  have k810 : Frm (fun c => c = w3.heap.size ∨ c = w4.heap.size) w8 w10 := (hd8.fst (k9.to fun c hc => .inl hc)).trans k10 fun c hc _ => .inr hc
  have hA11 := hA.frame elA_ok k810 (fun c hc he => by have := (hA.low c hc).1; omega) fun b hb he => by have := (lA b hb).1; omega
  have hB11 := hB.frame elK_ok k810 (fun c hc he => by have := (hB.low c hc).1; omega) fun b hb he => by have := (lB b hb).1; omega
  have := hK l v w10 G G' ((k07.old k8 fun c hc => .inr (by omega)).old k810 fun c hc => .inr (by omega)) (hA11.base_le (by omega)) (hB11.base_le (by omega))
  simp [-getElem?_pos, -Array.getElem?_eq_getElem, -Int.natCast_add, d10, b10]
  exact this
end Go.Proofs.YtodjijfblgnfmaaGreatDoor
end
section
namespace Go.Proofs.YtodjijfblgnfmaaGreatDoor
open Go.Vc Go.Proofs Go.Vc.Bt
variable {w w' : World} {K : KV} {Kp : KP} {n : Int} {kn : Nat} {a1 : Option Addr} {c1 : Nat} {ps : List SPr}
theorem closureA_ok {a2 : Option Addr} {c2 : Nat} {steps : List SSt} {b0 b1 b2 b3 : Nat} {v3 : Value} (h1 : -9223372036854775808 ≤ n) (h2 : n ≤ 9223372036854775807) (hr : Row w a2 (steps.flatMap SSt.cells)) (ht : ∀ s ∈ steps, s.text.size ≤ 100) (hc : scost steps < 2 ^ 30) (ho : ∀ s ∈ steps, s.op = 0 ∨ s.op = 3)
    (k0 : w.heap[b0]? = some (.cells #[.bool false] 4 (0, 0))) (k1 : w.heap[b1]? = some (.cells #[.int .u8 kn, .int .i64 n] 31 (0, 0))) (k2 : w.heap[b2]? = some (.cells #[.slice a2 steps.length c2] 32 (0, 0)))
    (k3 : w.heap[b3]? = some (.cells #[v3] 28 (0, 0)))
    (hK : ∀ l w' G, Frm (· = b3) w w' → w'.heap[b3]? = some (.cells #[l] 28 (0, 0)) → RowsOf ElA w' w.heap.size 56 4 l ((runS (I.ordI kn n) I.kd steps).2) G → K (.tuple #[]) w') :
    Calls Tryz.prog 38 #[.pointer (some ⟨b0, 0, none⟩), .pointer (some ⟨b1, 0, none⟩), .pointer (some ⟨b2, 0, none⟩), .pointer (some ⟨b3, 0, none⟩)] w (ret K Kp) := by
  refine vc38_calls ?_
  delta vc38
  have hx : (#[.int .u8 kn, .int .i64 n] : Array Value).extract 0 2 = #[.int .u8 kn, .int .i64 n] := rfl
  have hfin : ∀ {l : Value} {w9 : World} {G : Nat → Prop}, Frm (fun _ => False) w w9 → RowsOf ElA w9 w.heap.size 56 4 l ((runS (I.ordI kn n) I.kd steps).2) G →
      nP.op (.store 28 (.pointer (some ⟨b3, 0, none⟩)) l) w9 (fun _ w => K (.tuple #[]) w) Kp := fun {l w9 G} k9 hR => by
    have hl3 := lt_of_get k3
    have hlow := hR.own_lt
    refine op_store_ok (by kernel_rfl) (k9.get k3 fun h => h) (by simp) hR.one fun w10 k10 z10 b10 => ?_
    refine hK l w10 G (k9.fst k10) (by simpa using b10) (hR.frame elA_ok k10 (fun c hc he => by have := (hR.low c hc).1; omega) fun b hb he => by have := (hlow b hb).1; omega)
  simp [-getElem?_pos, -Array.getElem?_eq_getElem, -Int.natCast_add, k0, k1, k2, hx]
  refine I.keys_ok fun w4 f4 => ?_
  have f4 := Frm.dr f4
  have q1 := f4.get k1 fun h => h
  have q2 := f4.get k2 fun h => h
  simp [-getElem?_pos, -Array.getElem?_eq_getElem, -Int.natCast_add, q1, q2, hx]
  refine I.comparer_ok h1 h2 fun cv w5 f5 hcv => ?_
  have q5 := f5.get q2 fun h => h
  have f45 := f4.no f5
  simp [-getElem?_pos, -Array.getElem?_eq_getElem, -Int.natCast_add, q5]
  refine I.sortedRun_ok hcv I.ordI_lin (hr.frame f45 fun _ _ h => h) ht hc (fun ⟨s, hs, h⟩ => by have := ho s hs; omega) (fun ⟨s, hs, h⟩ => by have := ho s hs; omega) (fun ⟨s, hs, h⟩ => by have := ho s hs; omega) (fun ⟨s, hs, h⟩ => by have := ho s hs; omega) fun l w6 G f6 hR => ?_
  exact hfin (f45.no f6) (hR.base_le f45.size)
theorem sortedA_ok {a2 : Option Addr} {c2 : Nat} {steps : List SSt} (h1 : -9223372036854775808 ≤ n) (h2 : n ≤ 9223372036854775807) (hr : Row w a2 (steps.flatMap SSt.cells)) (ht : ∀ s ∈ steps, s.text.size ≤ 100) (hc : scost steps < 2 ^ 30) (ho : ∀ s ∈ steps, s.op = 0 ∨ s.op = 3)
    (hK : ∀ l w' G, Frm (fun _ => False) w w' → RowsOf ElA w' w.heap.size 56 4 l ((runS (I.ordI kn n) I.kd steps).2) G → K (.tuple #[l, .bool true]) w') :
    Calls Tryz.prog 15 #[.bool false, orderV kn n, .slice a2 steps.length c2] w (ret K Kp) := by
  refine vc15_calls ?_
  delta vc15 orderV
  refine op_box_ok fun w1 k1 z1 b1 => op_box_ok fun w2 k2 z2 b2 => op_box_ok fun w3 k3 z3 b3 => ?_
  rw [cells_of_one (by rfl)] at b1 b3
  simp only [cells_agg] at b2
  refine op_alloc_ok (z := .slice none 0 0) (by kernel_rfl) fun w4 k4 z4 b4 => ?_
  rw [cells_of_one (by rfl)] at b4
  have c1 := k4.get (k3.get (k2.get b1 fun h => h) fun h => h) fun h => h
  have c2' := k4.get (k3.get b2 fun h => h) fun h => h
  have c3 := k4.get b3 fun h => h
  have k04 := ((k1.no k2).no k3).no k4
  simp [-getElem?_pos, -Array.getElem?_eq_getElem, -Int.natCast_add]
  have k5 : Frm (fun _ => False) w4 (w4.alloc (.cells #[.bool false] 4)) := Frm.alloc _ _
  refine thrown_ok (x := #[]) (by kernel_rfl) ?_
  have k05 := k04.no k5
  rw [show (#[] ++ #[Value.pointer (some ⟨w.heap.size, 0, none⟩), .pointer (some ⟨w1.heap.size, 0, none⟩), .pointer (some ⟨w2.heap.size, 0, none⟩), .pointer (some ⟨w3.heap.size, 0, none⟩)] : Array Value) = #[.pointer (some ⟨w.heap.size, 0, none⟩), .pointer (some ⟨w1.heap.size, 0, none⟩), .pointer (some ⟨w2.heap.size, 0, none⟩), .pointer (some ⟨w3.heap.size, 0, none⟩)] from rfl]
  refine closureA_ok (kn := kn) (n := n) (steps := steps) h1 h2 (hr.frame k05 fun _ _ h => h) ht hc ho (k5.get c1 fun h => h) (k5.get c2' fun h => h) (k5.get c3 fun h => h) (k5.get b4 fun h => h) fun l w6 G k6 b6 hR => ?_
  have n1 := k1.size
  have n2 := k2.size
  have n3 := k3.size
  have n4 := k4.size
  have hlow := hR.own_lt
  have hsz : (w4.alloc (.cells #[.bool false] 4)).heap.size = w4.heap.size + 1 := by simp
  refine ⟨k6.get hp_alloc_new (by omega), ?_⟩
  simp [-getElem?_pos, -Array.getElem?_eq_getElem, -Int.natCast_add, b6]
  refine op_store_ok (by kernel_rfl) b6 (by simp) hR.one fun w7 k7 z7 b7 => ?_
  have b7 : w7.heap[w3.heap.size]? = some (.cells #[l] 28 (0, 0)) := by simpa using b7
  have := hK l w7 G ((k05.old k6 fun c hc => .inr (by omega)).old k7 fun c hc => .inr (by omega)) ((hR.frame elA_ok k7 (fun c hc he => by have := (hR.low c hc).1; omega) fun b hb he => by have := (hlow b hb).1; omega).base_le (by omega))
  simp [-getElem?_pos, -Array.getElem?_eq_getElem, -Int.natCast_add, b7]
  exact this
theorem itemsA_ok (h1 : -9223372036854775808 ≤ n) (h2 : n ≤ 9223372036854775807) (hr : Row w a1 (ps.flatMap SPr.cells)) (hn : ps.length ≤ 1000) (ht : ∀ p ∈ ps, p.text.size ≤ 100)
    (hK : ∀ v w', Frm (fun _ => False) w w' → IsSl w' v (prsOf I.kd (putAll (I.ordI kn n) [] (ps.map I.kd.kv))).length ((prsOf I.kd (putAll (I.ordI kn n) [] (ps.map I.kd.kv))).flatMap SPr.cells) → K (.tuple #[v, .bool true]) w') :
    Calls Tryz.prog 22 #[.bool false, orderV kn n, .slice a1 ps.length c1] w (ret K Kp) := by
  refine vc22_calls ?_
  delta vc22
  refine op_box_ok fun w1 k1 z1 b1 => ?_
  simp only [orderV, cells_agg] at b1
  have hx2 : (#[.int .u8 kn, .int .i64 n] : Array Value).extract 0 2 = #[.int .u8 kn, .int .i64 n] := rfl
  simp [-getElem?_pos, -Array.getElem?_eq_getElem, -Int.natCast_add, b1, hx2]
  have e0 : (#[.int .u8 3, .int .i64 0, .int .i64 0, .string ByteArray.empty, .int .i64 0, .int .i64 0, .int .i64 0] : Array Value) = (⟨3, 0, 0, ByteArray.empty, 0, 0, 0⟩ : SSt).cells.toArray := by simp [SSt.cells]
  rw [e0]
  generalize hs0 : (⟨3, 0, 0, ByteArray.empty, 0, 0, 0⟩ : SSt) = s0 at *
  refine op_lit_ok (lit_st s0) fun w2 k2 z2 b2 => ?_
  have k2 := Frm.dr k2
  have q2 := k2.get b1 fun h => h
  simp [-getElem?_pos, -Array.getElem?_eq_getElem, -Int.natCast_add, q2, hx2]
  have hop : s0.op = 3 := by rw [← hs0]
  have h0 : s0.fro = 0 := by rw [← hs0]
  have ht0 : s0.text.size ≤ 100 := by rw [← hs0]; exact Nat.zero_le _
  have hc0 : s0.cost = 1 := by rw [← hs0]; rfl
  have k12 := k1.no k2
  refine sortedPut_ok (m := [s0]) (hr.frame k12 fun _ _ h => h) ⟨_, _, rfl, Nat.le_refl _, by simp [maxLen], .inr ⟨_, 0, _, _, _, rfl, b2, fun j v hj => by simpa using hj⟩, fun h => nomatch h⟩ (by omega) (by simp) fun l w3 k3 hR3 => ?_
  have hS1 : ∀ s ∈ putSteps ps ++ [s0].map (SSt.later ps.length), s.text.size ≤ 100 := fun s hs => by
    rcases List.mem_append.1 hs with hs | hs
    · obtain ⟨_, _, p, hp, e⟩ := putSteps_mem hs
      rw [e]; exact ht p hp
    · simp at hs; rw [hs]; exact ht0
  have hS2 : scost (putSteps ps ++ [s0].map (SSt.later ps.length)) < 2 ^ 30 := by
    rw [scost_app, putSteps_cost]
    have : scost ([s0].map (SSt.later ps.length)) = s0.cost := by simp [scost, SSt.later, SSt.cost]
    omega
  have hS3 : ∀ s ∈ putSteps ps ++ [s0].map (SSt.later ps.length), s.op = 0 ∨ s.op = 3 := fun s hs => by
    rcases List.mem_append.1 hs with hs | hs
    · exact .inl (putSteps_mem hs).1
    · simp at hs; rw [hs]; exact .inr hop
  obtain ⟨g1, g2⟩ := runS_items (lt := I.ordI kn n) (kd := I.kd) ps (by omega) hop h0
  rw [← List.map_singleton (f := SSt.later ps.length) (a := s0)] at g1 g2
  generalize putSteps ps ++ [s0].map (SSt.later ps.length) = S at *
  obtain ⟨a3, c3, rfl, hc3, hm3, hr3, _⟩ := hR3.flat
  have q3 := k3.get q2 fun h => h
  have k13 := k12.no k3
  simp [-getElem?_pos, -Array.getElem?_eq_getElem, -Int.natCast_add, q3, hx2]
  refine sortedA_ok (kn := kn) (n := n) h1 h2 hr3 hS1 hS2 hS3 fun l4 w4 G k4 hR4 => ?_
  generalize (runS (I.ordI kn n) I.kd S).2 = A at *
  have hA : ps.length < A.length := by omega
  obtain ⟨u, g, c, cs, hl4, hg1, hu, hg3, hg4, hg5, pv, hpv, hpr, _⟩ := hR4.get hA
  subst hl4 hpv
  have hg0 : cs[ps.length * 4 + 3]? = some pv := by have := hg3 3 (by decide); simpa using this
  rw [List.getElem?_eq_getElem hA, Option.map_some] at g2
  have g2 := Option.some.inj g2
  rw [g2] at hpr
  have e1 : IntKind.i64.wrap ((ps.length : Int) + 1) = ((ps.length + 1 : Nat) : Int) := by rw [IntKind.wrap_i64]; omega
  have := hK pv w4 (k13.no k4) hpr
  simp [-getElem?_pos, -Array.getElem?_eq_getElem, -Int.natCast_add, g1, e1, hg1, hg0]
  exact this
theorem awakeA_items : prsOf I.kd (putAll (I.ordI 0 0) [] ([(⟨5, ByteArray.empty, 1⟩ : SPr), ⟨-3, ByteArray.empty, 2⟩].map I.kd.kv)) = [⟨-3, ByteArray.empty, 2⟩, ⟨5, ByteArray.empty, 1⟩] := by decide +kernel
theorem awakeB_ok (hK : ∀ w', Frm (fun _ => False) w w' → K (.bool true) w') : Calls Tryz.prog 14 #[] w (ret K Kp) := by
  refine vc14_calls ?_
  delta vc14
  simp [-getElem?_pos, -Array.getElem?_eq_getElem, -Int.natCast_add]
  refine op_lit_ok lit_38_2 fun w1 k1 z1 b1 => ?_
  have hp1 : Row w1 (some ⟨w.heap.size, 0, none⟩) ([(⟨5, ByteArray.empty, 1⟩ : SPr), ⟨-3, ByteArray.empty, 2⟩].flatMap SPr.cells) := .inr ⟨_, 0, _, _, _, rfl, b1, fun j v hj => by simpa [SPr.cells] using hj⟩
  refine itemsA_ok (kn := 0) (n := 0) (ps := [⟨5, ByteArray.empty, 1⟩, ⟨-3, ByteArray.empty, 2⟩]) (by decide) (by decide) hp1 (by decide) (fun p hp => ?_) fun v w2 k2 hv => ?_
  · simp at hp
    rcases hp with rfl | rfl <;> exact Nat.zero_le _
  rw [awakeA_items] at hv
  simp [-getElem?_pos, -Array.getElem?_eq_getElem, -Int.natCast_add]
  refine op_lit_ok lit_38_2 fun w3 k3 z3 b3 => ?_
  refine samePairs_ok (xs := [⟨-3, ByteArray.empty, 2⟩, ⟨5, ByteArray.empty, 1⟩]) (hv.still k3) ⟨_, _, rfl, Nat.le_refl _, by simp [maxLen], .inr ⟨_, 0, _, _, _, rfl, b3, fun j v hj => by simpa [SPr.cells] using hj⟩, fun h => nomatch h⟩ (by decide) fun w4 k4 => ?_
  exact hK w4 (((k1.no k2).no k3).no k4)
end Go.Proofs.YtodjijfblgnfmaaGreatDoor
end
section
namespace Go.Proofs.YtodjijfblgnfmaaGreatDoor
open Go.Vc Go.Proofs Go.Vc.Bt
variable {w w' : World} {K : KV} {Kp : KP} {n : Int} {kn : Nat} {text : Bool} {a2 : Option Addr} {c2 : Nat} {steps : List SSt} {s : SSt}
theorem law_build (h2 : Row w a2 (steps.flatMap SSt.cells)) (n1 : -9223372036854775808 ≤ n) (n2 : n ≤ 9223372036854775807) (hK : ∀ w', Frm (fun _ => False) w w' → K (.bool true) w') :
    Calls Tryz.prog 9 #[.bool text, orderV kn n, .slice a2 steps.length c2] w (ret K Kp) := by
  refine vc9_calls ?_
  delta vc9
  refine op_box_ok fun w1 k1 z1 b1 => ?_
  simp only [orderV, cells_agg] at b1
  have hx2 : (#[.int .u8 kn, .int .i64 n] : Array Value).extract 0 2 = #[.int .u8 kn, .int .i64 n] := rfl
  simp only [call_12]
  refine fits4_ok (h2.frame k1 fun _ _ h => h) fun b w3 k3 => ?_
  have k13 := k1.no k3
  cases b with
  | false =>
    simp [-getElem?_pos, -Array.getElem?_eq_getElem, -Int.natCast_add]
    exact hK w3 k13
  | true =>
  have b13 := k3.get b1 fun h => h
  simp [-getElem?_pos, -Array.getElem?_eq_getElem, -Int.natCast_add, b13, hx2]
  refine right_ok (kn := kn) (n := n) fun b w5 k5 hb => ?_
  have k15 := k13.no k5
  have b15 := k5.get b13 fun h => h
  cases b with
  | false =>
    simp [-getElem?_pos, -Array.getElem?_eq_getElem, -Int.natCast_add]
    exact awakeB_ok fun w6 k6 => hK w6 (k15.no k6)
  | true =>
  have hR := hb.1 rfl
  simp [-getElem?_pos, -Array.getElem?_eq_getElem, -Int.natCast_add]
  refine ⟨fun _ => awakeB_ok fun w6 k6 => hK w6 (k15.no k6), fun hle => ?_⟩
  have hn : steps.length ≤ 300 := by omega
  obtain ⟨I, hI⟩ : ∃ I : KV, ∀ v wl, I v wl ↔ ∃ i : Nat, v = .int .i64 i ∧ i ≤ steps.length ∧ Frm (fun _ => False) w5 wl ∧ ∀ j (hj : j < steps.length), j < i → (steps[j].op = 4 → j + 1 = steps.length) ∧ steps[j].text.size ≤ 100 := ⟨_, fun _ _ => Iff.rfl⟩
  refine Lp.intro I (fun v _ => steps.length - nOf v) ⟨(hI _ _).2 ⟨0, rfl, by omega, Frm.refl, fun j hj h => by omega⟩, ?_⟩
  intro wl v hv
  obtain ⟨i, rfl, hi, kl, hall⟩ := (hI _ _).1 hv
  have k1l := k15.no kl
  have bl := kl.get b15 fun h => h
  simp only [op_lss, Br_dec]
  refine ⟨fun hlt => ?_, fun hge => ?_⟩
  · have hi' : i < steps.length := by omega
    obtain ⟨b, o, cs, e, fz, rfl, q1, q2, q3⟩ := (h2.frame k1l fun _ _ h => h).part SSt.len (by decide) hi'
    have hsi : ∀ j (hj : j < steps.length), j = i → steps[j] = steps[i] := fun j hj e => by subst e; rfl
    generalize steps[i] = s at *
    simp [-getElem?_pos, -Array.getElem?_eq_getElem, -Int.natCast_add, q1, q2, q3]
    refine ⟨hi', ?_⟩
    refine op_alloc_ok (z := .agg #[.int .u8 0, .int .i64 0, .int .i64 0, .string ByteArray.empty, .int .i64 0, .int .i64 0, .int .i64 0]) (by kernel_rfl) fun w6 k6 z6 b6 => ?_
    simp only [cells_agg] at b6
    refine op_storeN_ok (n := 7) (by kernel_rfl) b6 rfl (by decide) (by simp [SSt.cells]) fun w7 k7 z7 b7 => ?_
    have b7 : w7.heap[wl.heap.size]? = some (.cells s.cells.toArray 64 (0, 0)) := by
      rw [ow_all (by simp [SSt.cells])] at b7; exact b7
    simp only [SSt.cells] at b7
    have k67 : Frm (fun _ => False) wl w7 := k6.old k7 fun c hc => .inr (by omega)
    have haw : Calls Tryz.prog 14 #[] w7 (ret K Kp) := awakeB_ok fun w8 k8 => hK w8 ((k1l.no k67).no k8)
    have hgo : (s.op = 4 → i + 1 = steps.length) → s.text.size ≤ 100 → I (.int .i64 (IntKind.i64.wrap ((i : Int) + 1))) w7 ∧ steps.length - nOf (.int .i64 (IntKind.i64.wrap ((i : Int) + 1))) < steps.length - nOf (.int .i64 (i : Int)) := fun g1 g2 => by
      rw [show IntKind.i64.wrap ((i : Int) + 1) = ((i + 1 : Nat) : Int) from by rw [IntKind.wrap_i64]; omega]
      refine ⟨(hI _ _).2 ⟨i + 1, rfl, by omega, kl.no k67, fun j hj hji => ?_⟩, by simp only [nOf_int]; omega⟩
      by_cases e : j = i
      · rw [hsi j hj e]; exact ⟨fun h => by have := g1 h; omega, g2⟩
      · exact hall j hj (by omega)
    have ewl : IntKind.i64.wrap ((steps.length : Int) - 1) = (steps.length : Int) - 1 := by rw [IntKind.wrap_i64]; omega
    simp [-getElem?_pos, -Array.getElem?_eq_getElem, -Int.natCast_add, b7, ewl]
    refine ⟨fun _ => haw, fun h5 => ⟨fun h4 => ⟨fun _ => haw, fun hil => ⟨fun _ => haw, fun ht => hgo (fun _ => by omega) (by omega)⟩⟩, fun h4 => ⟨fun _ => haw, fun ht => hgo (fun h => by omega) (by omega)⟩⟩⟩
  have hie : i = steps.length := by omega
  subst hie
  have h4 : ∀ i (hi : i < steps.length), steps[i].op = 4 → i + 1 = steps.length := fun j hj => (hall j hj hj).1
  have hs : ∀ s ∈ steps, s.text.size ≤ 100 := fun s hs => by
    obtain ⟨j, hj, rfl⟩ := List.mem_iff_getElem.1 hs
    exact (hall j hj hj).2
  clear hall hI hv I
  simp [-getElem?_pos, -Array.getElem?_eq_getElem, -Int.natCast_add, bl, hx2]
  refine specB_ok (text := text) hR (h2.frame k1l fun _ _ h => h) hs hn fun l6 v6 w6 G6 G6' k6 hA6 hB6 => ?_
  have k16 := k1l.no k6
  have b16 := k6.get bl fun h => h
  simp [-getElem?_pos, -Array.getElem?_eq_getElem, -Int.natCast_add, b16, hx2]
  have kd6 : Frm (fun _ => False) w6 w6.drew := Frm.drew w6
  refine toStepsB_ok (h2.frame (k16.no kd6) fun _ _ h => h) hn fun l7 w7 k7 hl7 => ?_
  have k67 := kd6.no k7
  have k17 := k16.no k67
  have b17 := k67.get b16 fun h => h
  obtain ⟨a7, c7, rfl, _, _, hr7, _⟩ := hl7.flat
  simp [-getElem?_pos, -Array.getElem?_eq_getElem, -Int.natCast_add, b17, hx2]
  refine build_ok (text := text) (kn := kn) (n := n) n1 n2 hr7 hs hn h4 fun l8 v8 w8 G8 G8' k8 hA8 hB8 => ?_
  have k18 := k17.no k8
  simp [-getElem?_pos, -Array.getElem?_eq_getElem, -Int.natCast_add]
  refine awakeB_ok fun w9 k9 => ?_
  have k19 := k18.no k9
  have k89 := k67.no (k8.no k9)
  obtain ⟨hl1, hl2, hl3⟩ := bldR_le (text := text) (kn := kn) (n := n) (steps := steps)
  have hlA := bldR_ans (text := text) (kn := kn) (n := n) (steps := steps) hn
  generalize bldR text kn n steps = R at *
  obtain ⟨A, M⟩ := R
  simp only at hl1 hl2 hl3 hA6 hB6 hA8 hB8
  have hB6 := (hB6.still elK_ok k89)
  have hB8 := hB8.still elK_ok k9
  have hA9 := hA8.still elA_ok k9
  have hA96 := hA6.still elA_ok k89
  obtain ⟨a6, c6, rfl, _⟩ := hB6.slice
  obtain ⟨a8, c8, rfl, _⟩ := hB8.slice
  simp [-getElem?_pos, -Array.getElem?_eq_getElem, -Int.natCast_add]
  refine sameAnswers_ok hA9 hA96 (by omega) hlA fun w10 k10 => ?_
  have hB6 := hB6.still elK_ok k10
  have hB8 := hB8.still elK_ok k10
  have k110 := k19.no k10
  simp [-getElem?_pos, -Array.getElem?_eq_getElem, -Int.natCast_add]
  obtain ⟨I, hI⟩ : ∃ I : KV, ∀ v wl, I v wl ↔ ∃ i : Nat, v = .int .i64 i ∧ i ≤ M.length ∧ Frm (fun _ => False) w10 wl := ⟨_, fun _ _ => Iff.rfl⟩
  refine Lp.intro I (fun v _ => M.length - nOf v) ⟨(hI _ _).2 ⟨0, rfl, by omega, Frm.refl⟩, ?_⟩
  intro wq v hv
  obtain ⟨i, rfl, hi, kq⟩ := (hI _ _).1 hv
  simp only [op_lss, Br_dec]
  refine ⟨fun hlt => ?_, fun hge => hK wq (k110.no kq)⟩
  have hi' : i < M.length := by omega
  have hmem : M[i] ∈ M := List.getElem_mem hi'
  obtain ⟨u1, g1, cc1, cs1, e1, p1, _, p3, _, _, pv1, hu1, hs1, _⟩ := (hB6.still elK_ok kq).get hi'
  obtain ⟨u2, g2, cc2, cs2, e2, q1, _, q3, _, _, pv2, hu2, hs2, _⟩ := (hB8.still elK_ok kq).get hi'
  cases e1
  cases e2
  subst hu1 hu2
  have hMi := hl3 _ hmem
  generalize M[i] = xs at *
  have p0' : cs1[i]? = some pv1 := by have := p3 0 (by decide); simpa using this
  have q0' : cs2[i]? = some pv2 := by have := q3 0 (by decide); simpa using this
  simp [-getElem?_pos, -Array.getElem?_eq_getElem, -Int.natCast_add, p1, q1, p0', q0', hi']
  refine samePairs_ok hs2 hs1 (by omega) fun w11 k11 => ?_
  simp [-getElem?_pos, -Array.getElem?_eq_getElem, -Int.natCast_add]
  rw [show IntKind.i64.wrap ((i : Int) + 1) = ((i + 1 : Nat) : Int) from by rw [IntKind.wrap_i64]; omega]
  exact ⟨(hI _ _).2 ⟨i + 1, rfl, by omega, kq.no k11⟩, by simp only [nOf_int]; omega⟩
end Go.Proofs.YtodjijfblgnfmaaGreatDoor
end
