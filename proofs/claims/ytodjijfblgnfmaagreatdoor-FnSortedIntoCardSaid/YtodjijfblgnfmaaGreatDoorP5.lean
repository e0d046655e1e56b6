import Derived.Test.YtodjijfblgnfmaaGreatDoorP4
set_option linter.unusedSimpArgs false
set_option linter.unusedVariables false
set_option linter.unusedSectionVars false
set_option maxRecDepth 100000
set_option maxHeartbeats 4000000
section
/- laws.FnSortedInto. -/
namespace Go.Proofs.YtodjijfblgnfmaaGreatDoor
open Go.Vc Go.Proofs Go.Vc.Bt
variable {w w' : World} {K : KV} {Kp : KP} {n : Int} {kn base : Nat} {text : Bool} {a2 a3 : Option Addr} {c2 c3 : Nat} {ps L1 L2 : List SPr} {l1 l2 : Value} {us : List Int}
theorem perm_take {ps L1 L2 : List SPr} {k : Nat} (h : ps.Perm (L1 ++ L2)) (hk : k < L2.length) : ps.Perm ((L1 ++ [L2[k]]) ++ L2.eraseIdx k) := by
  refine h.trans ?_
  rw [List.append_assoc]
  refine List.Perm.append_left L1 ?_
  have e : L2 = L2.take k ++ L2[k] :: L2.drop (k + 1) := by rw [← List.drop_eq_getElem_cons hk, List.take_append_drop]
  rw [List.eraseIdx_eq_take_drop_succ]
  conv => lhs; rw [e]
  exact List.perm_middle
theorem law_into (h2 : Row w a2 (ps.flatMap SPr.cells)) (h3 : Row w a3 (us.map (.int .u16))) (hu : ∀ x ∈ us, 0 ≤ x ∧ x ≤ 65535) (hno : a2 = none → ps.length = 0) (n1 : -9223372036854775808 ≤ n) (n2 : n ≤ 9223372036854775807) (hK : ∀ w', Frm (fun _ => False) w w' → K (.bool true) w') :
    Calls Tryz.prog 4 #[.bool text, orderV kn n, .slice a2 ps.length c2, .slice a3 us.length c3] w (ret K Kp) := by
  refine vc4_calls ?_
  delta vc4
  refine op_box_ok fun w1 k1 z1 b1 => ?_
  simp only [orderV, cells_agg] at b1
  have hx2 : (#[.int .u8 kn, .int .i64 n] : Array Value).extract 0 2 = #[.int .u8 kn, .int .i64 n] := rfl
  simp only [call_19]
  refine fits6_ok (h2.frame k1 fun _ _ h => h) fun b w3 k3 _ => ?_
  have k13 := k1.no k3
  cases b with
  | false =>
    simp only [op_not, Bool.not_false, Br_true]
    exact hK w3 k13
  | true =>
  have b13 := k3.get b1 fun h => h
  simp [-getElem?_pos, -Array.getElem?_eq_getElem, -Int.natCast_add, add_spot, and_assoc, Br_dec, -op_box, -op_lit_38_1, -op_lit_38_0, b13, hx2]
  refine ⟨fun _ => hK w3 k13, fun hul => ?_⟩
  refine pairsRight_ok (kn := kn) (n := n) (h2.frame k13 fun _ _ h => h) fun b w5 k5 hb => ?_
  have k15 := k13.no k5
  have b15 := k5.get b13 fun h => h
  cases b with
  | false =>
    simp [-getElem?_pos, -Array.getElem?_eq_getElem, -Int.natCast_add, add_spot, and_assoc, Br_dec, -op_box, -op_lit_38_1, -op_lit_38_0]
    exact awake_ok fun w6 k6 => hK w6 (k15.no k6)
  | true =>
  obtain ⟨hR, hn, ht⟩ := hb rfl
  simp [-getElem?_pos, -Array.getElem?_eq_getElem, -Int.natCast_add, add_spot, and_assoc, Br_dec, -op_box, -op_lit_38_1, -op_lit_38_0, b15, hx2]
  refine sortedPairs_ok (text := text) hR (h2.frame k15 fun _ _ h => h) hn ht fun l6 w6 k6 hl6 => ?_
  have k16 := k15.no k6
  have b16 := k6.get b15 fun h => h
  obtain ⟨a6, c6, rfl, _⟩ := hl6.slice
  simp [-getElem?_pos, -Array.getElem?_eq_getElem, -Int.natCast_add, add_spot, and_assoc, Br_dec, -op_box, -op_lit_38_1, -op_lit_38_0]
  refine ⟨fun _ => awake_ok fun w7 k7 => hK w7 (k16.no k7), fun hlen => ?_⟩
  have hlen : (itemsOf text kn n ps).length = ps.length := by omega
  refine op_row0 (base := w6.heap.size) (f := SPr.cells) I.apP (by kernel_rfl) (Nat.le_refl _) fun l7 w7 k7 hl7 _ => ?_
  have k17 := k16.no k7
  refine op_append (n := 0) (m := ps.length) (xs := []) I.apP hl7.flatten (h2.frame k17 fun _ _ h => h) (flatMap_len SPr.len ps) (fun u hu => by obtain ⟨x, _, hx⟩ := List.mem_flatMap.1 hu; exact SPr.one x u hx) hno (by omega) k7.size fun l8 w8 ho8 k8 hb8 => ?_
  have n7 := k7.size
  have hl8 : PRow w8 w6.heap.size l8 ps := FRow.of_flat SPr.len (by rw [Nat.zero_add, List.nil_append] at ho8; exact ho8)
  have hlow7 := hl7.own_lt
  have k68 : Frm (fun _ => False) w6 w8 := k7.old k8 fun c hc => .inr (hlow7 c hc.symm).1
  have n8 := k68.size
  have k18 := k16.no k68
  have b18 := k68.get b16 fun h => h
  obtain ⟨I, hI⟩ : ∃ I : Value → Value → KV, ∀ l1 l2 v wl, I l1 l2 v wl ↔ ∃ (i : Nat) (L1 L2 : List SPr), v = .int .i64 i ∧ i + L2.length = ps.length ∧ ps.Perm (L1 ++ L2) ∧ Frm (fun _ => False) w6 wl ∧ PRow wl w6.heap.size l1 L1 ∧ PRow wl w6.heap.size l2 L2 ∧ ∀ b, l1.ownBlock = some b → l2.ownBlock ≠ some b := ⟨_, fun _ _ _ _ => Iff.rfl⟩
  refine Lp.intro I (fun _ _ v _ => ps.length - nOf v) ⟨(hI _ _ _ _).2 ⟨0, [], ps, rfl, by omega, List.Perm.refl _, k68, rows_nil, hl8, fun b hb => nomatch hb⟩, ?_⟩
  intro wl l1 l2 v hv
  obtain ⟨i, L1, L2, rfl, hil, hperm, kl, hr1, hr2, hdis⟩ := (hI _ _ _ _).1 hv
  have nl := kl.size
  have hpl := hperm.length_eq
  rw [List.length_append] at hpl
  have bl := kl.get b16 fun h => h
  have hcont : ∀ {kq : Nat} (hk : kq < L2.length) {l1' l2' : Value} {w' : World}, (∀ M : Nat → Prop, (∀ c, w6.heap.size ≤ c → M c) → Frm M wl w') → PRow w' w6.heap.size l1' (L1 ++ [L2[kq]]) → PRow w' w6.heap.size l2' (L2.eraseIdx kq) → (∀ b, l1'.ownBlock = some b → l2'.ownBlock ≠ some b) →
      (nice Tryz.prog).op (.bin BinOp.add 3 false true (.int .i64 i) (Value.int IntKind.i64 1)) w' (fun v48 w => I l1' l2' v48 w ∧ ps.length - nOf v48 < ps.length - nOf (.int .i64 i)) Kp := fun {kq} hk {l1' l2' w'} hf g1 g2 g3 => by
    rw [op_add, show IntKind.i64.wrap ((i : Int) + 1) = ((i + 1 : Nat) : Int) from by rw [IntKind.wrap_i64]; omega]
    have he := List.length_eraseIdx_of_lt hk
    refine ⟨(hI _ _ _ _).2 ⟨i + 1, _, _, rfl, by omega, perm_take hperm hk, kl.old (hf (fun c => w6.heap.size ≤ c) fun _ h => h) fun c hc => .inr hc, g1, g2, g3⟩, by simp only [nOf_int]; omega⟩
  obtain ⟨a9, c9, hl2, _⟩ := hr2.slice
  have hlen2 : (nice Tryz.prog).op (.blt Builtin.len [38] 3 [l2]) = fun w K Kp => K (.int .i64 L2.length) w := by
    funext w K Kp
    rw [hl2, op_len_slice (by kernel_rfl)]
  simp only [hlen2, op_gtr, Br_dec]
  refine ⟨fun hpos => ?_, fun hz => ?_⟩
  · have hpos : 0 < L2.length := by omega
    simp only [op_lss, Br_dec]
    refine ⟨fun hio => ?_, fun hio => ?_⟩
    · have hio : i < us.length := by omega
      obtain ⟨b, o, cs, e, fz, rfl, q1, q2⟩ := (h3.frame (k16.no kl) fun _ _ h => h).get (j := i) (by simpa using hio)
      rw [List.getElem_map] at q2
      have hub := hu _ (List.getElem_mem hio)
      obtain ⟨x, hx⟩ : ∃ x : Nat, us[i] = x := ⟨us[i].toNat, by omega⟩
      rw [hx] at q2 hub
      have e1 : IntKind.i64.wrap (x : Int) = (x : Int) := by rw [IntKind.wrap_i64]; omega
      obtain ⟨kq, hkq⟩ : ∃ kq, kq = x % L2.length := ⟨_, rfl⟩
      have hlt : kq < L2.length := by rw [hkq]; exact Nat.mod_lt _ hpos
      have e2 : (x : Int).tmod (L2.length : Int) = (kq : Int) := by rw [Int.tmod_eq_emod_of_nonneg (by omega), hkq]; omega
      simp [-getElem?_pos, -Array.getElem?_eq_getElem, -Int.natCast_add, add_spot, and_assoc, Br_dec, -op_box, -op_lit_38_1, -op_lit_38_0, q1, q2, e1]
      refine ⟨hio, fun e => by rw [e] at hpos; simp at hpos, ?_⟩
      rw [e2]
      have h := shuf_ok (KK := fun v67 v75 w => (nice Tryz.prog).op (.bin BinOp.add 3 false true (.int .i64 i) (Value.int IntKind.i64 1)) w (fun v48 w => I v67 v75 v48 w ∧ ps.length - nOf v48 < ps.length - nOf (.int .i64 i)) Kp) (Kp := Kp) (kq := kq) hr1 hr2 hdis hlt (by omega) (by omega) nl fun l1' l2' w' hf _ g1 g2 g3 => hcont hlt hf g1 g2 g3
      simp only [pur_add, op_add] at h
      exact h
    · have h := shuf_ok (KK := fun v67 v75 w => (nice Tryz.prog).op (.bin BinOp.add 3 false true (.int .i64 i) (Value.int IntKind.i64 1)) w (fun v48 w => I v67 v75 v48 w ∧ ps.length - nOf v48 < ps.length - nOf (.int .i64 i)) Kp) (Kp := Kp) (kq := 0) hr1 hr2 hdis hpos (by omega) (by omega) nl fun l1' l2' w' hf _ g1 g2 g3 => hcont hpos hf g1 g2 g3
      simp only [Int.natCast_zero, pur_add, Int.zero_add] at h
      exact h
  · have hL2 : L2 = [] := List.eq_nil_of_length_eq_zero (by omega)
    subst hL2
    rw [List.append_nil] at hperm
    have k1l := k16.no kl
    have hitems := into_perm (text := text) (kn := kn) (n := n) hperm hlen
    have hfl := hr1.flat
    obtain ⟨a1, c1, rfl, _, _, hro, _⟩ := id hfl
    have ho : L1.length = ps.length := by simpa using hpl.symm
    simp [-getElem?_pos, -Array.getElem?_eq_getElem, -Int.natCast_add, add_spot, and_assoc, Br_dec, -op_box, -op_lit_38_1, -op_lit_38_0, bl, hx2]
    refine sortedItems_ok (text := text) (kn := kn) (n := n) n1 n2 (h2.frame k1l fun _ _ h => h) hn ht fun v3 w10 k10 hv3 => ?_
    have b10 := k10.get bl fun h => h
    simp [-getElem?_pos, -Array.getElem?_eq_getElem, -Int.natCast_add, add_spot, and_assoc, Br_dec, -op_box, -op_lit_38_1, -op_lit_38_0, b10, hx2]
    refine sortedItems_ok (text := text) (kn := kn) (n := n) n1 n2 (hro.frame k10 fun _ _ h => h) (by omega) (fun p hp => ht p (hperm.mem_iff.2 hp)) fun v4 w11 k11 hv4 => ?_
    rw [hitems] at hv4
    simp only [op_ext2_0, op_ext2_1]
    refine awake_ok fun w12 k12 => ?_
    have k112 := ((k1l.no k10).no k11).no k12
    have hx3 := (hv3.still k11).still k12
    have hx4 := hv4.still k12
    generalize itemsOf text kn n ps = xs at *
    obtain ⟨a3', c3', rfl, _⟩ := id hx3
    obtain ⟨a4', c4', rfl, _⟩ := id hx4
    simp only [op_not, Bool.not_true, Br_false]
    rw [op_len_slice (by kernel_rfl), op_len_slice (by kernel_rfl), op_neq, decide_eq_true rfl, Bool.not_true, Br_false]
    have h := sameLoop (P := Tryz.prog) (K := K) (Kp := Kp) (t1 := 46) (e1 := 49) (t2 := 46) (e2 := 49) (t3 := 49) (by kernel_rfl) (by kernel_rfl) (by kernel_rfl) (by kernel_rfl) (by kernel_rfl) (by kernel_rfl) (by kernel_rfl) hx3 hx4 (by omega) fun w6 k6 => hK w6 (k112.no k6)
    simp only [forall_const] at h
    exact h
end Go.Proofs.YtodjijfblgnfmaaGreatDoor
end
