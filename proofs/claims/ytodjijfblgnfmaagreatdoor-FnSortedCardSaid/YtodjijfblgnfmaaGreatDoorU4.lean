import Derived.Test.YtodjijfblgnfmaaGreatDoorU3
import Derived.Test.YtodjijfblgnfmaaGreatDoorU2
import Derived.Tactics
import Derived.Tactics2
import Derived.Laws.Externs
import Derived.Lib.Bytealg
import Derived.Test.YtodjijfblgnfmaaGreatDoorU0
import Derived.Defers
import Derived.Recover
import Derived.Laws.Pointers
set_option linter.unusedSimpArgs false
set_option linter.unusedVariables false
set_option linter.unusedSectionVars false
set_option maxRecDepth 100000
set_option maxHeartbeats 4000000
section
namespace Go.Proofs.YtodjijfblgnfmaaGreatDoor.T
open Go.Vc Go.Proofs Go.Proofs.YtodjijfblgnfmaaGreatDoor Go.Vc.Bt
variable {w w' : World} {K : KV} {Kp : KP} {kd : Nat} {n : Int}
theorem cmp_by1 {α : Type} {f : α → Int} {lt : α → α → Bool} (a b : α) : Bt.cmp (by1 f lt) a b = if f a = f b then Bt.cmp lt a b else Bt.cmp ltInt (f a) (f b) := by
  by_cases h : f a = f b
  · have e1 : by1 f lt a b = lt a b := by unfold by1; rw [if_pos h]
    have e2 : by1 f lt b a = lt b a := by unfold by1; rw [if_pos h.symm]
    unfold Bt.cmp; rw [e1, e2, if_pos h]
  · have e1 : by1 f lt a b = ltInt (f a) (f b) := by unfold by1; rw [if_neg h]; rfl
    have e2 : by1 f lt b a = ltInt (f b) (f a) := by unfold by1; rw [if_neg fun e => h e.symm]; rfl
    unfold Bt.cmp; rw [e1, e2, if_neg h]
theorem tmod_pos {a m : Int} (hm : 0 < m) : -m < a.tmod m ∧ a.tmod m < m ∧ a % m = if a.tmod m < 0 then a.tmod m + m else a.tmod m := by
  have h1 := Int.tmod_lt_of_pos a hm
  have h2 := Int.lt_tmod_of_pos a hm
  have h3 : a % m = (a.tmod m) % m := by
    conv => lhs; rw [← Int.mul_tdiv_add_tmod a m]
    rw [Int.add_comm, Int.add_mul_emod_self_left]
  refine ⟨h2, h1, ?_⟩
  rw [h3]
  split
  · rename_i h
    rw [← Int.add_emod_right, Int.emod_eq_of_lt (by omega) (by omega)]
  · rename_i h
    exact Int.emod_eq_of_lt (by omega) h1
theorem tmod_any {a n : Int} (hn : n ≠ 0) : a % n = if a.tmod n < 0 then (if 0 < n then a.tmod n + n else a.tmod n - n) else a.tmod n := by
  by_cases h : 0 < n
  · rw [(tmod_pos h).2.2]; simp [h]
  · obtain ⟨m, rfl⟩ : ∃ m, n = -m := ⟨-n, by omega⟩
    rw [Int.emod_neg, Int.tmod_neg, (tmod_pos (a := a) (m := m) (by omega)).2.2]
    simp [show ¬ 0 < -m from h]; omega
theorem compared_ok {a b : Int} (hK : K (.int .i64 (Bt.cmp ltInt a b)) w) : Calls Tryz.prog 238 #[.int .i64 a, .int .i64 b] w (ret K Kp) := by
  refine vc238_calls ?_
  delta vc238
  simp only [op_lss, op_gtr, Br_dec]
  unfold Bt.cmp ltInt at hK
  refine ⟨fun h => ?_, fun h => ⟨fun h' => ?_, fun h' => ?_⟩⟩
  · rw [if_pos (decide_eq_true h)] at hK; exact hK
  · rw [if_neg (by simpa using h), if_pos (by simpa using h')] at hK; exact hK
  · rw [if_neg (by simpa using h), if_neg (by simpa using h')] at hK; exact hK
theorem cmpString_ok (a b : ByteArray) (w : World) : Calls Tryz.prog 243 #[.string a, .string b] w fun e w' => e = .returned (.int .i64 (Bt.cmp lessB a b)) ∧ w' = w := by
  rw [← compare_lessB]
  go_enter Tryz.func243, Tryz.ntmps243
  go_wp2
  rw [run_callFunc_extern Tryz.func244 (by kernel_rfl) (by kernel_rfl) (by kernel_rfl) (e := Extern.BytealgCompare.compare) (by kernel_rfl), Lib.run_compareString]
  simp only [Result.andThen]
  rw [Oper.upon_value]
  go_wp2
  go_ret
  exact ⟨rfl, rfl⟩
theorem compare_ok {a b : ByteArray} (hK : K (.int .i64 (Bt.cmp lessB a b)) w) : Calls Tryz.prog 239 #[.string a, .string b] w (ret K Kp) := by
  refine vc239_calls ?_
  delta vc239
  simp only [call_243]
  refine calls_of (cmpString_ok a b w) fun e w' h => ?_
  obtain ⟨rfl, rfl⟩ := h
  exact hK
def ordB (kd : Nat) : ByteArray → ByteArray → Bool := if kd = 2 then fun a b => lessB b a else if kd = 3 then by1 (fun s => (s.size : Int)) lessB else lessB
theorem ordB_lin : Lin (ordB kd) := by
  unfold ordB
  split
  · exact lin_lessB.flip
  · split
    · exact lin_lessB.by1 _
    · exact lin_lessB
def ordI (kd : Nat) (n : Int) (a b : Ky) : Bool := ordB kd a.1 b.1
theorem ordI_lin : Lin (ordI kd n) := ordB_lin.comap (f := fun a : Ky => a.1) fun a b h => Subtype.ext h
def cmpV (kd : Nat) (n : Int) : Value := .iface 134 (.agg #[.int .u8 kd, .int .i64 n])
theorem cmpV_ok (h1 : -9223372036854775808 ≤ n) (h2 : n ≤ 9223372036854775807) : IsC (cmpV kd n) (ordI kd n) where
  lin := ordI_lin
  cmp := fun {a b w K Kp} hK => by
    simp only [cmpV, inv_134_231]
    refine vc231_calls ?_
    simp only [vc231]
    refine op_box_ok fun w1 k1 z1 b1 => ?_
    simp only [cells_agg] at b1
    have hK1 : ∀ w', Frm (fun _ => False) w1 w' → K (.int .i64 (Bt.cmp (ordB kd) a.1 b.1)) w' := fun w' hf => hK w' (k1.no hf)
    unfold ordB at hK1
    by_cases e2 : kd = 2
    · subst e2
      rw [if_pos rfl] at hK1
      simp [-getElem?_pos, -Array.getElem?_eq_getElem, -Int.natCast_add, b1, ek]
      exact compare_ok (hK1 w1 Frm.refl)
    · rw [if_neg e2] at hK1
      have e2' : ¬ ((kd : Int) = 2) := by omega
      by_cases e3 : kd = 3
      · subst e3
        rw [if_pos rfl] at hK1
        have hd := hK1 w1 Frm.refl
        rw [cmp_by1] at hd
        simp [-getElem?_pos, -Array.getElem?_eq_getElem, -Int.natCast_add, b1, ek]
        refine ⟨fun h => ?_, fun h => ?_⟩
        · rw [if_neg (by omega)] at hd; exact compared_ok hd
        · rw [if_pos (by omega)] at hd; exact compare_ok hd
      · have e3' : ¬ ((kd : Int) = 3) := by omega
        rw [if_neg e3] at hK1
        simp [-getElem?_pos, -Array.getElem?_eq_getElem, -Int.natCast_add, b1, ek, e2', e3']
        exact compare_ok (hK1 w1 Frm.refl)
  nilC := by intro K1; simp [cmpV]
  iface := ⟨_, _, rfl⟩
end Go.Proofs.YtodjijfblgnfmaaGreatDoor.T
end
section
namespace Go.Proofs.YtodjijfblgnfmaaGreatDoor.T
open Go.Vc Go.Proofs Go.Proofs.YtodjijfblgnfmaaGreatDoor Go.Vc.Bt
variable {w w' : World} {K : KV} {Kp : KP}
theorem op_lss_s {t : TypeId} {xc yc : Bool} {a b : ByteArray} : nP.op (.bin .lss t xc yc (.string a) (.string b)) w K Kp = K (.bool (lessB a b)) w := op_of' (by simp [pv, binV, strV, lessB])
theorem op_gtr_s {t : TypeId} {xc yc : Bool} {a b : ByteArray} : nP.op (.bin .gtr t xc yc (.string a) (.string b)) w K Kp = K (.bool (lessB b a)) w := by
  have h : (!(lessB a b || decide (a = b))) = lessB b a := by
    cases h1 : lessB a b with
    | true => rw [lin_lessB.asym h1]; rfl
    | false =>
      cases h2 : lessB b a with
      | true =>
        have hne : ¬ a = b := fun e => by rw [e, lin_lessB.irr] at h2; cases h2
        simp [hne]
      | false => simp [lin_lessB.tri h1 h2]
  rw [← h]
  exact op_of' (by simp [pv, binV, strV, lessB])
theorem defCmp_ok {a b : ByteArray} (hK : K (.int .i64 (Bt.cmp lessB a b)) w) : Calls Tryz.prog 299 #[.string a, .string b] w (ret K Kp) := by
  refine vc299_calls ?_
  delta vc299
  simp only [op_lss_s, op_gtr_s, Br_bool]
  unfold Bt.cmp at hK
  refine ⟨fun h => ?_, fun h => ⟨fun h' => ?_, fun h' => ?_⟩⟩
  · rw [if_pos h] at hK; exact hK
  · rw [if_neg (by simp [h]), if_pos h'] at hK; exact hK
  · rw [if_neg (by simp [h]), if_neg (by simp [h'])] at hK; exact hK
def dfltV (p : Addr) : Value := .iface 341 (.pointer (some p))
theorem dfltV_ok (p : Addr) : IsC (dfltV p) (ordI 0 0) where
  lin := ordI_lin
  cmp := fun {a b w K Kp} hK => by
    simp only [dfltV, inv_341_287]
    refine vc287_calls ?_
    simp only [vc287]
    simp [-getElem?_pos, -Array.getElem?_eq_getElem, -Int.natCast_add, ek]
    exact defCmp_ok (hK w Frm.refl)
  nilC := by intro K1; simp [dfltV]
  iface := ⟨_, _, rfl⟩
private theorem mixed : Tryz.prog.follows .mixedOrders = true := by kernel_rfl
set_option maxHeartbeats 4000000 in
theorem newCmp_ok {k : Ky} (hK : ∀ p w', Frm (fun _ => False) w w' → K (dfltV p) w') : Calls Tryz.prog 183 #[ek k] w (ret K Kp) := by
  refine fVC_sound (args := [ek k]) (aL := []) (aJ := []) nice_le mixed Tryz.func183 (by kernel_rfl) ?_
  refine fVC_of (c := _) rfl ?_
  refine code_seq ?_
  refine code_region ?_
  refine ops_move rfl (.inr rfl) ?_
  refine ops_end ?_
  refine code_seq ?_
  refine code_seq ?_
  refine code_region ?_
  refine ops_move rfl (.inl rfl) ?_
  refine ops_op rfl rfl rfl ?_
  refine Eq.mpr (op_mki_9 (v := ek k)) ?_
  refine ops_end ?_
  refine code_block ?_
  refine code_seq ?_
  refine code_region ?_
  refine ops_op rfl rfl rfl ?_
  refine Eq.mpr (op_ta_20_3 (u := 9) (v := ek k)) ?_
  refine ite_no (by decide) ?_
  refine ops_op rfl rfl rfl ?_
  refine Eq.mpr op_ext2_1 ?_
  refine ops_op rfl rfl rfl ?_
  refine Eq.mpr op_ext2_0 ?_
  refine ops_op rfl rfl rfl ?_
  refine Eq.mpr (op_ta_20_337 (u := 9) (v := ek k)) ?_
  refine ite_no (by decide) ?_
  refine ops_op rfl rfl rfl ?_
  refine Eq.mpr op_ext2_1 ?_
  refine ops_op rfl rfl rfl ?_
  refine Eq.mpr op_ext2_0 ?_
  refine ops_op rfl rfl rfl ?_
  refine Eq.mpr (op_ta_20_338 (u := 9) (v := ek k)) ?_
  refine ite_no (by decide) ?_
  refine ops_op rfl rfl rfl ?_
  refine Eq.mpr op_ext2_1 ?_
  refine ops_op rfl rfl rfl ?_
  refine Eq.mpr op_ext2_0 ?_
  refine ops_op rfl rfl rfl ?_
  refine Eq.mpr (op_ta_20_21 (u := 9) (v := ek k)) ?_
  refine ite_no (by decide) ?_
  refine ops_op rfl rfl rfl ?_
  refine Eq.mpr op_ext2_1 ?_
  refine ops_op rfl rfl rfl ?_
  refine Eq.mpr op_ext2_0 ?_
  refine ops_op rfl rfl rfl ?_
  refine Eq.mpr (op_ta_20_2 (u := 9) (v := ek k)) ?_
  refine ite_no (by decide) ?_
  refine ops_op rfl rfl rfl ?_
  refine Eq.mpr op_ext2_1 ?_
  refine ops_op rfl rfl rfl ?_
  refine Eq.mpr op_ext2_0 ?_
  refine ops_op rfl rfl rfl ?_
  refine Eq.mpr (op_ta_20_339 (u := 9) (v := ek k)) ?_
  refine ite_no (by decide) ?_
  refine ops_op rfl rfl rfl ?_
  refine Eq.mpr op_ext2_1 ?_
  refine ops_op rfl rfl rfl ?_
  refine Eq.mpr op_ext2_0 ?_
  refine ops_op rfl rfl rfl ?_
  refine Eq.mpr (op_ta_20_5 (u := 9) (v := ek k)) ?_
  refine ite_no (by decide) ?_
  refine ops_op rfl rfl rfl ?_
  refine Eq.mpr op_ext2_1 ?_
  refine ops_op rfl rfl rfl ?_
  refine Eq.mpr op_ext2_0 ?_
  refine ops_op rfl rfl rfl ?_
  refine Eq.mpr (op_ta_20_43 (u := 9) (v := ek k)) ?_
  refine ite_no (by decide) ?_
  refine ops_op rfl rfl rfl ?_
  refine Eq.mpr op_ext2_1 ?_
  refine ops_op rfl rfl rfl ?_
  refine Eq.mpr op_ext2_0 ?_
  refine ops_op rfl rfl rfl ?_
  refine Eq.mpr (op_ta_20_340 (u := 9) (v := ek k)) ?_
  refine ite_no (by decide) ?_
  refine ops_op rfl rfl rfl ?_
  refine Eq.mpr op_ext2_1 ?_
  refine ops_op rfl rfl rfl ?_
  refine Eq.mpr op_ext2_0 ?_
  refine ops_op rfl rfl rfl ?_
  refine Eq.mpr (op_ta_20_227 (u := 9) (v := ek k)) ?_
  refine ite_no (by decide) ?_
  refine ops_op rfl rfl rfl ?_
  refine Eq.mpr op_ext2_1 ?_
  refine ops_op rfl rfl rfl ?_
  refine Eq.mpr op_ext2_0 ?_
  refine ops_op rfl rfl rfl ?_
  refine Eq.mpr (op_ta_20_12 (u := 9) (v := ek k)) ?_
  refine ite_no (by decide) ?_
  refine ops_op rfl rfl rfl ?_
  refine Eq.mpr op_ext2_1 ?_
  refine ops_op rfl rfl rfl ?_
  refine Eq.mpr op_ext2_0 ?_
  refine ops_op rfl rfl rfl ?_
  refine Eq.mpr (op_ta_20_9 (u := 9) (v := ek k)) ?_
  refine ite_yes rfl ?_
  refine ops_op rfl rfl rfl ?_
  refine Eq.mpr op_ext2_1 ?_
  refine ops_op rfl rfl rfl ?_
  refine Eq.mpr op_ext2_0 ?_
  refine ops_pick (b := false) rfl rfl rfl rfl ?_
  refine ops_pick (b := false) rfl rfl rfl rfl ?_
  refine ops_pick (b := false) rfl rfl rfl rfl ?_
  refine ops_pick (b := false) rfl rfl rfl rfl ?_
  refine ops_pick (b := false) rfl rfl rfl rfl ?_
  refine ops_pick (b := false) rfl rfl rfl rfl ?_
  refine ops_pick (b := false) rfl rfl rfl rfl ?_
  refine ops_pick (b := false) rfl rfl rfl rfl ?_
  refine ops_pick (b := false) rfl rfl rfl rfl ?_
  refine ops_pick (b := false) rfl rfl rfl rfl ?_
  refine ops_pick (b := false) rfl rfl rfl rfl ?_
  refine ops_end ?_
  refine code_cond (t := true) rfl (.inl rfl) ?_
  refine code_seq ?_
  refine code_region ?_
  refine ops_op rfl rfl rfl ?_
  refine Eq.mpr (op_build (v := .agg #[]) (by kernel_rfl)) ?_
  refine ops_op rfl rfl rfl ?_
  refine op_box_ok fun w1 k1 z1 b1 => ?_
  refine ops_op rfl rfl rfl ?_
  refine Eq.mpr (op_mki_341 (v := ptr w.heap.size)) ?_
  refine ops_move rfl (.inr rfl) ?_
  refine ops_end ?_
  refine code_ret ?_
  exact hK _ w1 k1
theorem dflt_ok : Dflt (ordI 0 0) := fun hK => newCmp_ok fun p w' hf => hK w' _ hf (dfltV_ok p)
end Go.Proofs.YtodjijfblgnfmaaGreatDoor.T
end
section
namespace Go.Proofs.YtodjijfblgnfmaaGreatDoor
open Go.Vc Go.Proofs
variable {S : Sig} {a0 a1 a2 a3 a4 a5 a6 a7 a8 a9 : Value} {w : World} {K : KV} {Kp : KP}
private theorem follows_BVcJT : Tryz.prog.follows .mixedOrders = true := by kernel_rfl
def vc129 (S : Sig) (a0 : Value) (w : World) (K : KV) (Kp : KP) : Prop :=
 S.op (.nilCheck a0) w (fun v3 w =>
 S.op (.fieldAddr 198 v3 0) w (fun v4 w =>
 S.op (.load 118 v4) w (fun v5 w =>
 S.op (.nilCheck v5) w (fun v6 w =>
 S.op (.fieldAddr 190 v6 1) w (fun v7 w =>
 S.op (.load 188 v7) w (fun v8 w =>
 S.op (.bin .eql 188 false true v8 .nilIface) w (fun v9 w =>
 Br v9 (
 S.op (.nilCheck a0) w (fun v11 w =>
 S.op (.fieldAddr 198 v11 2) w (fun v12 w =>
 S.op (.store 3 v12 (.int .i64 (-1))) w (fun _ w =>
 K (.tuple #[]) w) Kp) Kp) Kp) (
 S.pur (.nilCheck a0) (fun v15 =>
 S.pur (.fieldAddr 198 v15 0) (fun v16 =>
 S.ld (.load 118 v16) w.drew (fun v17 =>
 S.pur (.nilCheck v17) (fun v18 =>
 S.pur (.fieldAddr 190 v18 1) (fun v19 =>
 S.ld (.load 188 v19) w.drew (fun v20 =>
 S.pur (.build 195 [(0, v20)]) (fun v21 =>
 S.pur (.nilCheck a0) (fun v22 =>
 S.pur (.fieldAddr 198 v22 1) (fun v23 =>
 S.pur (.indexAddr 196 v23 (.int .i64 0)) (fun v24 =>
 S.op (.store 195 v24 v21) w.drew (fun _ w =>
 S.op (.nilCheck a0) w (fun v26 w =>
 S.op (.fieldAddr 198 v26 2) w (fun v27 w =>
 S.op (.store 3 v27 (.int .i64 0)) w (fun _ w =>
 S.call (.fn 173) [a0] w (fun v29 w =>
 K (.tuple #[]) w) Kp) Kp) Kp) Kp) Kp)))))))))))) Kp) Kp) Kp) Kp) Kp) Kp) Kp
theorem vc129_eq : vc129 S a0 w K Kp = fVC S [] [] Tryz.f129 [a0] w K Kp := by kernel_rfl
theorem vc129_calls (h : vc129 nP a0 w K Kp) : Calls Tryz.prog 129 #[a0] w (ret K Kp) :=
 fVC_sound (args := [a0]) nice_le follows_BVcJT Tryz.func129 (by kernel_rfl) (Eq.mp vc129_eq h)
def vc173 (S : Sig) (a0 : Value) (w : World) (K : KV) (Kp : KP) : Prop :=
 Lp fun (I0 : World → Prop) (μ0 : World → Nat) => I0 w ∧
 ∀ (wl0 : World) (_ : Nat → Value), I0 wl0 →
 S.pur (.nilCheck a0) (fun v7 =>
 S.pur (.fieldAddr 198 v7 2) (fun v8 =>
 S.ld (.load 3 v8) wl0.drew (fun v9 =>
 S.pur (.nilCheck a0) (fun v10 =>
 S.pur (.fieldAddr 198 v10 1) (fun v11 =>
 S.pur (.indexAddr 196 v11 v9) (fun v12 =>
 S.op (.nilCheck v12) wl0.drew (fun v14 w =>
 S.op (.fieldAddr 195 v14 1) w (fun v15 w =>
 S.op (.store 3 v15 (.int .i64 0)) w (fun _ w =>
 S.op (.nilCheck v12) w (fun v17 w =>
 S.op (.fieldAddr 195 v17 0) w (fun v18 w =>
 S.op (.load 188 v18) w (fun v19 w =>
 S.op (.tassert v19 188 262 true) w (fun v20 w =>
 S.op (.extract v20 1) w (fun v21 w =>
 S.op (.extract v20 0) w (fun v22 w =>
 Br v21 (
 S.pur (.nilCheck a0) (fun v25 =>
 S.pur (.fieldAddr 198 v25 2) (fun v26 =>
 S.ld (.load 3 v26) w.drew (fun v27 =>
 S.pur (.bin .add 3 false true v27 (.int .i64 1)) (fun v28 =>
 S.pur (.nilCheck v22) (fun v30 =>
 S.pur (.fieldAddr 267 v30 0) (fun v31 =>
 S.ld (.load 265 v31) w.drew (fun v32 =>
 S.pur (.nilCheck v12) (fun v34 =>
 S.pur (.fieldAddr 195 v34 1) (fun v35 =>
 S.ld (.load 3 v35) w.drew (fun v36 =>
 S.pur (.indexAddr 265 v32 v36) (fun v37 =>
 S.pur (.fieldAddr 269 v37 1) (fun v38 =>
 S.ld (.load 188 v38) w.drew (fun v39 =>
 S.pur (.build 195 [(0, v39)]) (fun v40 =>
 S.pur (.nilCheck a0) (fun v41 =>
 S.pur (.fieldAddr 198 v41 1) (fun v42 =>
 S.pur (.indexAddr 196 v42 v28) (fun v43 =>
 S.op (.store 195 v43 v40) w.drew (fun _ w =>
 S.op (.nilCheck a0) w (fun v45 w =>
 S.op (.fieldAddr 198 v45 2) w (fun v46 w =>
 S.op (.load 3 v46) w (fun v47 w =>
 S.op (.bin .add 3 false true v47 (.int .i64 1)) w (fun v48 w =>
 S.op (.nilCheck a0) w (fun v49 w =>
 S.op (.fieldAddr 198 v49 2) w (fun v50 w =>
 S.op (.store 3 v50 v48) w (fun _ w =>
 I0 w ∧ μ0 w < μ0 wl0) Kp) Kp) Kp) Kp) Kp) Kp) Kp) Kp)))))))))))))))))) (
 S.op (.tassert v19 188 200 true) w (fun v51 w =>
 S.op (.extract v51 1) w (fun v52 w =>
 S.op (.extract v51 0) w (fun v53 w =>
 Br v52 (
 K (.tuple #[]) w) (
 I0 w ∧ μ0 w < μ0 wl0)) Kp) Kp) Kp)) Kp) Kp) Kp) Kp) Kp) Kp) Kp) Kp) Kp))))))
theorem vc173_eq : vc173 S a0 w K Kp = fVC S [(0, [])] [] Tryz.f173 [a0] w K Kp := by kernel_rfl
theorem vc173_calls (h : vc173 nP a0 w K Kp) : Calls Tryz.prog 173 #[a0] w (ret K Kp) :=
 fVC_sound (args := [a0]) nice_le follows_BVcJT Tryz.func173 (by kernel_rfl) (Eq.mp vc173_eq h)
def vc72 (S : Sig) (a0 : Value) (w : World) (K : KV) (Kp : KP) : Prop :=
 S.op (.nilCheck a0) w (fun v3 w =>
 S.op (.fieldAddr 198 v3 0) w (fun v4 w =>
 S.op (.load 118 v4) w (fun v5 w =>
 S.op (.nilCheck v5) w (fun v6 w =>
 S.op (.fieldAddr 190 v6 1) w (fun v7 w =>
 S.op (.load 188 v7) w (fun v8 w =>
 S.op (.bin .eql 188 false true v8 .nilIface) w (fun v9 w =>
 Br v9 (
 S.op (.nilCheck a0) w (fun v11 w =>
 S.op (.fieldAddr 198 v11 2) w (fun v12 w =>
 S.op (.store 3 v12 (.int .i64 (-1))) w (fun _ w =>
 K (.tuple #[]) w) Kp) Kp) Kp) (
 S.pur (.nilCheck a0) (fun v15 =>
 S.pur (.fieldAddr 198 v15 0) (fun v16 =>
 S.ld (.load 118 v16) w.drew (fun v17 =>
 S.pur (.nilCheck v17) (fun v18 =>
 S.pur (.fieldAddr 190 v18 1) (fun v19 =>
 S.ld (.load 188 v19) w.drew (fun v20 =>
 S.pur (.build 195 [(0, v20)]) (fun v21 =>
 S.pur (.nilCheck a0) (fun v22 =>
 S.pur (.fieldAddr 198 v22 1) (fun v23 =>
 S.pur (.indexAddr 196 v23 (.int .i64 0)) (fun v24 =>
 S.op (.store 195 v24 v21) w.drew (fun _ w =>
 S.op (.nilCheck a0) w (fun v26 w =>
 S.op (.fieldAddr 198 v26 2) w (fun v27 w =>
 S.op (.store 3 v27 (.int .i64 0)) w (fun _ w =>
 S.call (.fn 143) [a0] w (fun v29 w =>
 K (.tuple #[]) w) Kp) Kp) Kp) Kp) Kp)))))))))))) Kp) Kp) Kp) Kp) Kp) Kp) Kp
theorem vc72_eq : vc72 S a0 w K Kp = fVC S [] [] Tryz.f72 [a0] w K Kp := by kernel_rfl
theorem vc72_calls (h : vc72 nP a0 w K Kp) : Calls Tryz.prog 72 #[a0] w (ret K Kp) :=
 fVC_sound (args := [a0]) nice_le follows_BVcJT Tryz.func72 (by kernel_rfl) (Eq.mp vc72_eq h)
def vc143 (S : Sig) (a0 : Value) (w : World) (K : KV) (Kp : KP) : Prop :=
 Lp fun (I0 : World → Prop) (μ0 : World → Nat) => I0 w ∧
 ∀ (wl0 : World) (_ : Nat → Value), I0 wl0 →
 S.pur (.nilCheck a0) (fun v7 =>
 S.pur (.fieldAddr 198 v7 2) (fun v8 =>
 S.ld (.load 3 v8) wl0.drew (fun v9 =>
 S.pur (.nilCheck a0) (fun v10 =>
 S.pur (.fieldAddr 198 v10 1) (fun v11 =>
 S.pur (.indexAddr 196 v11 v9) (fun v12 =>
 S.op (.nilCheck v12) wl0.drew (fun v14 w =>
 S.op (.fieldAddr 195 v14 0) w (fun v15 w =>
 S.op (.load 188 v15) w (fun v16 w =>
 S.op (.tassert v16 188 262 true) w (fun v17 w =>
 S.op (.extract v17 1) w (fun v18 w =>
 S.op (.extract v17 0) w (fun v19 w =>
 Br v18 (
 S.op (.nilCheck v19) w (fun v22 w =>
 S.op (.fieldAddr 267 v22 0) w (fun v23 w =>
 S.op (.load 265 v23) w (fun v24 w =>
 S.op (.blt .len [265] 3 [v24]) w (fun v25 w =>
 S.op (.bin .sub 3 false true v25 (.int .i64 1)) w (fun v26 w =>
 S.op (.nilCheck v12) w (fun v27 w =>
 S.op (.fieldAddr 195 v27 1) w (fun v28 w =>
 S.op (.store 3 v28 v26) w (fun _ w =>
 S.pur (.nilCheck a0) (fun v31 =>
 S.pur (.fieldAddr 198 v31 2) (fun v32 =>
 S.ld (.load 3 v32) w.drew (fun v33 =>
 S.pur (.bin .add 3 false true v33 (.int .i64 1)) (fun v34 =>
 S.pur (.nilCheck v19) (fun v36 =>
 S.pur (.fieldAddr 267 v36 0) (fun v37 =>
 S.ld (.load 265 v37) w.drew (fun v38 =>
 S.pur (.nilCheck v12) (fun v40 =>
 S.pur (.fieldAddr 195 v40 1) (fun v41 =>
 S.ld (.load 3 v41) w.drew (fun v42 =>
 S.pur (.indexAddr 265 v38 v42) (fun v43 =>
 S.pur (.fieldAddr 269 v43 1) (fun v44 =>
 S.ld (.load 188 v44) w.drew (fun v45 =>
 S.pur (.build 195 [(0, v45)]) (fun v46 =>
 S.pur (.nilCheck a0) (fun v47 =>
 S.pur (.fieldAddr 198 v47 1) (fun v48 =>
 S.pur (.indexAddr 196 v48 v34) (fun v49 =>
 S.op (.store 195 v49 v46) w.drew (fun _ w =>
 S.op (.nilCheck a0) w (fun v51 w =>
 S.op (.fieldAddr 198 v51 2) w (fun v52 w =>
 S.op (.load 3 v52) w (fun v53 w =>
 S.op (.bin .add 3 false true v53 (.int .i64 1)) w (fun v54 w =>
 S.op (.nilCheck a0) w (fun v55 w =>
 S.op (.fieldAddr 198 v55 2) w (fun v56 w =>
 S.op (.store 3 v56 v54) w (fun _ w =>
 I0 w ∧ μ0 w < μ0 wl0) Kp) Kp) Kp) Kp) Kp) Kp) Kp) Kp)))))))))))))))))) Kp) Kp) Kp) Kp) Kp) Kp) Kp) Kp) (
 S.op (.tassert v16 188 200 true) w (fun v57 w =>
 S.op (.extract v57 1) w (fun v58 w =>
 S.op (.extract v57 0) w (fun v59 w =>
 Br v58 (
 S.op (.nilCheck v59) w (fun v62 w =>
 S.op (.fieldAddr 206 v62 0) w (fun v63 w =>
 S.op (.load 204 v63) w (fun v64 w =>
 S.op (.blt .len [204] 3 [v64]) w (fun v65 w =>
 S.op (.bin .sub 3 false true v65 (.int .i64 1)) w (fun v66 w =>
 S.op (.nilCheck v12) w (fun v67 w =>
 S.op (.fieldAddr 195 v67 1) w (fun v68 w =>
 S.op (.store 3 v68 v66) w (fun _ w =>
 K (.tuple #[]) w) Kp) Kp) Kp) Kp) Kp) Kp) Kp) Kp) (
 I0 w ∧ μ0 w < μ0 wl0)) Kp) Kp) Kp)) Kp) Kp) Kp) Kp) Kp) Kp))))))
theorem vc143_eq : vc143 S a0 w K Kp = fVC S [(0, [])] [] Tryz.f143 [a0] w K Kp := by kernel_rfl
theorem vc143_calls (h : vc143 nP a0 w K Kp) : Calls Tryz.prog 143 #[a0] w (ret K Kp) :=
 fVC_sound (args := [a0]) nice_le follows_BVcJT Tryz.func143 (by kernel_rfl) (Eq.mp vc143_eq h)
def vc132 (S : Sig) (a0 : Value) (w : World) (K : KV) (Kp : KP) : Prop :=
 S.call (.fn 73) [a0] w (fun v9 w =>
 Br v9 (
 K (.tuple #[(.string { data := #[] }), (.int .i64 0), (.bool false)]) w) (
 S.pur (.nilCheck a0) (fun v14 =>
 S.pur (.fieldAddr 198 v14 2) (fun v15 =>
 S.ld (.load 3 v15) w.drew (fun v16 =>
 S.pur (.nilCheck a0) (fun v17 =>
 S.pur (.fieldAddr 198 v17 1) (fun v18 =>
 S.pur (.indexAddr 196 v18 v16) (fun v19 =>
 S.op (.nilCheck v19) w.drew (fun v21 w =>
 S.op (.fieldAddr 195 v21 0) w (fun v22 w =>
 S.op (.load 188 v22) w (fun v23 w =>
 S.op (.tassert v23 188 200 false) w (fun v24 w =>
 S.pur (.nilCheck v24) (fun v26 =>
 S.pur (.fieldAddr 206 v26 0) (fun v27 =>
 S.ld (.load 204 v27) w.drew (fun v28 =>
 S.pur (.nilCheck v19) (fun v30 =>
 S.pur (.fieldAddr 195 v30 1) (fun v31 =>
 S.ld (.load 3 v31) w.drew (fun v32 =>
 S.pur (.indexAddr 204 v28 v32) (fun v33 =>
 S.pur (.nilCheck v33) (fun v35 =>
 S.pur (.fieldAddr 203 v35 0) (fun v36 =>
 S.ld (.load 9 v36) w.drew.drew (fun v37 =>
 S.pur (.nilCheck v33) (fun v39 =>
 S.pur (.fieldAddr 203 v39 1) (fun v40 =>
 S.ld (.load 2 v40) w.drew.drew (fun v41 =>
 S.same (.load 2 v40) v41 w.drew.drew ∧
 S.call (.fn 175) [a0] w.drew.drew (fun v43 w =>
 K (.tuple #[v37, v41, (.bool true)]) w) Kp)))))))))))))) Kp) Kp) Kp) Kp)))))))) Kp
theorem vc132_eq : vc132 S a0 w K Kp = fVC S [] [] Tryz.f132 [a0] w K Kp := by kernel_rfl
theorem vc132_calls (h : vc132 nP a0 w K Kp) : Calls Tryz.prog 132 #[a0] w (ret K Kp) :=
 fVC_sound (args := [a0]) nice_le follows_BVcJT Tryz.func132 (by kernel_rfl) (Eq.mp vc132_eq h)
def vc175 (S : Sig) (a0 : Value) (w : World) (K : KV) (Kp : KP) : Prop :=
 Lp fun (I0 : World → Prop) (μ0 : World → Nat) => I0 w ∧
 ∀ (wl0 : World) (_ : Nat → Value), I0 wl0 →
 S.op (.nilCheck a0) wl0 (fun v6 w =>
 S.op (.fieldAddr 198 v6 2) w (fun v7 w =>
 S.op (.load 3 v7) w (fun v8 w =>
 S.op (.bin .geq 3 false true v8 (.int .i64 0)) w (fun v9 w =>
 Br v9 (
 S.pur (.nilCheck a0) (fun v19 =>
 S.pur (.fieldAddr 198 v19 2) (fun v20 =>
 S.ld (.load 3 v20) w.drew (fun v21 =>
 S.pur (.nilCheck a0) (fun v22 =>
 S.pur (.fieldAddr 198 v22 1) (fun v23 =>
 S.pur (.indexAddr 196 v23 v21) (fun v24 =>
 S.op (.nilCheck v24) w.drew (fun v26 w =>
 S.op (.fieldAddr 195 v26 0) w (fun v27 w =>
 S.op (.load 188 v27) w (fun v28 w =>
 S.op (.tassert v28 188 200 true) w (fun v29 w =>
 S.op (.extract v29 1) w (fun v30 w =>
 S.op (.extract v29 0) w (fun v31 w =>
 Br v30 (
 S.pur (.nilCheck v24) (fun v33 =>
 S.pur (.fieldAddr 195 v33 1) (fun v34 =>
 S.ld (.load 3 v34) w.drew (fun v35 =>
 S.pur (.nilCheck v31) (fun v37 =>
 S.pur (.fieldAddr 206 v37 0) (fun v38 =>
 S.ld (.load 204 v38) w.drew (fun v39 =>
 S.ld (.blt .len [204] 3 [v39]) w.drew (fun v40 =>
 S.pur (.bin .sub 3 false true v40 (.int .i64 1)) (fun v41 =>
 S.pur (.bin .lss 3 false false v35 v41) (fun v42 =>
 Br v42 (
 S.op (.nilCheck v24) w.drew (fun v44 w =>
 S.op (.fieldAddr 195 v44 1) w (fun v45 w =>
 S.op (.load 3 v45) w (fun v46 w =>
 S.op (.bin .add 3 false true v46 (.int .i64 1)) w (fun v47 w =>
 S.op (.nilCheck v24) w (fun v48 w =>
 S.op (.fieldAddr 195 v48 1) w (fun v49 w =>
 S.op (.store 3 v49 v47) w (fun _ w =>
 K (.tuple #[]) w) Kp) Kp) Kp) Kp) Kp) Kp) Kp) (
 S.op (.nilCheck a0) w.drew (fun v11 w =>
 S.op (.fieldAddr 198 v11 2) w (fun v12 w =>
 S.op (.load 3 v12) w (fun v13 w =>
 S.op (.bin .sub 3 false true v13 (.int .i64 1)) w (fun v14 w =>
 S.op (.nilCheck a0) w (fun v15 w =>
 S.op (.fieldAddr 198 v15 2) w (fun v16 w =>
 S.op (.store 3 v16 v14) w (fun _ w =>
 I0 w ∧ μ0 w < μ0 wl0) Kp) Kp) Kp) Kp) Kp) Kp) Kp))))))))))) (
 S.op (.tassert v28 188 262 true) w (fun v50 w =>
 S.op (.extract v50 1) w (fun v51 w =>
 S.op (.extract v50 0) w (fun v52 w =>
 Br v51 (
 S.pur (.nilCheck v24) (fun v54 =>
 S.pur (.fieldAddr 195 v54 1) (fun v55 =>
 S.ld (.load 3 v55) w.drew (fun v56 =>
 S.pur (.nilCheck v52) (fun v58 =>
 S.pur (.fieldAddr 267 v58 0) (fun v59 =>
 S.ld (.load 265 v59) w.drew (fun v60 =>
 S.ld (.blt .len [265] 3 [v60]) w.drew (fun v61 =>
 S.pur (.bin .sub 3 false true v61 (.int .i64 1)) (fun v62 =>
 S.pur (.bin .lss 3 false false v56 v62) (fun v63 =>
 Br v63 (
 S.op (.nilCheck v24) w.drew (fun v65 w =>
 S.op (.fieldAddr 195 v65 1) w (fun v66 w =>
 S.op (.load 3 v66) w (fun v67 w =>
 S.op (.bin .add 3 false true v67 (.int .i64 1)) w (fun v68 w =>
 S.op (.nilCheck v24) w (fun v69 w =>
 S.op (.fieldAddr 195 v69 1) w (fun v70 w =>
 S.op (.store 3 v70 v68) w (fun _ w =>
 S.pur (.nilCheck a0) (fun v73 =>
 S.pur (.fieldAddr 198 v73 2) (fun v74 =>
 S.ld (.load 3 v74) w.drew (fun v75 =>
 S.pur (.bin .add 3 false true v75 (.int .i64 1)) (fun v76 =>
 S.pur (.nilCheck v52) (fun v78 =>
 S.pur (.fieldAddr 267 v78 0) (fun v79 =>
 S.ld (.load 265 v79) w.drew (fun v80 =>
 S.pur (.nilCheck v24) (fun v82 =>
 S.pur (.fieldAddr 195 v82 1) (fun v83 =>
 S.ld (.load 3 v83) w.drew (fun v84 =>
 S.pur (.indexAddr 265 v80 v84) (fun v85 =>
 S.pur (.fieldAddr 269 v85 1) (fun v86 =>
 S.ld (.load 188 v86) w.drew (fun v87 =>
 S.pur (.nilCheck a0) (fun v88 =>
 S.pur (.fieldAddr 198 v88 1) (fun v89 =>
 S.pur (.indexAddr 196 v89 v76) (fun v90 =>
 S.pur (.fieldAddr 195 v90 0) (fun v91 =>
 S.op (.store 188 v91 v87) w.drew (fun _ w =>
 S.op (.nilCheck a0) w (fun v93 w =>
 S.op (.fieldAddr 198 v93 2) w (fun v94 w =>
 S.op (.load 3 v94) w (fun v95 w =>
 S.op (.bin .add 3 false true v95 (.int .i64 1)) w (fun v96 w =>
 S.op (.nilCheck a0) w (fun v97 w =>
 S.op (.fieldAddr 198 v97 2) w (fun v98 w =>
 S.op (.store 3 v98 v96) w (fun _ w =>
 S.call (.fn 173) [a0] w (fun v100 w =>
 K (.tuple #[]) w) Kp) Kp) Kp) Kp) Kp) Kp) Kp) Kp) Kp)))))))))))))))))) Kp) Kp) Kp) Kp) Kp) Kp) Kp) (
 S.op (.nilCheck a0) w.drew (fun v11 w =>
 S.op (.fieldAddr 198 v11 2) w (fun v12 w =>
 S.op (.load 3 v12) w (fun v13 w =>
 S.op (.bin .sub 3 false true v13 (.int .i64 1)) w (fun v14 w =>
 S.op (.nilCheck a0) w (fun v15 w =>
 S.op (.fieldAddr 198 v15 2) w (fun v16 w =>
 S.op (.store 3 v16 v14) w (fun _ w =>
 I0 w ∧ μ0 w < μ0 wl0) Kp) Kp) Kp) Kp) Kp) Kp) Kp))))))))))) (
 S.op (.nilCheck a0) w (fun v11 w =>
 S.op (.fieldAddr 198 v11 2) w (fun v12 w =>
 S.op (.load 3 v12) w (fun v13 w =>
 S.op (.bin .sub 3 false true v13 (.int .i64 1)) w (fun v14 w =>
 S.op (.nilCheck a0) w (fun v15 w =>
 S.op (.fieldAddr 198 v15 2) w (fun v16 w =>
 S.op (.store 3 v16 v14) w (fun _ w =>
 I0 w ∧ μ0 w < μ0 wl0) Kp) Kp) Kp) Kp) Kp) Kp) Kp)) Kp) Kp) Kp)) Kp) Kp) Kp) Kp) Kp) Kp))))))) (
 K (.tuple #[]) w)) Kp) Kp) Kp) Kp
theorem vc175_eq : vc175 S a0 w K Kp = fVC S [(0, [])] [] Tryz.f175 [a0] w K Kp := by kernel_rfl
theorem vc175_calls (h : vc175 nP a0 w K Kp) : Calls Tryz.prog 175 #[a0] w (ret K Kp) :=
 fVC_sound (args := [a0]) nice_le follows_BVcJT Tryz.func175 (by kernel_rfl) (Eq.mp vc175_eq h)
def vc74 (S : Sig) (a0 : Value) (w : World) (K : KV) (Kp : KP) : Prop :=
 S.call (.fn 73) [a0] w (fun v9 w =>
 Br v9 (
 K (.tuple #[(.string { data := #[] }), (.int .i64 0), (.bool false)]) w) (
 S.pur (.nilCheck a0) (fun v14 =>
 S.pur (.fieldAddr 198 v14 2) (fun v15 =>
 S.ld (.load 3 v15) w.drew (fun v16 =>
 S.pur (.nilCheck a0) (fun v17 =>
 S.pur (.fieldAddr 198 v17 1) (fun v18 =>
 S.pur (.indexAddr 196 v18 v16) (fun v19 =>
 S.op (.nilCheck v19) w.drew (fun v21 w =>
 S.op (.fieldAddr 195 v21 0) w (fun v22 w =>
 S.op (.load 188 v22) w (fun v23 w =>
 S.op (.tassert v23 188 200 false) w (fun v24 w =>
 S.pur (.nilCheck v24) (fun v26 =>
 S.pur (.fieldAddr 206 v26 0) (fun v27 =>
 S.ld (.load 204 v27) w.drew (fun v28 =>
 S.pur (.nilCheck v19) (fun v30 =>
 S.pur (.fieldAddr 195 v30 1) (fun v31 =>
 S.ld (.load 3 v31) w.drew (fun v32 =>
 S.pur (.indexAddr 204 v28 v32) (fun v33 =>
 S.pur (.nilCheck v33) (fun v35 =>
 S.pur (.fieldAddr 203 v35 0) (fun v36 =>
 S.ld (.load 9 v36) w.drew.drew (fun v37 =>
 S.pur (.nilCheck v33) (fun v39 =>
 S.pur (.fieldAddr 203 v39 1) (fun v40 =>
 S.ld (.load 2 v40) w.drew.drew (fun v41 =>
 S.same (.load 2 v40) v41 w.drew.drew ∧
 S.call (.fn 144) [a0] w.drew.drew (fun v43 w =>
 K (.tuple #[v37, v41, (.bool true)]) w) Kp)))))))))))))) Kp) Kp) Kp) Kp)))))))) Kp
theorem vc74_eq : vc74 S a0 w K Kp = fVC S [] [] Tryz.f74 [a0] w K Kp := by kernel_rfl
theorem vc74_calls (h : vc74 nP a0 w K Kp) : Calls Tryz.prog 74 #[a0] w (ret K Kp) :=
 fVC_sound (args := [a0]) nice_le follows_BVcJT Tryz.func74 (by kernel_rfl) (Eq.mp vc74_eq h)
def vc144 (S : Sig) (a0 : Value) (w : World) (K : KV) (Kp : KP) : Prop :=
 Lp fun (I0 : World → Prop) (μ0 : World → Nat) => I0 w ∧
 ∀ (wl0 : World) (_ : Nat → Value), I0 wl0 →
 S.op (.nilCheck a0) wl0 (fun v6 w =>
 S.op (.fieldAddr 198 v6 2) w (fun v7 w =>
 S.op (.load 3 v7) w (fun v8 w =>
 S.op (.bin .geq 3 false true v8 (.int .i64 0)) w (fun v9 w =>
 Br v9 (
 S.pur (.nilCheck a0) (fun v19 =>
 S.pur (.fieldAddr 198 v19 2) (fun v20 =>
 S.ld (.load 3 v20) w.drew (fun v21 =>
 S.pur (.nilCheck a0) (fun v22 =>
 S.pur (.fieldAddr 198 v22 1) (fun v23 =>
 S.pur (.indexAddr 196 v23 v21) (fun v24 =>
 S.op (.nilCheck v24) w.drew (fun v26 w =>
 S.op (.fieldAddr 195 v26 0) w (fun v27 w =>
 S.op (.load 188 v27) w (fun v28 w =>
 S.op (.tassert v28 188 200 true) w (fun v29 w =>
 S.op (.extract v29 1) w (fun v30 w =>
 S.op (.extract v29 0) w (fun v31 w =>
 Br v30 (
 S.op (.nilCheck v24) w (fun v33 w =>
 S.op (.fieldAddr 195 v33 1) w (fun v34 w =>
 S.op (.load 3 v34) w (fun v35 w =>
 S.op (.bin .gtr 3 false true v35 (.int .i64 0)) w (fun v36 w =>
 Br v36 (
 S.op (.nilCheck v24) w (fun v38 w =>
 S.op (.fieldAddr 195 v38 1) w (fun v39 w =>
 S.op (.load 3 v39) w (fun v40 w =>
 S.op (.bin .sub 3 false true v40 (.int .i64 1)) w (fun v41 w =>
 S.op (.nilCheck v24) w (fun v42 w =>
 S.op (.fieldAddr 195 v42 1) w (fun v43 w =>
 S.op (.store 3 v43 v41) w (fun _ w =>
 K (.tuple #[]) w) Kp) Kp) Kp) Kp) Kp) Kp) Kp) (
 S.op (.nilCheck a0) w (fun v11 w =>
 S.op (.fieldAddr 198 v11 2) w (fun v12 w =>
 S.op (.load 3 v12) w (fun v13 w =>
 S.op (.bin .sub 3 false true v13 (.int .i64 1)) w (fun v14 w =>
 S.op (.nilCheck a0) w (fun v15 w =>
 S.op (.fieldAddr 198 v15 2) w (fun v16 w =>
 S.op (.store 3 v16 v14) w (fun _ w =>
 I0 w ∧ μ0 w < μ0 wl0) Kp) Kp) Kp) Kp) Kp) Kp) Kp)) Kp) Kp) Kp) Kp) (
 S.op (.tassert v28 188 262 true) w (fun v44 w =>
 S.op (.extract v44 1) w (fun v45 w =>
 S.op (.extract v44 0) w (fun v46 w =>
 Br v45 (
 S.op (.nilCheck v24) w (fun v48 w =>
 S.op (.fieldAddr 195 v48 1) w (fun v49 w =>
 S.op (.load 3 v49) w (fun v50 w =>
 S.op (.bin .gtr 3 false true v50 (.int .i64 0)) w (fun v51 w =>
 Br v51 (
 S.op (.nilCheck v24) w (fun v53 w =>
 S.op (.fieldAddr 195 v53 1) w (fun v54 w =>
 S.op (.load 3 v54) w (fun v55 w =>
 S.op (.bin .sub 3 false true v55 (.int .i64 1)) w (fun v56 w =>
 S.op (.nilCheck v24) w (fun v57 w =>
 S.op (.fieldAddr 195 v57 1) w (fun v58 w =>
 S.op (.store 3 v58 v56) w (fun _ w =>
 S.pur (.nilCheck a0) (fun v61 =>
 S.pur (.fieldAddr 198 v61 2) (fun v62 =>
 S.ld (.load 3 v62) w.drew (fun v63 =>
 S.pur (.bin .add 3 false true v63 (.int .i64 1)) (fun v64 =>
 S.pur (.nilCheck v46) (fun v66 =>
 S.pur (.fieldAddr 267 v66 0) (fun v67 =>
 S.ld (.load 265 v67) w.drew (fun v68 =>
 S.pur (.nilCheck v24) (fun v70 =>
 S.pur (.fieldAddr 195 v70 1) (fun v71 =>
 S.ld (.load 3 v71) w.drew (fun v72 =>
 S.pur (.indexAddr 265 v68 v72) (fun v73 =>
 S.pur (.fieldAddr 269 v73 1) (fun v74 =>
 S.ld (.load 188 v74) w.drew (fun v75 =>
 S.pur (.nilCheck a0) (fun v76 =>
 S.pur (.fieldAddr 198 v76 1) (fun v77 =>
 S.pur (.indexAddr 196 v77 v64) (fun v78 =>
 S.pur (.fieldAddr 195 v78 0) (fun v79 =>
 S.op (.store 188 v79 v75) w.drew (fun _ w =>
 S.op (.nilCheck a0) w (fun v81 w =>
 S.op (.fieldAddr 198 v81 2) w (fun v82 w =>
 S.op (.load 3 v82) w (fun v83 w =>
 S.op (.bin .add 3 false true v83 (.int .i64 1)) w (fun v84 w =>
 S.op (.nilCheck a0) w (fun v85 w =>
 S.op (.fieldAddr 198 v85 2) w (fun v86 w =>
 S.op (.store 3 v86 v84) w (fun _ w =>
 S.call (.fn 143) [a0] w (fun v88 w =>
 K (.tuple #[]) w) Kp) Kp) Kp) Kp) Kp) Kp) Kp) Kp) Kp)))))))))))))))))) Kp) Kp) Kp) Kp) Kp) Kp) Kp) (
 S.op (.nilCheck a0) w (fun v11 w =>
 S.op (.fieldAddr 198 v11 2) w (fun v12 w =>
 S.op (.load 3 v12) w (fun v13 w =>
 S.op (.bin .sub 3 false true v13 (.int .i64 1)) w (fun v14 w =>
 S.op (.nilCheck a0) w (fun v15 w =>
 S.op (.fieldAddr 198 v15 2) w (fun v16 w =>
 S.op (.store 3 v16 v14) w (fun _ w =>
 I0 w ∧ μ0 w < μ0 wl0) Kp) Kp) Kp) Kp) Kp) Kp) Kp)) Kp) Kp) Kp) Kp) (
 S.op (.nilCheck a0) w (fun v11 w =>
 S.op (.fieldAddr 198 v11 2) w (fun v12 w =>
 S.op (.load 3 v12) w (fun v13 w =>
 S.op (.bin .sub 3 false true v13 (.int .i64 1)) w (fun v14 w =>
 S.op (.nilCheck a0) w (fun v15 w =>
 S.op (.fieldAddr 198 v15 2) w (fun v16 w =>
 S.op (.store 3 v16 v14) w (fun _ w =>
 I0 w ∧ μ0 w < μ0 wl0) Kp) Kp) Kp) Kp) Kp) Kp) Kp)) Kp) Kp) Kp)) Kp) Kp) Kp) Kp) Kp) Kp))))))) (
 K (.tuple #[]) w)) Kp) Kp) Kp) Kp
theorem vc144_eq : vc144 S a0 w K Kp = fVC S [(0, [])] [] Tryz.f144 [a0] w K Kp := by kernel_rfl
theorem vc144_calls (h : vc144 nP a0 w K Kp) : Calls Tryz.prog 144 #[a0] w (ret K Kp) :=
 fVC_sound (args := [a0]) nice_le follows_BVcJT Tryz.func144 (by kernel_rfl) (Eq.mp vc144_eq h)
def vc73 (S : Sig) (a0 : Value) (w : World) (K : KV) (Kp : KP) : Prop :=
 S.op (.nilCheck a0) w (fun v4 w =>
 S.op (.fieldAddr 198 v4 2) w (fun v5 w =>
 S.op (.load 3 v5) w (fun v6 w =>
 S.op (.bin .eql 3 false true v6 (.int .i64 (-1))) w (fun v7 w =>
 K v7 w) Kp) Kp) Kp) Kp
theorem vc73_eq : vc73 S a0 w K Kp = fVC S [] [] Tryz.f73 [a0] w K Kp := by kernel_rfl
theorem vc73_calls (h : vc73 nP a0 w K Kp) : Calls Tryz.prog 73 #[a0] w (ret K Kp) :=
 fVC_sound (args := [a0]) nice_le follows_BVcJT Tryz.func73 (by kernel_rfl) (Eq.mp vc73_eq h)
end Go.Proofs.YtodjijfblgnfmaaGreatDoor
end
section
namespace Go.Proofs.YtodjijfblgnfmaaGreatDoor.T
open Go.Vc Go.Proofs Go.Proofs.YtodjijfblgnfmaaGreatDoor Go.Vc.Bt
variable {w w' : World} {v : Value} {K : KV} {Kp : KP} {ib mb d p : Nat} {L : List (Ky × Vl)} {cs cs' : Array Value} {s : Tr}
theorem set_at {cs : Array Value} {i j : Nat} {u : Value} (h : j < cs.size) : (cs.setIfInBounds j u)[i]? = if j = i then some u else cs[i]? := by
  rw [Array.getElem?_setIfInBounds]
  split
  · rename_i e; subst e; simp [h]
  · rfl
structure Fr where
  s : Tr
  v : Value
  i : Nat
def Fr.fm (r : Fr) : Fm Ky Vl := (r.s, r.i)
def fms (up : List Fr) : List (Fm Ky Vl) := up.map Fr.fm
def Stk (w : World) (cs : Array Value) : Nat → List Fr → Prop
  | _, [] => True
  | d, r :: fs => cs[1 + fs.length * 2]? = some r.v ∧ cs[1 + fs.length * 2 + 1]? = some (.int .i64 r.i) ∧ Rep w d r.s r.v ∧ WF d r.s ∧ Stk w cs (d + 1) fs
theorem Stk.off (ho : Off w ib) (hf : Frm (· = ib) w w') : ∀ {fs : List Fr} {d : Nat}, Stk w cs d fs → Stk w' cs d fs
  | [], _, _ => trivial
  | r :: fs, d, h => ⟨h.1, h.2.1, h.2.2.1.off ho hf, h.2.2.2.1, Stk.off ho hf h.2.2.2.2⟩
theorem Stk.still (hf : Frm (fun _ => False) w w') : ∀ {fs : List Fr} {d : Nat}, Stk w cs d fs → Stk w' cs d fs
  | [], _, _ => trivial
  | r :: fs, d, h => ⟨h.1, h.2.1, h.2.2.1.still hf, h.2.2.2.1, Stk.still hf h.2.2.2.2⟩
theorem Stk.cells : ∀ {fs : List Fr} {d : Nat}, Stk w cs d fs → (∀ i, i < 1 + fs.length * 2 → cs'[i]? = cs[i]?) → Stk w cs' d fs
  | [], _, _, _ => trivial
  | r :: fs, d, h, hc => by
    simp only [List.length_cons] at hc
    exact ⟨by rw [hc _ (by omega)]; exact h.1, by rw [hc _ (by omega)]; exact h.2.1, h.2.2.1, h.2.2.2.1, Stk.cells h.2.2.2.2 fun i hi => hc i (by omega)⟩
structure Low (w : World) (ib mb d : Nat) (cs : Array Value) (s : Tr) (v : Value) (up : List Fr) : Prop where
  hb : w.heap[ib]? = some (.cells cs 198 (0, 0))
  sz : cs.size = 66
  m : cs[0]? = some (ptr mb)
  dep : cs[65]? = some (.int .i64 (up.length : Int))
  node : cs[1 + up.length * 2]? = some v
  rep : Rep w d s v
  wf : WF d s
  stk : Stk w cs (d + 1) up
  ab : Above d s (fms up)
  len : d + up.length ≤ 31
def depthOf (w : World) (ib : Nat) : Nat := match w.heap[ib]? with
  | some (.cells cs _ _) => match (cs[65]?).getD undef with
    | .int _ j => (j + 1).toNat
    | _ => 0
  | _ => 0
theorem depthOf_eq {ib : Nat} {d : Int} {cs : Array Value} {e : TypeId} {fz : Nat × Nat} (h : w.heap[ib]? = some (.cells cs e fz)) (hd : cs[65]? = some (.int .i64 d)) : depthOf w ib = (d + 1).toNat := by
  simp only [depthOf, h, hd, Option.getD_some]
def At (w : World) (ib mb : Nat) (L : List (Ky × Vl)) : Option Nat → Prop
  | none => ∃ cs, w.heap[ib]? = some (.cells cs 198 (0, 0)) ∧ cs.size = 66 ∧ cs[0]? = some (ptr mb) ∧ cs[65]? = some (.int .i64 (-1))
  | some p => ∃ (cs : Array Value) (es : List (Ky × Vl)) (v : Value) (up : List Fr) (j : Nat), Low w ib mb 0 cs (.leaf es) v up ∧ cs[1 + up.length * 2 + 1]? = some (.int .i64 (j : Int)) ∧ j < es.length ∧ L = bw 1 (fms up) ++ (es ++ fw 1 (fms up)) ∧ p = (bw 1 (fms up)).length + j
theorem off_Q (h : w.heap[ib]? = some (.cells cs 198 (0, 0))) : Off w ib := ⟨_, _, _, h, by decide, by decide, by decide, by decide⟩
theorem Low.still {up : List Fr} (h : Low w ib mb d cs s v up) (hf : Frm (fun _ => False) w w') : Low w' ib mb d cs s v up :=
  ⟨hf.get h.hb fun h => h, h.sz, h.m, h.dep, h.node, h.rep.still hf, h.wf, h.stk.still hf, h.ab, h.len⟩
theorem At.still {q : Option Nat} (h : At w ib mb L q) (hf : Frm (fun _ => False) w w') : At w' ib mb L q := by
  match q, h with
  | none, ⟨cs, h1, h2⟩ => exact ⟨cs, hf.get h1 fun h => h, h2⟩
  | some p, ⟨cs, es, v, up, j, h1, h2⟩ => exact ⟨cs, es, v, up, j, h1.still hf, h2⟩
theorem bw_cons {ks : List Tr} {i : Nat} {up : List Fr} : bw (d + 1) (fms (⟨.br ks, v, i⟩ :: up)) = bw (d + 1 + 1) (fms up) ++ (ks.take i).flatMap (toL d) := rfl
theorem fw_cons {ks : List Tr} {i : Nat} {up : List Fr} : fw (d + 1) (fms (⟨.br ks, v, i⟩ :: up)) = (ks.drop (i + 1)).flatMap (toL d) ++ fw (d + 1 + 1) (fms up) := rfl
theorem frame_eq {ks : List Tr} {i : Nat} {up : List Fr} {t : Tr} (hi : ks[i]? = some t) : bw (d + 1) (fms (⟨.br ks, v, i⟩ :: up)) ++ (toL d t ++ fw (d + 1) (fms (⟨.br ks, v, i⟩ :: up))) = bw (d + 1 + 1) (fms up) ++ (toL (d + 1) (.br ks) ++ fw (d + 1 + 1) (fms up)) := by
  obtain ⟨hil, hie⟩ := List.getElem?_eq_some_iff.1 hi
  rw [bw_cons, fw_cons, toL_split hil, hie]
  simp only [List.append_assoc]
theorem first_ok {up : List Fr} (h : Low w ib mb d cs s v up) (hK : ∀ w', Frm (· = ib) w w' → At w' ib mb (bw (d + 1) (fms up) ++ (toL d s ++ fw (d + 1) (fms up))) (some (bw (d + 1) (fms up)).length) → K (.tuple #[]) w') :
    Calls Tryz.prog 173 #[ptr ib] w (ret K Kp) := by
  refine vc173_calls ?_
  delta vc173
  obtain ⟨L, hL⟩ : ∃ L, L = bw (d + 1) (fms up) ++ (toL d s ++ fw (d + 1) (fms up)) := ⟨_, rfl⟩
  obtain ⟨p, hp⟩ : ∃ p, p = (bw (d + 1) (fms up)).length := ⟨_, rfl⟩
  rw [← hL, ← hp] at hK
  obtain ⟨I, hI⟩ : ∃ I : World → Prop, ∀ wl, I wl ↔ ∃ d cs s v up, Low wl ib mb d cs s v up ∧ Frm (· = ib) w wl ∧ L = bw (d + 1) (fms up) ++ (toL d s ++ fw (d + 1) (fms up)) ∧ p = (bw (d + 1) (fms up)).length := ⟨_, fun _ => Iff.rfl⟩
  refine Lp.intro I (fun wl => 40 - depthOf wl ib) ⟨(hI _).2 ⟨d, cs, s, v, up, h, Frm.refl, hL, hp⟩, ?_⟩
  clear hL hp h
  intro wl _ hi
  obtain ⟨d, cs, s, v, up, h, hf, hL, hp⟩ := (hI _).1 hi
  have hu := h.len
  have hd0 := depthOf_eq h.hb h.dep
  have hsz := h.sz
  have hoff := off_Q h.hb
  simp [-getElem?_pos, -Array.getElem?_eq_getElem, -Int.natCast_add, -op_st_3, -op_st_195, ptr, h.hb, h.dep]
  refine ⟨by omega, ?_⟩
  refine op_store_ok (by kernel_rfl) h.hb (by omega) rfl fun w1 k1 z1 b1 => ?_
  have k1 := Frm.dr k1
  have r1 := h.rep.off hoff k1
  have t1 := h.stk.off hoff k1
  have g1 : ∀ i, (cs.setIfInBounds (1 + up.length * 2 + 1) (.int .i64 0))[i]? = if 1 + up.length * 2 + 1 = i then some (.int .i64 0) else cs[i]? := fun i => set_at (by omega)
  have n1 : (cs.setIfInBounds (1 + up.length * 2 + 1) (.int .i64 0))[1 + up.length * 2]? = some v := by rw [g1, if_neg (by omega)]; exact h.node
  have i1 : (cs.setIfInBounds (1 + up.length * 2 + 1) (.int .i64 0))[1 + up.length * 2 + 1]? = some (.int .i64 0) := by rw [g1, if_pos rfl]
  have d1 : (cs.setIfInBounds (1 + up.length * 2 + 1) (.int .i64 0))[65]? = some (.int .i64 (up.length : Int)) := by rw [g1, if_neg (by omega)]; exact h.dep
  have m1 : (cs.setIfInBounds (1 + up.length * 2 + 1) (.int .i64 0))[0]? = some (ptr mb) := by rw [g1, if_neg (by omega)]; exact h.m
  have z1' : (cs.setIfInBounds (1 + up.length * 2 + 1) (.int .i64 0)).size = 66 := by simp [hsz]
  have st1 : Stk w1 (cs.setIfInBounds (1 + up.length * 2 + 1) (.int .i64 0)) (d + 1) up := t1.cells fun i hi => by rw [g1, if_neg (by omega)]
  generalize hcs : cs.setIfInBounds (1 + up.length * 2 + 1) (.int .i64 0) = c1 at *
  have hwf := h.wf
  have hab := h.ab
  have hf1 : Frm (· = ib) w w1 := hf.trans k1 fun _ h _ => h
  simp [-getElem?_pos, -Array.getElem?_eq_getElem, -Int.natCast_add, -op_st_3, -op_st_195, b1, n1]
  match d, hwf, r1 with
  | 0, hwf, r1 =>
    obtain ⟨es, rfl, e1, e2⟩ := wf_zero.1 hwf
    have r1' := r1
    obtain ⟨b, g, o, c, rfl, hb, hg⟩ := r1
    simp [-getElem?_pos, -Array.getElem?_eq_getElem, -Int.natCast_add, -op_st_3, -op_st_195]
    refine hK w1 hf1 ⟨c1, es, _, up, 0, ⟨b1, z1', m1, d1, n1, r1', hwf, st1, hab, hu⟩, i1, by have := List.length_pos_iff.2 e1; omega, hL, by rw [hp]; rfl⟩
  | d + 1, hwf, r1 =>
    obtain ⟨ks, rfl, e1, e2, e3⟩ := wf_succ.1 hwf
    have r1' := r1
    obtain ⟨b, g, o, c, ps, rfl, hb, hps, hg, hc⟩ := r1
    have hl : ps.length = ks.length := by rw [hps, List.length_map]
    rw [← hl] at hb hg
    obtain ⟨cur, hcur, hk⟩ := elCells hg
    have h0 : 0 < ps.length := by rw [hl]; exact List.length_pos_iff.2 e1
    have hk0 := (hk 0 h0).2
    rw [Nat.zero_mul, Nat.add_zero] at hk0
    have hr0 := hc _ (List.getElem_mem h0)
    obtain ⟨uc, pc, hcv⟩ := hr0.iface
    rw [hcv] at hk0
    have ewd : IntKind.i64.wrap ((up.length : Int) + 1) = ((up.length + 1 : Nat) : Int) := by rw [IntKind.wrap_i64]; omega
    simp [-getElem?_pos, -Array.getElem?_eq_getElem, -Int.natCast_add, -op_st_3, -op_st_195, ptr, b1, d1, i1, hb, hcur, hk0, ewd]
    refine ⟨h0, by omega, ?_⟩
    refine op_storeN_ok (n := 2) (by kernel_rfl) b1 rfl (by omega) (fun u hu => ?_) fun w2 k2 z2 b2 => ?_
    · simp only [List.mem_toArray, List.mem_cons, List.not_mem_nil, or_false] at hu
      rcases hu with rfl | rfl <;> rfl
    · have k2 := Frm.dr k2
      have g2 : ∀ j, (ow c1 (1 + (up.length + 1) * 2) [Value.iface uc pc, .int .i64 0])[j]? = if 1 + (up.length + 1) * 2 ≤ j ∧ j < 1 + (up.length + 1) * 2 + 2 then [Value.iface uc pc, .int .i64 0][j - (1 + (up.length + 1) * 2)]? else c1[j]? := fun j => ow_get (by simp; omega)
      have z2' : (ow c1 (1 + (up.length + 1) * 2) [Value.iface uc pc, .int .i64 0]).size = 66 := by rw [ow_size, z1']
      have d2 : (ow c1 (1 + (up.length + 1) * 2) [Value.iface uc pc, .int .i64 0])[65]? = some (.int .i64 (up.length : Int)) := by rw [g2, if_neg (by omega)]; exact d1
      simp [-getElem?_pos, -Array.getElem?_eq_getElem, -Int.natCast_add, -op_st_3, -op_st_195, b2, d2, ewd]
      refine op_store_ok (by kernel_rfl) b2 (by rw [ow_size]; omega) rfl fun w3 k3 z3 b3 => ?_
      have g3 : ∀ j, ((ow c1 (1 + (up.length + 1) * 2) [Value.iface uc pc, .int .i64 0]).setIfInBounds 65 (.int .i64 ((up.length + 1 : Nat) : Int)))[j]? = if 65 = j then some (.int .i64 ((up.length + 1 : Nat) : Int)) else (ow c1 (1 + (up.length + 1) * 2) [Value.iface uc pc, .int .i64 0])[j]? := fun j => set_at (by omega)
      have k13 : Frm (· = ib) w1 w3 := k2.trans k3 fun _ h _ => h
      have hm0 : ps[0].1 ∈ ks := by rw [hps]; exact List.mem_map.2 ⟨_, List.getElem_mem h0, rfl⟩
      have hks0 : ks[0]? = some ps[0].1 := by rw [hps, List.getElem?_map, List.getElem?_eq_getElem h0]; rfl
      have off1 := off_Q b1
      rw [hcv] at hr0
      have hst3 : Stk w3 ((ow c1 (1 + (up.length + 1) * 2) [Value.iface uc pc, .int .i64 0]).setIfInBounds 65 (.int .i64 ((up.length + 1 : Nat) : Int))) (d + 1 + 1) up := (st1.off off1 k13).cells fun j hj => by rw [g3, if_neg (by omega), g2, if_neg (by omega)]
      have hlow : Low w3 ib mb d ((ow c1 (1 + (up.length + 1) * 2) [Value.iface uc pc, .int .i64 0]).setIfInBounds 65 (.int .i64 ((up.length + 1 : Nat) : Int))) ps[0].1 (.iface uc pc) (⟨.br ks, .iface 262 (ptr b), 0⟩ :: up) := by
        refine ⟨by simpa using b3, by simp [z2'], ?_, ?_, ?_, hr0.off off1 k13, e3 _ hm0, ⟨?_, ?_, r1'.off off1 k13, hwf, hst3⟩, ⟨hwf, ⟨ks, rfl, hks0⟩, hab⟩, by simp only [List.length_cons]; omega⟩
        · rw [g3, if_neg (by omega), g2, if_neg (by omega)]; exact m1
        · rw [g3, if_pos rfl]; rfl
        · rw [g3, if_neg (by simp only [List.length_cons]; omega), g2, if_pos (by simp only [List.length_cons]; omega)]
          simp
        · rw [g3, if_neg (by omega), g2, if_neg (by omega)]; exact n1
        · rw [g3, if_neg (by omega), g2, if_neg (by omega)]; exact i1
      have hd3 := depthOf_eq hlow.hb hlow.dep
      refine ⟨(hI _).2 ⟨d, _, _, _, _, hlow, hf1.trans k13 fun _ h _ => h, ?_, ?_⟩, ?_⟩
      · rw [hL]; exact (frame_eq hks0).symm
      · rw [hp, bw_cons]; simp [aheadF]
      · rw [hd0, hd3]; simp only [List.length_cons]; omega
end Go.Proofs.YtodjijfblgnfmaaGreatDoor.T
end
section
namespace Go.Proofs.YtodjijfblgnfmaaGreatDoor.T
open Go.Vc Go.Proofs Go.Proofs.YtodjijfblgnfmaaGreatDoor Go.Vc.Bt
variable {w w' : World} {v : Value} {K : KV} {Kp : KP} {ib mb d p : Nat} {L : List (Ky × Vl)} {cs : Array Value} {s : Tr}
theorem last_ok {up : List Fr} (h : Low w ib mb d cs s v up) (hK : ∀ w', Frm (· = ib) w w' → At w' ib mb (bw (d + 1) (fms up) ++ (toL d s ++ fw (d + 1) (fms up))) (some ((bw (d + 1) (fms up)).length + (toL d s).length - 1)) → K (.tuple #[]) w') :
    Calls Tryz.prog 143 #[ptr ib] w (ret K Kp) := by
  refine vc143_calls ?_
  delta vc143
  obtain ⟨L, hL⟩ : ∃ L, L = bw (d + 1) (fms up) ++ (toL d s ++ fw (d + 1) (fms up)) := ⟨_, rfl⟩
  obtain ⟨p, hp⟩ : ∃ p, p = (bw (d + 1) (fms up)).length + (toL d s).length - 1 := ⟨_, rfl⟩
  rw [← hL, ← hp] at hK
  obtain ⟨I, hI⟩ : ∃ I : World → Prop, ∀ wl, I wl ↔ ∃ d cs s v up, Low wl ib mb d cs s v up ∧ Frm (· = ib) w wl ∧ L = bw (d + 1) (fms up) ++ (toL d s ++ fw (d + 1) (fms up)) ∧ p = (bw (d + 1) (fms up)).length + (toL d s).length - 1 := ⟨_, fun _ => Iff.rfl⟩
  refine Lp.intro I (fun wl => 40 - depthOf wl ib) ⟨(hI _).2 ⟨d, cs, s, v, up, h, Frm.refl, hL, hp⟩, ?_⟩
  clear hL hp h
  intro wl _ hi
  obtain ⟨d, cs, s, v, up, h, hf, hL, hp⟩ := (hI _).1 hi
  have hu := h.len
  have hd0 := depthOf_eq h.hb h.dep
  have hsz := h.sz
  have hoff := off_Q h.hb
  have hwf := h.wf
  have hab := h.ab
  have r0 := h.rep
  simp [-getElem?_pos, -Array.getElem?_eq_getElem, -Int.natCast_add, -op_st_3, -op_st_195, ptr, h.hb, h.dep, h.node]
  refine ⟨by omega, ?_⟩
  match d, hwf, r0 with
  | 0, hwf, r0 =>
    obtain ⟨es, rfl, e1, e2⟩ := wf_zero.1 hwf
    have r0' := r0
    obtain ⟨b, g, o, c, rfl, hb, hg⟩ := r0
    have h0 : 0 < es.length := List.length_pos_iff.2 e1
    have ewl : IntKind.i64.wrap ((es.length : Int) - 1) = ((es.length - 1 : Nat) : Int) := by rw [IntKind.wrap_i64]; omega
    simp [-getElem?_pos, -Array.getElem?_eq_getElem, -Int.natCast_add, -op_st_3, -op_st_195, ptr, hb, ewl]
    refine op_store_ok (by kernel_rfl) h.hb (by omega) rfl fun w1 k1 z1 b1 => ?_
    have k1 := Frm.dr k1
    have g1 : ∀ i, (cs.setIfInBounds (1 + up.length * 2 + 1) (.int .i64 ((es.length - 1 : Nat) : Int)))[i]? = if 1 + up.length * 2 + 1 = i then some (.int .i64 ((es.length - 1 : Nat) : Int)) else cs[i]? := fun i => set_at (by omega)
    refine hK w1 (hf.trans k1 fun _ h _ => h) ⟨_, es, _, up, es.length - 1, ⟨b1, by simp [hsz], ?_, ?_, ?_, r0'.off hoff k1, hwf, (h.stk.off hoff k1).cells fun i hi => by rw [g1, if_neg (by omega)], hab, hu⟩, ?_, by omega, hL, by rw [hp]; show (bw (0 + 1) (fms up)).length + es.length - 1 = (bw (0 + 1) (fms up)).length + _; omega⟩
    · rw [g1, if_neg (by omega)]; exact h.m
    · rw [g1, if_neg (by omega)]; exact h.dep
    · rw [g1, if_neg (by omega)]; exact h.node
    · rw [g1, if_pos rfl]
  | d + 1, hwf, r0 =>
    obtain ⟨ks, rfl, e1, e2, e3⟩ := wf_succ.1 hwf
    have r0' := r0
    obtain ⟨b, g, o, c, ps, rfl, hb, hps, hg, hc⟩ := r0
    have hl : ps.length = ks.length := by rw [hps, List.length_map]
    rw [← hl] at hb hg
    have h0 : 0 < ps.length := by rw [hl]; exact List.length_pos_iff.2 e1
    have ewl : IntKind.i64.wrap ((ps.length : Int) - 1) = ((ps.length - 1 : Nat) : Int) := by rw [IntKind.wrap_i64]; omega
    have ewd : IntKind.i64.wrap ((up.length : Int) + 1) = ((up.length + 1 : Nat) : Int) := by rw [IntKind.wrap_i64]; omega
    simp [-getElem?_pos, -Array.getElem?_eq_getElem, -Int.natCast_add, -op_st_3, -op_st_195, ptr, hb, ewl]
    refine op_store_ok (by kernel_rfl) h.hb (by omega) rfl fun w1 k1 z1 b1 => ?_
    have k1 := Frm.dr k1
    obtain ⟨m, hm⟩ : ∃ m, m = ps.length - 1 := ⟨_, rfl⟩
    rw [← hm] at b1
    have h0 : m < ps.length := by omega
    have t1 := h.stk.off hoff k1
    have g1 : ∀ i, (cs.setIfInBounds (1 + up.length * 2 + 1) (.int .i64 (m : Int)))[i]? = if 1 + up.length * 2 + 1 = i then some (.int .i64 (m : Int)) else cs[i]? := fun i => set_at (by omega)
    have n1 : (cs.setIfInBounds (1 + up.length * 2 + 1) (.int .i64 (m : Int)))[1 + up.length * 2]? = some (.iface 262 (ptr b)) := by rw [g1, if_neg (by omega)]; exact h.node
    have i1 : (cs.setIfInBounds (1 + up.length * 2 + 1) (.int .i64 (m : Int)))[1 + up.length * 2 + 1]? = some (.int .i64 (m : Int)) := by rw [g1, if_pos rfl]
    have d1 : (cs.setIfInBounds (1 + up.length * 2 + 1) (.int .i64 (m : Int)))[65]? = some (.int .i64 (up.length : Int)) := by rw [g1, if_neg (by omega)]; exact h.dep
    have m1 : (cs.setIfInBounds (1 + up.length * 2 + 1) (.int .i64 (m : Int)))[0]? = some (ptr mb) := by rw [g1, if_neg (by omega)]; exact h.m
    have z1' : (cs.setIfInBounds (1 + up.length * 2 + 1) (.int .i64 (m : Int))).size = 66 := by simp [hsz]
    have st1 : Stk w1 (cs.setIfInBounds (1 + up.length * 2 + 1) (.int .i64 (m : Int))) (d + 1 + 1) up := t1.cells fun i hi => by rw [g1, if_neg (by omega)]
    generalize hcs : cs.setIfInBounds (1 + up.length * 2 + 1) (.int .i64 (m : Int)) = c1 at *
    have hf1 : Frm (· = ib) w w1 := hf.trans k1 fun _ h _ => h
    have r1' := r0'.off hoff k1
    obtain ⟨bs, q1, q2, q3⟩ := id hg
    obtain ⟨co, ce, cz, p1, p2, p3, p4, p5⟩ := id hoff
    have nb : b ≠ ib := fun e => by rw [e, p1] at hb; cases hb; exact p4 rfl
    have ng : g ≠ ib := fun e => by rw [e, p1] at q1; cases q1; exact p5 rfl
    have hb1 := k1.get hb nb
    obtain ⟨cur, hcur, hk⟩ := elCells (hg.frame k1 ng)
    have hk0 := (hk m h0).2
    have hr0 := (hc _ (List.getElem_mem h0)).off hoff k1
    obtain ⟨uc, pc, hcv⟩ := hr0.iface
    rw [hcv] at hk0
    simp [-getElem?_pos, -Array.getElem?_eq_getElem, -Int.natCast_add, -op_st_3, -op_st_195, ptr, b1, d1, i1, hb1, hcur, hk0, ewd]
    refine ⟨h0, by omega, ?_⟩
    refine op_storeN_ok (n := 2) (by kernel_rfl) b1 rfl (by omega) (fun u hu => ?_) fun w2 k2 z2 b2 => ?_
    · simp only [List.mem_toArray, List.mem_cons, List.not_mem_nil, or_false] at hu
      rcases hu with rfl | rfl <;> rfl
    · have k2 := Frm.dr k2
      have g2 : ∀ j, (ow c1 (1 + (up.length + 1) * 2) [Value.iface uc pc, .int .i64 0])[j]? = if 1 + (up.length + 1) * 2 ≤ j ∧ j < 1 + (up.length + 1) * 2 + 2 then [Value.iface uc pc, .int .i64 0][j - (1 + (up.length + 1) * 2)]? else c1[j]? := fun j => ow_get (by simp; omega)
      have z2' : (ow c1 (1 + (up.length + 1) * 2) [Value.iface uc pc, .int .i64 0]).size = 66 := by rw [ow_size, z1']
      have d2 : (ow c1 (1 + (up.length + 1) * 2) [Value.iface uc pc, .int .i64 0])[65]? = some (.int .i64 (up.length : Int)) := by rw [g2, if_neg (by omega)]; exact d1
      simp [-getElem?_pos, -Array.getElem?_eq_getElem, -Int.natCast_add, -op_st_3, -op_st_195, b2, d2, ewd]
      refine op_store_ok (by kernel_rfl) b2 (by rw [ow_size]; omega) rfl fun w3 k3 z3 b3 => ?_
      have g3 : ∀ j, ((ow c1 (1 + (up.length + 1) * 2) [Value.iface uc pc, .int .i64 0]).setIfInBounds 65 (.int .i64 ((up.length + 1 : Nat) : Int)))[j]? = if 65 = j then some (.int .i64 ((up.length + 1 : Nat) : Int)) else (ow c1 (1 + (up.length + 1) * 2) [Value.iface uc pc, .int .i64 0])[j]? := fun j => set_at (by omega)
      have k13 : Frm (· = ib) w1 w3 := k2.trans k3 fun _ h _ => h
      have hm0 : ps[m].1 ∈ ks := by rw [hps]; exact List.mem_map.2 ⟨_, List.getElem_mem h0, rfl⟩
      have hks0 : ks[m]? = some ps[m].1 := by rw [hps, List.getElem?_map, List.getElem?_eq_getElem h0]; rfl
      have off1 := off_Q b1
      rw [hcv] at hr0
      have hst3 : Stk w3 ((ow c1 (1 + (up.length + 1) * 2) [Value.iface uc pc, .int .i64 0]).setIfInBounds 65 (.int .i64 ((up.length + 1 : Nat) : Int))) (d + 1 + 1) up := (st1.off off1 k13).cells fun j hj => by rw [g3, if_neg (by omega), g2, if_neg (by omega)]
      have hlow : Low w3 ib mb d ((ow c1 (1 + (up.length + 1) * 2) [Value.iface uc pc, .int .i64 0]).setIfInBounds 65 (.int .i64 ((up.length + 1 : Nat) : Int))) ps[m].1 (.iface uc pc) (⟨.br ks, .iface 262 (ptr b), m⟩ :: up) := by
        refine ⟨by simpa using b3, by simp [z2'], ?_, ?_, ?_, hr0.off off1 k13, e3 _ hm0, ⟨?_, ?_, r1'.off off1 k13, hwf, hst3⟩, ⟨hwf, ⟨ks, rfl, hks0⟩, hab⟩, by simp only [List.length_cons]; omega⟩
        · rw [g3, if_neg (by omega), g2, if_neg (by omega)]; exact m1
        · rw [g3, if_pos rfl]; rfl
        · rw [g3, if_neg (by simp only [List.length_cons]; omega), g2, if_pos (by simp only [List.length_cons]; omega)]
          simp
        · rw [g3, if_neg (by omega), g2, if_neg (by omega)]; exact n1
        · rw [g3, if_neg (by omega), g2, if_neg (by omega)]; exact i1
      have hd3 := depthOf_eq hlow.hb hlow.dep
      refine ⟨(hI _).2 ⟨d, _, _, _, _, hlow, hf1.trans k13 fun _ h _ => h, ?_, ?_⟩, ?_⟩
      · rw [hL]; exact (frame_eq hks0).symm
      · obtain ⟨hil, hie⟩ := List.getElem?_eq_some_iff.1 hks0
        have hdr : ks.drop (m + 1) = [] := List.drop_of_length_le (by omega)
        rw [hp, bw_cons, toL_split hil, hie, hdr]
        simp only [List.flatMap_nil, List.append_nil, List.length_append]; omega
      · rw [hd0, hd3]; simp only [List.length_cons]; omega
end Go.Proofs.YtodjijfblgnfmaaGreatDoor.T
end
section
namespace Go.Proofs.YtodjijfblgnfmaaGreatDoor.T
open Go.Vc Go.Proofs Go.Proofs.YtodjijfblgnfmaaGreatDoor Go.Vc.Bt
variable {w w' : World} {v : Value} {K : KV} {Kp : KP} {ib mb d : Nat} {L : List (Ky × Vl)} {cs : Array Value}
structure Pop (w : World) (ib mb d : Nat) (cs : Array Value) (r : Fr) (up : List Fr) : Prop where
  hb : w.heap[ib]? = some (.cells cs 198 (0, 0))
  sz : cs.size = 66
  m : cs[0]? = some (ptr mb)
  dep : cs[65]? = some (.int .i64 (up.length : Int))
  stk : Stk w cs d (r :: up)
  ab : Above d r.s (fms up)
  len : d + up.length ≤ 31
  inr : r.i < r.s.size ∨ d = 0 ∧ r.i = r.s.size
theorem at_pop {q : Nat} (h : At w ib mb L (some q)) : ∃ cs r up, Pop w ib mb 0 cs r up ∧ L = bw 1 (fms up) ++ (toL 0 r.s ++ fw 1 (fms up)) ∧ q + 1 + (fw 0 (fms (r :: up))).length = L.length := by
  obtain ⟨cs, es, v, up, j, h1, h2, h3, h4, h5⟩ := h
  refine ⟨cs, ⟨.leaf es, v, j⟩, up, ⟨h1.hb, h1.sz, h1.m, h1.dep, ⟨h1.node, h2, h1.rep, h1.wf, h1.stk⟩, h1.ab, h1.len, .inl h3⟩, h4, ?_⟩
  have e : fw 0 (fms (⟨.leaf es, v, j⟩ :: up)) = es.drop (j + 1) ++ fw 1 (fms up) := rfl
  rw [e, h4, h5]
  simp only [List.length_append, List.length_drop]; omega
theorem next_pop {q : Nat} (h : ∃ cs r up, Pop w ib mb 0 cs r up ∧ L = bw 1 (fms up) ++ (toL 0 r.s ++ fw 1 (fms up)) ∧ q + 1 + (fw 0 (fms (r :: up))).length = L.length) (hK : ∀ w', Frm (· = ib) w w' → At w' ib mb L (if q + 1 < L.length then some (q + 1) else none) → K (.tuple #[]) w') :
    Calls Tryz.prog 175 #[ptr ib] w (ret K Kp) := by
  refine vc175_calls ?_
  delta vc175
  obtain ⟨I, hI⟩ : ∃ I : World → Prop, ∀ wl, I wl ↔ Frm (· = ib) w wl ∧ ((∃ d cs r up, Pop wl ib mb d cs r up ∧ L = bw (d + 1) (fms up) ++ (toL d r.s ++ fw (d + 1) (fms up)) ∧ q + 1 + (fw d (fms (r :: up))).length = L.length) ∨ (At wl ib mb L none ∧ q + 1 = L.length)) := ⟨_, fun _ => Iff.rfl⟩
  refine Lp.intro I (fun wl => depthOf wl ib) ⟨(hI _).2 ⟨Frm.refl, .inl ?_⟩, ?_⟩
  · obtain ⟨cs, r, up, h1, h2, h3⟩ := h
    exact ⟨0, cs, r, up, h1, h2, h3⟩
  intro wl _ hi
  obtain ⟨hf, hi | ⟨⟨cs, h1, h2, h3, h4⟩, hq⟩⟩ := (hI _).1 hi
  · obtain ⟨d, cs, r, up, h1, hL, hq⟩ := hi
    have hd0 := depthOf_eq h1.hb h1.dep
    have hsz := h1.sz
    have hlen := h1.len
    obtain ⟨k1, k2, k3, k4, k5⟩ := h1.stk
    have hab := h1.ab
    have hinr := h1.inr
    have hoff := off_Q h1.hb
    have hpop : ∀ w1, Frm (· = ib) wl w1 → w1.heap[ib]? = some (.cells (cs.setIfInBounds 65 (.int .i64 ((up.length : Int) - 1))) 198 (0, 0)) → fw d (fms (r :: up)) = fw (d + 1) (fms up) → I w1 ∧ depthOf w1 ib < depthOf wl ib := by
      intro w1 k1' b1 he
      have g1 : ∀ i, (cs.setIfInBounds 65 (.int .i64 ((up.length : Int) - 1)))[i]? = if 65 = i then some (.int .i64 ((up.length : Int) - 1)) else cs[i]? := fun i => set_at (by omega)
      have hd1 := depthOf_eq b1 (by rw [g1, if_pos rfl])
      have hf1 : Frm (· = ib) w w1 := hf.trans k1' fun _ h _ => h
      refine ⟨(hI _).2 ⟨hf1, ?_⟩, by rw [hd1, hd0]; omega⟩
      cases up with
      | nil =>
        refine .inr ⟨⟨_, b1, by simp [hsz], by rw [g1, if_neg (by omega)]; exact h1.m, by rw [g1, if_pos rfl]; rfl⟩, ?_⟩
        rw [he] at hq
        have : (fw (d + 1) (fms ([] : List Fr))).length = 0 := rfl
        omega
      | cons r' up' =>
        obtain ⟨s', v', i'⟩ := r'
        obtain ⟨a1, ⟨ks, a2, a3⟩, a4⟩ := hab
        obtain rfl : s' = .br ks := a2
        obtain ⟨hil, hie⟩ := List.getElem?_eq_some_iff.1 a3
        refine .inl ⟨d + 1, _, ⟨.br ks, v', i'⟩, up', ⟨b1, by simp [hsz], by rw [g1, if_neg (by omega)]; exact h1.m, ?_, (k5.off hoff k1').cells fun j hj => ?_, a4, ?_, .inl hil⟩, ?_, ?_⟩
        · rw [g1, if_pos rfl]; simp
        · simp only [List.length_cons] at hj hlen
          rw [g1, if_neg (by omega)]
        · simp only [List.length_cons] at hlen; omega
        · rw [hL]; exact frame_eq a3
        · rw [← he]; exact hq
    simp [-getElem?_pos, -Array.getElem?_eq_getElem, -Int.natCast_add, -op_st_3, -op_st_188, ptr, h1.hb, h1.dep, k1]
    refine ⟨by omega, ?_⟩
    have ewm : IntKind.i64.wrap ((up.length : Int) - 1) = (up.length : Int) - 1 := by rw [IntKind.wrap_i64]; omega
    obtain ⟨rs, rv, ri⟩ := r
    match d, k4, k3 with
    | 0, k4, k3 =>
      obtain ⟨es, rfl, e1, e2⟩ := wf_zero.1 k4
      have k3' := k3
      obtain ⟨b, g, o, c, rfl, hb, hg⟩ := k3
      have hri : ri ≤ es.length := by
        rcases hinr with h | ⟨_, h⟩
        · exact Nat.le_of_lt h
        · exact Nat.le_of_eq h
      have h0 : 0 < es.length := List.length_pos_iff.2 e1
      have ewl : IntKind.i64.wrap ((es.length : Int) - 1) = (es.length : Int) - 1 := by rw [IntKind.wrap_i64]; omega
      have ewi : IntKind.i64.wrap ((ri : Int) + 1) = ((ri + 1 : Nat) : Int) := by rw [IntKind.wrap_i64]; omega
      simp [-getElem?_pos, -Array.getElem?_eq_getElem, -Int.natCast_add, -op_st_3, -op_st_188, ptr, h1.hb, h1.dep, k2, hb, ewl, ewi, ewm]
      refine ⟨fun hlt => ?_, fun hge => ?_⟩
      · refine op_store_ok (by kernel_rfl) h1.hb (by omega) rfl fun w1 p1 z1 b1 => ?_
        have p1 := Frm.dr (Frm.dr p1)
        have g1 : ∀ i, (cs.setIfInBounds (1 + up.length * 2 + 1) (.int .i64 ((ri + 1 : Nat) : Int)))[i]? = if 1 + up.length * 2 + 1 = i then some (.int .i64 ((ri + 1 : Nat) : Int)) else cs[i]? := fun i => set_at (by omega)
        have hz : (bw (0 + 1) (fms up)).length + es.length + (fw (0 + 1) (fms up)).length = L.length := by rw [hL]; simp only [List.length_append, toL_zero]; omega
        have hz2 : q + 1 + (es.length - (ri + 1) + (fw (0 + 1) (fms up)).length) = L.length := by
          rw [← hq]; show _ = q + 1 + (es.drop (ri + 1) ++ fw (0 + 1) (fms up)).length
          rw [List.length_append, List.length_drop]
        refine hK w1 (hf.trans p1 fun _ h _ => h) ?_
        rw [if_pos (by omega)]
        refine ⟨_, es, _, up, ri + 1, ⟨b1, by simp [hsz], ?_, ?_, ?_, k3'.off hoff p1, k4, (k5.off hoff p1).cells fun i hi => by rw [g1, if_neg (by omega)], hab, hlen⟩, by rw [g1, if_pos rfl], by omega, hL, ?_⟩
        · rw [g1, if_neg (by omega)]; exact h1.m
        · rw [g1, if_neg (by omega)]; exact h1.dep
        · rw [g1, if_neg (by omega)]; exact k1
        · show q + 1 = (bw (0 + 1) (fms up)).length + _; omega
      · refine op_store_ok (by kernel_rfl) h1.hb (by omega) rfl fun w1 p1 z1 b1 => ?_
        refine hpop w1 (Frm.dr (Frm.dr p1)) b1 ?_
        have e : fw 0 (fms (⟨.leaf es, .iface 200 (ptr b), ri⟩ :: up)) = es.drop (ri + 1) ++ fw 1 (fms up) := rfl
        rw [e, List.drop_of_length_le (by omega)]; rfl
    | d + 1, k4, k3 =>
      obtain ⟨ks, rfl, e1, e2, e3⟩ := wf_succ.1 k4
      have k3' := k3
      obtain ⟨b, g, o, c, ps, rfl, hb, hps, hg, hc⟩ := k3
      have hl : ps.length = ks.length := by rw [hps, List.length_map]
      rw [← hl] at hb hg
      have hri : ri < ks.length := hinr.resolve_right (by omega)
      have ewl : IntKind.i64.wrap ((ps.length : Int) - 1) = (ps.length : Int) - 1 := by rw [IntKind.wrap_i64]; omega
      have ewi : IntKind.i64.wrap ((ri : Int) + 1) = ((ri + 1 : Nat) : Int) := by rw [IntKind.wrap_i64]; omega
      have ewd : IntKind.i64.wrap ((up.length : Int) + 1) = ((up.length + 1 : Nat) : Int) := by rw [IntKind.wrap_i64]; omega
      simp [-getElem?_pos, -Array.getElem?_eq_getElem, -Int.natCast_add, -op_st_3, -op_st_188, ptr, h1.hb, h1.dep, k2, hb, ewl, ewi, ewm]
      refine ⟨fun hlt => ?_, fun hge => ?_⟩
      · refine op_store_ok (by kernel_rfl) h1.hb (by omega) rfl fun w1 p1 z1 b1 => ?_
        have p1 := Frm.dr (Frm.dr p1)
        obtain ⟨m, hm⟩ : ∃ m, m = ri + 1 := ⟨_, rfl⟩
        rw [← hm] at b1
        have h0 : m < ps.length := by omega
        have g1 : ∀ i, (cs.setIfInBounds (1 + up.length * 2 + 1) (.int .i64 (m : Int)))[i]? = if 1 + up.length * 2 + 1 = i then some (.int .i64 (m : Int)) else cs[i]? := fun i => set_at (by omega)
        have n1 : (cs.setIfInBounds (1 + up.length * 2 + 1) (.int .i64 (m : Int)))[1 + up.length * 2]? = some (.iface 262 (ptr b)) := by rw [g1, if_neg (by omega)]; exact k1
        have i1 : (cs.setIfInBounds (1 + up.length * 2 + 1) (.int .i64 (m : Int)))[1 + up.length * 2 + 1]? = some (.int .i64 (m : Int)) := by rw [g1, if_pos rfl]
        have d1 : (cs.setIfInBounds (1 + up.length * 2 + 1) (.int .i64 (m : Int)))[65]? = some (.int .i64 (up.length : Int)) := by rw [g1, if_neg (by omega)]; exact h1.dep
        have m1 : (cs.setIfInBounds (1 + up.length * 2 + 1) (.int .i64 (m : Int)))[0]? = some (ptr mb) := by rw [g1, if_neg (by omega)]; exact h1.m
        have z1' : (cs.setIfInBounds (1 + up.length * 2 + 1) (.int .i64 (m : Int))).size = 66 := by simp [hsz]
        have st1 : Stk w1 (cs.setIfInBounds (1 + up.length * 2 + 1) (.int .i64 (m : Int))) (d + 1 + 1) up := (k5.off hoff p1).cells fun i hi => by rw [g1, if_neg (by omega)]
        generalize hcs : cs.setIfInBounds (1 + up.length * 2 + 1) (.int .i64 (m : Int)) = c1 at *
        have hf1 : Frm (· = ib) w w1 := hf.trans p1 fun _ h _ => h
        have r1' := k3'.off hoff p1
        obtain ⟨bs, q1, q2, q3⟩ := id hg
        obtain ⟨co, ce, cz, o1, o2, o3, o4, o5⟩ := id hoff
        have nb : b ≠ ib := fun e => by rw [e, o1] at hb; cases hb; exact o4 rfl
        have ng : g ≠ ib := fun e => by rw [e, o1] at q1; cases q1; exact o5 rfl
        have hb1 := p1.get hb nb
        obtain ⟨cur, hcur, hk⟩ := elCells (hg.frame p1 ng)
        have hk0 := (hk m h0).2
        have hr0 := (hc _ (List.getElem_mem h0)).off hoff p1
        obtain ⟨uc, pc, hcv⟩ := hr0.iface
        rw [hcv] at hk0
        simp [-getElem?_pos, -Array.getElem?_eq_getElem, -Int.natCast_add, -op_st_3, -op_st_188, ptr, b1, d1, i1, hb1, hcur, hk0, ewd]
        refine ⟨h0, by omega, ?_⟩
        refine op_store_ok (by kernel_rfl) b1 (by omega) rfl fun w2 k2 z2 b2 => ?_
        have k2 := Frm.dr k2
        have g2 : ∀ j, (c1.setIfInBounds (1 + (up.length + 1) * 2) (.iface uc pc))[j]? = if 1 + (up.length + 1) * 2 = j then some (.iface uc pc) else c1[j]? := fun j => set_at (by omega)
        have d2 : (c1.setIfInBounds (1 + (up.length + 1) * 2) (.iface uc pc))[65]? = some (.int .i64 (up.length : Int)) := by rw [g2, if_neg (by omega)]; exact d1
        have z2' : (c1.setIfInBounds (1 + (up.length + 1) * 2) (.iface uc pc)).size = 66 := by simp [z1']
        simp [-getElem?_pos, -Array.getElem?_eq_getElem, -Int.natCast_add, -op_st_3, -op_st_188, b2, d2, ewd]
        refine op_store_ok (by kernel_rfl) b2 (by omega) rfl fun w3 k3 z3 b3 => ?_
        have g3 : ∀ j, ((c1.setIfInBounds (1 + (up.length + 1) * 2) (.iface uc pc)).setIfInBounds 65 (.int .i64 ((up.length + 1 : Nat) : Int)))[j]? = if 65 = j then some (.int .i64 ((up.length + 1 : Nat) : Int)) else (c1.setIfInBounds (1 + (up.length + 1) * 2) (.iface uc pc))[j]? := fun j => set_at (by omega)
        have k13 : Frm (· = ib) w1 w3 := k2.trans k3 fun _ h _ => h
        have hm0 : ps[m].1 ∈ ks := by rw [hps]; exact List.mem_map.2 ⟨_, List.getElem_mem h0, rfl⟩
        have hks0 : ks[m]? = some ps[m].1 := by rw [hps, List.getElem?_map, List.getElem?_eq_getElem h0]; rfl
        have off1 := off_Q b1
        rw [hcv] at hr0
        have hst3 : Stk w3 ((c1.setIfInBounds (1 + (up.length + 1) * 2) (.iface uc pc)).setIfInBounds 65 (.int .i64 ((up.length + 1 : Nat) : Int))) (d + 1 + 1) up := (st1.off off1 k13).cells fun j hj => by rw [g3, if_neg (by omega), g2, if_neg (by omega)]
        have hlow : Low w3 ib mb d ((c1.setIfInBounds (1 + (up.length + 1) * 2) (.iface uc pc)).setIfInBounds 65 (.int .i64 ((up.length + 1 : Nat) : Int))) ps[m].1 (.iface uc pc) (⟨.br ks, .iface 262 (ptr b), m⟩ :: up) := by
          refine ⟨by simpa using b3, by simp [z2'], ?_, ?_, ?_, hr0.off off1 k13, e3 _ hm0, ⟨?_, ?_, r1'.off off1 k13, k4, hst3⟩, ⟨k4, ⟨ks, rfl, hks0⟩, hab⟩, by simp only [List.length_cons]; omega⟩
          · rw [g3, if_neg (by omega), g2, if_neg (by omega)]; exact m1
          · rw [g3, if_pos rfl]; rfl
          · rw [g3, if_neg (by simp only [List.length_cons]; omega), g2, if_pos (by simp only [List.length_cons])]
          · rw [g3, if_neg (by omega), g2, if_neg (by omega)]; exact n1
          · rw [g3, if_neg (by omega), g2, if_neg (by omega)]; exact i1
        have hne : 0 < (toL d ps[m].1).length := List.length_pos_iff.2 (toL_ne d _ (e3 _ hm0))
        refine first_ok hlow fun w4 k4' hat => ?_
        have hf4 : Frm (· = ib) w w4 := (hf1.trans k13 fun _ h _ => h).trans k4' fun _ h _ => h
        rw [frame_eq hks0, ← hL] at hat
        have hfw : q + 1 + ((ks.drop m).flatMap (toL d)).length + (fw (d + 1 + 1) (fms up)).length = L.length := by
          rw [← hq, fw_cons, hm, List.length_append]; omega
        have hsum : ((ks.take m).flatMap (toL d)).length + ((ks.drop m).flatMap (toL d)).length = (toL (d + 1) (.br ks)).length := by
          rw [toL_succ, ← List.length_append, ← List.flatMap_append, List.take_append_drop]
        have hall : L.length = (bw (d + 1 + 1) (fms up)).length + ((toL (d + 1) (.br ks)).length + (fw (d + 1 + 1) (fms up)).length) := by rw [hL, List.length_append, List.length_append]
        have hdm : (toL d ps[m].1).length ≤ ((ks.drop m).flatMap (toL d)).length := by
          obtain ⟨hil, hie⟩ := List.getElem?_eq_some_iff.1 hks0
          rw [List.drop_eq_getElem_cons hil, List.flatMap_cons, hie, List.length_append]; omega
        have hpos : (bw (d + 1) (fms (⟨.br ks, .iface 262 (ptr b), m⟩ :: up))).length = q + 1 := by
          rw [bw_cons, List.length_append]; omega
        rw [hpos] at hat
        refine hK w4 hf4 ?_
        rw [if_pos (by omega)]
        exact hat
      · refine op_store_ok (by kernel_rfl) h1.hb (by omega) rfl fun w1 p1 z1 b1 => ?_
        refine hpop w1 (Frm.dr (Frm.dr p1)) b1 ?_
        rw [fw_cons, List.drop_of_length_le (by omega)]; rfl
  · simp [-getElem?_pos, -Array.getElem?_eq_getElem, -Int.natCast_add, -op_st_3, -op_st_188, ptr, h1, h4]
    refine hK wl hf ?_
    rw [if_neg (by omega)]
    exact ⟨cs, h1, h2, h3, h4⟩
theorem next_ok {q : Nat} (h : At w ib mb L (some q)) (hK : ∀ w', Frm (· = ib) w w' → At w' ib mb L (if q + 1 < L.length then some (q + 1) else none) → K (.tuple #[]) w') :
    Calls Tryz.prog 175 #[ptr ib] w (ret K Kp) := next_pop (at_pop h) hK
end Go.Proofs.YtodjijfblgnfmaaGreatDoor.T
end
section
namespace Go.Proofs.YtodjijfblgnfmaaGreatDoor.T
open Go.Vc Go.Proofs Go.Proofs.YtodjijfblgnfmaaGreatDoor Go.Vc.Bt
variable {w w' : World} {v : Value} {K : KV} {Kp : KP} {ib mb d : Nat} {L : List (Ky × Vl)} {cs : Array Value}
theorem at_pop' {q : Nat} (h : At w ib mb L (some q)) : ∃ cs r up, Pop w ib mb 0 cs r up ∧ L = bw 1 (fms up) ++ (toL 0 r.s ++ fw 1 (fms up)) ∧ (bw 0 (fms (r :: up))).length = q := by
  obtain ⟨cs, es, v, up, j, h1, h2, h3, h4, h5⟩ := h
  refine ⟨cs, ⟨.leaf es, v, j⟩, up, ⟨h1.hb, h1.sz, h1.m, h1.dep, ⟨h1.node, h2, h1.rep, h1.wf, h1.stk⟩, h1.ab, h1.len, .inl h3⟩, h4, ?_⟩
  have e : bw 0 (fms (⟨.leaf es, v, j⟩ :: up)) = bw 1 (fms up) ++ es.take j := rfl
  rw [e, h5]
  simp only [List.length_append, List.length_take]; omega
theorem prev_ok {q : Nat} (h : At w ib mb L (some q)) (hK : ∀ w', Frm (· = ib) w w' → At w' ib mb L (if 0 < q then some (q - 1) else none) → K (.tuple #[]) w') :
    Calls Tryz.prog 144 #[ptr ib] w (ret K Kp) := by
  refine vc144_calls ?_
  delta vc144
  obtain ⟨I, hI⟩ : ∃ I : World → Prop, ∀ wl, I wl ↔ Frm (· = ib) w wl ∧ ((∃ d cs r up, Pop wl ib mb d cs r up ∧ L = bw (d + 1) (fms up) ++ (toL d r.s ++ fw (d + 1) (fms up)) ∧ (bw d (fms (r :: up))).length = q) ∨ (At wl ib mb L none ∧ q = 0)) := ⟨_, fun _ => Iff.rfl⟩
  refine Lp.intro I (fun wl => depthOf wl ib) ⟨(hI _).2 ⟨Frm.refl, .inl ?_⟩, ?_⟩
  · obtain ⟨cs, r, up, h1, h2, h3⟩ := at_pop' h
    exact ⟨0, cs, r, up, h1, h2, h3⟩
  intro wl _ hi
  obtain ⟨hf, hi | ⟨⟨cs, h1, h2, h3, h4⟩, hq⟩⟩ := (hI _).1 hi
  · obtain ⟨d, cs, r, up, h1, hL, hq⟩ := hi
    have hd0 := depthOf_eq h1.hb h1.dep
    have hsz := h1.sz
    have hlen := h1.len
    obtain ⟨k1, k2, k3, k4, k5⟩ := h1.stk
    have hab := h1.ab
    have hinr := h1.inr
    have hoff := off_Q h1.hb
    have hpop : ∀ w1, Frm (· = ib) wl w1 → w1.heap[ib]? = some (.cells (cs.setIfInBounds 65 (.int .i64 ((up.length : Int) - 1))) 198 (0, 0)) → bw d (fms (r :: up)) = bw (d + 1) (fms up) → I w1 ∧ depthOf w1 ib < depthOf wl ib := by
      intro w1 k1' b1 he
      have g1 : ∀ i, (cs.setIfInBounds 65 (.int .i64 ((up.length : Int) - 1)))[i]? = if 65 = i then some (.int .i64 ((up.length : Int) - 1)) else cs[i]? := fun i => set_at (by omega)
      have hd1 := depthOf_eq b1 (by rw [g1, if_pos rfl])
      have hf1 : Frm (· = ib) w w1 := hf.trans k1' fun _ h _ => h
      refine ⟨(hI _).2 ⟨hf1, ?_⟩, by rw [hd1, hd0]; omega⟩
      cases up with
      | nil =>
        refine .inr ⟨⟨_, b1, by simp [hsz], by rw [g1, if_neg (by omega)]; exact h1.m, by rw [g1, if_pos rfl]; rfl⟩, ?_⟩
        rw [he] at hq
        have : (bw (d + 1) (fms ([] : List Fr))).length = 0 := rfl
        omega
      | cons r' up' =>
        obtain ⟨s', v', i'⟩ := r'
        obtain ⟨a1, ⟨ks, a2, a3⟩, a4⟩ := hab
        obtain rfl : s' = .br ks := a2
        obtain ⟨hil, hie⟩ := List.getElem?_eq_some_iff.1 a3
        refine .inl ⟨d + 1, _, ⟨.br ks, v', i'⟩, up', ⟨b1, by simp [hsz], by rw [g1, if_neg (by omega)]; exact h1.m, ?_, (k5.off hoff k1').cells fun j hj => ?_, a4, ?_, .inl hil⟩, ?_, ?_⟩
        · rw [g1, if_pos rfl]; simp
        · simp only [List.length_cons] at hj hlen
          rw [g1, if_neg (by omega)]
        · simp only [List.length_cons] at hlen; omega
        · rw [hL]; exact frame_eq a3
        · rw [← he]; exact hq
    simp [-getElem?_pos, -Array.getElem?_eq_getElem, -Int.natCast_add, -op_st_3, -op_st_188, ptr, h1.hb, h1.dep, k1]
    refine ⟨by omega, ?_⟩
    have ewm : IntKind.i64.wrap ((up.length : Int) - 1) = (up.length : Int) - 1 := by rw [IntKind.wrap_i64]; omega
    obtain ⟨rs, rv, ri⟩ := r
    match d, k4, k3 with
    | 0, k4, k3 =>
      obtain ⟨es, rfl, e1, e2⟩ := wf_zero.1 k4
      have k3' := k3
      obtain ⟨b, g, o, c, rfl, hb, hg⟩ := k3
      have hri : ri ≤ es.length := by
        rcases hinr with h | ⟨_, h⟩
        · exact Nat.le_of_lt h
        · exact Nat.le_of_eq h
      have h0 : 0 < es.length := List.length_pos_iff.2 e1
      have ewl : IntKind.i64.wrap ((es.length : Int) - 1) = (es.length : Int) - 1 := by rw [IntKind.wrap_i64]; omega
      have ewi : 0 < ri → IntKind.i64.wrap ((ri : Int) - 1) = ((ri - 1 : Nat) : Int) := fun _ => by rw [IntKind.wrap_i64]; omega
      simp [-getElem?_pos, -Array.getElem?_eq_getElem, -Int.natCast_add, -op_st_3, -op_st_188, ptr, h1.hb, h1.dep, k2, hb, ewm]
      refine ⟨fun hlt => ?_, fun hge => ?_⟩
      · rw [ewi (by omega)]
        refine op_store_ok (by kernel_rfl) h1.hb (by omega) rfl fun w1 p1 z1 b1 => ?_
        have p1 := Frm.dr p1
        have g1 : ∀ i, (cs.setIfInBounds (1 + up.length * 2 + 1) (.int .i64 ((ri - 1 : Nat) : Int)))[i]? = if 1 + up.length * 2 + 1 = i then some (.int .i64 ((ri - 1 : Nat) : Int)) else cs[i]? := fun i => set_at (by omega)
        have hz : (bw (0 + 1) (fms up) ++ es.take ri).length = q := hq
        rw [List.length_append, List.length_take] at hz
        refine hK w1 (hf.trans p1 fun _ h _ => h) ?_
        rw [if_pos (by omega)]
        refine ⟨_, es, _, up, ri - 1, ⟨b1, by simp [hsz], ?_, ?_, ?_, k3'.off hoff p1, k4, (k5.off hoff p1).cells fun i hi => by rw [g1, if_neg (by omega)], hab, hlen⟩, by rw [g1, if_pos rfl], by omega, hL, ?_⟩
        · rw [g1, if_neg (by omega)]; exact h1.m
        · rw [g1, if_neg (by omega)]; exact h1.dep
        · rw [g1, if_neg (by omega)]; exact k1
        · show q - 1 = (bw (0 + 1) (fms up)).length + _; omega
      · refine op_store_ok (by kernel_rfl) h1.hb (by omega) rfl fun w1 p1 z1 b1 => ?_
        refine hpop w1 (Frm.dr p1) b1 ?_
        have e : bw 0 (fms (⟨.leaf es, .iface 200 (ptr b), ri⟩ :: up)) = bw 1 (fms up) ++ es.take ri := rfl
        have h0' : ri = 0 := by omega
        rw [e, h0']; simp
    | d + 1, k4, k3 =>
      obtain ⟨ks, rfl, e1, e2, e3⟩ := wf_succ.1 k4
      have k3' := k3
      obtain ⟨b, g, o, c, ps, rfl, hb, hps, hg, hc⟩ := k3
      have hl : ps.length = ks.length := by rw [hps, List.length_map]
      rw [← hl] at hb hg
      have hri : ri < ks.length := hinr.resolve_right (by omega)
      have ewl : IntKind.i64.wrap ((ps.length : Int) - 1) = (ps.length : Int) - 1 := by rw [IntKind.wrap_i64]; omega
      have ewi : 0 < ri → IntKind.i64.wrap ((ri : Int) - 1) = ((ri - 1 : Nat) : Int) := fun _ => by rw [IntKind.wrap_i64]; omega
      have ewd : IntKind.i64.wrap ((up.length : Int) + 1) = ((up.length + 1 : Nat) : Int) := by rw [IntKind.wrap_i64]; omega
      simp [-getElem?_pos, -Array.getElem?_eq_getElem, -Int.natCast_add, -op_st_3, -op_st_188, ptr, h1.hb, h1.dep, k2, hb, ewm]
      refine ⟨fun hlt => ?_, fun hge => ?_⟩
      · rw [ewi (by omega)]
        refine op_store_ok (by kernel_rfl) h1.hb (by omega) rfl fun w1 p1 z1 b1 => ?_
        have p1 := Frm.dr p1
        obtain ⟨m, hm⟩ : ∃ m, m = ri - 1 := ⟨_, rfl⟩
        rw [← hm] at b1
        have h0 : m < ps.length := by omega
        have g1 : ∀ i, (cs.setIfInBounds (1 + up.length * 2 + 1) (.int .i64 (m : Int)))[i]? = if 1 + up.length * 2 + 1 = i then some (.int .i64 (m : Int)) else cs[i]? := fun i => set_at (by omega)
        have n1 : (cs.setIfInBounds (1 + up.length * 2 + 1) (.int .i64 (m : Int)))[1 + up.length * 2]? = some (.iface 262 (ptr b)) := by rw [g1, if_neg (by omega)]; exact k1
        have i1 : (cs.setIfInBounds (1 + up.length * 2 + 1) (.int .i64 (m : Int)))[1 + up.length * 2 + 1]? = some (.int .i64 (m : Int)) := by rw [g1, if_pos rfl]
        have d1 : (cs.setIfInBounds (1 + up.length * 2 + 1) (.int .i64 (m : Int)))[65]? = some (.int .i64 (up.length : Int)) := by rw [g1, if_neg (by omega)]; exact h1.dep
        have m1 : (cs.setIfInBounds (1 + up.length * 2 + 1) (.int .i64 (m : Int)))[0]? = some (ptr mb) := by rw [g1, if_neg (by omega)]; exact h1.m
        have z1' : (cs.setIfInBounds (1 + up.length * 2 + 1) (.int .i64 (m : Int))).size = 66 := by simp [hsz]
        have st1 : Stk w1 (cs.setIfInBounds (1 + up.length * 2 + 1) (.int .i64 (m : Int))) (d + 1 + 1) up := (k5.off hoff p1).cells fun i hi => by rw [g1, if_neg (by omega)]
        generalize hcs : cs.setIfInBounds (1 + up.length * 2 + 1) (.int .i64 (m : Int)) = c1 at *
        have hf1 : Frm (· = ib) w w1 := hf.trans p1 fun _ h _ => h
        have r1' := k3'.off hoff p1
        obtain ⟨bs, q1, q2, q3⟩ := id hg
        obtain ⟨co, ce, cz, o1, o2, o3, o4, o5⟩ := id hoff
        have nb : b ≠ ib := fun e => by rw [e, o1] at hb; cases hb; exact o4 rfl
        have ng : g ≠ ib := fun e => by rw [e, o1] at q1; cases q1; exact o5 rfl
        have hb1 := p1.get hb nb
        obtain ⟨cur, hcur, hk⟩ := elCells (hg.frame p1 ng)
        have hk0 := (hk m h0).2
        have hr0 := (hc _ (List.getElem_mem h0)).off hoff p1
        obtain ⟨uc, pc, hcv⟩ := hr0.iface
        rw [hcv] at hk0
        simp [-getElem?_pos, -Array.getElem?_eq_getElem, -Int.natCast_add, -op_st_3, -op_st_188, ptr, b1, d1, i1, hb1, hcur, hk0, ewd]
        refine ⟨h0, by omega, ?_⟩
        refine op_store_ok (by kernel_rfl) b1 (by omega) rfl fun w2 k2 z2 b2 => ?_
        have k2 := Frm.dr k2
        have g2 : ∀ j, (c1.setIfInBounds (1 + (up.length + 1) * 2) (.iface uc pc))[j]? = if 1 + (up.length + 1) * 2 = j then some (.iface uc pc) else c1[j]? := fun j => set_at (by omega)
        have d2 : (c1.setIfInBounds (1 + (up.length + 1) * 2) (.iface uc pc))[65]? = some (.int .i64 (up.length : Int)) := by rw [g2, if_neg (by omega)]; exact d1
        have z2' : (c1.setIfInBounds (1 + (up.length + 1) * 2) (.iface uc pc)).size = 66 := by simp [z1']
        simp [-getElem?_pos, -Array.getElem?_eq_getElem, -Int.natCast_add, -op_st_3, -op_st_188, b2, d2, ewd]
        refine op_store_ok (by kernel_rfl) b2 (by omega) rfl fun w3 k3 z3 b3 => ?_
        have g3 : ∀ j, ((c1.setIfInBounds (1 + (up.length + 1) * 2) (.iface uc pc)).setIfInBounds 65 (.int .i64 ((up.length + 1 : Nat) : Int)))[j]? = if 65 = j then some (.int .i64 ((up.length + 1 : Nat) : Int)) else (c1.setIfInBounds (1 + (up.length + 1) * 2) (.iface uc pc))[j]? := fun j => set_at (by omega)
        have k13 : Frm (· = ib) w1 w3 := k2.trans k3 fun _ h _ => h
        have hm0 : ps[m].1 ∈ ks := by rw [hps]; exact List.mem_map.2 ⟨_, List.getElem_mem h0, rfl⟩
        have hks0 : ks[m]? = some ps[m].1 := by rw [hps, List.getElem?_map, List.getElem?_eq_getElem h0]; rfl
        have off1 := off_Q b1
        rw [hcv] at hr0
        have hst3 : Stk w3 ((c1.setIfInBounds (1 + (up.length + 1) * 2) (.iface uc pc)).setIfInBounds 65 (.int .i64 ((up.length + 1 : Nat) : Int))) (d + 1 + 1) up := (st1.off off1 k13).cells fun j hj => by rw [g3, if_neg (by omega), g2, if_neg (by omega)]
        have hlow : Low w3 ib mb d ((c1.setIfInBounds (1 + (up.length + 1) * 2) (.iface uc pc)).setIfInBounds 65 (.int .i64 ((up.length + 1 : Nat) : Int))) ps[m].1 (.iface uc pc) (⟨.br ks, .iface 262 (ptr b), m⟩ :: up) := by
          refine ⟨by simpa using b3, by simp [z2'], ?_, ?_, ?_, hr0.off off1 k13, e3 _ hm0, ⟨?_, ?_, r1'.off off1 k13, k4, hst3⟩, ⟨k4, ⟨ks, rfl, hks0⟩, hab⟩, by simp only [List.length_cons]; omega⟩
          · rw [g3, if_neg (by omega), g2, if_neg (by omega)]; exact m1
          · rw [g3, if_pos rfl]; rfl
          · rw [g3, if_neg (by simp only [List.length_cons]; omega), g2, if_pos (by simp only [List.length_cons])]
          · rw [g3, if_neg (by omega), g2, if_neg (by omega)]; exact n1
          · rw [g3, if_neg (by omega), g2, if_neg (by omega)]; exact i1
        have hne : 0 < (toL d ps[m].1).length := List.length_pos_iff.2 (toL_ne d _ (e3 _ hm0))
        refine last_ok hlow fun w4 k4' hat => ?_
        have hf4 : Frm (· = ib) w w4 := (hf1.trans k13 fun _ h _ => h).trans k4' fun _ h _ => h
        rw [frame_eq hks0, ← hL] at hat
        have hbw : (bw (d + 1 + 1) (fms up)).length + ((ks.take ri).flatMap (toL d)).length = q := by
          rw [← hq, bw_cons, List.length_append]
        have htk : ks.take ri = ks.take m ++ [ps[m].1] := by
          rw [show ri = m + 1 from by omega, List.take_add_one, hks0]; rfl
        rw [htk, List.flatMap_append, List.length_append, List.flatMap_cons, List.flatMap_nil, List.append_nil] at hbw
        have hpos : (bw (d + 1) (fms (⟨.br ks, .iface 262 (ptr b), m⟩ :: up))).length + (toL d ps[m].1).length - 1 = q - 1 := by
          rw [bw_cons, List.length_append]; omega
        rw [hpos] at hat
        refine hK w4 hf4 ?_
        rw [if_pos (by omega)]
        exact hat
      · refine op_store_ok (by kernel_rfl) h1.hb (by omega) rfl fun w1 p1 z1 b1 => ?_
        refine hpop w1 (Frm.dr p1) b1 ?_
        rw [bw_cons, show ri = 0 from by omega]; simp
  · simp [-getElem?_pos, -Array.getElem?_eq_getElem, -Int.natCast_add, -op_st_3, -op_st_188, ptr, h1, h4]
    refine hK wl hf ?_
    rw [if_neg (by omega)]
    exact ⟨cs, h1, h2, h3, h4⟩
end Go.Proofs.YtodjijfblgnfmaaGreatDoor.T
end
section
namespace Go.Proofs.YtodjijfblgnfmaaGreatDoor.T
open Go.Vc Go.Proofs Go.Proofs.YtodjijfblgnfmaaGreatDoor Go.Vc.Bt
variable {w w' : World} {v cv : Value} {K : KV} {Kp : KP} {lt : Ky → Ky → Bool} {ib mb p : Nat} {L : List (Ky × Vl)} {cs : Array Value} {r : Root Ky Vl} {n : Nat}
theorem done_ok {q : Option Nat} (h : At w ib mb L q) (hK : K (.bool q.isNone) w) : Calls Tryz.prog 73 #[ptr ib] w (ret K Kp) := by
  refine vc73_calls ?_
  delta vc73
  match q, h with
  | none, ⟨cs, h1, h2, h3, h4⟩ =>
    simp [-getElem?_pos, -Array.getElem?_eq_getElem, -Int.natCast_add, -op_st_3, -op_st_195, ptr, h1, h4]
    exact hK
  | some q, ⟨cs, es, v, up, j, h1, h2⟩ =>
    have hne : ¬ ((up.length : Int) = -1) := by omega
    simp [-getElem?_pos, -Array.getElem?_eq_getElem, -Int.natCast_add, -op_st_3, -op_st_195, ptr, h1.hb, h1.dep, hne]
    exact hK
def It (w : World) (ib mb : Nat) : Prop := ∃ cs, w.heap[ib]? = some (.cells cs 198 (0, 0)) ∧ cs.size = 66 ∧ cs[0]? = some (ptr mb)
theorem At.it {q : Option Nat} (h : At w ib mb L q) : It w ib mb := by
  match q, h with
  | none, ⟨cs, h1, h2, h3, h4⟩ => exact ⟨cs, h1, h2, h3⟩
  | some q, ⟨cs, es, v, up, j, h1, h2⟩ => exact ⟨cs, h1.hb, h1.sz, h1.m⟩
theorem high {h : Nat} (h1 : 16 ^ h ≤ n + 1) (h2 : n < 2 ^ 60) : h ≤ 31 := by
  refine Classical.byContradiction fun hn => ?_
  have : 16 ^ 32 ≤ 16 ^ h := Nat.pow_le_pow_right (by decide) (by omega)
  have e : (16 : Nat) ^ 32 = 340282366920938463463374607431768211456 := by decide
  omega
theorem itFirst_ok (hi : It w ib mb) (hm : RepM w mb lt r) (hok : Ok lt n r) (hn : n < 2 ^ 60)
    (hK : ∀ w', Frm (· = ib) w w' → At w' ib mb (rL r) (if (rL r).length = 0 then none else some 0) → K (.tuple #[]) w') : Calls Tryz.prog 129 #[ptr ib] w (ret K Kp) := by
  refine vc129_calls ?_
  delta vc129
  obtain ⟨cs, h1, h2, h3⟩ := hi
  obtain ⟨rv, cv, m1, m2, m3⟩ := hm
  have hoff := off_Q h1
  match r, m2, hok with
  | none, m2, _ =>
    obtain rfl : rv = .nilIface := m2
    simp [-getElem?_pos, -Array.getElem?_eq_getElem, -Int.natCast_add, -op_st_3, -op_st_195, ptr, h1, h3, m1]
    refine op_store_ok (by kernel_rfl) h1 (by omega) rfl fun w1 k1 z1 b1 => ?_
    refine hK w1 k1 ⟨_, b1, by simp [h2], ?_, ?_⟩
    · rw [set_at (by omega), if_neg (by omega)]; exact h3
    · rw [set_at (by omega), if_pos rfl]
  | some (h, t), m2, hok =>
    obtain ⟨o1, o2, o3, o4⟩ := hok
    have hr : Rep w h t rv := m2
    obtain ⟨u, p, rfl⟩ := hr.iface
    have hh := high o4 hn
    simp [-getElem?_pos, -Array.getElem?_eq_getElem, -Int.natCast_add, -op_st_3, -op_st_195, ptr, h1, h3, m1]
    refine op_storeN_ok (n := 2) (by kernel_rfl) h1 rfl (by omega) (fun u hu => ?_) fun w2 k2 z2 b2 => ?_
    · simp only [List.mem_toArray, List.mem_cons, List.not_mem_nil, or_false] at hu
      rcases hu with rfl | rfl <;> rfl
    · have k2 := Frm.dr k2
      have g2 : ∀ j, (ow cs 1 [Value.iface u p, .int .i64 0])[j]? = if 1 ≤ j ∧ j < 1 + 2 then [Value.iface u p, .int .i64 0][j - 1]? else cs[j]? := fun j => ow_get (by simp; omega)
      refine op_store_ok (by kernel_rfl) b2 (by rw [ow_size]; omega) rfl fun w3 k3 z3 b3 => ?_
      have g3 : ∀ j, ((ow cs 1 [Value.iface u p, .int .i64 0]).setIfInBounds 65 (.int .i64 0))[j]? = if 65 = j then some (.int .i64 0) else (ow cs 1 [Value.iface u p, .int .i64 0])[j]? := fun j => set_at (by rw [ow_size]; omega)
      have k13 : Frm (· = ib) w w3 := k2.trans k3 fun _ h _ => h
      have hlow : Low w3 ib mb h ((ow cs 1 [Value.iface u p, .int .i64 0]).setIfInBounds 65 (.int .i64 0)) t (.iface u p) [] :=
        ⟨b3, by simp [ow_size, h2], by rw [g3, if_neg (by omega), g2, if_neg (by omega)]; exact h3, by rw [g3, if_pos rfl]; rfl, by rw [g3, if_neg (by simp), g2, if_pos (by simp)]; rfl, hr.off hoff k13, o1, trivial, trivial, by simpa using hh⟩
      have hne : 0 < (toL h t).length := List.length_pos_iff.2 (toL_ne h t o1)
      refine first_ok hlow fun w4 k4 hat => ?_
      refine hK w4 (k13.trans k4 fun _ h _ => h) ?_
      rw [if_neg (by show ¬ (toL h t).length = 0; omega)]
      have e1 : bw (h + 1) (fms []) ++ (toL h t ++ fw (h + 1) (fms [])) = rL (some (h, t)) := by
        show [] ++ (toL h t ++ []) = toL h t
        simp
      rw [e1] at hat
      exact hat
theorem itLast_ok (hi : It w ib mb) (hm : RepM w mb lt r) (hok : Ok lt n r) (hn : n < 2 ^ 60)
    (hK : ∀ w', Frm (· = ib) w w' → At w' ib mb (rL r) (if (rL r).length = 0 then none else some ((rL r).length - 1)) → K (.tuple #[]) w') : Calls Tryz.prog 72 #[ptr ib] w (ret K Kp) := by
  refine vc72_calls ?_
  delta vc72
  obtain ⟨cs, h1, h2, h3⟩ := hi
  obtain ⟨rv, cv, m1, m2, m3⟩ := hm
  have hoff := off_Q h1
  match r, m2, hok with
  | none, m2, _ =>
    obtain rfl : rv = .nilIface := m2
    simp [-getElem?_pos, -Array.getElem?_eq_getElem, -Int.natCast_add, -op_st_3, -op_st_195, ptr, h1, h3, m1]
    refine op_store_ok (by kernel_rfl) h1 (by omega) rfl fun w1 k1 z1 b1 => ?_
    refine hK w1 k1 ⟨_, b1, by simp [h2], ?_, ?_⟩
    · rw [set_at (by omega), if_neg (by omega)]; exact h3
    · rw [set_at (by omega), if_pos rfl]
  | some (h, t), m2, hok =>
    obtain ⟨o1, o2, o3, o4⟩ := hok
    have hr : Rep w h t rv := m2
    obtain ⟨u, p, rfl⟩ := hr.iface
    have hh := high o4 hn
    simp [-getElem?_pos, -Array.getElem?_eq_getElem, -Int.natCast_add, -op_st_3, -op_st_195, ptr, h1, h3, m1]
    refine op_storeN_ok (n := 2) (by kernel_rfl) h1 rfl (by omega) (fun u hu => ?_) fun w2 k2 z2 b2 => ?_
    · simp only [List.mem_toArray, List.mem_cons, List.not_mem_nil, or_false] at hu
      rcases hu with rfl | rfl <;> rfl
    · have k2 := Frm.dr k2
      have g2 : ∀ j, (ow cs 1 [Value.iface u p, .int .i64 0])[j]? = if 1 ≤ j ∧ j < 1 + 2 then [Value.iface u p, .int .i64 0][j - 1]? else cs[j]? := fun j => ow_get (by simp; omega)
      refine op_store_ok (by kernel_rfl) b2 (by rw [ow_size]; omega) rfl fun w3 k3 z3 b3 => ?_
      have g3 : ∀ j, ((ow cs 1 [Value.iface u p, .int .i64 0]).setIfInBounds 65 (.int .i64 0))[j]? = if 65 = j then some (.int .i64 0) else (ow cs 1 [Value.iface u p, .int .i64 0])[j]? := fun j => set_at (by rw [ow_size]; omega)
      have k13 : Frm (· = ib) w w3 := k2.trans k3 fun _ h _ => h
      have hlow : Low w3 ib mb h ((ow cs 1 [Value.iface u p, .int .i64 0]).setIfInBounds 65 (.int .i64 0)) t (.iface u p) [] :=
        ⟨b3, by simp [ow_size, h2], by rw [g3, if_neg (by omega), g2, if_neg (by omega)]; exact h3, by rw [g3, if_pos rfl]; rfl, by rw [g3, if_neg (by simp), g2, if_pos (by simp)]; rfl, hr.off hoff k13, o1, trivial, trivial, by simpa using hh⟩
      have hne : 0 < (toL h t).length := List.length_pos_iff.2 (toL_ne h t o1)
      refine last_ok hlow fun w4 k4 hat => ?_
      refine hK w4 (k13.trans k4 fun _ h _ => h) ?_
      rw [if_neg (by show ¬ (toL h t).length = 0; omega)]
      have e1 : bw (h + 1) (fms []) ++ (toL h t ++ fw (h + 1) (fms [])) = rL (some (h, t)) := by
        show [] ++ (toL h t ++ []) = toL h t
        simp
      rw [e1, show (bw (h + 1) (fms ([] : List Fr))).length + (toL h t).length - 1 = (toL h t).length - 1 from by show 0 + _ - 1 = _; rw [Nat.zero_add]] at hat
      exact hat
end Go.Proofs.YtodjijfblgnfmaaGreatDoor.T
end
section
namespace Go.Proofs.YtodjijfblgnfmaaGreatDoor.T
open Go.Vc Go.Proofs Go.Proofs.YtodjijfblgnfmaaGreatDoor Go.Vc.Bt
variable {w w' : World} {v : Value} {K : KV} {Kp : KP} {lt : Ky → Ky → Bool} {ib mb : Nat} {L : List (Ky × Vl)} {cs : Array Value} {r : Root Ky Vl} {n : Nat}
theorem itNext_ok {q : Nat} (h : At w ib mb L (some q)) (hK : ∀ w', Frm (· = ib) w w' → ∀ e, L[q]? = some e → At w' ib mb L (if q + 1 < L.length then some (q + 1) else none) → K (.tuple #[ek e.1, ev e.2, .bool true]) w') : Calls Tryz.prog 132 #[ptr ib] w (ret K Kp) := by
  refine vc132_calls ?_
  simp only [vc132, call_73, call_175]
  refine done_ok h ?_
  have h' := h
  obtain ⟨cs, es, v, up, j, h1, h2, h3, h4, h5⟩ := h
  have hr := h1.rep
  obtain ⟨b, g, o, c, rfl, hb, hg⟩ := hr
  obtain ⟨cur, hcur, hk⟩ := leafVal hg
  have hkj := hk j h3
  have hu := h1.len
  simp [-getElem?_pos, -Array.getElem?_eq_getElem, -Int.natCast_add, -op_st_3, -op_st_188, -op_st_195, ptr, h1.hb, h1.dep, h1.node, h2, hb, hcur, hkj]
  refine ⟨by omega, h3, ?_⟩
  have f3 : Frm (fun _ => False) w w.drew.drew.drew := ((Frm.drew _).no (Frm.drew _)).no (Frm.drew _)
  refine next_ok (h'.still f3) fun w' hf hat => ?_
  refine hK w' (f3.fst hf) es[j] ?_ hat
  have e : (es ++ fw 1 (fms up))[j]? = some es[j] := by rw [List.getElem?_append_left h3, List.getElem?_eq_getElem h3]
  rw [h4, h5, List.getElem?_append_right (by omega), Nat.add_sub_cancel_left]; exact e
theorem itPrev_ok {q : Nat} (h : At w ib mb L (some q)) (hK : ∀ w', Frm (· = ib) w w' → ∀ e, L[q]? = some e → At w' ib mb L (if 0 < q then some (q - 1) else none) → K (.tuple #[ek e.1, ev e.2, .bool true]) w') : Calls Tryz.prog 74 #[ptr ib] w (ret K Kp) := by
  refine vc74_calls ?_
  simp only [vc74, call_73, call_144]
  refine done_ok h ?_
  have h' := h
  obtain ⟨cs, es, v, up, j, h1, h2, h3, h4, h5⟩ := h
  have hr := h1.rep
  obtain ⟨b, g, o, c, rfl, hb, hg⟩ := hr
  obtain ⟨cur, hcur, hk⟩ := leafVal hg
  have hkj := hk j h3
  have hu := h1.len
  simp [-getElem?_pos, -Array.getElem?_eq_getElem, -Int.natCast_add, -op_st_3, -op_st_188, -op_st_195, ptr, h1.hb, h1.dep, h1.node, h2, hb, hcur, hkj]
  refine ⟨by omega, h3, ?_⟩
  have f3 : Frm (fun _ => False) w w.drew.drew.drew := ((Frm.drew _).no (Frm.drew _)).no (Frm.drew _)
  refine prev_ok (h'.still f3) fun w' hf hat => ?_
  refine hK w' (f3.fst hf) es[j] ?_ hat
  have e : (es ++ fw 1 (fms up))[j]? = some es[j] := by rw [List.getElem?_append_left h3, List.getElem?_eq_getElem h3]
  rw [h4, h5, List.getElem?_append_right (by omega), Nat.add_sub_cancel_left]; exact e
theorem iter_ok (hm : RepM w mb lt r) (hok : Ok lt n r) (hn : n < 2 ^ 60)
    (hK : ∀ w' ib, Frm (fun _ => False) w w' → w.heap.size ≤ ib → At w' ib mb (rL r) (if (rL r).length = 0 then none else some 0) → K (ptr ib) w') : Calls Tryz.prog 70 #[ptr mb] w (ret K Kp) := by
  refine vc70_calls ?_
  simp only [vc70, call_129]
  rw [op_build_198_0 (x0 := ptr mb) rfl]
  refine op_box_ok fun w1 k1 z1 b1 => ?_
  simp only [cells_agg] at b1
  refine itFirst_ok ⟨_, b1, rfl, rfl⟩ (hm.still k1) hok hn fun w2 k2 hat => ?_
  exact hK w2 _ (k1.old k2 fun b hb => .inr (by omega)) (Nat.le_refl _) hat
end Go.Proofs.YtodjijfblgnfmaaGreatDoor.T
end
section
namespace Go.Proofs.YtodjijfblgnfmaaGreatDoor.T
open Go.Vc Go.Proofs Go.Proofs.YtodjijfblgnfmaaGreatDoor Go.Vc.Bt
variable {w w' : World} {K : KV} {Kp : KP} {kn : Nat} {n : Int}
def kdV : Value := .agg #[.func (.func 75) #[] #[], .func (.func 76) #[] #[], .func (.func 78) #[] #[]]
def tk (s : ByteArray) : Ky := if h : s.size ≤ 1000 then ⟨s, h⟩ else ⟨⟨#[]⟩, by decide⟩
theorem tk_val {s : ByteArray} (h : s.size ≤ 1000) : (tk s).1 = s := by unfold tk; rw [dif_pos h]
def kd : Kd Ky := ⟨fun _ s => tk s, fun s i => tk (s.text ++ decI (IntKind.i64.wrap (s.key + IntKind.i64.wrap ((i : Int) * s.by')))), fun k v => ⟨0, k.1, v⟩⟩
theorem key_ok {s : ByteArray} (hs : s.size ≤ 100) (hK : K (ek (kd.key n s)) w) :
    Calls Tryz.prog 75 #[.int .i64 n, .string s] w (ret K Kp) := by
  refine vc75_calls ?_
  show K (.string s) w
  rw [show (Value.string s) = ek (kd.key n s) from by show _ = Value.string (tk s).1; rw [tk_val (by omega)]]
  exact hK
theorem pair_ok {k : Ky} {v : Vl} (hK : ∀ w', Frm (fun _ => False) w w' → K (.agg (kd.pair k v).cells.toArray) w') :
    Calls Tryz.prog 78 #[ek k, ev v] w (ret K Kp) := by
  refine vc78_calls ?_
  delta vc78
  refine op_alloc_ok (z := .agg #[.int .i64 0, .string ByteArray.empty, .int .i64 0]) (by kernel_rfl) fun w1 k1 z1 b1 => ?_
  simp only [cells_agg] at b1
  rw [op_build_49_1_2 (x1 := ek k) (x2 := ev v) rfl rfl]
  refine op_storeN_ok (n := 3) (by kernel_rfl) b1 rfl (by decide) (fun u hu => ?_) fun w2 k2 z2 b2 => ?_
  · simp only [List.mem_toArray, List.mem_cons, List.not_mem_nil, or_false] at hu
    rcases hu with rfl | rfl | rfl <;> rfl
  rw [ow_all (by simp)] at b2
  have := hK w2 (k1.old k2 fun c hc => .inr (by omega))
  simp [-getElem?_pos, -Array.getElem?_eq_getElem, -Int.natCast_add, -op_alloc_49, -op_st_49, -op_alloc_88, -op_st_88, b2]
  exact this
def ManyOk (w0 : World) : Prop := ∀ {s : SSt} {i : Nat} {w : World} {K : KV} {Kp : KP}, s.text.size ≤ 100 → Frm (fun _ => False) w0 w → (∀ w', Frm (fun _ => False) w w' → K (ek (kd.many s i)) w') →
  Calls Tryz.prog 76 #[.agg s.cells.toArray, .int .i64 i] w (ret K Kp)
theorem keys_ok (hK : ∀ w', Frm (fun _ => False) w w' → K kdV w') :
    Calls Tryz.prog 40 #[] w (ret K Kp) := by
  refine vc40_calls ?_
  delta vc40
  refine op_alloc_ok (z := .agg #[.nilFunc, .nilFunc, .nilFunc]) (by kernel_rfl) fun w1 k1 z1 b1 => ?_
  simp only [cells_agg] at b1
  rw [op_build_88_0_1_2 rfl rfl rfl]
  refine op_storeN_ok (n := 3) (by kernel_rfl) b1 rfl (by decide) (fun u hu => ?_) fun w2 k2 z2 b2 => ?_
  · simp only [List.mem_toArray, List.mem_cons, List.not_mem_nil, or_false] at hu
    rcases hu with rfl | rfl | rfl <;> rfl
  rw [ow_all (by simp)] at b2
  have := hK w2 (k1.old k2 fun c hc => .inr (by omega))
  simp [-getElem?_pos, -Array.getElem?_eq_getElem, -Int.natCast_add, -op_alloc_49, -op_st_49, -op_alloc_88, -op_st_88, b2]
  exact this
def orderV (kn : Nat) (n : Int) : Value := .agg #[.int .u8 kn, .int .i64 n]
theorem comparer_ok (h1 : -9223372036854775808 ≤ n) (h2 : n ≤ 9223372036854775807) (hK : ∀ cv w', Frm (fun _ => False) w w' → CmpOk cv (ordI kn n) none → K cv w') :
    Calls Tryz.prog 41 #[orderV kn n] w (ret K Kp) := by
  refine vc41_calls ?_
  delta vc41 orderV
  refine op_box_ok fun w1 k1 z1 b1 => ?_
  simp only [cells_agg] at b1
  have hx : (#[.int .u8 kn, .int .i64 n] : Array Value).extract 0 2 = #[.int .u8 kn, .int .i64 n] := rfl
  simp [-getElem?_pos, -Array.getElem?_eq_getElem, -Int.natCast_add, -op_alloc_49, -op_st_49, -op_alloc_88, -op_st_88, b1, hx]
  refine ⟨fun h => ?_, fun h => ?_⟩
  · have h : kn = 0 := by omega
    subst h
    have e : ordI 0 n = ordI 0 0 := by
      rfl
    exact hK .nilIface w1 k1 (.inr ⟨rfl, by rw [e]; exact dflt_ok, rfl⟩)
  · exact hK (cmpV kn n) w1 k1 (.inl (cmpV_ok h1 h2))
theorem at_ok {m : Nat} (h0 : 0 < m) (hm : m < 2 ^ 31) (hK : K (.int .i64 ((n % (m : Int)).toNat : Nat)) w) : Calls Tryz.prog 65 #[.int .i64 n, .int .i64 m] w (ret K Kp) := by
  refine vc65_calls ?_
  delta vc65
  obtain ⟨t1, t2, t3⟩ := tmod_pos (a := n) (m := (m : Int)) (by omega)
  have hp := Int.emod_nonneg n (b := (m : Int)) (by omega)
  have e : (((n % (m : Int)).toNat : Nat) : Int) = n % (m : Int) := by omega
  rw [e] at hK
  simp [-getElem?_pos, -Array.getElem?_eq_getElem, -Int.natCast_add, -op_alloc_49, -op_st_49, -op_alloc_88, -op_st_88]
  refine ⟨by omega, fun h => ?_, fun h => ?_⟩
  · rw [if_pos h] at t3
    rw [show IntKind.i64.wrap (n.tmod m + m) = n % (m : Int) from by rw [IntKind.wrap_i64]; omega]
    exact hK
  · rw [if_neg (by omega)] at t3
    rw [← t3]; exact hK
end Go.Proofs.YtodjijfblgnfmaaGreatDoor.T
end
section
namespace Go.Proofs.YtodjijfblgnfmaaGreatDoor
open Go.Vc Go.Proofs
variable {S : Sig} {a0 a1 a2 a3 a4 a5 a6 a7 a8 a9 : Value} {w : World} {K : KV} {Kp : KP}
private theorem follows_BVcKT : Tryz.prog.follows .mixedOrders = true := by kernel_rfl
def vc69 (S : Sig) (a0 a1 : Value) (w : World) (K : KV) (Kp : KP) : Prop :=
 S.op (.box 88 a0) w (fun v2 w =>
 Lp fun (I2 : KV) (μ2 : Value → World → Nat) => I2 (.slice none 0 0) w ∧
 ∀ (wl2 : World) (_ : Nat → Value) (s5 : Value), I2 s5 wl2 →
 S.call (.fn 73) [a1] wl2 (fun v10 w =>
 S.op (.un .not v10) w (fun v11 w =>
 Br v11 (
 S.call (.fn 132) [a1] w (fun v14 w =>
 S.op (.extract v14 0) w (fun v15 w =>
 S.op (.extract v14 1) w (fun v16 w =>
 S.op (.extract v14 2) w (fun v17 w =>
 S.op (.fieldAddr 88 v2 2) w (fun v19 w =>
 S.op (.load 86 v19) w (fun v20 w =>
 S.call (.val v20) [v15, v16] w (fun v23 w =>
 S.op (.buildSlice 46 1 [(0, v23)]) w (fun v24 w =>
 S.op (.blt .append [46, 46] 46 [s5, v24]) w (fun v25 w =>
 I2 v25 w ∧ μ2 v25 w < μ2 s5 wl2) Kp) Kp) Kp) Kp) Kp) Kp) Kp) Kp) Kp) (
 K s5 w)) Kp) Kp) Kp
theorem vc69_eq : vc69 S a0 a1 w K Kp = fVC S [(2, [5])] [] Tryz.f69 [a0, a1] w K Kp := by kernel_rfl
theorem vc69_calls (h : vc69 nP a0 a1 w K Kp) : Calls Tryz.prog 69 #[a0, a1] w (ret K Kp) :=
 fVC_sound (args := [a0, a1]) nice_le follows_BVcKT Tryz.func69 (by kernel_rfl) (Eq.mp vc69_eq h)
def vc39 (S : Sig) (a0 a1 a2 : Value) (w : World) (K : KV) (Kp : KP) : Prop :=
 S.op (.box 88 a0) w (fun v3 w =>
 S.call (.fn 64) [a1] w (fun v20 w =>
 S.op (.buildSlice 120 1 [(0, v20)]) w (fun v21 w =>
 S.op (.blt .len [32] 3 [a2]) w (fun v23 w =>
 Lp fun (I4 : Value → Value → KV) (μ4 : Value → Value → Value → World → Nat) => I4 v21 (.slice none 0 0) (.int .i64 0) w ∧
 ∀ (wl4 : World) (_ : Nat → Value) (s7 : Value) (s8 : Value) (s24 : Value), I4 s7 s8 s24 wl4 →
 S.op (.bin .lss 3 false false s24 v23) wl4 (fun v25 w =>
 Br v25 (
 S.op (.indexAddr 32 a2 s24) w (fun v26 w =>
 S.op (.load 54 v26) w (fun v27 w =>
 S.op (.alloc 54) w (fun v10 w =>
 S.op (.store 54 v10 v27) w (fun _ w =>
 S.op (.fieldAddr 54 v10 1) w (fun v29 w =>
 S.op (.load 3 v29) w (fun v30 w =>
 S.op (.blt .len [120] 3 [s7]) w (fun v32 w =>
 S.call (.fn 65) [v30, v32] w (fun v33 w =>
 S.op (.indexAddr 120 s7 v33) w (fun v34 w =>
 S.op (.load 118 v34) w (fun v35 w =>
 S.op (.alloc 56) w (fun v12 w =>
 Jn fun (J34 : KV) =>
 (S.op (.fieldAddr 54 v10 0) w (fun v36 w =>
 S.op (.load 5 v36) w (fun v37 w =>
 S.op (.bin .eql 5 false true v37 (.int .u8 0)) w (fun v39 w =>
 Br v39 (
 S.pur (.fieldAddr 88 v3 0) (fun v41 =>
 S.ld (.load 84 v41) w.drew (fun v42 =>
 S.pur (.fieldAddr 54 v10 2) (fun v43 =>
 S.ld (.load 2 v43) w.drew (fun v44 =>
 S.pur (.fieldAddr 54 v10 3) (fun v45 =>
 S.ld (.load 9 v45) w.drew (fun v46 =>
 S.pur (.fieldAddr 54 v10 4) (fun v48 =>
 S.ld (.load 2 v48) w.drew (fun v49 =>
 S.call (.val v42) [v44, v46] w.drew (fun v47 w =>
 S.same (.load 2 v48) v49 w ∧
 S.call (.fn 66) [v35, v47, v49] w (fun v50 w =>
 J34 v50 w) Kp) Kp))))))))) (
 S.op (.bin .eql 5 false true v37 (.int .u8 1)) w (fun v52 w =>
 Br v52 (
 S.op (.fieldAddr 88 v3 0) w (fun v54 w =>
 S.op (.load 84 v54) w (fun v55 w =>
 S.op (.fieldAddr 54 v10 2) w (fun v56 w =>
 S.op (.load 2 v56) w (fun v57 w =>
 S.op (.fieldAddr 54 v10 3) w (fun v58 w =>
 S.op (.load 9 v58) w (fun v59 w =>
 S.call (.val v55) [v57, v59] w (fun v60 w =>
 S.call (.fn 67) [v35, v60] w (fun v61 w =>
 J34 v61 w) Kp) Kp) Kp) Kp) Kp) Kp) Kp) Kp) (
 S.op (.bin .eql 5 false true v37 (.int .u8 2)) w (fun v63 w =>
 Br v63 (
 S.op (.fieldAddr 88 v3 0) w (fun v66 w =>
 S.op (.load 84 v66) w (fun v67 w =>
 S.op (.fieldAddr 54 v10 2) w (fun v68 w =>
 S.op (.load 2 v68) w (fun v69 w =>
 S.op (.fieldAddr 54 v10 3) w (fun v70 w =>
 S.op (.load 9 v70) w (fun v71 w =>
 S.call (.val v67) [v69, v71] w (fun v72 w =>
 S.call (.fn 68) [v35, v72] w (fun v73 w =>
 S.op (.extract v73 0) w (fun v74 w =>
 S.op (.extract v73 1) w (fun v75 w =>
 S.op (.fieldAddr 56 v12 0) w (fun v76 w =>
 S.op (.store 2 v76 v74) w (fun _ w =>
 S.op (.fieldAddr 56 v12 2) w (fun v77 w =>
 S.op (.store 4 v77 v75) w (fun _ w =>
 J34 v35 w) Kp) Kp) Kp) Kp) Kp) Kp) Kp) Kp) Kp) Kp) Kp) Kp) Kp) Kp) (
 S.op (.bin .eql 5 false true v37 (.int .u8 3)) w (fun v79 w =>
 Br v79 (
 S.ld (.load 88 v3) w.drew (fun v80 =>
 S.call (.fn 70) [v35] w.drew (fun v82 w =>
 S.same (.load 88 v3) v80 w ∧
 S.call (.fn 69) [v80, v82] w (fun v83 w =>
 S.pur (.fieldAddr 56 v12 3) (fun v86 =>
 S.call (.fn 71) [v35] w (fun v85 w =>
 S.op (.store 46 v86 v83) w (fun _ w =>
 S.pur (.fieldAddr 56 v12 1) (fun v87 =>
 S.op (.store 3 v87 v85) w (fun _ w =>
 J34 v35 w) Kp)) Kp) Kp)) Kp) Kp)) (
 S.op (.bin .eql 5 false true v37 (.int .u8 4)) w (fun v89 w =>
 Br v89 (
 S.call (.fn 71) [v35] w (fun v91 w =>
 S.op (.fieldAddr 56 v12 1) w (fun v92 w =>
 S.op (.store 3 v92 v91) w (fun _ w =>
 S.call (.fn 70) [v35] w (fun v94 w =>
 S.call (.fn 72) [v94] w (fun v96 w =>
 Lp fun (I21 : World → Prop) (μ21 : World → Nat) => I21 w ∧
 ∀ (wl21 : World) (_ : Nat → Value), I21 wl21 →
 S.call (.fn 73) [v94] wl21 (fun v98 w =>
 S.op (.un .not v98) w (fun v99 w =>
 Br v99 (
 S.call (.fn 74) [v94] w (fun v102 w =>
 S.op (.extract v102 0) w (fun v103 w =>
 S.op (.extract v102 1) w (fun v104 w =>
 S.op (.extract v102 2) w (fun v105 w =>
 S.pur (.fieldAddr 56 v12 3) (fun v106 =>
 S.ld (.load 46 v106) w.drew (fun v107 =>
 S.pur (.fieldAddr 88 v3 2) (fun v108 =>
 S.ld (.load 86 v108) w.drew (fun v109 =>
 S.call (.val v109) [v103, v104] w.drew (fun v112 w =>
 S.same (.load 46 v106) v107 w ∧
 S.op (.buildSlice 46 1 [(0, v112)]) w (fun v113 w =>
 S.same (.load 46 v106) v107 w ∧
 S.op (.blt .append [46, 46] 46 [v107, v113]) w (fun v114 w =>
 S.pur (.fieldAddr 56 v12 3) (fun v115 =>
 S.op (.store 46 v115 v114) w (fun _ w =>
 I21 w ∧ μ21 w < μ21 wl21) Kp)) Kp) Kp) Kp))))) Kp) Kp) Kp) Kp) (
 J34 v35 w)) Kp) Kp) Kp) Kp) Kp) Kp) Kp) (
 S.op (.bin .eql 5 false true v37 (.int .u8 5)) w (fun v117 w =>
 Br v117 (
 Lp fun (I26 : Value → KV) (μ26 : Value → Value → World → Nat) => I26 v35 (.int .i64 0) w ∧
 ∀ (wl26 : World) (_ : Nat → Value) (s11 : Value) (s17 : Value), I26 s11 s17 wl26 →
 S.op (.fieldAddr 54 v10 5) wl26 (fun v119 w =>
 S.op (.load 3 v119) w (fun v120 w =>
 S.op (.bin .lss 3 false false s17 v120) w (fun v121 w =>
 Br v121 (
 S.pur (.fieldAddr 88 v3 1) (fun v125 =>
 S.ld (.load 85 v125) w.drew (fun v126 =>
 S.ld (.load 54 v10) w.drew (fun v127 =>
 S.pur (.fieldAddr 54 v10 4) (fun v130 =>
 S.ld (.load 2 v130) w.drew (fun v131 =>
 S.pur (.bin .add 2 false false v131 s17) (fun v133 =>
 S.call (.val v126) [v127, s17] w.drew (fun v129 w =>
 S.same (.load 2 v130) v131 w ∧
 S.call (.fn 66) [s11, v129, v133] w (fun v134 w =>
 S.op (.bin .add 3 false true s17 (.int .i64 1)) w (fun v123 w =>
 I26 v134 v123 w ∧ μ26 v134 v123 w < μ26 s11 s17 wl26) Kp) Kp) Kp))))))) (
 J34 s11 w)) Kp) Kp) Kp) (
 S.op (.bin .eql 5 false true v37 (.int .u8 6)) w (fun v136 w =>
 Br v136 (
 Lp fun (I31 : Value → KV) (μ31 : Value → Value → World → Nat) => I31 v35 (.int .i64 0) w ∧
 ∀ (wl31 : World) (_ : Nat → Value) (s11 : Value) (s18 : Value), I31 s11 s18 wl31 →
 S.op (.fieldAddr 54 v10 5) wl31 (fun v138 w =>
 S.op (.load 3 v138) w (fun v139 w =>
 S.op (.bin .lss 3 false false s18 v139) w (fun v140 w =>
 Br v140 (
 S.op (.fieldAddr 88 v3 1) w (fun v144 w =>
 S.op (.load 85 v144) w (fun v145 w =>
 S.op (.load 54 v10) w (fun v146 w =>
 S.call (.val v145) [v146, s18] w (fun v148 w =>
 S.call (.fn 67) [s11, v148] w (fun v149 w =>
 S.op (.bin .add 3 false true s18 (.int .i64 1)) w (fun v142 w =>
 I31 v149 v142 w ∧ μ31 v149 v142 w < μ31 s11 s18 wl31) Kp) Kp) Kp) Kp) Kp) Kp) (
 J34 s11 w)) Kp) Kp) Kp) (
 J34 v35 w)) Kp)) Kp)) Kp)) Kp)) Kp)) Kp)) Kp) Kp) Kp) ∧
 (∀ (w : World) (_ : Nat → Value) (j11 : Value), J34 j11 w →
 S.op (.fieldAddr 54 v10 0) w (fun v150 w =>
 S.op (.load 5 v150) w (fun v151 w =>
 Jn fun (J39 : KV) =>
 (S.op (.bin .eql 5 false true v151 (.int .u8 0)) w (fun v153 w =>
 Br v153 (
 J39 v153 w) (
 S.op (.bin .eql 5 false true v151 (.int .u8 1)) w (fun v154 w =>
 Br v154 (
 J39 v154 w) (
 S.op (.bin .eql 5 false true v151 (.int .u8 5)) w (fun v155 w =>
 Br v155 (
 J39 v155 w) (
 S.op (.bin .eql 5 false true v151 (.int .u8 6)) w (fun v156 w =>
 J39 v156 w) Kp)) Kp)) Kp)) Kp) ∧
 (∀ (w : World) (_ : Nat → Value) (j152 : Value), J39 j152 w →
 Br j152 (
 S.call (.fn 71) [j11] w (fun v158 w =>
 S.op (.fieldAddr 56 v12 1) w (fun v159 w =>
 S.op (.store 3 v159 v158) w (fun _ w =>
 S.op (.buildSlice 120 1 [(0, j11)]) w (fun v162 w =>
 S.op (.blt .append [120, 120] 120 [s7, v162]) w (fun v163 w =>
 S.op (.load 56 v12) w (fun v165 w =>
 S.op (.buildSlice 28 1 [(0, v165)]) w (fun v166 w =>
 S.op (.blt .append [28, 28] 28 [s8, v166]) w (fun v167 w =>
 S.op (.bin .add 3 false true s24 (.int .i64 1)) w (fun v168 w =>
 I4 v163 v167 v168 w ∧ μ4 v163 v167 v168 w < μ4 s7 s8 s24 wl4) Kp) Kp) Kp) Kp) Kp) Kp) Kp) Kp) Kp) (
 S.op (.load 56 v12) w (fun v165 w =>
 S.op (.buildSlice 28 1 [(0, v165)]) w (fun v166 w =>
 S.op (.blt .append [28, 28] 28 [s8, v166]) w (fun v167 w =>
 S.op (.bin .add 3 false true s24 (.int .i64 1)) w (fun v168 w =>
 I4 s7 v167 v168 w ∧ μ4 s7 v167 v168 w < μ4 s7 s8 s24 wl4) Kp) Kp) Kp) Kp))) Kp) Kp)) Kp) Kp) Kp) Kp) Kp) Kp) Kp) Kp) Kp) Kp) Kp) (
 K s8 w)) Kp) Kp) Kp) Kp) Kp
theorem vc39_eq : vc39 S a0 a1 a2 w K Kp = fVC S [(4, [7, 8, 24]), (21, []), (26, [11, 17]), (31, [11, 18])] [(34, [11]), (39, [152])] Tryz.f39 [a0, a1, a2] w K Kp := by kernel_rfl
theorem vc39_calls (h : vc39 nP a0 a1 a2 w K Kp) : Calls Tryz.prog 39 #[a0, a1, a2] w (ret K Kp) :=
 fVC_sound (args := [a0, a1, a2]) nice_le follows_BVcKT Tryz.func39 (by kernel_rfl) (Eq.mp vc39_eq h)
end Go.Proofs.YtodjijfblgnfmaaGreatDoor
end
section
namespace Go.Proofs.YtodjijfblgnfmaaGreatDoor.T
open Go.Vc Go.Proofs Go.Proofs.YtodjijfblgnfmaaGreatDoor Go.Vc.Bt
variable {w w' : World} {v cv : Value} {K : KV} {Kp : KP} {lt : Ky → Ky → Bool} {ib mb d p : Nat} {L : List (Ky × Vl)} {cs cs' : Array Value} {s : Tr} {r : Root Ky Vl} {n : Nat} {M : Nat → Prop}
def NoNode (w : World) (M : Nat → Prop) : Prop := ∀ c, M c → Off w c ∨ w.heap.size ≤ c
theorem NoNode.ne {b : Nat} {cs : Array Value} {e : TypeId} {fz : Nat × Nat} (h : NoNode w M) (hb : w.heap[b]? = some (.cells cs e fz)) (he : e = 206 ∨ e = 203 ∨ e = 267 ∨ e = 269) : ¬ M b := fun hm => by
  rcases h b hm with ⟨cs', e', fz', q1, q2, q3, q4, q5⟩ | h
  · rw [hb] at q1
    cases q1
    rcases he with he | he | he | he
    · exact q2 he
    · exact q3 he
    · exact q4 he
    · exact q5 he
  · have := lt_of_get hb; omega
theorem Rep.keep (ho : NoNode w M) (hf : Frm M w w') : ∀ {h : Nat} {t : Tr} {v : Value}, Rep w h t v → Rep w' h t v
  | 0, .leaf es, v, hr => by
    obtain ⟨b, g, o, c, h1, h2, h3⟩ := hr
    obtain ⟨cs', p1, p2⟩ := id h3
    exact ⟨b, g, o, c, h1, hf.get h2 (ho.ne h2 (.inl rfl)), h3.frame hf (ho.ne p1 (.inr (.inl rfl)))⟩
  | h + 1, .br ks, v, hr => by
    obtain ⟨b, g, o, c, ps, h1, h2, h3, h4, h5⟩ := hr
    have hrec := fun p hp => Rep.keep ho hf (h5 p hp)
    obtain ⟨cs', p1, p2⟩ := id h4
    exact ⟨b, g, o, c, ps, h1, hf.get h2 (ho.ne h2 (.inr (.inr (.inl rfl)))), h3, h4.frame hf (ho.ne p1 (.inr (.inr (.inr rfl)))), hrec⟩
  | 0, .br ks, v, hr => hr.elim
  | h + 1, .leaf es, v, hr => hr.elim
theorem RepR.keep (ho : NoNode w M) (hf : Frm M w w') (h : RepR w r v) : RepR w' r v := by
  match r, h with
  | none, h => exact h
  | some (h, t), hr => exact Rep.keep ho hf hr
theorem RepM.keep {b : Nat} (ho : NoNode w M) (hf : Frm M w w') (h : RepM w b lt r) (hb : ¬ M b) : RepM w' b lt r := by
  obtain ⟨rv, cv, h1, h2, h3⟩ := h
  exact ⟨rv, cv, hf.get h1 hb, h2.keep ho hf, h3⟩
theorem Stk.keep (ho : NoNode w M) (hf : Frm M w w') : ∀ {fs : List Fr} {d : Nat}, Stk w cs d fs → Stk w' cs d fs
  | [], _, _ => trivial
  | r :: fs, d, h => ⟨h.1, h.2.1, h.2.2.1.keep ho hf, h.2.2.2.1, Stk.keep ho hf h.2.2.2.2⟩
theorem At.keep {q : Option Nat} (ho : NoNode w M) (hf : Frm M w w') (h : At w ib mb L q) (hb : ¬ M ib) : At w' ib mb L q := by
  match q, h with
  | none, ⟨cs, h1, h2⟩ => exact ⟨cs, hf.get h1 hb, h2⟩
  | some p, ⟨cs, es, v, up, j, h1, h2⟩ => exact ⟨cs, es, v, up, j, ⟨hf.get h1.hb hb, h1.sz, h1.m, h1.dep, h1.node, h1.rep.keep ho hf, h1.wf, h1.stk.keep ho hf, h1.ab, h1.len⟩, h2⟩
theorem At.below {q : Option Nat} (h : At w ib mb L q) : ib < w.heap.size := by obtain ⟨cs, h1, _⟩ := h.it; exact lt_of_get h1
theorem rows_off {α : Type} {El : World → List Value → α → (Nat → Prop) → Prop} {base e s : Nat} {l : Value} {ys : List α} {G : Nat → Prop} (h : RowsOf El w base e s l ys G) (he : e ≠ 206 ∧ e ≠ 203 ∧ e ≠ 267 ∧ e ≠ 269) : NoNode w (fun b => some b = l.ownBlock) := fun c hc => by
  obtain ⟨⟨us, h1, h2, h3, h4⟩, _⟩ := h
  obtain ⟨h5, ⟨rfl, h6⟩ | ⟨g, cap, cur, rfl, k3, k4, k5⟩⟩ := h3
  · cases hc
  · have : c = g := Option.some.inj hc
    subst this
    exact .inl ⟨_, _, _, k4, he⟩
theorem apSP : apOf Tryz.prog 46 = some (49, 3, 32) := by kernel_rfl
theorem lit_sp (p : SPr) : sliceLit Tryz.prog 46 1 [(0, .agg p.cells.toArray)] = some (49, p.cells.toArray) := lit_46_1
def restOf (L : List (Ky × Vl)) : Option Nat → List (Ky × Vl)
  | none => []
  | some q => L.drop q
def nextOf (L : List (Ky × Vl)) (q : Nat) : Option Nat := if q + 1 < L.length then some (q + 1) else none
theorem restOf_next {q : Nat} {e : Ky × Vl} (h : L[q]? = some e) : restOf L (some q) = e :: restOf L (nextOf L q) := by
  obtain ⟨hq, rfl⟩ := List.getElem?_eq_some_iff.1 h
  unfold nextOf
  split
  · exact List.drop_eq_getElem_cons hq
  · show L.drop q = L[q] :: []
    rw [List.drop_eq_getElem_cons hq, List.drop_of_length_le (by omega)]
def prs (L : List (Ky × Vl)) : List SPr := L.map fun e => kd.pair e.1 e.2
theorem pairsOf_ok {q0 : Option Nat} (h : At w ib mb L q0) (hL : L.length < 2 ^ 31)
    (hK : ∀ pv w', Frm (· = ib) w w' → RowsOf (Flat SPr.cells) w' w.heap.size 49 3 pv (prs (restOf L q0)) (fun _ => False) → K pv w') :
    Calls Tryz.prog 69 #[kdV, ptr ib] w (ret K Kp) := by
  refine vc69_calls ?_
  delta vc69
  refine op_box_ok fun w1 k1 z1 b1 => ?_
  simp only [kdV, cells_agg] at b1
  have hib := h.below
  have n1 := k1.size
  obtain ⟨I, hI⟩ : ∃ I : KV, ∀ l wl, I l wl ↔ ∃ (q : Option Nat) (D : List (Ky × Vl)), D ++ restOf L q = restOf L q0 ∧ Frm (· = ib) w1 wl ∧ At wl ib mb L q ∧ (∀ x, q = some x → x < L.length) ∧
      RowsOf (Flat SPr.cells) wl w1.heap.size 49 3 l (prs D) (fun _ => False) := ⟨_, fun _ _ => Iff.rfl⟩
  refine Lp.intro I (fun l _ => L.length - (match l with | .slice _ n _ => n | _ => 0)) ⟨(hI _ _).2 ⟨q0, [], rfl, Frm.refl, h.still k1, fun x hx => ?_, rows_nil⟩, ?_⟩
  · subst hx
    obtain ⟨cs, es, v, up, j, h1, h2, h3, h4, h5⟩ := h
    rw [h4, h5]; simp; omega
  intro wl _ l hl
  obtain ⟨q, D, hD, kl, hA, hq, hR⟩ := (hI _ _).1 hl
  have nl := kl.size
  have bl := kl.get b1 (by omega)
  have hlow := hR.own_lt
  simp only [call_73]
  refine done_ok hA ?_
  match q, hA, hD, hq with
  | none, hA, hD, hq =>
    simp [-getElem?_pos, -Array.getElem?_eq_getElem, -Int.natCast_add, -op_lit_46_1]
    rw [show D = restOf L q0 from by rw [← hD]; simp [restOf]] at hR
    exact hK l wl (k1.fst kl) (hR.base_le n1)
  | some q, hA, hD, hq =>
    have hql := hq q rfl
    have hget : L[q]? = some L[q] := List.getElem?_eq_getElem hql
    simp [-getElem?_pos, -Array.getElem?_eq_getElem, -Int.natCast_add, -op_lit_46_1]
    refine itNext_ok hA fun w2 k2 e he hA2 => ?_
    have e2 : e = L[q] := Option.some.inj (he.symm.trans hget)
    subst e2
    have n2 := k2.size
    have b2 := k2.get bl (by omega)
    have hR2 := hR.frame (flat_ok _) k2 (fun _ h => h.elim) fun b hb he => by have := hlow b hb; omega
    simp [-getElem?_pos, -Array.getElem?_eq_getElem, -Int.natCast_add, -op_lit_46_1, b2, call_val (P := Tryz.prog) (x := #[]) (y := #[]) (f := 78) (by kernel_rfl)]
    refine pair_ok fun w3 k3 => ?_
    have hR3 := hR2.still (flat_ok _) k3
    have hA3 := hA2.still k3
    have hlen : (prs D).length = D.length := by simp [prs]
    have hDl : D.length + 1 ≤ L.length := by
      have := congrArg List.length hD
      rw [restOf_next hget] at this
      simp only [List.length_append, List.length_cons] at this
      have : (restOf L q0).length ≤ L.length := by cases q0 <;> simp [restOf]
      omega
    refine op_push (u := (kd.pair L[q].1 L[q].2).cells) (flat_ok SPr.cells) apSP (lit_sp _) rfl (SPr.one _) hR3 rfl (G2 := fun _ => False) (fun _ h => h.elim) (fun _ _ h => h) (by omega) (by have := k3.size; omega) fun l' w4 k4 hR4 ho4 => ?_
    have hlow3 := hR3.own_lt
    have hA4 : At w4 ib mb L (nextOf L q) := At.keep (rows_off hR3 (by decide)) k4 hA3 (fun he => by have := hlow3 ib he.symm; omega)
    refine ⟨(hI _ _).2 ⟨nextOf L q, D ++ [L[q]], ?_, ((kl.trans k2 fun _ h _ => h).trans k3 fun _ h _ => h.elim).old k4 fun c hc => .inr (hlow3 c hc.symm).1, hA4, fun x hx => ?_, ?_⟩, ?_⟩
    · rw [← hD, restOf_next hget, List.append_assoc]; rfl
    · unfold nextOf at hx; split at hx
      · cases hx; assumption
      · cases hx
    · rw [show prs (D ++ [L[q]]) = prs D ++ [kd.pair L[q].1 L[q].2] from by simp [prs]]
      exact hR4.mono (flat_ok _) (fun _ h => h.elim id fun h => h) (fun _ h => h.elim) fun _ _ h => h
    · obtain ⟨a0, c0, rfl, _⟩ := hR.slice
      obtain ⟨a1, c1, rfl, _⟩ := hR4.slice
      simp only [List.length_append, List.length_singleton, hlen]; omega
end Go.Proofs.YtodjijfblgnfmaaGreatDoor.T
end
section
namespace Go.Proofs.YtodjijfblgnfmaaGreatDoor.T
open Go.Vc Go.Proofs Go.Proofs.YtodjijfblgnfmaaGreatDoor Go.Vc.Bt
variable {w w' : World} {cv : Value} {K : KV} {Kp : KP} {lt : Ky → Ky → Bool} {k : Ky} {ib mb b : Nat} {L : List (Ky × Vl)} {cs : Array Value} {s : Tr} {r : Root Ky Vl} {N : Nat} {M : Nat → Prop}
def Quiet (w : World) (M : Nat → Prop) : Prop := ∀ c, M c → (∃ cs e fz, w.heap[c]? = some (.cells cs e fz) ∧ e ≠ 206 ∧ e ≠ 203 ∧ e ≠ 267 ∧ e ≠ 269 ∧ e ≠ 190) ∨ w.heap.size ≤ c
theorem Quiet.node (h : Quiet w M) : NoNode w M := fun c hc => (h c hc).imp (fun ⟨cs, e, fz, h1, h2, h3, h4, h5, h6⟩ => ⟨cs, e, fz, h1, h2, h3, h4, h5⟩) id
theorem RepM.quiet (h : RepM w b lt r) (hq : Quiet w M) (hf : Frm M w w') : RepM w' b lt r := h.keep hq.node hf fun hm => by
  obtain ⟨rv, cv, h1, _⟩ := h
  rcases hq b hm with ⟨cs, e, fz, q1, q2, q3, q4, q5, q6⟩ | h
  · rw [h1] at q1; cases q1; exact q6 rfl
  · have := lt_of_get h1; omega
theorem rows_quiet {α : Type} {El : World → List Value → α → (Nat → Prop) → Prop} {base e s : Nat} {l : Value} {ys : List α} {G : Nat → Prop} (h : RowsOf El w base e s l ys G) (he : e ≠ 206 ∧ e ≠ 203 ∧ e ≠ 267 ∧ e ≠ 269 ∧ e ≠ 190) : Quiet w (fun b => some b = l.ownBlock) := fun c hc => by
  obtain ⟨⟨us, h1, h2, h3, h4⟩, _⟩ := h
  obtain ⟨h5, ⟨rfl, h6⟩ | ⟨g, cap, cur, rfl, k3, k4, k5⟩⟩ := h3
  · cases hc
  · have : c = g := Option.some.inj hc
    subst this
    exact .inl ⟨_, _, _, k4, he⟩
theorem rows_ty {α : Type} {El : World → List Value → α → (Nat → Prop) → Prop} {base e s : Nat} {l : Value} {ys : List α} {G : Nat → Prop} (h : RowsOf El w base e s l ys G) : ∀ b, l.ownBlock = some b → ∃ cs, w.heap[b]? = some (.cells cs e (0, 0)) := fun c hc => by
  obtain ⟨⟨us, h1, h2, h3, h4⟩, _⟩ := h
  obtain ⟨h5, ⟨rfl, h6⟩ | ⟨g, cap, cur, rfl, k3, k4, k5⟩⟩ := h3
  · cases hc
  · have : g = c := Option.some.inj hc
    subst this
    exact ⟨_, k4⟩
def Ver (w : World) (b : Nat) (lt : Ky → Ky → Bool) (N : Nat) (L : List (Ky × Vl)) : Prop := ∃ r, RepM w b lt r ∧ Ok lt N r ∧ rL r = L
theorem Ver.still (h : Ver w b lt N L) (hf : Frm (fun _ => False) w w') : Ver w' b lt N L := by obtain ⟨r, h1, h2⟩ := h; exact ⟨r, h1.still hf, h2⟩
theorem Ver.quiet (h : Ver w b lt N L) (hq : Quiet w M) (hf : Frm M w w') : Ver w' b lt N L := by obtain ⟨r, h1, h2⟩ := h; exact ⟨r, h1.quiet hq hf, h2⟩
theorem Ver.mono {m : Nat} (h : Ver w b lt N L) (hm : N ≤ m) : Ver w b lt m L := by obtain ⟨r, h1, h2, h3⟩ := h; exact ⟨r, h1, h2.mono hm, h3⟩
theorem Ver.sd (h : Ver w b lt N L) : Sd lt L := by obtain ⟨r, h1, h2, rfl⟩ := h; exact h2.sd
theorem ver_set (hl : Lin lt) (h : Ver w b lt N L) (hL : L.length < 2 ^ 60) {x : Vl} (hK : ∀ w' b', Frm (fun _ => False) w w' → Ver w' b' lt (N + 1) (put lt L k x) → K (ptr b') w') : Calls Tryz.prog 66 #[ptr b, ek k, ev x] w (ret K Kp) := by
  obtain ⟨r, h1, h2, rfl⟩ := h
  refine mapSet_ok hl h1 h2 hL fun w' b' hf _ hm => ?_
  obtain ⟨e, ho⟩ := setR_spec hl h2 k x
  exact hK w' b' hf ⟨_, hm, ho, e⟩
def DelOk (lt : Ky → Ky → Bool) : Prop := ∀ {w : World} {b N : Nat} {L : List (Ky × Vl)} {k : Ky} {K : KV} {Kp : KP}, Ver w b lt N L → L.length < 2 ^ 60 → (∀ w' b', Frm (fun _ => False) w w' → Ver w' b' lt N (rem lt L k) → K (ptr b') w') → Calls Tryz.prog 67 #[ptr b, ek k] w (ret K Kp)
theorem delOk (hl : Lin lt) : DelOk lt := fun {w b N L k K Kp} h hL hK => by
  obtain ⟨r, h1, h2, rfl⟩ := h
  refine mapDel_ok hl h1 h2 hL fun w' b' hf hm => ?_
  obtain ⟨e, ho⟩ := delR_spec hl h2 k
  exact hK w' b' hf ⟨_, hm, ho, e⟩
def GetOk (lt : Ky → Ky → Bool) : Prop := ∀ {w : World} {b N : Nat} {L : List (Ky × Vl)} {k : Ky} {K : KV} {Kp : KP}, Ver w b lt N L → (∀ w', Frm (fun _ => False) w w' → K (gotV (got lt L k)) w') → Calls Tryz.prog 68 #[ptr b, ek k] w (ret K Kp)
theorem getOk (hl : Lin lt) : GetOk lt := fun {w b N L k K Kp} h hK => by
  obtain ⟨r, h1, h2, rfl⟩ := h
  refine mapGet_ok h1 h2 (k := k) fun w' hf => ?_
  rw [getR_spec hl h2 k]
  exact hK w' hf
theorem ver_len (h : Ver w b lt N L) (hK : K (.int .i64 L.length) w) : Calls Tryz.prog 71 #[ptr b] w (ret K Kp) := by
  obtain ⟨r, h1, h2, rfl⟩ := h
  exact len_ok h1 hK
theorem ver_iter (h : Ver w b lt N L) (hN : N < 2 ^ 60) (hK : ∀ w' ib, Frm (fun _ => False) w w' → w.heap.size ≤ ib → At w' ib b L (if L.length = 0 then none else some 0) → K (ptr ib) w') : Calls Tryz.prog 70 #[ptr b] w (ret K Kp) := by
  obtain ⟨r, h1, h2, rfl⟩ := h
  exact iter_ok h1 h2 hN hK
def BackOk (lt : Ky → Ky → Bool) : Prop :=
  (∀ {w : World} {ib mb N : Nat} {L : List (Ky × Vl)} {q : Option Nat} {K : KV} {Kp : KP}, At w ib mb L q → Ver w mb lt N L → N < 2 ^ 60 → (∀ w', Frm (· = ib) w w' → At w' ib mb L (if L.length = 0 then none else some (L.length - 1)) → K (.tuple #[]) w') → Calls Tryz.prog 72 #[ptr ib] w (ret K Kp)) ∧
  ∀ {w : World} {ib mb q : Nat} {L : List (Ky × Vl)} {K : KV} {Kp : KP}, At w ib mb L (some q) → (∀ w', Frm (· = ib) w w' → ∀ e, L[q]? = some e → At w' ib mb L (if 0 < q then some (q - 1) else none) → K (.tuple #[ek e.1, ev e.2, .bool true]) w') → Calls Tryz.prog 74 #[ptr ib] w (ret K Kp)
theorem backOk (lt : Ky → Ky → Bool) : BackOk lt := ⟨fun {w ib mb N L q K Kp} h hv hN hK => by
  obtain ⟨r, h1, h2, rfl⟩ := hv
  exact itLast_ok h.it h1 h2 hN hK, fun {w ib mb q L K Kp} h hK => itPrev_ok h hK⟩
theorem restOf_zero {L : List (Ky × Vl)} : restOf L (if L.length = 0 then none else some 0) = L := by
  split
  · rename_i h; exact (List.eq_nil_of_length_eq_zero h).symm
  · rfl
end Go.Proofs.YtodjijfblgnfmaaGreatDoor.T
end
section
namespace Go.Proofs.YtodjijfblgnfmaaGreatDoor.T
open Go.Vc Go.Proofs Go.Proofs.YtodjijfblgnfmaaGreatDoor Go.Vc.Bt
variable {w : World} {lt : Ky → Ky → Bool} {d b : Nat} {L : List (Ky × Vl)} {cs : Array Value} {s : Tr} {n N : Nat}
theorem apO : apOf Tryz.prog 120 = some (118, 1, 8) := by kernel_rfl
theorem apA : apOf Tryz.prog 28 = some (56, 4, 48) := by kernel_rfl
theorem lit_ans (a b c d : Value) : sliceLit Tryz.prog 28 1 [(0, .agg #[a, b, c, d])] = some (56, [a, b, c, d].toArray) := lit_28_1
def midA (lt : Ky → Ky → Bool) (s : SSt) (L : List (Ky × Vl)) : SAns := if (newV lt kd s L).isSome then zeroA else ansV lt kd s L
def lenAt (w : World) (b j : Nat) : Nat := match w.heap[b]? with
  | some (.cells cs _ _) => match cs[j]? with
    | some (.slice _ n _) => n
    | _ => 0
  | _ => 0
def backOf (L : List (Ky × Vl)) : Option Nat → List (Ky × Vl)
  | none => []
  | some q => (L.take (q + 1)).reverse
theorem backOf_last : backOf L (if L.length = 0 then none else some (L.length - 1)) = L.reverse := by
  split
  · rename_i h; rw [List.eq_nil_of_length_eq_zero h]; rfl
  · show (L.take (L.length - 1 + 1)).reverse = _
    rw [List.take_of_length_le (by omega)]
theorem backOf_prev {q : Nat} {e : Ky × Vl} (h : L[q]? = some e) : backOf L (some q) = e :: backOf L (if 0 < q then some (q - 1) else none) := by
  obtain ⟨hq, rfl⟩ := List.getElem?_eq_some_iff.1 h
  show (L.take (q + 1)).reverse = _
  rw [List.take_succ_eq_append_getElem hq, List.reverse_append]
  split
  · rename_i h0
    show _ = L[q] :: (L.take (q - 1 + 1)).reverse
    rw [Nat.sub_add_cancel h0]; rfl
  · have : q = 0 := by omega
    subst this; rfl
structure Mid (lt : Ky → Ky → Bool) (s : SSt) (N : Nat) (L : List (Ky × Vl)) (ab : Nat) (wA wz : World) (b' : Nat) (pv : Value) : Prop where
  frm : Frm (· = ab) wA wz
  ver : Ver wz b' lt (N + s.cost) ((newV lt kd s L).getD L)
  cell : wz.heap[ab]? = some (.cells #[.int .i64 (midA lt s L).value, .int .i64 (midA lt s L).n, .bool (midA lt s L).ok, pv] 56 (0, 0))
  row : IsSl wz pv (midA lt s L).list.length ((midA lt s L).list.flatMap SPr.cells)
  own : ∀ c, pv.ownBlock = some c → wA.heap.size ≤ c ∧ ∃ cs, wz.heap[c]? = some (.cells cs 49 (0, 0))
theorem quiet_ans {c : Nat} {cs : Array Value} (h : w.heap[c]? = some (.cells cs 56 (0, 0))) : Quiet w (· = c) := fun x hx => by
  subst hx; exact .inl ⟨_, _, _, h, by decide, by decide, by decide, by decide, by decide⟩
end Go.Proofs.YtodjijfblgnfmaaGreatDoor.T
end
section
namespace Go.Proofs.YtodjijfblgnfmaaGreatDoor.T
open Go.Vc Go.Proofs Go.Proofs.YtodjijfblgnfmaaGreatDoor Go.Vc.Bt
variable {w w' : World} {v cv : Value} {K : KV} {Kp : KP} {lt : Ky → Ky → Bool} {ib mb b : Nat} {L : List (Ky × Vl)} {cs cs' : Array Value} {s : Tr} {n N : Nat} {M : Nat → Prop}
theorem call_key {args : List Value} : nP.call (.val (.func (.func 75) #[] #[])) args w K Kp = Calls Tryz.prog 75 args.toArray w (ret K Kp) := by
  rw [call_val (by kernel_rfl)]; simp
theorem call_many {args : List Value} : nP.call (.val (.func (.func 76) #[] #[])) args w K Kp = Calls Tryz.prog 76 args.toArray w (ret K Kp) := by
  rw [call_val (by kernel_rfl)]; simp
theorem call_pair {args : List Value} : nP.call (.val (.func (.func 78) #[] #[])) args w K Kp = Calls Tryz.prog 78 args.toArray w (ret K Kp) := by
  rw [call_val (by kernel_rfl)]; simp
theorem sortedRun_ok {a2 : Option Addr} {c2 : Nat} {steps : List SSt} (hC : CmpOk cv lt none) (hl : Lin lt) (h2 : Row w a2 (steps.flatMap SSt.cells)) (hs : ∀ s ∈ steps, s.text.size ≤ 100) (hc : scost steps < 2 ^ 30)
    (hD : (∃ s ∈ steps, s.op = 1 ∨ s.op = 6) → DelOk lt) (hG : (∃ s ∈ steps, s.op = 2) → GetOk lt) (hB : (∃ s ∈ steps, s.op = 4) → BackOk lt) (hM : (∃ s ∈ steps, s.op = 5 ∨ s.op = 6) → ManyOk w)
    (hK : ∀ l w' G, Frm (fun _ => False) w w' → RowsOf ElA w' w.heap.size 56 4 l (runS lt kd steps).2 G → K l w') :
    Calls Tryz.prog 39 #[kdV, cv, .slice a2 steps.length c2] w (ret K Kp) := by
  have hE := flat_ok (fun b : Nat => [ptr b])
  refine vc39_calls ?_
  delta vc39
  refine op_box_ok fun w1 k1 z1 b1 => ?_
  simp only [kdV, cells_agg] at b1
  simp only [call_64]
  refine new_ok hC fun w2 mb k2 hmb hM2 => ?_
  have n1 := k1.size
  have n2 := k2.size
  refine op_row1 (base := w1.heap.size) (El := Flat fun b => [ptr b]) (u := [ptr mb]) (y := mb) (G2 := fun _ => False) hE apO (lit_120_1 rfl) rfl rfl (fun _ h => h.elim) (by omega) fun l3 w3 k3 hR3 ho3 => ?_
  have k13 := k2.no k3
  obtain ⟨a3, c3, rfl, _⟩ := hR3.slice
  simp [-getElem?_pos, -Array.getElem?_eq_getElem, -Int.natCast_add, -op_lit_46_1, -op_lit_28_1, -op_lit_120_1, -op_alloc_54, -op_alloc_56, -op_st_54, -op_st_2, -op_st_3, -op_st_4, -op_st_46]
  obtain ⟨I, hI⟩ : ∃ I : Value → Value → KV, ∀ l out v wl, I l out v wl ↔ ∃ (i : Nat) (bs : List Nat) (G : Nat → Prop), v = .int .i64 i ∧ i ≤ steps.length ∧ Frm (fun _ => False) w1 wl ∧
      RowsOf (Flat fun b => [ptr b]) wl w1.heap.size 118 1 l bs (fun _ => False) ∧ bs.length = (runS lt kd (steps.take i)).1.length ∧
      (∀ (j b : Nat) (L : List (Ky × Vl)), bs[j]? = some b → (runS lt kd (steps.take i)).1[j]? = some L → Ver wl b lt (scost (steps.take i)) L) ∧
      RowsOf ElA wl w1.heap.size 56 4 out (runS lt kd (steps.take i)).2 G ∧ ∀ c, G c → ∃ cs, wl.heap[c]? = some (.cells cs 49 (0, 0)) := ⟨_, fun _ _ _ _ => Iff.rfl⟩
  refine Lp.intro I (fun _ _ v _ => steps.length - nOf v) ⟨(hI _ _ _ _).2 ⟨0, [mb], fun _ => False, rfl, by omega, k13, hR3, by simp [runS], fun j b L hb hL => ?_, rows_nil, fun _ h => h.elim⟩, ?_⟩
  · cases j with
    | zero =>
      simp [runS] at hb hL
      subst hb hL
      exact ⟨none, hM2.still k3, trivial, rfl⟩
    | succ j => simp at hb
  intro wl l out v hlv
  obtain ⟨i, bs, G, rfl, hi, kl, hR, hbl, hV, hO, hGt⟩ := (hI _ _ _ _).1 hlv
  clear hlv hR3 hM2 k13 k3
  simp only [op_lss, Br_dec]
  refine ⟨fun hlt' => ?_, fun hnl' => ?_⟩
  rotate_left
  · have : i = steps.length := by omega
    subst this
    rw [List.take_length] at hO
    exact hK out wl G (k1.no kl) (hO.base_le n1)
  have hi' : i < steps.length := by omega
  have htk : steps.take (i + 1) = steps.take i ++ [steps[i]] := List.take_succ_eq_append_getElem hi'
  have hmem : steps[i] ∈ steps := List.getElem_mem hi'
  have hctk := scost_take steps (i + 1)
  have hsl := scost_len steps
  have hlenr := runS_len (lt := lt) (kd := kd) (steps.take i)
  have hle := runS_le (lt := lt) (kd := kd) (steps.take i)
  have hsnoc := runS_snoc (lt := lt) (kd := kd) (steps.take i) steps[i]
  rw [← htk] at hsnoc
  rw [htk, scost_snoc] at hctk
  have hcsn := scost_snoc (steps.take i) steps[i]
  rw [← htk] at hcsn
  rw [List.length_take] at hlenr
  obtain ⟨bp, o, cs, e, fz, rfl, hcs, hsz, hext⟩ := (h2.frame (k1.no kl) (fun _ _ h => h)).part SSt.len (by decide) hi'
  have hst := hs _ hmem
  have hD' : steps[i].op = 1 ∨ steps[i].op = 6 → DelOk lt := fun h => hD ⟨_, hmem, h⟩
  have hG' : steps[i].op = 2 → GetOk lt := fun h => hG ⟨_, hmem, h⟩
  have hB' : steps[i].op = 4 → BackOk lt := fun h => hB ⟨_, hmem, h⟩
  have hM' : steps[i].op = 5 ∨ steps[i].op = 6 → ManyOk w := fun h => hM ⟨_, hmem, h⟩
  generalize steps[i] = s at *
  generalize hvs : runS lt kd (steps.take i) = vs at *
  obtain ⟨vs, an⟩ := vs
  simp only at hbl hV hO hlenr hle
  generalize hNn : scost (steps.take i) = N at *
  have hq : atV s vs.length < vs.length := atV_lt hlenr.1
  have hqb : atV s bs.length < bs.length := by rw [hbl]; exact hq
  have bk := kl.get b1 fun h => h
  have nl := kl.size
  have hlow := hR.own_lt
  have hlowO := hO.own_lt
  simp [-getElem?_pos, -Array.getElem?_eq_getElem, -Int.natCast_add, -op_lit_46_1, -op_lit_28_1, -op_lit_120_1, -op_alloc_54, -op_alloc_56, -op_st_54, -op_st_2, -op_st_3, -op_st_4, -op_st_46, hcs, hsz, hext]
  refine ⟨hi', ?_⟩
  refine op_alloc_ok (z := .agg #[.int .u8 0, .int .i64 0, .int .i64 0, .string ByteArray.empty, .int .i64 0, .int .i64 0, .int .i64 0]) (by kernel_rfl) fun w5 k5 z5 b5 => ?_
  simp only [cells_agg] at b5
  refine op_storeN_ok (n := 7) (by kernel_rfl) b5 rfl (by decide) (by simp [SSt.cells]) fun w6 k6 z6 b6 => ?_
  have b6 : w6.heap[wl.heap.size]? = some (.cells s.cells.toArray 54 (0, 0)) := by
    rw [ow_all (by simp [SSt.cells])] at b6; simpa [SSt.cells] using b6
  simp only [SSt.cells] at b6
  have k56 : Frm (fun _ => False) wl w6 := k5.old k6 fun c hc => .inr (by omega)
  have hR6 := hR.still hE k56
  obtain ⟨u, g, c, cur, hlg, hg1, hu, hg3, hg4, hg5, hub⟩ := hR6.get hqb
  cases hlg
  have hub : u = [ptr bs[atV s bs.length]] := hub
  subst hub
  have hg0 : cur[atV s bs.length]? = some (ptr bs[atV s bs.length]) := by have := hg3 0 (by decide); simpa using this
  obtain ⟨L0, hL0⟩ : ∃ L0, vs[atV s bs.length]? = some L0 := ⟨_, List.getElem?_eq_getElem (by omega)⟩
  have hV6 := (hV _ _ _ (List.getElem?_eq_getElem hqb) hL0).still k56
  have hL0N : L0.length ≤ N := hle _ (List.mem_of_getElem? hL0)
  have hsd := hV6.sd
  generalize hbv : bs[atV s bs.length] = bv at *
  simp [-getElem?_pos, -Array.getElem?_eq_getElem, -Int.natCast_add, -op_lit_46_1, -op_lit_28_1, -op_lit_120_1, -op_alloc_54, -op_alloc_56, -op_st_54, -op_st_2, -op_st_3, -op_st_4, -op_st_46, b6]
  refine at_ok (by omega) (by omega) ?_
  have hat : ((s.fro % (bs.length : Int)).toNat) = atV s bs.length := rfl
  rw [hat]
  simp [-getElem?_pos, -Array.getElem?_eq_getElem, -Int.natCast_add, -op_lit_46_1, -op_lit_28_1, -op_lit_120_1, -op_alloc_54, -op_alloc_56, -op_st_54, -op_st_2, -op_st_3, -op_st_4, -op_st_46, hg1, hg0]
  refine ⟨hqb, ?_⟩
  refine op_alloc_ok (z := .agg #[.int .i64 0, .int .i64 0, .bool false, .slice none 0 0]) (by kernel_rfl) fun wA kA zA bA => ?_
  simp only [cells_agg] at bA
  have k6A : Frm (fun _ => False) wl wA := k56.no kA
  have bS := kA.get b6 fun h => h
  have bK := k6A.get bk fun h => h
  have hVA := hV6.still kA
  have hlS := lt_of_get b6
  have nA := k6A.size
  have hne : ¬ wl.heap.size = w6.heap.size := by omega
  have hneK : ¬ w.heap.size = w6.heap.size := by omega
  generalize hab : w6.heap.size = ab at *
  obtain ⟨J, hJ⟩ : ∃ J : KV, ∀ e wz, J e wz ↔ ∃ b' pv, e = ptr b' ∧ Mid lt s N L0 ab wA wz b' pv := ⟨_, fun _ _ => Iff.rfl⟩
  refine Jn.intro J ⟨?_, ?_⟩
  · have hz : ∀ {wz : World} {b' : Nat} {m : List (Ky × Vl)}, newV lt kd s L0 = some m → Frm (fun _ => False) wA wz → Ver wz b' lt (N + s.cost) m → J (ptr b') wz := fun {wz b' m} hm hf hv => by
      have e : midA lt s L0 = zeroA := by unfold midA; rw [hm]; rfl
      refine (hJ _ _).2 ⟨b', .slice none 0 0, rfl, hf.to fun _ h => h.elim, by rw [hm]; exact hv, ?_, ?_, fun c hc => nomatch hc⟩
      · rw [e]; exact hf.get bA fun h => h
      · rw [e]; exact IsSl.nil
    have hx3 : (#[.func (.func 75) #[] #[], .func (.func 76) #[] #[], .func (.func 78) #[] #[]] : Array Value).extract 0 3 = #[.func (.func 75) #[] #[], .func (.func 76) #[] #[], .func (.func 78) #[] #[]] := rfl
    have hc1 : 1 ≤ s.cost := by unfold SSt.cost; omega
    have hdr := hVA.still (Frm.drew wA)
    by_cases h0 : s.op = 0
    · simp [-getElem?_pos, -Array.getElem?_eq_getElem, -Int.natCast_add, -op_lit_46_1, -op_lit_28_1, -op_lit_120_1, -op_alloc_54, -op_alloc_56, -op_st_54, -op_st_2, -op_st_3, -op_st_4, -op_st_46, bS, bK, h0, call_key]
      refine key_ok hst ?_
      try simp [-getElem?_pos, -Array.getElem?_eq_getElem, -Int.natCast_add, -op_lit_46_1, -op_lit_28_1, -op_lit_120_1, -op_alloc_54, -op_alloc_56, -op_st_54, -op_st_2, -op_st_3, -op_st_4, -op_st_46, bS]
      refine ver_set hl hdr (by omega) fun w7 b' k7 v7 => ?_
      exact hz (by unfold newV; rw [if_pos h0]) (Frm.dr k7) (v7.mono (by omega))
    by_cases h1 : s.op = 1
    · simp [-getElem?_pos, -Array.getElem?_eq_getElem, -Int.natCast_add, -op_lit_46_1, -op_lit_28_1, -op_lit_120_1, -op_alloc_54, -op_alloc_56, -op_st_54, -op_st_2, -op_st_3, -op_st_4, -op_st_46, bS, bK, h1, call_key]
      refine key_ok hst ?_
      try simp [-getElem?_pos, -Array.getElem?_eq_getElem, -Int.natCast_add, -op_lit_46_1, -op_lit_28_1, -op_lit_120_1, -op_alloc_54, -op_alloc_56, -op_st_54, -op_st_2, -op_st_3, -op_st_4, -op_st_46, bS]
      refine hD' (.inl h1) hVA (by omega) fun w7 b' k7 v7 => ?_
      exact hz (by unfold newV; rw [if_neg h0, if_pos h1]) k7 (v7.mono (by omega))
    by_cases h5 : s.op = 5
    · simp [-getElem?_pos, -Array.getElem?_eq_getElem, -Int.natCast_add, -op_lit_46_1, -op_lit_28_1, -op_lit_120_1, -op_alloc_54, -op_alloc_56, -op_st_54, -op_st_2, -op_st_3, -op_st_4, -op_st_46, bS, h5]
      obtain ⟨I2, hI2⟩ : ∃ I2 : Value → KV, ∀ m v wz, I2 m v wz ↔ ∃ j b' : Nat, m = ptr b' ∧ v = .int .i64 j ∧ j ≤ s.count.toNat ∧ Frm (fun _ => False) wA wz ∧ Ver wz b' lt (N + j) (putN lt kd s j L0) := ⟨_, fun _ _ _ => Iff.rfl⟩
      refine Lp.intro I2 (fun _ v _ => s.count.toNat - nOf v) ⟨(hI2 _ _ _).2 ⟨0, bv, rfl, rfl, by omega, Frm.refl, hVA⟩, ?_⟩
      intro wz m v hm
      obtain ⟨j, b', rfl, rfl, hj, kz, vz⟩ := (hI2 _ _ _).1 hm
      have bSz := kz.get bS fun h => h
      have bKz := kz.get bK fun h => h
      have hpl := putN_le (lt := lt) (kd := kd) s L0 j
      have hcost : s.cost = 1 + s.count.toNat := rfl
      have hx7 : (#[.int .u8 s.op, .int .i64 s.fro, .int .i64 s.key, .string s.text, .int .i64 s.value, .int .i64 s.count, .int .i64 s.by'] : Array Value).extract 0 7 = s.cells.toArray := rfl
      simp [-getElem?_pos, -Array.getElem?_eq_getElem, -Int.natCast_add, -op_lit_46_1, -op_lit_28_1, -op_lit_120_1, -op_alloc_54, -op_alloc_56, -op_st_54, -op_st_2, -op_st_3, -op_st_4, -op_st_46, bSz]
      refine ⟨fun hlt2 => ?_, fun hge => ?_⟩
      · simp [-getElem?_pos, -Array.getElem?_eq_getElem, -Int.natCast_add, -op_lit_46_1, -op_lit_28_1, -op_lit_120_1, -op_alloc_54, -op_alloc_56, -op_st_54, -op_st_2, -op_st_3, -op_st_4, -op_st_46, bSz, bKz, call_many, hx7]
        refine hM' (.inl h5) hst ((k1.no kl).no (k6A.no (kz.no (Frm.drew _)))) fun w7 k7 => ?_
        have bS7 := (Frm.dr k7).get bSz fun h => h
        simp [-getElem?_pos, -Array.getElem?_eq_getElem, -Int.natCast_add, -op_lit_46_1, -op_lit_28_1, -op_lit_120_1, -op_alloc_54, -op_alloc_56, -op_st_54, -op_st_2, -op_st_3, -op_st_4, -op_st_46, bS7]
        refine ver_set hl (vz.still (Frm.dr k7)) (by omega) fun w8 b8 k8 v8 => ?_
        rw [show IntKind.i64.wrap ((j : Int) + 1) = ((j + 1 : Nat) : Int) from by rw [IntKind.wrap_i64]; omega]
        refine ⟨(hI2 _ _ _).2 ⟨j + 1, b8, rfl, rfl, by omega, kz.no ((Frm.dr k7).no k8), v8⟩, by simp only [nOf_int]; omega⟩
      · have : j = s.count.toNat := by omega
        subst this
        exact hz (by unfold newV; rw [if_neg h0, if_neg h1, if_pos h5]) kz (vz.mono (by omega))
    by_cases h6 : s.op = 6
    · simp [-getElem?_pos, -Array.getElem?_eq_getElem, -Int.natCast_add, -op_lit_46_1, -op_lit_28_1, -op_lit_120_1, -op_alloc_54, -op_alloc_56, -op_st_54, -op_st_2, -op_st_3, -op_st_4, -op_st_46, bS, h6]
      obtain ⟨I2, hI2⟩ : ∃ I2 : Value → KV, ∀ m v wz, I2 m v wz ↔ ∃ j b' : Nat, m = ptr b' ∧ v = .int .i64 j ∧ j ≤ s.count.toNat ∧ Frm (fun _ => False) wA wz ∧ Ver wz b' lt N (remN lt kd s j L0) := ⟨_, fun _ _ _ => Iff.rfl⟩
      refine Lp.intro I2 (fun _ v _ => s.count.toNat - nOf v) ⟨(hI2 _ _ _).2 ⟨0, bv, rfl, rfl, by omega, Frm.refl, hVA⟩, ?_⟩
      intro wz m v hm
      obtain ⟨j, b', rfl, rfl, hj, kz, vz⟩ := (hI2 _ _ _).1 hm
      have bSz := kz.get bS fun h => h
      have bKz := kz.get bK fun h => h
      have hpl := remN_le (lt := lt) (kd := kd) s L0 j
      have hcost : s.cost = 1 + s.count.toNat := rfl
      have hx7 : (#[.int .u8 s.op, .int .i64 s.fro, .int .i64 s.key, .string s.text, .int .i64 s.value, .int .i64 s.count, .int .i64 s.by'] : Array Value).extract 0 7 = s.cells.toArray := rfl
      simp [-getElem?_pos, -Array.getElem?_eq_getElem, -Int.natCast_add, -op_lit_46_1, -op_lit_28_1, -op_lit_120_1, -op_alloc_54, -op_alloc_56, -op_st_54, -op_st_2, -op_st_3, -op_st_4, -op_st_46, bSz]
      refine ⟨fun hlt2 => ?_, fun hge => ?_⟩
      · simp [-getElem?_pos, -Array.getElem?_eq_getElem, -Int.natCast_add, -op_lit_46_1, -op_lit_28_1, -op_lit_120_1, -op_alloc_54, -op_alloc_56, -op_st_54, -op_st_2, -op_st_3, -op_st_4, -op_st_46, bSz, bKz, call_many, hx7]
        refine hM' (.inr h6) hst ((k1.no kl).no (k6A.no kz)) fun w7 k7 => ?_
        have bS7 := k7.get bSz fun h => h
        try simp [-getElem?_pos, -Array.getElem?_eq_getElem, -Int.natCast_add, -op_lit_46_1, -op_lit_28_1, -op_lit_120_1, -op_alloc_54, -op_alloc_56, -op_st_54, -op_st_2, -op_st_3, -op_st_4, -op_st_46, bS7]
        refine hD' (.inr h6) (vz.still k7) (by omega) fun w8 b8 k8 v8 => ?_
        try simp [-getElem?_pos, -Array.getElem?_eq_getElem, -Int.natCast_add, -op_lit_46_1, -op_lit_28_1, -op_lit_120_1, -op_alloc_54, -op_alloc_56, -op_st_54, -op_st_2, -op_st_3, -op_st_4, -op_st_46]
        rw [show IntKind.i64.wrap ((j : Int) + 1) = ((j + 1 : Nat) : Int) from by rw [IntKind.wrap_i64]; omega]
        refine ⟨(hI2 _ _ _).2 ⟨j + 1, b8, rfl, rfl, by omega, kz.no (k7.no k8), v8⟩, by simp only [nOf_int]; omega⟩
      · have : j = s.count.toNat := by omega
        subst this
        exact hz (by unfold newV; rw [if_neg h0, if_neg h1, if_neg h5, if_pos h6]) kz (vz.mono (by omega))
    have hnone : newV lt kd s L0 = none := by unfold newV; rw [if_neg h0, if_neg h1, if_neg h5, if_neg h6]
    have hmid : midA lt s L0 = ansV lt kd s L0 := by unfold midA; rw [hnone]; rfl
    have hn : ∀ {wz : World} {pv : Value}, Frm (· = ab) wA wz → wz.heap[ab]? = some (.cells #[.int .i64 (ansV lt kd s L0).value, .int .i64 (ansV lt kd s L0).n, .bool (ansV lt kd s L0).ok, pv] 56 (0, 0)) → IsSl wz pv (ansV lt kd s L0).list.length ((ansV lt kd s L0).list.flatMap SPr.cells) →
        (∀ c, pv.ownBlock = some c → wA.heap.size ≤ c ∧ ∃ cs, wz.heap[c]? = some (.cells cs 49 (0, 0))) → J (ptr bv) wz := fun {wz pv} hf hcell hrow hown => by
      refine (hJ _ _).2 ⟨bv, pv, rfl, hf, ?_, by rw [hmid]; exact hcell, by rw [hmid]; exact hrow, hown⟩
      rw [hnone]
      exact (hVA.quiet (quiet_ans bA) hf).mono (by omega)
    by_cases h2' : s.op = 2
    · simp [-getElem?_pos, -Array.getElem?_eq_getElem, -Int.natCast_add, -op_lit_46_1, -op_lit_28_1, -op_lit_120_1, -op_alloc_54, -op_alloc_56, -op_st_54, -op_st_2, -op_st_3, -op_st_4, -op_st_46, bS, bK, h2', call_key]
      refine key_ok hst ?_
      try simp [-getElem?_pos, -Array.getElem?_eq_getElem, -Int.natCast_add, -op_lit_46_1, -op_lit_28_1, -op_lit_120_1, -op_alloc_54, -op_alloc_56, -op_st_54, -op_st_2, -op_st_3, -op_st_4, -op_st_46, bS]
      refine hG' h2' hVA fun w7 k7 => ?_
      have b7 := k7.get bA fun h => h
      cases hgg : got lt L0 (kd.key s.key s.text) with
      | none =>
        have ea : ansV lt kd s L0 = zeroA := by unfold ansV; rw [if_pos h2', hgg]
        simp [-getElem?_pos, -Array.getElem?_eq_getElem, -Int.natCast_add, -op_lit_46_1, -op_lit_28_1, -op_lit_120_1, -op_alloc_54, -op_alloc_56, -op_st_54, -op_st_2, -op_st_3, -op_st_4, -op_st_46, gotV]
        refine op_store_ok (by kernel_rfl) b7 (by decide) rfl fun w8 k8 z8 b8 => ?_
        refine op_store_ok (by kernel_rfl) b8 (by decide) rfl fun w9 k9 z9 b9 => ?_
        refine hn ((k7.fst k8).trans k9 fun _ h _ => h) (pv := .slice none 0 0) (by rw [ea]; simpa [zeroA, zv] using b9) (by rw [ea]; exact IsSl.nil) fun c hc => nomatch hc
      | some x =>
        have ea : ansV lt kd s L0 = ⟨x, 0, true, []⟩ := by unfold ansV; rw [if_pos h2', hgg]
        simp [-getElem?_pos, -Array.getElem?_eq_getElem, -Int.natCast_add, -op_lit_46_1, -op_lit_28_1, -op_lit_120_1, -op_alloc_54, -op_alloc_56, -op_st_54, -op_st_2, -op_st_3, -op_st_4, -op_st_46, gotV]
        refine op_store_ok (by kernel_rfl) b7 (by decide) rfl fun w8 k8 z8 b8 => ?_
        refine op_store_ok (by kernel_rfl) b8 (by simp) rfl fun w9 k9 z9 b9 => ?_
        refine hn ((k7.fst k8).trans k9 fun _ h _ => h) (pv := .slice none 0 0) (by rw [ea]; simpa [ev] using b9) (by rw [ea]; exact IsSl.nil) fun c hc => nomatch hc
    by_cases h3 : s.op = 3
    · have ea : ansV lt kd s L0 = ⟨0, L0.length, false, prs L0⟩ := by unfold ansV; rw [if_neg h2', if_pos h3]; rfl
      simp [-getElem?_pos, -Array.getElem?_eq_getElem, -Int.natCast_add, -op_lit_46_1, -op_lit_28_1, -op_lit_120_1, -op_alloc_54, -op_alloc_56, -op_st_54, -op_st_2, -op_st_3, -op_st_4, -op_st_46, bS, bK, h3, hx3]
      refine ver_iter hdr (by omega) fun w7 ib k7 hib hA7 => ?_
      have k7 := Frm.dr k7
      have bK7 := k7.get bK fun h => h
      have n7 := k7.size
      have hib : wA.heap.size ≤ ib := hib
      simp [-getElem?_pos, -Array.getElem?_eq_getElem, -Int.natCast_add, -op_lit_46_1, -op_lit_28_1, -op_lit_120_1, -op_alloc_54, -op_alloc_56, -op_st_54, -op_st_2, -op_st_3, -op_st_4, -op_st_46, bK7, hx3]
      refine pairsOf_ok hA7 (by omega) fun pv w8 k8 hR8 => ?_
      rw [restOf_zero] at hR8
      have k78 : Frm (fun _ => False) wA w8 := k7.old k8 fun c hc => .inr (by omega)
      have b8 := k78.get bA fun h => h
      try simp [-getElem?_pos, -Array.getElem?_eq_getElem, -Int.natCast_add, -op_lit_46_1, -op_lit_28_1, -op_lit_120_1, -op_alloc_54, -op_alloc_56, -op_st_54, -op_st_2, -op_st_3, -op_st_4, -op_st_46]
      refine ver_len (hVA.still k78) ?_
      refine op_store_ok (by kernel_rfl) b8 (by decide) hR8.one fun w9 k9 z9 b9 => ?_
      try simp [-getElem?_pos, -Array.getElem?_eq_getElem, -Int.natCast_add, -op_lit_46_1, -op_lit_28_1, -op_lit_120_1, -op_alloc_54, -op_alloc_56, -op_st_54, -op_st_2, -op_st_3, -op_st_4, -op_st_46]
      refine op_store_ok (by kernel_rfl) b9 (by simp) rfl fun w10 k10 z10 b10 => ?_
      have k810 : Frm (· = ab) w8 w10 := k9.trans k10 fun _ h _ => h
      have hlow8 := hR8.own_lt
      have hlA := lt_of_get bA
      refine hn (k78.fst k810) (pv := pv) (by rw [ea]; simpa using b10) ?_ fun c hc => ?_
      · rw [ea]
        exact (hR8.flat).frame k810 fun c hc => by have := hlow8 c hc; omega
      · have hge := hlow8 c hc
        obtain ⟨cs', hcs'⟩ := rows_ty hR8 c hc
        exact ⟨by omega, cs', k810.get hcs' (by omega)⟩
    by_cases h4 : s.op = 4
    · have ea : ansV lt kd s L0 = ⟨0, L0.length, false, prs L0.reverse⟩ := by unfold ansV; rw [if_neg h2', if_neg h3, if_pos h4]; rfl
      obtain ⟨hLast, hPrev⟩ := hB' h4
      simp [-getElem?_pos, -Array.getElem?_eq_getElem, -Int.natCast_add, -op_lit_46_1, -op_lit_28_1, -op_lit_120_1, -op_alloc_54, -op_alloc_56, -op_st_54, -op_st_2, -op_st_3, -op_st_4, -op_st_46, bS, h4]
      refine ver_len hVA ?_
      refine op_store_ok (by kernel_rfl) bA (by decide) rfl fun w7 k7 z7 b7 => ?_
      have b7 : w7.heap[ab]? = some (.cells #[.int .i64 0, .int .i64 L0.length, .bool false, .slice none 0 0] 56 (0, 0)) := by simpa using b7
      have hlA := lt_of_get bA
      have hV7 := hVA.quiet (quiet_ans bA) k7
      try simp [-getElem?_pos, -Array.getElem?_eq_getElem, -Int.natCast_add, -op_lit_46_1, -op_lit_28_1, -op_lit_120_1, -op_alloc_54, -op_alloc_56, -op_st_54, -op_st_2, -op_st_3, -op_st_4, -op_st_46]
      refine ver_iter hV7 (by omega) fun w8 ib k8 hib hA8 => ?_
      try simp [-getElem?_pos, -Array.getElem?_eq_getElem, -Int.natCast_add, -op_lit_46_1, -op_lit_28_1, -op_lit_120_1, -op_alloc_54, -op_alloc_56, -op_st_54, -op_st_2, -op_st_3, -op_st_4, -op_st_46]
      have hV8 := hV7.still k8
      have hib2 := hA8.below
      have n7 := k7.size
      have n8 := k8.size
      refine hLast hA8 hV8 (by omega) fun w9 k9 hA9 => ?_
      have n9 := k9.size
      have b9 := k9.get (k8.get b7 fun h => h) (by omega)
      have bK9 := k9.get (k8.get (k7.get bK hneK) fun h => h) (by omega)
      obtain ⟨I2, hI2⟩ : ∃ I2 : World → Prop, ∀ wz, I2 wz ↔ ∃ (q : Option Nat) (D : List (Ky × Vl)) (pv : Value), D ++ backOf L0 q = L0.reverse ∧ Frm (fun c => c = ab ∨ c = ib) w9 wz ∧ At wz ib bv L0 q ∧ (∀ x, q = some x → x < L0.length) ∧
          wz.heap[ab]? = some (.cells #[.int .i64 0, .int .i64 L0.length, .bool false, pv] 56 (0, 0)) ∧ RowsOf (Flat SPr.cells) wz w9.heap.size 49 3 pv (prs D) (fun _ => False) := ⟨_, fun _ => Iff.rfl⟩
      try simp [-getElem?_pos, -Array.getElem?_eq_getElem, -Int.natCast_add, -op_lit_46_1, -op_lit_28_1, -op_lit_120_1, -op_alloc_54, -op_alloc_56, -op_st_54, -op_st_2, -op_st_3, -op_st_4, -op_st_46]
      refine Lp.intro I2 (fun wz => L0.length - lenAt wz ab 3) ⟨(hI2 _).2 ⟨_, [], _, backOf_last, Frm.refl, hA9, fun x hx => ?_, b9, rows_nil⟩, ?_⟩
      · split at hx
        · cases hx
        · cases hx; omega
      intro wz hm
      obtain ⟨q, D, pv, hDL, kz, hAz, hqz, bz, hRz⟩ := (hI2 _).1 hm
      have nz := kz.size
      have bKz := kz.get bK9 (by omega)
      have hlowz := hRz.own_lt
      refine done_ok hAz ?_
      match q, hAz, hDL, hqz with
      | none, hAz, hDL, hqz =>
        simp [-getElem?_pos, -Array.getElem?_eq_getElem, -Int.natCast_add, -op_lit_46_1, -op_lit_28_1, -op_lit_120_1, -op_alloc_54, -op_alloc_56, -op_st_54, -op_st_2, -op_st_3, -op_st_4, -op_st_46]
        rw [show D = L0.reverse from by rw [← hDL]; simp [backOf]] at hRz
        have k9z : Frm (fun c => c = ab ∨ c = ib) w7 wz := ((k8.to fun _ h => h.elim).trans (k9.to fun _ h => .inr h) fun _ h _ => h).trans kz fun _ h _ => h
        have kAz : Frm (· = ab) wA wz := (k7.to (M' := fun c => c = ab ∨ c = ib) fun _ h => .inl h).trans k9z (fun _ h _ => h) |>.mono fun c hc hl => by
          rcases hc with h | h
          · exact h
          · omega
        refine hn kAz (pv := pv) (by rw [ea]; exact bz) (by rw [ea]; exact hRz.flat) fun c hc => ?_
        have := hlowz c hc
        exact ⟨by omega, rows_ty hRz c hc⟩
      | some q, hAz, hDL, hqz =>
        have hql := hqz q rfl
        have hget : L0[q]? = some L0[q] := List.getElem?_eq_getElem hql
        simp [-getElem?_pos, -Array.getElem?_eq_getElem, -Int.natCast_add, -op_lit_46_1, -op_lit_28_1, -op_lit_120_1, -op_alloc_54, -op_alloc_56, -op_st_54, -op_st_2, -op_st_3, -op_st_4, -op_st_46]
        refine hPrev hAz fun w10 k10 e he hA10 => ?_
        have e2 : e = L0[q] := Option.some.inj (he.symm.trans hget)
        subst e2
        have n10 := k10.size
        have bK10 := k10.get bKz (by omega)
        have b10 := k10.get bz (by omega)
        have hR10 := hRz.frame (flat_ok _) k10 (fun _ h => h.elim) fun b hb he => by have := hlowz b hb; omega
        simp [-getElem?_pos, -Array.getElem?_eq_getElem, -Int.natCast_add, -op_lit_46_1, -op_lit_28_1, -op_lit_120_1, -op_alloc_54, -op_alloc_56, -op_st_54, -op_st_2, -op_st_3, -op_st_4, -op_st_46, b10, bK10, call_pair]
        refine pair_ok fun w11 k11 => ?_
        have k11 := Frm.dr k11
        have hR11 := hR10.still (flat_ok _) k11
        have hA11 := hA10.still k11
        have b11 := k11.get b10 fun h => h
        have n11 := k11.size
        have hlen : (prs D).length = D.length := by simp [prs]
        have hDl : D.length + 1 ≤ L0.length := by
          have := congrArg List.length hDL
          rw [backOf_prev hget] at this
          simp only [List.length_append, List.length_cons, List.length_reverse] at this
          omega
        have hlow11 := hR11.own_lt
        have hsame : ∀ {wq : World}, Frm (fun b => some b = pv.ownBlock) w11 wq ∨ Frm (fun _ => False) w11 wq → wq.heap[ab]? = some (.cells #[.int .i64 0, .int .i64 L0.length, .bool false, pv] 56 (0, 0)) := fun {wq} h => by
          rcases h with h | h
          · exact h.get b11 fun he => by have := hlow11 ab he.symm; omega
          · exact h.get b11 fun h => h
        refine ⟨⟨_, ⟨_, _, _, b11⟩, rfl⟩, op_pushQ (lit_sp _) (fun w1 h1 => ⟨_, ⟨_, _, _, hsame (.inr h1)⟩, rfl⟩) ?_⟩
        refine op_push (u := (kd.pair L0[q].1 L0[q].2).cells) (flat_ok SPr.cells) apSP (lit_sp _) rfl (SPr.one _) hR11 rfl (G2 := fun _ => False) (fun _ h => h.elim) (fun _ _ h => h) (by omega) (by omega) fun l' w12 k12 hR12 ho12 => ?_
        have b12 := hsame (.inl k12)
        have n12 := k12.size
        refine op_store_ok (by kernel_rfl) b12 (by simp) hR12.one fun w13 k13 z13 b13 => ?_
        have b13 : w13.heap[ab]? = some (.cells #[.int .i64 0, .int .i64 L0.length, .bool false, l'] 56 (0, 0)) := by simpa using b13
        have hlow12 := hR12.own_lt
        have hA12 := At.keep (rows_off hR11 (by decide)) k12 hA11 (fun he => by have := hlow11 ib he.symm; omega)
        have hA13 := At.keep (quiet_ans b12).node k13 hA12 (by omega)
        have hR13 := (hR12.frame (M := (· = ab)) (flat_ok _) k13 (fun _ h => h.elim (fun h => h.elim) fun h => h.elim) fun b hb he => by have := hlow12 b hb; omega).mono (flat_ok _) (G' := fun _ => False) (fun _ h => h.elim id fun h => h) (fun _ h => h.elim) fun _ _ h => h
        refine ⟨(hI2 _).2 ⟨if 0 < q then some (q - 1) else none, D ++ [L0[q]], l', ?_, ?_, hA13, fun x hx => ?_, b13, ?_⟩, ?_⟩
        · rw [← hDL, backOf_prev hget, List.append_assoc]; rfl
        · refine (((kz.trans (k10.to fun _ h => .inr h) fun _ h _ => h).trans (k11.to fun _ h => h.elim) fun _ h _ => h).old k12 fun c hc => .inr (hlow11 c hc.symm).1).trans (k13.to fun _ h => .inl h) fun _ h _ => h
        · split at hx
          · cases hx; omega
          · cases hx
        · rw [show prs (D ++ [L0[q]]) = prs D ++ [kd.pair L0[q].1 L0[q].2] from by simp [prs]]
          exact hR13
        · have e1 : lenAt wz ab 3 = D.length := by
            obtain ⟨a0, c0, rfl, _⟩ := hRz.slice
            simp [lenAt, bz, hlen]
          have e2 : lenAt w13 ab 3 = D.length + 1 := by
            obtain ⟨a0, c0, rfl, _⟩ := hR12.slice
            simp [lenAt, b13, hlen]
          rw [e1, e2]; omega
    have ea : ansV lt kd s L0 = zeroA := by unfold ansV; rw [if_neg h2', if_neg h3, if_neg h4, hnone]
    have g0 : ¬ (s.op : Int) = 0 := by omega
    have g1 : ¬ (s.op : Int) = 1 := by omega
    have g2 : ¬ (s.op : Int) = 2 := by omega
    have g3 : ¬ (s.op : Int) = 3 := by omega
    have g4 : ¬ (s.op : Int) = 4 := by omega
    have g5 : ¬ (s.op : Int) = 5 := by omega
    have g6 : ¬ (s.op : Int) = 6 := by omega
    simp [-getElem?_pos, -Array.getElem?_eq_getElem, -Int.natCast_add, -op_lit_46_1, -op_lit_28_1, -op_lit_120_1, -op_alloc_54, -op_alloc_56, -op_st_54, -op_st_2, -op_st_3, -op_st_4, -op_st_46, bS, h0, g1, g2, g3, g4, g5, g6]
    exact hn (pv := .slice none 0 0) Frm.refl (by rw [ea]; exact bA) (by rw [ea]; exact IsSl.nil) fun c hc => nomatch hc
  · intro w9 m hm
    obtain ⟨b', pv, rfl, hmid⟩ := (hJ _ _).1 hm
    obtain ⟨kf, hv, hcell, hrow, hown⟩ := hmid
    have hlA := lt_of_get bA
    have bS9 := kf.get bS hne
    have n9 := kf.size
    have hisn := newV_some (lt := lt) (kd := kd) s L0
    have k9 : Frm (fun _ => False) wl w9 := k6A.old kf fun c hc => .inr (by omega)
    simp [-getElem?_pos, -Array.getElem?_eq_getElem, -Int.natCast_add, -op_lit_46_1, -op_lit_28_1, -op_lit_120_1, -op_alloc_54, -op_alloc_56, -op_st_54, -op_st_2, -op_st_3, -op_st_4, -op_st_46, bS9]
    obtain ⟨J2, hJ2⟩ : ∃ J2 : KV, ∀ e wz, J2 e wz ↔ e = .bool (newV lt kd s L0).isSome ∧ wz = w9 := ⟨_, fun _ _ => Iff.rfl⟩
    have hj2 : ∀ {c : Bool}, c = (newV lt kd s L0).isSome → J2 (.bool c) w9 := fun {c} h => (hJ2 _ _).2 ⟨by rw [h], rfl⟩
    rw [hisn] at hj2
    refine Jn.intro J2 ⟨fun h0 => hj2 (by simp [h0]), fun h0 => ⟨fun h1 => hj2 ?_, fun h1 => ⟨fun h5 => hj2 ?_, fun h5 => hj2 ?_⟩⟩, ?_⟩
    · have h1 : s.op = 1 := by omega
      simp [h1]
    · have h5 : s.op = 5 := by omega
      simp [h5]
    · have e : ((s.op : Int) = 6) ↔ s.op = 6 := by omega
      have h1 : ¬ s.op = 1 := by omega
      have h5 : ¬ s.op = 5 := by omega
      simp [h0, h1, h5, e]
    intro wz e9 h9
    obtain ⟨rfl, rfl⟩ := (hJ2 _ _).1 h9
    clear h9 hj2 hJ2 J2
    have hone : ∀ u ∈ [Value.int .i64 (midA lt s L0).value, .int .i64 (midA lt s L0).n, .bool (midA lt s L0).ok, pv], u.oneCell' = true := fun u hu => by
      simp only [List.mem_cons, List.not_mem_nil, or_false] at hu
      rcases hu with rfl | rfl | rfl | rfl
      · rfl
      · rfl
      · rfl
      · exact hrow.one
    have hO9 := hO.still elA_ok k9
    have hR9 := hR.still hE k9
    have hcn : (vs ++ (newV lt kd s L0).toList).length ≤ vs.length + 1 := by cases newV lt kd s L0 <;> simp
    have hone1 : oneS lt kd (vs, an) s = (vs ++ (newV lt kd s L0).toList, an ++ [ansV lt kd s L0]) := by
      unfold oneS
      rw [← hbl, hL0]; rfl
    rw [hone1] at hsnoc
    have hla : an.length = i := by omega
    cases hnw : newV lt kd s L0 with
    | none =>
      have hmd : midA lt s L0 = ansV lt kd s L0 := by unfold midA; rw [hnw]; rfl
      rw [hnw] at hsnoc hv
      simp only [Option.toList_none, List.append_nil] at hsnoc
      have hx4 : (#[.int .i64 (midA lt s L0).value, .int .i64 (midA lt s L0).n, .bool (midA lt s L0).ok, pv] : Array Value).extract 0 4 = #[.int .i64 (midA lt s L0).value, .int .i64 (midA lt s L0).n, .bool (midA lt s L0).ok, pv] := rfl
      simp [-getElem?_pos, -Array.getElem?_eq_getElem, -Int.natCast_add, -op_lit_46_1, -op_lit_28_1, -op_lit_120_1, -op_alloc_54, -op_alloc_56, -op_st_54, -op_st_2, -op_st_3, -op_st_4, -op_st_46, hcell, hx4]
      refine op_push (u := [.int .i64 (midA lt s L0).value, .int .i64 (midA lt s L0).n, .bool (midA lt s L0).ok, pv]) (y := ansV lt kd s L0) (G2 := fun c => pv.ownBlock = some c) elA_ok apA (lit_ans _ _ _ _) rfl hone hO9 ⟨pv, by rw [hmd], by rw [← hmd]; exact hrow, fun _ h => h⟩ (fun c hc => ?_) (fun b hb hc => ?_) (by omega) (by omega) fun o' w12 k12 hO12 ho12 => ?_
      · obtain ⟨h1, cs', h2⟩ := hown c hc; have := lt_of_get h2; omega
      · have := (hown b hc).1; have := hlowO b hb; omega
      try simp [-getElem?_pos, -Array.getElem?_eq_getElem, -Int.natCast_add, -op_lit_46_1, -op_lit_28_1, -op_lit_120_1, -op_alloc_54, -op_alloc_56, -op_st_54, -op_st_2, -op_st_3, -op_st_4, -op_st_46]
      rw [show IntKind.i64.wrap ((i : Int) + 1) = ((i + 1 : Nat) : Int) from by rw [IntKind.wrap_i64]; omega]
      have hq12 := rows_quiet hO9 (by decide)
      refine ⟨(hI _ _ _ _).2 ⟨i + 1, bs, fun c => G c ∨ pv.ownBlock = some c, rfl, by omega, (kl.no k9).old k12 fun c hc => .inr (hlowO c hc.symm).1, ?_, ?_, ?_, ?_, ?_⟩, by simp only [nOf_int]; omega⟩
      · refine hR9.frame hE k12 (fun _ h => h.elim) fun b hb he => ?_
        obtain ⟨c1, t1⟩ := rows_ty hR9 b hb
        obtain ⟨c2, t2⟩ := rows_ty hO9 b he.symm
        rw [t1] at t2; cases t2
      · rw [hsnoc]; exact hbl
      · rw [hsnoc]
        intro j b L hb hL
        rw [hcsn]
        exact (((hV j b L hb hL).still k9).quiet hq12 k12).mono (by omega)
      · rw [hsnoc]; exact hO12
      · intro c hc
        rcases hc with hc | hc
        · obtain ⟨cs', h1⟩ := hGt c hc
          refine ⟨cs', k12.get (k9.get h1 fun h => h) fun he => ?_⟩
          obtain ⟨c2, t2⟩ := rows_ty hO9 c he.symm
          have := k9.get h1 fun h => h
          rw [this] at t2; cases t2
        · obtain ⟨h1, cs', h2⟩ := hown c hc
          exact ⟨cs', k12.get h2 fun he => by have := hlowO c he.symm; omega⟩
    | some mm =>
      have hmd : midA lt s L0 = zeroA := by unfold midA; rw [hnw]; rfl
      have han := ansV_new hnw
      rw [hnw] at hsnoc hv
      rw [hmd] at hcell hrow
      simp only [Option.toList_some] at hsnoc
      simp only [Option.getD_some] at hv
      simp [-getElem?_pos, -Array.getElem?_eq_getElem, -Int.natCast_add, -op_lit_46_1, -op_lit_28_1, -op_lit_120_1, -op_alloc_54, -op_alloc_56, -op_st_54, -op_st_2, -op_st_3, -op_st_4, -op_st_46]
      refine ver_len hv ?_
      refine op_store_ok (by kernel_rfl) hcell (by simp) rfl fun w10 k10 z10 b10 => ?_
      have b10 : w10.heap[ab]? = some (.cells #[.int .i64 0, .int .i64 mm.length, .bool false, pv] 56 (0, 0)) := by simpa [zeroA] using b10
      have n10 := k10.size
      have hv10 := hv.quiet (quiet_ans hcell) k10
      have k910 : Frm (fun _ => False) wl w10 := k9.old k10 fun c hc => .inr (by omega)
      have hR10 := hR.still hE k910
      have hO10 := hO.still elA_ok k910
      have hrow10 := hrow.frame k10 fun b hb he => by have := (hown b hb).1; omega
      try simp [-getElem?_pos, -Array.getElem?_eq_getElem, -Int.natCast_add, -op_lit_46_1, -op_lit_28_1, -op_lit_120_1, -op_alloc_54, -op_alloc_56, -op_st_54, -op_st_2, -op_st_3, -op_st_4, -op_st_46]
      refine op_push (u := [ptr b']) (y := b') (G2 := fun _ => False) hE apO (lit_120_1 rfl) rfl (by simp [ptr]) hR10 rfl (fun _ h => h.elim) (fun _ _ h => h) (by omega) (by omega) fun l' w11 k11 hR11 ho11 => ?_
      have n11 := k11.size
      have b11 := k11.get b10 fun he => by have := hlow ab he.symm; omega
      have hqR := rows_quiet hR10 (by decide)
      have hO11 := hO10.frame elA_ok k11 (fun c hc he => by
        obtain ⟨cs', h1⟩ := hGt c hc
        obtain ⟨c2, t2⟩ := rows_ty hR10 c he.symm
        rw [k910.get h1 fun h => h] at t2; cases t2) fun b hb he => by
        obtain ⟨c1, t1⟩ := rows_ty hO10 b hb
        obtain ⟨c2, t2⟩ := rows_ty hR10 b he.symm
        rw [t1] at t2; cases t2
      have hrow11 := hrow10.frame k11 fun b hb he => by have := (hown b hb).1; have := hlow b he.symm; omega
      have hx4 : (#[.int .i64 0, .int .i64 mm.length, .bool false, pv] : Array Value).extract 0 4 = #[.int .i64 0, .int .i64 mm.length, .bool false, pv] := rfl
      simp [-getElem?_pos, -Array.getElem?_eq_getElem, -Int.natCast_add, -op_lit_46_1, -op_lit_28_1, -op_lit_120_1, -op_alloc_54, -op_alloc_56, -op_st_54, -op_st_2, -op_st_3, -op_st_4, -op_st_46, b11, hx4]
      refine op_push (u := [.int .i64 0, .int .i64 mm.length, .bool false, pv]) (y := ansV lt kd s L0) (G2 := fun c => pv.ownBlock = some c) elA_ok apA (lit_ans _ _ _ _) rfl (fun u hu => ?_) hO11 ⟨pv, by rw [han], by rw [han]; exact hrow11, fun _ h => h⟩ (fun c hc => ?_) (fun b hb hc => ?_) (by omega) (by omega) fun o' w12 k12 hO12 ho12 => ?_
      · simp only [List.mem_cons, List.not_mem_nil, or_false] at hu
        rcases hu with rfl | rfl | rfl | rfl
        · rfl
        · rfl
        · rfl
        · exact hrow.one
      · obtain ⟨h1, cs', h2⟩ := hown c hc; have := lt_of_get h2; omega
      · have := (hown b hc).1; have := hlowO b hb; omega
      try simp [-getElem?_pos, -Array.getElem?_eq_getElem, -Int.natCast_add, -op_lit_46_1, -op_lit_28_1, -op_lit_120_1, -op_alloc_54, -op_alloc_56, -op_st_54, -op_st_2, -op_st_3, -op_st_4, -op_st_46]
      rw [show IntKind.i64.wrap ((i : Int) + 1) = ((i + 1 : Nat) : Int) from by rw [IntKind.wrap_i64]; omega]
      have hqO := rows_quiet hO11 (by decide)
      have hlow11 := hR11.own_lt
      have hty11 := rows_ty hR11
      refine ⟨(hI _ _ _ _).2 ⟨i + 1, bs ++ [b'], fun c => G c ∨ pv.ownBlock = some c, rfl, by omega, ((kl.no k910).old k11 fun c hc => .inr (hlow c hc.symm).1).old k12 fun c hc => .inr (hlowO c hc.symm).1, ?_, ?_, ?_, ?_, ?_⟩, by simp only [nOf_int]; omega⟩
      · refine (hR11.frame hE k12 (fun _ h => h.elim (fun h => h.elim) fun h => h.elim) fun b hb he => ?_).mono hE (G' := fun _ => False) (fun _ h => h.elim id fun h => h) (fun _ h => h.elim) fun _ _ h => h
        obtain ⟨c1, t1⟩ := rows_ty hR11 b hb
        obtain ⟨c2, t2⟩ := rows_ty hO11 b he.symm
        rw [t1] at t2; cases t2
      · rw [hsnoc]; simp [hbl]
      · rw [hsnoc]
        intro j b L hb hL
        rw [hcsn]
        by_cases hj : j < bs.length
        · rw [List.getElem?_append_left hj] at hb
          rw [List.getElem?_append_left (by omega)] at hL
          exact ((((hV j b L hb hL).still k910).quiet hqR k11).quiet hqO k12).mono (by omega)
        · rw [List.getElem?_append_right (by omega)] at hb
          rw [List.getElem?_append_right (by omega)] at hL
          have hj0 : j - bs.length = 0 := by
            have := (List.getElem?_eq_some_iff.1 hb).1
            simp at this; omega
          rw [hj0] at hb
          rw [← hbl, hj0] at hL
          simp at hb hL
          subst hb hL
          exact (hv10.quiet hqR k11).quiet hqO k12
      · rw [hsnoc]; exact hO12
      · intro c hc
        rcases hc with hc | hc
        · obtain ⟨cs', h1⟩ := hGt c hc
          have h2 := k910.get h1 fun h => h
          have h3 := k11.get h2 fun he => by
            obtain ⟨c2, t2⟩ := rows_ty hR10 c he.symm
            rw [h2] at t2; cases t2
          refine ⟨cs', k12.get h3 fun he => ?_⟩
          obtain ⟨c2, t2⟩ := rows_ty hO11 c he.symm
          rw [h3] at t2; cases t2
        · obtain ⟨h1, cs', h2⟩ := hown c hc
          have h3 := k10.get h2 (by omega)
          have h4 := k11.get h3 fun he => by have := hlow c he.symm; omega
          exact ⟨cs', k12.get h4 fun he => by have := hlowO c he.symm; omega⟩
end Go.Proofs.YtodjijfblgnfmaaGreatDoor.T
end
section
namespace Go.Proofs.YtodjijfblgnfmaaGreatDoor
open Go.Vc Go.Proofs
theorem catch_panicking (p : Addr) (x : Bool) (u : TypeId) (pv : Value) (older : List PanicEntry) (w : World) (hc : w.cell? p = some (.bool x)) (hz : w.frozen? p = false) :
    CallsD Tryz.prog 63 #[.pointer (some p)] (.panicking ({ v := .iface u pv, recovered := false } :: older)) w fun e u' w' =>
      e = .returned (.tuple #[]) ∧ u' = .panicking ({ v := .iface u pv, recovered := true } :: older) ∧ w' = w.setCell p (.bool true) := by
  refine callsD_of_wpS Tryz.func63 rfl fun c₀ cs hu => ?_
  apply wpS_region
  simp [wpOpsS, go_sem, recoverD, hu, Tryz.ntmps63, Exit.thenS, hc, hz, bodyPostS, results, Tryz.results63]
theorem catch_idle (p : Addr) (x : Bool) (w : World) (hc : w.cell? p = some (.bool x)) (hz : w.frozen? p = false) :
    CallsD Tryz.prog 63 #[.pointer (some p)] .returning w fun e u' w' => e = .returned (.tuple #[]) ∧ u' = .returning ∧ w' = w.setCell p (.bool false) := by
  refine callsD_of_wpS Tryz.func63 rfl fun c₀ cs hu => ?_
  apply wpS_region
  simp [wpOpsS, go_sem, recoverD, hu, Tryz.ntmps63, Exit.thenS, hc, hz, bodyPostS, results, Tryz.results63]
  cases c₀
  simp_all
theorem cell_at {w : World} {b : Nat} {v : Value} (h : w.heap[b]? = some (.cells #[v] 4 (0, 0))) : w.cell? ⟨b, 0, none⟩ = some v := by simp [World.cell?, h]
theorem frozen_at {w : World} {b : Nat} {v : Value} (h : w.heap[b]? = some (.cells #[v] 4 (0, 0))) : w.frozen? ⟨b, 0, none⟩ = false := by simp [World.frozen?, h]
theorem bool_set {w : World} {b : Nat} {v u : Value} (h : w.heap[b]? = some (.cells #[v] 4 (0, 0))) : w.setCell ⟨b, 0, none⟩ u = w.upd b (.cells #[u] 4 (0, 0)) := by
  rw [setCell_upd (p := ⟨b, 0, none⟩) h rfl]; rfl
theorem thrown_ok {f : FuncId} {x y : Array Value} {w : World} {K : KV} {Kp : KP} (hf : callFn Tryz.prog f = true)
    (hcall : Calls Tryz.prog f (x ++ y) (w.alloc (.cells #[.bool false] 4)) (ret (fun _ w' => w'.heap[w.heap.size]? = some (.cells #[.bool false] 4 (0, 0)) ∧ K (.bool false) w')
      (fun ch w' => ∃ u pv, ch = [{ v := .iface u pv, recovered := false }] ∧ w'.heap[w.heap.size]? = some (.cells #[.bool false] 4 (0, 0)) ∧ K (.bool true) (w'.upd w.heap.size (.cells #[.bool true] 4 (0, 0)))))) :
    Calls Tryz.prog 37 #[.func (.func f) x y] w (ret K Kp) := by
  have hmf : ∀ (fn : Fn) (first cap : Array Value) (w : World), (Instr.makeFunc fn first cap).run Tryz.prog w = .ok (.func fn first cap) w := fun _ _ _ _ => rfl
  go_enter_defers Tryz.func37, Tryz.ntmps37
  go_wp2
  rw [callFunc_run hf, Oper.upon_enter]
  refine hcall.mono ?_
  intro e w' he
  cases e with
  | returned v =>
    obtain ⟨hh, hK⟩ := he
    have hc := cell_at hh
    have hz := frozen_at hh
    have hs := fun u => bool_set (u := u) hh
    dsimp only
    go_wp2
    have hid : w'.upd w.heap.size (.cells #[.bool false] 4) = w' := upd_id hh
    rw [hid]
    refine leaves_cons (f := 63) (args := #[.pointer (some ⟨w.heap.size, 0, none⟩)]) (by simp) (by simp [go_sem]) ?_
    refine (catch_idle ⟨w.heap.size, 0, none⟩ false w' hc hz).mono ?_
    rintro e u' w'' ⟨rfl, rfl, rfl⟩
    rw [hs, hid]
    simp [Leaves, settle, results, Tryz.results37, go_sem, hc]
    exact hK
  | panicked ch =>
    obtain ⟨u, pv, rfl, hh, hK⟩ := he
    have hc := cell_at hh
    have hz := frozen_at hh
    have hs := fun u => bool_set (u := u) hh
    have hc2 := cell_at (heap_upd_same (o := .cells #[.bool true] 4 (0, 0)) hh)
    refine leaves_cons (f := 63) (args := #[.pointer (some ⟨w.heap.size, 0, none⟩)]) (by simp) (by simp [go_sem]) ?_
    refine (catch_panicking ⟨w.heap.size, 0, none⟩ false u pv [] w' hc hz).mono ?_
    rintro e u' w'' ⟨rfl, rfl, rfl⟩
    rw [hs]
    simp [Leaves, settle, results, Tryz.results37, go_sem, hc2]
    exact hK
  | outgrown => exact he.elim
end Go.Proofs.YtodjijfblgnfmaaGreatDoor
end
section
namespace Go.Proofs.YtodjijfblgnfmaaGreatDoor
open Go.Vc Go.Proofs Go.Vc.Bt
variable {w w' : World} {K : KV} {Kp : KP} {n : Int} {kn : Nat} {text : Bool}
def orderV (kn : Nat) (n : Int) : Value := .agg #[.int .u8 kn, .int .i64 n]
def ansOf (text : Bool) (kn : Nat) (n : Int) (steps : List SSt) : List SAns := if text then (runS (T.ordI kn n) T.kd steps).2 else (runS (I.ordI kn n) I.kd steps).2
structure Asks (text : Bool) (kn : Nat) (n : Int) (steps : List SSt) (w : World) : Prop where
  texts : ∀ s ∈ steps, s.text.size ≤ 100
  cost : scost steps < 2 ^ 30
  del : (∃ s ∈ steps, s.op = 1 ∨ s.op = 6) → I.DelOk (I.ordI kn n) ∧ T.DelOk (T.ordI kn n)
  get : (∃ s ∈ steps, s.op = 2) → I.GetOk (I.ordI kn n) ∧ T.GetOk (T.ordI kn n)
  back : (∃ s ∈ steps, s.op = 4) → I.BackOk (I.ordI kn n) ∧ T.BackOk (T.ordI kn n)
  many : (∃ s ∈ steps, s.op = 5 ∨ s.op = 6) → text = true → T.ManyOk w
theorem many_still (h : T.ManyOk w) (hf : Frm (fun _ => False) w w') : T.ManyOk w' := fun h1 h2 h3 => h h1 (hf.no h2) h3
theorem closure_ok {a2 : Option Addr} {c2 : Nat} {steps : List SSt} {b0 b1 b2 b3 : Nat} {v3 : Value} (h1 : -9223372036854775808 ≤ n) (h2 : n ≤ 9223372036854775807) (hr : Row w a2 (steps.flatMap SSt.cells)) (ha : Asks text kn n steps w)
    (k0 : w.heap[b0]? = some (.cells #[.bool text] 4 (0, 0))) (k1 : w.heap[b1]? = some (.cells #[.int .u8 kn, .int .i64 n] 31 (0, 0))) (k2 : w.heap[b2]? = some (.cells #[.slice a2 steps.length c2] 32 (0, 0)))
    (k3 : w.heap[b3]? = some (.cells #[v3] 28 (0, 0)))
    (hK : ∀ l w' G, Frm (· = b3) w w' → w'.heap[b3]? = some (.cells #[l] 28 (0, 0)) → RowsOf ElA w' w.heap.size 56 4 l (ansOf text kn n steps) G → K (.tuple #[]) w') :
    Calls Tryz.prog 38 #[.pointer (some ⟨b0, 0, none⟩), .pointer (some ⟨b1, 0, none⟩), .pointer (some ⟨b2, 0, none⟩), .pointer (some ⟨b3, 0, none⟩)] w (ret K Kp) := by
  refine vc38_calls ?_
  delta vc38
  have hx : (#[.int .u8 kn, .int .i64 n] : Array Value).extract 0 2 = #[.int .u8 kn, .int .i64 n] := rfl
  have hfin : ∀ {l : Value} {w9 : World} {G : Nat → Prop}, Frm (fun _ => False) w w9 → RowsOf ElA w9 w.heap.size 56 4 l (ansOf text kn n steps) G →
      nP.op (.store 28 (.pointer (some ⟨b3, 0, none⟩)) l) w9 (fun _ w => K (.tuple #[]) w) Kp := fun {l w9 G} k9 hR => by
    have hl3 := lt_of_get k3
    have hlow := hR.own_lt
    refine op_store_ok (by kernel_rfl) (k9.get k3 fun h => h) (by simp) hR.one fun w10 k10 z10 b10 => ?_
    refine hK l w10 G (k9.fst k10) (by simpa using b10) (hR.frame elA_ok k10 (fun c hc he => by have := (hR.low c hc).1; omega) fun b hb he => by have := (hlow b hb).1; omega)
  cases text with
  | true =>
    simp [-getElem?_pos, -Array.getElem?_eq_getElem, -Int.natCast_add, -op_alloc_28, -op_st_28, k0, k1, k2, hx]
    refine T.keys_ok fun w4 f4 => ?_
    have f4 := Frm.dr f4
    have q1 := f4.get k1 fun h => h
    have q2 := f4.get k2 fun h => h
    simp [-getElem?_pos, -Array.getElem?_eq_getElem, -Int.natCast_add, -op_alloc_28, -op_st_28, q1, q2, hx]
    refine T.comparer_ok h1 h2 fun cv w5 f5 hc => ?_
    have q5 := f5.get q2 fun h => h
    have f45 := f4.no f5
    simp [-getElem?_pos, -Array.getElem?_eq_getElem, -Int.natCast_add, -op_alloc_28, -op_st_28, q5]
    refine T.sortedRun_ok hc T.ordI_lin (hr.frame f45 fun _ _ h => h) ha.texts ha.cost (fun h => (ha.del h).2) (fun h => (ha.get h).2) (fun h => (ha.back h).2) (fun h => many_still (ha.many h rfl) f45) fun l w6 G f6 hR => ?_
    exact hfin (f45.no f6) (hR.base_le f45.size)
  | false =>
    simp [-getElem?_pos, -Array.getElem?_eq_getElem, -Int.natCast_add, -op_alloc_28, -op_st_28, k0, k1, k2, hx]
    refine I.keys_ok fun w4 f4 => ?_
    have f4 := Frm.dr f4
    have q1 := f4.get k1 fun h => h
    have q2 := f4.get k2 fun h => h
    simp [-getElem?_pos, -Array.getElem?_eq_getElem, -Int.natCast_add, -op_alloc_28, -op_st_28, q1, q2, hx]
    refine I.comparer_ok h1 h2 fun cv w5 f5 hc => ?_
    have q5 := f5.get q2 fun h => h
    have f45 := f4.no f5
    simp [-getElem?_pos, -Array.getElem?_eq_getElem, -Int.natCast_add, -op_alloc_28, -op_st_28, q5]
    refine I.sortedRun_ok hc I.ordI_lin (hr.frame f45 fun _ _ h => h) ha.texts ha.cost (fun h => (ha.del h).1) (fun h => (ha.get h).1) (fun h => (ha.back h).1) (fun h => I.many_ok _) fun l w6 G f6 hR => ?_
    exact hfin (f45.no f6) (hR.base_le f45.size)
theorem sorted_ok {a2 : Option Addr} {c2 : Nat} {steps : List SSt} (h1 : -9223372036854775808 ≤ n) (h2 : n ≤ 9223372036854775807) (hr : Row w a2 (steps.flatMap SSt.cells)) (ha : Asks text kn n steps w)
    (hK : ∀ l w' G, Frm (fun _ => False) w w' → RowsOf ElA w' w.heap.size 56 4 l (ansOf text kn n steps) G → K (.tuple #[l, .bool true]) w') :
    Calls Tryz.prog 15 #[.bool text, orderV kn n, .slice a2 steps.length c2] w (ret K Kp) := by
  refine vc15_calls ?_
  delta vc15 orderV
  refine op_box_ok fun w1 k1 z1 b1 => op_box_ok fun w2 k2 z2 b2 => op_box_ok fun w3 k3 z3 b3 => ?_
  rw [cells_of_one (by rfl)] at b1 b3
  simp only [cells_agg] at b2
  refine op_alloc_ok (z := .slice none 0 0) (by kernel_rfl) fun w4 k4 z4 b4 => ?_
  rw [cells_of_one (by rfl)] at b4
  have c1 := k4.get (k3.get (k2.get b1 fun h => h) fun h => h) fun h => h
  have c2' := k4.get (k3.get b2 fun h => h) fun h => h
  have c3 := k4.get b3 fun h => h
  have k04 := ((k1.no k2).no k3).no k4
  simp [-getElem?_pos, -Array.getElem?_eq_getElem, -Int.natCast_add, -op_alloc_28, -op_st_28]
  have k5 : Frm (fun _ => False) w4 (w4.alloc (.cells #[.bool false] 4)) := Frm.alloc _ _
  refine thrown_ok (x := #[]) (by kernel_rfl) ?_
  have k05 := k04.no k5
  rw [show (#[] ++ #[Value.pointer (some ⟨w.heap.size, 0, none⟩), .pointer (some ⟨w1.heap.size, 0, none⟩), .pointer (some ⟨w2.heap.size, 0, none⟩), .pointer (some ⟨w3.heap.size, 0, none⟩)] : Array Value) = #[.pointer (some ⟨w.heap.size, 0, none⟩), .pointer (some ⟨w1.heap.size, 0, none⟩), .pointer (some ⟨w2.heap.size, 0, none⟩), .pointer (some ⟨w3.heap.size, 0, none⟩)] from rfl]
  refine closure_ok (text := text) (kn := kn) (n := n) (steps := steps) h1 h2 (hr.frame k05 fun _ _ h => h) ⟨ha.texts, ha.cost, ha.del, ha.get, ha.back, fun h1 h2 => many_still (ha.many h1 h2) k05⟩ (k5.get c1 fun h => h) (k5.get c2' fun h => h) (k5.get c3 fun h => h) (k5.get b4 fun h => h) fun l w6 G k6 b6 hR => ?_
  have n1 := k1.size
  have n2 := k2.size
  have n3 := k3.size
  have n4 := k4.size
  have hlow := hR.own_lt
  have hsz : (w4.alloc (.cells #[.bool false] 4)).heap.size = w4.heap.size + 1 := by simp
  refine ⟨k6.get hp_alloc_new (by omega), ?_⟩
  simp [-getElem?_pos, -Array.getElem?_eq_getElem, -Int.natCast_add, -op_alloc_28, -op_st_28, b6]
  refine op_store_ok (by kernel_rfl) b6 (by simp) hR.one fun w7 k7 z7 b7 => ?_
  have b7 : w7.heap[w3.heap.size]? = some (.cells #[l] 28 (0, 0)) := by simpa using b7
  have := hK l w7 G ((k05.old k6 fun c hc => .inr (by omega)).old k7 fun c hc => .inr (by omega)) ((hR.frame elA_ok k7 (fun c hc he => by have := (hR.low c hc).1; omega) fun b hb he => by have := (hlow b hb).1; omega).base_le (by omega))
  simp [-getElem?_pos, -Array.getElem?_eq_getElem, -Int.natCast_add, -op_alloc_28, -op_st_28, b7]
  exact this
end Go.Proofs.YtodjijfblgnfmaaGreatDoor
end
section
namespace Go.Proofs.YtodjijfblgnfmaaGreatDoor
open Go.Vc Go.Proofs
variable {w : World} {K : KV} {Kp : KP} {K1 : Value → Prop}
@[simp] theorem op_fa_23_0 {p : Addr} : nP.op (.fieldAddr 23 (.pointer (some p)) 0) w K Kp = K (.pointer (some (p.add 0))) w := op_fa (k := .one) (by kernel_rfl)
@[simp] theorem pur_fa_23_0 {p : Addr} : nP.pur (.fieldAddr 23 (.pointer (some p)) 0) K1 = K1 (.pointer (some (p.add 0))) := pur_fa (k := .one) (by kernel_rfl)
@[simp] theorem op_fa_23_1 {p : Addr} : nP.op (.fieldAddr 23 (.pointer (some p)) 1) w K Kp = K (.pointer (some (p.add 1))) w := op_fa (k := .one) (by kernel_rfl)
@[simp] theorem pur_fa_23_1 {p : Addr} : nP.pur (.fieldAddr 23 (.pointer (some p)) 1) K1 = K1 (.pointer (some (p.add 1))) := pur_fa (k := .one) (by kernel_rfl)
@[simp] theorem op_ld_23 {p : Addr} : nP.op (.load 23 (.pointer (some p))) w K Kp = ∃ cs e fz, w.heap[p.block]? = some (.cells cs e fz) ∧ p.spot = none ∧ p.off + 2 ≤ cs.size ∧ K (.agg (cs.extract p.off (p.off + 2))) w := op_ldn (by kernel_rfl)
@[simp] theorem ld_ld_23 {p : Addr} : nP.ld (.load 23 (.pointer (some p))) w K1 = ∃ cs e fz, w.heap[p.block]? = some (.cells cs e fz) ∧ p.spot = none ∧ p.off + 2 ≤ cs.size ∧ K1 (.agg (cs.extract p.off (p.off + 2))) := ld_ldn (by kernel_rfl)
@[simp] theorem same_ld_23 {p : Addr} {v : Value} : nP.same (.load 23 (.pointer (some p))) v w = ∃ cs e fz, w.heap[p.block]? = some (.cells cs e fz) ∧ p.spot = none ∧ p.off + 2 ≤ cs.size ∧ .agg (cs.extract p.off (p.off + 2)) = v := same_ldn (by kernel_rfl)
@[simp] theorem call_29 {args : List Value} : nP.call (.fn 29) args w K Kp = Calls Tryz.prog 29 args.toArray w (ret K Kp) := call_fn (by kernel_rfl)
@[simp] theorem op_len_38 {a : Option Addr} {n c ty : Nat} : nP.op (.blt .len [38] ty [.slice a n c]) w K Kp = K (.int .i64 n) w := op_len_slice (by kernel_rfl)
@[simp] theorem pur_len_38 {a : Option Addr} {n c ty : Nat} : nP.pur (.blt .len [38] ty [.slice a n c]) K1 = K1 (.int .i64 n) := pur_len_slice (by kernel_rfl)
@[simp] theorem ld_len_38 {a : Option Addr} {n c ty : Nat} : nP.ld (.blt .len [38] ty [.slice a n c]) w K1 = K1 (.int .i64 n) := ld_len_slice (by kernel_rfl)
@[simp] theorem same_len_38 {a : Option Addr} {n c ty : Nat} {u : Value} : nP.same (.blt .len [38] ty [.slice a n c]) u w = (.int .i64 n = u) := same_len_slice (by kernel_rfl)
@[simp] theorem op_ix_38 {p : Addr} {len cap : Nat} {k : IntKind} {j : Int} : nP.op (.indexAddr 38 (.slice (some p) len cap) (.int k j)) w K Kp = ((0 ≤ j ∧ j < (len : Int)) ∧ K (.pointer (some (p.add (j.toNat * 3)))) w) := op_ix_slice (e := 45) (by kernel_rfl)
@[simp] theorem pur_ix_38 {p : Addr} {len cap : Nat} {k : IntKind} {j : Int} : nP.pur (.indexAddr 38 (.slice (some p) len cap) (.int k j)) K1 = ((0 ≤ j ∧ j < (len : Int)) ∧ K1 (.pointer (some (p.add (j.toNat * 3))))) := pur_ix_slice (e := 45) (by kernel_rfl)
@[simp] theorem op_ld_45 {p : Addr} : nP.op (.load 45 (.pointer (some p))) w K Kp = ∃ cs e fz, w.heap[p.block]? = some (.cells cs e fz) ∧ p.spot = none ∧ p.off + 3 ≤ cs.size ∧ K (.agg (cs.extract p.off (p.off + 3))) w := op_ldn (by kernel_rfl)
@[simp] theorem ld_ld_45 {p : Addr} : nP.ld (.load 45 (.pointer (some p))) w K1 = ∃ cs e fz, w.heap[p.block]? = some (.cells cs e fz) ∧ p.spot = none ∧ p.off + 3 ≤ cs.size ∧ K1 (.agg (cs.extract p.off (p.off + 3))) := ld_ldn (by kernel_rfl)
@[simp] theorem same_ld_45 {p : Addr} {v : Value} : nP.same (.load 45 (.pointer (some p))) v w = ∃ cs e fz, w.heap[p.block]? = some (.cells cs e fz) ∧ p.spot = none ∧ p.off + 3 ≤ cs.size ∧ .agg (cs.extract p.off (p.off + 3)) = v := same_ldn (by kernel_rfl)
@[simp] theorem op_st_45 {p : Addr} {vs : Array Value} : nP.op (.store 45 (.pointer (some p)) (.agg vs)) w K Kp = (vs.size = 3 ∧ (∀ u ∈ vs.toList, u.oneCell' = true) ∧ ∃ cs e, w.heap[p.block]? = some (.cells cs e (0, 0)) ∧ p.spot = none ∧ p.off + 3 ≤ cs.size ∧ K undef (w.upd p.block (.cells (ow cs p.off vs.toList) e (0, 0)))) := op_stn (by kernel_rfl)
@[simp] theorem op_alloc_45 : nP.op (.alloc 45) w K Kp = K (.pointer (some ⟨w.heap.size, 0, none⟩)) (w.alloc (.cells #[Value.int IntKind.i64 0, Value.string ByteArray.empty, Value.int IntKind.i64 0] 45)) := op_alloc (z := (.agg #[(Value.int IntKind.i64 0), (Value.string ByteArray.empty), (Value.int IntKind.i64 0)])) (by kernel_rfl)
@[simp] theorem op_fa_45_1 {p : Addr} : nP.op (.fieldAddr 45 (.pointer (some p)) 1) w K Kp = K (.pointer (some (p.add 1))) w := op_fa (k := .one) (by kernel_rfl)
@[simp] theorem pur_fa_45_1 {p : Addr} : nP.pur (.fieldAddr 45 (.pointer (some p)) 1) K1 = K1 (.pointer (some (p.add 1))) := pur_fa (k := .one) (by kernel_rfl)
@[simp] theorem op_fa_45_0 {p : Addr} : nP.op (.fieldAddr 45 (.pointer (some p)) 0) w K Kp = K (.pointer (some (p.add 0))) w := op_fa (k := .one) (by kernel_rfl)
@[simp] theorem pur_fa_45_0 {p : Addr} : nP.pur (.fieldAddr 45 (.pointer (some p)) 0) K1 = K1 (.pointer (some (p.add 0))) := pur_fa (k := .one) (by kernel_rfl)
@[simp] theorem op_fa_45_2 {p : Addr} : nP.op (.fieldAddr 45 (.pointer (some p)) 2) w K Kp = K (.pointer (some (p.add 2))) w := op_fa (k := .one) (by kernel_rfl)
@[simp] theorem pur_fa_45_2 {p : Addr} : nP.pur (.fieldAddr 45 (.pointer (some p)) 2) K1 = K1 (.pointer (some (p.add 2))) := pur_fa (k := .one) (by kernel_rfl)
theorem build_54_0_1_2_3_4 {x0 : Value} {x1 : Value} {x2 : Value} {x3 : Value} {x4 : Value} (h0 : x0.oneCell' = true) (h1 : x1.oneCell' = true) (h2 : x2.oneCell' = true) (h3 : x3.oneCell' = true) (h4 : x4.oneCell' = true) : buildV Tryz.prog 54 [(0, x0), (1, x1), (2, x2), (3, x3), (4, x4)] = some (.agg (#[x0, x1, x2, x3, x4, Value.int IntKind.i64 0, Value.int IntKind.i64 0])) := by
  have e : buildV Tryz.prog 54 [(0, x0), (1, x1), (2, x2), (3, x3), (4, x4)] = (Instr.fill ((#[(0, 1), (1, 1), (2, 1), (3, 1), (4, 1), (5, 1), (6, 1)] : Array (Nat × Nat))[·]?) (#[Value.int IntKind.u8 0, Value.int IntKind.i64 0, Value.int IntKind.i64 0, Value.string ByteArray.empty, Value.int IntKind.i64 0, Value.int IntKind.i64 0, Value.int IntKind.i64 0]) [(0, x0), (1, x1), (2, x2), (3, x3), (4, x4)]).map .agg := by kernel_rfl
  rw [e]; simp [Instr.fill, cells_of_one h0, cells_of_one h1, cells_of_one h2, cells_of_one h3, cells_of_one h4]
@[simp] theorem op_build_54_0_1_2_3_4 {x0 : Value} {x1 : Value} {x2 : Value} {x3 : Value} {x4 : Value} (h0 : x0.oneCell' = true) (h1 : x1.oneCell' = true) (h2 : x2.oneCell' = true) (h3 : x3.oneCell' = true) (h4 : x4.oneCell' = true) : nP.op (.build 54 [(0, x0), (1, x1), (2, x2), (3, x3), (4, x4)]) w K Kp = K (.agg (#[x0, x1, x2, x3, x4, Value.int IntKind.i64 0, Value.int IntKind.i64 0])) w := op_build (build_54_0_1_2_3_4 h0 h1 h2 h3 h4)
@[simp] theorem pur_build_54_0_1_2_3_4 {x0 : Value} {x1 : Value} {x2 : Value} {x3 : Value} {x4 : Value} (h0 : x0.oneCell' = true) (h1 : x1.oneCell' = true) (h2 : x2.oneCell' = true) (h3 : x3.oneCell' = true) (h4 : x4.oneCell' = true) : nP.pur (.build 54 [(0, x0), (1, x1), (2, x2), (3, x3), (4, x4)]) K1 = K1 (.agg (#[x0, x1, x2, x3, x4, Value.int IntKind.i64 0, Value.int IntKind.i64 0])) := pur_build (build_54_0_1_2_3_4 h0 h1 h2 h3 h4)
theorem lit_32_1 {y0_0 y0_1 y0_2 y0_3 y0_4 y0_5 y0_6 : Value} : sliceLit Tryz.prog 32 1 [(0, .agg #[y0_0, y0_1, y0_2, y0_3, y0_4, y0_5, y0_6])] = some (54, #[y0_0, y0_1, y0_2, y0_3, y0_4, y0_5, y0_6]) := by
  have e : sliceLit Tryz.prog 32 1 [(0, .agg #[y0_0, y0_1, y0_2, y0_3, y0_4, y0_5, y0_6])] = (Instr.fill (fun i => some (i * 7, 7)) (#[Value.int IntKind.u8 0, Value.int IntKind.i64 0, Value.int IntKind.i64 0, Value.string ByteArray.empty, Value.int IntKind.i64 0, Value.int IntKind.i64 0, Value.int IntKind.i64 0]) [(0, .agg #[y0_0, y0_1, y0_2, y0_3, y0_4, y0_5, y0_6])]).map fun cs => (54, cs) := by kernel_rfl
  rw [e]; simp [Instr.fill, Value.cells]
@[simp] theorem op_lit_32_1 {y0_0 y0_1 y0_2 y0_3 y0_4 y0_5 y0_6 : Value} : nP.op (.buildSlice 32 1 [(0, .agg #[y0_0, y0_1, y0_2, y0_3, y0_4, y0_5, y0_6])]) w K Kp = K (.slice (some ⟨w.heap.size, 0, none⟩) 1 1) (w.alloc (.cells #[y0_0, y0_1, y0_2, y0_3, y0_4, y0_5, y0_6] 54)) := op_lit (lit_32_1)
@[simp] theorem op_len_46 {a : Option Addr} {n c ty : Nat} : nP.op (.blt .len [46] ty [.slice a n c]) w K Kp = K (.int .i64 n) w := op_len_slice (by kernel_rfl)
@[simp] theorem pur_len_46 {a : Option Addr} {n c ty : Nat} : nP.pur (.blt .len [46] ty [.slice a n c]) K1 = K1 (.int .i64 n) := pur_len_slice (by kernel_rfl)
@[simp] theorem ld_len_46 {a : Option Addr} {n c ty : Nat} : nP.ld (.blt .len [46] ty [.slice a n c]) w K1 = K1 (.int .i64 n) := ld_len_slice (by kernel_rfl)
@[simp] theorem same_len_46 {a : Option Addr} {n c ty : Nat} {u : Value} : nP.same (.blt .len [46] ty [.slice a n c]) u w = (.int .i64 n = u) := same_len_slice (by kernel_rfl)
@[simp] theorem op_ix_46 {p : Addr} {len cap : Nat} {k : IntKind} {j : Int} : nP.op (.indexAddr 46 (.slice (some p) len cap) (.int k j)) w K Kp = ((0 ≤ j ∧ j < (len : Int)) ∧ K (.pointer (some (p.add (j.toNat * 3)))) w) := op_ix_slice (e := 49) (by kernel_rfl)
@[simp] theorem pur_ix_46 {p : Addr} {len cap : Nat} {k : IntKind} {j : Int} : nP.pur (.indexAddr 46 (.slice (some p) len cap) (.int k j)) K1 = ((0 ≤ j ∧ j < (len : Int)) ∧ K1 (.pointer (some (p.add (j.toNat * 3))))) := pur_ix_slice (e := 49) (by kernel_rfl)
theorem build_23_  : buildV Tryz.prog 23 [] = some (.agg (#[Value.int IntKind.u8 0, Value.int IntKind.i64 0])) := by
  have e : buildV Tryz.prog 23 [] = (Instr.fill ((#[(0, 1), (1, 1)] : Array (Nat × Nat))[·]?) (#[Value.int IntKind.u8 0, Value.int IntKind.i64 0]) []).map .agg := by kernel_rfl
  rw [e]; simp [Instr.fill]
@[simp] theorem op_build_23_  : nP.op (.build 23 []) w K Kp = K (.agg (#[Value.int IntKind.u8 0, Value.int IntKind.i64 0])) w := op_build (build_23_)
@[simp] theorem pur_build_23_  : nP.pur (.build 23 []) K1 = K1 (.agg (#[Value.int IntKind.u8 0, Value.int IntKind.i64 0])) := pur_build (build_23_)
theorem build_45_0_2 {x0 : Value} {x2 : Value} (h0 : x0.oneCell' = true) (h2 : x2.oneCell' = true) : buildV Tryz.prog 45 [(0, x0), (2, x2)] = some (.agg (#[x0, Value.string ByteArray.empty, x2])) := by
  have e : buildV Tryz.prog 45 [(0, x0), (2, x2)] = (Instr.fill ((#[(0, 1), (1, 1), (2, 1)] : Array (Nat × Nat))[·]?) (#[Value.int IntKind.i64 0, Value.string ByteArray.empty, Value.int IntKind.i64 0]) [(0, x0), (2, x2)]).map .agg := by kernel_rfl
  rw [e]; simp [Instr.fill, cells_of_one h0, cells_of_one h2]
@[simp] theorem op_build_45_0_2 {x0 : Value} {x2 : Value} (h0 : x0.oneCell' = true) (h2 : x2.oneCell' = true) : nP.op (.build 45 [(0, x0), (2, x2)]) w K Kp = K (.agg (#[x0, Value.string ByteArray.empty, x2])) w := op_build (build_45_0_2 h0 h2)
@[simp] theorem pur_build_45_0_2 {x0 : Value} {x2 : Value} (h0 : x0.oneCell' = true) (h2 : x2.oneCell' = true) : nP.pur (.build 45 [(0, x0), (2, x2)]) K1 = K1 (.agg (#[x0, Value.string ByteArray.empty, x2])) := pur_build (build_45_0_2 h0 h2)
theorem lit_38_2 {y0_0 y0_1 y0_2 y1_0 y1_1 y1_2 : Value} : sliceLit Tryz.prog 38 2 [(0, .agg #[y0_0, y0_1, y0_2]), (1, .agg #[y1_0, y1_1, y1_2])] = some (45, #[y0_0, y0_1, y0_2, y1_0, y1_1, y1_2]) := by
  have e : sliceLit Tryz.prog 38 2 [(0, .agg #[y0_0, y0_1, y0_2]), (1, .agg #[y1_0, y1_1, y1_2])] = (Instr.fill (fun i => some (i * 3, 3)) (#[Value.int IntKind.i64 0, Value.string ByteArray.empty, Value.int IntKind.i64 0, Value.int IntKind.i64 0, Value.string ByteArray.empty, Value.int IntKind.i64 0]) [(0, .agg #[y0_0, y0_1, y0_2]), (1, .agg #[y1_0, y1_1, y1_2])]).map fun cs => (45, cs) := by kernel_rfl
  rw [e]; simp [Instr.fill, Value.cells]
@[simp] theorem op_lit_38_2 {y0_0 y0_1 y0_2 y1_0 y1_1 y1_2 : Value} : nP.op (.buildSlice 38 2 [(0, .agg #[y0_0, y0_1, y0_2]), (1, .agg #[y1_0, y1_1, y1_2])]) w K Kp = K (.slice (some ⟨w.heap.size, 0, none⟩) 2 2) (w.alloc (.cells #[y0_0, y0_1, y0_2, y1_0, y1_1, y1_2] 45)) := op_lit (lit_38_2)
@[simp] theorem call_22 {args : List Value} : nP.call (.fn 22) args w K Kp = Calls Tryz.prog 22 args.toArray w (ret K Kp) := call_fn (by kernel_rfl)
@[simp] theorem call_32 {args : List Value} : nP.call (.fn 32) args w K Kp = Calls Tryz.prog 32 args.toArray w (ret K Kp) := call_fn (by kernel_rfl)
theorem build_54_0 {x0 : Value} (h0 : x0.oneCell' = true) : buildV Tryz.prog 54 [(0, x0)] = some (.agg (#[x0, Value.int IntKind.i64 0, Value.int IntKind.i64 0, Value.string ByteArray.empty, Value.int IntKind.i64 0, Value.int IntKind.i64 0, Value.int IntKind.i64 0])) := by
  have e : buildV Tryz.prog 54 [(0, x0)] = (Instr.fill ((#[(0, 1), (1, 1), (2, 1), (3, 1), (4, 1), (5, 1), (6, 1)] : Array (Nat × Nat))[·]?) (#[Value.int IntKind.u8 0, Value.int IntKind.i64 0, Value.int IntKind.i64 0, Value.string ByteArray.empty, Value.int IntKind.i64 0, Value.int IntKind.i64 0, Value.int IntKind.i64 0]) [(0, x0)]).map .agg := by kernel_rfl
  rw [e]; simp [Instr.fill, cells_of_one h0]
@[simp] theorem op_build_54_0 {x0 : Value} (h0 : x0.oneCell' = true) : nP.op (.build 54 [(0, x0)]) w K Kp = K (.agg (#[x0, Value.int IntKind.i64 0, Value.int IntKind.i64 0, Value.string ByteArray.empty, Value.int IntKind.i64 0, Value.int IntKind.i64 0, Value.int IntKind.i64 0])) w := op_build (build_54_0 h0)
@[simp] theorem pur_build_54_0 {x0 : Value} (h0 : x0.oneCell' = true) : nP.pur (.build 54 [(0, x0)]) K1 = K1 (.agg (#[x0, Value.int IntKind.i64 0, Value.int IntKind.i64 0, Value.string ByteArray.empty, Value.int IntKind.i64 0, Value.int IntKind.i64 0, Value.int IntKind.i64 0])) := pur_build (build_54_0 h0)
@[simp] theorem call_23 {args : List Value} : nP.call (.fn 23) args w K Kp = Calls Tryz.prog 23 args.toArray w (ret K Kp) := call_fn (by kernel_rfl)
@[simp] theorem call_15 {args : List Value} : nP.call (.fn 15) args w K Kp = Calls Tryz.prog 15 args.toArray w (ret K Kp) := call_fn (by kernel_rfl)
@[simp] theorem op_len_28 {a : Option Addr} {n c ty : Nat} : nP.op (.blt .len [28] ty [.slice a n c]) w K Kp = K (.int .i64 n) w := op_len_slice (by kernel_rfl)
@[simp] theorem pur_len_28 {a : Option Addr} {n c ty : Nat} : nP.pur (.blt .len [28] ty [.slice a n c]) K1 = K1 (.int .i64 n) := pur_len_slice (by kernel_rfl)
@[simp] theorem ld_len_28 {a : Option Addr} {n c ty : Nat} : nP.ld (.blt .len [28] ty [.slice a n c]) w K1 = K1 (.int .i64 n) := ld_len_slice (by kernel_rfl)
@[simp] theorem same_len_28 {a : Option Addr} {n c ty : Nat} {u : Value} : nP.same (.blt .len [28] ty [.slice a n c]) u w = (.int .i64 n = u) := same_len_slice (by kernel_rfl)
@[simp] theorem op_ix_28 {p : Addr} {len cap : Nat} {k : IntKind} {j : Int} : nP.op (.indexAddr 28 (.slice (some p) len cap) (.int k j)) w K Kp = ((0 ≤ j ∧ j < (len : Int)) ∧ K (.pointer (some (p.add (j.toNat * 4)))) w) := op_ix_slice (e := 56) (by kernel_rfl)
@[simp] theorem pur_ix_28 {p : Addr} {len cap : Nat} {k : IntKind} {j : Int} : nP.pur (.indexAddr 28 (.slice (some p) len cap) (.int k j)) K1 = ((0 ≤ j ∧ j < (len : Int)) ∧ K1 (.pointer (some (p.add (j.toNat * 4))))) := pur_ix_slice (e := 56) (by kernel_rfl)
@[simp] theorem call_14 {args : List Value} : nP.call (.fn 14) args w K Kp = Calls Tryz.prog 14 args.toArray w (ret K Kp) := call_fn (by kernel_rfl)
theorem build_23_0 {x0 : Value} (h0 : x0.oneCell' = true) : buildV Tryz.prog 23 [(0, x0)] = some (.agg (#[x0, Value.int IntKind.i64 0])) := by
  have e : buildV Tryz.prog 23 [(0, x0)] = (Instr.fill ((#[(0, 1), (1, 1)] : Array (Nat × Nat))[·]?) (#[Value.int IntKind.u8 0, Value.int IntKind.i64 0]) [(0, x0)]).map .agg := by kernel_rfl
  rw [e]; simp [Instr.fill, cells_of_one h0]
@[simp] theorem op_build_23_0 {x0 : Value} (h0 : x0.oneCell' = true) : nP.op (.build 23 [(0, x0)]) w K Kp = K (.agg (#[x0, Value.int IntKind.i64 0])) w := op_build (build_23_0 h0)
@[simp] theorem pur_build_23_0 {x0 : Value} (h0 : x0.oneCell' = true) : nP.pur (.build 23 [(0, x0)]) K1 = K1 (.agg (#[x0, Value.int IntKind.i64 0])) := pur_build (build_23_0 h0)
theorem lit_32_10 {y0_0 y0_1 y0_2 y0_3 y0_4 y0_5 y0_6 y1_0 y1_1 y1_2 y1_3 y1_4 y1_5 y1_6 y2_0 y2_1 y2_2 y2_3 y2_4 y2_5 y2_6 y3_0 y3_1 y3_2 y3_3 y3_4 y3_5 y3_6 y4_0 y4_1 y4_2 y4_3 y4_4 y4_5 y4_6 y5_0 y5_1 y5_2 y5_3 y5_4 y5_5 y5_6 y6_0 y6_1 y6_2 y6_3 y6_4 y6_5 y6_6 y7_0 y7_1 y7_2 y7_3 y7_4 y7_5 y7_6 y8_0 y8_1 y8_2 y8_3 y8_4 y8_5 y8_6 y9_0 y9_1 y9_2 y9_3 y9_4 y9_5 y9_6 : Value} : sliceLit Tryz.prog 32 10 [(0, .agg #[y0_0, y0_1, y0_2, y0_3, y0_4, y0_5, y0_6]), (1, .agg #[y1_0, y1_1, y1_2, y1_3, y1_4, y1_5, y1_6]), (2, .agg #[y2_0, y2_1, y2_2, y2_3, y2_4, y2_5, y2_6]), (3, .agg #[y3_0, y3_1, y3_2, y3_3, y3_4, y3_5, y3_6]), (4, .agg #[y4_0, y4_1, y4_2, y4_3, y4_4, y4_5, y4_6]), (5, .agg #[y5_0, y5_1, y5_2, y5_3, y5_4, y5_5, y5_6]), (6, .agg #[y6_0, y6_1, y6_2, y6_3, y6_4, y6_5, y6_6]), (7, .agg #[y7_0, y7_1, y7_2, y7_3, y7_4, y7_5, y7_6]), (8, .agg #[y8_0, y8_1, y8_2, y8_3, y8_4, y8_5, y8_6]), (9, .agg #[y9_0, y9_1, y9_2, y9_3, y9_4, y9_5, y9_6])] = some (54, #[y0_0, y0_1, y0_2, y0_3, y0_4, y0_5, y0_6, y1_0, y1_1, y1_2, y1_3, y1_4, y1_5, y1_6, y2_0, y2_1, y2_2, y2_3, y2_4, y2_5, y2_6, y3_0, y3_1, y3_2, y3_3, y3_4, y3_5, y3_6, y4_0, y4_1, y4_2, y4_3, y4_4, y4_5, y4_6, y5_0, y5_1, y5_2, y5_3, y5_4, y5_5, y5_6, y6_0, y6_1, y6_2, y6_3, y6_4, y6_5, y6_6, y7_0, y7_1, y7_2, y7_3, y7_4, y7_5, y7_6, y8_0, y8_1, y8_2, y8_3, y8_4, y8_5, y8_6, y9_0, y9_1, y9_2, y9_3, y9_4, y9_5, y9_6]) := by
  have e : sliceLit Tryz.prog 32 10 [(0, .agg #[y0_0, y0_1, y0_2, y0_3, y0_4, y0_5, y0_6]), (1, .agg #[y1_0, y1_1, y1_2, y1_3, y1_4, y1_5, y1_6]), (2, .agg #[y2_0, y2_1, y2_2, y2_3, y2_4, y2_5, y2_6]), (3, .agg #[y3_0, y3_1, y3_2, y3_3, y3_4, y3_5, y3_6]), (4, .agg #[y4_0, y4_1, y4_2, y4_3, y4_4, y4_5, y4_6]), (5, .agg #[y5_0, y5_1, y5_2, y5_3, y5_4, y5_5, y5_6]), (6, .agg #[y6_0, y6_1, y6_2, y6_3, y6_4, y6_5, y6_6]), (7, .agg #[y7_0, y7_1, y7_2, y7_3, y7_4, y7_5, y7_6]), (8, .agg #[y8_0, y8_1, y8_2, y8_3, y8_4, y8_5, y8_6]), (9, .agg #[y9_0, y9_1, y9_2, y9_3, y9_4, y9_5, y9_6])] = (Instr.fill (fun i => some (i * 7, 7)) (#[Value.int IntKind.u8 0, Value.int IntKind.i64 0, Value.int IntKind.i64 0, Value.string ByteArray.empty, Value.int IntKind.i64 0, Value.int IntKind.i64 0, Value.int IntKind.i64 0, Value.int IntKind.u8 0, Value.int IntKind.i64 0, Value.int IntKind.i64 0, Value.string ByteArray.empty, Value.int IntKind.i64 0, Value.int IntKind.i64 0, Value.int IntKind.i64 0, Value.int IntKind.u8 0, Value.int IntKind.i64 0, Value.int IntKind.i64 0, Value.string ByteArray.empty, Value.int IntKind.i64 0, Value.int IntKind.i64 0, Value.int IntKind.i64 0, Value.int IntKind.u8 0, Value.int IntKind.i64 0, Value.int IntKind.i64 0, Value.string ByteArray.empty, Value.int IntKind.i64 0, Value.int IntKind.i64 0, Value.int IntKind.i64 0, Value.int IntKind.u8 0, Value.int IntKind.i64 0, Value.int IntKind.i64 0, Value.string ByteArray.empty, Value.int IntKind.i64 0, Value.int IntKind.i64 0, Value.int IntKind.i64 0, Value.int IntKind.u8 0, Value.int IntKind.i64 0, Value.int IntKind.i64 0, Value.string ByteArray.empty, Value.int IntKind.i64 0, Value.int IntKind.i64 0, Value.int IntKind.i64 0, Value.int IntKind.u8 0, Value.int IntKind.i64 0, Value.int IntKind.i64 0, Value.string ByteArray.empty, Value.int IntKind.i64 0, Value.int IntKind.i64 0, Value.int IntKind.i64 0, Value.int IntKind.u8 0, Value.int IntKind.i64 0, Value.int IntKind.i64 0, Value.string ByteArray.empty, Value.int IntKind.i64 0, Value.int IntKind.i64 0, Value.int IntKind.i64 0, Value.int IntKind.u8 0, Value.int IntKind.i64 0, Value.int IntKind.i64 0, Value.string ByteArray.empty, Value.int IntKind.i64 0, Value.int IntKind.i64 0, Value.int IntKind.i64 0, Value.int IntKind.u8 0, Value.int IntKind.i64 0, Value.int IntKind.i64 0, Value.string ByteArray.empty, Value.int IntKind.i64 0, Value.int IntKind.i64 0, Value.int IntKind.i64 0]) [(0, .agg #[y0_0, y0_1, y0_2, y0_3, y0_4, y0_5, y0_6]), (1, .agg #[y1_0, y1_1, y1_2, y1_3, y1_4, y1_5, y1_6]), (2, .agg #[y2_0, y2_1, y2_2, y2_3, y2_4, y2_5, y2_6]), (3, .agg #[y3_0, y3_1, y3_2, y3_3, y3_4, y3_5, y3_6]), (4, .agg #[y4_0, y4_1, y4_2, y4_3, y4_4, y4_5, y4_6]), (5, .agg #[y5_0, y5_1, y5_2, y5_3, y5_4, y5_5, y5_6]), (6, .agg #[y6_0, y6_1, y6_2, y6_3, y6_4, y6_5, y6_6]), (7, .agg #[y7_0, y7_1, y7_2, y7_3, y7_4, y7_5, y7_6]), (8, .agg #[y8_0, y8_1, y8_2, y8_3, y8_4, y8_5, y8_6]), (9, .agg #[y9_0, y9_1, y9_2, y9_3, y9_4, y9_5, y9_6])]).map fun cs => (54, cs) := by kernel_rfl
  rw [e]; simp [Instr.fill, Value.cells]
@[simp] theorem op_lit_32_10 {y0_0 y0_1 y0_2 y0_3 y0_4 y0_5 y0_6 y1_0 y1_1 y1_2 y1_3 y1_4 y1_5 y1_6 y2_0 y2_1 y2_2 y2_3 y2_4 y2_5 y2_6 y3_0 y3_1 y3_2 y3_3 y3_4 y3_5 y3_6 y4_0 y4_1 y4_2 y4_3 y4_4 y4_5 y4_6 y5_0 y5_1 y5_2 y5_3 y5_4 y5_5 y5_6 y6_0 y6_1 y6_2 y6_3 y6_4 y6_5 y6_6 y7_0 y7_1 y7_2 y7_3 y7_4 y7_5 y7_6 y8_0 y8_1 y8_2 y8_3 y8_4 y8_5 y8_6 y9_0 y9_1 y9_2 y9_3 y9_4 y9_5 y9_6 : Value} : nP.op (.buildSlice 32 10 [(0, .agg #[y0_0, y0_1, y0_2, y0_3, y0_4, y0_5, y0_6]), (1, .agg #[y1_0, y1_1, y1_2, y1_3, y1_4, y1_5, y1_6]), (2, .agg #[y2_0, y2_1, y2_2, y2_3, y2_4, y2_5, y2_6]), (3, .agg #[y3_0, y3_1, y3_2, y3_3, y3_4, y3_5, y3_6]), (4, .agg #[y4_0, y4_1, y4_2, y4_3, y4_4, y4_5, y4_6]), (5, .agg #[y5_0, y5_1, y5_2, y5_3, y5_4, y5_5, y5_6]), (6, .agg #[y6_0, y6_1, y6_2, y6_3, y6_4, y6_5, y6_6]), (7, .agg #[y7_0, y7_1, y7_2, y7_3, y7_4, y7_5, y7_6]), (8, .agg #[y8_0, y8_1, y8_2, y8_3, y8_4, y8_5, y8_6]), (9, .agg #[y9_0, y9_1, y9_2, y9_3, y9_4, y9_5, y9_6])]) w K Kp = K (.slice (some ⟨w.heap.size, 0, none⟩) 10 10) (w.alloc (.cells #[y0_0, y0_1, y0_2, y0_3, y0_4, y0_5, y0_6, y1_0, y1_1, y1_2, y1_3, y1_4, y1_5, y1_6, y2_0, y2_1, y2_2, y2_3, y2_4, y2_5, y2_6, y3_0, y3_1, y3_2, y3_3, y3_4, y3_5, y3_6, y4_0, y4_1, y4_2, y4_3, y4_4, y4_5, y4_6, y5_0, y5_1, y5_2, y5_3, y5_4, y5_5, y5_6, y6_0, y6_1, y6_2, y6_3, y6_4, y6_5, y6_6, y7_0, y7_1, y7_2, y7_3, y7_4, y7_5, y7_6, y8_0, y8_1, y8_2, y8_3, y8_4, y8_5, y8_6, y9_0, y9_1, y9_2, y9_3, y9_4, y9_5, y9_6] 54)) := op_lit (lit_32_10)
@[simp] theorem call_59 {args : List Value} : nP.call (.fn 59) args w K Kp = Calls Tryz.prog 59 args.toArray w (ret K Kp) := call_fn (by kernel_rfl)
@[simp] theorem call_34 {args : List Value} : nP.call (.fn 34) args w K Kp = Calls Tryz.prog 34 args.toArray w (ret K Kp) := call_fn (by kernel_rfl)
@[simp] theorem call_48 {args : List Value} : nP.call (.fn 48) args w K Kp = Calls Tryz.prog 48 args.toArray w (ret K Kp) := call_fn (by kernel_rfl)
theorem build_45_  : buildV Tryz.prog 45 [] = some (.agg (#[Value.int IntKind.i64 0, Value.string ByteArray.empty, Value.int IntKind.i64 0])) := by
  have e : buildV Tryz.prog 45 [] = (Instr.fill ((#[(0, 1), (1, 1), (2, 1)] : Array (Nat × Nat))[·]?) (#[Value.int IntKind.i64 0, Value.string ByteArray.empty, Value.int IntKind.i64 0]) []).map .agg := by kernel_rfl
  rw [e]; simp [Instr.fill]
@[simp] theorem op_build_45_  : nP.op (.build 45 []) w K Kp = K (.agg (#[Value.int IntKind.i64 0, Value.string ByteArray.empty, Value.int IntKind.i64 0])) w := op_build (build_45_)
@[simp] theorem pur_build_45_  : nP.pur (.build 45 []) K1 = K1 (.agg (#[Value.int IntKind.i64 0, Value.string ByteArray.empty, Value.int IntKind.i64 0])) := pur_build (build_45_)
theorem lit_38_1 {y0_0 y0_1 y0_2 : Value} : sliceLit Tryz.prog 38 1 [(0, .agg #[y0_0, y0_1, y0_2])] = some (45, #[y0_0, y0_1, y0_2]) := by
  have e : sliceLit Tryz.prog 38 1 [(0, .agg #[y0_0, y0_1, y0_2])] = (Instr.fill (fun i => some (i * 3, 3)) (#[Value.int IntKind.i64 0, Value.string ByteArray.empty, Value.int IntKind.i64 0]) [(0, .agg #[y0_0, y0_1, y0_2])]).map fun cs => (45, cs) := by kernel_rfl
  rw [e]; simp [Instr.fill, Value.cells]
@[simp] theorem op_lit_38_1 {y0_0 y0_1 y0_2 : Value} : nP.op (.buildSlice 38 1 [(0, .agg #[y0_0, y0_1, y0_2])]) w K Kp = K (.slice (some ⟨w.heap.size, 0, none⟩) 1 1) (w.alloc (.cells #[y0_0, y0_1, y0_2] 45)) := op_lit (lit_38_1)
@[simp] theorem call_46 {args : List Value} : nP.call (.fn 46) args w K Kp = Calls Tryz.prog 46 args.toArray w (ret K Kp) := call_fn (by kernel_rfl)
@[simp] theorem op_len_39 {a : Option Addr} {n c ty : Nat} : nP.op (.blt .len [39] ty [.slice a n c]) w K Kp = K (.int .i64 n) w := op_len_slice (by kernel_rfl)
@[simp] theorem pur_len_39 {a : Option Addr} {n c ty : Nat} : nP.pur (.blt .len [39] ty [.slice a n c]) K1 = K1 (.int .i64 n) := pur_len_slice (by kernel_rfl)
@[simp] theorem ld_len_39 {a : Option Addr} {n c ty : Nat} : nP.ld (.blt .len [39] ty [.slice a n c]) w K1 = K1 (.int .i64 n) := ld_len_slice (by kernel_rfl)
@[simp] theorem same_len_39 {a : Option Addr} {n c ty : Nat} {u : Value} : nP.same (.blt .len [39] ty [.slice a n c]) u w = (.int .i64 n = u) := same_len_slice (by kernel_rfl)
@[simp] theorem op_lit_38_0 : nP.op (.buildSlice 38 0 []) w K Kp = K (.slice (some ⟨w.heap.size, 0, none⟩) 0 0) (w.alloc (.cells #[] 45)) := op_lit (by kernel_rfl)
end Go.Proofs.YtodjijfblgnfmaaGreatDoor
end
section
namespace Go.Proofs.YtodjijfblgnfmaaGreatDoor
open Go.Vc Go.Proofs
variable {S : Sig} {a0 a1 a2 a3 a4 a5 a6 a7 a8 a9 : Value} {w : World} {K : KV} {Kp : KP}
private theorem follows_BVcLA : Tryz.prog.follows .mixedOrders = true := by kernel_rfl
def vc29 (S : Sig) (a0 : Value) (w : World) (K : KV) (Kp : KP) : Prop :=
 S.op (.box 23 a0) w (fun v1 w =>
 S.op (.fieldAddr 23 v1 0) w (fun v3 w =>
 S.op (.load 5 v3) w (fun v4 w =>
 S.op (.bin .leq 5 false true v4 (.int .u8 3)) w (fun v5 w =>
 Br v5 (
 S.op (.fieldAddr 23 v1 0) w (fun v7 w =>
 S.op (.load 5 v7) w (fun v8 w =>
 S.op (.bin .neq 5 false true v8 (.int .u8 3)) w (fun v9 w =>
 Br v9 (
 K (.bool true) w) (
 S.op (.fieldAddr 23 v1 1) w (fun v11 w =>
 S.op (.load 2 v11) w (fun v12 w =>
 S.op (.bin .geq 2 false true v12 (.int .i64 1)) w (fun v13 w =>
 Br v13 (
 S.op (.fieldAddr 23 v1 1) w (fun v15 w =>
 S.op (.load 2 v15) w (fun v16 w =>
 S.op (.bin .leq 2 false true v16 (.int .i64 1000)) w (fun v17 w =>
 K v17 w) Kp) Kp) Kp) (
 K (.bool false) w)) Kp) Kp) Kp)) Kp) Kp) Kp) (
 K (.bool false) w)) Kp) Kp) Kp) Kp
theorem vc29_eq : vc29 S a0 w K Kp = fVC S [] [] Tryz.f29 [a0] w K Kp := by kernel_rfl
theorem vc29_calls (h : vc29 nP a0 w K Kp) : Calls Tryz.prog 29 #[a0] w (ret K Kp) :=
 fVC_sound (args := [a0]) nice_le follows_BVcLA Tryz.func29 (by kernel_rfl) (Eq.mp vc29_eq h)
def vc23 (S : Sig) (a0 a1 : Value) (w : World) (K : KV) (Kp : KP) : Prop :=
 S.op (.blt .len [38] 3 [a0]) w (fun v11 w =>
 Lp fun (I3 : Value → KV) (μ3 : Value → Value → World → Nat) => I3 (.slice none 0 0) (.int .i64 0) w ∧
 ∀ (wl3 : World) (_ : Nat → Value) (s5 : Value) (s12 : Value), I3 s5 s12 wl3 →
 S.op (.bin .lss 3 false false s12 v11) wl3 (fun v13 w =>
 Br v13 (
 S.op (.indexAddr 38 a0 s12) w (fun v15 w =>
 S.op (.load 45 v15) w (fun v16 w =>
 S.op (.alloc 45) w (fun v7 w =>
 S.op (.store 45 v7 v16) w (fun _ w =>
 S.op (.fieldAddr 45 v7 0) w (fun v19 w =>
 S.op (.load 2 v19) w (fun v20 w =>
 S.op (.fieldAddr 45 v7 1) w (fun v21 w =>
 S.op (.load 9 v21) w (fun v22 w =>
 S.op (.fieldAddr 45 v7 2) w (fun v23 w =>
 S.op (.load 2 v23) w (fun v24 w =>
 S.op (.build 54 [(0, (.int .u8 0)), (1, s12), (2, v20), (3, v22), (4, v24)]) w (fun v25 w =>
 S.op (.buildSlice 32 1 [(0, v25)]) w (fun v26 w =>
 S.op (.blt .append [32, 32] 32 [s5, v26]) w (fun v27 w =>
 S.op (.bin .add 3 false true s12 (.int .i64 1)) w (fun v28 w =>
 I3 v27 v28 w ∧ μ3 v27 v28 w < μ3 s5 s12 wl3) Kp) Kp) Kp) Kp) Kp) Kp) Kp) Kp) Kp) Kp) Kp) Kp) Kp) Kp) (
 S.op (.blt .len [32] 3 [a1]) w (fun v30 w =>
 Lp fun (I8 : Value → KV) (μ8 : Value → Value → World → Nat) => I8 s5 (.int .i64 0) w ∧
 ∀ (wl8 : World) (_ : Nat → Value) (s5 : Value) (s31 : Value), I8 s5 s31 wl8 →
 S.op (.bin .lss 3 false false s31 v30) wl8 (fun v32 w =>
 Br v32 (
 S.op (.indexAddr 32 a1 s31) w (fun v33 w =>
 S.op (.load 54 v33) w (fun v34 w =>
 S.op (.alloc 54) w (fun v9 w =>
 S.op (.store 54 v9 v34) w (fun _ w =>
 S.op (.fieldAddr 54 v9 1) w (fun v35 w =>
 S.op (.load 3 v35) w (fun v36 w =>
 S.op (.blt .len [38] 3 [a0]) w (fun v38 w =>
 S.op (.bin .add 3 false false v36 v38) w (fun v39 w =>
 S.op (.fieldAddr 54 v9 1) w (fun v40 w =>
 S.op (.store 3 v40 v39) w (fun _ w =>
 S.op (.load 54 v9) w (fun v42 w =>
 S.op (.buildSlice 32 1 [(0, v42)]) w (fun v43 w =>
 S.op (.blt .append [32, 32] 32 [s5, v43]) w (fun v44 w =>
 S.op (.bin .add 3 false true s31 (.int .i64 1)) w (fun v45 w =>
 I8 v44 v45 w ∧ μ8 v44 v45 w < μ8 s5 s31 wl8) Kp) Kp) Kp) Kp) Kp) Kp) Kp) Kp) Kp) Kp) Kp) Kp) Kp) Kp) (
 K s5 w)) Kp) Kp)) Kp) Kp
theorem vc23_eq : vc23 S a0 a1 w K Kp = fVC S [(3, [5, 12]), (8, [5, 31])] [] Tryz.f23 [a0, a1] w K Kp := by kernel_rfl
theorem vc23_calls (h : vc23 nP a0 a1 w K Kp) : Calls Tryz.prog 23 #[a0, a1] w (ret K Kp) :=
 fVC_sound (args := [a0, a1]) nice_le follows_BVcLA Tryz.func23 (by kernel_rfl) (Eq.mp vc23_eq h)
def vc32 (S : Sig) (a0 a1 : Value) (w : World) (K : KV) (Kp : KP) : Prop :=
 S.op (.blt .len [46] 3 [a0]) w (fun v7 w =>
 S.op (.blt .len [38] 3 [a1]) w (fun v9 w =>
 S.op (.bin .neq 3 false false v7 v9) w (fun v10 w =>
 Br v10 (
 K (.bool false) w) (
 S.op (.blt .len [46] 3 [a0]) w (fun v12 w =>
 Lp fun (I4 : KV) (μ4 : Value → World → Nat) => I4 (.int .i64 0) w ∧
 ∀ (wl4 : World) (_ : Nat → Value) (s13 : Value), I4 s13 wl4 →
 S.op (.bin .lss 3 false false s13 v12) wl4 (fun v14 w =>
 Br v14 (
 S.pur (.indexAddr 46 a0 s13) (fun v18 =>
 S.ld (.load 49 v18) w.drew (fun v19 =>
 S.pur (.indexAddr 38 a1 s13) (fun v22 =>
 S.ld (.load 45 v22) w.drew (fun v23 =>
 S.pur (.bin .neq 45 false false v19 v23) (fun v24 =>
 Br v24 (
 K (.bool false) w.drew) (
 S.op (.bin .add 3 false true s13 (.int .i64 1)) w.drew (fun v25 w =>
 I4 v25 w ∧ μ4 v25 w < μ4 s13 wl4) Kp))))))) (
 K (.bool true) w)) Kp) Kp)) Kp) Kp) Kp
theorem vc32_eq : vc32 S a0 a1 w K Kp = fVC S [(4, [13])] [] Tryz.f32 [a0, a1] w K Kp := by kernel_rfl
theorem vc32_calls (h : vc32 nP a0 a1 w K Kp) : Calls Tryz.prog 32 #[a0, a1] w (ret K Kp) :=
 fVC_sound (args := [a0, a1]) nice_le follows_BVcLA Tryz.func32 (by kernel_rfl) (Eq.mp vc32_eq h)
def vc14 (S : Sig) (w : World) (K : KV) (Kp : KP) : Prop :=
 S.op (.build 23 []) w (fun v4 w =>
 S.op (.build 45 [(0, (.int .i64 5)), (2, (.int .i64 1))]) w (fun v5 w =>
 S.op (.build 45 [(0, (.int .i64 (-3))), (2, (.int .i64 2))]) w (fun v6 w =>
 S.op (.buildSlice 38 2 [(0, v5), (1, v6)]) w (fun v7 w =>
 S.call (.fn 22) [(.bool false), v4, v7] w (fun v8 w =>
 S.op (.extract v8 0) w (fun v9 w =>
 S.op (.extract v8 1) w (fun v10 w =>
 Br v10 (
 S.op (.build 45 [(0, (.int .i64 (-3))), (2, (.int .i64 2))]) w (fun v14 w =>
 S.op (.build 45 [(0, (.int .i64 5)), (2, (.int .i64 1))]) w (fun v15 w =>
 S.op (.buildSlice 38 2 [(0, v14), (1, v15)]) w (fun v16 w =>
 S.call (.fn 32) [v9, v16] w (fun v17 w =>
 K v17 w) Kp) Kp) Kp) Kp) (
 K (.bool false) w)) Kp) Kp) Kp) Kp) Kp) Kp) Kp
theorem vc14_eq : vc14 S  w K Kp = fVC S [] [] Tryz.f14 [] w K Kp := by kernel_rfl
theorem vc14_calls (h : vc14 nP  w K Kp) : Calls Tryz.prog 14 #[] w (ret K Kp) :=
 fVC_sound (args := []) nice_le follows_BVcLA Tryz.func14 (by kernel_rfl) (Eq.mp vc14_eq h)
def vc22 (S : Sig) (a0 a1 a2 : Value) (w : World) (K : KV) (Kp : KP) : Prop :=
 S.op (.box 23 a1) w (fun v4 w =>
 S.ld (.load 23 v4) w.drew (fun v12 =>
 S.pur (.build 54 [(0, (.int .u8 3))]) (fun v14 =>
 S.op (.buildSlice 32 1 [(0, v14)]) w.drew (fun v15 w =>
 S.same (.load 23 v4) v12 w ∧
 S.call (.fn 23) [a2, v15] w (fun v16 w =>
 S.same (.load 23 v4) v12 w ∧
 S.call (.fn 15) [a0, v12, v16] w (fun v17 w =>
 S.pur (.extract v17 0) (fun v18 =>
 S.pur (.extract v17 1) (fun v19 =>
 S.op (.un .not v19) w (fun v21 w =>
 Br v21 (
 K (.tuple #[(.slice none 0 0), (.bool false)]) w) (
 S.op (.blt .len [28] 3 [v18]) w (fun v24 w =>
 S.op (.blt .len [38] 3 [a2]) w (fun v26 w =>
 S.op (.bin .add 3 false true v26 (.int .i64 1)) w (fun v27 w =>
 S.op (.bin .neq 3 false false v24 v27) w (fun v28 w =>
 Br v28 (
 K (.tuple #[(.slice none 0 0), (.bool false)]) w) (
 S.op (.blt .len [38] 3 [a2]) w (fun v32 w =>
 S.op (.indexAddr 28 v18 v32) w (fun v33 w =>
 S.op (.fieldAddr 56 v33 3) w (fun v34 w =>
 S.op (.load 46 v34) w (fun v35 w =>
 K (.tuple #[v35, (.bool true)]) w) Kp) Kp) Kp) Kp)) Kp) Kp) Kp) Kp)) Kp))) Kp) Kp) Kp))) Kp
theorem vc22_eq : vc22 S a0 a1 a2 w K Kp = fVC S [] [] Tryz.f22 [a0, a1, a2] w K Kp := by kernel_rfl
theorem vc22_calls (h : vc22 nP a0 a1 a2 w K Kp) : Calls Tryz.prog 22 #[a0, a1, a2] w (ret K Kp) :=
 fVC_sound (args := [a0, a1, a2]) nice_le follows_BVcLA Tryz.func22 (by kernel_rfl) (Eq.mp vc22_eq h)
end Go.Proofs.YtodjijfblgnfmaaGreatDoor
end
section
namespace Go.Vc
variable {P : Program} {w : World} {K : Value → World → Prop} {K1 : Value → Prop} {Kp : KP} {t : TypeId}
end Go.Vc
end
section
namespace Go.Vc.Bt
open Go.Vc
variable {P : Program} {w : World} {K : Value → World → Prop} {K1 : Value → Prop} {Kp : KP} {t : TypeId}
def fldI (P : Program) (f : Field) (o : Nat) : Bool := f.name != "_" && f.offset == o && (match P.underlying f.type with | some (.int .i64) => true | _ => false) && (match ldk P f.type with | some .one => true | _ => false)
def fldS (P : Program) (f : Field) (o : Nat) : Bool := f.name != "_" && f.offset == o && (match P.underlying f.type with | some .string => true | _ => false) && (match ldk P f.type with | some .one => true | _ => false)
def sprT (P : Program) (t : TypeId) : Bool := (match (P.fieldsOf t).toList with
  | [f0, f1, f2] => fldI P f0 0 && fldS P f1 1 && fldI P f2 2
  | _ => false) && !P.stoodInHeld t && !P.eqGuardType P.depth t
theorem fldI_eq {f : Field} {o d : Nat} {fs : List Field} {xs ys : Array Value} {a b : Int} (h : fldI P f o = true) (hx : xs[o]? = some (.int .i64 a)) (hy : ys[o]? = some (.int .i64 b)) (w : World) {r : Bool}
    (hr : (Op.eqFields (d + 1) xs ys fs).run P w = .ok r w) : (Op.eqFields (d + 1) xs ys (f :: fs)).run P w = .ok (decide (a = b) && r) w := by
  simp only [fldI, Bool.and_eq_true] at h
  obtain ⟨⟨⟨h1, h2⟩, h3⟩, h4⟩ := h
  have h2 : f.offset = o := by simpa using h2
  have h1 : f.name ≠ "_" := by simpa using h1
  have hu : P.underlying f.type = some (.int .i64) := by split at h3; assumption; cases h3
  have hl : ldk P f.type = some .one := by split at h4; assumption; cases h4
  have px : (part f.type xs f.offset).run P w = .ok (.int .i64 a) w := by rw [h2]; exact ldk_part hl (by simp [partV, hx]) w
  have py : (part f.type ys f.offset).run P w = .ok (.int .i64 b) w := by rw [h2]; exact ldk_part hl (by simp [partV, hy]) w
  rw [Op.eqFields, if_pos h1]
  simp only [Sem.run_bind, px, py, Result.andThen_ok, run_equalIn_int (k' := .i64) (h := hu)]
  by_cases e : a = b
  · subst e; simp [hr]
  · have e' : (a == b) = false := beq_eq_false_iff_ne.2 e
    simp only [e', Bool.not_false, if_true, Sem.run_pure, decide_eq_false e, Bool.false_and]
theorem fldS_eq {f : Field} {o d : Nat} {fs : List Field} {xs ys : Array Value} {a b : ByteArray} (h : fldS P f o = true) (hx : xs[o]? = some (.string a)) (hy : ys[o]? = some (.string b)) (w : World) {r : Bool}
    (hr : (Op.eqFields (d + 1) xs ys fs).run P w = .ok r w) : (Op.eqFields (d + 1) xs ys (f :: fs)).run P w = .ok (decide (a = b) && r) w := by
  simp only [fldS, Bool.and_eq_true] at h
  obtain ⟨⟨⟨h1, h2⟩, h3⟩, h4⟩ := h
  have h2 : f.offset = o := by simpa using h2
  have h1 : f.name ≠ "_" := by simpa using h1
  have hu : P.underlying f.type = some .string := by split at h3; assumption; cases h3
  have hl : ldk P f.type = some .one := by split at h4; assumption; cases h4
  have px : (part f.type xs f.offset).run P w = .ok (.string a) w := by rw [h2]; exact ldk_part hl (by simp [partV, hx]) w
  have py : (part f.type ys f.offset).run P w = .ok (.string b) w := by rw [h2]; exact ldk_part hl (by simp [partV, hy]) w
  rw [Op.eqFields, if_pos h1]
  simp only [Sem.run_bind, px, py, Result.andThen_ok, run_equalIn_string (h := hu)]
  by_cases e : a = b
  · subst e; simp [hr]
  · have e' : (a.toList == b.toList) = false := beq_eq_false_iff_ne.2 fun h => e (toList_inj.1 h)
    simp only [e', Bool.not_false, if_true, Sem.run_pure, decide_eq_false e, Bool.false_and]
theorem SPr.ext_iff' {x y : SPr} : (decide (x.key = y.key) && (decide (x.text = y.text) && (decide (x.val = y.val) && true))) = decide (x = y) := by
  cases x; cases y; simp
theorem spr_eq_run (ht : P.underlying t = some (.struct (P.fieldsOf t))) (h : sprT P t = true) (x y : SPr) (w : World) : (Op.equal t (.agg x.cells.toArray) (.agg y.cells.toArray)).run P w = .ok (decide (x = y)) w := by
  simp only [sprT, Bool.and_eq_true] at h
  obtain ⟨⟨h1, h2⟩, h3⟩ := h
  have h2 : P.stoodInHeld t = false := by simpa using h2
  unfold Op.equal Op.maxDepth
  rw [run_equalIn_struct w 9999 t _ _ ht h2]
  split at h1
  · rename_i f0 f1 f2 hf
    rw [hf]
    simp only [Bool.and_eq_true] at h1
    obtain ⟨⟨g0, g1⟩, g2⟩ := h1
    rw [fldI_eq (d := 9998) (a := x.key) (b := y.key) g0 rfl rfl w (fldS_eq (a := x.text) (b := y.text) g1 rfl rfl w (fldI_eq (a := x.val) (b := y.val) g2 rfl rfl w (r := true) (by simp [Op.eqFields])))]
    rw [SPr.ext_iff']
  · cases h1
theorem pur_neq_spr (ht : P.underlying t = some (.struct (P.fieldsOf t))) (h : sprT P t = true) {x y : SPr} (hK : K1 (.bool (!decide (x = y)))) :
    (nice P).pur (.bin .neq t false false (.agg x.cells.toArray) (.agg y.cells.toArray)) K1 := by
  refine ⟨_, fun w => ?_, hK⟩
  have hg : P.eqGuardType P.depth t = false := by
    simp only [sprT, Bool.and_eq_true] at h; simpa using h.2
  have h2 : ∀ w, (eqGuard .neq t (opd false) (opd false) (.agg x.cells.toArray) (.agg y.cells.toArray)).run P w = .ok () w := fun w => by
    have hp : (program : Sem Program).run P w = .ok P w := rfl
    simp [eqGuard, hp, hg]
  simp only [VOp.sem, Sem.run_bind, h2, Result.andThen_ok]
  simp [binOp, spr_eq_run ht h]
/-! ### scripts that put pairs -/
def putSteps (ps : List SPr) : List SSt := ps.mapIdx fun i p => ⟨0, i, p.key, p.text, p.val, 0, 0⟩
theorem putSteps_len (ps : List SPr) : (putSteps ps).length = ps.length := by simp [putSteps]
theorem putSteps_snoc (ps : List SPr) (p : SPr) : putSteps (ps ++ [p]) = putSteps ps ++ [⟨0, ps.length, p.key, p.text, p.val, 0, 0⟩] := by simp [putSteps, List.mapIdx_append]
def SSt.later (n : Nat) (s : SSt) : SSt := { s with fro := IntKind.i64.wrap (s.fro + n) }
theorem putSteps_mem {ps : List SPr} {s : SSt} (h : s ∈ putSteps ps) : s.op = 0 ∧ s.count = 0 ∧ ∃ p ∈ ps, s.text = p.text := by
  simp only [putSteps, List.mem_mapIdx] at h
  obtain ⟨i, hi, rfl⟩ := h
  exact ⟨rfl, rfl, _, List.getElem_mem hi, rfl⟩
theorem putSteps_cost : ∀ (ps : List SPr), scost (putSteps ps) = ps.length := by
  intro ps
  rw [← List.reverse_reverse ps]
  generalize ps.reverse = r
  induction r with
  | nil => rfl
  | cons p r ih => rw [List.reverse_cons, putSteps_snoc, scost_snoc, ih]; simp [SSt.cost]
section
variable {κ : Type} [DecidableEq κ] {lt : κ → κ → Bool} {kd : Kd κ}
def Kd.kv (kd : Kd κ) (p : SPr) : κ × Int := (kd.key p.key p.text, p.val)
theorem atV_small {s : SSt} {i n : Nat} (h : s.fro = i) (hi : i < n) : atV s n = i := by
  unfold atV
  rw [h, Int.emod_eq_of_lt (by omega) (by omega)]; simp
theorem runS_put (ps : List SPr) : (runS lt kd (putSteps ps)).1.length = ps.length + 1 ∧ (runS lt kd (putSteps ps)).1[ps.length]? = some (putAll lt [] (ps.map kd.kv)) ∧ (runS lt kd (putSteps ps)).2.length = ps.length := by
  rw [← List.reverse_reverse ps]
  generalize ps.reverse = r
  induction r with
  | nil => exact ⟨rfl, rfl, rfl⟩
  | cons p r ih =>
    obtain ⟨h1, h2, h3⟩ := ih
    rw [List.reverse_cons, putSteps_snoc, runS_snoc]
    generalize runS lt kd (putSteps r.reverse) = q at *
    have ha : atV (⟨0, (r.reverse.length : Nat), p.key, p.text, p.val, 0, 0⟩ : SSt) q.1.length = r.reverse.length := atV_small rfl (by omega)
    unfold oneS
    rw [ha, h2, Option.getD_some]
    have hn : newV lt kd ⟨0, (r.reverse.length : Nat), p.key, p.text, p.val, 0, 0⟩ (putAll lt [] (r.reverse.map kd.kv)) = some (put lt (putAll lt [] (r.reverse.map kd.kv)) (kd.key p.key p.text) p.val) := by unfold newV; rw [if_pos rfl]
    rw [hn]
    refine ⟨?_, ?_, ?_⟩
    · rw [Option.toList_some, List.length_append, List.length_singleton, List.length_append, List.length_singleton, h1]
    · rw [Option.toList_some, List.length_append, List.length_singleton, List.getElem?_append_right (by omega), h1, Nat.sub_self, List.map_append, List.map_singleton, putAll_snoc]
      rfl
    · rw [List.length_append, List.length_singleton, List.length_append, List.length_singleton, h3]
end
end Go.Vc.Bt
namespace Go.Vc.Bt
open Go.Vc
variable {P : Program} {w : World} {K : Value → World → Prop} {Kp : KP}
theorem sameLoop {t1 e1 t2 e2 t3 : TypeId} {l1 l2 : Value} {xs : List SPr} (s1 : sliceOf P t1 = some (e1, 3)) (s2 : sliceOf P t2 = some (e2, 3)) (d1 : ldk P e1 = some (.agg 3)) (d2 : ldk P e2 = some (.agg 3)) (ht : P.underlying t3 = some (.struct (P.fieldsOf t3))) (hq : sprT P t3 = true)
    (k1 : kd P t1 = .slice) (h1 : IsSl w l1 xs.length (xs.flatMap SPr.cells)) (h2 : IsSl w l2 xs.length (xs.flatMap SPr.cells)) (hn : xs.length < 2 ^ 60) (hK : ∀ w', Frm (fun _ => False) w w' → K (.bool true) w') :
    (nice P).op (.blt Builtin.len [t1] 3 [l1]) w (fun v50 w =>
    Lp fun (I10 : Value → World → Prop) (μ10 : Value → World → Nat) => I10 (Value.int IntKind.i64 0) w ∧
    ∀ (wl10 : World) (junk : Nat → Value) (s51_ : Value), I10 s51_ wl10 →
      (nice P).op (.bin BinOp.lss 3 false false s51_ v50) wl10 (fun v52 w =>
      Br v52 (
        (nice P).pur (.indexAddr t1 l1 s51_) (fun v56 =>
        (nice P).ld (.load e1 v56) w.drew (fun v57 =>
        (nice P).pur (.indexAddr t2 l2 s51_) (fun v60 =>
        (nice P).ld (.load e2 v60) w.drew (fun v61 =>
        (nice P).pur (.bin BinOp.neq t3 false false v57 v61) (fun v62 =>
        Br v62 (
          K (Value.bool false) w.drew) (
          (nice P).op (.bin BinOp.add 3 false true s51_ (Value.int IntKind.i64 1)) w.drew (fun v63 w =>
          I10 v63 w ∧ μ10 v63 w < μ10 s51_ wl10) Kp))))))) (
        K (Value.bool true) w)) Kp) Kp := by
  obtain ⟨a1, c1, rfl, hc1, hm1, r1, _⟩ := h1
  obtain ⟨a2, c2, rfl, hc2, hm2, r2, _⟩ := h2
  rw [op_len_slice k1]
  obtain ⟨I, hI⟩ : ∃ I : Value → World → Prop, ∀ v wl, I v wl ↔ ∃ i : Nat, v = .int .i64 i ∧ i ≤ xs.length ∧ Frm (fun _ => False) w wl := ⟨_, fun _ _ => Iff.rfl⟩
  refine Lp.intro I (fun v _ => xs.length - (match v with | .int _ j => j.toNat | _ => 0)) ⟨(hI _ _).2 ⟨0, rfl, by omega, Frm.refl⟩, ?_⟩
  intro wl _ v hv
  obtain ⟨i, rfl, hi, kl⟩ := (hI _ _).1 hv
  simp only [op_lss, Br_dec]
  refine ⟨fun hlt => ?_, fun hge => hK wl kl⟩
  have hi' : i < xs.length := by omega
  have kd := kl.no (Frm.drew wl)
  obtain ⟨b1, o1, cs1, e1', f1, rfl, q1, q2, q3⟩ := (r1.frame kd fun _ _ h => h).part SPr.len (by decide) hi'
  obtain ⟨b2, o2, cs2, e2', f2, rfl, p1, p2, p3⟩ := (r2.frame kd fun _ _ h => h).part SPr.len (by decide) hi'
  rw [pur_ix_slice s1]
  refine ⟨⟨by omega, by omega⟩, ?_⟩
  rw [add_spot rfl, ld_ldn d1]
  simp only [Int.toNat_natCast]
  refine ⟨cs1, e1', f1, q1, trivial, q2, ?_⟩
  rw [q3, pur_ix_slice s2]
  refine ⟨⟨by omega, by omega⟩, ?_⟩
  rw [add_spot rfl, ld_ldn d2]
  simp only [Int.toNat_natCast]
  refine ⟨cs2, e2', f2, p1, trivial, p2, ?_⟩
  rw [p3]
  refine pur_neq_spr ht hq ?_
  rw [decide_eq_true rfl]
  show Br (.bool false) _ _
  rw [show ∀ A B : Prop, Br (.bool false) A B = B from fun A B => by simp [Br], op_add]
  have e : IntKind.i64.wrap ((i : Int) + 1) = ((i + 1 : Nat) : Int) := by rw [IntKind.wrap_i64]; omega
  rw [e]
  refine ⟨(hI _ _).2 ⟨i + 1, rfl, by omega, kd⟩, ?_⟩
  simp only [Int.toNat_natCast]; omega
end Go.Vc.Bt
namespace Go.Vc.Bt
section
variable {κ : Type} [DecidableEq κ] {lt : κ → κ → Bool} {kd : Kd κ}
def prsOf (kd : Kd κ) (L : Vn κ) : List SPr := L.map fun e => kd.pair e.1 e.2
theorem runS_items (ps : List SPr) (hn : ps.length < 2 ^ 31) {s : SSt} (hop : s.op = 3) (h0 : s.fro = 0) :
    (runS lt kd (putSteps ps ++ [s.later ps.length])).2.length = ps.length + 1 ∧
    ((runS lt kd (putSteps ps ++ [s.later ps.length])).2[ps.length]?).map SAns.list = some (prsOf kd (putAll lt [] (ps.map kd.kv))) := by
  obtain ⟨h1, h2, h3⟩ := runS_put (lt := lt) (kd := kd) ps
  rw [runS_snoc]
  generalize runS lt kd (putSteps ps) = q at *
  have hf : (s.later ps.length).fro = ps.length := by
    show IntKind.i64.wrap (s.fro + ps.length) = _
    rw [h0, IntKind.wrap_i64]; omega
  have ha : atV (s.later ps.length) q.1.length = ps.length := atV_small hf (by omega)
  unfold oneS
  rw [ha, h2, Option.getD_some]
  refine ⟨by rw [List.length_append, List.length_singleton, h3], ?_⟩
  rw [List.getElem?_append_right (by omega), h3, Nat.sub_self]
  have ho : (s.later ps.length).op = 3 := hop
  unfold ansV
  rw [if_neg (by omega), if_pos ho]; rfl
end
end Go.Vc.Bt
namespace Go.Vc.Bt
section
variable {κ : Type} [DecidableEq κ] {lt : κ → κ → Bool} {kd : Kd κ}
end
end Go.Vc.Bt
end
section
namespace Go.Proofs.YtodjijfblgnfmaaGreatDoor
open Go.Vc Go.Proofs Go.Vc.Bt
variable {w w' : World} {K : KV} {Kp : KP} {n : Int} {kn : Nat}
def Right (kn : Nat) (n : Int) : Prop := kn ≤ 3 ∧ (kn = 3 → 1 ≤ n ∧ n ≤ 1000)
theorem right_ok (hK : ∀ b w', Frm (fun _ => False) w w' → (b = true ↔ Right kn n) → K (.bool b) w') : Calls Tryz.prog 29 #[orderV kn n] w (ret K Kp) := by
  refine vc29_calls ?_
  delta vc29 orderV
  refine op_box_ok fun w1 k1 z1 b1 => ?_
  simp only [cells_agg] at b1
  have h0 := fun h => hK true w1 k1 h
  have h1 := fun h => hK false w1 k1 h
  simp [-getElem?_pos, -Array.getElem?_eq_getElem, -Int.natCast_add, b1]
  refine ⟨fun h3 => ⟨fun hne => h0 ⟨fun _ => ⟨by omega, fun e => by omega⟩, fun _ => rfl⟩, fun he => ⟨fun hn => ?_, fun hn => h1 ⟨(fun h => nomatch h), fun h => ?_⟩⟩⟩, fun h3 => h1 ⟨(fun h => nomatch h), fun h => ?_⟩⟩
  · refine hK _ w1 k1 ?_
    unfold Right
    rw [decide_eq_true_iff]
    constructor
    · intro h; exact ⟨by omega, fun _ => ⟨hn, h⟩⟩
    · intro h; exact (h.2 (by omega)).2
  · have := h.2 (by omega); omega
  · have := h.1; omega
end Go.Proofs.YtodjijfblgnfmaaGreatDoor
end
section
namespace Go.Proofs.YtodjijfblgnfmaaGreatDoor
open Go.Vc Go.Proofs Go.Vc.Bt
variable {w w' : World} {K : KV} {Kp : KP} {n : Int} {a1 : Option Addr} {c1 : Nat} {ps : List SPr}
theorem apS : apOf Tryz.prog 32 = some (54, 7, 64) := by kernel_rfl
theorem lit_st (s : SSt) : sliceLit Tryz.prog 32 1 [(0, .agg s.cells.toArray)] = some (54, s.cells.toArray) := lit_32_1
theorem sortedPut_ok {m : List SSt} {v2 : Value} (hr : Row w a1 (ps.flatMap SPr.cells)) (hm : IsSl w v2 m.length (m.flatMap SSt.cells)) (hn : ps.length ≤ 2 ^ 20) (hml : m.length ≤ 1000)
    (hK : ∀ l w', Frm (fun _ => False) w w' → RowsOf (Flat SSt.cells) w' w.heap.size 54 7 l (putSteps ps ++ m.map (SSt.later ps.length)) (fun _ => False) → K l w') :
    Calls Tryz.prog 23 #[.slice a1 ps.length c1, v2] w (ret K Kp) := by
  have hE := flat_ok SSt.cells
  obtain ⟨a2, c2, rfl, hc2, hm2, hr2, _⟩ := hm
  refine vc23_calls ?_
  delta vc23
  simp [-getElem?_pos, -Array.getElem?_eq_getElem, -Int.natCast_add, -op_alloc_45, -op_st_45, -op_alloc_54, -op_st_54, -op_lit_32_1, -op_st_3]
  obtain ⟨I, hI⟩ : ∃ I : Value → KV, ∀ l v wl, I l v wl ↔ ∃ i : Nat, v = .int .i64 i ∧ i ≤ ps.length ∧ Frm (fun _ => False) w wl ∧ RowsOf (Flat SSt.cells) wl w.heap.size 54 7 l (putSteps (ps.take i)) (fun _ => False) := ⟨_, fun _ _ _ => Iff.rfl⟩
  refine Lp.intro I (fun _ v _ => ps.length - nOf v) ⟨(hI _ _ _).2 ⟨0, rfl, by omega, Frm.refl, rows_nil⟩, ?_⟩
  intro wl l v hv
  obtain ⟨i, rfl, hi, kl, hR⟩ := (hI _ _ _).1 hv
  have hlow := hR.own_lt
  have nl := kl.size
  simp only [op_lss, Br_dec]
  refine ⟨fun hlt => ?_, fun hge => ?_⟩
  · have hi' : i < ps.length := by omega
    obtain ⟨b, o, cs, e, fz, rfl, q1, q2, q3⟩ := (hr.frame kl fun _ _ h => h).part SPr.len (by decide) hi'
    simp [-getElem?_pos, -Array.getElem?_eq_getElem, -Int.natCast_add, -op_alloc_45, -op_st_45, -op_alloc_54, -op_st_54, -op_lit_32_1, -op_st_3, q1, q2, q3]
    refine ⟨hi', ?_⟩
    refine op_alloc_ok (z := .agg #[.int .i64 0, .string ByteArray.empty, .int .i64 0]) (by kernel_rfl) fun w5 k5 z5 b5 => ?_
    simp only [cells_agg] at b5
    refine op_storeN_ok (n := 3) (by kernel_rfl) b5 rfl (by decide) (by simp [SPr.cells]) fun w6 k6 z6 b6 => ?_
    have b6 : w6.heap[wl.heap.size]? = some (.cells #[.int .i64 ps[i].key, .string ps[i].text, .int .i64 ps[i].val] 45 (0, 0)) := by
      rw [ow_all (by simp [SPr.cells])] at b6; exact b6
    have k6' := k5.old k6 fun c hc => .inr (by omega)
    have hR6 := hR.still hE k6'
    have n6 := k6'.size
    simp [-getElem?_pos, -Array.getElem?_eq_getElem, -Int.natCast_add, -op_alloc_45, -op_st_45, -op_alloc_54, -op_st_54, -op_lit_32_1, -op_st_3, b6]
    have htl : (putSteps (ps.take i)).length = i := by rw [putSteps_len, List.length_take]; omega
    have e0 : (#[.int .u8 0, .int .i64 (i : Nat), .int .i64 ps[i].key, .string ps[i].text, .int .i64 ps[i].val, .int .i64 0, .int .i64 0] : Array Value) = (⟨0, (i : Nat), ps[i].key, ps[i].text, ps[i].val, 0, 0⟩ : SSt).cells.toArray := by simp [SSt.cells]
    rw [e0]
    generalize hs0 : (⟨0, (i : Nat), ps[i].key, ps[i].text, ps[i].val, 0, 0⟩ : SSt) = s0 at *
    refine op_push (u := s0.cells) (y := s0) (G2 := fun _ => False) hE apS (lit_st _) rfl (SSt.one _) hR6 rfl (fun _ h => h.elim) (fun _ _ h => h) (by rw [htl]; omega) (by omega) fun l' w7 k7 hR7 ho7 => ?_
    try simp [-getElem?_pos, -Array.getElem?_eq_getElem, -Int.natCast_add, -op_alloc_45, -op_st_45, -op_alloc_54, -op_st_54, -op_lit_32_1, -op_st_3]
    rw [show IntKind.i64.wrap ((i : Int) + 1) = ((i + 1 : Nat) : Int) from by rw [IntKind.wrap_i64]; omega]
    refine ⟨(hI _ _ _).2 ⟨i + 1, rfl, by omega, (kl.no k6').old k7 fun c hc => .inr (hlow c hc.symm).1, ?_⟩, by simp only [nOf_int]; omega⟩
    rw [List.take_succ_eq_append_getElem hi', putSteps_snoc, List.length_take, Nat.min_eq_left (by omega), hs0]
    exact hR7.mono hE (fun _ h => h.elim id fun h => h) (fun _ h => h.elim) fun _ _ h => h
  · have : i = ps.length := by omega
    subst this
    rw [List.take_length] at hR
    clear hI I hv
    try simp [-getElem?_pos, -Array.getElem?_eq_getElem, -Int.natCast_add, -op_alloc_45, -op_st_45, -op_alloc_54, -op_st_54, -op_lit_32_1, -op_st_3]
    obtain ⟨I, hI⟩ : ∃ I : Value → KV, ∀ l v wl, I l v wl ↔ ∃ i : Nat, v = .int .i64 i ∧ i ≤ m.length ∧ Frm (fun _ => False) w wl ∧ RowsOf (Flat SSt.cells) wl w.heap.size 54 7 l (putSteps ps ++ (m.take i).map (SSt.later ps.length)) (fun _ => False) := ⟨_, fun _ _ _ => Iff.rfl⟩
    refine Lp.intro I (fun _ v _ => m.length - nOf v) ⟨(hI _ _ _).2 ⟨0, rfl, by omega, kl, by simpa using hR⟩, ?_⟩
    clear hlow nl kl hR hi hge
    intro wl l v hv
    obtain ⟨i, rfl, hi, kl, hR⟩ := (hI _ _ _).1 hv
    have hlow := hR.own_lt
    have nl := kl.size
    simp only [op_lss, Br_dec]
    refine ⟨fun hlt => ?_, fun hge => ?_⟩
    · have hi' : i < m.length := by omega
      obtain ⟨b, o, cs, e, fz, rfl, q1, q2, q3⟩ := (hr2.frame kl fun _ _ h => h).part SSt.len (by decide) hi'
      simp [-getElem?_pos, -Array.getElem?_eq_getElem, -Int.natCast_add, -op_alloc_45, -op_st_45, -op_alloc_54, -op_st_54, -op_lit_32_1, -op_st_3, q1, q2, q3]
      refine ⟨hi', ?_⟩
      refine op_alloc_ok (z := .agg #[.int .u8 0, .int .i64 0, .int .i64 0, .string ByteArray.empty, .int .i64 0, .int .i64 0, .int .i64 0]) (by kernel_rfl) fun w5 k5 z5 b5 => ?_
      simp only [cells_agg] at b5
      refine op_storeN_ok (n := 7) (by kernel_rfl) b5 rfl (by decide) (by simp [SSt.cells]) fun w6 k6 z6 b6 => ?_
      have b6 : w6.heap[wl.heap.size]? = some (.cells #[.int .u8 m[i].op, .int .i64 m[i].fro, .int .i64 m[i].key, .string m[i].text, .int .i64 m[i].value, .int .i64 m[i].count, .int .i64 m[i].by'] 54 (0, 0)) := by
        rw [ow_all (by simp [SSt.cells])] at b6; exact b6
      have k6' := k5.old k6 fun c hc => .inr (by omega)
      simp [-getElem?_pos, -Array.getElem?_eq_getElem, -Int.natCast_add, -op_alloc_45, -op_st_45, -op_alloc_54, -op_st_54, -op_lit_32_1, -op_st_3, b6]
      refine op_store_ok (by kernel_rfl) b6 (by simp) rfl fun w7 k7 z7 b7 => ?_
      have b7 : w7.heap[wl.heap.size]? = some (.cells (m[i].later ps.length).cells.toArray 54 (0, 0)) := by simpa [SSt.later, SSt.cells] using b7
      have k7' := k6'.old k7 fun c hc => .inr (by omega)
      have hR7 := hR.still hE k7'
      have n7 := k7'.size
      have hx : (m[i].later ps.length).cells.toArray.extract 0 7 = (m[i].later ps.length).cells.toArray := extract_self (by simp [SSt.cells])
      have hs7 : 7 ≤ (m[i].later ps.length).cells.length := Nat.le_refl _
      simp [-getElem?_pos, -Array.getElem?_eq_getElem, -Int.natCast_add, -op_alloc_45, -op_st_45, -op_alloc_54, -op_st_54, -op_lit_32_1, -op_st_3, b7, hx, hs7]
      have htl : (putSteps ps ++ (m.take i).map (SSt.later ps.length)).length = ps.length + i := by rw [List.length_append, putSteps_len, List.length_map, List.length_take]; omega
      refine op_push (u := (m[i].later ps.length).cells) (y := m[i].later ps.length) (G2 := fun _ => False) hE apS (lit_st _) rfl (SSt.one _) hR7 rfl (fun _ h => h.elim) (fun _ _ h => h) (by rw [htl]; omega) (by omega) fun l' w8 k8 hR8 ho8 => ?_
      try simp [-getElem?_pos, -Array.getElem?_eq_getElem, -Int.natCast_add, -op_alloc_45, -op_st_45, -op_alloc_54, -op_st_54, -op_lit_32_1, -op_st_3]
      rw [show IntKind.i64.wrap ((i : Int) + 1) = ((i + 1 : Nat) : Int) from by rw [IntKind.wrap_i64]; omega]
      refine ⟨(hI _ _ _).2 ⟨i + 1, rfl, by omega, (kl.no k7').old k8 fun c hc => .inr (hlow c hc.symm).1, ?_⟩, by simp only [nOf_int]; omega⟩
      rw [List.take_succ_eq_append_getElem hi', List.map_append, ← List.append_assoc]
      exact hR8.mono hE (fun _ h => h.elim id fun h => h) (fun _ h => h.elim) fun _ _ h => h
    · have : i = m.length := by omega
      subst this
      rw [List.take_length] at hR
      exact hK l wl kl hR
end Go.Proofs.YtodjijfblgnfmaaGreatDoor
end
section
namespace Go.Proofs.YtodjijfblgnfmaaGreatDoor
open Go.Vc Go.Proofs Go.Vc.Bt
variable {w w' : World} {K : KV} {Kp : KP} {n : Int} {kn : Nat} {text : Bool} {a1 : Option Addr} {c1 : Nat} {ps : List SPr}
def itemsOf (text : Bool) (kn : Nat) (n : Int) (ps : List SPr) : List SPr := if text then prsOf T.kd (putAll (T.ordI kn n) [] (ps.map T.kd.kv)) else prsOf I.kd (putAll (I.ordI kn n) [] (ps.map I.kd.kv))
theorem items_ans (hn : ps.length < 2 ^ 31) {s : SSt} (hop : s.op = 3) (h0 : s.fro = 0) : (ansOf text kn n (putSteps ps ++ [s.later ps.length])).length = ps.length + 1 ∧ ((ansOf text kn n (putSteps ps ++ [s.later ps.length]))[ps.length]?).map SAns.list = some (itemsOf text kn n ps) := by
  unfold ansOf itemsOf
  cases text
  · exact runS_items ps hn hop h0
  · exact runS_items ps hn hop h0
theorem asks_puts {steps : List SSt} (h1 : ∀ s ∈ steps, s.text.size ≤ 100) (h2 : scost steps < 2 ^ 30) (h3 : ∀ s ∈ steps, s.op = 0 ∨ s.op = 3) : Asks text kn n steps w :=
  ⟨h1, h2, fun ⟨s, hs, h⟩ => by have := h3 s hs; omega, fun ⟨s, hs, h⟩ => by have := h3 s hs; omega, fun ⟨s, hs, h⟩ => by have := h3 s hs; omega, fun ⟨s, hs, h⟩ => by have := h3 s hs; omega⟩
theorem sortedItems_ok (h1 : -9223372036854775808 ≤ n) (h2 : n ≤ 9223372036854775807) (hr : Row w a1 (ps.flatMap SPr.cells)) (hn : ps.length ≤ 1000) (ht : ∀ p ∈ ps, p.text.size ≤ 100)
    (hK : ∀ v w', Frm (fun _ => False) w w' → IsSl w' v (itemsOf text kn n ps).length ((itemsOf text kn n ps).flatMap SPr.cells) → K (.tuple #[v, .bool true]) w') :
    Calls Tryz.prog 22 #[.bool text, orderV kn n, .slice a1 ps.length c1] w (ret K Kp) := by
  refine vc22_calls ?_
  delta vc22
  refine op_box_ok fun w1 k1 z1 b1 => ?_
  simp only [orderV, cells_agg] at b1
  have hx2 : (#[.int .u8 kn, .int .i64 n] : Array Value).extract 0 2 = #[.int .u8 kn, .int .i64 n] := rfl
  simp [-getElem?_pos, -Array.getElem?_eq_getElem, -Int.natCast_add, -op_lit_32_1, -op_lit_38_2, b1, hx2]
  have e0 : (#[.int .u8 3, .int .i64 0, .int .i64 0, .string ByteArray.empty, .int .i64 0, .int .i64 0, .int .i64 0] : Array Value) = (⟨3, 0, 0, ByteArray.empty, 0, 0, 0⟩ : SSt).cells.toArray := by simp [SSt.cells]
  rw [e0]
  generalize hs0 : (⟨3, 0, 0, ByteArray.empty, 0, 0, 0⟩ : SSt) = s0 at *
  refine op_lit_ok (lit_st s0) fun w2 k2 z2 b2 => ?_
  have k2 := Frm.dr k2
  have q2 := k2.get b1 fun h => h
  simp [-getElem?_pos, -Array.getElem?_eq_getElem, -Int.natCast_add, -op_lit_32_1, -op_lit_38_2, q2, hx2]
  have hop : s0.op = 3 := by rw [← hs0]
  have h0 : s0.fro = 0 := by rw [← hs0]
  have ht0 : s0.text.size ≤ 100 := by rw [← hs0]; exact Nat.zero_le _
  have hc0 : s0.cost = 1 := by rw [← hs0]; rfl
  have k12 := k1.no k2
  refine sortedPut_ok (m := [s0]) (hr.frame k12 fun _ _ h => h) ⟨_, _, rfl, Nat.le_refl _, by simp [maxLen], .inr ⟨_, 0, _, _, _, rfl, b2, fun j v hj => by simpa using hj⟩, fun h => nomatch h⟩ (by omega) (by simp) fun l w3 k3 hR3 => ?_
  have hasks : ∀ wz, Asks text kn n (putSteps ps ++ [s0].map (SSt.later ps.length)) wz := fun wz => by
    refine asks_puts (fun s hs => ?_) ?_ fun s hs => ?_
    · rcases List.mem_append.1 hs with hs | hs
      · obtain ⟨_, _, p, hp, e⟩ := putSteps_mem hs
        rw [e]; exact ht p hp
      · simp at hs; rw [hs]; exact ht0
    · rw [scost_app, putSteps_cost]
      have : scost ([s0].map (SSt.later ps.length)) = s0.cost := by simp [scost, SSt.later, SSt.cost]
      omega
    · rcases List.mem_append.1 hs with hs | hs
      · exact .inl (putSteps_mem hs).1
      · simp at hs; rw [hs]; exact .inr hop
  obtain ⟨g1, g2⟩ := items_ans (text := text) (kn := kn) (n := n) (ps := ps) (by omega) hop h0
  rw [← List.map_singleton (f := SSt.later ps.length) (a := s0)] at g1 g2
  generalize putSteps ps ++ [s0].map (SSt.later ps.length) = S at *
  obtain ⟨a3, c3, rfl, hc3, hm3, hr3, _⟩ := hR3.flat
  have q3 := k3.get q2 fun h => h
  have k13 := k12.no k3
  simp [-getElem?_pos, -Array.getElem?_eq_getElem, -Int.natCast_add, -op_lit_32_1, -op_lit_38_2, q3, hx2]
  refine sorted_ok (text := text) (kn := kn) (n := n) h1 h2 hr3 (hasks w3) fun l4 w4 G k4 hR4 => ?_
  generalize ansOf text kn n S = A at *
  have hA : ps.length < A.length := by omega
  obtain ⟨u, g, c, cs, hl4, hg1, hu, hg3, hg4, hg5, pv, hpv, hpr, _⟩ := hR4.get hA
  subst hl4 hpv
  have hg0 : cs[ps.length * 4 + 3]? = some pv := by have := hg3 3 (by decide); simpa using this
  rw [List.getElem?_eq_getElem hA, Option.map_some] at g2
  have g2 := Option.some.inj g2
  rw [g2] at hpr
  have e1 : IntKind.i64.wrap ((ps.length : Int) + 1) = ((ps.length + 1 : Nat) : Int) := by rw [IntKind.wrap_i64]; omega
  have := hK pv w4 (k13.no k4) hpr
  simp [-getElem?_pos, -Array.getElem?_eq_getElem, -Int.natCast_add, -op_lit_32_1, -op_lit_38_2, g1, e1, hg1, hg0]
  exact this
theorem awake_items : itemsOf false 0 0 [⟨5, ByteArray.empty, 1⟩, ⟨-3, ByteArray.empty, 2⟩] = [⟨-3, ByteArray.empty, 2⟩, ⟨5, ByteArray.empty, 1⟩] := by decide +kernel
theorem samePairs_ok {v1 v2 : Value} {xs : List SPr} (h1 : IsSl w v1 xs.length (xs.flatMap SPr.cells)) (h2 : IsSl w v2 xs.length (xs.flatMap SPr.cells)) (hn : xs.length < 2 ^ 60) (hK : ∀ w', Frm (fun _ => False) w w' → K (.bool true) w') :
    Calls Tryz.prog 32 #[v1, v2] w (ret K Kp) := by
  refine vc32_calls ?_
  delta vc32
  obtain ⟨a2, c2, rfl, _⟩ := id h2
  obtain ⟨a1, c1, rfl, _⟩ := id h1
  rw [op_len_slice (by kernel_rfl), op_len_slice (by kernel_rfl), op_neq, decide_eq_true rfl, Bool.not_true, Br_false]
  exact sameLoop (by kernel_rfl) (by kernel_rfl) (by kernel_rfl) (by kernel_rfl) (by kernel_rfl) (by kernel_rfl) (by kernel_rfl) h1 h2 hn hK
theorem awake_ok (hK : ∀ w', Frm (fun _ => False) w w' → K (.bool true) w') : Calls Tryz.prog 14 #[] w (ret K Kp) := by
  refine vc14_calls ?_
  delta vc14
  simp [-getElem?_pos, -Array.getElem?_eq_getElem, -Int.natCast_add, -op_lit_32_1, -op_lit_38_2]
  refine op_lit_ok lit_38_2 fun w1 k1 z1 b1 => ?_
  have hp1 : Row w1 (some ⟨w.heap.size, 0, none⟩) ([(⟨5, ByteArray.empty, 1⟩ : SPr), ⟨-3, ByteArray.empty, 2⟩].flatMap SPr.cells) := .inr ⟨_, 0, _, _, _, rfl, b1, fun j v hj => by simpa [SPr.cells] using hj⟩
  refine sortedItems_ok (text := false) (kn := 0) (n := 0) (ps := [⟨5, ByteArray.empty, 1⟩, ⟨-3, ByteArray.empty, 2⟩]) (by decide) (by decide) hp1 (by decide) (fun p hp => ?_) fun v w2 k2 hv => ?_
  · simp at hp
    rcases hp with rfl | rfl <;> exact Nat.zero_le _
  rw [awake_items] at hv
  simp [-getElem?_pos, -Array.getElem?_eq_getElem, -Int.natCast_add, -op_lit_32_1, -op_lit_38_2]
  refine op_lit_ok lit_38_2 fun w3 k3 z3 b3 => ?_
  refine samePairs_ok (xs := [⟨-3, ByteArray.empty, 2⟩, ⟨5, ByteArray.empty, 1⟩]) (hv.still k3) ⟨_, _, rfl, Nat.le_refl _, by simp [maxLen], .inr ⟨_, 0, _, _, _, rfl, b3, fun j v hj => by simpa [SPr.cells] using hj⟩, fun h => nomatch h⟩ (by decide) fun w4 k4 => ?_
  exact hK w4 (((k1.no k2).no k3).no k4)
end Go.Proofs.YtodjijfblgnfmaaGreatDoor
end
