import Derived.Test.YtbghmbbhkoniiaaGreatB1
import Derived.Test.YtbghmbbhkoniiaaGreatB0
set_option linter.unusedSimpArgs false
set_option linter.unusedVariables false
set_option linter.unusedSectionVars false
set_option maxRecDepth 100000
set_option maxHeartbeats 4000000
section
namespace Go.Proofs.YtbghmbbhkoniiaaGreat
open Go.Vc Go.Proofs
variable {S : Sig} {a0 a1 a2 a3 a4 a5 a6 a7 a8 a9 : Value} {w : World} {K : KV} {Kp : KP}
private theorem follows_MVcI : Tryz.prog.follows .mixedOrders = true := by kernel_rfl
def vc33 (S : Sig) (a0 : Value) (w : World) (K : KV) (Kp : KP) : Prop :=
 S.op (.nilCheck a0) w (fun v4 w =>
 S.op (.fieldAddr 109 v4 0) w (fun v5 w =>
 S.op (.load 3 v5) w (fun v6 w =>
 K v6 w) Kp) Kp) Kp
theorem vc33_eq : vc33 S a0 w K Kp = fVC S [] [] Tryz.f33 [a0] w K Kp := by kernel_rfl
theorem vc33_calls (h : vc33 (nice Tryz.prog) a0 w K Kp) : Calls Tryz.prog 33 #[a0] w (ret K Kp) :=
 fVC_sound (args := [a0]) nice_le follows_MVcI Tryz.func33 (by kernel_rfl) (Eq.mp vc33_eq h)
def vc34 (S : Sig) (a0 : Value) (w : World) (K : KV) (Kp : KP) : Prop :=
 S.op (.build 114 [(0, a0)]) w (fun v5 w =>
 S.op (.box 114 v5) w (fun v6 w =>
 S.call (.fn 52) [v6] w (fun v8 w =>
 K v6 w) Kp) Kp) Kp
theorem vc34_eq : vc34 S a0 w K Kp = fVC S [] [] Tryz.f34 [a0] w K Kp := by kernel_rfl
theorem vc34_calls (h : vc34 (nice Tryz.prog) a0 w K Kp) : Calls Tryz.prog 34 #[a0] w (ret K Kp) :=
 fVC_sound (args := [a0]) nice_le follows_MVcI Tryz.func34 (by kernel_rfl) (Eq.mp vc34_eq h)
def vc50 (S : Sig) (a0 : Value) (w : World) (K : KV) (Kp : KP) : Prop :=
 S.op (.nilCheck a0) w (fun v4 w =>
 S.op (.fieldAddr 114 v4 2) w (fun v5 w =>
 S.op (.load 3 v5) w (fun v6 w =>
 S.op (.bin .eql 3 false true v6 (.int .i64 (-1))) w (fun v7 w =>
 K v7 w) Kp) Kp) Kp) Kp
theorem vc50_eq : vc50 S a0 w K Kp = fVC S [] [] Tryz.f50 [a0] w K Kp := by kernel_rfl
theorem vc50_calls (h : vc50 (nice Tryz.prog) a0 w K Kp) : Calls Tryz.prog 50 #[a0] w (ret K Kp) :=
 fVC_sound (args := [a0]) nice_le follows_MVcI Tryz.func50 (by kernel_rfl) (Eq.mp vc50_eq h)
def vc52 (S : Sig) (a0 : Value) (w : World) (K : KV) (Kp : KP) : Prop :=
 S.op (.nilCheck a0) w (fun v3 w =>
 S.op (.fieldAddr 114 v3 0) w (fun v4 w =>
 S.op (.load 81 v4) w (fun v5 w =>
 S.op (.nilCheck v5) w (fun v6 w =>
 S.op (.fieldAddr 109 v6 1) w (fun v7 w =>
 S.op (.load 107 v7) w (fun v8 w =>
 S.op (.bin .eql 107 false true v8 .nilIface) w (fun v9 w =>
 Br v9 (
 S.op (.nilCheck a0) w (fun v11 w =>
 S.op (.fieldAddr 114 v11 2) w (fun v12 w =>
 S.op (.store 3 v12 (.int .i64 (-1))) w (fun _ w =>
 K (.tuple #[]) w) Kp) Kp) Kp) (
 S.pur (.nilCheck a0) (fun v15 =>
 S.pur (.fieldAddr 114 v15 0) (fun v16 =>
 S.ld (.load 81 v16) w.drew (fun v17 =>
 S.pur (.nilCheck v17) (fun v18 =>
 S.pur (.fieldAddr 109 v18 1) (fun v19 =>
 S.ld (.load 107 v19) w.drew (fun v20 =>
 S.pur (.build 111 [(0, v20)]) (fun v21 =>
 S.pur (.nilCheck a0) (fun v22 =>
 S.pur (.fieldAddr 114 v22 1) (fun v23 =>
 S.pur (.indexAddr 112 v23 (.int .i64 0)) (fun v24 =>
 S.op (.store 111 v24 v21) w.drew (fun _ w =>
 S.op (.nilCheck a0) w (fun v26 w =>
 S.op (.fieldAddr 114 v26 2) w (fun v27 w =>
 S.op (.store 3 v27 (.int .i64 0)) w (fun _ w =>
 S.call (.fn 64) [a0] w (fun v29 w =>
 K (.tuple #[]) w) Kp) Kp) Kp) Kp) Kp)))))))))))) Kp) Kp) Kp) Kp) Kp) Kp) Kp
theorem vc52_eq : vc52 S a0 w K Kp = fVC S [] [] Tryz.f52 [a0] w K Kp := by kernel_rfl
theorem vc52_calls (h : vc52 (nice Tryz.prog) a0 w K Kp) : Calls Tryz.prog 52 #[a0] w (ret K Kp) :=
 fVC_sound (args := [a0]) nice_le follows_MVcI Tryz.func52 (by kernel_rfl) (Eq.mp vc52_eq h)
def vc51 (S : Sig) (a0 : Value) (w : World) (K : KV) (Kp : KP) : Prop :=
 S.call (.fn 50) [a0] w (fun v12 w =>
 Br v12 (
 K (.tuple #[(.int .i64 0), (.int .i64 0), (.bool false)]) w) (
 S.pur (.nilCheck a0) (fun v17 =>
 S.pur (.fieldAddr 114 v17 2) (fun v18 =>
 S.ld (.load 3 v18) w.drew (fun v19 =>
 S.pur (.nilCheck a0) (fun v20 =>
 S.pur (.fieldAddr 114 v20 1) (fun v21 =>
 S.pur (.indexAddr 112 v21 v19) (fun v22 =>
 S.op (.nilCheck v22) w.drew (fun v24 w =>
 S.op (.fieldAddr 111 v24 0) w (fun v25 w =>
 S.op (.load 107 v25) w (fun v26 w =>
 S.op (.tassert v26 107 153 true) w (fun v27 w =>
 S.op (.extract v27 1) w (fun v28 w =>
 S.op (.extract v27 0) w (fun v29 w =>
 Br v28 (
 S.pur (.nilCheck v29) (fun v31 =>
 S.pur (.fieldAddr 159 v31 0) (fun v32 =>
 S.ld (.load 157 v32) w.drew (fun v33 =>
 S.pur (.nilCheck v22) (fun v35 =>
 S.pur (.fieldAddr 111 v35 1) (fun v36 =>
 S.ld (.load 3 v36) w.drew (fun v37 =>
 S.pur (.indexAddr 157 v33 v37) (fun v38 =>
 S.pur (.nilCheck v38) (fun v40 =>
 S.pur (.fieldAddr 156 v40 0) (fun v41 =>
 S.ld (.load 2 v41) w.drew.drew (fun v42 =>
 S.pur (.nilCheck v38) (fun v44 =>
 S.pur (.fieldAddr 156 v44 1) (fun v45 =>
 S.ld (.load 2 v45) w.drew.drew (fun v46 =>
 S.same (.load 2 v45) v46 w.drew.drew ∧
 S.call (.fn 63) [a0] w.drew.drew (fun v79 w =>
 K (.tuple #[v42, v46, (.bool true)]) w) Kp)))))))))))))) (
 S.op (.tassert v26 107 160 true) w (fun v47 w =>
 S.op (.extract v47 1) w (fun v48 w =>
 S.op (.extract v47 0) w (fun v49 w =>
 Br v48 (
 S.pur (.nilCheck v49) (fun v51 =>
 S.pur (.fieldAddr 162 v51 1) (fun v52 =>
 S.ld (.load 2 v52) w.drew (fun v53 =>
 S.pur (.nilCheck v49) (fun v55 =>
 S.pur (.fieldAddr 162 v55 2) (fun v56 =>
 S.ld (.load 2 v56) w.drew (fun v57 =>
 S.same (.load 2 v56) v57 w.drew ∧
 S.call (.fn 63) [a0] w.drew (fun v79 w =>
 K (.tuple #[v53, v57, (.bool true)]) w) Kp))))))) (
 S.op (.tassert v26 107 163 true) w (fun v58 w =>
 S.op (.extract v58 1) w (fun v59 w =>
 S.op (.extract v58 0) w (fun v60 w =>
 Br v59 (
 S.pur (.nilCheck v60) (fun v62 =>
 S.pur (.fieldAddr 165 v62 1) (fun v63 =>
 S.ld (.load 157 v63) w.drew (fun v64 =>
 S.pur (.nilCheck v22) (fun v66 =>
 S.pur (.fieldAddr 111 v66 1) (fun v67 =>
 S.ld (.load 3 v67) w.drew (fun v68 =>
 S.pur (.indexAddr 157 v64 v68) (fun v69 =>
 S.pur (.nilCheck v69) (fun v71 =>
 S.pur (.fieldAddr 156 v71 0) (fun v72 =>
 S.ld (.load 2 v72) w.drew.drew (fun v73 =>
 S.pur (.nilCheck v69) (fun v75 =>
 S.pur (.fieldAddr 156 v75 1) (fun v76 =>
 S.ld (.load 2 v76) w.drew.drew (fun v77 =>
 S.same (.load 2 v76) v77 w.drew.drew ∧
 S.call (.fn 63) [a0] w.drew.drew (fun v79 w =>
 K (.tuple #[v73, v77, (.bool true)]) w) Kp)))))))))))))) (
 S.call (.fn 63) [a0] w (fun v79 w =>
 K (.tuple #[(.int .i64 0), (.int .i64 0), (.bool true)]) w) Kp)) Kp) Kp) Kp)) Kp) Kp) Kp)) Kp) Kp) Kp) Kp) Kp) Kp)))))))) Kp
theorem vc51_eq : vc51 S a0 w K Kp = fVC S [] [] Tryz.f51 [a0] w K Kp := by kernel_rfl
theorem vc51_calls (h : vc51 (nice Tryz.prog) a0 w K Kp) : Calls Tryz.prog 51 #[a0] w (ret K Kp) :=
 fVC_sound (args := [a0]) nice_le follows_MVcI Tryz.func51 (by kernel_rfl) (Eq.mp vc51_eq h)
def vc47 (S : Sig) (a0 : Value) (w : World) (K : KV) (Kp : KP) : Prop :=
 S.op (.build 109 [(2, a0)]) w (fun v4 w =>
 S.op (.box 109 v4) w (fun v5 w =>
 K v5 w) Kp) Kp
theorem vc47_eq : vc47 S a0 w K Kp = fVC S [] [] Tryz.f47 [a0] w K Kp := by kernel_rfl
theorem vc47_calls (h : vc47 (nice Tryz.prog) a0 w K Kp) : Calls Tryz.prog 47 #[a0] w (ret K Kp) :=
 fVC_sound (args := [a0]) nice_le follows_MVcI Tryz.func47 (by kernel_rfl) (Eq.mp vc47_eq h)
def vc48 (S : Sig) (a0 a1 a2 : Value) (w : World) (K : KV) (Kp : KP) : Prop :=
 S.call (.fn 61) [a0, a1, a2, (.bool false)] w (fun v10 w =>
 K v10 w) Kp
theorem vc48_eq : vc48 S a0 a1 a2 w K Kp = fVC S [] [] Tryz.f48 [a0, a1, a2] w K Kp := by kernel_rfl
theorem vc48_calls (h : vc48 (nice Tryz.prog) a0 a1 a2 w K Kp) : Calls Tryz.prog 48 #[a0, a1, a2] w (ret K Kp) :=
 fVC_sound (args := [a0, a1, a2]) nice_le follows_MVcI Tryz.func48 (by kernel_rfl) (Eq.mp vc48_eq h)
def vc49 (S : Sig) (a0 a1 : Value) (w : World) (K : KV) (Kp : KP) : Prop :=
 S.call (.fn 62) [a0, a1, (.bool false)] w (fun v7 w =>
 K v7 w) Kp
theorem vc49_eq : vc49 S a0 a1 w K Kp = fVC S [] [] Tryz.f49 [a0, a1] w K Kp := by kernel_rfl
theorem vc49_calls (h : vc49 (nice Tryz.prog) a0 a1 w K Kp) : Calls Tryz.prog 49 #[a0, a1] w (ret K Kp) :=
 fVC_sound (args := [a0, a1]) nice_le follows_MVcI Tryz.func49 (by kernel_rfl) (Eq.mp vc49_eq h)
def vc61 (S : Sig) (a0 a1 a2 a3 : Value) (w : World) (K : KV) (Kp : KP) : Prop :=
 S.op (.nilCheck a0) w (fun v13 w =>
 S.op (.fieldAddr 109 v13 2) w (fun v14 w =>
 S.op (.load 74 v14) w (fun v15 w =>
 Jn fun (J4 : KV) =>
 (S.op (.bin .eql 74 false true v15 .nilIface) w (fun v17 w =>
 Br v17 (
 S.call (.fn 58) [a1] w (fun v19 w =>
 J4 v19 w) Kp) (
 J4 v15 w)) Kp) ∧
 (∀ (w : World) (junk : Nat → Value) (j9 : Value), J4 j9 w →
 Jn fun (J7 : KV) =>
 (S.op (.un .not a3) w (fun v22 w =>
 Br v22 (
 S.call (.fn 65) [a0] w (fun v24 w =>
 J7 v24 w) Kp) (
 J7 a0 w)) Kp) ∧
 (∀ (w : World) (junk : Nat → Value) (j10 : Value), J7 j10 w →
 S.op (.nilCheck j10) w (fun v27 w =>
 S.op (.fieldAddr 109 v27 2) w (fun v28 w =>
 S.op (.store 74 v28 j9) w (fun _ w =>
 S.op (.nilCheck a0) w (fun v30 w =>
 S.op (.fieldAddr 109 v30 1) w (fun v31 w =>
 S.op (.load 107 v31) w (fun v32 w =>
 S.op (.bin .eql 107 false true v32 .nilIface) w (fun v33 w =>
 Br v33 (
 S.op (.nilCheck j10) w (fun v35 w =>
 S.op (.fieldAddr 109 v35 0) w (fun v36 w =>
 S.op (.store 3 v36 (.int .i64 1)) w (fun _ w =>
 S.op (.build 156 [(0, a1), (1, a2)]) w (fun v40 w =>
 S.op (.buildSlice 157 1 [(0, v40)]) w (fun v41 w =>
 S.op (.build 159 [(0, v41)]) w (fun v42 w =>
 S.op (.box 159 v42) w (fun v43 w =>
 S.op (.mkIface 153 v43) w (fun v44 w =>
 S.op (.nilCheck j10) w (fun v45 w =>
 S.op (.fieldAddr 109 v45 1) w (fun v46 w =>
 S.op (.store 107 v46 v44) w (fun _ w =>
 K j10 w) Kp) Kp) Kp) Kp) Kp) Kp) Kp) Kp) Kp) Kp) Kp) (
 S.op (.alloc 4) w (fun v11 w =>
 S.pur (.nilCheck a0) (fun v50 =>
 S.pur (.fieldAddr 109 v50 1) (fun v51 =>
 S.ld (.load 107 v51) w.drew (fun v52 =>
 S.pur (.nilCheck v52) (fun v60 =>
 S.call (.inv j9 "Hash") [a1] w.drew (fun v57 w =>
 S.same (.load 107 v51) v52 w ∧
 S.call (.inv v52 "pub-bracken/pub/immutable.set") [a1, a2, (.int .u64 0), v57, j9, a3, v11] w (fun v62 w =>
 S.pur (.nilCheck j10) (fun v63 =>
 S.pur (.fieldAddr 109 v63 1) (fun v64 =>
 S.op (.store 107 v64 v62) w (fun _ w =>
 S.op (.load 4 v11) w (fun v65 w =>
 Br v65 (
 S.op (.nilCheck j10) w (fun v67 w =>
 S.op (.fieldAddr 109 v67 0) w (fun v68 w =>
 S.op (.load 3 v68) w (fun v69 w =>
 S.op (.bin .add 3 false true v69 (.int .i64 1)) w (fun v70 w =>
 S.op (.nilCheck j10) w (fun v71 w =>
 S.op (.fieldAddr 109 v71 0) w (fun v72 w =>
 S.op (.store 3 v72 v70) w (fun _ w =>
 K j10 w) Kp) Kp) Kp) Kp) Kp) Kp) Kp) (
 K j10 w)) Kp) Kp))) Kp) Kp))))) Kp)) Kp) Kp) Kp) Kp) Kp) Kp) Kp))) Kp) Kp) Kp
theorem vc61_eq : vc61 S a0 a1 a2 a3 w K Kp = fVC S [] [(4, [9]), (7, [10])] Tryz.f61 [a0, a1, a2, a3] w K Kp := by kernel_rfl
theorem vc61_calls (h : vc61 (nice Tryz.prog) a0 a1 a2 a3 w K Kp) : Calls Tryz.prog 61 #[a0, a1, a2, a3] w (ret K Kp) :=
 fVC_sound (args := [a0, a1, a2, a3]) nice_le follows_MVcI Tryz.func61 (by kernel_rfl) (Eq.mp vc61_eq h)
def vc64 (S : Sig) (a0 : Value) (w : World) (K : KV) (Kp : KP) : Prop :=
 Lp fun (I1 : World → Prop) (μ1 : World → Nat) => I1 w ∧
 ∀ (wl1 : World) (junk : Nat → Value), I1 wl1 →
 S.pur (.nilCheck a0) (fun v16 =>
 S.pur (.fieldAddr 114 v16 2) (fun v17 =>
 S.ld (.load 3 v17) wl1.drew (fun v18 =>
 S.pur (.nilCheck a0) (fun v19 =>
 S.pur (.fieldAddr 114 v19 1) (fun v20 =>
 S.pur (.indexAddr 112 v20 v18) (fun v21 =>
 S.op (.nilCheck v21) wl1.drew (fun v23 w =>
 S.op (.fieldAddr 111 v23 0) w (fun v24 w =>
 S.op (.load 107 v24) w (fun v25 w =>
 S.op (.tassert v25 107 184 true) w (fun v29 w =>
 S.op (.extract v29 1) w (fun v30 w =>
 S.op (.extract v29 0) w (fun v31 w =>
 Br v30 (
 S.op (.nilCheck v21) w (fun v33 w =>
 S.op (.fieldAddr 111 v33 1) w (fun v34 w =>
 S.op (.store 3 v34 (.int .i64 0)) w (fun _ w =>
 S.pur (.nilCheck a0) (fun v37 =>
 S.pur (.fieldAddr 114 v37 2) (fun v38 =>
 S.ld (.load 3 v38) w.drew (fun v39 =>
 S.pur (.bin .add 3 false true v39 (.int .i64 1)) (fun v40 =>
 S.pur (.nilCheck v31) (fun v42 =>
 S.pur (.fieldAddr 187 v42 1) (fun v43 =>
 S.ld (.load 185 v43) w.drew (fun v44 =>
 S.pur (.indexAddr 185 v44 (.int .i64 0)) (fun v45 =>
 S.ld (.load 107 v45) w.drew (fun v46 =>
 S.pur (.nilCheck a0) (fun v47 =>
 S.pur (.fieldAddr 114 v47 1) (fun v48 =>
 S.pur (.indexAddr 112 v48 v40) (fun v49 =>
 S.pur (.fieldAddr 111 v49 0) (fun v50 =>
 S.op (.store 107 v50 v46) w.drew (fun _ w =>
 S.op (.nilCheck a0) w (fun v8 w =>
 S.op (.fieldAddr 114 v8 2) w (fun v9 w =>
 S.op (.load 3 v9) w (fun v10 w =>
 S.op (.bin .add 3 false true v10 (.int .i64 1)) w (fun v11 w =>
 S.op (.nilCheck a0) w (fun v12 w =>
 S.op (.fieldAddr 114 v12 2) w (fun v13 w =>
 S.op (.store 3 v13 v11) w (fun _ w =>
 I1 w ∧ μ1 w < μ1 wl1) Kp) Kp) Kp) Kp) Kp) Kp) Kp) Kp)))))))))))))) Kp) Kp) Kp) (
 S.op (.tassert v25 107 188 true) w (fun v51 w =>
 S.op (.extract v51 1) w (fun v52 w =>
 S.op (.extract v51 0) w (fun v53 w =>
 Br v52 (
 Lp fun (I12 : KV) (μ12 : Value → World → Nat) => I12 (.int .i64 0) w ∧
 ∀ (wl12 : World) (junk : Nat → Value) (s5 : Value), I12 s5 wl12 →
 S.op (.bin .lss 3 false true s5 (.int .i64 32)) wl12 (fun v55 w =>
 Br v55 (
 S.op (.nilCheck v53) w (fun v60 w =>
 S.op (.fieldAddr 191 v60 1) w (fun v61 w =>
 S.op (.indexAddr 189 v61 s5) w (fun v62 w =>
 S.op (.load 107 v62) w (fun v63 w =>
 S.op (.bin .neq 107 false true v63 .nilIface) w (fun v64 w =>
 Br v64 (
 S.op (.nilCheck v21) w (fun v67 w =>
 S.op (.fieldAddr 111 v67 1) w (fun v68 w =>
 S.op (.store 3 v68 s5) w (fun _ w =>
 S.pur (.nilCheck a0) (fun v71 =>
 S.pur (.fieldAddr 114 v71 2) (fun v72 =>
 S.ld (.load 3 v72) w.drew (fun v73 =>
 S.pur (.bin .add 3 false true v73 (.int .i64 1)) (fun v74 =>
 S.pur (.nilCheck v53) (fun v77 =>
 S.pur (.fieldAddr 191 v77 1) (fun v78 =>
 S.pur (.indexAddr 189 v78 s5) (fun v79 =>
 S.ld (.load 107 v79) w.drew (fun v80 =>
 S.pur (.nilCheck a0) (fun v81 =>
 S.pur (.fieldAddr 114 v81 1) (fun v82 =>
 S.pur (.indexAddr 112 v82 v74) (fun v83 =>
 S.pur (.fieldAddr 111 v83 0) (fun v84 =>
 S.op (.store 107 v84 v80) w.drew (fun _ w =>
 S.op (.nilCheck a0) w (fun v8 w =>
 S.op (.fieldAddr 114 v8 2) w (fun v9 w =>
 S.op (.load 3 v9) w (fun v10 w =>
 S.op (.bin .add 3 false true v10 (.int .i64 1)) w (fun v11 w =>
 S.op (.nilCheck a0) w (fun v12 w =>
 S.op (.fieldAddr 114 v12 2) w (fun v13 w =>
 S.op (.store 3 v13 v11) w (fun _ w =>
 I1 w ∧ μ1 w < μ1 wl1) Kp) Kp) Kp) Kp) Kp) Kp) Kp) Kp))))))))))))) Kp) Kp) Kp) (
 S.op (.bin .add 3 false true s5 (.int .i64 1)) w (fun v57 w =>
 I12 v57 w ∧ μ12 v57 w < μ12 s5 wl12) Kp)) Kp) Kp) Kp) Kp) Kp) (
 S.op (.nilCheck a0) w (fun v8 w =>
 S.op (.fieldAddr 114 v8 2) w (fun v9 w =>
 S.op (.load 3 v9) w (fun v10 w =>
 S.op (.bin .add 3 false true v10 (.int .i64 1)) w (fun v11 w =>
 S.op (.nilCheck a0) w (fun v12 w =>
 S.op (.fieldAddr 114 v12 2) w (fun v13 w =>
 S.op (.store 3 v13 v11) w (fun _ w =>
 I1 w ∧ μ1 w < μ1 wl1) Kp) Kp) Kp) Kp) Kp) Kp) Kp)) Kp) (
 S.op (.nilCheck v21) w (fun v27 w =>
 S.op (.fieldAddr 111 v27 1) w (fun v28 w =>
 S.op (.store 3 v28 (.int .i64 0)) w (fun _ w =>
 K (.tuple #[]) w) Kp) Kp) Kp)) Kp) Kp) Kp)) Kp) Kp) Kp) Kp) Kp) Kp))))))
theorem vc64_eq : vc64 S a0 w K Kp = fVC S [(1, []), (12, [5])] [] Tryz.f64 [a0] w K Kp := by kernel_rfl
theorem vc64_calls (h : vc64 (nice Tryz.prog) a0 w K Kp) : Calls Tryz.prog 64 #[a0] w (ret K Kp) :=
 fVC_sound (args := [a0]) nice_le follows_MVcI Tryz.func64 (by kernel_rfl) (Eq.mp vc64_eq h)
def vc63 (S : Sig) (a0 : Value) (w : World) (K : KV) (Kp : KP) : Prop :=
 Lp fun (I0 : World → Prop) (μ0 : World → Nat) => I0 w ∧
 ∀ (wl0 : World) (junk : Nat → Value), I0 wl0 →
 S.op (.nilCheck a0) wl0 (fun v10 w =>
 S.op (.fieldAddr 114 v10 2) w (fun v11 w =>
 S.op (.load 3 v11) w (fun v12 w =>
 S.op (.bin .geq 3 false true v12 (.int .i64 0)) w (fun v13 w =>
 Br v13 (
 Jn fun (J1 : World → Prop) =>
 (S.pur (.nilCheck a0) (fun v23 =>
 S.pur (.fieldAddr 114 v23 2) (fun v24 =>
 S.ld (.load 3 v24) w.drew (fun v25 =>
 S.pur (.nilCheck a0) (fun v26 =>
 S.pur (.fieldAddr 114 v26 1) (fun v27 =>
 S.pur (.indexAddr 112 v27 v25) (fun v28 =>
 S.op (.nilCheck v28) w.drew (fun v30 w =>
 S.op (.fieldAddr 111 v30 0) w (fun v31 w =>
 S.op (.load 107 v31) w (fun v32 w =>
 S.op (.tassert v32 107 153 true) w (fun v33 w =>
 S.op (.extract v33 1) w (fun v34 w =>
 S.op (.extract v33 0) w (fun v35 w =>
 Br v34 (
 S.pur (.nilCheck v28) (fun v37 =>
 S.pur (.fieldAddr 111 v37 1) (fun v38 =>
 S.ld (.load 3 v38) w.drew (fun v39 =>
 S.pur (.nilCheck v35) (fun v41 =>
 S.pur (.fieldAddr 159 v41 0) (fun v42 =>
 S.ld (.load 157 v42) w.drew (fun v43 =>
 S.ld (.blt .len [157] 3 [v43]) w.drew (fun v44 =>
 S.pur (.bin .sub 3 false true v44 (.int .i64 1)) (fun v45 =>
 S.pur (.bin .lss 3 false false v39 v45) (fun v46 =>
 Br v46 (
 S.op (.nilCheck v28) w.drew (fun v48 w =>
 S.op (.fieldAddr 111 v48 1) w (fun v49 w =>
 S.op (.load 3 v49) w (fun v50 w =>
 S.op (.bin .add 3 false true v50 (.int .i64 1)) w (fun v51 w =>
 S.op (.nilCheck v28) w (fun v52 w =>
 S.op (.fieldAddr 111 v52 1) w (fun v53 w =>
 S.op (.store 3 v53 v51) w (fun _ w =>
 K (.tuple #[]) w) Kp) Kp) Kp) Kp) Kp) Kp) Kp) (
 J1 w.drew))))))))))) (
 S.op (.tassert v32 107 184 true) w (fun v54 w =>
 S.op (.extract v54 1) w (fun v55 w =>
 S.op (.extract v54 0) w (fun v56 w =>
 Br v55 (
 S.pur (.nilCheck v28) (fun v58 =>
 S.pur (.fieldAddr 111 v58 1) (fun v59 =>
 S.ld (.load 3 v59) w.drew (fun v60 =>
 S.pur (.nilCheck v56) (fun v62 =>
 S.pur (.fieldAddr 187 v62 1) (fun v63 =>
 S.ld (.load 185 v63) w.drew (fun v64 =>
 S.ld (.blt .len [185] 3 [v64]) w.drew (fun v65 =>
 S.pur (.bin .sub 3 false true v65 (.int .i64 1)) (fun v66 =>
 S.pur (.bin .lss 3 false false v60 v66) (fun v67 =>
 Br v67 (
 S.op (.nilCheck v28) w.drew (fun v69 w =>
 S.op (.fieldAddr 111 v69 1) w (fun v70 w =>
 S.op (.load 3 v70) w (fun v71 w =>
 S.op (.bin .add 3 false true v71 (.int .i64 1)) w (fun v72 w =>
 S.op (.nilCheck v28) w (fun v73 w =>
 S.op (.fieldAddr 111 v73 1) w (fun v74 w =>
 S.op (.store 3 v74 v72) w (fun _ w =>
 S.pur (.nilCheck a0) (fun v77 =>
 S.pur (.fieldAddr 114 v77 2) (fun v78 =>
 S.ld (.load 3 v78) w.drew (fun v79 =>
 S.pur (.bin .add 3 false true v79 (.int .i64 1)) (fun v80 =>
 S.pur (.nilCheck v56) (fun v82 =>
 S.pur (.fieldAddr 187 v82 1) (fun v83 =>
 S.ld (.load 185 v83) w.drew (fun v84 =>
 S.pur (.nilCheck v28) (fun v86 =>
 S.pur (.fieldAddr 111 v86 1) (fun v87 =>
 S.ld (.load 3 v87) w.drew (fun v88 =>
 S.pur (.indexAddr 185 v84 v88) (fun v89 =>
 S.ld (.load 107 v89) w.drew (fun v90 =>
 S.pur (.nilCheck a0) (fun v91 =>
 S.pur (.fieldAddr 114 v91 1) (fun v92 =>
 S.pur (.indexAddr 112 v92 v80) (fun v93 =>
 S.pur (.fieldAddr 111 v93 0) (fun v94 =>
 S.op (.store 107 v94 v90) w.drew (fun _ w =>
 S.op (.nilCheck a0) w (fun v96 w =>
 S.op (.fieldAddr 114 v96 2) w (fun v97 w =>
 S.op (.load 3 v97) w (fun v98 w =>
 S.op (.bin .add 3 false true v98 (.int .i64 1)) w (fun v99 w =>
 S.op (.nilCheck a0) w (fun v100 w =>
 S.op (.fieldAddr 114 v100 2) w (fun v101 w =>
 S.op (.store 3 v101 v99) w (fun _ w =>
 S.call (.fn 64) [a0] w (fun v103 w =>
 K (.tuple #[]) w) Kp) Kp) Kp) Kp) Kp) Kp) Kp) Kp) Kp))))))))))))))))) Kp) Kp) Kp) Kp) Kp) Kp) Kp) (
 J1 w.drew))))))))))) (
 S.op (.tassert v32 107 188 true) w (fun v104 w =>
 S.op (.extract v104 1) w (fun v105 w =>
 S.op (.extract v104 0) w (fun v106 w =>
 Br v105 (
 S.op (.nilCheck v28) w (fun v108 w =>
 S.op (.fieldAddr 111 v108 1) w (fun v109 w =>
 S.op (.load 3 v109) w (fun v110 w =>
 S.op (.bin .add 3 false true v110 (.int .i64 1)) w (fun v111 w =>
 Lp fun (I18 : KV) (μ18 : Value → World → Nat) => I18 v111 w ∧
 ∀ (wl18 : World) (junk : Nat → Value) (s6 : Value), I18 s6 wl18 →
 S.op (.bin .lss 3 false true s6 (.int .i64 32)) wl18 (fun v113 w =>
 Br v113 (
 S.op (.nilCheck v106) w (fun v118 w =>
 S.op (.fieldAddr 191 v118 1) w (fun v119 w =>
 S.op (.indexAddr 189 v119 s6) w (fun v120 w =>
 S.op (.load 107 v120) w (fun v121 w =>
 S.op (.bin .neq 107 false true v121 .nilIface) w (fun v122 w =>
 Br v122 (
 S.op (.nilCheck v28) w (fun v125 w =>
 S.op (.fieldAddr 111 v125 1) w (fun v126 w =>
 S.op (.store 3 v126 s6) w (fun _ w =>
 S.pur (.nilCheck a0) (fun v129 =>
 S.pur (.fieldAddr 114 v129 2) (fun v130 =>
 S.ld (.load 3 v130) w.drew (fun v131 =>
 S.pur (.bin .add 3 false true v131 (.int .i64 1)) (fun v132 =>
 S.pur (.nilCheck v28) (fun v135 =>
 S.pur (.fieldAddr 111 v135 1) (fun v136 =>
 S.ld (.load 3 v136) w.drew (fun v137 =>
 S.pur (.nilCheck v106) (fun v138 =>
 S.pur (.fieldAddr 191 v138 1) (fun v139 =>
 S.pur (.indexAddr 189 v139 v137) (fun v140 =>
 S.ld (.load 107 v140) w.drew (fun v141 =>
 S.pur (.nilCheck a0) (fun v142 =>
 S.pur (.fieldAddr 114 v142 1) (fun v143 =>
 S.pur (.indexAddr 112 v143 v132) (fun v144 =>
 S.pur (.fieldAddr 111 v144 0) (fun v145 =>
 S.op (.store 107 v145 v141) w.drew (fun _ w =>
 S.op (.nilCheck a0) w (fun v147 w =>
 S.op (.fieldAddr 114 v147 2) w (fun v148 w =>
 S.op (.load 3 v148) w (fun v149 w =>
 S.op (.bin .add 3 false true v149 (.int .i64 1)) w (fun v150 w =>
 S.op (.nilCheck a0) w (fun v151 w =>
 S.op (.fieldAddr 114 v151 2) w (fun v152 w =>
 S.op (.store 3 v152 v150) w (fun _ w =>
 S.call (.fn 64) [a0] w (fun v154 w =>
 K (.tuple #[]) w) Kp) Kp) Kp) Kp) Kp) Kp) Kp) Kp) Kp)))))))))))))))) Kp) Kp) Kp) (
 S.op (.bin .add 3 false true s6 (.int .i64 1)) w (fun v115 w =>
 I18 v115 w ∧ μ18 v115 w < μ18 s6 wl18) Kp)) Kp) Kp) Kp) Kp) Kp) (
 J1 w)) Kp) Kp) Kp) Kp) Kp) (
 S.op (.tassert v32 107 160 true) w (fun v155 w =>
 S.op (.extract v155 1) w (fun v156 w =>
 S.op (.extract v155 0) w (fun v157 w =>
 Br v156 (
 J1 w) (
 S.op (.tassert v32 107 163 true) w (fun v158 w =>
 S.op (.extract v158 1) w (fun v159 w =>
 S.op (.extract v158 0) w (fun v160 w =>
 Br v159 (
 S.pur (.nilCheck v28) (fun v162 =>
 S.pur (.fieldAddr 111 v162 1) (fun v163 =>
 S.ld (.load 3 v163) w.drew (fun v164 =>
 S.pur (.nilCheck v160) (fun v166 =>
 S.pur (.fieldAddr 165 v166 1) (fun v167 =>
 S.ld (.load 157 v167) w.drew (fun v168 =>
 S.ld (.blt .len [157] 3 [v168]) w.drew (fun v169 =>
 S.pur (.bin .sub 3 false true v169 (.int .i64 1)) (fun v170 =>
 S.pur (.bin .lss 3 false false v164 v170) (fun v171 =>
 Br v171 (
 S.op (.nilCheck v28) w.drew (fun v173 w =>
 S.op (.fieldAddr 111 v173 1) w (fun v174 w =>
 S.op (.load 3 v174) w (fun v175 w =>
 S.op (.bin .add 3 false true v175 (.int .i64 1)) w (fun v176 w =>
 S.op (.nilCheck v28) w (fun v177 w =>
 S.op (.fieldAddr 111 v177 1) w (fun v178 w =>
 S.op (.store 3 v178 v176) w (fun _ w =>
 K (.tuple #[]) w) Kp) Kp) Kp) Kp) Kp) Kp) Kp) (
 J1 w.drew))))))))))) (
 J1 w)) Kp) Kp) Kp)) Kp) Kp) Kp)) Kp) Kp) Kp)) Kp) Kp) Kp)) Kp) Kp) Kp) Kp) Kp) Kp))))))) ∧
 (∀ (w : World) (junk : Nat → Value), J1 w →
 S.op (.nilCheck a0) w (fun v15 w =>
 S.op (.fieldAddr 114 v15 2) w (fun v16 w =>
 S.op (.load 3 v16) w (fun v17 w =>
 S.op (.bin .sub 3 false true v17 (.int .i64 1)) w (fun v18 w =>
 S.op (.nilCheck a0) w (fun v19 w =>
 S.op (.fieldAddr 114 v19 2) w (fun v20 w =>
 S.op (.store 3 v20 v18) w (fun _ w =>
 I0 w ∧ μ0 w < μ0 wl0) Kp) Kp) Kp) Kp) Kp) Kp) Kp)) (
 K (.tuple #[]) w)) Kp) Kp) Kp) Kp
theorem vc63_eq : vc63 S a0 w K Kp = fVC S [(0, []), (18, [6])] [(1, [])] Tryz.f63 [a0] w K Kp := by kernel_rfl
theorem vc63_calls (h : vc63 (nice Tryz.prog) a0 w K Kp) : Calls Tryz.prog 63 #[a0] w (ret K Kp) :=
 fVC_sound (args := [a0]) nice_le follows_MVcI Tryz.func63 (by kernel_rfl) (Eq.mp vc63_eq h)
def vc62 (S : Sig) (a0 a1 a2 : Value) (w : World) (K : KV) (Kp : KP) : Prop :=
 S.op (.nilCheck a0) w (fun v11 w =>
 S.op (.fieldAddr 109 v11 1) w (fun v12 w =>
 S.op (.load 107 v12) w (fun v13 w =>
 S.op (.bin .eql 107 false true v13 .nilIface) w (fun v14 w =>
 Br v14 (
 K a0 w) (
 S.op (.alloc 4) w (fun v7 w =>
 S.pur (.nilCheck a0) (fun v17 =>
 S.pur (.fieldAddr 109 v17 1) (fun v18 =>
 S.ld (.load 107 v18) w.drew (fun v19 =>
 S.pur (.nilCheck a0) (fun v22 =>
 S.pur (.fieldAddr 109 v22 2) (fun v23 =>
 S.ld (.load 74 v23) w.drew (fun v24 =>
 S.pur (.nilCheck a0) (fun v28 =>
 S.pur (.fieldAddr 109 v28 2) (fun v29 =>
 S.ld (.load 74 v29) w.drew (fun v30 =>
 S.pur (.nilCheck v19) (fun v32 =>
 S.call (.inv v24 "Hash") [a1] w.drew (fun v26 w =>
 S.same (.load 74 v29) v30 w ∧
 S.same (.load 107 v18) v19 w ∧
 S.call (.inv v19 "pub-bracken/pub/immutable.delete") [a1, (.int .u64 0), v26, v30, a2, v7] w (fun v34 w =>
 S.op (.load 4 v7) w (fun v35 w =>
 S.op (.un .not v35) w (fun v36 w =>
 Br v36 (
 K a0 w) (
 S.op (.un .not a2) w (fun v40 w =>
 Br v40 (
 S.call (.fn 65) [a0] w (fun v42 w =>
 S.op (.nilCheck a0) w (fun v45 w =>
 S.op (.fieldAddr 109 v45 0) w (fun v46 w =>
 S.op (.load 3 v46) w (fun v47 w =>
 S.op (.bin .sub 3 false true v47 (.int .i64 1)) w (fun v48 w =>
 S.op (.nilCheck v42) w (fun v49 w =>
 S.op (.fieldAddr 109 v49 0) w (fun v50 w =>
 S.op (.store 3 v50 v48) w (fun _ w =>
 S.op (.nilCheck v42) w (fun v53 w =>
 S.op (.fieldAddr 109 v53 1) w (fun v54 w =>
 S.op (.store 107 v54 v34) w (fun _ w =>
 K v42 w) Kp) Kp) Kp) Kp) Kp) Kp) Kp) Kp) Kp) Kp) Kp) (
 S.op (.nilCheck a0) w (fun v45 w =>
 S.op (.fieldAddr 109 v45 0) w (fun v46 w =>
 S.op (.load 3 v46) w (fun v47 w =>
 S.op (.bin .sub 3 false true v47 (.int .i64 1)) w (fun v48 w =>
 S.op (.nilCheck a0) w (fun v49 w =>
 S.op (.fieldAddr 109 v49 0) w (fun v50 w =>
 S.op (.store 3 v50 v48) w (fun _ w =>
 S.op (.nilCheck a0) w (fun v53 w =>
 S.op (.fieldAddr 109 v53 1) w (fun v54 w =>
 S.op (.store 107 v54 v34) w (fun _ w =>
 K a0 w) Kp) Kp) Kp) Kp) Kp) Kp) Kp) Kp) Kp) Kp)) Kp)) Kp) Kp) Kp) Kp))))))))))) Kp)) Kp) Kp) Kp) Kp
theorem vc62_eq : vc62 S a0 a1 a2 w K Kp = fVC S [] [] Tryz.f62 [a0, a1, a2] w K Kp := by kernel_rfl
theorem vc62_calls (h : vc62 (nice Tryz.prog) a0 a1 a2 w K Kp) : Calls Tryz.prog 62 #[a0, a1, a2] w (ret K Kp) :=
 fVC_sound (args := [a0, a1, a2]) nice_le follows_MVcI Tryz.func62 (by kernel_rfl) (Eq.mp vc62_eq h)
def vc65 (S : Sig) (a0 : Value) (w : World) (K : KV) (Kp : KP) : Prop :=
 S.op (.nilCheck a0) w (fun v5 w =>
 S.op (.load 109 v5) w (fun v6 w =>
 S.op (.alloc 109) w (fun v3 w =>
 S.op (.store 109 v3 v6) w (fun _ w =>
 K v3 w) Kp) Kp) Kp) Kp
theorem vc65_eq : vc65 S a0 w K Kp = fVC S [] [] Tryz.f65 [a0] w K Kp := by kernel_rfl
theorem vc65_calls (h : vc65 (nice Tryz.prog) a0 w K Kp) : Calls Tryz.prog 65 #[a0] w (ret K Kp) :=
 fVC_sound (args := [a0]) nice_le follows_MVcI Tryz.func65 (by kernel_rfl) (Eq.mp vc65_eq h)
def vc100 (S : Sig) (a0 a1 a2 a3 a4 a5 a6 : Value) (w : World) (K : KV) (Kp : KP) : Prop :=
 S.call (.fn 102) [a0, a1, a4] w (fun v20 w =>
 S.op (.bin .eql 3 false true v20 (.int .i64 (-1))) w (fun v22 w =>
 Br v22 (
 S.op (.mkIface 153 a0) w (fun v24 w =>
 K v24 w) Kp) (
 S.op (.nilCheck a6) w (fun v26 w =>
 S.op (.store 4 v26 (.bool true)) w (fun _ w =>
 S.op (.nilCheck a0) w (fun v28 w =>
 S.op (.fieldAddr 159 v28 0) w (fun v29 w =>
 S.op (.load 157 v29) w (fun v30 w =>
 S.op (.blt .len [157] 3 [v30]) w (fun v31 w =>
 S.op (.bin .eql 3 false true v31 (.int .i64 1)) w (fun v32 w =>
 Br v32 (
 K .nilIface w) (
 Br a5 (
 S.pur (.nilCheck a0) (fun v35 =>
 S.pur (.fieldAddr 159 v35 0) (fun v36 =>
 S.ld (.load 157 v36) w.drew (fun v37 =>
 S.pur (.slice 157 v37 (some v20) none none) (fun v39 =>
 S.pur (.nilCheck a0) (fun v41 =>
 S.pur (.fieldAddr 159 v41 0) (fun v42 =>
 S.ld (.load 157 v42) w.drew (fun v43 =>
 S.pur (.bin .add 3 false true v20 (.int .i64 1)) (fun v45 =>
 S.pur (.slice 157 v43 (some v45) none none) (fun v46 =>
 S.op (.blt .copy [157, 157] 3 [v39, v46]) w.drew (fun v47 w =>
 S.pur (.nilCheck a0) (fun v49 =>
 S.pur (.fieldAddr 159 v49 0) (fun v50 =>
 S.ld (.load 157 v50) w.drew (fun v51 =>
 S.pur (.nilCheck a0) (fun v53 =>
 S.pur (.fieldAddr 159 v53 0) (fun v54 =>
 S.ld (.load 157 v54) w.drew (fun v55 =>
 S.ld (.blt .len [157] 3 [v55]) w.drew (fun v56 =>
 S.pur (.bin .sub 3 false true v56 (.int .i64 1)) (fun v57 =>
 S.pur (.build 156 []) (fun v58 =>
 S.pur (.indexAddr 157 v51 v57) (fun v59 =>
 S.op (.store 156 v59 v58) w.drew (fun _ w =>
 S.pur (.nilCheck a0) (fun v62 =>
 S.pur (.fieldAddr 159 v62 0) (fun v63 =>
 S.ld (.load 157 v63) w.drew (fun v64 =>
 S.pur (.nilCheck a0) (fun v66 =>
 S.pur (.fieldAddr 159 v66 0) (fun v67 =>
 S.ld (.load 157 v67) w.drew (fun v68 =>
 S.ld (.blt .len [157] 3 [v68]) w.drew (fun v69 =>
 S.pur (.bin .sub 3 false true v69 (.int .i64 1)) (fun v70 =>
 S.pur (.slice 157 v64 none (some v70) none) (fun v71 =>
 S.pur (.nilCheck a0) (fun v72 =>
 S.pur (.fieldAddr 159 v72 0) (fun v73 =>
 S.op (.store 157 v73 v71) w.drew (fun _ w =>
 S.op (.mkIface 153 a0) w (fun v75 w =>
 K v75 w) Kp) Kp)))))))))))) Kp))))))))))) Kp)))))))))) (
 S.op (.nilCheck a0) w (fun v77 w =>
 S.op (.fieldAddr 159 v77 0) w (fun v78 w =>
 S.op (.load 157 v78) w (fun v79 w =>
 S.op (.blt .len [157] 3 [v79]) w (fun v80 w =>
 S.op (.bin .sub 3 false true v80 (.int .i64 1)) w (fun v81 w =>
 S.op (.mkSlice 157 v81 v81) w (fun v82 w =>
 S.op (.build 159 [(0, v82)]) w (fun v83 w =>
 S.op (.box 159 v83) w (fun v84 w =>
 S.pur (.nilCheck v84) (fun v86 =>
 S.pur (.fieldAddr 159 v86 0) (fun v87 =>
 S.ld (.load 157 v87) w.drew (fun v88 =>
 S.pur (.slice 157 v88 none (some v20) none) (fun v90 =>
 S.pur (.nilCheck a0) (fun v92 =>
 S.pur (.fieldAddr 159 v92 0) (fun v93 =>
 S.ld (.load 157 v93) w.drew (fun v94 =>
 S.pur (.slice 157 v94 none (some v20) none) (fun v96 =>
 S.op (.blt .copy [157, 157] 3 [v90, v96]) w.drew (fun v97 w =>
 S.pur (.nilCheck v84) (fun v99 =>
 S.pur (.fieldAddr 159 v99 0) (fun v100 =>
 S.ld (.load 157 v100) w.drew (fun v101 =>
 S.pur (.slice 157 v101 (some v20) none none) (fun v103 =>
 S.pur (.nilCheck a0) (fun v105 =>
 S.pur (.fieldAddr 159 v105 0) (fun v106 =>
 S.ld (.load 157 v106) w.drew (fun v107 =>
 S.pur (.bin .add 3 false true v20 (.int .i64 1)) (fun v109 =>
 S.pur (.slice 157 v107 (some v109) none none) (fun v110 =>
 S.op (.blt .copy [157, 157] 3 [v103, v110]) w.drew (fun v111 w =>
 S.op (.mkIface 153 v84) w (fun v113 w =>
 K v113 w) Kp) Kp)))))))))) Kp))))))))) Kp) Kp) Kp) Kp) Kp) Kp) Kp) Kp))) Kp) Kp) Kp) Kp) Kp) Kp) Kp)) Kp) Kp
theorem vc100_eq : vc100 S a0 a1 a2 a3 a4 a5 a6 w K Kp = fVC S [] [] Tryz.f100 [a0, a1, a2, a3, a4, a5, a6] w K Kp := by kernel_rfl
theorem vc100_calls (h : vc100 (nice Tryz.prog) a0 a1 a2 a3 a4 a5 a6 w K Kp) : Calls Tryz.prog 100 #[a0, a1, a2, a3, a4, a5, a6] w (ret K Kp) :=
 fVC_sound (args := [a0, a1, a2, a3, a4, a5, a6]) nice_le follows_MVcI Tryz.func100 (by kernel_rfl) (Eq.mp vc100_eq h)
def vc101 (S : Sig) (a0 a1 a2 a3 a4 : Value) (w : World) (K : KV) (Kp : KP) : Prop :=
 S.call (.fn 102) [a0, a1, a4] w (fun v16 w =>
 S.op (.bin .eql 3 false true v16 (.int .i64 (-1))) w (fun v18 w =>
 Br v18 (
 K (.tuple #[(.int .i64 0), (.bool false)]) w) (
 S.op (.nilCheck a0) w (fun v21 w =>
 S.op (.fieldAddr 159 v21 0) w (fun v22 w =>
 S.op (.load 157 v22) w (fun v23 w =>
 S.op (.indexAddr 157 v23 v16) w (fun v25 w =>
 S.op (.fieldAddr 156 v25 1) w (fun v26 w =>
 S.op (.load 2 v26) w (fun v27 w =>
 K (.tuple #[v27, (.bool true)]) w) Kp) Kp) Kp) Kp) Kp) Kp)) Kp) Kp
theorem vc101_eq : vc101 S a0 a1 a2 a3 a4 w K Kp = fVC S [] [] Tryz.f101 [a0, a1, a2, a3, a4] w K Kp := by kernel_rfl
theorem vc101_calls (h : vc101 (nice Tryz.prog) a0 a1 a2 a3 a4 w K Kp) : Calls Tryz.prog 101 #[a0, a1, a2, a3, a4] w (ret K Kp) :=
 fVC_sound (args := [a0, a1, a2, a3, a4]) nice_le follows_MVcI Tryz.func101 (by kernel_rfl) (Eq.mp vc101_eq h)
def vc102 (S : Sig) (a0 a1 a2 : Value) (w : World) (K : KV) (Kp : KP) : Prop :=
 S.op (.nilCheck a0) w (fun v9 w =>
 S.op (.fieldAddr 159 v9 0) w (fun v10 w =>
 S.op (.load 157 v10) w (fun v11 w =>
 S.op (.blt .len [157] 3 [v11]) w (fun v12 w =>
 Lp fun (I2 : KV) (μ2 : Value → World → Nat) => I2 (.int .i64 0) w ∧
 ∀ (wl2 : World) (junk : Nat → Value) (s13 : Value), I2 s13 wl2 →
 S.op (.bin .lss 3 false false s13 v12) wl2 (fun v14 w =>
 Br v14 (
 S.pur (.nilCheck a0) (fun v18 =>
 S.pur (.fieldAddr 159 v18 0) (fun v19 =>
 S.ld (.load 157 v19) w.drew (fun v20 =>
 S.pur (.indexAddr 157 v20 s13) (fun v22 =>
 S.pur (.fieldAddr 156 v22 0) (fun v23 =>
 S.ld (.load 2 v23) w.drew (fun v24 =>
 S.pur (.mkFunc (Fn.method "Equal") [a2] []) (fun v26 =>
 S.pur (.nilCheck v26) (fun v27 =>
 S.call (.inv a2 "Equal") [v24, a1] w.drew (fun v29 w =>
 Br v29 (
 K s13 w) (
 S.op (.bin .add 3 false true s13 (.int .i64 1)) w (fun v31 w =>
 I2 v31 w ∧ μ2 v31 w < μ2 s13 wl2) Kp)) Kp))))))))) (
 K (.int .i64 (-1)) w)) Kp) Kp) Kp) Kp) Kp
theorem vc102_eq : vc102 S a0 a1 a2 w K Kp = fVC S [(2, [13])] [] Tryz.f102 [a0, a1, a2] w K Kp := by kernel_rfl
theorem vc102_calls (h : vc102 (nice Tryz.prog) a0 a1 a2 w K Kp) : Calls Tryz.prog 102 #[a0, a1, a2] w (ret K Kp) :=
 fVC_sound (args := [a0, a1, a2]) nice_le follows_MVcI Tryz.func102 (by kernel_rfl) (Eq.mp vc102_eq h)
def vc103 (S : Sig) (a0 a1 a2 a3 a4 a5 a6 a7 : Value) (w : World) (K : KV) (Kp : KP) : Prop :=
 S.call (.fn 102) [a0, a1, a5] w (fun v25 w =>
 Jn fun (J4 : World → Prop) =>
 (S.op (.bin .eql 3 false true v25 (.int .i64 (-1))) w (fun v27 w =>
 Br v27 (
 S.op (.nilCheck a7) w (fun v29 w =>
 S.op (.store 4 v29 (.bool true)) w (fun _ w =>
 J4 w) Kp) Kp) (
 J4 w)) Kp) ∧
 (∀ (w : World) (junk : Nat → Value), J4 w →
 Jn fun (J12 : World → Prop) =>
 (S.op (.bin .eql 3 false true v25 (.int .i64 (-1))) w (fun v31 w =>
 Br v31 (
 S.op (.nilCheck a0) w (fun v34 w =>
 S.op (.fieldAddr 159 v34 0) w (fun v35 w =>
 S.op (.load 157 v35) w (fun v36 w =>
 S.op (.blt .len [157] 3 [v36]) w (fun v37 w =>
 S.op (.bin .geq 3 false true v37 (.int .i64 8)) w (fun v38 w =>
 Br v38 (
 S.call (.inv a5 "Hash") [a1] w (fun v42 w =>
 S.call (.fn 104) [v42, a1, a2] w (fun v45 w =>
 S.op (.mkIface 160 v45) w (fun v46 w =>
 S.op (.nilCheck a0) w (fun v48 w =>
 S.op (.fieldAddr 159 v48 0) w (fun v49 w =>
 S.op (.load 157 v49) w (fun v50 w =>
 S.op (.blt .len [157] 3 [v50]) w (fun v51 w =>
 Lp fun (I7 : Value → KV) (μ7 : Value → Value → World → Nat) => I7 v46 (.int .i64 0) w ∧
 ∀ (wl7 : World) (junk : Nat → Value) (s18 : Value) (s52 : Value), I7 s18 s52 wl7 →
 S.op (.bin .lss 3 false false s52 v51) wl7 (fun v53 w =>
 Br v53 (
 S.op (.indexAddr 157 v50 s52) w (fun v54 w =>
 S.op (.load 156 v54) w (fun v55 w =>
 S.op (.alloc 156) w (fun v20 w =>
 S.op (.store 156 v20 v55) w (fun _ w =>
 S.pur (.fieldAddr 156 v20 0) (fun v57 =>
 S.ld (.load 2 v57) w.drew (fun v58 =>
 S.pur (.fieldAddr 156 v20 1) (fun v59 =>
 S.ld (.load 2 v59) w.drew (fun v60 =>
 S.pur (.fieldAddr 156 v20 0) (fun v62 =>
 S.ld (.load 2 v62) w.drew (fun v63 =>
 S.pur (.mkFunc (Fn.method "pub-bracken/pub/immutable.set") [s18] []) (fun v67 =>
 S.pur (.nilCheck v67) (fun v68 =>
 S.call (.inv a5 "Hash") [v63] w.drew (fun v64 w =>
 S.same (.load 2 v59) v60 w ∧
 S.same (.load 2 v57) v58 w ∧
 S.call (.inv s18 "pub-bracken/pub/immutable.set") [v58, v60, (.int .u64 0), v64, a5, (.bool false), a7] w (fun v70 w =>
 S.op (.bin .add 3 false true s52 (.int .i64 1)) w (fun v71 w =>
 I7 v70 v71 w ∧ μ7 v70 v71 w < μ7 s18 s52 wl7) Kp) Kp) Kp))))))))) Kp) Kp) Kp) Kp) (
 K s18 w)) Kp) Kp) Kp) Kp) Kp) Kp) Kp) Kp) (
 J12 w)) Kp) Kp) Kp) Kp) Kp) (
 J12 w)) Kp) ∧
 (∀ (w : World) (junk : Nat → Value), J12 w →
 Br a6 (
 S.op (.bin .neq 3 false true v25 (.int .i64 (-1))) w (fun v75 w =>
 Br v75 (
 S.op (.nilCheck a0) w (fun v77 w =>
 S.op (.fieldAddr 159 v77 0) w (fun v78 w =>
 S.op (.load 157 v78) w (fun v79 w =>
 S.op (.build 156 [(0, a1), (1, a2)]) w (fun v83 w =>
 S.op (.indexAddr 157 v79 v25) w (fun v84 w =>
 S.op (.store 156 v84 v83) w (fun _ w =>
 S.op (.mkIface 153 a0) w (fun v98 w =>
 K v98 w) Kp) Kp) Kp) Kp) Kp) Kp) Kp) (
 S.op (.nilCheck a0) w (fun v87 w =>
 S.op (.fieldAddr 159 v87 0) w (fun v88 w =>
 S.op (.load 157 v88) w (fun v89 w =>
 S.op (.build 156 [(0, a1), (1, a2)]) w (fun v92 w =>
 S.op (.buildSlice 157 1 [(0, v92)]) w (fun v93 w =>
 S.op (.blt .append [157, 157] 157 [v89, v93]) w (fun v94 w =>
 S.op (.nilCheck a0) w (fun v95 w =>
 S.op (.fieldAddr 159 v95 0) w (fun v96 w =>
 S.op (.store 157 v96 v94) w (fun _ w =>
 S.op (.mkIface 153 a0) w (fun v98 w =>
 K v98 w) Kp) Kp) Kp) Kp) Kp) Kp) Kp) Kp) Kp) Kp)) Kp) (
 S.op (.alloc 159) w (fun v21 w =>
 S.op (.bin .neq 3 false true v25 (.int .i64 (-1))) w (fun v100 w =>
 Br v100 (
 S.op (.nilCheck a0) w (fun v102 w =>
 S.op (.fieldAddr 159 v102 0) w (fun v103 w =>
 S.op (.load 157 v103) w (fun v104 w =>
 S.op (.blt .len [157] 3 [v104]) w (fun v105 w =>
 S.op (.mkSlice 157 v105 v105) w (fun v106 w =>
 S.op (.fieldAddr 159 v21 0) w (fun v107 w =>
 S.op (.store 157 v107 v106) w (fun _ w =>
 S.pur (.fieldAddr 159 v21 0) (fun v108 =>
 S.ld (.load 157 v108) w.drew (fun v109 =>
 S.pur (.nilCheck a0) (fun v111 =>
 S.pur (.fieldAddr 159 v111 0) (fun v112 =>
 S.ld (.load 157 v112) w.drew (fun v113 =>
 S.op (.blt .copy [157, 157] 3 [v109, v113]) w.drew (fun v114 w =>
 S.op (.fieldAddr 159 v21 0) w (fun v115 w =>
 S.op (.load 157 v115) w (fun v116 w =>
 S.op (.build 156 [(0, a1), (1, a2)]) w (fun v120 w =>
 S.op (.indexAddr 157 v116 v25) w (fun v121 w =>
 S.op (.store 156 v121 v120) w (fun _ w =>
 S.op (.mkIface 153 v21) w (fun v147 w =>
 K v147 w) Kp) Kp) Kp) Kp) Kp) Kp) Kp)))))) Kp) Kp) Kp) Kp) Kp) Kp) Kp) (
 S.op (.nilCheck a0) w (fun v123 w =>
 S.op (.fieldAddr 159 v123 0) w (fun v124 w =>
 S.op (.load 157 v124) w (fun v125 w =>
 S.op (.blt .len [157] 3 [v125]) w (fun v126 w =>
 S.op (.bin .add 3 false true v126 (.int .i64 1)) w (fun v127 w =>
 S.op (.mkSlice 157 v127 v127) w (fun v128 w =>
 S.op (.fieldAddr 159 v21 0) w (fun v129 w =>
 S.op (.store 157 v129 v128) w (fun _ w =>
 S.pur (.fieldAddr 159 v21 0) (fun v130 =>
 S.ld (.load 157 v130) w.drew (fun v131 =>
 S.pur (.nilCheck a0) (fun v133 =>
 S.pur (.fieldAddr 159 v133 0) (fun v134 =>
 S.ld (.load 157 v134) w.drew (fun v135 =>
 S.op (.blt .copy [157, 157] 3 [v131, v135]) w.drew (fun v136 w =>
 S.op (.fieldAddr 159 v21 0) w (fun v137 w =>
 S.op (.load 157 v137) w (fun v138 w =>
 S.op (.fieldAddr 159 v21 0) w (fun v139 w =>
 S.op (.load 157 v139) w (fun v140 w =>
 S.op (.blt .len [157] 3 [v140]) w (fun v141 w =>
 S.op (.bin .sub 3 false true v141 (.int .i64 1)) w (fun v142 w =>
 S.op (.build 156 [(0, a1), (1, a2)]) w (fun v145 w =>
 S.op (.indexAddr 157 v138 v142) w (fun v146 w =>
 S.op (.store 156 v146 v145) w (fun _ w =>
 S.op (.mkIface 153 v21) w (fun v147 w =>
 K v147 w) Kp) Kp) Kp) Kp) Kp) Kp) Kp) Kp) Kp) Kp) Kp)))))) Kp) Kp) Kp) Kp) Kp) Kp) Kp) Kp)) Kp) Kp)))) Kp
theorem vc103_eq : vc103 S a0 a1 a2 a3 a4 a5 a6 a7 w K Kp = fVC S [(7, [18, 52])] [(4, []), (12, [])] Tryz.f103 [a0, a1, a2, a3, a4, a5, a6, a7] w K Kp := by kernel_rfl
theorem vc103_calls (h : vc103 (nice Tryz.prog) a0 a1 a2 a3 a4 a5 a6 a7 w K Kp) : Calls Tryz.prog 103 #[a0, a1, a2, a3, a4, a5, a6, a7] w (ret K Kp) :=
 fVC_sound (args := [a0, a1, a2, a3, a4, a5, a6, a7]) nice_le follows_MVcI Tryz.func103 (by kernel_rfl) (Eq.mp vc103_eq h)
def vc104 (S : Sig) (a0 a1 a2 : Value) (w : World) (K : KV) (Kp : KP) : Prop :=
 S.op (.build 162 [(0, a0), (1, a1), (2, a2)]) w (fun v10 w =>
 S.op (.box 162 v10) w (fun v11 w =>
 K v11 w) Kp) Kp
theorem vc104_eq : vc104 S a0 a1 a2 w K Kp = fVC S [] [] Tryz.f104 [a0, a1, a2] w K Kp := by kernel_rfl
theorem vc104_calls (h : vc104 (nice Tryz.prog) a0 a1 a2 w K Kp) : Calls Tryz.prog 104 #[a0, a1, a2] w (ret K Kp) :=
 fVC_sound (args := [a0, a1, a2]) nice_le follows_MVcI Tryz.func104 (by kernel_rfl) (Eq.mp vc104_eq h)
def vc105 (S : Sig) (a0 a1 a2 a3 a4 a5 a6 : Value) (w : World) (K : KV) (Kp : KP) : Prop :=
 S.pur (.nilCheck a0) (fun v17 =>
 S.pur (.fieldAddr 162 v17 1) (fun v18 =>
 S.ld (.load 2 v18) w.drew (fun v19 =>
 S.pur (.mkFunc (Fn.method "Equal") [a4] []) (fun v21 =>
 S.pur (.nilCheck v21) (fun v22 =>
 S.call (.inv a4 "Equal") [v19, a1] w.drew (fun v24 w =>
 S.pur (.un .not v24) (fun v25 =>
 Br v25 (
 S.op (.mkIface 160 a0) w (fun v27 w =>
 K v27 w) Kp) (
 S.op (.nilCheck a6) w (fun v29 w =>
 S.op (.store 4 v29 (.bool true)) w (fun _ w =>
 K .nilIface w) Kp) Kp))) Kp)))))
theorem vc105_eq : vc105 S a0 a1 a2 a3 a4 a5 a6 w K Kp = fVC S [] [] Tryz.f105 [a0, a1, a2, a3, a4, a5, a6] w K Kp := by kernel_rfl
theorem vc105_calls (h : vc105 (nice Tryz.prog) a0 a1 a2 a3 a4 a5 a6 w K Kp) : Calls Tryz.prog 105 #[a0, a1, a2, a3, a4, a5, a6] w (ret K Kp) :=
 fVC_sound (args := [a0, a1, a2, a3, a4, a5, a6]) nice_le follows_MVcI Tryz.func105 (by kernel_rfl) (Eq.mp vc105_eq h)
def vc106 (S : Sig) (a0 a1 a2 a3 a4 : Value) (w : World) (K : KV) (Kp : KP) : Prop :=
 S.pur (.nilCheck a0) (fun v14 =>
 S.pur (.fieldAddr 162 v14 1) (fun v15 =>
 S.ld (.load 2 v15) w.drew (fun v16 =>
 S.pur (.mkFunc (Fn.method "Equal") [a4] []) (fun v18 =>
 S.pur (.nilCheck v18) (fun v19 =>
 S.call (.inv a4 "Equal") [v16, a1] w.drew (fun v21 w =>
 S.pur (.un .not v21) (fun v22 =>
 Br v22 (
 K (.tuple #[(.int .i64 0), (.bool false)]) w) (
 S.op (.nilCheck a0) w (fun v25 w =>
 S.op (.fieldAddr 162 v25 2) w (fun v26 w =>
 S.op (.load 2 v26) w (fun v27 w =>
 K (.tuple #[v27, (.bool true)]) w) Kp) Kp) Kp))) Kp)))))
theorem vc106_eq : vc106 S a0 a1 a2 a3 a4 w K Kp = fVC S [] [] Tryz.f106 [a0, a1, a2, a3, a4] w K Kp := by kernel_rfl
theorem vc106_calls (h : vc106 (nice Tryz.prog) a0 a1 a2 a3 a4 w K Kp) : Calls Tryz.prog 106 #[a0, a1, a2, a3, a4] w (ret K Kp) :=
 fVC_sound (args := [a0, a1, a2, a3, a4]) nice_le follows_MVcI Tryz.func106 (by kernel_rfl) (Eq.mp vc106_eq h)
def vc107 (S : Sig) (a0 : Value) (w : World) (K : KV) (Kp : KP) : Prop :=
 S.op (.nilCheck a0) w (fun v4 w =>
 S.op (.fieldAddr 162 v4 0) w (fun v5 w =>
 S.op (.load 22 v5) w (fun v6 w =>
 K v6 w) Kp) Kp) Kp
theorem vc107_eq : vc107 S a0 w K Kp = fVC S [] [] Tryz.f107 [a0] w K Kp := by kernel_rfl
theorem vc107_calls (h : vc107 (nice Tryz.prog) a0 w K Kp) : Calls Tryz.prog 107 #[a0] w (ret K Kp) :=
 fVC_sound (args := [a0]) nice_le follows_MVcI Tryz.func107 (by kernel_rfl) (Eq.mp vc107_eq h)
def vc108 (S : Sig) (a0 a1 a2 a3 a4 a5 a6 a7 : Value) (w : World) (K : KV) (Kp : KP) : Prop :=
 S.pur (.nilCheck a0) (fun v19 =>
 S.pur (.fieldAddr 162 v19 1) (fun v20 =>
 S.ld (.load 2 v20) w.drew (fun v21 =>
 S.pur (.mkFunc (Fn.method "Equal") [a5] []) (fun v23 =>
 S.pur (.nilCheck v23) (fun v24 =>
 S.call (.inv a5 "Equal") [v21, a1] w.drew (fun v26 w =>
 Br v26 (
 Br a6 (
 S.op (.nilCheck a0) w (fun v30 w =>
 S.op (.fieldAddr 162 v30 2) w (fun v31 w =>
 S.op (.store 2 v31 a2) w (fun _ w =>
 S.op (.mkIface 160 a0) w (fun v33 w =>
 K v33 w) Kp) Kp) Kp) Kp) (
 S.op (.nilCheck a0) w (fun v35 w =>
 S.op (.fieldAddr 162 v35 0) w (fun v36 w =>
 S.op (.load 22 v36) w (fun v37 w =>
 S.call (.fn 104) [v37, a1, a2] w (fun v40 w =>
 S.op (.mkIface 160 v40) w (fun v41 w =>
 K v41 w) Kp) Kp) Kp) Kp) Kp)) (
 S.op (.nilCheck a7) w (fun v43 w =>
 S.op (.store 4 v43 (.bool true)) w (fun _ w =>
 S.op (.nilCheck a0) w (fun v45 w =>
 S.op (.fieldAddr 162 v45 0) w (fun v46 w =>
 S.op (.load 22 v46) w (fun v47 w =>
 S.op (.bin .neq 22 false false v47 a4) w (fun v49 w =>
 Br v49 (
 S.op (.mkIface 160 a0) w (fun v51 w =>
 S.call (.fn 109) [v51, a3, a4, a1, a2] w (fun v56 w =>
 K v56 w) Kp) Kp) (
 S.pur (.nilCheck a0) (fun v59 =>
 S.pur (.fieldAddr 162 v59 1) (fun v60 =>
 S.ld (.load 2 v60) w.drew (fun v61 =>
 S.pur (.nilCheck a0) (fun v63 =>
 S.pur (.fieldAddr 162 v63 2) (fun v64 =>
 S.ld (.load 2 v64) w.drew (fun v65 =>
 S.pur (.build 156 [(0, v61), (1, v65)]) (fun v66 =>
 S.pur (.build 156 [(0, a1), (1, a2)]) (fun v69 =>
 S.op (.buildSlice 157 2 [(0, v66), (1, v69)]) w.drew (fun v70 w =>
 S.pur (.build 165 [(0, a4), (1, v70)]) (fun v71 =>
 S.op (.box 165 v71) w (fun v72 w =>
 S.pur (.mkIface 163 v72) (fun v73 =>
 K v73 w)) Kp)) Kp)))))))))) Kp) Kp) Kp) Kp) Kp) Kp)) Kp)))))
theorem vc108_eq : vc108 S a0 a1 a2 a3 a4 a5 a6 a7 w K Kp = fVC S [] [] Tryz.f108 [a0, a1, a2, a3, a4, a5, a6, a7] w K Kp := by kernel_rfl
theorem vc108_calls (h : vc108 (nice Tryz.prog) a0 a1 a2 a3 a4 a5 a6 a7 w K Kp) : Calls Tryz.prog 108 #[a0, a1, a2, a3, a4, a5, a6, a7] w (ret K Kp) :=
 fVC_sound (args := [a0, a1, a2, a3, a4, a5, a6, a7]) nice_le follows_MVcI Tryz.func108 (by kernel_rfl) (Eq.mp vc108_eq h)
def vc109 (S : Sig) (a0 a1 a2 a3 a4 : Value) (w : World) (K : KV) (Kp : KP) : Prop :=
 S.call (.inv a0 "pub-bracken/pub/immutable.keyHashValue") [] w (fun v16 w =>
 S.op (.bin .shr 22 false false v16 a1) w (fun v18 w =>
 S.op (.bin .and 22 false true v18 (.int .u32 31)) w (fun v19 w =>
 S.op (.bin .shr 22 false false a2 a1) w (fun v22 w =>
 S.op (.bin .and 22 false true v22 (.int .u32 31)) w (fun v23 w =>
 S.op (.bin .shl 22 true false (.int .u32 1) v19) w (fun v25 w =>
 S.op (.bin .shl 22 true false (.int .u32 1) v23) w (fun v27 w =>
 S.op (.bin .or 22 false false v25 v27) w (fun v28 w =>
 S.op (.build 187 [(0, v28)]) w (fun v29 w =>
 S.op (.box 187 v29) w (fun v30 w =>
 S.op (.bin .eql 22 false false v19 v23) w (fun v33 w =>
 Br v33 (
 S.op (.bin .add 144 false true a1 (.int .u64 5)) w (fun v37 w =>
 S.call (.fn 109) [a0, v37, a2, a3, a4] w (fun v41 w =>
 S.op (.buildSlice 185 1 [(0, v41)]) w (fun v42 w =>
 S.op (.nilCheck v30) w (fun v43 w =>
 S.op (.fieldAddr 187 v43 1) w (fun v44 w =>
 S.op (.store 185 v44 v42) w (fun _ w =>
 S.op (.mkIface 184 v30) w (fun v67 w =>
 K v67 w) Kp) Kp) Kp) Kp) Kp) Kp) Kp) (
 S.call (.fn 104) [a2, a3, a4] w (fun v48 w =>
 S.op (.bin .lss 22 false false v19 v23) w (fun v51 w =>
 Br v51 (
 S.op (.mkIface 160 v48) w (fun v55 w =>
 S.op (.buildSlice 185 2 [(0, a0), (1, v55)]) w (fun v56 w =>
 S.op (.nilCheck v30) w (fun v57 w =>
 S.op (.fieldAddr 187 v57 1) w (fun v58 w =>
 S.op (.store 185 v58 v56) w (fun _ w =>
 S.op (.mkIface 184 v30) w (fun v67 w =>
 K v67 w) Kp) Kp) Kp) Kp) Kp) Kp) (
 S.op (.mkIface 160 v48) w (fun v61 w =>
 S.op (.buildSlice 185 2 [(0, v61), (1, a0)]) w (fun v63 w =>
 S.op (.nilCheck v30) w (fun v64 w =>
 S.op (.fieldAddr 187 v64 1) w (fun v65 w =>
 S.op (.store 185 v65 v63) w (fun _ w =>
 S.op (.mkIface 184 v30) w (fun v67 w =>
 K v67 w) Kp) Kp) Kp) Kp) Kp) Kp)) Kp) Kp)) Kp) Kp) Kp) Kp) Kp) Kp) Kp) Kp) Kp) Kp) Kp
theorem vc109_eq : vc109 S a0 a1 a2 a3 a4 w K Kp = fVC S [] [] Tryz.f109 [a0, a1, a2, a3, a4] w K Kp := by kernel_rfl
theorem vc109_calls (h : vc109 (nice Tryz.prog) a0 a1 a2 a3 a4 w K Kp) : Calls Tryz.prog 109 #[a0, a1, a2, a3, a4] w (ret K Kp) :=
 fVC_sound (args := [a0, a1, a2, a3, a4]) nice_le follows_MVcI Tryz.func109 (by kernel_rfl) (Eq.mp vc109_eq h)
def vc110 (S : Sig) (a0 a1 a2 a3 a4 a5 a6 : Value) (w : World) (K : KV) (Kp : KP) : Prop :=
 S.call (.fn 112) [a0, a1, a4] w (fun v20 w =>
 S.op (.bin .eql 3 false true v20 (.int .i64 (-1))) w (fun v22 w =>
 Br v22 (
 S.op (.mkIface 163 a0) w (fun v24 w =>
 K v24 w) Kp) (
 S.op (.nilCheck a6) w (fun v26 w =>
 S.op (.store 4 v26 (.bool true)) w (fun _ w =>
 S.op (.nilCheck a0) w (fun v28 w =>
 S.op (.fieldAddr 165 v28 1) w (fun v29 w =>
 S.op (.load 157 v29) w (fun v30 w =>
 S.op (.blt .len [157] 3 [v30]) w (fun v31 w =>
 S.op (.bin .eql 3 false true v31 (.int .i64 2)) w (fun v32 w =>
 Br v32 (
 S.pur (.nilCheck a0) (fun v34 =>
 S.pur (.fieldAddr 165 v34 0) (fun v35 =>
 S.ld (.load 22 v35) w.drew (fun v36 =>
 S.pur (.nilCheck a0) (fun v38 =>
 S.pur (.fieldAddr 165 v38 1) (fun v39 =>
 S.ld (.load 157 v39) w.drew (fun v40 =>
 S.pur (.bin .xor 3 false true v20 (.int .i64 1)) (fun v42 =>
 S.pur (.indexAddr 157 v40 v42) (fun v43 =>
 S.pur (.fieldAddr 156 v43 0) (fun v44 =>
 S.ld (.load 2 v44) w.drew (fun v45 =>
 S.pur (.nilCheck a0) (fun v47 =>
 S.pur (.fieldAddr 165 v47 1) (fun v48 =>
 S.ld (.load 157 v48) w.drew (fun v49 =>
 S.pur (.bin .xor 3 false true v20 (.int .i64 1)) (fun v51 =>
 S.pur (.indexAddr 157 v49 v51) (fun v52 =>
 S.pur (.fieldAddr 156 v52 1) (fun v53 =>
 S.ld (.load 2 v53) w.drew (fun v54 =>
 S.pur (.build 162 [(0, v36), (1, v45), (2, v54)]) (fun v55 =>
 S.op (.box 162 v55) w.drew (fun v56 w =>
 S.pur (.mkIface 160 v56) (fun v57 =>
 K v57 w)) Kp))))))))))))))))))) (
 Br a5 (
 S.pur (.nilCheck a0) (fun v60 =>
 S.pur (.fieldAddr 165 v60 1) (fun v61 =>
 S.ld (.load 157 v61) w.drew (fun v62 =>
 S.pur (.slice 157 v62 (some v20) none none) (fun v64 =>
 S.pur (.nilCheck a0) (fun v66 =>
 S.pur (.fieldAddr 165 v66 1) (fun v67 =>
 S.ld (.load 157 v67) w.drew (fun v68 =>
 S.pur (.bin .add 3 false true v20 (.int .i64 1)) (fun v70 =>
 S.pur (.slice 157 v68 (some v70) none none) (fun v71 =>
 S.op (.blt .copy [157, 157] 3 [v64, v71]) w.drew (fun v72 w =>
 S.pur (.nilCheck a0) (fun v74 =>
 S.pur (.fieldAddr 165 v74 1) (fun v75 =>
 S.ld (.load 157 v75) w.drew (fun v76 =>
 S.pur (.nilCheck a0) (fun v78 =>
 S.pur (.fieldAddr 165 v78 1) (fun v79 =>
 S.ld (.load 157 v79) w.drew (fun v80 =>
 S.ld (.blt .len [157] 3 [v80]) w.drew (fun v81 =>
 S.pur (.bin .sub 3 false true v81 (.int .i64 1)) (fun v82 =>
 S.pur (.build 156 []) (fun v83 =>
 S.pur (.indexAddr 157 v76 v82) (fun v84 =>
 S.op (.store 156 v84 v83) w.drew (fun _ w =>
 S.pur (.nilCheck a0) (fun v87 =>
 S.pur (.fieldAddr 165 v87 1) (fun v88 =>
 S.ld (.load 157 v88) w.drew (fun v89 =>
 S.pur (.nilCheck a0) (fun v91 =>
 S.pur (.fieldAddr 165 v91 1) (fun v92 =>
 S.ld (.load 157 v92) w.drew (fun v93 =>
 S.ld (.blt .len [157] 3 [v93]) w.drew (fun v94 =>
 S.pur (.bin .sub 3 false true v94 (.int .i64 1)) (fun v95 =>
 S.pur (.slice 157 v89 none (some v95) none) (fun v96 =>
 S.pur (.nilCheck a0) (fun v97 =>
 S.pur (.fieldAddr 165 v97 1) (fun v98 =>
 S.op (.store 157 v98 v96) w.drew (fun _ w =>
 S.op (.mkIface 163 a0) w (fun v100 w =>
 K v100 w) Kp) Kp)))))))))))) Kp))))))))))) Kp)))))))))) (
 S.pur (.nilCheck a0) (fun v102 =>
 S.pur (.fieldAddr 165 v102 0) (fun v103 =>
 S.ld (.load 22 v103) w.drew (fun v104 =>
 S.pur (.nilCheck a0) (fun v106 =>
 S.pur (.fieldAddr 165 v106 1) (fun v107 =>
 S.ld (.load 157 v107) w.drew (fun v108 =>
 S.ld (.blt .len [157] 3 [v108]) w.drew (fun v109 =>
 S.pur (.bin .sub 3 false true v109 (.int .i64 1)) (fun v110 =>
 S.op (.mkSlice 157 v110 v110) w.drew (fun v111 w =>
 S.same (.load 22 v103) v104 w ∧
 S.pur (.build 165 [(0, v104), (1, v111)]) (fun v112 =>
 S.op (.box 165 v112) w (fun v113 w =>
 S.pur (.nilCheck v113) (fun v115 =>
 S.pur (.fieldAddr 165 v115 1) (fun v116 =>
 S.ld (.load 157 v116) w.drew (fun v117 =>
 S.pur (.slice 157 v117 none (some v20) none) (fun v119 =>
 S.pur (.nilCheck a0) (fun v121 =>
 S.pur (.fieldAddr 165 v121 1) (fun v122 =>
 S.ld (.load 157 v122) w.drew (fun v123 =>
 S.pur (.slice 157 v123 none (some v20) none) (fun v125 =>
 S.op (.blt .copy [157, 157] 3 [v119, v125]) w.drew (fun v126 w =>
 S.pur (.nilCheck v113) (fun v128 =>
 S.pur (.fieldAddr 165 v128 1) (fun v129 =>
 S.ld (.load 157 v129) w.drew (fun v130 =>
 S.pur (.slice 157 v130 (some v20) none none) (fun v132 =>
 S.pur (.nilCheck a0) (fun v134 =>
 S.pur (.fieldAddr 165 v134 1) (fun v135 =>
 S.ld (.load 157 v135) w.drew (fun v136 =>
 S.pur (.bin .add 3 false true v20 (.int .i64 1)) (fun v138 =>
 S.pur (.slice 157 v136 (some v138) none none) (fun v139 =>
 S.op (.blt .copy [157, 157] 3 [v132, v139]) w.drew (fun v140 w =>
 S.op (.mkIface 163 v113) w (fun v142 w =>
 K v142 w) Kp) Kp)))))))))) Kp))))))))) Kp)) Kp))))))))))) Kp) Kp) Kp) Kp) Kp) Kp) Kp)) Kp) Kp
theorem vc110_eq : vc110 S a0 a1 a2 a3 a4 a5 a6 w K Kp = fVC S [] [] Tryz.f110 [a0, a1, a2, a3, a4, a5, a6] w K Kp := by kernel_rfl
theorem vc110_calls (h : vc110 (nice Tryz.prog) a0 a1 a2 a3 a4 a5 a6 w K Kp) : Calls Tryz.prog 110 #[a0, a1, a2, a3, a4, a5, a6] w (ret K Kp) :=
 fVC_sound (args := [a0, a1, a2, a3, a4, a5, a6]) nice_le follows_MVcI Tryz.func110 (by kernel_rfl) (Eq.mp vc110_eq h)
def vc111 (S : Sig) (a0 a1 a2 a3 a4 : Value) (w : World) (K : KV) (Kp : KP) : Prop :=
 S.op (.nilCheck a0) w (fun v14 w =>
 S.op (.fieldAddr 165 v14 1) w (fun v15 w =>
 S.op (.load 157 v15) w (fun v16 w =>
 S.op (.blt .len [157] 3 [v16]) w (fun v17 w =>
 Lp fun (I2 : Value → KV) (μ2 : Value → Value → World → Nat) => I2 (.int .i64 0) (.int .i64 0) w ∧
 ∀ (wl2 : World) (junk : Nat → Value) (s10 : Value) (s18 : Value), I2 s10 s18 wl2 →
 S.op (.bin .lss 3 false false s18 v17) wl2 (fun v19 w =>
 Br v19 (
 S.pur (.nilCheck a0) (fun v23 =>
 S.pur (.fieldAddr 165 v23 1) (fun v24 =>
 S.ld (.load 157 v24) w.drew (fun v25 =>
 S.pur (.indexAddr 157 v25 s18) (fun v27 =>
 S.pur (.fieldAddr 156 v27 0) (fun v28 =>
 S.ld (.load 2 v28) w.drew (fun v29 =>
 S.pur (.mkFunc (Fn.method "Equal") [a4] []) (fun v31 =>
 S.pur (.nilCheck v31) (fun v32 =>
 S.call (.inv a4 "Equal") [v29, a1] w.drew (fun v34 w =>
 Br v34 (
 S.op (.nilCheck a0) w (fun v36 w =>
 S.op (.fieldAddr 165 v36 1) w (fun v37 w =>
 S.op (.load 157 v37) w (fun v38 w =>
 S.op (.indexAddr 157 v38 s18) w (fun v40 w =>
 S.op (.fieldAddr 156 v40 1) w (fun v41 w =>
 S.op (.load 2 v41) w (fun v42 w =>
 K (.tuple #[v42, (.bool true)]) w) Kp) Kp) Kp) Kp) Kp) Kp) (
 S.op (.bin .add 3 false true s18 (.int .i64 1)) w (fun v43 w =>
 I2 s10 v43 w ∧ μ2 s10 v43 w < μ2 s10 s18 wl2) Kp)) Kp))))))))) (
 K (.tuple #[s10, (.bool false)]) w)) Kp) Kp) Kp) Kp) Kp
theorem vc111_eq : vc111 S a0 a1 a2 a3 a4 w K Kp = fVC S [(2, [10, 18])] [] Tryz.f111 [a0, a1, a2, a3, a4] w K Kp := by kernel_rfl
theorem vc111_calls (h : vc111 (nice Tryz.prog) a0 a1 a2 a3 a4 w K Kp) : Calls Tryz.prog 111 #[a0, a1, a2, a3, a4] w (ret K Kp) :=
 fVC_sound (args := [a0, a1, a2, a3, a4]) nice_le follows_MVcI Tryz.func111 (by kernel_rfl) (Eq.mp vc111_eq h)
def vc113 (S : Sig) (a0 : Value) (w : World) (K : KV) (Kp : KP) : Prop :=
 S.op (.nilCheck a0) w (fun v4 w =>
 S.op (.fieldAddr 165 v4 0) w (fun v5 w =>
 S.op (.load 22 v5) w (fun v6 w =>
 K v6 w) Kp) Kp) Kp
theorem vc113_eq : vc113 S a0 w K Kp = fVC S [] [] Tryz.f113 [a0] w K Kp := by kernel_rfl
theorem vc113_calls (h : vc113 (nice Tryz.prog) a0 w K Kp) : Calls Tryz.prog 113 #[a0] w (ret K Kp) :=
 fVC_sound (args := [a0]) nice_le follows_MVcI Tryz.func113 (by kernel_rfl) (Eq.mp vc113_eq h)
def vc114 (S : Sig) (a0 a1 a2 a3 a4 a5 a6 a7 : Value) (w : World) (K : KV) (Kp : KP) : Prop :=
 S.op (.nilCheck a0) w (fun v21 w =>
 S.op (.fieldAddr 165 v21 0) w (fun v22 w =>
 S.op (.load 22 v22) w (fun v23 w =>
 S.op (.bin .neq 22 false false v23 a4) w (fun v25 w =>
 Br v25 (
 S.op (.nilCheck a7) w (fun v27 w =>
 S.op (.store 4 v27 (.bool true)) w (fun _ w =>
 S.op (.mkIface 163 a0) w (fun v29 w =>
 S.call (.fn 109) [v29, a3, a4, a1, a2] w (fun v34 w =>
 K v34 w) Kp) Kp) Kp) Kp) (
 Br a6 (
 S.call (.fn 112) [a0, a1, a5] w (fun v39 w =>
 S.op (.bin .eql 3 false true v39 (.int .i64 (-1))) w (fun v41 w =>
 Br v41 (
 S.op (.nilCheck a7) w (fun v43 w =>
 S.op (.store 4 v43 (.bool true)) w (fun _ w =>
 S.op (.nilCheck a0) w (fun v46 w =>
 S.op (.fieldAddr 165 v46 1) w (fun v47 w =>
 S.op (.load 157 v47) w (fun v48 w =>
 S.op (.build 156 [(0, a1), (1, a2)]) w (fun v51 w =>
 S.op (.buildSlice 157 1 [(0, v51)]) w (fun v52 w =>
 S.op (.blt .append [157, 157] 157 [v48, v52]) w (fun v53 w =>
 S.op (.nilCheck a0) w (fun v54 w =>
 S.op (.fieldAddr 165 v54 1) w (fun v55 w =>
 S.op (.store 157 v55 v53) w (fun _ w =>
 S.op (.mkIface 163 a0) w (fun v66 w =>
 K v66 w) Kp) Kp) Kp) Kp) Kp) Kp) Kp) Kp) Kp) Kp) Kp) Kp) (
 S.op (.nilCheck a0) w (fun v57 w =>
 S.op (.fieldAddr 165 v57 1) w (fun v58 w =>
 S.op (.load 157 v58) w (fun v59 w =>
 S.op (.build 156 [(0, a1), (1, a2)]) w (fun v63 w =>
 S.op (.indexAddr 157 v59 v39) w (fun v64 w =>
 S.op (.store 156 v64 v63) w (fun _ w =>
 S.op (.mkIface 163 a0) w (fun v66 w =>
 K v66 w) Kp) Kp) Kp) Kp) Kp) Kp) Kp)) Kp) Kp) (
 S.op (.nilCheck a0) w (fun v68 w =>
 S.op (.fieldAddr 165 v68 0) w (fun v69 w =>
 S.op (.load 22 v69) w (fun v70 w =>
 S.op (.build 165 [(0, v70)]) w (fun v71 w =>
 S.op (.box 165 v71) w (fun v72 w =>
 S.call (.fn 112) [a0, a1, a5] w (fun v76 w =>
 S.op (.bin .eql 3 false true v76 (.int .i64 (-1))) w (fun v78 w =>
 Br v78 (
 S.op (.nilCheck a7) w (fun v80 w =>
 S.op (.store 4 v80 (.bool true)) w (fun _ w =>
 S.op (.nilCheck a0) w (fun v83 w =>
 S.op (.fieldAddr 165 v83 1) w (fun v84 w =>
 S.op (.load 157 v84) w (fun v85 w =>
 S.op (.blt .len [157] 3 [v85]) w (fun v86 w =>
 S.op (.bin .add 3 false true v86 (.int .i64 1)) w (fun v87 w =>
 S.op (.mkSlice 157 v87 v87) w (fun v88 w =>
 S.op (.nilCheck v72) w (fun v89 w =>
 S.op (.fieldAddr 165 v89 1) w (fun v90 w =>
 S.op (.store 157 v90 v88) w (fun _ w =>
 S.pur (.nilCheck v72) (fun v92 =>
 S.pur (.fieldAddr 165 v92 1) (fun v93 =>
 S.ld (.load 157 v93) w.drew (fun v94 =>
 S.pur (.nilCheck a0) (fun v96 =>
 S.pur (.fieldAddr 165 v96 1) (fun v97 =>
 S.ld (.load 157 v97) w.drew (fun v98 =>
 S.op (.blt .copy [157, 157] 3 [v94, v98]) w.drew (fun v99 w =>
 S.pur (.nilCheck v72) (fun v101 =>
 S.pur (.fieldAddr 165 v101 1) (fun v102 =>
 S.ld (.load 157 v102) w.drew (fun v103 =>
 S.pur (.nilCheck v72) (fun v105 =>
 S.pur (.fieldAddr 165 v105 1) (fun v106 =>
 S.ld (.load 157 v106) w.drew (fun v107 =>
 S.ld (.blt .len [157] 3 [v107]) w.drew (fun v108 =>
 S.pur (.bin .sub 3 false true v108 (.int .i64 1)) (fun v109 =>
 S.pur (.build 156 [(0, a1), (1, a2)]) (fun v112 =>
 S.pur (.indexAddr 157 v103 v109) (fun v113 =>
 S.op (.store 156 v113 v112) w.drew (fun _ w =>
 S.op (.mkIface 163 v72) w (fun v142 w =>
 K v142 w) Kp) Kp))))))))))) Kp))))))) Kp) Kp) Kp) Kp) Kp) Kp) Kp) Kp) Kp) Kp) Kp) (
 S.op (.nilCheck a0) w (fun v116 w =>
 S.op (.fieldAddr 165 v116 1) w (fun v117 w =>
 S.op (.load 157 v117) w (fun v118 w =>
 S.op (.blt .len [157] 3 [v118]) w (fun v119 w =>
 S.op (.mkSlice 157 v119 v119) w (fun v120 w =>
 S.op (.nilCheck v72) w (fun v121 w =>
 S.op (.fieldAddr 165 v121 1) w (fun v122 w =>
 S.op (.store 157 v122 v120) w (fun _ w =>
 S.pur (.nilCheck v72) (fun v124 =>
 S.pur (.fieldAddr 165 v124 1) (fun v125 =>
 S.ld (.load 157 v125) w.drew (fun v126 =>
 S.pur (.nilCheck a0) (fun v128 =>
 S.pur (.fieldAddr 165 v128 1) (fun v129 =>
 S.ld (.load 157 v129) w.drew (fun v130 =>
 S.op (.blt .copy [157, 157] 3 [v126, v130]) w.drew (fun v131 w =>
 S.op (.nilCheck v72) w (fun v133 w =>
 S.op (.fieldAddr 165 v133 1) w (fun v134 w =>
 S.op (.load 157 v134) w (fun v135 w =>
 S.op (.build 156 [(0, a1), (1, a2)]) w (fun v139 w =>
 S.op (.indexAddr 157 v135 v76) w (fun v140 w =>
 S.op (.store 156 v140 v139) w (fun _ w =>
 S.op (.mkIface 163 v72) w (fun v142 w =>
 K v142 w) Kp) Kp) Kp) Kp) Kp) Kp) Kp) Kp))))))) Kp) Kp) Kp) Kp) Kp) Kp) Kp) Kp)) Kp) Kp) Kp) Kp) Kp) Kp) Kp))) Kp) Kp) Kp) Kp
theorem vc114_eq : vc114 S a0 a1 a2 a3 a4 a5 a6 a7 w K Kp = fVC S [] [] Tryz.f114 [a0, a1, a2, a3, a4, a5, a6, a7] w K Kp := by kernel_rfl
theorem vc114_calls (h : vc114 (nice Tryz.prog) a0 a1 a2 a3 a4 a5 a6 a7 w K Kp) : Calls Tryz.prog 114 #[a0, a1, a2, a3, a4, a5, a6, a7] w (ret K Kp) :=
 fVC_sound (args := [a0, a1, a2, a3, a4, a5, a6, a7]) nice_le follows_MVcI Tryz.func114 (by kernel_rfl) (Eq.mp vc114_eq h)
def vc112 (S : Sig) (a0 a1 a2 : Value) (w : World) (K : KV) (Kp : KP) : Prop :=
 S.op (.nilCheck a0) w (fun v9 w =>
 S.op (.fieldAddr 165 v9 1) w (fun v10 w =>
 S.op (.load 157 v10) w (fun v11 w =>
 S.op (.blt .len [157] 3 [v11]) w (fun v12 w =>
 Lp fun (I2 : KV) (μ2 : Value → World → Nat) => I2 (.int .i64 0) w ∧
 ∀ (wl2 : World) (junk : Nat → Value) (s13 : Value), I2 s13 wl2 →
 S.op (.bin .lss 3 false false s13 v12) wl2 (fun v14 w =>
 Br v14 (
 S.pur (.nilCheck a0) (fun v18 =>
 S.pur (.fieldAddr 165 v18 1) (fun v19 =>
 S.ld (.load 157 v19) w.drew (fun v20 =>
 S.pur (.indexAddr 157 v20 s13) (fun v22 =>
 S.pur (.fieldAddr 156 v22 0) (fun v23 =>
 S.ld (.load 2 v23) w.drew (fun v24 =>
 S.pur (.mkFunc (Fn.method "Equal") [a2] []) (fun v26 =>
 S.pur (.nilCheck v26) (fun v27 =>
 S.call (.inv a2 "Equal") [v24, a1] w.drew (fun v29 w =>
 Br v29 (
 K s13 w) (
 S.op (.bin .add 3 false true s13 (.int .i64 1)) w (fun v31 w =>
 I2 v31 w ∧ μ2 v31 w < μ2 s13 wl2) Kp)) Kp))))))))) (
 K (.int .i64 (-1)) w)) Kp) Kp) Kp) Kp) Kp
theorem vc112_eq : vc112 S a0 a1 a2 w K Kp = fVC S [(2, [13])] [] Tryz.f112 [a0, a1, a2] w K Kp := by kernel_rfl
theorem vc112_calls (h : vc112 (nice Tryz.prog) a0 a1 a2 w K Kp) : Calls Tryz.prog 112 #[a0, a1, a2] w (ret K Kp) :=
 fVC_sound (args := [a0, a1, a2]) nice_le follows_MVcI Tryz.func112 (by kernel_rfl) (Eq.mp vc112_eq h)
def vc127 (S : Sig) (a0 a1 a2 a3 a4 a5 a6 : Value) (w : World) (K : KV) (Kp : KP) : Prop :=
 S.op (.bin .shr 22 false false a3 a2) w (fun v23 w =>
 S.op (.bin .and 22 false true v23 (.int .u32 31)) w (fun v24 w =>
 S.op (.bin .shl 22 true false (.int .u32 1) v24) w (fun v25 w =>
 S.op (.nilCheck a0) w (fun v27 w =>
 S.op (.fieldAddr 187 v27 0) w (fun v28 w =>
 S.op (.load 22 v28) w (fun v29 w =>
 S.op (.bin .and 22 false false v29 v25) w (fun v31 w =>
 S.op (.bin .eql 22 false true v31 (.int .u32 0)) w (fun v32 w =>
 Br v32 (
 S.op (.mkIface 184 a0) w (fun v34 w =>
 K v34 w) Kp) (
 S.op (.nilCheck a0) w (fun v36 w =>
 S.op (.fieldAddr 187 v36 0) w (fun v37 w =>
 S.op (.load 22 v37) w (fun v38 w =>
 S.op (.bin .sub 22 false true v25 (.int .u32 1)) w (fun v40 w =>
 S.op (.bin .and 22 false false v38 v40) w (fun v41 w =>
 S.call (.fn 118) [v41] w (fun v42 w =>
 S.op (.nilCheck a0) w (fun v44 w =>
 S.op (.fieldAddr 187 v44 1) w (fun v45 w =>
 S.op (.load 185 v45) w (fun v46 w =>
 S.op (.indexAddr 185 v46 v42) w (fun v48 w =>
 S.op (.load 107 v48) w (fun v49 w =>
 S.op (.bin .add 144 false true a2 (.int .u64 5)) w (fun v53 w =>
 S.call (.inv v49 "pub-bracken/pub/immutable.delete") [a1, v53, a3, a4, a5, a6] w (fun v58 w =>
 S.op (.nilCheck a6) w (fun v60 w =>
 S.op (.load 4 v60) w (fun v61 w =>
 S.op (.un .not v61) w (fun v62 w =>
 Br v62 (
 S.op (.mkIface 184 a0) w (fun v64 w =>
 K v64 w) Kp) (
 S.op (.bin .eql 107 false true v58 .nilIface) w (fun v66 w =>
 Br v66 (
 S.op (.nilCheck a0) w (fun v68 w =>
 S.op (.fieldAddr 187 v68 1) w (fun v69 w =>
 S.op (.load 185 v69) w (fun v70 w =>
 S.op (.blt .len [185] 3 [v70]) w (fun v71 w =>
 S.op (.bin .eql 3 false true v71 (.int .i64 1)) w (fun v72 w =>
 Br v72 (
 K .nilIface w) (
 Br a5 (
 S.op (.nilCheck a0) w (fun v75 w =>
 S.op (.fieldAddr 187 v75 0) w (fun v76 w =>
 S.op (.load 22 v76) w (fun v77 w =>
 S.op (.bin .xor 22 false false v77 v25) w (fun v79 w =>
 S.op (.nilCheck a0) w (fun v80 w =>
 S.op (.fieldAddr 187 v80 0) w (fun v81 w =>
 S.op (.store 22 v81 v79) w (fun _ w =>
 S.pur (.nilCheck a0) (fun v83 =>
 S.pur (.fieldAddr 187 v83 1) (fun v84 =>
 S.ld (.load 185 v84) w.drew (fun v85 =>
 S.pur (.slice 185 v85 (some v42) none none) (fun v87 =>
 S.pur (.nilCheck a0) (fun v89 =>
 S.pur (.fieldAddr 187 v89 1) (fun v90 =>
 S.ld (.load 185 v90) w.drew (fun v91 =>
 S.pur (.bin .add 3 false true v42 (.int .i64 1)) (fun v93 =>
 S.pur (.slice 185 v91 (some v93) none none) (fun v94 =>
 S.op (.blt .copy [185, 185] 3 [v87, v94]) w.drew (fun v95 w =>
 S.pur (.nilCheck a0) (fun v97 =>
 S.pur (.fieldAddr 187 v97 1) (fun v98 =>
 S.ld (.load 185 v98) w.drew (fun v99 =>
 S.pur (.nilCheck a0) (fun v101 =>
 S.pur (.fieldAddr 187 v101 1) (fun v102 =>
 S.ld (.load 185 v102) w.drew (fun v103 =>
 S.ld (.blt .len [185] 3 [v103]) w.drew (fun v104 =>
 S.pur (.bin .sub 3 false true v104 (.int .i64 1)) (fun v105 =>
 S.pur (.indexAddr 185 v99 v105) (fun v106 =>
 S.op (.store 107 v106 .nilIface) w.drew (fun _ w =>
 S.pur (.nilCheck a0) (fun v109 =>
 S.pur (.fieldAddr 187 v109 1) (fun v110 =>
 S.ld (.load 185 v110) w.drew (fun v111 =>
 S.pur (.nilCheck a0) (fun v113 =>
 S.pur (.fieldAddr 187 v113 1) (fun v114 =>
 S.ld (.load 185 v114) w.drew (fun v115 =>
 S.ld (.blt .len [185] 3 [v115]) w.drew (fun v116 =>
 S.pur (.bin .sub 3 false true v116 (.int .i64 1)) (fun v117 =>
 S.pur (.slice 185 v111 none (some v117) none) (fun v118 =>
 S.pur (.nilCheck a0) (fun v119 =>
 S.pur (.fieldAddr 187 v119 1) (fun v120 =>
 S.op (.store 185 v120 v118) w.drew (fun _ w =>
 S.op (.mkIface 184 a0) w (fun v122 w =>
 K v122 w) Kp) Kp)))))))))))) Kp)))))))))) Kp)))))))))) Kp) Kp) Kp) Kp) Kp) Kp) Kp) (
 S.pur (.nilCheck a0) (fun v124 =>
 S.pur (.fieldAddr 187 v124 0) (fun v125 =>
 S.ld (.load 22 v125) w.drew (fun v126 =>
 S.pur (.bin .xor 22 false false v126 v25) (fun v128 =>
 S.pur (.nilCheck a0) (fun v130 =>
 S.pur (.fieldAddr 187 v130 1) (fun v131 =>
 S.ld (.load 185 v131) w.drew (fun v132 =>
 S.ld (.blt .len [185] 3 [v132]) w.drew (fun v133 =>
 S.pur (.bin .sub 3 false true v133 (.int .i64 1)) (fun v134 =>
 S.op (.mkSlice 185 v134 v134) w.drew (fun v135 w =>
 S.same (.load 22 v125) v126 w ∧
 S.pur (.build 187 [(0, v128), (1, v135)]) (fun v136 =>
 S.op (.box 187 v136) w (fun v137 w =>
 S.pur (.nilCheck v137) (fun v139 =>
 S.pur (.fieldAddr 187 v139 1) (fun v140 =>
 S.ld (.load 185 v140) w.drew (fun v141 =>
 S.pur (.slice 185 v141 none (some v42) none) (fun v143 =>
 S.pur (.nilCheck a0) (fun v145 =>
 S.pur (.fieldAddr 187 v145 1) (fun v146 =>
 S.ld (.load 185 v146) w.drew (fun v147 =>
 S.pur (.slice 185 v147 none (some v42) none) (fun v149 =>
 S.op (.blt .copy [185, 185] 3 [v143, v149]) w.drew (fun v150 w =>
 S.pur (.nilCheck v137) (fun v152 =>
 S.pur (.fieldAddr 187 v152 1) (fun v153 =>
 S.ld (.load 185 v153) w.drew (fun v154 =>
 S.pur (.slice 185 v154 (some v42) none none) (fun v156 =>
 S.pur (.nilCheck a0) (fun v158 =>
 S.pur (.fieldAddr 187 v158 1) (fun v159 =>
 S.ld (.load 185 v159) w.drew (fun v160 =>
 S.pur (.bin .add 3 false true v42 (.int .i64 1)) (fun v162 =>
 S.pur (.slice 185 v160 (some v162) none none) (fun v163 =>
 S.op (.blt .copy [185, 185] 3 [v156, v163]) w.drew (fun v164 w =>
 S.op (.mkIface 184 v137) w (fun v166 w =>
 K v166 w) Kp) Kp)))))))))) Kp))))))))) Kp)) Kp)))))))))))) Kp) Kp) Kp) Kp) Kp) (
 S.op (.un .not a5) w (fun v169 w =>
 Br v169 (
 S.pur (.nilCheck a0) (fun v171 =>
 S.pur (.fieldAddr 187 v171 0) (fun v172 =>
 S.ld (.load 22 v172) w.drew (fun v173 =>
 S.pur (.nilCheck a0) (fun v175 =>
 S.pur (.fieldAddr 187 v175 1) (fun v176 =>
 S.ld (.load 185 v176) w.drew (fun v177 =>
 S.ld (.blt .len [185] 3 [v177]) w.drew (fun v178 =>
 S.op (.mkSlice 185 v178 v178) w.drew (fun v179 w =>
 S.same (.load 22 v172) v173 w ∧
 S.pur (.build 187 [(0, v173), (1, v179)]) (fun v180 =>
 S.op (.box 187 v180) w (fun v181 w =>
 S.pur (.nilCheck v181) (fun v183 =>
 S.pur (.fieldAddr 187 v183 1) (fun v184 =>
 S.ld (.load 185 v184) w.drew (fun v185 =>
 S.pur (.nilCheck a0) (fun v187 =>
 S.pur (.fieldAddr 187 v187 1) (fun v188 =>
 S.ld (.load 185 v188) w.drew (fun v189 =>
 S.op (.blt .copy [185, 185] 3 [v185, v189]) w.drew (fun v190 w =>
 S.op (.nilCheck v181) w (fun v192 w =>
 S.op (.fieldAddr 187 v192 1) w (fun v193 w =>
 S.op (.load 185 v193) w (fun v194 w =>
 S.op (.indexAddr 185 v194 v42) w (fun v197 w =>
 S.op (.store 107 v197 v58) w (fun _ w =>
 S.op (.mkIface 184 v181) w (fun v199 w =>
 K v199 w) Kp) Kp) Kp) Kp) Kp) Kp) Kp))))))) Kp)) Kp)))))))) (
 S.op (.nilCheck a0) w (fun v192 w =>
 S.op (.fieldAddr 187 v192 1) w (fun v193 w =>
 S.op (.load 185 v193) w (fun v194 w =>
 S.op (.indexAddr 185 v194 v42) w (fun v197 w =>
 S.op (.store 107 v197 v58) w (fun _ w =>
 S.op (.mkIface 184 a0) w (fun v199 w =>
 K v199 w) Kp) Kp) Kp) Kp) Kp) Kp)) Kp)) Kp)) Kp) Kp) Kp) Kp) Kp) Kp) Kp) Kp) Kp) Kp) Kp) Kp) Kp) Kp) Kp) Kp)) Kp) Kp) Kp) Kp) Kp) Kp) Kp) Kp
theorem vc127_eq : vc127 S a0 a1 a2 a3 a4 a5 a6 w K Kp = fVC S [] [] Tryz.f127 [a0, a1, a2, a3, a4, a5, a6] w K Kp := by kernel_rfl
theorem vc127_calls (h : vc127 (nice Tryz.prog) a0 a1 a2 a3 a4 a5 a6 w K Kp) : Calls Tryz.prog 127 #[a0, a1, a2, a3, a4, a5, a6] w (ret K Kp) :=
 fVC_sound (args := [a0, a1, a2, a3, a4, a5, a6]) nice_le follows_MVcI Tryz.func127 (by kernel_rfl) (Eq.mp vc127_eq h)
def vc128 (S : Sig) (a0 a1 a2 a3 a4 : Value) (w : World) (K : KV) (Kp : KP) : Prop :=
 S.op (.bin .shr 22 false false a3 a2) w (fun v16 w =>
 S.op (.bin .and 22 false true v16 (.int .u32 31)) w (fun v17 w =>
 S.op (.bin .shl 22 true false (.int .u32 1) v17) w (fun v18 w =>
 S.op (.nilCheck a0) w (fun v20 w =>
 S.op (.fieldAddr 187 v20 0) w (fun v21 w =>
 S.op (.load 22 v21) w (fun v22 w =>
 S.op (.bin .and 22 false false v22 v18) w (fun v24 w =>
 S.op (.bin .eql 22 false true v24 (.int .u32 0)) w (fun v25 w =>
 Br v25 (
 K (.tuple #[(.int .i64 0), (.bool false)]) w) (
 S.pur (.nilCheck a0) (fun v28 =>
 S.pur (.fieldAddr 187 v28 1) (fun v29 =>
 S.ld (.load 185 v29) w.drew (fun v30 =>
 S.pur (.nilCheck a0) (fun v32 =>
 S.pur (.fieldAddr 187 v32 0) (fun v33 =>
 S.ld (.load 22 v33) w.drew (fun v34 =>
 S.pur (.bin .sub 22 false true v18 (.int .u32 1)) (fun v36 =>
 S.pur (.bin .and 22 false false v34 v36) (fun v37 =>
 S.call (.fn 118) [v37] w.drew (fun v38 w =>
 S.same (.load 185 v29) v30 w ∧
 S.pur (.indexAddr 185 v30 v38) (fun v39 =>
 S.ld (.load 107 v39) w (fun v40 =>
 S.op (.bin .add 144 false true a2 (.int .u64 5)) w (fun v44 w =>
 S.call (.inv v40 "pub-bracken/pub/immutable.get") [a1, v44, a3, a4] w (fun v47 w =>
 S.op (.extract v47 0) w (fun v48 w =>
 S.op (.extract v47 1) w (fun v49 w =>
 K (.tuple #[v48, v49]) w) Kp) Kp) Kp) Kp))) Kp)))))))))) Kp) Kp) Kp) Kp) Kp) Kp) Kp) Kp
theorem vc128_eq : vc128 S a0 a1 a2 a3 a4 w K Kp = fVC S [] [] Tryz.f128 [a0, a1, a2, a3, a4] w K Kp := by kernel_rfl
theorem vc128_calls (h : vc128 (nice Tryz.prog) a0 a1 a2 a3 a4 w K Kp) : Calls Tryz.prog 128 #[a0, a1, a2, a3, a4] w (ret K Kp) :=
 fVC_sound (args := [a0, a1, a2, a3, a4]) nice_le follows_MVcI Tryz.func128 (by kernel_rfl) (Eq.mp vc128_eq h)
def vc129 (S : Sig) (a0 a1 a2 a3 a4 a5 a6 a7 : Value) (w : World) (K : KV) (Kp : KP) : Prop :=
 S.op (.bin .shr 22 false false a4 a3) w (fun v27 w =>
 S.op (.bin .and 22 false true v27 (.int .u32 31)) w (fun v28 w =>
 S.op (.bin .shl 22 true false (.int .u32 1) v28) w (fun v30 w =>
 S.op (.nilCheck a0) w (fun v32 w =>
 S.op (.fieldAddr 187 v32 0) w (fun v33 w =>
 S.op (.load 22 v33) w (fun v34 w =>
 S.op (.bin .and 22 false false v34 v30) w (fun v36 w =>
 S.op (.bin .neq 22 false true v36 (.int .u32 0)) w (fun v37 w =>
 Jn fun (J6 : World → Prop) =>
 (S.op (.un .not v37) w (fun v39 w =>
 Br v39 (
 S.op (.nilCheck a7) w (fun v41 w =>
 S.op (.store 4 v41 (.bool true)) w (fun _ w =>
 J6 w) Kp) Kp) (
 J6 w)) Kp) ∧
 (∀ (w : World) (junk : Nat → Value), J6 w →
 S.op (.nilCheck a0) w (fun v43 w =>
 S.op (.fieldAddr 187 v43 0) w (fun v44 w =>
 S.op (.load 22 v44) w (fun v45 w =>
 S.op (.bin .sub 22 false true v30 (.int .u32 1)) w (fun v47 w =>
 S.op (.bin .and 22 false false v45 v47) w (fun v48 w =>
 S.call (.fn 118) [v48] w (fun v49 w =>
 Jn fun (J11 : KV) =>
 (Br v37 (
 S.op (.nilCheck a0) w (fun v52 w =>
 S.op (.fieldAddr 187 v52 1) w (fun v53 w =>
 S.op (.load 185 v53) w (fun v54 w =>
 S.op (.indexAddr 185 v54 v49) w (fun v56 w =>
 S.op (.load 107 v56) w (fun v57 w =>
 S.op (.bin .add 144 false true a3 (.int .u64 5)) w (fun v61 w =>
 S.call (.inv v57 "pub-bracken/pub/immutable.set") [a1, a2, v61, a4, a5, a6, a7] w (fun v66 w =>
 J11 v66 w) Kp) Kp) Kp) Kp) Kp) Kp) Kp) (
 S.call (.fn 104) [a4, a1, a2] w (fun v70 w =>
 S.op (.mkIface 160 v70) w (fun v71 w =>
 J11 v71 w) Kp) Kp)) ∧
 (∀ (w : World) (junk : Nat → Value) (j21 : Value), J11 j21 w →
 Jn fun (J22 : World → Prop) =>
 (S.op (.un .not v37) w (fun v73 w =>
 Br v73 (
 S.op (.nilCheck a0) w (fun v76 w =>
 S.op (.fieldAddr 187 v76 1) w (fun v77 w =>
 S.op (.load 185 v77) w (fun v78 w =>
 S.op (.blt .len [185] 3 [v78]) w (fun v79 w =>
 S.op (.bin .gtr 3 false true v79 (.int .i64 16)) w (fun v80 w =>
 Br v80 (
 S.op (.alloc 191) w (fun v22 w =>
 Lp fun (I14 : KV) (μ14 : Value → World → Nat) => I14 (.int .u64 0) w ∧
 ∀ (wl14 : World) (junk : Nat → Value) (s23 : Value), I14 s23 wl14 →
 S.op (.bin .lss 144 false true s23 (.int .u64 32)) wl14 (fun v83 w =>
 Br v83 (
 S.op (.nilCheck a0) w (fun v87 w =>
 S.op (.fieldAddr 187 v87 0) w (fun v88 w =>
 S.op (.load 22 v88) w (fun v89 w =>
 S.op (.bin .shl 22 true false (.int .u32 1) s23) w (fun v91 w =>
 S.op (.bin .and 22 false false v89 v91) w (fun v92 w =>
 S.op (.bin .neq 22 false true v92 (.int .u32 0)) w (fun v93 w =>
 Br v93 (
 S.pur (.nilCheck a0) (fun v96 =>
 S.pur (.fieldAddr 187 v96 1) (fun v97 =>
 S.ld (.load 185 v97) w.drew (fun v98 =>
 S.pur (.fieldAddr 191 v22 0) (fun v99 =>
 S.ld (.load 144 v99) w.drew (fun v100 =>
 S.pur (.indexAddr 185 v98 v100) (fun v101 =>
 S.ld (.load 107 v101) w.drew (fun v102 =>
 S.pur (.fieldAddr 191 v22 1) (fun v103 =>
 S.pur (.indexAddr 189 v103 s23) (fun v104 =>
 S.op (.store 107 v104 v102) w.drew (fun _ w =>
 S.op (.fieldAddr 191 v22 0) w (fun v105 w =>
 S.op (.load 144 v105) w (fun v106 w =>
 S.op (.bin .add 144 false true v106 (.int .u64 1)) w (fun v107 w =>
 S.op (.fieldAddr 191 v22 0) w (fun v108 w =>
 S.op (.store 144 v108 v107) w (fun _ w =>
 S.op (.bin .add 144 false true s23 (.int .u64 1)) w (fun v85 w =>
 I14 v85 w ∧ μ14 v85 w < μ14 s23 wl14) Kp) Kp) Kp) Kp) Kp) Kp) Kp)))))))))) (
 S.op (.bin .add 144 false true s23 (.int .u64 1)) w (fun v85 w =>
 I14 v85 w ∧ μ14 v85 w < μ14 s23 wl14) Kp)) Kp) Kp) Kp) Kp) Kp) Kp) (
 S.op (.fieldAddr 191 v22 1) w (fun v111 w =>
 S.op (.indexAddr 189 v111 v28) w (fun v112 w =>
 S.op (.store 107 v112 j21) w (fun _ w =>
 S.op (.fieldAddr 191 v22 0) w (fun v113 w =>
 S.op (.load 144 v113) w (fun v114 w =>
 S.op (.bin .add 144 false true v114 (.int .u64 1)) w (fun v115 w =>
 S.op (.fieldAddr 191 v22 0) w (fun v116 w =>
 S.op (.store 144 v116 v115) w (fun _ w =>
 S.op (.mkIface 188 v22) w (fun v117 w =>
 K v117 w) Kp) Kp) Kp) Kp) Kp) Kp) Kp) Kp) Kp)) Kp) Kp) (
 J22 w)) Kp) Kp) Kp) Kp) Kp) (
 J22 w)) Kp) ∧
 (∀ (w : World) (junk : Nat → Value), J22 w →
 Br a6 (
 Br v37 (
 S.op (.nilCheck a0) w (fun v121 w =>
 S.op (.fieldAddr 187 v121 1) w (fun v122 w =>
 S.op (.load 185 v122) w (fun v123 w =>
 S.op (.indexAddr 185 v123 v49) w (fun v126 w =>
 S.op (.store 107 v126 j21) w (fun _ w =>
 S.op (.mkIface 184 a0) w (fun v166 w =>
 K v166 w) Kp) Kp) Kp) Kp) Kp) Kp) (
 S.op (.nilCheck a0) w (fun v128 w =>
 S.op (.fieldAddr 187 v128 0) w (fun v129 w =>
 S.op (.load 22 v129) w (fun v130 w =>
 S.op (.bin .or 22 false false v130 v30) w (fun v132 w =>
 S.op (.nilCheck a0) w (fun v133 w =>
 S.op (.fieldAddr 187 v133 0) w (fun v134 w =>
 S.op (.store 22 v134 v132) w (fun _ w =>
 S.op (.nilCheck a0) w (fun v137 w =>
 S.op (.fieldAddr 187 v137 1) w (fun v138 w =>
 S.op (.load 185 v138) w (fun v139 w =>
 S.op (.buildSlice 185 1 [(0, .nilIface)]) w (fun v140 w =>
 S.op (.blt .append [185, 185] 185 [v139, v140]) w (fun v141 w =>
 S.op (.nilCheck a0) w (fun v142 w =>
 S.op (.fieldAddr 187 v142 1) w (fun v143 w =>
 S.op (.store 185 v143 v141) w (fun _ w =>
 S.pur (.nilCheck a0) (fun v145 =>
 S.pur (.fieldAddr 187 v145 1) (fun v146 =>
 S.ld (.load 185 v146) w.drew (fun v147 =>
 S.pur (.bin .add 3 false true v49 (.int .i64 1)) (fun v149 =>
 S.pur (.slice 185 v147 (some v149) none none) (fun v150 =>
 S.pur (.nilCheck a0) (fun v152 =>
 S.pur (.fieldAddr 187 v152 1) (fun v153 =>
 S.ld (.load 185 v153) w.drew (fun v154 =>
 S.pur (.slice 185 v154 (some v49) none none) (fun v156 =>
 S.op (.blt .copy [185, 185] 3 [v150, v156]) w.drew (fun v157 w =>
 S.op (.nilCheck a0) w (fun v159 w =>
 S.op (.fieldAddr 187 v159 1) w (fun v160 w =>
 S.op (.load 185 v160) w (fun v161 w =>
 S.op (.indexAddr 185 v161 v49) w (fun v164 w =>
 S.op (.store 107 v164 j21) w (fun _ w =>
 S.op (.mkIface 184 a0) w (fun v166 w =>
 K v166 w) Kp) Kp) Kp) Kp) Kp) Kp) Kp)))))))))) Kp) Kp) Kp) Kp) Kp) Kp) Kp) Kp) Kp) Kp) Kp) Kp) Kp) Kp) Kp)) (
 S.op (.nilCheck a0) w (fun v168 w =>
 S.op (.fieldAddr 187 v168 0) w (fun v169 w =>
 S.op (.load 22 v169) w (fun v170 w =>
 S.op (.bin .or 22 false false v170 v30) w (fun v172 w =>
 S.op (.build 187 [(0, v172)]) w (fun v173 w =>
 S.op (.box 187 v173) w (fun v174 w =>
 Br v37 (
 S.op (.nilCheck a0) w (fun v178 w =>
 S.op (.fieldAddr 187 v178 1) w (fun v179 w =>
 S.op (.load 185 v179) w (fun v180 w =>
 S.op (.blt .len [185] 3 [v180]) w (fun v181 w =>
 S.op (.mkSlice 185 v181 v181) w (fun v182 w =>
 S.op (.nilCheck v174) w (fun v183 w =>
 S.op (.fieldAddr 187 v183 1) w (fun v184 w =>
 S.op (.store 185 v184 v182) w (fun _ w =>
 S.pur (.nilCheck v174) (fun v186 =>
 S.pur (.fieldAddr 187 v186 1) (fun v187 =>
 S.ld (.load 185 v187) w.drew (fun v188 =>
 S.pur (.nilCheck a0) (fun v190 =>
 S.pur (.fieldAddr 187 v190 1) (fun v191 =>
 S.ld (.load 185 v191) w.drew (fun v192 =>
 S.op (.blt .copy [185, 185] 3 [v188, v192]) w.drew (fun v193 w =>
 S.op (.nilCheck v174) w (fun v195 w =>
 S.op (.fieldAddr 187 v195 1) w (fun v196 w =>
 S.op (.load 185 v196) w (fun v197 w =>
 S.op (.indexAddr 185 v197 v49) w (fun v200 w =>
 S.op (.store 107 v200 j21) w (fun _ w =>
 S.op (.mkIface 184 v174) w (fun v244 w =>
 K v244 w) Kp) Kp) Kp) Kp) Kp) Kp) Kp))))))) Kp) Kp) Kp) Kp) Kp) Kp) Kp) Kp) (
 S.op (.nilCheck a0) w (fun v203 w =>
 S.op (.fieldAddr 187 v203 1) w (fun v204 w =>
 S.op (.load 185 v204) w (fun v205 w =>
 S.op (.blt .len [185] 3 [v205]) w (fun v206 w =>
 S.op (.bin .add 3 false true v206 (.int .i64 1)) w (fun v207 w =>
 S.op (.mkSlice 185 v207 v207) w (fun v208 w =>
 S.op (.nilCheck v174) w (fun v209 w =>
 S.op (.fieldAddr 187 v209 1) w (fun v210 w =>
 S.op (.store 185 v210 v208) w (fun _ w =>
 S.pur (.nilCheck v174) (fun v212 =>
 S.pur (.fieldAddr 187 v212 1) (fun v213 =>
 S.ld (.load 185 v213) w.drew (fun v214 =>
 S.pur (.nilCheck a0) (fun v216 =>
 S.pur (.fieldAddr 187 v216 1) (fun v217 =>
 S.ld (.load 185 v217) w.drew (fun v218 =>
 S.pur (.slice 185 v218 none (some v49) none) (fun v220 =>
 S.op (.blt .copy [185, 185] 3 [v214, v220]) w.drew (fun v221 w =>
 S.op (.nilCheck v174) w (fun v223 w =>
 S.op (.fieldAddr 187 v223 1) w (fun v224 w =>
 S.op (.load 185 v224) w (fun v225 w =>
 S.op (.indexAddr 185 v225 v49) w (fun v228 w =>
 S.op (.store 107 v228 j21) w (fun _ w =>
 S.pur (.nilCheck v174) (fun v230 =>
 S.pur (.fieldAddr 187 v230 1) (fun v231 =>
 S.ld (.load 185 v231) w.drew (fun v232 =>
 S.pur (.bin .add 3 false true v49 (.int .i64 1)) (fun v234 =>
 S.pur (.slice 185 v232 (some v234) none none) (fun v235 =>
 S.pur (.nilCheck a0) (fun v237 =>
 S.pur (.fieldAddr 187 v237 1) (fun v238 =>
 S.ld (.load 185 v238) w.drew (fun v239 =>
 S.pur (.slice 185 v239 (some v49) none none) (fun v241 =>
 S.op (.blt .copy [185, 185] 3 [v235, v241]) w.drew (fun v242 w =>
 S.op (.mkIface 184 v174) w (fun v244 w =>
 K v244 w) Kp) Kp)))))))))) Kp) Kp) Kp) Kp) Kp) Kp)))))))) Kp) Kp) Kp) Kp) Kp) Kp) Kp) Kp) Kp)) Kp) Kp) Kp) Kp) Kp) Kp)))) Kp) Kp) Kp) Kp) Kp) Kp)) Kp) Kp) Kp) Kp) Kp) Kp) Kp) Kp
theorem vc129_eq : vc129 S a0 a1 a2 a3 a4 a5 a6 a7 w K Kp = fVC S [(14, [23])] [(6, []), (11, [21]), (22, [])] Tryz.f129 [a0, a1, a2, a3, a4, a5, a6, a7] w K Kp := by kernel_rfl
theorem vc129_calls (h : vc129 (nice Tryz.prog) a0 a1 a2 a3 a4 a5 a6 a7 w K Kp) : Calls Tryz.prog 129 #[a0, a1, a2, a3, a4, a5, a6, a7] w (ret K Kp) :=
 fVC_sound (args := [a0, a1, a2, a3, a4, a5, a6, a7]) nice_le follows_MVcI Tryz.func129 (by kernel_rfl) (Eq.mp vc129_eq h)
def vc130 (S : Sig) (a0 : Value) (w : World) (K : KV) (Kp : KP) : Prop :=
 S.op (.nilCheck a0) w (fun v5 w =>
 S.op (.load 191 v5) w (fun v6 w =>
 S.op (.alloc 191) w (fun v3 w =>
 S.op (.store 191 v3 v6) w (fun _ w =>
 K v3 w) Kp) Kp) Kp) Kp
theorem vc130_eq : vc130 S a0 w K Kp = fVC S [] [] Tryz.f130 [a0] w K Kp := by kernel_rfl
theorem vc130_calls (h : vc130 (nice Tryz.prog) a0 w K Kp) : Calls Tryz.prog 130 #[a0] w (ret K Kp) :=
 fVC_sound (args := [a0]) nice_le follows_MVcI Tryz.func130 (by kernel_rfl) (Eq.mp vc130_eq h)
def vc131 (S : Sig) (a0 a1 a2 a3 a4 a5 a6 : Value) (w : World) (K : KV) (Kp : KP) : Prop :=
 S.op (.bin .shr 22 false false a3 a2) w (fun v24 w =>
 S.op (.bin .and 22 false true v24 (.int .u32 31)) w (fun v25 w =>
 S.op (.nilCheck a0) w (fun v28 w =>
 S.op (.fieldAddr 191 v28 1) w (fun v29 w =>
 S.op (.indexAddr 189 v29 v25) w (fun v30 w =>
 S.op (.load 107 v30) w (fun v31 w =>
 S.op (.bin .eql 107 false true v31 .nilIface) w (fun v33 w =>
 Br v33 (
 S.op (.mkIface 188 a0) w (fun v35 w =>
 K v35 w) Kp) (
 S.op (.bin .add 144 false true a2 (.int .u64 5)) w (fun v39 w =>
 S.call (.inv v31 "pub-bracken/pub/immutable.delete") [a1, v39, a3, a4, a5, a6] w (fun v44 w =>
 S.op (.nilCheck a6) w (fun v46 w =>
 S.op (.load 4 v46) w (fun v47 w =>
 S.op (.un .not v47) w (fun v48 w =>
 Br v48 (
 S.op (.mkIface 188 a0) w (fun v50 w =>
 K v50 w) Kp) (
 Jn fun (J18 : World → Prop) =>
 (S.op (.bin .eql 107 false true v44 .nilIface) w (fun v52 w =>
 Br v52 (
 S.op (.nilCheck a0) w (fun v55 w =>
 S.op (.fieldAddr 191 v55 0) w (fun v56 w =>
 S.op (.load 144 v56) w (fun v57 w =>
 S.op (.bin .leq 144 false true v57 (.int .u64 16)) w (fun v58 w =>
 Br v58 (
 S.op (.nilCheck a0) w (fun v61 w =>
 S.op (.fieldAddr 191 v61 0) w (fun v62 w =>
 S.op (.load 144 v62) w (fun v63 w =>
 S.op (.bin .sub 144 false true v63 (.int .u64 1)) w (fun v64 w =>
 S.op (.mkSlice 185 (.int .i64 0) v64) w (fun v65 w =>
 S.op (.build 187 [(1, v65)]) w (fun v66 w =>
 S.op (.box 187 v66) w (fun v67 w =>
 S.op (.nilCheck a0) w (fun v69 w =>
 S.op (.fieldAddr 191 v69 1) w (fun v70 w =>
 S.op (.load 189 v70) w (fun v71 w =>
 Lp fun (I11 : KV) (μ11 : Value → World → Nat) => I11 (.int .i64 0) w ∧
 ∀ (wl11 : World) (junk : Nat → Value) (s72 : Value), I11 s72 wl11 →
 S.op (.bin .lss 3 false true s72 (.int .i64 32)) wl11 (fun v73 w =>
 Br v73 (
 S.op (.index 189 v71 s72) w (fun v75 w =>
 S.op (.bin .neq 107 false true v75 .nilIface) w (fun v77 w =>
 Br v77 (
 S.op (.conv 3 22 s72) w (fun v80 w =>
 S.op (.bin .neq 22 false false v80 v25) w (fun v82 w =>
 Br v82 (
 S.op (.nilCheck v67) w (fun v85 w =>
 S.op (.fieldAddr 187 v85 0) w (fun v86 w =>
 S.op (.load 22 v86) w (fun v87 w =>
 S.op (.conv 3 144 s72) w (fun v89 w =>
 S.op (.bin .shl 22 true false (.int .u32 1) v89) w (fun v90 w =>
 S.op (.bin .or 22 false false v87 v90) w (fun v91 w =>
 S.op (.nilCheck v67) w (fun v92 w =>
 S.op (.fieldAddr 187 v92 0) w (fun v93 w =>
 S.op (.store 22 v93 v91) w (fun _ w =>
 S.op (.nilCheck v67) w (fun v96 w =>
 S.op (.fieldAddr 187 v96 1) w (fun v97 w =>
 S.op (.load 185 v97) w (fun v98 w =>
 S.op (.buildSlice 185 1 [(0, v75)]) w (fun v100 w =>
 S.op (.blt .append [185, 185] 185 [v98, v100]) w (fun v101 w =>
 S.op (.nilCheck v67) w (fun v102 w =>
 S.op (.fieldAddr 187 v102 1) w (fun v103 w =>
 S.op (.store 185 v103 v101) w (fun _ w =>
 S.op (.bin .add 3 false true s72 (.int .i64 1)) w (fun v104 w =>
 I11 v104 w ∧ μ11 v104 w < μ11 s72 wl11) Kp) Kp) Kp) Kp) Kp) Kp) Kp) Kp) Kp) Kp) Kp) Kp) Kp) Kp) Kp) Kp) Kp) Kp) (
 S.op (.bin .add 3 false true s72 (.int .i64 1)) w (fun v104 w =>
 I11 v104 w ∧ μ11 v104 w < μ11 s72 wl11) Kp)) Kp) Kp) (
 S.op (.bin .add 3 false true s72 (.int .i64 1)) w (fun v104 w =>
 I11 v104 w ∧ μ11 v104 w < μ11 s72 wl11) Kp)) Kp) Kp) (
 S.op (.mkIface 184 v67) w (fun v106 w =>
 K v106 w) Kp)) Kp) Kp) Kp) Kp) Kp) Kp) Kp) Kp) Kp) Kp) Kp) (
 J18 w)) Kp) Kp) Kp) Kp) (
 J18 w)) Kp) ∧
 (∀ (w : World) (junk : Nat → Value), J18 w →
 S.op (.un .not a5) w (fun v109 w =>
 Br v109 (
 S.call (.fn 130) [a0] w (fun v111 w =>
 S.op (.nilCheck v111) w (fun v115 w =>
 S.op (.fieldAddr 191 v115 1) w (fun v116 w =>
 S.op (.indexAddr 189 v116 v25) w (fun v117 w =>
 S.op (.store 107 v117 v44) w (fun _ w =>
 S.op (.bin .eql 107 false true v44 .nilIface) w (fun v119 w =>
 Br v119 (
 S.op (.nilCheck v111) w (fun v121 w =>
 S.op (.fieldAddr 191 v121 0) w (fun v122 w =>
 S.op (.load 144 v122) w (fun v123 w =>
 S.op (.bin .sub 144 false true v123 (.int .u64 1)) w (fun v124 w =>
 S.op (.nilCheck v111) w (fun v125 w =>
 S.op (.fieldAddr 191 v125 0) w (fun v126 w =>
 S.op (.store 144 v126 v124) w (fun _ w =>
 S.op (.mkIface 188 v111) w (fun v128 w =>
 K v128 w) Kp) Kp) Kp) Kp) Kp) Kp) Kp) Kp) (
 S.op (.mkIface 188 v111) w (fun v128 w =>
 K v128 w) Kp)) Kp) Kp) Kp) Kp) Kp) Kp) (
 S.op (.nilCheck a0) w (fun v115 w =>
 S.op (.fieldAddr 191 v115 1) w (fun v116 w =>
 S.op (.indexAddr 189 v116 v25) w (fun v117 w =>
 S.op (.store 107 v117 v44) w (fun _ w =>
 S.op (.bin .eql 107 false true v44 .nilIface) w (fun v119 w =>
 Br v119 (
 S.op (.nilCheck a0) w (fun v121 w =>
 S.op (.fieldAddr 191 v121 0) w (fun v122 w =>
 S.op (.load 144 v122) w (fun v123 w =>
 S.op (.bin .sub 144 false true v123 (.int .u64 1)) w (fun v124 w =>
 S.op (.nilCheck a0) w (fun v125 w =>
 S.op (.fieldAddr 191 v125 0) w (fun v126 w =>
 S.op (.store 144 v126 v124) w (fun _ w =>
 S.op (.mkIface 188 a0) w (fun v128 w =>
 K v128 w) Kp) Kp) Kp) Kp) Kp) Kp) Kp) Kp) (
 S.op (.mkIface 188 a0) w (fun v128 w =>
 K v128 w) Kp)) Kp) Kp) Kp) Kp) Kp)) Kp))) Kp) Kp) Kp) Kp) Kp)) Kp) Kp) Kp) Kp) Kp) Kp) Kp
theorem vc131_eq : vc131 S a0 a1 a2 a3 a4 a5 a6 w K Kp = fVC S [(11, [72])] [(18, [])] Tryz.f131 [a0, a1, a2, a3, a4, a5, a6] w K Kp := by kernel_rfl
theorem vc131_calls (h : vc131 (nice Tryz.prog) a0 a1 a2 a3 a4 a5 a6 w K Kp) : Calls Tryz.prog 131 #[a0, a1, a2, a3, a4, a5, a6] w (ret K Kp) :=
 fVC_sound (args := [a0, a1, a2, a3, a4, a5, a6]) nice_le follows_MVcI Tryz.func131 (by kernel_rfl) (Eq.mp vc131_eq h)
def vc132 (S : Sig) (a0 a1 a2 a3 a4 : Value) (w : World) (K : KV) (Kp : KP) : Prop :=
 S.op (.bin .shr 22 false false a3 a2) w (fun v16 w =>
 S.op (.bin .and 22 false true v16 (.int .u32 31)) w (fun v17 w =>
 S.op (.nilCheck a0) w (fun v18 w =>
 S.op (.fieldAddr 191 v18 1) w (fun v19 w =>
 S.op (.indexAddr 189 v19 v17) w (fun v20 w =>
 S.op (.load 107 v20) w (fun v21 w =>
 S.op (.bin .eql 107 false true v21 .nilIface) w (fun v23 w =>
 Br v23 (
 K (.tuple #[(.int .i64 0), (.bool false)]) w) (
 S.op (.bin .add 144 false true a2 (.int .u64 5)) w (fun v28 w =>
 S.call (.inv v21 "pub-bracken/pub/immutable.get") [a1, v28, a3, a4] w (fun v31 w =>
 S.op (.extract v31 0) w (fun v32 w =>
 S.op (.extract v31 1) w (fun v33 w =>
 K (.tuple #[v32, v33]) w) Kp) Kp) Kp) Kp)) Kp) Kp) Kp) Kp) Kp) Kp) Kp
theorem vc132_eq : vc132 S a0 a1 a2 a3 a4 w K Kp = fVC S [] [] Tryz.f132 [a0, a1, a2, a3, a4] w K Kp := by kernel_rfl
theorem vc132_calls (h : vc132 (nice Tryz.prog) a0 a1 a2 a3 a4 w K Kp) : Calls Tryz.prog 132 #[a0, a1, a2, a3, a4] w (ret K Kp) :=
 fVC_sound (args := [a0, a1, a2, a3, a4]) nice_le follows_MVcI Tryz.func132 (by kernel_rfl) (Eq.mp vc132_eq h)
def vc133 (S : Sig) (a0 a1 a2 a3 a4 a5 a6 a7 : Value) (w : World) (K : KV) (Kp : KP) : Prop :=
 S.op (.bin .shr 22 false false a4 a3) w (fun v23 w =>
 S.op (.bin .and 22 false true v23 (.int .u32 31)) w (fun v24 w =>
 S.op (.nilCheck a0) w (fun v27 w =>
 S.op (.fieldAddr 191 v27 1) w (fun v28 w =>
 S.op (.indexAddr 189 v28 v24) w (fun v29 w =>
 S.op (.load 107 v29) w (fun v30 w =>
 Jn fun (J8 : KV) =>
 (S.op (.bin .eql 107 false true v30 .nilIface) w (fun v32 w =>
 Br v32 (
 S.op (.nilCheck a7) w (fun v34 w =>
 S.op (.store 4 v34 (.bool true)) w (fun _ w =>
 S.call (.fn 104) [a4, a1, a2] w (fun v38 w =>
 S.op (.mkIface 160 v38) w (fun v39 w =>
 J8 v39 w) Kp) Kp) Kp) Kp) (
 S.op (.bin .add 144 false true a3 (.int .u64 5)) w (fun v44 w =>
 S.call (.inv v30 "pub-bracken/pub/immutable.set") [a1, a2, v44, a4, a5, a6, a7] w (fun v49 w =>
 J8 v49 w) Kp) Kp)) Kp) ∧
 (∀ (w : World) (junk : Nat → Value) (j19 : Value), J8 j19 w →
 Jn fun (J11 : KV) =>
 (S.op (.un .not a6) w (fun v52 w =>
 Br v52 (
 S.call (.fn 130) [a0] w (fun v54 w =>
 J11 v54 w) Kp) (
 J11 a0 w)) Kp) ∧
 (∀ (w : World) (junk : Nat → Value) (j20 : Value), J11 j20 w →
 S.op (.bin .eql 107 false true v30 .nilIface) w (fun v56 w =>
 Br v56 (
 S.op (.nilCheck j20) w (fun v58 w =>
 S.op (.fieldAddr 191 v58 0) w (fun v59 w =>
 S.op (.load 144 v59) w (fun v60 w =>
 S.op (.bin .add 144 false true v60 (.int .u64 1)) w (fun v61 w =>
 S.op (.nilCheck j20) w (fun v62 w =>
 S.op (.fieldAddr 191 v62 0) w (fun v63 w =>
 S.op (.store 144 v63 v61) w (fun _ w =>
 S.op (.nilCheck j20) w (fun v67 w =>
 S.op (.fieldAddr 191 v67 1) w (fun v68 w =>
 S.op (.indexAddr 189 v68 v24) w (fun v69 w =>
 S.op (.store 107 v69 j19) w (fun _ w =>
 S.op (.mkIface 188 j20) w (fun v71 w =>
 K v71 w) Kp) Kp) Kp) Kp) Kp) Kp) Kp) Kp) Kp) Kp) Kp) Kp) (
 S.op (.nilCheck j20) w (fun v67 w =>
 S.op (.fieldAddr 191 v67 1) w (fun v68 w =>
 S.op (.indexAddr 189 v68 v24) w (fun v69 w =>
 S.op (.store 107 v69 j19) w (fun _ w =>
 S.op (.mkIface 188 j20) w (fun v71 w =>
 K v71 w) Kp) Kp) Kp) Kp) Kp)) Kp))) Kp) Kp) Kp) Kp) Kp) Kp
theorem vc133_eq : vc133 S a0 a1 a2 a3 a4 a5 a6 a7 w K Kp = fVC S [] [(8, [19]), (11, [20])] Tryz.f133 [a0, a1, a2, a3, a4, a5, a6, a7] w K Kp := by kernel_rfl
theorem vc133_calls (h : vc133 (nice Tryz.prog) a0 a1 a2 a3 a4 a5 a6 a7 w K Kp) : Calls Tryz.prog 133 #[a0, a1, a2, a3, a4, a5, a6, a7] w (ret K Kp) :=
 fVC_sound (args := [a0, a1, a2, a3, a4, a5, a6, a7]) nice_le follows_MVcI Tryz.func133 (by kernel_rfl) (Eq.mp vc133_eq h)
def vc123 (S : Sig) (a0 a1 a2 : Value) (w : World) (K : KV) (Kp : KP) : Prop :=
 S.op (.mkIface 2 a1) w (fun v8 w =>
 S.op (.mkIface 2 a2) w (fun v10 w =>
 S.op (.bin .eql 20 false false v8 v10) w (fun v11 w =>
 K v11 w) Kp) Kp) Kp
theorem vc123_eq : vc123 S a0 a1 a2 w K Kp = fVC S [] [] Tryz.f123 [a0, a1, a2] w K Kp := by kernel_rfl
theorem vc123_calls (h : vc123 (nice Tryz.prog) a0 a1 a2 w K Kp) : Calls Tryz.prog 123 #[a0, a1, a2] w (ret K Kp) :=
 fVC_sound (args := [a0, a1, a2]) nice_le follows_MVcI Tryz.func123 (by kernel_rfl) (Eq.mp vc123_eq h)
def vc125 (S : Sig) (a0 : Value) (w : World) (K : KV) (Kp : KP) : Prop :=
 Lp fun (I2 : Value → KV) (μ2 : Value → Value → World → Nat) => I2 a0 a0 w ∧
 ∀ (wl2 : World) (junk : Nat → Value) (s0 : Value) (s3 : Value), I2 s0 s3 wl2 →
 S.op (.bin .gtr 177 false true s0 (.int .u64 4294967295)) wl2 (fun v6 w =>
 Br v6 (
 S.op (.bin .quo 177 false true s0 (.int .u64 4294967295)) w (fun v8 w =>
 S.op (.bin .xor 177 false false s3 v8) w (fun v11 w =>
 I2 v8 v11 w ∧ μ2 v8 v11 w < μ2 s0 s3 wl2) Kp) Kp) (
 S.op (.conv 177 22 s3) w (fun v13 w =>
 K v13 w) Kp)) Kp
theorem vc125_eq : vc125 S a0 w K Kp = fVC S [(2, [0, 3])] [] Tryz.f125 [a0] w K Kp := by kernel_rfl
theorem vc125_calls (h : vc125 (nice Tryz.prog) a0 w K Kp) : Calls Tryz.prog 125 #[a0] w (ret K Kp) :=
 fVC_sound (args := [a0]) nice_le follows_MVcI Tryz.func125 (by kernel_rfl) (Eq.mp vc125_eq h)
end Go.Proofs.YtbghmbbhkoniiaaGreat
end
section
/- The nodes of a map's trie in the heap; what looking a key up in them does. -/
namespace Go.Proofs.YtbghmbbhkoniiaaGreat.I
open Go.Vc Go.Proofs Go.Proofs.YtbghmbbhkoniiaaGreat Go.Vc.Nd
abbrev Ky := Int
abbrev Vl := Int
def ek (k : Ky) : Value := .int .i64 k
def ev (v : Vl) : Value := .int .i64 v
def zv : Value := .int .i64 0
abbrev Tr := Nd Ky Vl
def ent (e : Ky × Vl) : List Value := [ek e.1, ev e.2]
theorem ent_len (e : Ky × Vl) : (ent e).length = 2 := rfl
theorem one_ek (k : Ky) : (ek k).oneCell' = true := rfl
theorem one_ev (v : Vl) : (ev v).oneCell' = true := rfl
def ents (es : List (Ky × Vl)) : List Value := es.flatMap ent
theorem ents_len (es : List (Ky × Vl)) : (ents es).length = es.length * 2 := flatMap_len ent_len es
theorem ents_get {es : List (Ky × Vl)} {i r : Nat} (hi : i < es.length) (hr : r < 2) : (ents es)[i * 2 + r]? = (ent es[i])[r]? := flatMap_get ent_len es i r hi hr
theorem ents_one {es : List (Ky × Vl)} : ∀ u ∈ ents es, u.oneCell' = true := fun u hu => by
  obtain ⟨e, _, he⟩ := List.mem_flatMap.1 hu
  simp only [ent, List.mem_cons, List.not_mem_nil, or_false] at he
  rcases he with rfl | rfl <;> rfl
def ptr (b : Nat) : Value := .pointer (some ⟨b, 0, none⟩)
@[simp] theorem op_ent (a : Ky) (c : Vl) {w : World} {K : KV} {Kp : KP} : (nice Tryz.prog).op (.build 156 [(0, ek a), (1, ev c)]) w K Kp = K (.agg #[ek a, ev c]) w := op_build_156_0_1 (one_ek a) (one_ev c)
@[simp] theorem pur_ent (a : Ky) (c : Vl) {K1 : Value → Prop} : (nice Tryz.prog).pur (.build 156 [(0, ek a), (1, ev c)]) K1 = K1 (.agg #[ek a, ev c]) := pur_build_156_0_1 (one_ek a) (one_ev c)
@[simp] theorem pur_valB (a : Ky) (c : Vl) {h : Nat} {K1 : Value → Prop} : (nice Tryz.prog).pur (.build 162 [(0, .int .u32 h), (1, ek a), (2, ev c)]) K1 = K1 (.agg #[.int .u32 h, ek a, ev c]) := pur_build_162_0_1_2 one_int (one_ek a) (one_ev c)
theorem apE : apOf Tryz.prog 157 = some (156, 2, 16) := by kernel_rfl
theorem apN : apOf Tryz.prog 185 = some (107, 1, 16) := by kernel_rfl
structure IsH (hv : Value) (hash : Ky → Nat) : Prop where
  lt : ∀ k, hash k < 2 ^ 32
  eqv : ∀ {a b : Ky} {w : World} {K : KV} {Kp : KP}, (∀ w', Frm (fun _ => False) w w' → K (.bool (decide (a = b))) w') → (nice Tryz.prog).call (.inv hv "Equal") [ek a, ek b] w K Kp
  hsh : ∀ {k : Ky} {w : World} {K : KV} {Kp : KP}, (∀ w', Frm (fun _ => False) w w' → K (.int .u32 (hash k)) w') → (nice Tryz.prog).call (.inv hv "Hash") [ek k] w K Kp
  nilE : ∀ {K1 : Value → Prop}, (nice Tryz.prog).pur (.nilCheck (.func (.method "Equal") #[hv] #[])) K1 = K1 (.func (.method "Equal") #[hv] #[])
  iface : ∃ t p, hv = .iface t p
def Rep (w : World) : Tr → Value → (Nat → Prop) → Prop
  | .emp, v, F => v = .nilIface
  | .arr es, v, F => ∃ b g cap, v = .iface 153 (ptr b) ∧ F b ∧ F g ∧ g ≠ b ∧ w.heap[b]? = some (.cells #[.slice (some ⟨g, 0, none⟩) es.length cap] 159 (0, 0)) ∧ es.length ≤ cap ∧ Rw w 156 2 g cap (ents es)
  | .val h k x, v, F => ∃ b, v = .iface 160 (ptr b) ∧ F b ∧ w.heap[b]? = some (.cells #[.int .u32 h, ek k, ev x] 162 (0, 0))
  | .col h es, v, F => ∃ b g cap, v = .iface 163 (ptr b) ∧ F b ∧ F g ∧ g ≠ b ∧ w.heap[b]? = some (.cells #[.int .u32 h, .slice (some ⟨g, 0, none⟩) es.length cap] 165 (0, 0)) ∧ es.length ≤ cap ∧ Rw w 156 2 g cap (ents es)
  | .br false f, v, F => ∃ b g cap, ∃ vs : Nat → Value, ∃ Fs : Nat → Nat → Prop, v = .iface 184 (ptr b) ∧ F b ∧ F g ∧ g ≠ b ∧ w.heap[b]? = some (.cells #[.int .u32 (bm f), .slice (some ⟨g, 0, none⟩) (cnt f) cap] 187 (0, 0)) ∧ cnt f ≤ cap ∧ Rw w 107 1 g cap (kids f vs) ∧
      (∀ i, i < 32 → Rep w (f i) (vs i) (Fs i)) ∧ ∀ i, i < 32 → ∀ c, Fs i c → F c ∧ c ≠ b ∧ c ≠ g ∧ ∀ k, k < 32 → k ≠ i → ¬ Fs k c
  | .br true f, v, F => ∃ b cs, ∃ vs : Nat → Value, ∃ Fs : Nat → Nat → Prop, v = .iface 188 (ptr b) ∧ F b ∧ w.heap[b]? = some (.cells cs 191 (0, 0)) ∧ cs.size = 33 ∧ cs[0]? = some (.int .u64 (cnt f)) ∧ (∀ i, i < 32 → cs[i + 1]? = some (vs i)) ∧
      (∀ i, i < 32 → Rep w (f i) (vs i) (Fs i)) ∧ ∀ i, i < 32 → ∀ c, Fs i c → F c ∧ c ≠ b ∧ ∀ k, k < 32 → k ≠ i → ¬ Fs k c
variable {w w' : World} {v hv : Value} {t : Tr} {F F' : Nat → Prop} {K : KV} {Kp : KP} {hash : Ky → Nat} {k : Ky} {x : Vl}
theorem Rep.mono : ∀ {t : Tr} {v : Value} {F F' : Nat → Prop}, Rep w t v F → (∀ b, F b → F' b) → (∀ b o, F b → w.heap[b]? = some o → w'.heap[b]? = some o) → Rep w' t v F'
  | .emp, v, F, F', h, hF, hw => h
  | .arr es, v, F, F', h, hF, hw => by
    obtain ⟨b, g, cap, h1, h2, h3, h4, h5, h6, h7⟩ := h
    exact ⟨b, g, cap, h1, hF _ h2, hF _ h3, h4, hw _ _ h2 h5, h6, h7.keep fun o => hw _ _ h3⟩
  | .val h' k x, v, F, F', h, hF, hw => by
    obtain ⟨b, h1, h2, h3⟩ := h
    exact ⟨b, h1, hF _ h2, hw _ _ h2 h3⟩
  | .col h' es, v, F, F', h, hF, hw => by
    obtain ⟨b, g, cap, h1, h2, h3, h4, h5, h6, h7⟩ := h
    exact ⟨b, g, cap, h1, hF _ h2, hF _ h3, h4, hw _ _ h2 h5, h6, h7.keep fun o => hw _ _ h3⟩
  | .br false f, v, F, F', h, hF, hw => by
    obtain ⟨b, g, cap, vs, Fs, h1, h2, h3, h4, h5, h6, h7, h8, h9⟩ := h
    exact ⟨b, g, cap, vs, Fs, h1, hF _ h2, hF _ h3, h4, hw _ _ h2 h5, h6, h7.keep fun o => hw _ _ h3, fun i hi => (h8 i hi).mono (fun _ h => h) fun c o hc => hw c o (h9 i hi c hc).1,
      fun i hi c hc => ⟨hF _ (h9 i hi c hc).1, (h9 i hi c hc).2⟩⟩
  | .br true f, v, F, F', h, hF, hw => by
    obtain ⟨b, cs, vs, Fs, h1, h2, h3, h4, h5, h6, h7, h8⟩ := h
    exact ⟨b, cs, vs, Fs, h1, hF _ h2, hw _ _ h2 h3, h4, h5, h6, fun i hi => (h7 i hi).mono (fun _ h => h) fun c o hc => hw c o (h8 i hi c hc).1,
      fun i hi c hc => ⟨hF _ (h8 i hi c hc).1, (h8 i hi c hc).2⟩⟩
theorem Rep.frame {M : Nat → Prop} (h : Rep w t v F) (hf : Frm M w w') (hM : ∀ b, F b → ¬ M b) : Rep w' t v F :=
  h.mono (fun _ h => h) fun b o hb ho => hf.get ho (hM b hb)
theorem Rep.still (h : Rep w t v F) (hf : Frm (fun _ => False) w w') : Rep w' t v F := h.frame hf fun _ _ h => h
theorem Rep.lt : ∀ {t : Tr} {v : Value} {F : Nat → Prop}, Rep w t v F → Rep w t v (fun b => F b ∧ b < w.heap.size)
  | .emp, v, F, h => h
  | .arr es, v, F, h => by
    obtain ⟨b, g, cap, h1, h2, h3, h4, h5, h6, h7⟩ := h
    exact ⟨b, g, cap, h1, ⟨h2, lt_of_get h5⟩, ⟨h3, h7.lt⟩, h4, h5, h6, h7⟩
  | .val h' k x, v, F, h => by
    obtain ⟨b, h1, h2, h3⟩ := h
    exact ⟨b, h1, ⟨h2, lt_of_get h3⟩, h3⟩
  | .col h' es, v, F, h => by
    obtain ⟨b, g, cap, h1, h2, h3, h4, h5, h6, h7⟩ := h
    exact ⟨b, g, cap, h1, ⟨h2, lt_of_get h5⟩, ⟨h3, h7.lt⟩, h4, h5, h6, h7⟩
  | .br false f, v, F, h => by
    obtain ⟨b, g, cap, vs, Fs, h1, h2, h3, h4, h5, h6, h7, h8, h9⟩ := h
    exact ⟨b, g, cap, vs, fun i c => Fs i c ∧ c < w.heap.size, h1, ⟨h2, lt_of_get h5⟩, ⟨h3, h7.lt⟩, h4, h5, h6, h7, fun i hi => (h8 i hi).lt,
      fun i hi c hc => ⟨⟨(h9 i hi c hc.1).1, hc.2⟩, (h9 i hi c hc.1).2.1, (h9 i hi c hc.1).2.2.1, fun k hk hne h => (h9 i hi c hc.1).2.2.2 k hk hne h.1⟩⟩
  | .br true f, v, F, h => by
    obtain ⟨b, cs, vs, Fs, h1, h2, h3, h4, h5, h6, h7, h8⟩ := h
    exact ⟨b, cs, vs, fun i c => Fs i c ∧ c < w.heap.size, h1, ⟨h2, lt_of_get h3⟩, h3, h4, h5, h6, fun i hi => (h7 i hi).lt,
      fun i hi c hc => ⟨⟨(h8 i hi c hc.1).1, hc.2⟩, (h8 i hi c hc.1).2.1, fun k hk hne h => (h8 i hi c hc.1).2.2 k hk hne h.1⟩⟩
theorem Rep.iface (h : Rep w t v F) (ht : t ≠ .emp) : ∃ u b, v = .iface u (ptr b) := by
  cases t with
  | emp => exact absurd rfl ht
  | arr es => obtain ⟨b, g, cap, h1, _⟩ := h; exact ⟨_, _, h1⟩
  | val h' k x => obtain ⟨b, h1, _⟩ := h; exact ⟨_, _, h1⟩
  | col h' es => obtain ⟨b, g, cap, h1, _⟩ := h; exact ⟨_, _, h1⟩
  | br hs f => cases hs with
    | true => obtain ⟨b, cs, vs, Fs, h1, _⟩ := h; exact ⟨_, _, h1⟩
    | false => obtain ⟨b, g, cap, vs, Fs, h1, _⟩ := h; exact ⟨_, _, h1⟩
theorem Rep.nil (h : Rep w .emp v F) : v = .nilIface := h
theorem Rep.one (h : Rep w t v F) : v.oneCell' = true := by
  by_cases ht : t = .emp
  · subst ht; rw [h.nil]; rfl
  · obtain ⟨u, b, rfl⟩ := h.iface ht; rfl
theorem find_at {es : List (Ky × Vl)} {j : Nat} (hj : j < es.length) (h1 : ∀ i (hi : i < j), es[i].1 ≠ k) (h2 : es[j].1 = k) : find es k = some j := by
  rw [find, List.findIdx?_eq_some_iff_getElem]
  exact ⟨hj, by simpa using h2, fun i hi => by simpa using h1 i hi⟩
def idxV (o : Option Nat) : Value := match o with
  | some i => .int .i64 i
  | none => .int .i64 (-1)
theorem key_cell {g cap : Nat} {es : List (Ky × Vl)} (h : Rw w 156 2 g cap (ents es)) : ∃ cur, w.heap[g]? = some (.cells cur 156 (0, 0)) ∧ ∀ j (hj : j < es.length), cur[j * 2]? = some (ek es[j].1) ∧ cur[j * 2 + 1]? = if 1 < 2 then some (ev es[j].2) else cur[j * 2 + 1]? := by
  obtain ⟨cur, h1, h2, h3⟩ := h.cells
  refine ⟨cur, h1, fun j hj => ⟨?_, ?_⟩⟩
  · rw [h3 _ (by rw [ents_len]; omega)]
    have := ents_get (r := 0) hj (by decide)
    rw [Nat.add_zero] at this
    rw [this]; rfl
  · split
    · rw [h3 _ (by rw [ents_len]; omega), ents_get hj (by assumption)]; rfl
    · rfl
theorem wrap_i64_small {n : Int} (h0 : 0 ≤ n) (h1 : n < 9223372036854775808) : IntKind.i64.wrap n = n := by rw [IntKind.wrap_i64]; omega
def natOf : Value → Nat
  | .int _ j => j.toNat
  | _ => 0
theorem indexA_ok {b g cap : Nat} {es : List (Ky × Vl)} (hH : IsH hv hash) (hb : w.heap[b]? = some (.cells #[.slice (some ⟨g, 0, none⟩) es.length cap] 159 (0, 0))) (hg : Rw w 156 2 g cap (ents es)) (h6 : es.length ≤ cap)
    (hK : ∀ w', Frm (fun _ => False) w w' → K (idxV (find es k)) w') : Calls Tryz.prog 102 #[ptr b, ek k, hv] w (ret K Kp) := by
  have hc := hg.cap_le h6
  refine vc102_calls ?_
  simp [-getElem?_pos, -Array.getElem?_eq_getElem, vc102, ptr, add_spot, hb, and_assoc]
  obtain ⟨I, hI⟩ : ∃ I : KV, ∀ s wl, I s wl ↔ ∃ j : Nat, s = Value.int .i64 j ∧ j ≤ es.length ∧ Frm (fun _ => False) w wl ∧ ∀ i (_ : i < j) (hi : i < es.length), es[i].1 ≠ k := ⟨_, fun _ _ => Iff.rfl⟩
  refine Lp.intro I (fun s _ => es.length - natOf s) ⟨(hI _ _).2 ⟨0, rfl, by omega, Frm.refl, fun i hi => by omega⟩, ?_⟩
  intro wl s hs
  obtain ⟨j, rfl, hj, hf, hno⟩ := (hI _ _).1 hs
  simp only [op_lss, Br_dec]
  refine ⟨fun hlt => ?_, fun hge => ?_⟩
  · have hlt' : j < es.length := by omega
    have hb' := hf.get hb id
    obtain ⟨cur, hcur, hk⟩ := key_cell (hg.frame hf fun h => h)
    have hk' := (hk j hlt').1
    simp [-getElem?_pos, -Array.getElem?_eq_getElem, ptr, add_spot, hb', hcur, hk', hH.nilE, and_assoc]
    refine ⟨by omega, hH.eqv fun w' hf' => ?_⟩
    simp only [Br_dec]
    refine ⟨fun he => ?_, fun hne => ?_⟩
    · have := hK w' (Frm.no hf (Frm.dr hf'))
      rw [find_at hlt' (fun i hi => hno i hi (by omega)) he] at this
      exact this
    · rw [wrap_i64_small (by omega) (by omega)]
      refine ⟨(hI _ _).2 ⟨j + 1, by simp, by omega, Frm.no hf (Frm.dr hf'), fun i hi hi' => ?_⟩, ?_⟩
      · by_cases e : i = j
        · subst e; exact hne
        · exact hno i (by omega) hi'
      · simp only [natOf]; omega
  · have := hK wl hf
    rw [show find es k = none from Nd.find_none.2 fun e he => by obtain ⟨i, hi, rfl⟩ := List.mem_iff_getElem.1 he; exact hno i (by omega) hi] at this
    exact this
end Go.Proofs.YtbghmbbhkoniiaaGreat.I
end
section
/- Words of 32 bits as the code of a map's trie reckons with them. -/
namespace Go.Vc
theorem and_u32 {a b : Nat} (ha : a < 2 ^ 32) (_hb : b < 2 ^ 32) : bitsV .and .u32 (a : Int) (b : Int) = ((a &&& b : Nat) : Int) := by
  have h : (BitVec.ofInt 32 (a : Int) &&& BitVec.ofInt 32 (b : Int)).toNat = a &&& b := by
    rw [BitVec.toNat_and, BitVec.toNat_ofInt, BitVec.toNat_ofInt]
    congr 1 <;> omega
  show IntKind.u32.wrap ((BitVec.ofInt 32 (a : Int) &&& BitVec.ofInt 32 (b : Int)).toNat : Int) = _
  rw [h, IntKind.wrap_u32]
  have : a &&& b ≤ a := Nat.and_le_left
  omega
theorem or_u32 {a b : Nat} (ha : a < 2 ^ 32) (hb : b < 2 ^ 32) : bitsV .or .u32 (a : Int) (b : Int) = ((a ||| b : Nat) : Int) := by
  have h : (BitVec.ofInt 32 (a : Int) ||| BitVec.ofInt 32 (b : Int)).toNat = a ||| b := by
    rw [BitVec.toNat_or, BitVec.toNat_ofInt, BitVec.toNat_ofInt]
    congr 1 <;> omega
  show IntKind.u32.wrap ((BitVec.ofInt 32 (a : Int) ||| BitVec.ofInt 32 (b : Int)).toNat : Int) = _
  rw [h, IntKind.wrap_u32]
  have := Nat.or_lt_two_pow ha hb
  omega
theorem xor_u32 {a b : Nat} (ha : a < 2 ^ 32) (hb : b < 2 ^ 32) : bitsV .xor .u32 (a : Int) (b : Int) = ((a ^^^ b : Nat) : Int) := by
  have h : (BitVec.ofInt 32 (a : Int) ^^^ BitVec.ofInt 32 (b : Int)).toNat = a ^^^ b := by
    rw [BitVec.toNat_xor, BitVec.toNat_ofInt, BitVec.toNat_ofInt]
    congr 1 <;> omega
  show IntKind.u32.wrap ((BitVec.ofInt 32 (a : Int) ^^^ BitVec.ofInt 32 (b : Int)).toNat : Int) = _
  rw [h, IntKind.wrap_u32]
  have := Nat.xor_lt_two_pow ha hb
  omega
theorem and31 {a : Nat} (ha : a < 2 ^ 32) : bitsV .and .u32 (a : Int) 31 = ((a % 32 : Nat) : Int) := by
  have := and_u32 ha (b := 31) (by decide)
  have e : a &&& 31 = a % 32 := Nat.and_two_pow_sub_one_eq_mod _ 5
  rw [e] at this
  exact this
theorem and255 {a : Nat} (ha : a < 2 ^ 32) : bitsV .and .u32 (a : Int) 255 = ((a % 256 : Nat) : Int) := by
  have := and_u32 ha (b := 255) (by decide)
  have e : a &&& 255 = a % 256 := Nat.and_two_pow_sub_one_eq_mod _ 8
  rw [e] at this
  exact this
theorem fdiv_pow (a s : Nat) : (a : Int).fdiv (2 ^ s) = ((a / 2 ^ s : Nat) : Int) := by
  rw [Int.fdiv_eq_ediv_of_nonneg _ (Int.le_of_lt (Int.pow_pos (by decide)))]
  simp
theorem frag_eq {h l s : Nat} (hh : h < 2 ^ 32) (hs : s = 5 * l) (hl : l ≤ 6) : bitsV .and .u32 ((h : Int).fdiv (2 ^ (min s IntKind.u32.bits))) 31 = (Nd.frag l h : Int) := by
  have hm : min s IntKind.u32.bits = s := Nat.min_eq_left (by show s ≤ 32; omega)
  rw [hm, fdiv_pow, and31 (Nat.lt_of_le_of_lt (Nat.div_le_self _ _) hh), Nd.frag, hs, Nat.pow_mul]
theorem two_pow_lt {i : Nat} (hi : i < 32) : 2 ^ i < 2 ^ 32 := Nat.pow_lt_pow_right (by decide) hi
theorem bit_eq {i : Nat} (hi : i < 32) : IntKind.u32.wrap (2 ^ (min i IntKind.u32.bits)) = ((2 ^ i : Nat) : Int) := by
  have hm : min i IntKind.u32.bits = i := Nat.min_eq_left (by show i ≤ 32; omega)
  have h3 := two_pow_lt hi
  have h2 : (2 : Int) ^ i = ((2 ^ i : Nat) : Int) := (Int.natCast_pow 2 i).symm
  rw [hm, IntKind.wrap_u32, h2]
  generalize 2 ^ i = y at *
  omega
theorem bit_less {i : Nat} (hi : i < 32) : IntKind.u32.wrap (((2 ^ i : Nat) : Int) - 1) = ((2 ^ i - 1 : Nat) : Int) := by
  have := two_pow_lt hi
  have h1 := Nat.pow_pos (n := i) (show 0 < 2 by decide)
  rw [IntKind.wrap_u32]; omega
theorem next_shift {s l : Nat} (hs : s = 5 * l) (hl : l ≤ 6) : IntKind.u64.wrap ((s : Int) + 5) = ((s + 5 : Nat) : Int) := by
  rw [IntKind.wrap_u64]; omega
end Go.Vc
end
section
namespace Go.Proofs.YtbghmbbhkoniiaaGreat
open Go.Vc Go.Proofs
variable {S : Sig} {a0 a1 a2 a3 a4 a5 a6 a7 a8 a9 : Value} {w : World} {K : KV} {Kp : KP}
private theorem follows_MVcB : Tryz.prog.follows .mixedOrders = true := by kernel_rfl
def vc118 (S : Sig) (a0 : Value) (w : World) (K : KV) (Kp : KP) : Prop :=
 S.pur (.bin .shr 22 false true a0 (.int .u64 24)) (fun v4 =>
 S.pur (.index 9 (.string { data := #[0, 1, 1, 2, 1, 2, 2, 3, 1, 2, 2, 3, 2, 3, 3, 4, 1, 2, 2, 3, 2, 3, 3, 4, 2, 3, 3, 4, 3, 4, 4, 5, 1, 2, 2, 3, 2, 3, 3, 4, 2, 3, 3, 4, 3, 4, 4, 5, 2, 3, 3, 4, 3, 4, 4, 5, 3, 4, 4, 5, 4, 5, 5, 6, 1, 2, 2, 3, 2, 3, 3, 4, 2, 3, 3, 4, 3, 4, 4, 5, 2, 3, 3, 4, 3, 4, 4, 5, 3, 4, 4, 5, 4, 5, 5, 6, 2, 3, 3, 4, 3, 4, 4, 5, 3, 4, 4, 5, 4, 5, 5, 6, 3, 4, 4, 5, 4, 5, 5, 6, 4, 5, 5, 6, 5, 6, 6, 7, 1, 2, 2, 3, 2, 3, 3, 4, 2, 3, 3, 4, 3, 4, 4, 5, 2, 3, 3, 4, 3, 4, 4, 5, 3, 4, 4, 5, 4, 5, 5, 6, 2, 3, 3, 4, 3, 4, 4, 5, 3, 4, 4, 5, 4, 5, 5, 6, 3, 4, 4, 5, 4, 5, 5, 6, 4, 5, 5, 6, 5, 6, 6, 7, 2, 3, 3, 4, 3, 4, 4, 5, 3, 4, 4, 5, 4, 5, 5, 6, 3, 4, 4, 5, 4, 5, 5, 6, 4, 5, 5, 6, 5, 6, 6, 7, 3, 4, 4, 5, 4, 5, 5, 6, 4, 5, 5, 6, 5, 6, 6, 7, 4, 5, 5, 6, 5, 6, 6, 7, 5, 6, 6, 7, 6, 7, 7, 8] }) v4) (fun v5 =>
 S.pur (.bin .shr 22 false true a0 (.int .u64 16)) (fun v7 =>
 S.pur (.bin .and 22 false true v7 (.int .u32 255)) (fun v8 =>
 S.pur (.index 9 (.string { data := #[0, 1, 1, 2, 1, 2, 2, 3, 1, 2, 2, 3, 2, 3, 3, 4, 1, 2, 2, 3, 2, 3, 3, 4, 2, 3, 3, 4, 3, 4, 4, 5, 1, 2, 2, 3, 2, 3, 3, 4, 2, 3, 3, 4, 3, 4, 4, 5, 2, 3, 3, 4, 3, 4, 4, 5, 3, 4, 4, 5, 4, 5, 5, 6, 1, 2, 2, 3, 2, 3, 3, 4, 2, 3, 3, 4, 3, 4, 4, 5, 2, 3, 3, 4, 3, 4, 4, 5, 3, 4, 4, 5, 4, 5, 5, 6, 2, 3, 3, 4, 3, 4, 4, 5, 3, 4, 4, 5, 4, 5, 5, 6, 3, 4, 4, 5, 4, 5, 5, 6, 4, 5, 5, 6, 5, 6, 6, 7, 1, 2, 2, 3, 2, 3, 3, 4, 2, 3, 3, 4, 3, 4, 4, 5, 2, 3, 3, 4, 3, 4, 4, 5, 3, 4, 4, 5, 4, 5, 5, 6, 2, 3, 3, 4, 3, 4, 4, 5, 3, 4, 4, 5, 4, 5, 5, 6, 3, 4, 4, 5, 4, 5, 5, 6, 4, 5, 5, 6, 5, 6, 6, 7, 2, 3, 3, 4, 3, 4, 4, 5, 3, 4, 4, 5, 4, 5, 5, 6, 3, 4, 4, 5, 4, 5, 5, 6, 4, 5, 5, 6, 5, 6, 6, 7, 3, 4, 4, 5, 4, 5, 5, 6, 4, 5, 5, 6, 5, 6, 6, 7, 4, 5, 5, 6, 5, 6, 6, 7, 5, 6, 6, 7, 6, 7, 7, 8] }) v8) (fun v9 =>
 S.pur (.bin .add 5 false false v5 v9) (fun v10 =>
 S.pur (.bin .shr 22 false true a0 (.int .u64 8)) (fun v12 =>
 S.pur (.bin .and 22 false true v12 (.int .u32 255)) (fun v13 =>
 S.pur (.index 9 (.string { data := #[0, 1, 1, 2, 1, 2, 2, 3, 1, 2, 2, 3, 2, 3, 3, 4, 1, 2, 2, 3, 2, 3, 3, 4, 2, 3, 3, 4, 3, 4, 4, 5, 1, 2, 2, 3, 2, 3, 3, 4, 2, 3, 3, 4, 3, 4, 4, 5, 2, 3, 3, 4, 3, 4, 4, 5, 3, 4, 4, 5, 4, 5, 5, 6, 1, 2, 2, 3, 2, 3, 3, 4, 2, 3, 3, 4, 3, 4, 4, 5, 2, 3, 3, 4, 3, 4, 4, 5, 3, 4, 4, 5, 4, 5, 5, 6, 2, 3, 3, 4, 3, 4, 4, 5, 3, 4, 4, 5, 4, 5, 5, 6, 3, 4, 4, 5, 4, 5, 5, 6, 4, 5, 5, 6, 5, 6, 6, 7, 1, 2, 2, 3, 2, 3, 3, 4, 2, 3, 3, 4, 3, 4, 4, 5, 2, 3, 3, 4, 3, 4, 4, 5, 3, 4, 4, 5, 4, 5, 5, 6, 2, 3, 3, 4, 3, 4, 4, 5, 3, 4, 4, 5, 4, 5, 5, 6, 3, 4, 4, 5, 4, 5, 5, 6, 4, 5, 5, 6, 5, 6, 6, 7, 2, 3, 3, 4, 3, 4, 4, 5, 3, 4, 4, 5, 4, 5, 5, 6, 3, 4, 4, 5, 4, 5, 5, 6, 4, 5, 5, 6, 5, 6, 6, 7, 3, 4, 4, 5, 4, 5, 5, 6, 4, 5, 5, 6, 5, 6, 6, 7, 4, 5, 5, 6, 5, 6, 6, 7, 5, 6, 6, 7, 6, 7, 7, 8] }) v13) (fun v14 =>
 S.pur (.bin .add 5 false false v10 v14) (fun v15 =>
 S.pur (.bin .and 22 false true a0 (.int .u32 255)) (fun v17 =>
 S.pur (.index 9 (.string { data := #[0, 1, 1, 2, 1, 2, 2, 3, 1, 2, 2, 3, 2, 3, 3, 4, 1, 2, 2, 3, 2, 3, 3, 4, 2, 3, 3, 4, 3, 4, 4, 5, 1, 2, 2, 3, 2, 3, 3, 4, 2, 3, 3, 4, 3, 4, 4, 5, 2, 3, 3, 4, 3, 4, 4, 5, 3, 4, 4, 5, 4, 5, 5, 6, 1, 2, 2, 3, 2, 3, 3, 4, 2, 3, 3, 4, 3, 4, 4, 5, 2, 3, 3, 4, 3, 4, 4, 5, 3, 4, 4, 5, 4, 5, 5, 6, 2, 3, 3, 4, 3, 4, 4, 5, 3, 4, 4, 5, 4, 5, 5, 6, 3, 4, 4, 5, 4, 5, 5, 6, 4, 5, 5, 6, 5, 6, 6, 7, 1, 2, 2, 3, 2, 3, 3, 4, 2, 3, 3, 4, 3, 4, 4, 5, 2, 3, 3, 4, 3, 4, 4, 5, 3, 4, 4, 5, 4, 5, 5, 6, 2, 3, 3, 4, 3, 4, 4, 5, 3, 4, 4, 5, 4, 5, 5, 6, 3, 4, 4, 5, 4, 5, 5, 6, 4, 5, 5, 6, 5, 6, 6, 7, 2, 3, 3, 4, 3, 4, 4, 5, 3, 4, 4, 5, 4, 5, 5, 6, 3, 4, 4, 5, 4, 5, 5, 6, 4, 5, 5, 6, 5, 6, 6, 7, 3, 4, 4, 5, 4, 5, 5, 6, 4, 5, 5, 6, 5, 6, 6, 7, 4, 5, 5, 6, 5, 6, 6, 7, 5, 6, 6, 7, 6, 7, 7, 8] }) v17) (fun v18 =>
 S.pur (.bin .add 5 false false v15 v18) (fun v19 =>
 S.pur (.conv 5 3 v19) (fun v20 =>
 K v20 w.drew))))))))))))))
theorem vc118_eq : vc118 S a0 w K Kp = fVC S [] [] Tryz.f118 [a0] w K Kp := by kernel_rfl
theorem vc118_calls (h : vc118 (nice Tryz.prog) a0 w K Kp) : Calls Tryz.prog 118 #[a0] w (ret K Kp) :=
 fVC_sound (args := [a0]) nice_le follows_MVcB Tryz.func118 (by kernel_rfl) (Eq.mp vc118_eq h)
end Go.Proofs.YtbghmbbhkoniiaaGreat
end
section
/- Looking a key up in a node. -/
namespace Go.Proofs.YtbghmbbhkoniiaaGreat.I
open Go.Vc Go.Proofs Go.Proofs.YtbghmbbhkoniiaaGreat Go.Vc.Nd
variable {w w' : World} {v hv : Value} {t : Tr} {F : Nat → Prop} {K : KV} {Kp : KP} {hash : Ky → Nat} {k : Ky} {x : Vl} {l : Nat}
theorem indexC_ok {b g cap : Nat} {hx : Value} {es : List (Ky × Vl)} (hH : IsH hv hash) (hb : w.heap[b]? = some (.cells #[hx, .slice (some ⟨g, 0, none⟩) es.length cap] 165 (0, 0))) (hg : Rw w 156 2 g cap (ents es)) (h6 : es.length ≤ cap)
    (hK : ∀ w', Frm (fun _ => False) w w' → K (idxV (find es k)) w') : Calls Tryz.prog 112 #[ptr b, ek k, hv] w (ret K Kp) := by
  have hc := hg.cap_le h6
  refine vc112_calls ?_
  simp [-getElem?_pos, -Array.getElem?_eq_getElem, vc112, ptr, add_spot, hb, and_assoc]
  obtain ⟨I, hI⟩ : ∃ I : KV, ∀ s wl, I s wl ↔ ∃ j : Nat, s = Value.int .i64 j ∧ j ≤ es.length ∧ Frm (fun _ => False) w wl ∧ ∀ i (_ : i < j) (hi : i < es.length), es[i].1 ≠ k := ⟨_, fun _ _ => Iff.rfl⟩
  refine Lp.intro I (fun s _ => es.length - natOf s) ⟨(hI _ _).2 ⟨0, rfl, by omega, Frm.refl, fun i hi => by omega⟩, ?_⟩
  intro wl s hs
  obtain ⟨j, rfl, hj, hf, hno⟩ := (hI _ _).1 hs
  simp only [op_lss, Br_dec]
  refine ⟨fun hlt => ?_, fun hge => ?_⟩
  · have hlt' : j < es.length := by omega
    have hb' := hf.get hb id
    obtain ⟨cur, hcur, hk⟩ := key_cell (hg.frame hf fun h => h)
    have hk' := (hk j hlt').1
    simp [-getElem?_pos, -Array.getElem?_eq_getElem, ptr, add_spot, hb', hcur, hk', hH.nilE, and_assoc]
    refine ⟨by omega, hH.eqv fun w' hf' => ?_⟩
    simp only [Br_dec]
    refine ⟨fun he => ?_, fun hne => ?_⟩
    · have := hK w' (Frm.no hf (Frm.dr hf'))
      rw [find_at hlt' (fun i hi => hno i hi (by omega)) he] at this
      exact this
    · rw [wrap_i64_small (by omega) (by omega)]
      refine ⟨(hI _ _).2 ⟨j + 1, by simp, by omega, Frm.no hf (Frm.dr hf'), fun i hi hi' => ?_⟩, ?_⟩
      · by_cases e : i = j
        · subst e; exact hne
        · exact hno i (by omega) hi'
      · simp only [natOf]; omega
  · have := hK wl hf
    rw [show find es k = none from Nd.find_none.2 fun e he => by obtain ⟨i, hi, rfl⟩ := List.mem_iff_getElem.1 he; exact hno i (by omega) hi] at this
    exact this
theorem pop_ok {x : Nat} (hx : x < 2 ^ 32) (hK : ∀ w', Frm (fun _ => False) w w' → K (.int .i64 (pop 32 x)) w') : Calls Tryz.prog 118 #[.int .u32 x] w (ret K Kp) := by
  refine vc118_calls ?_
  delta vc118
  generalize hs : (ByteArray.mk _) = s
  have hz : s.size = 256 := by rw [← hs]; rfl
  have ht : ∀ j, j < 256 → ((s[j]?).getD 0).toNat = pop 8 j := by
    have h : (List.range 256).all (fun j => ((s[j]?).getD 0).toNat == pop 8 j) = true := by rw [← hs]; kernel_rfl
    intro j hj
    have := List.all_eq_true.1 h j (List.mem_range.2 hj)
    simpa using this
  clear hs
  have e24 : (2 : Int) ^ min (Int.toNat 24) IntKind.u32.bits = 2 ^ 24 := rfl
  have e16 : (2 : Int) ^ min (Int.toNat 16) IntKind.u32.bits = 2 ^ 16 := rfl
  have e8 : (2 : Int) ^ min (Int.toNat 8) IntKind.u32.bits = 2 ^ 8 := rfl
  have f24 := fdiv_pow x 24
  have f16 := fdiv_pow x 16
  have f8 := fdiv_pow x 8
  have a16 := and255 (a := x / 2 ^ 16) (by omega)
  have a8 := and255 (a := x / 2 ^ 8) (by omega)
  have a0 := and255 (a := x) hx
  simp only [pur_shr, pur_and, pur_index_9, pur_add, pur_conv_5_3, e24, e16, e8, f24, f16, f8, a16, a8, a0, hz, Int.toNat_natCast]
  have p := pop_bytes x hx
  have l1 := pop_le 8 (x / 2 ^ 24)
  have l2 := pop_le 8 (x / 2 ^ 16 % 256)
  have l3 := pop_le 8 (x / 2 ^ 8 % 256)
  have l4 := pop_le 8 (x % 256)
  have t1 := ht (x / 2 ^ 24) (by omega)
  have t2 := ht (x / 2 ^ 16 % 256) (by omega)
  have t3 := ht (x / 2 ^ 8 % 256) (by omega)
  have t4 := ht (x % 256) (by omega)
  rw [t1, t2, t3, t4]
  refine ⟨by omega, by omega, by omega, by omega, by omega, by omega, by omega, ?_⟩
  have := hK w.drew (Frm.drew _)
  rw [p] at this
  simp only [IntKind.wrap_u8, IntKind.wrap_i64]
  refine (congrArg (fun z : Int => K (Value.int .i64 z) w.drew) ?_).mpr this
  omega
/-! ### get -/
def gotV (o : Option Vl) : Value := match o with
  | some x => .tuple #[ev x, .bool true]
  | none => .tuple #[zv, .bool false]
theorem look_find {es : List (Ky × Vl)} : Nd.look es k = (find es k).bind fun i => es[i]?.map (·.2) := by
  induction es with
  | nil => rfl
  | cons e es ih =>
    by_cases h : e.1 = k
    · simp [Nd.look, find, h, List.findIdx?_cons]
    · simp only [Nd.look, find, List.find?_cons, List.findIdx?_cons, decide_eq_false h] at ih ⊢
      rw [ih]
      cases List.findIdx? (fun e => decide (e.1 = k)) es <;> simp
theorem getA_ok {es : List (Ky × Vl)} {a3 : Value} {s : Value} (hH : IsH hv hash) (h : Rep w (.arr es) v F) (hK : ∀ w', Frm (fun _ => False) w w' → K (gotV (Nd.look es k)) w') :
    (nice Tryz.prog).call (.inv v "pub-bracken/pub/immutable.get") [ek k, s, a3, hv] w K Kp := by
  obtain ⟨b, g, cap, rfl, h2, h3, h4, h5, h6, h7⟩ := h
  simp only [inv_153_101]
  refine vc101_calls ?_
  simp only [vc101, call_102]
  refine indexA_ok hH h5 h7 h6 fun w' hf => ?_
  have := hK w' hf
  rw [look_find] at this
  cases hx : find es k with
  | none =>
    rw [hx] at this
    simp [idxV]
    exact this
  | some i =>
    rw [hx] at this
    obtain ⟨hi, _, _⟩ := find_some hx
    have hb' := hf.get h5 id
    obtain ⟨cur, hcur, hk⟩ := key_cell (h7.frame hf fun h => h)
    have hk' := (hk i hi).2
    simp only [Option.bind_some, List.getElem?_eq_getElem hi, Option.map_some] at this
    simp [-getElem?_pos, -Array.getElem?_eq_getElem, idxV, ptr, add_spot, hb', hcur, hk', and_assoc]
    exact ⟨hi, this⟩
theorem getC_ok {h' : Nat} {es : List (Ky × Vl)} {a3 s : Value} (hH : IsH hv hash) (h : Rep w (.col h' es) v F) (hK : ∀ w', Frm (fun _ => False) w w' → K (gotV (Nd.look es k)) w') :
    (nice Tryz.prog).call (.inv v "pub-bracken/pub/immutable.get") [ek k, s, a3, hv] w K Kp := by
  obtain ⟨b, g, cap, rfl, h2, h3, h4, hb, h6, hg⟩ := h
  have hc := hg.cap_le h6
  simp only [inv_163_111]
  refine vc111_calls ?_
  simp [-getElem?_pos, -Array.getElem?_eq_getElem, vc111, ptr, add_spot, hb, and_assoc]
  obtain ⟨I, hI⟩ : ∃ I : Value → KV, ∀ z s wl, I z s wl ↔ z = zv ∧ ∃ j : Nat, s = Value.int .i64 j ∧ j ≤ es.length ∧ Frm (fun _ => False) w wl ∧ ∀ i (_ : i < j) (hi : i < es.length), es[i].1 ≠ k := ⟨_, fun _ _ _ => Iff.rfl⟩
  refine Lp.intro I (fun _ s _ => es.length - natOf s) ⟨(hI _ _ _).2 ⟨rfl, 0, rfl, by omega, Frm.refl, fun i hi => by omega⟩, ?_⟩
  intro wl z s hs
  obtain ⟨rfl, j, rfl, hj, hf, hno⟩ := (hI _ _ _).1 hs
  simp only [op_lss, Br_dec]
  refine ⟨fun hlt => ?_, fun hge => ?_⟩
  · have hlt' : j < es.length := by omega
    have hb' := hf.get hb id
    obtain ⟨cur, hcur, hk⟩ := key_cell (hg.frame hf fun h => h)
    have hk' := (hk j hlt').1
    simp [-getElem?_pos, -Array.getElem?_eq_getElem, ptr, add_spot, hb', hcur, hk', hH.nilE, and_assoc]
    refine ⟨by omega, hH.eqv fun w' hf' => ?_⟩
    simp only [Br_dec]
    refine ⟨fun he => ?_, fun hne => ?_⟩
    · have := hK w' (Frm.no hf (Frm.dr hf'))
      rw [look_find, find_at hlt' (fun i hi => hno i hi (by omega)) he] at this
      simp only [Option.bind_some, List.getElem?_eq_getElem hlt', Option.map_some] at this
      have hf2 := Frm.no hf (Frm.dr hf')
      have hb2 := hf2.get hb id
      obtain ⟨cur2, hcur2, hk2⟩ := key_cell (hg.frame hf2 fun h => h)
      have hk2' := (hk2 j hlt').2
      simp [-getElem?_pos, -Array.getElem?_eq_getElem, ptr, add_spot, hb2, hcur2, hk2', and_assoc]
      exact ⟨by omega, this⟩
    · rw [wrap_i64_small (by omega) (by omega)]
      refine ⟨(hI _ _ _).2 ⟨rfl, j + 1, by simp, by omega, Frm.no hf (Frm.dr hf'), fun i hi hi' => ?_⟩, ?_⟩
      · by_cases e : i = j
        · subst e; exact hne
        · exact hno i (by omega) hi'
      · simp only [natOf]; omega
  · have := hK wl hf
    rw [look_find, show find es k = none from Nd.find_none.2 fun e he => by obtain ⟨i, hi, rfl⟩ := List.mem_iff_getElem.1 he; exact hno i (by omega) hi] at this
    exact this
theorem getV_ok {h' : Nat} {k' : Ky} {a3 s : Value} (hH : IsH hv hash) (h : Rep w (.val h' k' x) v F) (hK : ∀ w', Frm (fun _ => False) w w' → K (gotV (if k' = k then some x else none)) w') :
    (nice Tryz.prog).call (.inv v "pub-bracken/pub/immutable.get") [ek k, s, a3, hv] w K Kp := by
  obtain ⟨b, rfl, h2, hb⟩ := h
  simp only [inv_160_106]
  refine vc106_calls ?_
  simp [-getElem?_pos, -Array.getElem?_eq_getElem, vc106, ptr, add_spot, hb, hH.nilE, and_assoc]
  refine hH.eqv fun w' hf => ?_
  have hb' := (Frm.dr hf).get hb id
  have := hK w' (Frm.dr hf)
  by_cases e : k' = k
  · rw [if_pos e] at this
    simp [-getElem?_pos, -Array.getElem?_eq_getElem, e, ptr, add_spot, hb', and_assoc]
    exact this
  · rw [if_neg e] at this
    simp [e]
    exact this
theorem kid_cell {g cap : Nat} {f : Nat → Tr} {vs : Nat → Value} (h : Rw w 107 1 g cap (kids f vs)) : ∃ cur, w.heap[g]? = some (.cells cur 107 (0, 0)) ∧ ∀ i, i < 32 → f i ≠ .emp → cur[rk f i]? = some (vs i) := by
  obtain ⟨cur, h1, h2, h3⟩ := h.cells
  refine ⟨cur, h1, fun i hi hf => ?_⟩
  have hg := kids_get (vs := vs) hi hf
  rw [h3 _ (by rw [kids_len, cnt_rk]; exact rk_lt hi hf), hg]
theorem get_ok : ∀ {t : Tr} {l p s : Nat} {v : Value} {F : Nat → Prop} {K : KV} {Kp : KP} {w : World}, IsH hv hash → WF hash t l p → Rep w t v F → t ≠ .emp → s = 5 * l →
    (∀ w', Frm (fun _ => False) w w' → K (gotV (getIn (hash k) k t l)) w') → (nice Tryz.prog).call (.inv v "pub-bracken/pub/immutable.get") [ek k, .int .u64 s, .int .u32 (hash k), hv] w K Kp
  | .emp, l, p, s, v, F, K, Kp, w, hH, hW, h, hne, hs, hK => absurd rfl hne
  | .arr es, l, p, s, v, F, K, Kp, w, hH, hW, h, hne, hs, hK => hW.elim
  | .val h' k' x, l, p, s, v, F, K, Kp, w, hH, hW, h, hne, hs, hK => getV_ok hH h hK
  | .col h' es, l, p, s, v, F, K, Kp, w, hH, hW, h, hne, hs, hK => getC_ok hH h hK
  | .br false f, l, p, s, v, F, K, Kp, w, hH, hW, h, hne, hs, hK => by
    obtain ⟨b, g, cap, vs, Fs, rfl, h2, h3, h4, h5, h6, h7, h8, h9⟩ := h
    obtain ⟨hl, hWs, _⟩ := hW
    have hi := frag_lt l (hash k)
    have hfr := frag_eq (hH.lt k) hs hl
    rw [getIn] at hK
    generalize frag l (hash k) = i at *
    simp only [inv_184_128]
    refine vc128_calls ?_
    have hbit := bit_eq hi
    have hand := and_u32 (bm_lt (f := f)) (two_pow_lt hi)
    have hless := bit_less hi
    have hpos := Nat.pow_pos (n := i) (show 0 < 2 by decide)
    have hbel := and_u32 (bm_lt (f := f)) (b := 2 ^ i - 1) (by have := two_pow_lt hi; omega)
    have hz := bm_and_zero (f := f) i hi
    have hpop := pop_rk (f := f) (i := i) (by omega)
    have hlt2 : bm f &&& (2 ^ i - 1) < 2 ^ 32 := Nat.lt_of_le_of_lt Nat.and_le_left bm_lt
    generalize hB : bm f &&& 2 ^ i = B at *
    generalize hC : bm f &&& (2 ^ i - 1) = C at *
    have hns := next_shift hs hl
    generalize (2 : Nat) ^ i = y at *
    generalize bm f = z at *
    simp [-getElem?_pos, -Array.getElem?_eq_getElem, -Int.natCast_add, vc128, ptr, add_spot, h5, hfr, hbit, hand, Br_dec, and_assoc]
    refine ⟨fun h0 => ?_, fun h0 => ?_⟩
    · have := hK _ Frm.refl
      rw [hz.1 h0] at this
      exact this
    · have hne : f i ≠ .emp := fun e => h0 (hz.2 e)
      rw [hless, hbel]
      refine pop_ok hlt2 fun w' hf => ?_
      rw [hpop]
      have h5' := (Frm.dr hf).get h5 id
      obtain ⟨cur, hcur, hk⟩ := kid_cell (h7.frame (Frm.dr hf) fun h => h)
      have hk' := hk i hi hne
      have hr := (h8 i hi).still (Frm.dr hf)
      have hrl := rk_lt (f := f) hi hne
      rw [← cnt_rk] at hrl
      simp [-getElem?_pos, -Array.getElem?_eq_getElem, -Int.natCast_add, ptr, add_spot, h5', hcur, hk', hns, hrl, and_assoc]
      refine get_ok hH (hWs i hi) hr hne (by omega) fun w'' hf' => ?_
      have := hK w'' (Frm.no (Frm.dr hf) hf')
      cases hx : getIn (hash k) k (f i) (l + 1) with
      | none => rw [hx] at this; simpa [gotV] using this
      | some x => rw [hx] at this; simpa [gotV] using this
  | .br true f, l, p, s, v, F, K, Kp, w, hH, hW, h, hne, hs, hK => by
    obtain ⟨b, cs, vs, Fs, rfl, h2, h3, h4, h5, h6, h7, h8⟩ := h
    obtain ⟨hl, hWs, _⟩ := hW
    have hi := frag_lt l (hash k)
    have hfr := frag_eq (hH.lt k) hs hl
    rw [getIn] at hK
    generalize frag l (hash k) = i at *
    have hc := h6 i hi
    have hns := next_shift hs hl
    simp only [inv_188_132]
    refine vc132_calls ?_
    simp [-getElem?_pos, -Array.getElem?_eq_getElem, -Int.natCast_add, vc132, ptr, add_spot, h3, hfr, Nat.add_comm 1, hc, Br_dec, and_assoc]
    refine ⟨by omega, ?_⟩
    by_cases he : f i = .emp
    · have hv : vs i = .nilIface := by have := h7 i hi; rw [he] at this; exact this.nil
      have := hK _ Frm.refl
      rw [he] at this
      rw [hv]
      simp
      exact this
    · obtain ⟨u, c, hv⟩ := (h7 i hi).iface he
      have hr := h7 i hi
      rw [hv] at hr ⊢
      simp [-Int.natCast_add, hns]
      refine get_ok hH (hWs i hi) hr he (by omega) fun w'' hf' => ?_
      have := hK w'' hf'
      cases hx : getIn (hash k) k (f i) (l + 1) with
      | none => rw [hx] at this; simpa [gotV] using this
      | some x => rw [hx] at this; simpa [gotV] using this
theorem root_get_ok (hH : IsH hv hash) (hW : WFr hash t) (h : Rep w t v F) (hne : t ≠ .emp) (hK : ∀ w', Frm (fun _ => False) w w' → K (gotV (getIn (hash k) k t 0)) w') :
    (nice Tryz.prog).call (.inv v "pub-bracken/pub/immutable.get") [ek k, .int .u64 0, .int .u32 (hash k), hv] w K Kp := by
  cases t with
  | arr es => exact getA_ok hH h hK
  | emp => exact absurd rfl hne
  | br hs f => exact get_ok (s := 0) hH hW h hne rfl hK
  | val h' k' x => exact get_ok (s := 0) hH hW h hne rfl hK
  | col h' es => exact get_ok (s := 0) hH hW h hne rfl hK
end Go.Proofs.YtbghmbbhkoniiaaGreat.I
end
section
/- Branches of one child or of two; how long the rows are. -/
namespace Go.Vc.Nd
variable {κ ν : Type} [DecidableEq κ] {f : Nat → Nd κ ν} {i j : Nat} {t u : Nd κ ν} {α : Type} {vs : Nat → α} {v z : α}
theorem full_none (j : Nat) : full (fun _ => (emp : Nd κ ν)) j = false := rfl
theorem bm_none : bm (fun _ => (emp : Nd κ ν)) = 0 := by
  apply Nat.eq_of_testBit_eq
  intro j
  rw [bm_bit, full_none]; simp
theorem rk_none (i : Nat) : rk (fun _ => (emp : Nd κ ν)) i = 0 := by
  unfold rk
  rw [List.length_eq_zero_iff, List.filter_eq_nil_iff]
  intro a _; rw [full_none]; simp
theorem kids_none : kids (fun _ => (emp : Nd κ ν)) vs = [] := by
  have : (kids (fun _ => (emp : Nd κ ν)) vs).length = 0 := by rw [kids_len, cnt_rk, rk_none]
  exact List.eq_nil_of_length_eq_zero this
theorem bm_one (hi : i < 32) (ht : t ≠ emp) : bm (one i t) = 2 ^ i := by
  rw [one, ← bm_or hi ht, bm_none, Nat.zero_or]
theorem full_one (j : Nat) : full (one i t) j = if j = i then !t.isEmp else false := by rw [one, full_put]; rfl
theorem rk_one (hi : i < 32) (ht : t ≠ emp) (j : Nat) : rk (one i t) j = if i < j then 1 else 0 := by
  have hf : t.isEmp = false := by cases h : t.isEmp; rfl; exact absurd (isEmp_iff.1 h) ht
  induction j with
  | zero => rfl
  | succ j ih =>
    rw [rk_succ, ih, full_one]
    by_cases h : j = i
    · subst h; simp [hf]
    · simp [h]
      by_cases h2 : i < j
      · simp [h2, show i < j + 1 by omega]
      · simp [h2, show ¬ i < j + 1 by omega]
theorem cnt_one (hi : i < 32) (ht : t ≠ emp) : cnt (one i t) = 1 := by rw [cnt_rk, rk_one hi ht, if_pos hi]
theorem one_ne (h : j ≠ i) : one i t j = emp := by rw [one, put_ne h]
theorem kids_one (hi : i < 32) (ht : t ≠ emp) : kids (one i t) (putV vs i v) = [v] := by
  rw [one, kids_put hi ht, kids_none]; simp
theorem cnt_two (hi : i < 32) (hj : j < 32) (hne : i ≠ j) (ht : t ≠ emp) (hu : u ≠ emp) : cnt (put (one i t) j u) = 2 := by
  rw [cnt_add hj (one_ne (fun h => hne h.symm)) hu, cnt_one hi ht]
theorem bm_two (hi : i < 32) (hj : j < 32) (ht : t ≠ emp) (hu : u ≠ emp) : bm (put (one i t) j u) = 2 ^ i ||| 2 ^ j := by
  rw [← bm_or hj hu, bm_one hi ht]
theorem kids_two (hi : i < 32) (hj : j < 32) (hne : i ≠ j) (ht : t ≠ emp) (hu : u ≠ emp) : kids (put (one i t) j u) (putV (putV vs i v) j z) = if i < j then [v, z] else [z, v] := by
  have hf : full (one i t) j = false := by rw [full_one, if_neg (fun h => hne h.symm)]
  rw [kids_put hj hu, kids_one hi ht, rk_one hi ht, hf]
  by_cases h : i < j <;> simp [h]
theorem cnt_le : cnt f ≤ 32 := by rw [cnt_rk]; exact rk_le 32
theorem len_child {hs : Bool} (hi : i < 32) : (toL (f i)).length ≤ (toL (br hs f)).length := by
  rw [toL]
  have h := range_split hi
  rw [h, List.flatMap_append, List.flatMap_cons]
  simp; omega
end Go.Vc.Nd
end
section
/- Setting a key in a leaf; merging a leaf and a key into branches. -/
namespace Go.Proofs.YtbghmbbhkoniiaaGreat.I
open Go.Vc Go.Proofs Go.Proofs.YtbghmbbhkoniiaaGreat Go.Vc.Nd
variable {w w' : World} {v hv : Value} {t : Tr} {F F' : Nat → Prop} {K : KV} {Kp : KP} {k : Ky} {x : Vl} {l s rb : Nat} {mu : Bool}
def flag (w : World) (rb : Nat) (b : Bool) : Prop := w.heap[rb]? = some (.cells #[.bool b] 4 (0, 0))
theorem flag.frame {M : Nat → Prop} {b : Bool} (h : flag w rb b) (hf : Frm M w w') (hM : ¬ M rb) : flag w' rb b := hf.get h hM
def Sets (w : World) (mu : Bool) (F : Nat → Prop) (rb : Nat) (fl : Bool) (t' : Tr) (K : KV) : Prop :=
  ∀ v' w' F', Frm (fun b => b = rb ∨ mu = true ∧ F b) w w' → Rep w' t' v' F' → (∀ b, F' b → F b ∨ w.heap.size ≤ b) → flag w' rb fl → K v' w'
theorem Sets.still {fl : Bool} {t' : Tr} (h : Sets w mu F rb fl t' K) (k0 : Frm (fun _ => False) w w') : Sets w' mu F rb fl t' K :=
  fun v' w'' F' hf hr hF hfl => h v' w'' F' (k0.fst hf) hr (fun b hb => (hF b hb).imp id fun h => Nat.le_trans k0.size h) hfl
theorem raise_ok {b : Bool} (h : flag w rb b) (hK : ∀ w', Frm (· = rb) w w' → w'.heap.size = w.heap.size → flag w' rb true → K undef w') : (nice Tryz.prog).op (.store 4 (ptr rb) (.bool true)) w K Kp :=
  op_store_ok (by kernel_rfl) h (by simp) rfl fun w' hf hs hb => hK w' hf hs (by simpa [flag] using hb)
theorem new_val_ok {h' : Nat} (hK : ∀ b w', Frm (fun _ => False) w w' → w.heap.size ≤ b → b < w'.heap.size → Rep w' (.val h' k x) (.iface 160 (ptr b)) (fun c => c = b) → K (ptr b) w') : Calls Tryz.prog 104 #[.int .u32 h', ek k, ev x] w (ret K Kp) := by
  refine vc104_calls ?_
  simp only [vc104, op_build_162_0_1_2 (one_int (k := .u32) (n := (h' : Int))) (one_ek k) (one_ev x)]
  refine op_box_ok fun w' hf hs hb => hK _ w' hf (Nat.le_refl _) (by omega) ⟨_, rfl, rfl, by simpa using hb⟩
def leafH : Tr → Option Nat
  | .val h _ _ => some h
  | .col h _ => some h
  | _ => none
theorem khv_ok {h1 : Nat} (h : Rep w t v F) (ht : leafH t = some h1) (hK : K (.int .u32 h1) w) : (nice Tryz.prog).call (.inv v "pub-bracken/pub/immutable.keyHashValue") [] w K Kp := by
  cases t with
  | val h' k x =>
    obtain ⟨b, rfl, h2, h3⟩ := h
    obtain rfl := Option.some.inj ht
    simp only [inv_160_107]
    refine vc107_calls ?_
    simp [-getElem?_pos, -Array.getElem?_eq_getElem, -Int.natCast_add, add_spot, and_assoc, Br_dec, -op_box, -op_st_4, -op_st_22, -op_st_107, -op_st_157, -op_st_185, -op_st_156, -op_st_144, -op_st_2, -op_alloc_159, -op_alloc_156, -op_alloc_191, -op_lit_157_1, -op_lit_157_2, -op_lit_185_1, -op_lit_185_2, vc107, ptr, h3]
    exact hK
  | col h' es =>
    obtain ⟨b, g, cap, rfl, h2, h3, h4, h5, h6⟩ := h
    obtain rfl := Option.some.inj ht
    simp only [inv_163_113]
    refine vc113_calls ?_
    simp [-getElem?_pos, -Array.getElem?_eq_getElem, -Int.natCast_add, add_spot, and_assoc, Br_dec, -op_box, -op_st_4, -op_st_22, -op_st_107, -op_st_157, -op_st_185, -op_st_156, -op_st_144, -op_st_2, -op_alloc_159, -op_alloc_156, -op_alloc_191, -op_lit_157_1, -op_lit_157_2, -op_lit_185_1, -op_lit_185_2, vc113, ptr, h5]
    exact hK
  | _ => cases ht
theorem leaf_ne {h1 : Nat} (ht : leafH t = some h1) : t ≠ .emp := by intro e; subst e; cases ht
def Kin (w : World) (f : Nat → Tr) (vs : Nat → Value) (Fs : Nat → Nat → Prop) (O : Nat → Prop) : Prop :=
  (∀ i, i < 32 → Rep w (f i) (vs i) (Fs i)) ∧ ∀ i, i < 32 → ∀ c, Fs i c → ¬ O c ∧ ∀ j, j < 32 → j ≠ i → ¬ Fs j c
theorem Kin.none {O : Nat → Prop} : Kin w (fun _ => .emp) (fun _ => .nilIface) (fun _ _ => False) O := ⟨fun _ _ => rfl, fun _ _ _ h => h.elim⟩
theorem Kin.put {f : Nat → Tr} {vs : Nat → Value} {Fs : Nat → Nat → Prop} {O O' F1 : Nat → Prop} {i : Nat} (h : Kin w f vs Fs O) (hk : ∀ j, j < 32 → j ≠ i → ∀ c o, Fs j c → w.heap[c]? = some o → w'.heap[c]? = some o)
    (hr : Rep w' t v F1) (ha : ∀ c, F1 c → ∀ j, j < 32 → j ≠ i → ¬ Fs j c) (h1 : ∀ c, F1 c → ¬ O' c) (h2 : ∀ j, j < 32 → j ≠ i → ∀ c, Fs j c → ¬ O' c) :
    Kin w' (Nd.put f i t) (putV vs i v) (fun j => if j = i then F1 else Fs j) O' := by
  refine ⟨fun j hj => ?_, fun j hj c hc => ?_⟩
  · by_cases e : j = i
    · subst e; rw [Nd.put_same]; simpa [putV] using hr
    · rw [Nd.put_ne e]; simp only [putV, if_neg e]; exact (h.1 j hj).mono (fun _ h => h) fun b o hb => hk j hj e b o hb
  · by_cases e : j = i
    · simp only [if_pos e] at hc
      refine ⟨h1 c hc, fun k hk hne hkc => ?_⟩
      simp only [if_neg (show ¬ k = i by omega)] at hkc
      exact ha c hc k hk (by omega) hkc
    · simp only [if_neg e] at hc
      refine ⟨h2 j hj e c hc, fun k hk hne hkc => ?_⟩
      by_cases e' : k = i
      · simp only [if_pos e'] at hkc; exact ha c hkc j hj e hc
      · simp only [if_neg e'] at hkc; exact (h.2 j hj c hc).2 k hk hne hkc
theorem Kin.lt {f : Nat → Tr} {vs : Nat → Value} {Fs : Nat → Nat → Prop} {O : Nat → Prop} (h : Kin w f vs Fs O) : Kin w f vs (fun i c => Fs i c ∧ c < w.heap.size) O :=
  ⟨fun i hi => (h.1 i hi).lt, fun i hi c hc => ⟨(h.2 i hi c hc.1).1, fun j hj hne hc' => (h.2 i hi c hc.1).2 j hj hne hc'.1⟩⟩
theorem Rep.mkB {f : Nat → Tr} {vs : Nat → Value} {Fs : Nat → Nat → Prop} {b g cap : Nat} (hn : g ≠ b) (hb : w.heap[b]? = some (.cells #[.int .u32 (bm f), .slice (some ⟨g, 0, none⟩) (Nd.cnt f) cap] 187 (0, 0))) (hc : Nd.cnt f ≤ cap) (hg : Rw w 107 1 g cap (kids f vs))
    (h : Kin w f vs Fs (fun c => c = b ∨ c = g)) : Rep w (.br false f) (.iface 184 (ptr b)) (fun c => c = b ∨ c = g ∨ ∃ i, i < 32 ∧ Fs i c) :=
  ⟨b, g, cap, vs, Fs, rfl, .inl rfl, .inr (.inl rfl), hn, hb, hc, hg, h.1, fun i hi c hc => ⟨.inr (.inr ⟨i, hi, hc⟩), fun e => (h.2 i hi c hc).1 (.inl e), fun e => (h.2 i hi c hc).1 (.inr e), (h.2 i hi c hc).2⟩⟩
theorem Rep.mkH {f : Nat → Tr} {vs : Nat → Value} {Fs : Nat → Nat → Prop} {b : Nat} {cs : Array Value} (hb : w.heap[b]? = some (.cells cs 191 (0, 0))) (hz : cs.size = 33) (h0 : cs[0]? = some (.int .u64 (Nd.cnt f))) (hv : ∀ i, i < 32 → cs[i + 1]? = some (vs i))
    (h : Kin w f vs Fs (fun c => c = b)) : Rep w (.br true f) (.iface 188 (ptr b)) (fun c => c = b ∨ ∃ i, i < 32 ∧ Fs i c) :=
  ⟨b, cs, vs, Fs, rfl, .inl rfl, hb, hz, h0, hv, h.1, fun i hi c hc => ⟨.inr ⟨i, hi, hc⟩, (h.2 i hi c hc).1, (h.2 i hi c hc).2⟩⟩
theorem merge_ne {n l h1 h2 : Nat} {t : Tr} (l1 : h1 < 2 ^ 32) (l2 : h2 < 2 ^ 32) (hne : h1 ≠ h2) (hp : h1 % 32 ^ l = h2 % 32 ^ l) (hn : n + l = 7) : merge t h1 h2 k x n l ≠ .emp := by
  cases n with
  | zero =>
    obtain rfl : l = 7 := by omega
    rw [Nat.mod_eq_of_lt (by omega), Nat.mod_eq_of_lt (by omega)] at hp
    exact absurd hp hne
  | succ n => rw [merge]; split <;> simp
theorem merge_ok : ∀ (n : Nat) {l s h1 h2 p : Nat} {t : Tr} {v : Value} {F : Nat → Prop} {K : KV} {Kp : KP} {w : World}, Rep w t v F → leafH t = some h1 → h1 < 2 ^ 32 → h2 < 2 ^ 32 → h1 ≠ h2 → h1 % 32 ^ l = h2 % 32 ^ l → n + l = 7 → s = 5 * l →
    (∀ v' w' F', Frm (fun _ => False) w w' → Rep w' (merge t h1 h2 k x n l) v' F' → (∀ b, F' b → F b ∨ w.heap.size ≤ b) → K v' w') → Calls Tryz.prog 109 #[v, .int .u64 s, .int .u32 h2, ek k, ev x] w (ret K Kp)
  | 0, l, s, h1, h2, p, t, v, F, K, Kp, w, hr, ht, l1, l2, hne, hp, hn, hs, hK => by
    obtain rfl : l = 7 := by omega
    rw [Nat.mod_eq_of_lt (by omega), Nat.mod_eq_of_lt (by omega)] at hp
    exact absurd hp hne
  | n + 1, l, s, h1, h2, p, t, v, F, K, Kp, w, hr, ht, l1, l2, hne, hp, hn, hs, hK => by
    have hl : l ≤ 6 := by omega
    have hi1 := frag_lt l h1
    have hi2 := frag_lt l h2
    have hf1 := frag_eq l1 hs hl
    have hf2 := frag_eq l2 hs hl
    have hte := leaf_ne ht
    have hns := next_shift hs hl
    have hb1 := bit_eq hi1
    have hb2 := bit_eq hi2
    have hor := or_u32 (two_pow_lt hi1) (two_pow_lt hi2)
    have hfe : (frag l h1 : Int) = (frag l h2 : Int) ↔ frag l h1 = frag l h2 := by omega
    have hnx1 := mod_next l h1
    have hnx2 := mod_next l h2
    have hbm1 := bm_one (t := t) hi1 hte
    have hbm2 := bm_two (t := t) (u := Nd.val h2 k x) hi1 hi2 hte (by simp)
    have hbm3 : ∀ u : Tr, u ≠ .emp → frag l h1 = frag l h2 → bm (Nd.one (frag l h1) u) = 2 ^ frag l h1 ||| 2 ^ frag l h2 := fun u hu e => by rw [bm_one hi1 hu, ← e, Nat.or_self]
    generalize hi1e : frag l h1 = i1 at *
    generalize hi2e : frag l h2 = i2 at *
    generalize hB : 2 ^ i1 ||| 2 ^ i2 = B at *
    generalize 2 ^ i1 = y1 at *
    generalize 2 ^ i2 = y2 at *
    have h1' := Rep.one hr
    obtain ⟨u, bv, hv⟩ := hr.iface hte
    rw [merge, hi1e, hi2e] at hK
    refine vc109_calls ?_
    simp only [vc109]
    refine khv_ok hr ht ?_
    simp [-getElem?_pos, -Array.getElem?_eq_getElem, -Int.natCast_add, add_spot, and_assoc, Br_dec, -op_box, -op_st_4, -op_st_22, -op_st_107, -op_st_157, -op_st_185, -op_st_156, -op_st_144, -op_st_2, -op_alloc_159, -op_alloc_156, -op_alloc_191, -op_lit_157_1, -op_lit_157_2, -op_lit_185_1, -op_lit_185_2, hf1, hf2, hb1, hb2, hor, hns, hfe]
    refine op_box_ok fun w1 k1 z1 b1 => ?_
    simp only [cells_agg] at b1
    refine ⟨fun e => ?_, fun e => ?_⟩
    · rw [if_pos e] at hK
      have hr1 := hr.lt.still k1
      refine merge_ok n (p := p) hr1 ht l1 l2 hne (by rw [hnx1, hnx2, hp, e]) (by omega) (by omega) fun v' w2 F'' k2 r2' f2' => ?_
      obtain ⟨F', hF', r2, f2, hlt2⟩ : ∃ F' : Nat → Prop, F' = (fun c => F'' c ∧ c < w2.heap.size) ∧ Rep w2 (merge t h1 h2 k x n (l + 1)) v' F' ∧ (∀ b, F' b → F b ∧ b < w.heap.size ∨ w1.heap.size ≤ b) ∧ ∀ b, F' b → b < w2.heap.size := ⟨_, rfl, r2'.lt, fun b hb => f2' b hb.1, fun b hb => hb.2⟩
      have hme : merge t h1 h2 k x n (l + 1) ≠ .emp := merge_ne l1 l2 hne (by rw [hnx1, hnx2, hp, e]) (by omega)
      refine op_lit_ok (lit_185_1 r2.one) fun w3 k3 z3 b3 => ?_
      simp [-getElem?_pos, -Array.getElem?_eq_getElem, -Int.natCast_add, add_spot, and_assoc, Br_dec, -op_box, -op_st_4, -op_st_22, -op_st_107, -op_st_157, -op_st_185, -op_st_156, -op_st_144, -op_st_2, -op_alloc_159, -op_alloc_156, -op_alloc_191, -op_lit_157_1, -op_lit_157_2, -op_lit_185_1, -op_lit_185_2]
      have b1' := ((k1.no k2).no k3)
      refine op_store_ok (by kernel_rfl) ((k2.no k3).get b1 id) (by simp) rfl fun w4 k4 z4 b4 => ?_
      have := k2.size
      have hg : Rw w4 107 1 w2.heap.size 1 [v'] := (Rw.lit (w := w3) (n := 1) rfl (by decide) b3).frame k4 (by omega)
      have hnew : ∀ c, F' c → c < w2.heap.size ∧ c ≠ w.heap.size := fun c hc => ⟨(hlt2 c hc), fun e' => by rcases f2 c hc with h | h <;> omega⟩
      have hkin := (Kin.none (w := w4) (O := fun _ => False)).put (w' := w4) (t := merge t h1 h2 k x n (l + 1)) (v := v') (F1 := F') (O' := fun c => c = w.heap.size ∨ c = w2.heap.size) (i := i1) (fun _ _ _ _ _ h => h.elim)
        ((r2.still k3).frame k4 (fun b hb => (hnew b hb).2)) (fun _ _ _ _ _ h => h) (fun c hc h => by have := hnew c hc; omega) (fun _ _ _ _ h => h.elim)
      refine hK _ w4 _ (((k1.no k2).no k3).old k4 fun b e => .inr (by omega)) (Rep.mkB (cap := 1) (f := Nd.one i1 (merge t h1 h2 k x n (l + 1))) (by omega) (by simpa [cnt_one hi1 hme, hbm3 _ hme e] using b4) (by rw [cnt_one hi1 hme]; omega) (by rw [kids_one hi1 hme]; exact hg) hkin) ?_
      rintro c (rfl | rfl | ⟨i, hi, hc⟩)
      · exact .inr (by omega)
      · exact .inr (by omega)
      · by_cases ei : i = i1
        · simp only [if_pos ei] at hc
          rcases f2 c hc with h | h
          · exact .inl h.1
          · exact .inr (by omega)
        · simp only [if_neg ei] at hc
    · rw [if_neg e] at hK
      refine new_val_ok (x := x) fun bv w2 k2 lv lv2 r2 => ?_
      have hr2 := (hr.lt.still k1).still k2
      have hval : (Value.iface 160 (ptr bv)).oneCell' = true := rfl
      have fin : ∀ w3, ∀ ks : List Value, ks = (if i1 < i2 then [v, .iface 160 (ptr bv)] else [.iface 160 (ptr bv), v]) → Frm (fun _ => False) w2 w3 → w3.heap.size = w2.heap.size + 1 → w3.heap[w2.heap.size]? = some (.cells ks.toArray 107 (0, 0)) →
          (nice Tryz.prog).op (.store 185 (.pointer (some ⟨w.heap.size, 1, none⟩)) (.slice (some ⟨w2.heap.size, 0, none⟩) 2 2)) w3 (fun _ wz => K (.iface 184 (ptr w.heap.size)) wz) Kp := fun w3 ks hks k3 z3 b3 => by
        refine op_store_ok (by kernel_rfl) ((k2.no k3).get b1 id) (by simp) rfl fun w4 k4 z4 b4 => ?_
        have hlen : ks.length = 2 * 1 := by rw [hks]; split <;> rfl
        have hg : Rw w4 107 1 w2.heap.size 2 ks := (Rw.lit (w := w3) (n := 2) hlen (by decide) b3).frame k4 (by omega)
        have hv1 : Nd.val h2 k x ≠ .emp := by simp
        have hk1 := (Kin.none (w := w4) (O := fun _ => False)).put (w' := w4) (t := t) (v := v) (F1 := fun b => F b ∧ b < w.heap.size) (O' := fun c => c = w.heap.size ∨ c = w2.heap.size) (i := i1) (fun _ _ _ _ _ h => h.elim)
          ((hr2.still k3).frame k4 (fun b hb => by omega)) (fun _ _ _ _ _ h => h) (fun c hc h => by omega) (fun _ _ _ _ h => h.elim)
        have hk2 := hk1.put (w' := w4) (t := Nd.val h2 k x) (v := .iface 160 (ptr bv)) (F1 := fun b => b = bv) (O' := fun c => c = w.heap.size ∨ c = w2.heap.size) (i := i2) (fun _ _ _ _ _ _ h => h)
          ((r2.still k3).frame k4 (fun b hb => by omega)) (fun c hc j hj hne h => by
            by_cases ej : j = i1
            · simp only [if_pos ej] at h; omega
            · simp only [if_neg ej] at h) (fun c hc h => by omega) (fun j hj hne c h => by
            by_cases ej : j = i1
            · simp only [if_pos ej] at h; omega
            · simp only [if_neg ej] at h)
        refine hK _ w4 _ (((k1.no k2).no k3).old k4 fun b e => .inr (by omega)) (Rep.mkB (cap := 2) (f := Nd.put (Nd.one i1 t) i2 (Nd.val h2 k x)) (by omega) (by simpa [cnt_two hi1 hi2 e hte hv1, hbm2] using b4) (by rw [cnt_two hi1 hi2 e hte hv1]; omega) (by rw [kids_two hi1 hi2 e hte hv1, ← hks]; exact hg) hk2) ?_
        rintro c (rfl | rfl | ⟨i, hi, hc⟩)
        · exact .inr (by omega)
        · exact .inr (by omega)
        · by_cases ei : i = i2
          · simp only [if_pos ei] at hc; exact .inr (by omega)
          · simp only [if_neg ei] at hc
            by_cases ei' : i = i1
            · simp only [if_pos ei'] at hc; exact .inl hc.1
            · simp only [if_neg ei'] at hc
      refine ⟨fun hlt => ?_, fun hle => ?_⟩
      · refine op_lit_ok (lit_185_2 h1' hval) fun w3 k3 z3 b3 => ?_
        simp [-getElem?_pos, -Array.getElem?_eq_getElem, -Int.natCast_add, add_spot, and_assoc, Br_dec, -op_box, -op_st_4, -op_st_22, -op_st_107, -op_st_157, -op_st_185, -op_st_156, -op_st_144, -op_st_2, -op_alloc_159, -op_alloc_156, -op_alloc_191, -op_lit_157_1, -op_lit_157_2, -op_lit_185_1, -op_lit_185_2]
        exact fin w3 [v, .iface 160 (ptr bv)] (by rw [if_pos hlt]) k3 z3 b3
      · refine op_lit_ok (lit_185_2 hval h1') fun w3 k3 z3 b3 => ?_
        simp [-getElem?_pos, -Array.getElem?_eq_getElem, -Int.natCast_add, add_spot, and_assoc, Br_dec, -op_box, -op_st_4, -op_st_22, -op_st_107, -op_st_157, -op_st_185, -op_st_156, -op_st_144, -op_st_2, -op_alloc_159, -op_alloc_156, -op_alloc_191, -op_lit_157_1, -op_lit_157_2, -op_lit_185_1, -op_lit_185_2]
        exact fin w3 [.iface 160 (ptr bv), v] (by rw [if_neg (by omega)]) k3 z3 b3
end Go.Proofs.YtbghmbbhkoniiaaGreat.I
end
section
/- Setting a key in a leaf. -/
namespace Go.Proofs.YtbghmbbhkoniiaaGreat.I
open Go.Vc Go.Proofs Go.Proofs.YtbghmbbhkoniiaaGreat Go.Vc.Nd
variable {w w' : World} {v hv : Value} {t : Tr} {F F' : Nat → Prop} {K : KV} {Kp : KP} {hash : Ky → Nat} {k : Ky} {x : Vl} {l s rb : Nat} {r0 mu : Bool}
theorem WF.hash_lt (hH : IsH hv hash) {h1 p : Nat} (hW : WF hash t l p) (ht : leafH t = some h1) : h1 < 2 ^ 32 ∧ h1 % 32 ^ l = p := by
  cases t with
  | val h' k x => obtain rfl := Option.some.inj ht; exact ⟨by rw [hW.1]; exact hH.lt _, hW.2⟩
  | col h' es =>
    obtain rfl := Option.some.inj ht
    obtain ⟨h1, h2, h3, h4⟩ := hW
    cases es with
    | nil => simp at h1
    | cons e es => exact ⟨by rw [← h3 e (by simp)]; exact hH.lt _, h4⟩
  | _ => cases ht
/-! ### rows of entries -/
theorem ents_take (es : List (Ky × Vl)) (i : Nat) : (ents es).take (i * 2) = ents (es.take i) := by
  induction es generalizing i with
  | nil => simp [ents]
  | cons e es ih =>
    cases i with
    | zero => simp [ents]
    | succ i =>
      have h : ents (e :: es) = ent e ++ ents es := rfl
      have h' : ents (List.take (i + 1) (e :: es)) = ent e ++ ents (es.take i) := rfl
      rw [h, h', ← ih, Nat.add_mul, Nat.one_mul, Nat.add_comm (i * 2), show (ent e ++ ents es).take (2 + i * 2) = ent e ++ (ents es).take (i * 2) from by rw [← ent_len e, List.take_length_add_append]]
theorem ents_drop (es : List (Ky × Vl)) (i : Nat) : (ents es).drop (i * 2) = ents (es.drop i) := by
  induction es generalizing i with
  | nil => simp [ents]
  | cons e es ih =>
    cases i with
    | zero => simp [ents]
    | succ i =>
      have h : ents (e :: es) = ent e ++ ents es := rfl
      rw [h, Nat.add_mul, Nat.one_mul, Nat.add_comm (i * 2), show (ent e ++ ents es).drop (2 + i * 2) = (ents es).drop (i * 2) from by rw [← ent_len e, List.drop_length_add_append], ih]; rfl
theorem ents_append (es es' : List (Ky × Vl)) : ents (es ++ es') = ents es ++ ents es' := by simp [ents]
theorem ents_set {es : List (Ky × Vl)} {i : Nat} (hi : i < es.length) (e : Ky × Vl) : lw (ents es) (i * 2) (ent e) = ents (es.set i e) := by
  rw [List.set_eq_take_append_cons_drop, if_pos hi, ents_append, lw, ents_take, ent_len, show i * 2 + 2 = (i + 1) * 2 from by omega, ents_drop]
  simp [ents]
theorem ents_set_at {es : List (Ky × Vl)} {i o : Nat} {e : Ky × Vl} {l : List Value} (hi : i < es.length) (ho : o = i * 2) (hl : l = ent e) : lw (ents es) o l = ents (es.set i e) := by
  rw [ho, hl, ents_set hi]
theorem ents_snoc_at {es : List (Ky × Vl)} {o : Nat} {zs l : List Value} {e : Ky × Vl} (hz : zs.length = 2) (ho : o = es.length * 2) (hl : l = ent e) : lw (ents es ++ zs) o l = ents (es ++ [e]) := by
  have h : lw (ents es ++ zs) (ents es).length (ent e) = ents es ++ ent e := by
    have : zs.length = (ent e).length := by rw [hz, ent_len]
    rw [lw, List.take_left, List.append_assoc, List.drop_append, show (ents es).length + (ent e).length - (ents es).length = (ent e).length from by omega, ← this, List.drop_length, List.drop_of_length_le (by omega)]; simp
  rw [ho, hl, ← ents_len, h, ents_append]; simp [ents]
theorem Rw_to {w : World} {e s g cap : Nat} {xs ys : List Value} (h : Rw w e s g cap xs) (he : xs = ys) : Rw w e s g cap ys := he ▸ h
theorem lw_all {zs l : List Value} (h : zs.length = l.length) : lw zs 0 l = l := by simp [lw, ← h]
theorem lw_first {zs l : List Value} : lw zs 0 l = l ++ zs.drop l.length := by simp [lw]
theorem meet_ok {h1 p : Nat} {t : Tr} (hH : IsH hv hash) (hW : WF hash t l p) (hp : hash k % 32 ^ l = p) (hl : l ≤ 7) (hs : s = 5 * l) (h : Rep w t v F) (ht : leafH t = some h1) (hne : h1 ≠ hash k)
    (hK : ∀ v' w' F', Frm (fun _ => False) w w' → Rep w' (merge t h1 (hash k) k x (7 - l) l) v' F' → (∀ b, F' b → F b ∨ w.heap.size ≤ b) → K v' w') : Calls Tryz.prog 109 #[v, .int .u64 s, .int .u32 (hash k), ek k, ev x] w (ret K Kp) :=
  merge_ok (7 - l) (p := p) h ht (WF.hash_lt hH hW ht).1 (hH.lt k) hne (by rw [(WF.hash_lt hH hW ht).2, hp]) (by omega) hs hK
theorem setV_ok {h' : Nat} {k' : Ky} {x' : Vl} {p : Nat} (hH : IsH hv hash) (hW : WF hash (.val h' k' x') l p) (hp : hash k % 32 ^ l = p) (hl : l ≤ 7) (hs : s = 5 * l) (h : Rep w (.val h' k' x') v F) (hr : flag w rb r0) (hrb : ¬ F rb)
    (hK : Sets w mu F rb (r0 || !decide (k' = k)) (setIn (hash k) k x (.val h' k' x') l) K) :
    (nice Tryz.prog).call (.inv v "pub-bracken/pub/immutable.set") [ek k, ev x, .int .u64 s, .int .u32 (hash k), hv, .bool mu, ptr rb] w K Kp := by
  have h0 := h
  obtain ⟨b, rfl, h2, h3⟩ := h
  simp only [inv_160_108]
  refine vc108_calls ?_
  simp [-getElem?_pos, -Array.getElem?_eq_getElem, -Int.natCast_add, add_spot, and_assoc, Br_dec, -op_box, -op_st_4, -op_st_22, -op_st_107, -op_st_157, -op_st_185, -op_st_156, -op_st_144, -op_st_2, -op_alloc_159, -op_alloc_156, -op_alloc_191, -op_lit_157_1, -op_lit_157_2, -op_lit_185_1, -op_lit_185_2, vc108, ptr, h3, hH.nilE]
  refine hH.eqv fun w1 k1 => ?_
  have k1 := Frm.dr k1
  have h3' := k1.get h3 id
  have hr' := hr.frame k1 id
  have hne : b ≠ rb := fun e => hrb (e ▸ h2)
  rw [Sets, setIn] at hK
  by_cases hk : k' = k
  · rw [if_pos hk] at hK
    cases mu with
    | true =>
      simp [-getElem?_pos, -Array.getElem?_eq_getElem, -Int.natCast_add, add_spot, and_assoc, Br_dec, -op_box, -op_st_4, -op_st_22, -op_st_107, -op_st_157, -op_st_185, -op_st_156, -op_st_144, -op_st_2, -op_alloc_159, -op_alloc_156, -op_alloc_191, -op_lit_157_1, -op_lit_157_2, -op_lit_185_1, -op_lit_185_2, hk]
      refine op_store_ok (by kernel_rfl) h3' (by simp) (one_ev x) fun w2 k2 z2 b2 => ?_
      refine hK _ w2 F ((k1.fst k2).to fun c hc => hc ▸ .inr ⟨rfl, h2⟩) ⟨b, rfl, h2, by simpa [hk] using b2⟩ (fun _ h => .inl h) (by rw [decide_eq_true hk]; simpa using hr'.frame k2 (fun e => hne e.symm))
    | false =>
      simp [-getElem?_pos, -Array.getElem?_eq_getElem, -Int.natCast_add, add_spot, and_assoc, Br_dec, -op_box, -op_st_4, -op_st_22, -op_st_107, -op_st_157, -op_st_185, -op_st_156, -op_st_144, -op_st_2, -op_alloc_159, -op_alloc_156, -op_alloc_191, -op_lit_157_1, -op_lit_157_2, -op_lit_185_1, -op_lit_185_2, hk, h3']
      refine new_val_ok (x := x) fun bv w2 k2 lv lv2 r2 => ?_
      replace k2 : Frm (fun _ => False) w1 w2 := by first | exact k2 | exact Frm.dr k2
      replace lv : w1.heap.size ≤ bv := lv
      have := hK _ w2 _ ((k1.no k2).mono fun _ h _ => h.elim) r2 (fun c hc => .inr (by have := k1.size; omega)) (by rw [decide_eq_true hk]; simpa using hr'.frame k2 id)
      exact this
  · rw [if_neg hk] at hK
    simp [-getElem?_pos, -Array.getElem?_eq_getElem, -Int.natCast_add, add_spot, and_assoc, Br_dec, -op_box, -op_st_4, -op_st_22, -op_st_107, -op_st_157, -op_st_185, -op_st_156, -op_st_144, -op_st_2, -op_alloc_159, -op_alloc_156, -op_alloc_191, -op_lit_157_1, -op_lit_157_2, -op_lit_185_1, -op_lit_185_2, hk]
    refine raise_ok hr' fun w2 k2 z2 f2 => ?_
    have h3'' := k2.get h3' (fun e => hne e)
    by_cases hh : h' = hash k
    · have hh' : ((h' : Nat) : Int) = ((hash k : Nat) : Int) := by omega
      rw [if_pos hh] at hK
      simp [-getElem?_pos, -Array.getElem?_eq_getElem, -Int.natCast_add, add_spot, and_assoc, Br_dec, -op_box, -op_st_4, -op_st_22, -op_st_107, -op_st_157, -op_st_185, -op_st_156, -op_st_144, -op_st_2, -op_alloc_159, -op_alloc_156, -op_alloc_191, -op_lit_157_1, -op_lit_157_2, -op_lit_185_1, -op_lit_185_2, ptr, h3'', hh']
      refine op_lit_ok lit_157_2 fun w3 k3 z3 b3 => ?_
      simp [-getElem?_pos, -Array.getElem?_eq_getElem, -Int.natCast_add, add_spot, and_assoc, Br_dec, -op_box, -op_st_4, -op_st_22, -op_st_107, -op_st_157, -op_st_185, -op_st_156, -op_st_144, -op_st_2, -op_alloc_159, -op_alloc_156, -op_alloc_191, -op_lit_157_1, -op_lit_157_2, -op_lit_185_1, -op_lit_185_2]
      refine op_box_ok fun w4 k4 z4 b4 => ?_
      have k3 := Frm.dr k3
      have hg : Rw w4 156 2 w2.heap.size 2 (ents [(k', x'), (k, x)]) := (Rw.lit (w := w3) (n := 2) (by rw [ents_len]; rfl) (by decide) (by simpa [ents, ent] using b3)).frame k4 id
      have := k1.size
      refine hK _ w4 (fun c => c = w3.heap.size ∨ c = w2.heap.size) ((k1.fst (k2.old (k3.no k4) fun _ h => h.elim)).to fun c hc => .inl hc)
        ⟨w3.heap.size, w2.heap.size, 2, rfl, .inl rfl, .inr rfl, by simp at z3; omega, by simpa [hh] using b4, by simp, hg⟩ (fun c hc => .inr (by simp at z3; omega)) ?_
      rw [decide_eq_false hk]
      simpa using (f2.frame k3 id).frame k4 id
    · have hh' : ¬ ((h' : Nat) : Int) = ((hash k : Nat) : Int) := by omega
      rw [if_neg hh] at hK
      have h0' := (h0.still k1).frame k2 (fun c hc e => hrb (e ▸ hc))
      simp [-getElem?_pos, -Array.getElem?_eq_getElem, -Int.natCast_add, add_spot, and_assoc, Br_dec, -op_box, -op_st_4, -op_st_22, -op_st_107, -op_st_157, -op_st_185, -op_st_156, -op_st_144, -op_st_2, -op_alloc_159, -op_alloc_156, -op_alloc_191, -op_lit_157_1, -op_lit_157_2, -op_lit_185_1, -op_lit_185_2, ptr, h3'', hh']
      refine meet_ok (x := x) hH hW hp hl hs h0' rfl hh fun v' w3 F' k3 r3 f3 => ?_
      refine hK v' w3 F' ((k1.fst (k2.old k3 fun _ h => h.elim)).to fun c hc => .inl hc) r3 (fun c hc => (f3 c hc).imp id fun h => by have := k1.size; omega) ?_
      rw [decide_eq_false hk]
      simpa using f2.frame k3 id
theorem setC_ok {h' : Nat} {es : List (Ky × Vl)} {p : Nat} (hH : IsH hv hash) (hW : WF hash (.col h' es) l p) (hp : hash k % 32 ^ l = p) (hl : l ≤ 7) (hs : s = 5 * l) (hz : es.length ≤ 1000000) (h : Rep w (.col h' es) v F) (hr : flag w rb r0) (hrb : ¬ F rb)
    (hK : Sets w mu F rb (r0 || (!decide (h' = hash k) || (find es k).isNone)) (setIn (hash k) k x (.col h' es) l) K) :
    (nice Tryz.prog).call (.inv v "pub-bracken/pub/immutable.set") [ek k, ev x, .int .u64 s, .int .u32 (hash k), hv, .bool mu, ptr rb] w K Kp := by
  have h0 := h
  obtain ⟨b, g, cap, rfl, h2, h3, h4, hb, h6, hg⟩ := h
  simp only [inv_163_114]
  refine vc114_calls ?_
  have hne : b ≠ rb := fun e => hrb (e ▸ h2)
  have hgr : g ≠ rb := fun e => hrb (e ▸ h3)
  rw [Sets, setIn] at hK
  by_cases hh : h' = hash k
  · have hh' : ((h' : Nat) : Int) = ((hash k : Nat) : Int) := by omega
    rw [if_pos hh] at hK
    rw [decide_eq_true hh] at hK
    cases mu with
    | true =>
      simp [-getElem?_pos, -Array.getElem?_eq_getElem, -Int.natCast_add, add_spot, and_assoc, Br_dec, -op_box, -op_st_4, -op_st_22, -op_st_107, -op_st_157, -op_st_185, -op_st_156, -op_st_144, -op_st_2, -op_alloc_159, -op_alloc_156, -op_alloc_191, -op_lit_157_1, -op_lit_157_2, -op_lit_185_1, -op_lit_185_2, vc114, ptr, hb, hh']
      refine indexC_ok hH hb hg h6 fun w1 k1 => ?_
      have hb1 := k1.get hb id
      have hg1 := hg.frame k1 id
      have hr1 := hr.frame k1 id
      cases hx : find es k with
      | none =>
        rw [hx] at hK
        simp [-getElem?_pos, -Array.getElem?_eq_getElem, -Int.natCast_add, add_spot, and_assoc, Br_dec, -op_box, -op_st_4, -op_st_22, -op_st_107, -op_st_157, -op_st_185, -op_st_156, -op_st_144, -op_st_2, -op_alloc_159, -op_alloc_156, -op_alloc_191, -op_lit_157_1, -op_lit_157_2, -op_lit_185_1, -op_lit_185_2, idxV]
        refine raise_ok hr1 fun w2 k2 z2 f2 => ?_
        have hb2 := k2.get hb1 hne
        have hg2 := hg1.frame k2 hgr
        simp [-getElem?_pos, -Array.getElem?_eq_getElem, -Int.natCast_add, add_spot, and_assoc, Br_dec, -op_box, -op_st_4, -op_st_22, -op_st_107, -op_st_157, -op_st_185, -op_st_156, -op_st_144, -op_st_2, -op_alloc_159, -op_alloc_156, -op_alloc_191, -op_lit_157_1, -op_lit_157_2, -op_lit_185_1, -op_lit_185_2, hb2]
        refine op_lit_ok lit_157_1 fun w3 k3 z3 b3 => ?_
        have hg3 := hg2.frame k3 id
        have hq : Rw w3 156 2 w2.heap.size 1 (ent (k, x)) := Rw.lit (n := 1) (ent_len _) (by decide) (by simpa [ent] using b3)
        refine op_appendR (m := 1) (apE) hg3 (ents_len es) h6 hq (by rw [ent_len]) (fun u hu => ents_one (es := [(k, x)]) u (by simpa [ents] using hu)) (by omega) (by omega) fun w4 g' cap' k4 hg4 hc4 hgg => ?_
        have hb3 := (k3.get hb2 id)
        have hb4 := k4.get hb3 (fun e => h4 e.symm)
        refine op_store_ok (by kernel_rfl) hb4 (by simp) rfl fun w5 k5 z5 b5 => ?_
        have hgb : g' ≠ b := by
          rcases hgg with rfl | rfl
          · exact h4
          · have := lt_of_get hb3; omega
        have hg5 := hg4.frame k5 hgb
        have hrg : g' ≠ rb := by
          rcases hgg with rfl | rfl
          · exact hgr
          · have := lt_of_get (f2.frame k3 id); omega
        have f5 := ((f2.frame k3 id).frame k4 (fun e => hgr e.symm)).frame k5 (fun e => hne e.symm)
        refine hK _ w5 (fun c => c = b ∨ c = g') ((k1.fst ((k2.tr (k3.fst k4)).tr k5)).to fun c hc => ?_) ⟨b, g', cap', rfl, .inl rfl, .inr rfl, hgb, ?_, ?_, ?_⟩ (fun c hc => ?_) ?_
        · rcases hc with (hc | hc) | hc
          · exact .inl hc
          · exact .inr ⟨rfl, hc ▸ h3⟩
          · exact .inr ⟨rfl, hc ▸ h2⟩
        · simpa [upd, hx] using b5
        · simpa [upd, hx] using hc4
        · simpa [upd, hx, ents_append, ents] using hg5
        · rcases hc with rfl | rfl
          · exact .inl h2
          · rcases hgg with rfl | rfl
            · exact .inl h3
            · exact .inr (by have := k1.size; have := k3.size; omega)
        · simpa using f5
      | some i =>
        rw [hx] at hK
        obtain ⟨hi, hik, _⟩ := find_some hx
        simp [-getElem?_pos, -Array.getElem?_eq_getElem, -Int.natCast_add, add_spot, and_assoc, Br_dec, -op_box, -op_st_4, -op_st_22, -op_st_107, -op_st_157, -op_st_185, -op_st_156, -op_st_144, -op_st_2, -op_alloc_159, -op_alloc_156, -op_alloc_191, -op_lit_157_1, -op_lit_157_2, -op_lit_185_1, -op_lit_185_2, idxV, hb1, hi]
        refine op_storeRN (n := 2) (by kernel_rfl) rfl hg1 (by rw [ents_len]; omega) (fun u hu => ents_one (es := [(k, x)]) u (by simpa [ents, ent] using hu)) fun w2 k2 z2 hg2 => ?_
        have hg2 : Rw w2 156 2 g cap (ents (es.set i (k, x))) := Rw_to hg2 (ents_set_at hi (by omega) rfl)
        have hb2 := k2.get hb1 (fun e => h4 e.symm)
        refine hK _ w2 F ((k1.fst k2).to fun c hc => .inr ⟨rfl, hc ▸ h3⟩) ⟨b, g, cap, rfl, h2, h3, h4, ?_, ?_, ?_⟩ (fun _ h => .inl h) ?_
        · simpa [upd, hx, hh] using hb2
        · simpa [upd, hx] using h6
        · simpa [upd, hx] using hg2
        · simpa using hr1.frame k2 (fun e => hgr e.symm)
    | false =>
      simp [-getElem?_pos, -Array.getElem?_eq_getElem, -Int.natCast_add, add_spot, and_assoc, Br_dec, -op_box, -op_st_4, -op_st_22, -op_st_107, -op_st_157, -op_st_185, -op_st_156, -op_st_144, -op_st_2, -op_alloc_159, -op_alloc_156, -op_alloc_191, -op_lit_157_1, -op_lit_157_2, -op_lit_185_1, -op_lit_185_2, vc114, ptr, hb, hh']
      refine op_box_ok fun w1 k1 z1 b1 => ?_
      have hb1 := k1.get hb id
      have hg1 := hg.frame k1 id
      have hr1 := hr.frame k1 id
      refine indexC_ok hH hb1 hg1 h6 fun w2 k2 => ?_
      have bn2 := k2.get b1 id
      have hb2 := k2.get hb1 id
      have hg2 := hg1.frame k2 id
      have hr2 := hr1.frame k2 id
      have l1 := lt_of_get hb
      have l2 := lt_of_get hr
      have l3 := hg.lt
      have s2 := k2.size
      cases hx : find es k with
      | none =>
        rw [hx] at hK
        simp [-getElem?_pos, -Array.getElem?_eq_getElem, -Int.natCast_add, add_spot, and_assoc, Br_dec, -op_box, -op_st_4, -op_st_22, -op_st_107, -op_st_157, -op_st_185, -op_st_156, -op_st_144, -op_st_2, -op_alloc_159, -op_alloc_156, -op_alloc_191, -op_lit_157_1, -op_lit_157_2, -op_lit_185_1, -op_lit_185_2, idxV]
        refine raise_ok hr2 fun w3 k3 z3 f3 => ?_
        have bn3 := k3.get bn2 (by omega)
        have hb3 := k3.get hb2 hne
        have hg3 := hg2.frame k3 hgr
        simp [-getElem?_pos, -Array.getElem?_eq_getElem, -Int.natCast_add, add_spot, and_assoc, Br_dec, -op_box, -op_st_4, -op_st_22, -op_st_107, -op_st_157, -op_st_185, -op_st_156, -op_st_144, -op_st_2, -op_alloc_159, -op_alloc_156, -op_alloc_191, -op_lit_157_1, -op_lit_157_2, -op_lit_185_1, -op_lit_185_2, hb3, wrap_i64_small (n := (es.length : Int) + 1) (by omega) (by omega)]
        refine op_make_ok (n := es.length + 1) apE (by omega) (by omega) fun w4 zs k4 z4 hzs q4 => ?_
        have bn4 := k4.get bn3 id
        have hb4 := k4.get hb3 id
        have hg4 := hg3.frame k4 id
        have f4 := f3.frame k4 id
        refine op_store_ok (by kernel_rfl) bn4 (by simp) rfl fun w5 k5 z5 bn5 => ?_
        have hb5 := k5.get hb4 (by omega)
        have hg5 := hg4.frame k5 (by omega)
        have f5 := f4.frame k5 (by omega)
        have q5 := q4.frame k5 (by omega)
        simp only [cells_agg] at bn5
        simp [-getElem?_pos, -Array.getElem?_eq_getElem, -Int.natCast_add, add_spot, and_assoc, Br_dec, -op_box, -op_st_4, -op_st_22, -op_st_107, -op_st_157, -op_st_185, -op_st_156, -op_st_144, -op_st_2, -op_alloc_159, -op_alloc_156, -op_alloc_191, -op_lit_157_1, -op_lit_157_2, -op_lit_185_1, -op_lit_185_2, bn5, hb5]
        refine op_copyR (n := es.length) (by kernel_rfl) q5.drew hg5.drew (by omega) (by rw [hzs]; omega) (by rw [ents_len]; omega) ents_one fun w6 k6 z6 q6 => ?_
        have k6 := Frm.dr k6
        have bn6 := k6.get bn5 (by omega)
        have f6 := f5.frame k6 (by omega)
        have hq : lw zs 0 (List.take (es.length * 2) (List.drop 0 (ents es))) = ents es ++ zs.drop (es.length * 2) := by
          rw [List.drop_zero, List.take_of_length_le (by rw [ents_len]; omega), lw_first, ents_len]
        rw [hq] at q6
        have hm1 : IntKind.i64.wrap (((es.length + 1 : Nat) : Int) - 1) = (es.length : Int) := by rw [IntKind.wrap_i64]; omega
        have hm2 : es.length < es.length + 1 := by omega
        simp [-getElem?_pos, -Array.getElem?_eq_getElem, -Int.natCast_add, add_spot, and_assoc, Br_dec, -op_box, -op_st_4, -op_st_22, -op_st_107, -op_st_157, -op_st_185, -op_st_156, -op_st_144, -op_st_2, -op_alloc_159, -op_alloc_156, -op_alloc_191, -op_lit_157_1, -op_lit_157_2, -op_lit_185_1, -op_lit_185_2, bn6, hm1]
        refine op_storeRN (n := 2) (by kernel_rfl) rfl q6.drew (by simp [ents_len, hzs] <;> omega) (fun u hu => ents_one (es := [(k, x)]) u (by simpa [ents, ent] using hu)) fun w7 k7 z7 q7 => ?_
        have k7 := Frm.dr k7
        have bn7 := k7.get bn6 (by omega)
        have f7 := f6.frame k7 (by omega)
        have q7 : Rw w7 156 2 w3.heap.size (es.length + 1) (ents (es ++ [(k, x)])) := Rw_to q7 (ents_snoc_at (by rw [List.length_drop, hzs]; omega) (by omega) rfl)
        refine hK _ w7 (fun c => c = w.heap.size ∨ c = w3.heap.size) (((k1.no k2).fst k3).old ((k4.fst (k5.tr k6)).tr k7) (fun c hc => .inr (by omega)) |>.to fun c hc => .inl hc) ⟨w.heap.size, w3.heap.size, es.length + 1, rfl, .inl rfl, .inr rfl, by omega, ?_, ?_, ?_⟩ (fun c hc => .inr (by omega)) ?_
        · simpa [upd, hx, hh] using bn7
        · simp [upd, hx]
        · simpa [upd, hx] using q7
        · simpa using f7
      | some i =>
        rw [hx] at hK
        obtain ⟨hi, hik, _⟩ := find_some hx
        simp [-getElem?_pos, -Array.getElem?_eq_getElem, -Int.natCast_add, add_spot, and_assoc, Br_dec, -op_box, -op_st_4, -op_st_22, -op_st_107, -op_st_157, -op_st_185, -op_st_156, -op_st_144, -op_st_2, -op_alloc_159, -op_alloc_156, -op_alloc_191, -op_lit_157_1, -op_lit_157_2, -op_lit_185_1, -op_lit_185_2, idxV, hb2]
        refine op_make_ok (n := es.length) apE (by omega) (by omega) fun w4 zs k4 z4 hzs q4 => ?_
        have bn4 := k4.get bn2 id
        have hb4 := k4.get hb2 id
        have hg4 := hg2.frame k4 id
        have f4 := hr2.frame k4 id
        refine op_store_ok (by kernel_rfl) bn4 (by simp) rfl fun w5 k5 z5 bn5 => ?_
        have hb5 := k5.get hb4 (by omega)
        have hg5 := hg4.frame k5 (by omega)
        have f5 := f4.frame k5 (by omega)
        have q5 := q4.frame k5 (by omega)
        simp only [cells_agg] at bn5
        simp [-getElem?_pos, -Array.getElem?_eq_getElem, -Int.natCast_add, add_spot, and_assoc, Br_dec, -op_box, -op_st_4, -op_st_22, -op_st_107, -op_st_157, -op_st_185, -op_st_156, -op_st_144, -op_st_2, -op_alloc_159, -op_alloc_156, -op_alloc_191, -op_lit_157_1, -op_lit_157_2, -op_lit_185_1, -op_lit_185_2, bn5, hb5]
        refine op_copyR (n := es.length) (by kernel_rfl) q5.drew hg5.drew (by omega) (by rw [hzs]; omega) (by rw [ents_len]; omega) ents_one fun w6 k6 z6 q6 => ?_
        have k6 := Frm.dr k6
        have bn6 := k6.get bn5 (by omega)
        have f6 := f5.frame k6 (by omega)
        have hq : lw zs 0 (List.take (es.length * 2) (List.drop 0 (ents es))) = ents es := by
          rw [List.drop_zero, List.take_of_length_le (by rw [ents_len]; omega), lw_all (by rw [hzs, ents_len])]
        rw [hq] at q6
        simp [-getElem?_pos, -Array.getElem?_eq_getElem, -Int.natCast_add, add_spot, and_assoc, Br_dec, -op_box, -op_st_4, -op_st_22, -op_st_107, -op_st_157, -op_st_185, -op_st_156, -op_st_144, -op_st_2, -op_alloc_159, -op_alloc_156, -op_alloc_191, -op_lit_157_1, -op_lit_157_2, -op_lit_185_1, -op_lit_185_2, bn6, hi]
        refine op_storeRN (n := 2) (by kernel_rfl) rfl q6 (by rw [ents_len]; omega) (fun u hu => ents_one (es := [(k, x)]) u (by simpa [ents, ent] using hu)) fun w7 k7 z7 q7 => ?_
        have bn7 := k7.get bn6 (by omega)
        have f7 := f6.frame k7 (by omega)
        have q7 : Rw w7 156 2 w2.heap.size es.length (ents (es.set i (k, x))) := Rw_to q7 (ents_set_at hi (by omega) rfl)
        refine hK _ w7 (fun c => c = w.heap.size ∨ c = w2.heap.size) ((((k1.no k2).no k4).old ((k5.tr k6).tr k7) fun c hc => .inr (by omega)).to fun c hc => hc.elim) ⟨w.heap.size, w2.heap.size, es.length, rfl, .inl rfl, .inr rfl, by omega, ?_, ?_, ?_⟩ (fun c hc => .inr (by omega)) ?_
        · simpa [upd, hx, hh] using bn7
        · simp [upd, hx]
        · simpa [upd, hx] using q7
        · simpa using f7
  · have hh' : ¬ ((h' : Nat) : Int) = ((hash k : Nat) : Int) := by omega
    rw [if_neg hh] at hK
    simp [-getElem?_pos, -Array.getElem?_eq_getElem, -Int.natCast_add, add_spot, and_assoc, Br_dec, -op_box, -op_st_4, -op_st_22, -op_st_107, -op_st_157, -op_st_185, -op_st_156, -op_st_144, -op_st_2, -op_alloc_159, -op_alloc_156, -op_alloc_191, -op_lit_157_1, -op_lit_157_2, -op_lit_185_1, -op_lit_185_2, vc114, ptr, hb, hh']
    refine raise_ok hr fun w2 k2 z2 f2 => ?_
    have h0' := h0.frame k2 (fun c hc e => hrb (e ▸ hc))
    refine meet_ok (x := x) hH hW hp hl hs h0' rfl hh fun v' w3 F' k3 r3 f3 => ?_
    refine hK v' w3 F' ((k2.old k3 fun _ h => h.elim).to fun c hc => .inl hc) r3 (fun c hc => (f3 c hc).imp id fun h => by omega) ?_
    rw [decide_eq_false hh]
    simpa using f2.frame k3 id
end Go.Proofs.YtbghmbbhkoniiaaGreat.I
end
section
/- Setting a key in a branch. -/
namespace Go.Proofs.YtbghmbbhkoniiaaGreat.I
open Go.Vc Go.Proofs Go.Proofs.YtbghmbbhkoniiaaGreat Go.Vc.Nd
variable {w : World} {v hv : Value} {t : Tr} {F F' : Nat → Prop} {K : KV} {Kp : KP} {hash : Ky → Nat} {k : Ky} {x : Vl} {l s rb : Nat} {r0 mu : Bool}
theorem kids_one_cell {f : Nat → Tr} {vs : Nat → Value} {Fs : Nat → Nat → Prop} (h : ∀ i, i < 32 → Rep w (f i) (vs i) (Fs i)) : ∀ u ∈ kids f vs, u.oneCell' = true := fun u hu => by
  obtain ⟨j, hj, rfl⟩ := List.mem_map.1 hu
  have := (List.mem_filter.1 hj).1
  exact (h j (List.mem_range.1 this)).one
theorem kids_set {f : Nat → Tr} {vs : Nat → Value} {i : Nat} (hi : i < 32) (hf : f i ≠ .emp) (ht : t ≠ .emp) : (kids f vs).set (rk f i) v = kids (Nd.put f i t) (putV vs i v) := by
  have hr := rk_lt (f := f) hi hf
  rw [kids_put hi ht, List.set_eq_take_append_cons_drop, if_pos (by rw [kids_len, cnt_rk]; exact hr), full_iff.2 hf]
  rfl
theorem kids_ins {f : Nat → Tr} {vs : Nat → Value} {i : Nat} (hi : i < 32) (hf : f i = .emp) (ht : t ≠ .emp) : (kids f vs).take (rk f i) ++ v :: (kids f vs).drop (rk f i) = kids (Nd.put f i t) (putV vs i v) := by
  rw [kids_put hi ht, full_not.2 hf]
  rfl
theorem setIn_ne (hH : IsH hv hash) {p : Nat} (hW : WF hash t l p) (hp : hash k % 32 ^ l = p) (hlt : p < 32 ^ l) (hl : l ≤ 7) : setIn (hash k) k x t l ≠ .emp := by
  intro e
  exact (setIn_spec (hash := hash) (k := k) (v := x) hH.lt t l p hW hlt hp hl).2.1 e
def SetC (hv : Value) (hash : Ky → Nat) (k : Ky) (x : Vl) (mu : Bool) (rb s : Nat) (t t' : Tr) (nw : Bool) : Prop :=
  ∀ {w : World} {v : Value} {F : Nat → Prop} {K : KV} {Kp : KP} {r0 : Bool}, Rep w t v F → flag w rb r0 → ¬ F rb → Sets w mu F rb (r0 || nw) t' K →
    (nice Tryz.prog).call (.inv v "pub-bracken/pub/immutable.set") [ek k, ev x, .int .u64 s, .int .u32 (hash k), hv, .bool mu, ptr rb] w K Kp
theorem setB_ok {f : Nat → Tr} {p i : Nat} {t' : Tr} (hH : IsH hv hash) (hl : l ≤ 6) (hs : s = 5 * l) (hi0 : frag l (hash k) = i) (ht' : t' ≠ .emp) (nw : Bool) (he : f i = .emp → t' = .val (hash k) k x ∧ nw = true)
    (child : f i ≠ .emp → SetC hv hash k x mu rb (s + 5) (f i) t' nw) : SetC hv hash k x mu rb s (.br false f) (.br ((f i).isEmp && decide (16 < Nd.cnt f)) (Nd.put f i t')) nw := by
  intro w v F K Kp r0 h hr hrb hK
  have hi := frag_lt l (hash k)
  have hfr := frag_eq (hH.lt k) hs hl
  rw [hi0] at hi hfr
  obtain ⟨b, g, cap, vs, Fs0, rfl, h2, h3, h4, hb, h6, hg, h8, h9⟩ := h
  have hF : ∀ j, j < 32 → ∀ c, Fs0 j c → F c := fun j hj c hc => (h9 j hj c hc).1
  have hkin0 : Kin w f vs Fs0 (fun c => c = b ∨ c = g) := ⟨h8, fun j hj c hc => ⟨fun e => e.elim (h9 j hj c hc).2.1 (h9 j hj c hc).2.2.1, (h9 j hj c hc).2.2.2⟩⟩
  obtain ⟨Fs, hkin, hFl⟩ : ∃ Fs : Nat → Nat → Prop, Kin w f vs Fs (fun c => c = b ∨ c = g) ∧ ∀ j, j < 32 → ∀ c, Fs j c → F c ∧ c < w.heap.size := ⟨_, hkin0.lt, fun j hj c hc => ⟨hF j hj c hc.1, hc.2⟩⟩
  clear h8 h9 hF hkin0
  simp only [inv_184_129]
  refine vc129_calls ?_
  have hbit := bit_eq hi
  have hand := and_u32 (bm_lt (f := f)) (two_pow_lt hi)
  have hor := or_u32 (bm_lt (f := f)) (two_pow_lt hi)
  have hless := bit_less hi
  have hpos := Nat.pow_pos (n := i) (show 0 < 2 by decide)
  have hbel := and_u32 (bm_lt (f := f)) (b := 2 ^ i - 1) (by have := two_pow_lt hi; omega)
  have hz := bm_and_zero (f := f) i hi
  have hpop := pop_rk (f := f) (i := i) (by omega)
  have hlt2 : bm f &&& (2 ^ i - 1) < 2 ^ 32 := Nat.lt_of_le_of_lt Nat.and_le_left bm_lt
  have hbm := bm_or (f := f) hi ht'
  have hns := next_shift hs hl
  have hne : b ≠ rb := fun e => hrb (e ▸ h2)
  have hgr : g ≠ rb := fun e => hrb (e ▸ h3)
  have l1 := lt_of_get hb
  have l2 := lt_of_get hr
  have l3 := hg.lt
  generalize hB : bm f &&& 2 ^ i = B at *
  generalize hO : bm f ||| 2 ^ i = O at *
  generalize hC : bm f &&& (2 ^ i - 1) = C at *
  have hbits : ∀ j, j < 32 → (bm f &&& 2 ^ j = 0 ↔ f j = .emp) := fun j hj => bm_and_zero (f := f) j hj
  generalize hy : (2 : Nat) ^ i = y at *
  have hzB : ((B : Int) = 0) ↔ f i = .emp := by rw [← hz]; omega
  simp [-getElem?_pos, -Array.getElem?_eq_getElem, -Int.natCast_add, add_spot, and_assoc, Br_dec, -op_box, -op_st_4, -op_st_22, -op_st_107, -op_st_157, -op_st_185, -op_st_156, -op_st_144, -op_st_2, -op_alloc_159, -op_alloc_156, -op_alloc_191, -op_lit_157_1, -op_lit_157_2, -op_lit_185_1, -op_lit_185_2, vc129, ptr, hb, hfr, hbit, hand, -Int.natCast_eq_zero, hzB]
  refine Jn.intro (fun w1 => Frm (· = rb) w w1 ∧ flag w1 rb (r0 || (f i).isEmp)) ⟨fun e => ?_, fun e => ?_, ?_⟩
  · refine raise_ok hr fun w1 k1 z1 f1 => ⟨k1, ?_⟩
    rw [e]; simpa [Nd.isEmp] using f1
  · refine ⟨Frm.refl, ?_⟩
    have : (f i).isEmp = false := by cases h : (f i).isEmp; rfl; exact absurd (isEmp_iff.1 h) e
    rw [this]; simpa using hr
  rintro w1 ⟨k1, f1⟩
  have hb1 := k1.get hb hne
  have hg1 := hg.frame k1 hgr
  have n1 := k1.size
  have hkin1 : ∀ j, j < 32 → Rep w1 (f j) (vs j) (Fs j) := fun j hj => (hkin.1 j hj).frame k1 fun c hc e => hrb (e ▸ (hFl j hj c hc).1)
  simp [-getElem?_pos, -Array.getElem?_eq_getElem, -Int.natCast_add, add_spot, and_assoc, Br_dec, -op_box, -op_st_4, -op_st_22, -op_st_107, -op_st_157, -op_st_185, -op_st_156, -op_st_144, -op_st_2, -op_alloc_159, -op_alloc_156, -op_alloc_191, -op_lit_157_1, -op_lit_157_2, -op_lit_185_1, -op_lit_185_2, hb1, hless, hbel]
  refine pop_ok hlt2 fun w2 k2 => ?_
  rw [hpop]
  have hb2 := k2.get hb1 id
  have hg2 := hg1.frame k2 id
  have f2 := f1.frame k2 id
  have n2 := k2.size
  obtain ⟨J, hJ⟩ : ∃ J : KV, ∀ nv w3, J nv w3 ↔ ∃ F1, Frm (fun c => c = rb ∨ mu = true ∧ Fs i c) w2 w3 ∧ Rep w3 t' nv F1 ∧ (∀ c, F1 c → (Fs i c ∨ w2.heap.size ≤ c) ∧ c < w3.heap.size) ∧ flag w3 rb (r0 || nw) := ⟨_, fun _ _ => Iff.rfl⟩
  refine Jn.intro J ⟨fun e => ?_, fun e => ?_, ?_⟩
  · obtain ⟨cur, hcur, hk⟩ := kid_cell hg2
    have hk' := hk i hi e
    have hrl := rk_lt (f := f) hi e
    rw [← cnt_rk] at hrl
    have he' : (f i).isEmp = false := by cases h : (f i).isEmp; rfl; exact absurd (isEmp_iff.1 h) e
    simp [-getElem?_pos, -Array.getElem?_eq_getElem, -Int.natCast_add, add_spot, and_assoc, Br_dec, -op_box, -op_st_4, -op_st_22, -op_st_107, -op_st_157, -op_st_185, -op_st_156, -op_st_144, -op_st_2, -op_alloc_159, -op_alloc_156, -op_alloc_191, -op_lit_157_1, -op_lit_157_2, -op_lit_185_1, -op_lit_185_2, hb2, hcur, hk', hns, hrl]
    refine child e ((hkin1 i hi).still k2) (r0 := r0) (by rw [he'] at f2; simpa using f2) (fun h => hrb (hFl i hi rb h).1) fun v' w3 F' k3 r3 h3' f3 => ?_
    exact (hJ _ _).2 ⟨fun c => F' c ∧ c < w3.heap.size, k3, r3.lt, fun c hc => ⟨h3' c hc.1, hc.2⟩, f3⟩
  · obtain ⟨rfl, rfl⟩ := he e
    refine new_val_ok (x := x) fun bv w3 k3 lv lv2 r3 => (hJ _ _).2 ⟨_, (k3.to fun _ h => h.elim), r3, fun c hc => ⟨.inr (by omega), by omega⟩, ?_⟩
    have : (f i).isEmp = true := by rw [e]; rfl
    rw [this] at f2
    exact f2.frame k3 id
  intro w3 nv hJnv
  obtain ⟨F1, k3, r3, hF1, f3⟩ := (hJ _ _).1 hJnv
  clear hJnv hJ J
  have n3 := k3.size
  have hbF : ¬ Fs i b := fun h => (hkin.2 i hi b h).1 (.inl rfl)
  have hgF : ¬ Fs i g := fun h => (hkin.2 i hi g h).1 (.inr rfl)
  have hb3 := k3.get hb2 (fun h => h.elim hne fun h => hbF h.2)
  have hg3 := hg2.frame k3 (fun h => h.elim hgr fun h => hgF h.2)
  have hkin3 : ∀ j, j < 32 → j ≠ i → Rep w3 (f j) (vs j) (Fs j) := fun j hj hji => ((hkin1 j hj).still k2).frame k3 fun c hc h => h.elim (fun e => hrb (e ▸ (hFl j hj c hc).1)) fun h => (hkin.2 j hj c hc).2 i hi (fun e => hji e.symm) h.2
  have hF1b : ∀ c, F1 c → c ≠ b ∧ c ≠ g := fun c hc => by
    rcases (hF1 c hc).1 with h | h
    · have := (hkin.2 i hi c h).1; exact ⟨fun e => this (.inl e), fun e => this (.inr e)⟩
    · exact ⟨by omega, by omega⟩
  have hF1d : ∀ c, F1 c → ∀ j, j < 32 → j ≠ i → ¬ Fs j c := fun c hc j hj hji hjc => by
    rcases (hF1 c hc).1 with h | h
    · exact (hkin.2 i hi c h).2 j hj hji hjc
    · have := (hFl j hj c hjc).2; omega
  have hto : ∀ {w4 : World} {M : Nat → Prop}, Frm M w3 w4 → (∀ c, M c → (mu = true ∧ (c = b ∨ c = g)) ∨ w.heap.size ≤ c) → Frm (fun c => c = rb ∨ mu = true ∧ F c) w w4 := fun {w4 M} k4 hM => by
    refine Frm.old (((k1.tr (k2.fst k3)).to fun c hc => ?_)) (k4.to (M' := fun c => (mu = true ∧ (c = b ∨ c = g)) ∨ w.heap.size ≤ c) hM) fun c hc => ?_
    · rcases hc with h | h | h
      · exact .inl h
      · exact .inl h
      · exact .inr ⟨h.1, (hFl i hi c h.2).1⟩
    · rcases hc with ⟨hm, h | h⟩ | h
      · exact .inl (.inr ⟨hm, h ▸ h2⟩)
      · exact .inl (.inr ⟨hm, h ▸ h3⟩)
      · exact .inr h
  have hkinP : ∀ {w4 : World} {M O : Nat → Prop}, Frm M w3 w4 → (∀ c, M c → c = b ∨ c = g ∨ w3.heap.size ≤ c) → (∀ c, O c → c = b ∨ c = g ∨ w3.heap.size ≤ c) → Kin w4 (Nd.put f i t') (putV vs i nv) (fun j => if j = i then F1 else Fs j) O := fun {w4 M O} k4 hM hO => by
    have hOF : ∀ j, j < 32 → ∀ c, Fs j c → ¬ O c ∧ ¬ M c := fun j hj c hc => by
      have h1 := (hkin.2 j hj c hc).1
      have h2 := (hFl j hj c hc).2
      exact ⟨fun h => by rcases hO c h with h | h | h; exact h1 (.inl h); exact h1 (.inr h); omega, fun h => by rcases hM c h with h | h | h; exact h1 (.inl h); exact h1 (.inr h); omega⟩
    have hOF1 : ∀ c, F1 c → ¬ O c ∧ ¬ M c := fun c hc => by
      have h1 := hF1b c hc
      have h2 := (hF1 c hc).2
      exact ⟨fun h => by rcases hO c h with h | h | h; exact h1.1 h; exact h1.2 h; omega, fun h => by rcases hM c h with h | h | h; exact h1.1 h; exact h1.2 h; omega⟩
    refine ⟨fun j hj => ?_, fun j hj c hc => ?_⟩
    · by_cases e : j = i
      · subst e; rw [Nd.put_same]; simpa [putV] using r3.frame k4 fun c hc => (hOF1 c hc).2
      · rw [Nd.put_ne e]; simp only [putV, if_neg e]; exact (hkin3 j hj e).frame k4 fun c hc => (hOF j hj c hc).2
    · by_cases e : j = i
      · simp only [if_pos e] at hc
        refine ⟨(hOF1 c hc).1, fun q hq hne hqc => ?_⟩
        simp only [if_neg (show ¬ q = i by omega)] at hqc
        exact hF1d c hc q hq (by omega) hqc
      · simp only [if_neg e] at hc
        refine ⟨(hOF j hj c hc).1, fun q hq hne hqc => ?_⟩
        by_cases e' : q = i
        · simp only [if_pos e'] at hqc; exact hF1d c hqc j hj e hc
        · simp only [if_neg e'] at hqc; exact (hkin.2 j hj c hc).2 q hq hne hqc
  have hFF : ∀ {O : Nat → Prop} {w4 : World}, (∀ c, O c → F c ∨ w.heap.size ≤ c) → ∀ c, (O c ∨ ∃ j, j < 32 ∧ (if j = i then F1 else Fs j) c) → F c ∨ w.heap.size ≤ c := fun {O w4} hO c hc => by
    rcases hc with hc | ⟨j, hj, hc⟩
    · exact hO c hc
    · by_cases e : j = i
      · simp only [if_pos e] at hc
        rcases (hF1 c hc).1 with h | h
        · exact .inl (hFl i hi c h).1
        · exact .inr (by omega)
      · simp only [if_neg e] at hc
        exact .inl (hFl j hj c hc).1
  have hone := kids_one_cell hkin.1
  have hnil : ∀ q, q < 32 → f q = .emp → vs q = .nilIface := fun q hq e => by have := hkin.1 q hq; rw [e] at this; exact this.nil
  clear hkin hkin1 hkin3
  refine Jn.intro (fun w4 => w4 = w3 ∧ ¬ (f i = .emp ∧ 16 < Nd.cnt f)) ⟨fun e => ?_, fun e => ⟨rfl, fun h => e h.1⟩, ?_⟩
  · have hcast : ((16 : Int) < (Nd.cnt f : Int)) ↔ 16 < Nd.cnt f := by omega
    simp [-getElem?_pos, -Array.getElem?_eq_getElem, -Int.natCast_add, add_spot, and_assoc, Br_dec, -op_box, -op_st_4, -op_st_22, -op_st_107, -op_st_157, -op_st_185, -op_st_156, -op_st_144, -op_st_2, -op_alloc_159, -op_alloc_156, -op_alloc_191, -op_lit_157_1, -op_lit_157_2, -op_lit_185_1, -op_lit_185_2, hb3, hcast, e]
    intro h16
    refine op_alloc_ok (z := .agg zero_191) (by kernel_rfl) fun w4 k4 z4 b4 => ?_
    simp only [cells_agg] at b4
    have hzz : ∀ j, j < 32 → zero_191[j + 1]? = some Value.nilIface := fun j hj => by
      have : zero_191.toList = Value.int .u64 0 :: List.replicate 32 Value.nilIface := by kernel_rfl
      rw [← Array.getElem?_toList, this, List.getElem?_cons_succ, List.getElem?_replicate, if_pos hj]
    obtain ⟨I, hI⟩ : ∃ I : KV, ∀ sv w5, I sv w5 ↔ ∃ j : Nat, sv = Value.int .u64 j ∧ j ≤ 32 ∧ Frm (· = w3.heap.size) w4 w5 ∧ w5.heap.size = w4.heap.size ∧ ∃ cs, w5.heap[w3.heap.size]? = some (.cells cs 191 (0, 0)) ∧ cs.size = 33 ∧ cs[0]? = some (.int .u64 (rk f j)) ∧ ∀ q, q < 32 → cs[q + 1]? = some (if q < j ∧ full f q = true then vs q else .nilIface) := ⟨_, fun _ _ => Iff.rfl⟩
    refine Lp.intro I (fun sv _ => 32 - natOf sv) ⟨(hI _ _).2 ⟨0, rfl, by omega, Frm.refl, rfl, zero_191, b4, rfl, rfl, fun q hq => by rw [hzz q hq]; simp⟩, ?_⟩
    intro wl sv hsv
    obtain ⟨j, rfl, hj, kl, nl, cs, bl, hcz, hc0, hcs⟩ := (hI _ _).1 hsv
    have hbl := kl.get (k4.get hb3 id) (by omega)
    have hgl := (hg3.frame k4 id).frame kl (by omega)
    have hjlt : ((j : Int) < 32) ↔ j < 32 := by omega
    simp [-getElem?_pos, -Array.getElem?_eq_getElem, -Int.natCast_add, add_spot, and_assoc, Br_dec, -op_box, -op_st_4, -op_st_22, -op_st_107, -op_st_157, -op_st_185, -op_st_156, -op_st_144, -op_st_2, -op_alloc_159, -op_alloc_156, -op_alloc_191, -op_lit_157_1, -op_lit_157_2, -op_lit_185_1, -op_lit_185_2, hjlt]
    refine ⟨fun hj32 => ?_, fun hj32 => ?_⟩
    · have hbitj := bit_eq hj32
      have handj := and_u32 (bm_lt (f := f)) (two_pow_lt hj32)
      have hzj := hbits j hj32
      generalize hBj : bm f &&& 2 ^ j = Bj at *
      generalize (2 : Nat) ^ j = yj at *
      have hzBj : ((Bj : Int) = 0) ↔ f j = .emp := by rw [← hzj]; omega
      have hnx : IntKind.u64.wrap ((j : Int) + 1) = ((j + 1 : Nat) : Int) := by rw [IntKind.wrap_u64]; omega
      simp [-getElem?_pos, -Array.getElem?_eq_getElem, -Int.natCast_add, add_spot, and_assoc, Br_dec, -op_box, -op_st_4, -op_st_22, -op_st_107, -op_st_157, -op_st_185, -op_st_156, -op_st_144, -op_st_2, -op_alloc_159, -op_alloc_156, -op_alloc_191, -op_lit_157_1, -op_lit_157_2, -op_lit_185_1, -op_lit_185_2, hbl, hbitj, handj, -Int.natCast_eq_zero, hzBj, hnx]
      refine ⟨fun ej => ?_, fun ej => ?_⟩
      · obtain ⟨cur, hcur, hk⟩ := kid_cell hgl
        have hk' := hk j hj32 ej
        have hrl := rk_lt (f := f) hj32 ej
        rw [← cnt_rk] at hrl
        simp [-getElem?_pos, -Array.getElem?_eq_getElem, -Int.natCast_add, add_spot, and_assoc, Br_dec, -op_box, -op_st_4, -op_st_22, -op_st_107, -op_st_157, -op_st_185, -op_st_156, -op_st_144, -op_st_2, -op_alloc_159, -op_alloc_156, -op_alloc_191, -op_lit_157_1, -op_lit_157_2, -op_lit_185_1, -op_lit_185_2, bl, hc0, hcur, hk', hrl, hj32]
        refine op_store_ok (by kernel_rfl) bl (by omega) (hone (vs j) (by have := kids_get (vs := vs) hj32 ej; exact List.mem_of_getElem? this)) fun w5 k5 z5 b5 => ?_
        have k5 := Frm.dr k5
        have hc5 : (cs.setIfInBounds (1 + j) (vs j))[0]? = some (.int .u64 (rk f j)) := by rw [Array.getElem?_setIfInBounds, if_neg (by omega), hc0]
        have hr32 := rk_le (f := f) j
        have hrn : IntKind.u64.wrap ((rk f j : Int) + 1) = ((rk f j + 1 : Nat) : Int) := by rw [IntKind.wrap_u64]; omega
        simp [-getElem?_pos, -Array.getElem?_eq_getElem, -Int.natCast_add, add_spot, and_assoc, Br_dec, -op_box, -op_st_4, -op_st_22, -op_st_107, -op_st_157, -op_st_185, -op_st_156, -op_st_144, -op_st_2, -op_alloc_159, -op_alloc_156, -op_alloc_191, -op_lit_157_1, -op_lit_157_2, -op_lit_185_1, -op_lit_185_2, b5, hc5, hrn]
        refine op_store_ok (by kernel_rfl) b5 (by simp; omega) rfl fun w6 k6 z6 b6 => ?_
        refine ⟨(hI _ _).2 ⟨j + 1, rfl, by omega, (kl.tr (k5.tr k6)).to (fun c hc => by omega), by simp at z5; omega, _, b6, by simp [hcz], ?_, fun q hq => ?_⟩, by simp only [natOf]; omega⟩
        · rw [Array.getElem?_setIfInBounds, if_pos rfl, if_pos (by simp; omega), rk_succ, full_iff.2 ej]; rfl
        · rw [Array.getElem?_setIfInBounds, if_neg (by omega), Array.getElem?_setIfInBounds]
          by_cases eq : q = j
          · subst eq
            rw [if_pos (by omega), if_pos (by omega), if_pos ⟨by omega, full_iff.2 ej⟩]
          · rw [if_neg (by omega), hcs q hq]
            simp only [show q < j + 1 ↔ q < j by omega]
      · refine ⟨(hI _ _).2 ⟨j + 1, rfl, by omega, kl, nl, cs, bl, hcz, ?_, fun q hq => ?_⟩, by simp only [natOf]; omega⟩
        · rw [hc0, rk_succ, full_not.2 ej]; simp
        · rw [hcs q hq]
          by_cases eq : q = j
          · subst eq; simp [full_not.2 ej]
          · simp only [show q < j + 1 ↔ q < j by omega]
    · obtain rfl : j = 32 := by omega
      have hi' : (i : Int) < 32 := by omega
      simp [-getElem?_pos, -Array.getElem?_eq_getElem, -Int.natCast_add, add_spot, and_assoc, Br_dec, -op_box, -op_st_4, -op_st_22, -op_st_107, -op_st_157, -op_st_185, -op_st_156, -op_st_144, -op_st_2, -op_alloc_159, -op_alloc_156, -op_alloc_191, -op_lit_157_1, -op_lit_157_2, -op_lit_185_1, -op_lit_185_2, hi']
      refine op_store_ok (by kernel_rfl) bl (by omega) r3.one fun w5 k5 z5 b5 => ?_
      have hc5 : (cs.setIfInBounds (1 + i) nv)[0]? = some (.int .u64 (rk f 32)) := by rw [Array.getElem?_setIfInBounds, if_neg (by omega), hc0]
      have hr32 := rk_le (f := f) 32
      have hrn : IntKind.u64.wrap ((rk f 32 : Int) + 1) = ((rk f 32 + 1 : Nat) : Int) := by rw [IntKind.wrap_u64]; omega
      simp [-getElem?_pos, -Array.getElem?_eq_getElem, -Int.natCast_add, add_spot, and_assoc, Br_dec, -op_box, -op_st_4, -op_st_22, -op_st_107, -op_st_157, -op_st_185, -op_st_156, -op_st_144, -op_st_2, -op_alloc_159, -op_alloc_156, -op_alloc_191, -op_lit_157_1, -op_lit_157_2, -op_lit_185_1, -op_lit_185_2, b5, hc5, hrn]
      refine op_store_ok (by kernel_rfl) b5 (by simp; omega) rfl fun w6 k6 z6 b6 => ?_
      have hcn : Nd.cnt (Nd.put f i t') = Nd.cnt f + 1 := cnt_add hi e ht'
      have hfl : ((f i).isEmp && decide (16 < Nd.cnt f)) = true := by rw [e]; simpa [Nd.isEmp] using h16
      rw [hfl] at hK
      have kall := k4.fst (kl.tr (k5.tr k6))
      have hempty : ∀ q, q < 32 → full f q = false → vs q = .nilIface := fun q hq hfq => hnil q hq (full_not.1 hfq)
      refine hK _ w6 _ (hto kall fun c hc => .inr (by omega)) (Rep.mkH (f := Nd.put f i t') (b := w3.heap.size) b6 (by simp [hcz]) ?_ (fun q hq => ?_) (hkinP kall (fun c hc => .inr (.inr (by omega))) (fun c hc => .inr (.inr (by omega))))) (fun c hc => hFF (O := fun c => c = w3.heap.size) (w4 := w) (fun c hc => .inr (by omega)) c hc) ?_
      · rw [Array.getElem?_setIfInBounds, if_pos rfl, if_pos (by simp; omega), hcn, cnt_rk]
      · rw [Array.getElem?_setIfInBounds, if_neg (by omega), Array.getElem?_setIfInBounds]
        by_cases eq : q = i
        · subst eq
          rw [if_pos (by omega), if_pos (by omega)]; simp [putV]
        · rw [if_neg (by omega), hcs q hq]
          simp only [putV, if_neg eq]
          cases hfq : full f q with
          | true => simp [hq]
          | false => simp [hempty q hq hfq]
      · have := lt_of_get f3
        exact ((f3.frame k4 id).frame kl (by omega)).frame (k5.tr k6) (by omega)
  rintro w4 ⟨rfl, h16⟩
  have hfl : ((f i).isEmp && decide (16 < Nd.cnt f)) = false := by
    cases h : (f i).isEmp with
    | false => rfl
    | true => rw [Bool.true_and]; exact decide_eq_false fun h' => h16 ⟨isEmp_iff.1 h, h'⟩
  rw [hfl] at hK
  have hvs : ∀ u ∈ kids f vs, u.oneCell' = true := hone
  have hcl := cnt_le (f := f)
  have hrk : rk f i ≤ Nd.cnt f := by rw [cnt_rk]; exact rk_mono (by omega)
  have hcm := hg3.cap_le h6
  refine ⟨fun hm => ⟨fun e => ?_, fun e => ?_⟩, fun hm => ?_⟩
  · have hrl := rk_lt (f := f) hi e
    rw [← cnt_rk] at hrl
    simp [-getElem?_pos, -Array.getElem?_eq_getElem, -Int.natCast_add, add_spot, and_assoc, Br_dec, -op_box, -op_st_4, -op_st_22, -op_st_107, -op_st_157, -op_st_185, -op_st_156, -op_st_144, -op_st_2, -op_alloc_159, -op_alloc_156, -op_alloc_191, -op_lit_157_1, -op_lit_157_2, -op_lit_185_1, -op_lit_185_2, hb3, hrl]
    refine op_storeR1 (by kernel_rfl) hg3 (by rw [kids_len]; exact hrl) r3.one fun w5 k5 z5 q5 => ?_
    rw [kids_set hi e ht'] at q5
    have f5 := f3.frame k5 (fun e => hgr e.symm)
    refine hK _ w5 _ (hto k5 fun c hc => .inl ⟨hm, .inr hc⟩) (Rep.mkB (f := Nd.put f i t') h4 (by rw [bm_keep e ht', cnt_same e ht']; exact k5.get hb3 (fun e => h4 e.symm)) (by rw [cnt_same e ht']; exact h6) q5 (hkinP k5 (fun c hc => .inr (.inl hc)) (fun c hc => hc.imp id .inl))) (fun c hc => hFF (O := fun c => c = b ∨ c = g) (w4 := w) (fun c hc => .inl (hc.elim (fun e => e ▸ h2) fun e => e ▸ h3)) c (or_assoc.2 hc)) f5
  · simp [-getElem?_pos, -Array.getElem?_eq_getElem, -Int.natCast_add, add_spot, and_assoc, Br_dec, -op_box, -op_st_4, -op_st_22, -op_st_107, -op_st_157, -op_st_185, -op_st_156, -op_st_144, -op_st_2, -op_alloc_159, -op_alloc_156, -op_alloc_191, -op_lit_157_1, -op_lit_157_2, -op_lit_185_1, -op_lit_185_2, hb3, hor]
    refine op_store_ok (by kernel_rfl) hb3 (by simp) rfl fun w5 k5 z5 b5 => ?_
    have hg5 := hg3.frame k5 h4
    have f5 := f3.frame k5 (fun e => hne e.symm)
    simp [-getElem?_pos, -Array.getElem?_eq_getElem, -Int.natCast_add, add_spot, and_assoc, Br_dec, -op_box, -op_st_4, -op_st_22, -op_st_107, -op_st_157, -op_st_185, -op_st_156, -op_st_144, -op_st_2, -op_alloc_159, -op_alloc_156, -op_alloc_191, -op_lit_157_1, -op_lit_157_2, -op_lit_185_1, -op_lit_185_2, b5]
    refine op_lit_ok (lit_185_1 rfl) fun w6 k6 z6 b6 => ?_
    have hq : Rw w6 107 1 w5.heap.size 1 [.nilIface] := Rw.lit (n := 1) rfl (by decide) b6
    refine op_appendR apN (hg5.frame k6 fun h => h) (n := Nd.cnt f) (by rw [kids_len]; omega) h6 hq (m := 1) rfl (fun u hu => by simp at hu; subst hu; rfl) (by omega) (by omega) fun w7 g' cap' k7 hg7 hc7 hgg => ?_
    have b7 := k7.get (k6.get b5 id) (fun e => h4 e.symm)
    have f7 := (f5.frame k6 id).frame k7 (fun e => hgr e.symm)
    have hgb : g' ≠ b := by
      rcases hgg with rfl | rfl
      · exact h4
      · omega
    have hgr' : g' ≠ rb := by
      rcases hgg with rfl | rfl
      · exact hgr
      · omega
    refine op_store_ok (by kernel_rfl) b7 (by simp) rfl fun w8 k8 z8 b8 => ?_
    have hg8 := hg7.frame k8 hgb
    have f8 := f7.frame k8 (fun e => hne e.symm)
    have hw : IntKind.i64.wrap ((rk f i : Int) + 1) = ((rk f i + 1 : Nat) : Int) := by rw [IntKind.wrap_i64]; omega
    simp [-getElem?_pos, -Array.getElem?_eq_getElem, -Int.natCast_add, add_spot, and_assoc, Br_dec, -op_box, -op_st_4, -op_st_22, -op_st_107, -op_st_157, -op_st_185, -op_st_156, -op_st_144, -op_st_2, -op_alloc_159, -op_alloc_156, -op_alloc_191, -op_lit_157_1, -op_lit_157_2, -op_lit_185_1, -op_lit_185_2, b8, hw]
    have hkl : (kids f vs).length = Nd.cnt f := kids_len
    refine ⟨by omega, hc7, by omega, hc7, ?_⟩
    refine op_copyX (n := Nd.cnt f - rk f i) (x1 := rk f i + 1) (x2 := rk f i) (by kernel_rfl) hg8.drew hg8.drew (by split; exact .inr ⟨rfl, by omega⟩; exact .inl (by simp)) (by split; exact .inr ⟨rfl, by omega⟩; exact .inl (by simp)) (by omega) (by simp; omega) (by simp; omega)
      (fun u hu => by rcases List.mem_append.1 hu with h | h; exact hvs u h; simp at h; subst h; rfl) fun w9 k9 z9 q9 => ?_
    have k9 := Frm.dr k9
    have b9 := k9.get b8 (fun e => hgb e.symm)
    have f9 := f8.frame k9 (fun e => hgr' e.symm)
    simp only [Nat.mul_one] at q9
    have hlt9 : rk f i < Nd.cnt f + 1 := by omega
    simp [-getElem?_pos, -Array.getElem?_eq_getElem, -Int.natCast_add, add_spot, and_assoc, Br_dec, -op_box, -op_st_4, -op_st_22, -op_st_107, -op_st_157, -op_st_185, -op_st_156, -op_st_144, -op_st_2, -op_alloc_159, -op_alloc_156, -op_alloc_191, -op_lit_157_1, -op_lit_157_2, -op_lit_185_1, -op_lit_185_2, b9, hlt9]
    refine op_storeR1 (by kernel_rfl) q9 (by rw [lw_len (by simp; omega)]; simp; omega) r3.one fun w10 k10 z10 q10 => ?_
    have hins := ins_mut (A := kids f vs) (z := .nilIface) (v := nv) (by rw [hkl]; exact hrk)
    rw [hkl] at hins
    rw [hins, kids_ins hi e ht'] at q10
    have b10 := k10.get b9 (fun e => hgb e.symm)
    have f10 := f9.frame k10 (fun e => hgr' e.symm)
    have hcn : Nd.cnt (Nd.put f i t') = Nd.cnt f + 1 := cnt_add hi e ht'
    have n6 := k6.size
    have n7 := k7.size
    have kall := (((((k5.tr (k6.fst k7)).tr k8).tr k9).tr k10))
    have hall : ∀ c, ((((c = b ∨ c = g) ∨ c = b) ∨ c = g') ∨ c = g') → (c = b ∨ c = g) ∨ w4.heap.size ≤ c := fun c hc => by
      rcases hgg with h | h <;> omega
    refine hK _ w10 _ (hto kall fun c hc => ?_) (Rep.mkB (f := Nd.put f i t') hgb (by rw [← hbm, hcn]; simpa using b10) (by rw [hcn]; exact hc7) q10 (hkinP kall (fun c hc => or_assoc.1 (hall c hc)) (fun c hc => by rcases hc with h | h; exact .inl h; rcases hgg with h' | h'; exact .inr (.inl (by omega)); exact .inr (.inr (by omega))))) (fun c hc => hFF (O := fun c => c = b ∨ c = g') (w4 := w) (fun c hc => ?_) c (or_assoc.2 hc)) f10
    · rcases hall c hc with h | h
      · exact .inl ⟨hm, h⟩
      · exact .inr (by omega)
    · rcases hc with h | h
      · exact .inl (h ▸ h2)
      · rcases hgg with h' | h'
        · exact .inl (h ▸ h' ▸ h3)
        · exact .inr (by omega)
  · simp [-getElem?_pos, -Array.getElem?_eq_getElem, -Int.natCast_add, add_spot, and_assoc, Br_dec, -op_box, -op_st_4, -op_st_22, -op_st_107, -op_st_157, -op_st_185, -op_st_156, -op_st_144, -op_st_2, -op_alloc_159, -op_alloc_156, -op_alloc_191, -op_lit_157_1, -op_lit_157_2, -op_lit_185_1, -op_lit_185_2, hb3, hor]
    refine op_box_ok fun w5 k5 z5 b5 => ?_
    simp only [cells_agg] at b5
    have hb5 := k5.get hb3 id
    have hg5 := hg3.frame k5 id
    have f5 := f3.frame k5 id
    have hkl : (kids f vs).length = Nd.cnt f := kids_len
    refine ⟨fun e => ?_, fun e => ?_⟩
    · have hrl := rk_lt (f := f) hi e
      rw [← cnt_rk] at hrl
      simp [-getElem?_pos, -Array.getElem?_eq_getElem, -Int.natCast_add, add_spot, and_assoc, Br_dec, -op_box, -op_st_4, -op_st_22, -op_st_107, -op_st_157, -op_st_185, -op_st_156, -op_st_144, -op_st_2, -op_alloc_159, -op_alloc_156, -op_alloc_191, -op_lit_157_1, -op_lit_157_2, -op_lit_185_1, -op_lit_185_2, hb5]
      refine op_make_ok (n := Nd.cnt f) apN rfl (by omega) fun w6 zs k6 z6 hzs q6 => ?_
      have b6 := k6.get b5 id
      have hb6 := k6.get hb5 id
      have hg6 := hg5.frame k6 id
      have f6 := f5.frame k6 id
      refine op_store_ok (by kernel_rfl) b6 (by simp) rfl fun w7 k7 z7 b7 => ?_
      have hb7 := k7.get hb6 (by omega)
      have hg7 := hg6.frame k7 (by omega)
      have f7 := f6.frame k7 (by omega)
      have q7 := q6.frame k7 (by omega)
      simp [-getElem?_pos, -Array.getElem?_eq_getElem, -Int.natCast_add, add_spot, and_assoc, Br_dec, -op_box, -op_st_4, -op_st_22, -op_st_107, -op_st_157, -op_st_185, -op_st_156, -op_st_144, -op_st_2, -op_alloc_159, -op_alloc_156, -op_alloc_191, -op_lit_157_1, -op_lit_157_2, -op_lit_185_1, -op_lit_185_2, b7, hb7]
      refine op_copyX (n := Nd.cnt f) (x1 := 0) (x2 := 0) (by kernel_rfl) q7.drew hg7.drew (.inl rfl) (.inl rfl) (by omega) (by omega) (by omega) hvs fun w8 k8 z8 q8 => ?_
      have k8 := Frm.dr k8
      have b8 := k8.get b7 (by omega)
      have f8 := f7.frame k8 (by omega)
      have hq8 : lw zs (0 * 1) (List.take (Nd.cnt f * 1) (List.drop (0 * 1) (kids f vs))) = kids f vs := by
        simp only [Nat.zero_mul, Nat.mul_one, List.drop_zero]
        rw [List.take_of_length_le (by omega), lw_all (by omega)]
      rw [hq8] at q8
      simp [-getElem?_pos, -Array.getElem?_eq_getElem, -Int.natCast_add, add_spot, and_assoc, Br_dec, -op_box, -op_st_4, -op_st_22, -op_st_107, -op_st_157, -op_st_185, -op_st_156, -op_st_144, -op_st_2, -op_alloc_159, -op_alloc_156, -op_alloc_191, -op_lit_157_1, -op_lit_157_2, -op_lit_185_1, -op_lit_185_2, b8, hrl]
      refine op_storeR1 (by kernel_rfl) q8 (by rw [hkl]; exact hrl) r3.one fun w9 k9 z9 q9 => ?_
      rw [kids_set hi e ht'] at q9
      have b9 := k9.get b8 (by omega)
      have f9 := f8.frame k9 (by omega)
      have n6 := k6.size
      have kall := ((k5.fst (k6.fst (k7.tr (k8.tr k9)))))
      have hall : ∀ c, (c = w4.heap.size ∨ c = w5.heap.size ∨ c = w5.heap.size) → w4.heap.size ≤ c := fun c hc => by omega
      have hbm2 : O = bm (Nd.put f i t') := hbm
      refine hK _ w9 _ (hto kall fun c hc => .inr (by have := hall c hc; omega)) (Rep.mkB (f := Nd.put f i t') (b := w4.heap.size) (g := w5.heap.size) (cap := Nd.cnt f) (by omega) (by rw [← hbm2, cnt_same e ht']; simpa using b9) (by rw [cnt_same e ht']; omega) q9 (hkinP kall (fun c hc => .inr (.inr (hall c hc))) (fun c hc => .inr (.inr (by omega))))) (fun c hc => hFF (O := fun c => c = w4.heap.size ∨ c = w5.heap.size) (w4 := w) (fun c hc => .inr (by omega)) c (or_assoc.2 hc)) f9
    · have hwc : IntKind.i64.wrap ((Nd.cnt f : Int) + 1) = ((Nd.cnt f + 1 : Nat) : Int) := by rw [IntKind.wrap_i64]; omega
      have hw : IntKind.i64.wrap ((rk f i : Int) + 1) = ((rk f i + 1 : Nat) : Int) := by rw [IntKind.wrap_i64]; omega
      simp [-getElem?_pos, -Array.getElem?_eq_getElem, -Int.natCast_add, add_spot, and_assoc, Br_dec, -op_box, -op_st_4, -op_st_22, -op_st_107, -op_st_157, -op_st_185, -op_st_156, -op_st_144, -op_st_2, -op_alloc_159, -op_alloc_156, -op_alloc_191, -op_lit_157_1, -op_lit_157_2, -op_lit_185_1, -op_lit_185_2, hb5, hwc]
      refine op_make_ok (n := Nd.cnt f + 1) apN rfl (by omega) fun w6 zs k6 z6 hzs q6 => ?_
      have b6 := k6.get b5 id
      have hb6 := k6.get hb5 id
      have hg6 := hg5.frame k6 id
      have f6 := f5.frame k6 id
      refine op_store_ok (by kernel_rfl) b6 (by simp) rfl fun w7 k7 z7 b7 => ?_
      have hb7 := k7.get hb6 (by omega)
      have hg7 := hg6.frame k7 (by omega)
      have f7 := f6.frame k7 (by omega)
      have q7 := q6.frame k7 (by omega)
      simp [-getElem?_pos, -Array.getElem?_eq_getElem, -Int.natCast_add, add_spot, and_assoc, Br_dec, -op_box, -op_st_4, -op_st_22, -op_st_107, -op_st_157, -op_st_185, -op_st_156, -op_st_144, -op_st_2, -op_alloc_159, -op_alloc_156, -op_alloc_191, -op_lit_157_1, -op_lit_157_2, -op_lit_185_1, -op_lit_185_2, b7, hb7]
      refine ⟨by omega, ?_⟩
      refine op_copyX (n := rk f i) (x1 := 0) (x2 := 0) (by kernel_rfl) q7.drew hg7.drew (.inl rfl) (.inl rfl) (by omega) (by omega) (by omega) hvs fun w8 k8 z8 q8 => ?_
      have k8 := Frm.dr k8
      have b8 := k8.get b7 (by omega)
      have hb8 := k8.get hb7 (by omega)
      have hg8 := hg7.frame k8 (by omega)
      have f8 := f7.frame k8 (by omega)
      simp only [Nat.zero_mul, Nat.mul_one, List.drop_zero] at q8
      have hlt8 : rk f i < Nd.cnt f + 1 := by omega
      simp [-getElem?_pos, -Array.getElem?_eq_getElem, -Int.natCast_add, add_spot, and_assoc, Br_dec, -op_box, -op_st_4, -op_st_22, -op_st_107, -op_st_157, -op_st_185, -op_st_156, -op_st_144, -op_st_2, -op_alloc_159, -op_alloc_156, -op_alloc_191, -op_lit_157_1, -op_lit_157_2, -op_lit_185_1, -op_lit_185_2, b8, hlt8]
      refine op_storeR1 (by kernel_rfl) q8 (by rw [lw_len (by simp; omega)]; omega) r3.one fun w9 k9 z9 q9 => ?_
      have b9 := k9.get b8 (by omega)
      have hb9 := k9.get hb8 (by omega)
      have hg9 := hg8.frame k9 (by omega)
      have f9 := f8.frame k9 (by omega)
      simp [-getElem?_pos, -Array.getElem?_eq_getElem, -Int.natCast_add, add_spot, and_assoc, Br_dec, -op_box, -op_st_4, -op_st_22, -op_st_107, -op_st_157, -op_st_185, -op_st_156, -op_st_144, -op_st_2, -op_alloc_159, -op_alloc_156, -op_alloc_191, -op_lit_157_1, -op_lit_157_2, -op_lit_185_1, -op_lit_185_2, b9, hb9, hw]
      refine ⟨hrk, h6, ?_⟩
      refine op_copyX (n := Nd.cnt f - rk f i) (x1 := rk f i + 1) (x2 := rk f i) (by kernel_rfl) q9.drew hg9.drew (by split; exact .inr ⟨rfl, by omega⟩; exact .inl (by simp)) (by split; exact .inr ⟨rfl, by omega⟩; exact .inl (by simp)) (by omega)
        (by rw [List.length_set, lw_len (by simp; omega)]; omega) (by omega) hvs fun w10 k10 z10 q10 => ?_
      have k10 := Frm.dr k10
      have b10 := k10.get b9 (by omega)
      have f10 := f9.frame k10 (by omega)
      have hins := ins_new (A := kids f vs) (zs := zs) (r := rk f i) (v := nv) (by rw [hkl]; exact hrk) (by omega)
      rw [hkl] at hins
      simp only [Nat.mul_one] at q10
      rw [hins, kids_ins hi e ht'] at q10
      have hcn : Nd.cnt (Nd.put f i t') = Nd.cnt f + 1 := cnt_add hi e ht'
      have n6 := k6.size
      have kall := ((k5.fst (k6.fst (k7.tr (k8.tr (k9.tr k10))))))
      have hall : ∀ c, (c = w4.heap.size ∨ c = w5.heap.size ∨ c = w5.heap.size ∨ c = w5.heap.size) → w4.heap.size ≤ c := fun c hc => by omega
      refine hK _ w10 _ (hto kall fun c hc => .inr (by have := hall c hc; omega)) (Rep.mkB (f := Nd.put f i t') (b := w4.heap.size) (g := w5.heap.size) (cap := Nd.cnt f + 1) (by omega) (by rw [← hbm, hcn]; simpa using b10) (by rw [hcn]; omega) q10 (hkinP kall (fun c hc => .inr (.inr (hall c hc))) (fun c hc => .inr (.inr (by omega))))) (fun c hc => hFF (O := fun c => c = w4.heap.size ∨ c = w5.heap.size) (w4 := w) (fun c hc => .inr (by omega)) c (or_assoc.2 hc)) f10
end Go.Proofs.YtbghmbbhkoniiaaGreat.I
end
section
/- Setting a key in a branch of 32 places; setting at any node, and behind a root. -/
namespace Go.Proofs.YtbghmbbhkoniiaaGreat.I
open Go.Vc Go.Proofs Go.Proofs.YtbghmbbhkoniiaaGreat Go.Vc.Nd
variable {w w' : World} {v hv : Value} {t : Tr} {F F' : Nat → Prop} {K : KV} {Kp : KP} {hash : Ky → Nat} {k : Ky} {x : Vl} {l s rb : Nat} {r0 mu : Bool}
theorem clone_ok {b : Nat} {cs : Array Value} (hb : w.heap[b]? = some (.cells cs 191 (0, 0))) (hz : cs.size = 33) (h1 : ∀ u ∈ cs, u.oneCell' = true)
    (hK : ∀ w', Frm (fun _ => False) w w' → w'.heap[w.heap.size]? = some (.cells cs 191 (0, 0)) → K (ptr w.heap.size) w') : Calls Tryz.prog 130 #[ptr b] w (ret K Kp) := by
  refine vc130_calls ?_
  have hx : cs.extract 0 33 = cs := extract_self hz
  simp [-getElem?_pos, -Array.getElem?_eq_getElem, -Int.natCast_add, add_spot, and_assoc, Br_dec, -op_box, -op_st_4, -op_st_22, -op_st_107, -op_st_157, -op_st_185, -op_st_156, -op_st_144, -op_st_2, -op_st_191, -op_alloc_159, -op_alloc_156, -op_alloc_191, -op_lit_157_1, -op_lit_157_2, -op_lit_185_1, -op_lit_185_2, vc130, ptr, hb, hz, hx]
  refine op_alloc_ok (z := .agg zero_191) (by kernel_rfl) fun w1 k1 z1 b1 => ?_
  simp only [cells_agg] at b1
  rw [op_stn (n := 33) (by kernel_rfl)]
  have how : ow zero_191 0 cs.toList = cs := by rw [ow_all (by simp [hz]; rfl)]
  refine ⟨hz, fun u hu => h1 u (by simpa using hu), _, _, b1, rfl, by show 0 + 33 ≤ zero_191.size; decide, ?_⟩
  refine hK _ (k1.old (Frm.upd (M := (· = w.heap.size)) _ _ fun _ => rfl) fun c hc => .inr (by omega)) ?_
  have := heap_upd_same (o := .cells (ow zero_191 0 cs.toList) 191 (0, 0)) b1
  rw [how] at this
  show (w1.upd w.heap.size (.cells (ow zero_191 0 cs.toList) 191 (0, 0))).heap[w.heap.size]? = _
  rw [how]; exact this
theorem cells_one_H {cs : Array Value} {n : Nat} {vs : Nat → Value} (hz : cs.size = 33) (h0 : cs[0]? = some (.int .u64 n)) (hv : ∀ i, i < 32 → cs[i + 1]? = some (vs i)) (hone : ∀ i, i < 32 → (vs i).oneCell' = true) : ∀ u ∈ cs, u.oneCell' = true := fun u hu => by
  obtain ⟨j, hj, rfl⟩ := Array.mem_iff_getElem.1 hu
  cases j with
  | zero =>
    rw [Array.getElem?_eq_getElem hj] at h0
    rw [Option.some.inj h0]; rfl
  | succ j =>
    have := hv j (by omega)
    rw [Array.getElem?_eq_getElem hj] at this
    rw [Option.some.inj this]; exact hone j (by omega)
theorem setH_ok {f : Nat → Tr} {p i : Nat} {t' : Tr} (hH : IsH hv hash) (hl : l ≤ 6) (hs : s = 5 * l) (hi0 : frag l (hash k) = i) (ht' : t' ≠ .emp) (nw : Bool) (he : f i = .emp → t' = .val (hash k) k x ∧ nw = true)
    (child : f i ≠ .emp → SetC hv hash k x mu rb (s + 5) (f i) t' nw) : SetC hv hash k x mu rb s (.br true f) (.br true (Nd.put f i t')) nw := by
  intro w v F K Kp r0 h hr hrb hK
  have hi := frag_lt l (hash k)
  have hfr := frag_eq (hH.lt k) hs hl
  rw [hi0] at hi hfr
  obtain ⟨b, cs, vs, Fs0, rfl, h2, hb, hcz, hc0, hcs, h8, h9⟩ := h
  obtain ⟨Fs, hrep, hdis, hFl⟩ : ∃ Fs : Nat → Nat → Prop, (∀ j, j < 32 → Rep w (f j) (vs j) (Fs j)) ∧ (∀ j, j < 32 → ∀ c, Fs j c → c ≠ b ∧ ∀ q, q < 32 → q ≠ j → ¬ Fs q c) ∧ ∀ j, j < 32 → ∀ c, Fs j c → F c ∧ c < w.heap.size :=
    ⟨fun j c => Fs0 j c ∧ c < w.heap.size, fun j hj => (h8 j hj).lt, fun j hj c hc => ⟨(h9 j hj c hc.1).2.1, fun q hq hne h => (h9 j hj c hc.1).2.2 q hq hne h.1⟩, fun j hj c hc => ⟨(h9 j hj c hc.1).1, hc.2⟩⟩
  clear h8 h9
  have hns := next_shift hs hl
  have hne : b ≠ rb := fun e => hrb (e ▸ h2)
  have l1 := lt_of_get hb
  have l2 := lt_of_get hr
  have hci := hcs i hi
  simp only [inv_188_133]
  refine vc133_calls ?_
  have hi' : (i : Int) < 32 := by omega
  simp [-getElem?_pos, -Array.getElem?_eq_getElem, -Int.natCast_add, add_spot, and_assoc, Br_dec, -op_box, -op_st_4, -op_st_22, -op_st_107, -op_st_157, -op_st_185, -op_st_156, -op_st_144, -op_st_2, -op_st_191, -op_alloc_159, -op_alloc_156, -op_alloc_191, -op_lit_157_1, -op_lit_157_2, -op_lit_185_1, -op_lit_185_2, vc133, ptr, hb, hfr, Nat.add_comm 1, hci, hi']
  have heq : ∀ {w : World} {K : KV} {Kp : KP}, (nice Tryz.prog).op (.bin .eql 107 false true (vs i) .nilIface) w K Kp = K (.bool (f i).isEmp) w := fun {w K Kp} => by
    by_cases e : f i = .emp
    · have := hrep i hi
      rw [e] at this
      rw [this.nil, e]
      simp [Nd.isEmp]
    · obtain ⟨u, c, hv⟩ := (hrep i hi).iface e
      have he' : (f i).isEmp = false := by cases h : (f i).isEmp; rfl; exact absurd (isEmp_iff.1 h) e
      rw [hv, he']; simp
  obtain ⟨J, hJ⟩ : ∃ J : KV, ∀ nv w3, J nv w3 ↔ ∃ F1, Frm (fun c => c = rb ∨ mu = true ∧ Fs i c) w w3 ∧ Rep w3 t' nv F1 ∧ (∀ c, F1 c → (Fs i c ∨ w.heap.size ≤ c) ∧ c < w3.heap.size) ∧ flag w3 rb (r0 || nw) := ⟨_, fun _ _ => Iff.rfl⟩
  refine Jn.intro J ⟨?_, ?_⟩
  · rw [heq]
    by_cases e : f i = .emp
    · obtain ⟨rfl, rfl⟩ := he e
      have he' : (f i).isEmp = true := by rw [e]; rfl
      simp [-getElem?_pos, -Array.getElem?_eq_getElem, -Int.natCast_add, add_spot, and_assoc, Br_dec, -op_box, -op_st_4, -op_st_22, -op_st_107, -op_st_157, -op_st_185, -op_st_156, -op_st_144, -op_st_2, -op_st_191, -op_alloc_159, -op_alloc_156, -op_alloc_191, -op_lit_157_1, -op_lit_157_2, -op_lit_185_1, -op_lit_185_2, he']
      refine raise_ok hr fun w1 k1 z1 f1 => ?_
      refine new_val_ok (x := x) fun bv w3 k3 lv lv2 r3 => (hJ _ _).2 ⟨_, ((k1.tr k3).to fun c hc => .inl (hc.elim id fun h => h.elim)), r3, fun c hc => ⟨.inr (by omega), by omega⟩, ?_⟩
      simpa using f1.frame k3 id
    · have he' : (f i).isEmp = false := by cases h : (f i).isEmp; rfl; exact absurd (isEmp_iff.1 h) e
      simp [-getElem?_pos, -Array.getElem?_eq_getElem, -Int.natCast_add, add_spot, and_assoc, Br_dec, -op_box, -op_st_4, -op_st_22, -op_st_107, -op_st_157, -op_st_185, -op_st_156, -op_st_144, -op_st_2, -op_st_191, -op_alloc_159, -op_alloc_156, -op_alloc_191, -op_lit_157_1, -op_lit_157_2, -op_lit_185_1, -op_lit_185_2, he', hns]
      refine child e (hrep i hi) (r0 := r0) hr (fun h => hrb (hFl i hi rb h).1) fun v' w3 F' k3 r3 h3' f3 => ?_
      exact (hJ _ _).2 ⟨fun c => F' c ∧ c < w3.heap.size, k3, r3.lt, fun c hc => ⟨h3' c hc.1, hc.2⟩, f3⟩
  intro w3 nv hJnv
  obtain ⟨F1, k3, r3, hF1, f3⟩ := (hJ _ _).1 hJnv
  clear hJnv hJ J
  have n3 := k3.size
  have hbF : ¬ Fs i b := fun h => (hdis i hi b h).1 rfl
  have hb3 := k3.get hb (fun h => h.elim hne fun h => hbF h.2)
  have hrep3 : ∀ j, j < 32 → j ≠ i → Rep w3 (f j) (vs j) (Fs j) := fun j hj hji => (hrep j hj).frame k3 fun c hc h => h.elim (fun e => hrb (e ▸ (hFl j hj c hc).1)) fun h => (hdis j hj c hc).2 i hi (fun e => hji e.symm) h.2
  have hcone := cells_one_H hcz hc0 hcs fun j hj => (hrep j hj).one
  obtain ⟨J, hJ⟩ : ∃ J : KV, ∀ ov w4, J ov w4 ↔ ∃ nb, ov = ptr nb ∧ Frm (fun _ => False) w3 w4 ∧ w4.heap[nb]? = some (.cells cs 191 (0, 0)) ∧ (nb = b ∧ mu = true ∨ nb = w3.heap.size) := ⟨_, fun _ _ => Iff.rfl⟩
  refine Jn.intro J ⟨fun hm => ?_, fun hm => (hJ _ _).2 ⟨b, rfl, Frm.refl, hb3, .inl ⟨rfl, hm⟩⟩, ?_⟩
  · exact clone_ok hb3 hcz hcone fun w4 k4 b4 => (hJ _ _).2 ⟨_, rfl, k4, b4, .inr rfl⟩
  intro w4 ov hov
  obtain ⟨nb, rfl, k4, b4, hnb⟩ := (hJ _ _).1 hov
  clear hov hJ J
  rw [heq]
  have f4 := f3.frame k4 id
  have hnr : nb ≠ rb := by
    rcases hnb with h | h
    · rw [h.1]; exact hne
    · have := lt_of_get f3; omega
  have fin : ∀ {w5 : World} {cs' : Array Value}, Frm (· = nb) w4 w5 → w5.heap[nb]? = some (.cells cs' 191 (0, 0)) → cs'.size = 33 → cs'[0]? = some (.int .u64 (Nd.cnt (Nd.put f i t'))) → (∀ q, q < 32 → cs'[q + 1]? = some (putV vs i nv q)) → K (.iface 188 (ptr nb)) w5 := fun {w5 cs'} k5 b5 hz5 h05 hv5 => by
    have kall := k4.fst k5
    have hnF : ∀ j, j < 32 → ∀ c, Fs j c → c ≠ nb := fun j hj c hc => by
      rcases hnb with h | h
      · rw [h.1]; exact (hdis j hj c hc).1
      · have := (hFl j hj c hc).2; omega
    have hnF1 : ∀ c, F1 c → c ≠ nb := fun c hc => by
      rcases hnb with h | h
      · rw [h.1]
        rcases (hF1 c hc).1 with h' | h'
        · exact (hdis i hi c h').1
        · omega
      · have := (hF1 c hc).2; omega
    have hF1d : ∀ c, F1 c → ∀ j, j < 32 → j ≠ i → ¬ Fs j c := fun c hc j hj hji hjc => by
      rcases (hF1 c hc).1 with h | h
      · exact (hdis i hi c h).2 j hj hji hjc
      · have := (hFl j hj c hjc).2; omega
    have hkin : Kin w5 (Nd.put f i t') (putV vs i nv) (fun j => if j = i then F1 else Fs j) (fun c => c = nb) := by
      refine ⟨fun j hj => ?_, fun j hj c hc => ?_⟩
      · by_cases e : j = i
        · subst e; rw [Nd.put_same]; simpa [putV] using r3.frame kall fun c hc h => hnF1 c hc h
        · rw [Nd.put_ne e]; simp only [putV, if_neg e]; exact (hrep3 j hj e).frame kall fun c hc h => hnF j hj c hc h
      · by_cases e : j = i
        · simp only [if_pos e] at hc
          refine ⟨hnF1 c hc, fun q hq hne hqc => ?_⟩
          simp only [if_neg (show ¬ q = i by omega)] at hqc
          exact hF1d c hc q hq (by omega) hqc
        · simp only [if_neg e] at hc
          refine ⟨hnF j hj c hc, fun q hq hne hqc => ?_⟩
          by_cases e' : q = i
          · simp only [if_pos e'] at hqc; exact hF1d c hqc j hj e hc
          · simp only [if_neg e'] at hqc; exact (hdis j hj c hc).2 q hq hne hqc
    refine hK _ w5 _ ((k3.to (M' := fun c => c = rb ∨ mu = true ∧ F c) fun c hc => hc.imp id fun h => ⟨h.1, (hFl i hi c h.2).1⟩).old kall fun c hc => ?_) (Rep.mkH (f := Nd.put f i t') b5 hz5 h05 hv5 hkin) (fun c hc => ?_) (f4.frame k5 (fun e => hnr e.symm))
    · rcases hnb with h | h
      · exact .inl (.inr ⟨h.2, by rw [hc, h.1]; exact h2⟩)
      · exact .inr (by omega)
    · rcases hc with rfl | ⟨j, hj, hc⟩
      · rcases hnb with h | h
        · exact .inl (by rw [h.1]; exact h2)
        · exact .inr (by omega)
      · by_cases e : j = i
        · simp only [if_pos e] at hc
          exact (hF1 c hc).1.imp (fun h => (hFl i hi c h).1) id
        · simp only [if_neg e] at hc
          exact .inl (hFl j hj c hc).1
  by_cases e : f i = .emp
  · have he' : (f i).isEmp = true := by rw [e]; rfl
    have hcn : Nd.cnt (Nd.put f i t') = Nd.cnt f + 1 := cnt_add hi e ht'
    have hcl := cnt_le (f := f)
    have hrn : IntKind.u64.wrap ((Nd.cnt f : Int) + 1) = ((Nd.cnt f + 1 : Nat) : Int) := by rw [IntKind.wrap_u64]; omega
    simp [-getElem?_pos, -Array.getElem?_eq_getElem, -Int.natCast_add, add_spot, and_assoc, Br_dec, -op_box, -op_st_4, -op_st_22, -op_st_107, -op_st_157, -op_st_185, -op_st_156, -op_st_144, -op_st_2, -op_st_191, -op_alloc_159, -op_alloc_156, -op_alloc_191, -op_lit_157_1, -op_lit_157_2, -op_lit_185_1, -op_lit_185_2, he', ptr, b4, hc0, hrn]
    refine op_store_ok (by kernel_rfl) b4 (by omega) rfl fun w5 k5 z5 b5 => ?_
    simp [-getElem?_pos, -Array.getElem?_eq_getElem, -Int.natCast_add, add_spot, and_assoc, Br_dec, -op_box, -op_st_4, -op_st_22, -op_st_107, -op_st_157, -op_st_185, -op_st_156, -op_st_144, -op_st_2, -op_st_191, -op_alloc_159, -op_alloc_156, -op_alloc_191, -op_lit_157_1, -op_lit_157_2, -op_lit_185_1, -op_lit_185_2, hi']
    refine op_store_ok (by kernel_rfl) b5 (by simp; omega) r3.one fun w6 k6 z6 b6 => ?_
    refine fin ((k5.tr k6).to fun c hc => hc.elim id id) b6 (by simp [hcz]) ?_ fun q hq => ?_
    · rw [Array.getElem?_setIfInBounds, if_neg (by omega), Array.getElem?_setIfInBounds, if_pos rfl, if_pos (by omega), hcn]
    · rw [Array.getElem?_setIfInBounds]
      by_cases eq : q = i
      · subst eq; rw [if_pos (by omega), if_pos (by simp; omega)]; simp [putV]
      · rw [if_neg (by omega), Array.getElem?_setIfInBounds, if_neg (by omega), hcs q hq]; simp [putV, eq]
  · have he' : (f i).isEmp = false := by cases h : (f i).isEmp; rfl; exact absurd (isEmp_iff.1 h) e
    simp [-getElem?_pos, -Array.getElem?_eq_getElem, -Int.natCast_add, add_spot, and_assoc, Br_dec, -op_box, -op_st_4, -op_st_22, -op_st_107, -op_st_157, -op_st_185, -op_st_156, -op_st_144, -op_st_2, -op_st_191, -op_alloc_159, -op_alloc_156, -op_alloc_191, -op_lit_157_1, -op_lit_157_2, -op_lit_185_1, -op_lit_185_2, he', ptr, hi']
    refine op_store_ok (by kernel_rfl) b4 (by omega) r3.one fun w5 k5 z5 b5 => ?_
    refine fin k5 b5 (by simp [hcz]) ?_ fun q hq => ?_
    · rw [Array.getElem?_setIfInBounds, if_neg (by omega), hc0, cnt_same e ht']
    · rw [Array.getElem?_setIfInBounds]
      by_cases eq : q = i
      · subst eq; rw [if_pos (by omega), if_pos (by omega)]; simp [putV]
      · rw [if_neg (by omega), hcs q hq]; simp [putV, eq]
theorem set_ok : ∀ {t : Tr} {l p s : Nat}, IsH hv hash → WF hash t l p → p < 32 ^ l → hash k % 32 ^ l = p → l ≤ 7 → s = 5 * l → t ≠ .emp → (toL t).length ≤ 1000000 →
    SetC hv hash k x mu rb s t (setIn (hash k) k x t l) (getIn (hash k) k t l).isNone
  | .emp, l, p, s, hH, hW, hlt, hp, hl, hs, hne, hL => absurd rfl hne
  | .arr es, l, p, s, hH, hW, hlt, hp, hl, hs, hne, hL => hW.elim
  | .val h' k' x', l, p, s, hH, hW, hlt, hp, hl, hs, hne, hL => by
    intro h hr hrb hK
    refine setV_ok hH hW hp hl hs h hr hrb ?_
    have e : (getIn (hash k) k (Nd.val h' k' x') l).isNone = !decide (k' = k) := by
      rw [getIn]; by_cases hk : k' = k <;> simp [hk]
    rw [e] at hK; exact hK
  | .col h' es, l, p, s, hH, hW, hlt, hp, hl, hs, hne, hL => by
    intro h hr hrb hK
    refine setC_ok hH hW hp hl hs hL h hr hrb ?_
    have e : (getIn (hash k) k (Nd.col h' es) l).isNone = (!decide (h' = hash k) || (find es k).isNone) := by
      rw [getIn, look_find]
      cases hx : find es k with
      | none => simp
      | some i =>
        obtain ⟨hi, hik, _⟩ := find_some hx
        have : h' = hash k := by rw [← hW.2.2.1 es[i] (List.getElem_mem hi), hik]
        simp [this, hi]
    rw [e] at hK; exact hK
  | .br hs' f, l, p, s, hH, hW, hlt, hp, hl, hs, hne, hL => by
    obtain ⟨hl6, hWs, hup, _⟩ := hW
    have hi := frag_lt l (hash k)
    have hnext := next_lt (i := frag l (hash k)) hlt hi
    have hpre : hash k % 32 ^ (l + 1) = p + frag l (hash k) * 32 ^ l := by rw [mod_next, hp]
    have hne' := setIn_ne (x := x) hH (hWs _ hi) hpre hnext (by omega)
    have child : f (frag l (hash k)) ≠ .emp → SetC hv hash k x mu rb (s + 5) (f (frag l (hash k))) (setIn (hash k) k x (f (frag l (hash k))) (l + 1)) (getIn (hash k) k (f (frag l (hash k))) (l + 1)).isNone :=
      fun e => set_ok hH (hWs _ hi) hnext hpre (by omega) (by omega) e (Nat.le_trans (len_child (hs := hs') hi) hL)
    have he : f (frag l (hash k)) = .emp → setIn (hash k) k x (f (frag l (hash k))) (l + 1) = .val (hash k) k x ∧ (getIn (hash k) k (f (frag l (hash k))) (l + 1)).isNone = true := fun e => by
      rw [e]; exact ⟨rfl, rfl⟩
    rw [setIn, getIn]
    cases hs' with
    | false => rw [Bool.false_or]; exact setB_ok (p := p) hH hl6 hs rfl hne' _ he child
    | true => rw [Bool.true_or]; exact setH_ok (p := p) hH hl6 hs rfl hne' _ he child
end Go.Proofs.YtbghmbbhkoniiaaGreat.I
end
section
/- Setting a key behind a root. -/
namespace Go.Proofs.YtbghmbbhkoniiaaGreat.I
open Go.Vc Go.Proofs Go.Proofs.YtbghmbbhkoniiaaGreat Go.Vc.Nd
variable {w : World} {v hv : Value} {t : Tr} {F F' : Nat → Prop} {K : KV} {Kp : KP} {hash : Ky → Nat} {k : Ky} {x : Vl} {l s rb : Nat} {r0 mu : Bool}
def zeroE : Array Value := #[.int .i64 0, .int .i64 0]
theorem set_root (h : WF hash t 0 0) : Nd.set hash t k x = setIn (hash k) k x t 0 ∨ t = .emp := by
  cases t with
  | emp => exact .inr rfl
  | arr es => exact h.elim
  | _ => exact .inl rfl
theorem setIn_len (hH : IsH hv hash) (h : WF hash t 0 0) (hne : t ≠ .emp) : (toL (setIn (hash k) k x t 0)).length ≤ (toL t).length + 1 := by
  have := set_len (hash := hash) (k := k) (v := x) hH.lt (WFr.of h)
  rw [(set_root h).resolve_right hne] at this
  rw [this]; split <;> omega
theorem nil_set (h : Rep w t v F) (hne : t ≠ .emp) {K1 : Value → Prop} : (nice Tryz.prog).pur (.nilCheck (.func (.method "pub-bracken/pub/immutable.set") #[v] #[])) K1 = K1 (.func (.method "pub-bracken/pub/immutable.set") #[v] #[]) := by
  cases t with
  | emp => exact absurd rfl hne
  | arr es => obtain ⟨b, g, cap, rfl, _⟩ := h; simp [ptr]
  | val h' k x => obtain ⟨b, rfl, _⟩ := h; simp [ptr]
  | col h' es => obtain ⟨b, g, cap, rfl, _⟩ := h; simp [ptr]
  | br hs f => cases hs with
    | true => obtain ⟨b, cs, vs, Fs, rfl, _⟩ := h; simp [ptr]
    | false => obtain ⟨b, g, cap, vs, Fs, rfl, _⟩ := h; simp [ptr]
theorem setA_ok {es : List (Ky × Vl)} {kh : Value} (hH : IsH hv hash) (hL : es.length ≤ 8) (h : Rep w (.arr es) v F) (hr : flag w rb r0) (hrb : ¬ F rb)
    (hK : Sets w mu F rb (r0 || (find es k).isNone) (Nd.set hash (.arr es) k x) K) :
    (nice Tryz.prog).call (.inv v "pub-bracken/pub/immutable.set") [ek k, ev x, .int .u64 0, kh, hv, .bool mu, ptr rb] w K Kp := by
  obtain ⟨b, g, cap, rfl, h2, h3, h4, hb, h6, hg⟩ := h
  simp only [inv_153_103]
  refine vc103_calls ?_
  have hne : b ≠ rb := fun e => hrb (e ▸ h2)
  have hgr : g ≠ rb := fun e => hrb (e ▸ h3)
  have l1 := lt_of_get hb
  have l2 := lt_of_get hr
  have l3 := hg.lt
  simp [-getElem?_pos, -Array.getElem?_eq_getElem, -Int.natCast_add, add_spot, and_assoc, Br_dec, -op_box, -op_st_4, -op_st_22, -op_st_107, -op_st_157, -op_st_185, -op_st_156, -op_st_144, -op_st_2, -op_st_191, -op_alloc_159, -op_alloc_156, -op_alloc_191, -op_lit_157_1, -op_lit_157_2, -op_lit_185_1, -op_lit_185_2, vc103]
  refine indexA_ok hH hb hg h6 fun w1 k1 => ?_
  have hb1 := k1.get hb id
  have hg1 := hg.frame k1 id
  have hr1 := hr.frame k1 id
  have n1 := k1.size
  have hidx : ∀ {w : World} {K : KV} {Kp : KP}, (nice Tryz.prog).op (.bin .eql 3 false true (idxV (find es k)) (.int .i64 (-1))) w K Kp = K (.bool (find es k).isNone) w := fun {w K Kp} => by
    cases find es k with
    | none => simp [idxV]
    | some i => simp only [idxV, op_eql]; rw [decide_eq_false (by omega)]; rfl
  have hidn : ∀ {w : World} {K : KV} {Kp : KP}, (nice Tryz.prog).op (.bin .neq 3 false true (idxV (find es k)) (.int .i64 (-1))) w K Kp = K (.bool (find es k).isSome) w := fun {w K Kp} => by
    cases find es k with
    | none => simp [idxV]
    | some i => simp only [idxV, op_neq]; rw [decide_eq_false (by omega)]; rfl
  simp [-getElem?_pos, -Array.getElem?_eq_getElem, -Int.natCast_add, add_spot, and_assoc, Br_dec, -op_box, -op_st_4, -op_st_22, -op_st_107, -op_st_157, -op_st_185, -op_st_156, -op_st_144, -op_st_2, -op_st_191, -op_alloc_159, -op_alloc_156, -op_alloc_191, -op_lit_157_1, -op_lit_157_2, -op_lit_185_1, -op_lit_185_2, hidx, hidn, ptr]
  refine Jn.intro (fun w2 => Frm (· = rb) w1 w2 ∧ flag w2 rb (r0 || (find es k).isNone)) ⟨fun e => ?_, fun e => ⟨Frm.refl, ?_⟩, ?_⟩
  · exact raise_ok hr1 fun w2 k2 z2 f2 => ⟨k2, by simpa [e] using f2⟩
  · have : (find es k).isNone = false := by cases h : find es k <;> simp_all
    rw [this]; simpa using hr1
  rintro w2 ⟨k2, f2⟩
  have hb2 := k2.get hb1 hne
  have hg2 := hg1.frame k2 hgr
  have n2 := k2.size
  refine Jn.intro (fun w3 => w3 = w2 ∧ ¬ ((find es k).isNone = true ∧ 8 ≤ es.length)) ⟨fun e => ?_, fun e => ⟨rfl, fun h => ?_⟩, ?_⟩
  · have h8i : ((8 : Int) ≤ (es.length : Int)) ↔ 8 ≤ es.length := by omega
    simp [-getElem?_pos, -Array.getElem?_eq_getElem, -Int.natCast_add, add_spot, and_assoc, Br_dec, -op_box, -op_st_4, -op_st_22, -op_st_107, -op_st_157, -op_st_185, -op_st_156, -op_st_144, -op_st_2, -op_st_191, -op_alloc_159, -op_alloc_156, -op_alloc_191, -op_lit_157_1, -op_lit_157_2, -op_lit_185_1, -op_lit_185_2, ptr, hb2, e, h8i]
    intro h8
    have hset : Nd.set hash (.arr es) k x = es.foldl (fun n e => setIn (hash e.1) e.1 e.2 n 0) (.val (hash k) k x) := by
      show (if ((find es k).isNone && decide (8 ≤ es.length)) = true then _ else _) = _
      rw [e, decide_eq_true h8]; rfl
    rw [hset] at hK
    refine hH.hsh fun w3 k3 => ?_
    have hb3 := k3.get hb2 id
    have hg3 := hg2.frame k3 id
    have f3 := f2.frame k3 id
    have n3 := k3.size
    refine new_val_ok (x := x) fun bv w4 k4 lv lv2 r4 => ?_
    have hb4 := k4.get hb3 id
    have hg4 := hg3.frame k4 id
    have f4 := f3.frame k4 id
    rw [e] at f4 hK
    simp only [Option.isNone_none, Bool.or_true] at f4 hK
    simp [-getElem?_pos, -Array.getElem?_eq_getElem, -Int.natCast_add, add_spot, and_assoc, Br_dec, -op_box, -op_st_4, -op_st_22, -op_st_107, -op_st_157, -op_st_185, -op_st_156, -op_st_144, -op_st_2, -op_st_191, -op_alloc_159, -op_alloc_156, -op_alloc_191, -op_lit_157_1, -op_lit_157_2, -op_lit_185_1, -op_lit_185_2, hb4]
    obtain ⟨N, hN⟩ : ∃ N : Nat → Tr, ∀ j, N j = (es.take j).foldl (fun n e => setIn (hash e.1) e.1 e.2 n 0) (.val (hash k) k x) := ⟨_, fun _ => rfl⟩
    have hN0 : N 0 = .val (hash k) k x := by rw [hN]; rfl
    have hNs : ∀ j (hj : j < es.length), N (j + 1) = setIn (hash es[j].1) es[j].1 es[j].2 (N j) 0 := fun j hj => by
      rw [hN, hN, List.take_succ_eq_append_getElem hj, List.foldl_append]; rfl
    have hNe : N es.length = es.foldl (fun n e => setIn (hash e.1) e.1 e.2 n 0) (.val (hash k) k x) := by rw [hN, List.take_length]
    have hNW : ∀ j, j ≤ es.length → WF hash (N j) 0 0 ∧ N j ≠ .emp ∧ (toL (N j)).length ≤ j + 1 := fun j => by
      induction j with
      | zero => intro _; rw [hN0]; exact ⟨⟨rfl, by simp [Nat.mod_one]⟩, by simp, by simp [toL]⟩
      | succ j ih =>
        intro hj
        obtain ⟨i1, i2, i3⟩ := ih (by omega)
        rw [hNs j (by omega)]
        have hsp := setIn_spec (hash := hash) (k := es[j].1) (v := es[j].2) hH.lt (N j) 0 0 i1 (by decide) (mod_one _) (by decide)
        have hln := setIn_len (k := es[j].1) (x := es[j].2) hH i1 i2
        exact ⟨hsp.1, hsp.2.1, by omega⟩
    clear hN
    obtain ⟨I, hI⟩ : ∃ I : Value → KV, ∀ nv sv wl, I nv sv wl ↔ ∃ (j : Nat) (Fj : Nat → Prop), sv = Value.int .i64 j ∧ j ≤ es.length ∧ Frm (· = rb) w4 wl ∧ Rep wl (N j) nv Fj ∧ (∀ c, Fj c → w3.heap.size ≤ c) ∧ flag wl rb true := ⟨_, fun _ _ _ => Iff.rfl⟩
    refine Lp.intro I (fun _ sv _ => es.length - natOf sv) ⟨(hI _ _ _).2 ⟨0, _, rfl, by omega, Frm.refl, by rw [hN0]; exact r4, fun c hc => by omega, f4⟩, ?_⟩
    intro wl nv sv hs
    obtain ⟨j, Fj, rfl, hj, kl, rl, hFj, fl⟩ := (hI _ _ _).1 hs
    have hjlt : ((j : Int) < (es.length : Int)) ↔ j < es.length := by omega
    simp [-getElem?_pos, -Array.getElem?_eq_getElem, -Int.natCast_add, add_spot, and_assoc, Br_dec, -op_box, -op_st_4, -op_st_22, -op_st_107, -op_st_157, -op_st_185, -op_st_156, -op_st_144, -op_st_2, -op_st_191, -op_alloc_159, -op_alloc_156, -op_alloc_191, -op_lit_157_1, -op_lit_157_2, -op_lit_185_1, -op_lit_185_2, hjlt]
    refine ⟨fun hlt => ?_, fun hge => ?_⟩
    · obtain ⟨hW, hne', hLn⟩ := hNW j hj
      have hgl := hg4.frame kl (by omega)
      obtain ⟨cur, hcur, hcz, hpart⟩ := hgl.part
      have nl := kl.size
      have hp := hpart (j * 2) 2 (by rw [ents_len]; omega)
      have hpe : ((ents es).drop (j * 2)).take 2 = ent es[j] := by
        rw [ents_drop, List.drop_eq_getElem_cons hlt]
        show (ent es[j] ++ ents (es.drop (j + 1))).take 2 = _
        rw [← ent_len es[j], List.take_left]
      rw [hpe] at hp
      have hp1 := hp.1
      have hp2 := hp.2
      simp [-getElem?_pos, -Array.getElem?_eq_getElem, -Int.natCast_add, add_spot, and_assoc, Br_dec, -op_box, -op_st_4, -op_st_22, -op_st_107, -op_st_157, -op_st_185, -op_st_156, -op_st_144, -op_st_2, -op_st_191, -op_alloc_159, -op_alloc_156, -op_alloc_191, -op_lit_157_1, -op_lit_157_2, -op_lit_185_1, -op_lit_185_2, hlt, hcur, hp1, hp2]
      refine op_alloc_ok (z := .agg zeroE) (by kernel_rfl) fun w5 k5 z5 b5 => ?_
      simp only [cells_agg] at b5
      have q5 : Rw w5 156 2 wl.heap.size 1 zeroE.toList := Rw.lit (n := 1) rfl (by decide) (by simpa using b5)
      refine op_storeRN (n := 2) (by kernel_rfl) rfl q5 (by show 0 + 2 ≤ 2; omega) (fun u hu => ents_one (es := [es[j]]) u (by simpa [ents] using hu)) fun w6 k6 z6 q6 => ?_
      have q6 : Rw w6 156 2 wl.heap.size 1 (ents [es[j]]) := by
        have h : lw zeroE.toList 0 (ent es[j]) = ents [es[j]] := by rw [lw_all (zs := zeroE.toList) (l := ent es[j]) rfl]; simp [ents]
        rw [← h]; exact q6
      obtain ⟨c6, hc6, hk6⟩ := key_cell q6
      have hk6' := hk6 0 (by simp)
      simp only [Nat.zero_mul, Nat.zero_add, List.getElem_cons_zero] at hk6'
      have hk6a := hk6'.1
      have hk6b := hk6'.2
      have hnil := fun {K1 : Value → Prop} => nil_set (K1 := K1) rl hne'
      simp [-getElem?_pos, -Array.getElem?_eq_getElem, -Int.natCast_add, add_spot, and_assoc, Br_dec, -op_box, -op_st_4, -op_st_22, -op_st_107, -op_st_157, -op_st_185, -op_st_156, -op_st_144, -op_st_2, -op_st_191, -op_alloc_159, -op_alloc_156, -op_alloc_191, -op_lit_157_1, -op_lit_157_2, -op_lit_185_1, -op_lit_185_2, ptr, hc6, hk6a, hk6b, hnil]
      refine hH.hsh fun w7 k7 => ?_
      have k7 := Frm.dr k7
      have hc7 := k7.get hc6 id
      simp [-getElem?_pos, -Array.getElem?_eq_getElem, -Int.natCast_add, add_spot, and_assoc, Br_dec, -op_box, -op_st_4, -op_st_22, -op_st_107, -op_st_157, -op_st_185, -op_st_156, -op_st_144, -op_st_2, -op_st_191, -op_alloc_159, -op_alloc_156, -op_alloc_191, -op_lit_157_1, -op_lit_157_2, -op_lit_185_1, -op_lit_185_2, hc7, hk6a, hk6b]
      have kk := k5.fst (k6.tr k7)
      have r7 : Rep w7 (N j) nv (fun c => Fj c ∧ c < wl.heap.size) := rl.lt.frame kk fun c hc h => by rcases h with h | h; omega; exact h
      have f7 : flag w7 rb true := fl.frame kk fun h => by rcases h with h | h; omega; exact h
      have n6 := k6.size
      have n7 := k7.size
      refine set_ok (x := es[j].2) (s := 0) (p := 0) hH hW (by decide) (mod_one _) (by decide) rfl hne' (by omega) (r0 := true) r7 f7 (fun h => by have := hFj rb h.1; omega) fun v' w8 F' k8 r8 hF8 f8 => ?_
      rw [wrap_i64_small (by omega) (by omega)]
      refine ⟨(hI _ _ _).2 ⟨j + 1, F', by simp, by omega, (kl.old (kk.tr k8) fun c hc => ?_), by rw [hNs j hlt]; exact r8, fun c hc => ?_, by simpa using f8⟩, by simp only [natOf]; omega⟩
      · rcases hc with (hc | hc) | hc | hc
        · exact .inr (by omega)
        · exact hc.elim
        · exact .inl hc
        · exact absurd hc.1 (by decide)
      · rcases hF8 c hc with h | h
        · exact hFj c h.1
        · omega
    · obtain rfl : j = es.length := by omega
      rw [hNe] at rl
      have kall := k1.fst (k2.old ((k3.no k4).fst kl) fun c hc => .inl hc)
      exact hK _ wl Fj (kall.to fun c hc => .inl hc) rl (fun c hc => .inr (by have := hFj c hc; omega)) fl
  · have h1 := Option.isNone_iff_eq_none.1 h.1
    rw [h1] at e; cases e
  rintro w3 ⟨rfl, h8⟩
  have hc := hg2.cap_le h6
  have hset : Nd.set hash (.arr es) k x = .arr (upd es k x) := by
    have h8' : ((find es k).isNone && decide (8 ≤ es.length)) = false := by
      cases h : find es k with
      | none => rw [h] at h8; simp at h8 ⊢; omega
      | some i => rfl
    show (if ((find es k).isNone && decide (8 ≤ es.length)) = true then _ else _) = _
    rw [h8']; rfl
  rw [hset] at hK
  refine ⟨fun hm => ⟨fun e => ?_, fun e => ?_⟩, fun hm => ?_⟩
  · obtain ⟨i, hx⟩ := Option.isSome_iff_exists.1 e
    obtain ⟨hi, hik, _⟩ := find_some hx
    have hi' : i < es.length := hi
    simp [-getElem?_pos, -Array.getElem?_eq_getElem, -Int.natCast_add, add_spot, and_assoc, Br_dec, -op_box, -op_st_4, -op_st_22, -op_st_107, -op_st_157, -op_st_185, -op_st_156, -op_st_144, -op_st_2, -op_st_191, -op_alloc_159, -op_alloc_156, -op_alloc_191, -op_lit_157_1, -op_lit_157_2, -op_lit_185_1, -op_lit_185_2, idxV, hx, hb2, hi]
    refine op_storeRN (n := 2) (by kernel_rfl) rfl hg2 (by rw [ents_len]; omega) (fun u hu => ents_one (es := [(k, x)]) u (by simpa [ents, ent] using hu)) fun w4 k4 z4 hg4 => ?_
    have hg4 : Rw w4 156 2 g cap (ents (es.set i (k, x))) := Rw_to hg4 (ents_set_at hi (by omega) rfl)
    have hb4 := k4.get hb2 (fun e => h4 e.symm)
    refine hK _ w4 F ((k1.fst (k2.tr k4)).to fun c hc => hc.elim (fun h => .inl h) fun h => .inr ⟨hm, by rw [h]; exact h3⟩) ⟨b, g, cap, rfl, h2, h3, h4, ?_, ?_, ?_⟩ (fun _ h => .inl h) (f2.frame k4 (fun e => hgr e.symm))
    · simpa [upd, hx] using hb4
    · simpa [upd, hx] using h6
    · simpa [upd, hx] using hg4
  · have hx := e
    simp [-getElem?_pos, -Array.getElem?_eq_getElem, -Int.natCast_add, add_spot, and_assoc, Br_dec, -op_box, -op_st_4, -op_st_22, -op_st_107, -op_st_157, -op_st_185, -op_st_156, -op_st_144, -op_st_2, -op_st_191, -op_alloc_159, -op_alloc_156, -op_alloc_191, -op_lit_157_1, -op_lit_157_2, -op_lit_185_1, -op_lit_185_2, hb2]
    refine op_lit_ok lit_157_1 fun w4 k4 z4 b4 => ?_
    have hg4 := hg2.frame k4 id
    have hq : Rw w4 156 2 w3.heap.size 1 (ent (k, x)) := Rw.lit (n := 1) (ent_len _) (by decide) (by simpa [ent] using b4)
    refine op_appendR (m := 1) (apE) hg4 (ents_len es) h6 hq (by rw [ent_len]) (fun u hu => ents_one (es := [(k, x)]) u (by simpa [ents] using hu)) (by omega) (by omega) fun w5 g' cap' k5 hg5 hc5 hgg => ?_
    have hb4 := k4.get hb2 id
    have hb5 := k5.get hb4 (fun e => h4 e.symm)
    have n4 := k4.size
    refine op_store_ok (by kernel_rfl) hb5 (by simp) rfl fun w6 k6 z6 b6 => ?_
    have hgb : g' ≠ b := by
      rcases hgg with rfl | rfl
      · exact h4
      · omega
    have hrg : g' ≠ rb := by
      rcases hgg with rfl | rfl
      · exact hgr
      · omega
    have f6 := ((f2.frame k4 id).frame k5 (fun e => hgr e.symm)).frame k6 (fun e => hne e.symm)
    refine hK _ w6 (fun c => c = b ∨ c = g') ((k1.fst ((k2.tr (k4.fst k5)).tr k6)).to fun c hc => ?_) ⟨b, g', cap', rfl, .inl rfl, .inr rfl, hgb, ?_, ?_, ?_⟩ (fun c hc => ?_) f6
    · rcases hc with (hc | hc) | hc
      · exact .inl hc
      · exact .inr ⟨hm, hc ▸ h3⟩
      · exact .inr ⟨hm, hc ▸ h2⟩
    · simpa [upd, hx] using b6
    · simpa [upd, hx] using hc5
    · simpa [upd, hx, ents_append, ents] using hg5.frame k6 hgb
    · rcases hc with rfl | rfl
      · exact .inl h2
      · rcases hgg with rfl | rfl
        · exact .inl h3
        · exact .inr (by omega)
  · refine op_alloc_ok (z := .agg #[.slice none 0 0]) (by kernel_rfl) fun w4 k4 z4 bn4 => ?_
    simp only [cells_agg] at bn4
    have hb4 := k4.get hb2 id
    have hg4 := hg2.frame k4 id
    have f4 := f2.frame k4 id
    refine ⟨fun e => ?_, fun e => ?_⟩
    · obtain ⟨i, hx⟩ := Option.isSome_iff_exists.1 e
      obtain ⟨hi, hik, _⟩ := find_some hx
      simp [-getElem?_pos, -Array.getElem?_eq_getElem, -Int.natCast_add, add_spot, and_assoc, Br_dec, -op_box, -op_st_4, -op_st_22, -op_st_107, -op_st_157, -op_st_185, -op_st_156, -op_st_144, -op_st_2, -op_st_191, -op_alloc_159, -op_alloc_156, -op_alloc_191, -op_lit_157_1, -op_lit_157_2, -op_lit_185_1, -op_lit_185_2, hb4, idxV, hx]
      refine op_make_ok (n := es.length) apE (by omega) (by omega) fun w5 zs k5 z5 hzs q5 => ?_
      have bn5 := k5.get bn4 id
      have hb5 := k5.get hb4 id
      have hg5 := hg4.frame k5 id
      have f5 := f4.frame k5 id
      refine op_store_ok (by kernel_rfl) bn5 (by simp) rfl fun w6 k6 z6 bn6 => ?_
      have hb6 := k6.get hb5 (by omega)
      have hg6 := hg5.frame k6 (by omega)
      have f6 := f5.frame k6 (by omega)
      have q6 := q5.frame k6 (by omega)
      simp [-getElem?_pos, -Array.getElem?_eq_getElem, -Int.natCast_add, add_spot, and_assoc, Br_dec, -op_box, -op_st_4, -op_st_22, -op_st_107, -op_st_157, -op_st_185, -op_st_156, -op_st_144, -op_st_2, -op_st_191, -op_alloc_159, -op_alloc_156, -op_alloc_191, -op_lit_157_1, -op_lit_157_2, -op_lit_185_1, -op_lit_185_2, bn6, hb6]
      refine op_copyR (n := es.length) (by kernel_rfl) q6.drew hg6.drew (by omega) (by rw [hzs]; omega) (by rw [ents_len]; omega) ents_one fun w7 k7 z7 q7 => ?_
      have k7 := Frm.dr k7
      have bn7 := k7.get bn6 (by omega)
      have f7 := f6.frame k7 (by omega)
      have hq : lw zs 0 (List.take (es.length * 2) (List.drop 0 (ents es))) = ents es := by
        rw [List.drop_zero, List.take_of_length_le (by rw [ents_len]; omega), lw_all (by rw [hzs, ents_len])]
      rw [hq] at q7
      simp [-getElem?_pos, -Array.getElem?_eq_getElem, -Int.natCast_add, add_spot, and_assoc, Br_dec, -op_box, -op_st_4, -op_st_22, -op_st_107, -op_st_157, -op_st_185, -op_st_156, -op_st_144, -op_st_2, -op_st_191, -op_alloc_159, -op_alloc_156, -op_alloc_191, -op_lit_157_1, -op_lit_157_2, -op_lit_185_1, -op_lit_185_2, bn7, hi]
      refine op_storeRN (n := 2) (by kernel_rfl) rfl q7 (by rw [ents_len]; omega) (fun u hu => ents_one (es := [(k, x)]) u (by simpa [ents, ent] using hu)) fun w8 k8 z8 q8 => ?_
      have bn8 := k8.get bn7 (by omega)
      have f8 := f7.frame k8 (by omega)
      have q8 : Rw w8 156 2 w4.heap.size es.length (ents (es.set i (k, x))) := Rw_to q8 (ents_set_at hi (by omega) rfl)
      have kall := k1.fst (k2.old (k4.fst (k5.fst (k6.tr (k7.tr k8)))) fun c hc => .inr (by omega))
      refine hK _ w8 (fun c => c = w3.heap.size ∨ c = w4.heap.size) (kall.to fun c hc => .inl hc) ⟨w3.heap.size, w4.heap.size, es.length, rfl, .inl rfl, .inr rfl, by omega, ?_, ?_, ?_⟩ (fun c hc => .inr (by omega)) f8
      · simpa [upd, hx] using bn8
      · simp [upd, hx]
      · simpa [upd, hx] using q8
    · have hx := e
      simp [-getElem?_pos, -Array.getElem?_eq_getElem, -Int.natCast_add, add_spot, and_assoc, Br_dec, -op_box, -op_st_4, -op_st_22, -op_st_107, -op_st_157, -op_st_185, -op_st_156, -op_st_144, -op_st_2, -op_st_191, -op_alloc_159, -op_alloc_156, -op_alloc_191, -op_lit_157_1, -op_lit_157_2, -op_lit_185_1, -op_lit_185_2, hb4, wrap_i64_small (n := (es.length : Int) + 1) (by omega) (by omega)]
      refine op_make_ok (n := es.length + 1) apE (by omega) (by omega) fun w5 zs k5 z5 hzs q5 => ?_
      have bn5 := k5.get bn4 id
      have hb5 := k5.get hb4 id
      have hg5 := hg4.frame k5 id
      have f5 := f4.frame k5 id
      refine op_store_ok (by kernel_rfl) bn5 (by simp) rfl fun w6 k6 z6 bn6 => ?_
      have hb6 := k6.get hb5 (by omega)
      have hg6 := hg5.frame k6 (by omega)
      have f6 := f5.frame k6 (by omega)
      have q6 := q5.frame k6 (by omega)
      simp [-getElem?_pos, -Array.getElem?_eq_getElem, -Int.natCast_add, add_spot, and_assoc, Br_dec, -op_box, -op_st_4, -op_st_22, -op_st_107, -op_st_157, -op_st_185, -op_st_156, -op_st_144, -op_st_2, -op_st_191, -op_alloc_159, -op_alloc_156, -op_alloc_191, -op_lit_157_1, -op_lit_157_2, -op_lit_185_1, -op_lit_185_2, bn6, hb6]
      refine op_copyR (n := es.length) (by kernel_rfl) q6.drew hg6.drew (by omega) (by rw [hzs]; omega) (by rw [ents_len]; omega) ents_one fun w7 k7 z7 q7 => ?_
      have k7 := Frm.dr k7
      have bn7 := k7.get bn6 (by omega)
      have f7 := f6.frame k7 (by omega)
      have hq : lw zs 0 (List.take (es.length * 2) (List.drop 0 (ents es))) = ents es ++ zs.drop (es.length * 2) := by
        rw [List.drop_zero, List.take_of_length_le (by rw [ents_len]; omega), lw_first, ents_len]
      rw [hq] at q7
      have hm1 : IntKind.i64.wrap (((es.length + 1 : Nat) : Int) - 1) = (es.length : Int) := by rw [IntKind.wrap_i64]; omega
      simp [-getElem?_pos, -Array.getElem?_eq_getElem, -Int.natCast_add, add_spot, and_assoc, Br_dec, -op_box, -op_st_4, -op_st_22, -op_st_107, -op_st_157, -op_st_185, -op_st_156, -op_st_144, -op_st_2, -op_st_191, -op_alloc_159, -op_alloc_156, -op_alloc_191, -op_lit_157_1, -op_lit_157_2, -op_lit_185_1, -op_lit_185_2, bn7, hm1]
      refine op_storeRN (n := 2) (by kernel_rfl) rfl q7 (by simp [ents_len, hzs] <;> omega) (fun u hu => ents_one (es := [(k, x)]) u (by simpa [ents, ent] using hu)) fun w8 k8 z8 q8 => ?_
      have bn8 := k8.get bn7 (by omega)
      have f8 := f7.frame k8 (by omega)
      have q8 : Rw w8 156 2 w4.heap.size (es.length + 1) (ents (es ++ [(k, x)])) := Rw_to q8 (ents_snoc_at (by rw [List.length_drop, hzs]; omega) (by omega) rfl)
      have kall := k1.fst (k2.old (k4.fst (k5.fst (k6.tr (k7.tr k8)))) fun c hc => .inr (by omega))
      refine hK _ w8 (fun c => c = w3.heap.size ∨ c = w4.heap.size) (kall.to fun c hc => .inl hc) ⟨w3.heap.size, w4.heap.size, es.length + 1, rfl, .inl rfl, .inr rfl, by omega, ?_, ?_, ?_⟩ (fun c hc => .inr (by omega)) f8
      · simpa [upd, hx] using bn8
      · simp [upd, hx]
      · simpa [upd, hx] using q8
theorem root_set_ok (hH : IsH hv hash) (hW : WFr hash t) (hne : t ≠ .emp) (hL : (toL t).length ≤ 1000000) (h : Rep w t v F) (hr : flag w rb r0) (hrb : ¬ F rb) (hK : Sets w mu F rb (r0 || (getIn (hash k) k t 0).isNone) (Nd.set hash t k x) K) :
    (nice Tryz.prog).call (.inv v "pub-bracken/pub/immutable.set") [ek k, ev x, .int .u64 0, .int .u32 (hash k), hv, .bool mu, ptr rb] w K Kp := by
  have go : WF hash t 0 0 → (nice Tryz.prog).call (.inv v "pub-bracken/pub/immutable.set") [ek k, ev x, .int .u64 0, .int .u32 (hash k), hv, .bool mu, ptr rb] w K Kp := fun hW' => by
    rw [(set_root hW').resolve_right hne] at hK
    exact set_ok (s := 0) (p := 0) hH hW' (by decide) (mod_one _) (by decide) rfl hne hL h hr hrb hK
  cases t with
  | emp => exact absurd rfl hne
  | arr es =>
    refine setA_ok hH hW.2.1 h hr hrb ?_
    have e : (getIn (hash k) k (Nd.arr es) 0).isNone = (find es k).isNone := by
      rw [getIn, look_find]
      cases hx : find es k with
      | none => rfl
      | some i =>
        obtain ⟨hi, hik, _⟩ := find_some hx
        simp [hi]
    rw [e] at hK; exact hK
  | br hs f => exact go hW
  | val h' k' x' => exact go hW
  | col h' es => exact go hW
end Go.Proofs.YtbghmbbhkoniiaaGreat.I
end
