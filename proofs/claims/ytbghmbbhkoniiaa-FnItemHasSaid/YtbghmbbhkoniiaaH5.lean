import Derived.Test.YtbghmbbhkoniiaaH4
import Derived.Test.YtbghmbbhkoniiaaH0
import Derived.Test.YtbghmbbhkoniiaaH1
import Derived.Test.YtbghmbbhkoniiaaH2
section
set_option linter.unusedVariables false
set_option maxRecDepth 100000
namespace Go.Proofs.Ytbghmbbhkoniiaa
open Go.Vc Go.Proofs
private theorem follows_MVcS : Try.prog.follows .mixedOrders = true := by kernel_rfl

def vc10 (S : Sig) (a0 a1 a2 a3 a4 : Value) (w : World) (K : Value → World → Prop) (Kp : KP) : Prop :=
 S.op (.box 24 a0) w (fun v5_h w =>
 S.op (.blt .len [65] 3 [a1]) w (fun v19 w =>
 S.op (.bin .gtr 3 false true v19 (.int .i64 2147483647)) w (fun v20 w =>
 Br v20 (
 K (.bool true) w) (
 S.op (.blt .len [25] 3 [a2]) w (fun v23 w =>
 S.op (.bin .gtr 3 false true v23 (.int .i64 2147483647)) w (fun v24 w =>
 Br v24 (
 K (.bool true) w) (
 S.op (.blt .len [65] 3 [a4]) w (fun v28 w =>
 S.op (.bin .gtr 3 false true v28 (.int .i64 2147483647)) w (fun v29 w =>
 Br v29 (
 K (.bool true) w) (
 S.op (.load 24 v5_h) w (fun v31 w =>
 S.call (.fn 12) [v31, a2] w (fun v33 w =>
 S.op (.un .not v33) w (fun v34 w =>
 Br v34 (
 S.call (.fn 13) [] w (fun v45 w =>
 K v45 w) Kp) (
 S.op (.blt .len [65] 3 [a1]) w (fun v37 w =>
 S.op (.bin .gtr 3 false true v37 (.int .i64 2000)) w (fun v38 w =>
 Br v38 (
 S.call (.fn 13) [] w (fun v45 w =>
 K v45 w) Kp) (
 S.op (.blt .len [65] 3 [a4]) w (fun v42 w =>
 S.op (.bin .gtr 3 false true v42 (.int .i64 300)) w (fun v43 w =>
 Br v43 (
 S.call (.fn 13) [] w (fun v45 w =>
 K v45 w) Kp) (
 S.call (.fn 28) [a1, a2] w (fun v48 w =>
 S.op (.conv 5 3 a3) w (fun v50 w =>
 S.op (.blt .len [28] 3 [v48]) w (fun v52 w =>
 S.op (.bin .rem 3 false false v50 v52) w (fun v53 w =>
 S.ld (.load 24 v5_h) w.drew (fun v54 =>
 S.call (.fn 15) [a2] w.drew (fun v57 w =>
 S.same (.load 24 v5_h) v54 w ∧
 S.call (.fn 29) [v54, a1, v57, v53, a4] w (fun v60 w =>
 S.op (.blt .len [49] 3 [v60]) w (fun v62 w =>
 S.op (.blt .len [65] 3 [a4]) w (fun v64 w =>
 S.op (.bin .neq 3 false false v62 v64) w (fun v65 w =>
 Br v65 (
 K (.bool false) w) (
 S.op (.blt .len [65] 3 [a4]) w (fun v67 w =>
 Lp fun (I11 : Value → World → Prop) (μ11 : Value → World → Nat) => I11 (.int .i64 0) w ∧
 ∀ (wl11 : World) (junk : Nat → Value) (s68_ : Value), I11 s68_ wl11 →
 S.op (.bin .lss 3 false false s68_ v67) wl11 (fun v69 w =>
 Br v69 (
 S.op (.indexAddr 65 a4 s68_) w (fun v71 w =>
 S.op (.load 2 v71) w (fun v72 w =>
 S.op (.indexAddr 28 v48 v53) w (fun v76 w =>
 S.op (.load 30 v76) w (fun v77 w =>
 S.op (.lookup 30 v77 v72 true) w (fun v79 w =>
 S.op (.extract v79 0) w (fun v80 w =>
 S.op (.extract v79 1) w (fun v81 w =>
 S.op (.indexAddr 49 v60 s68_) w (fun v84 w =>
 S.op (.load 4 v84) w (fun v85 w =>
 S.op (.bin .neq 4 false false v85 v81) w (fun v87 w =>
 Br v87 (
 K (.bool false) w) (
 S.op (.bin .add 3 false true s68_ (.int .i64 1)) w (fun v88 w =>
 I11 v88 w ∧ μ11 v88 w < μ11 s68_ wl11) Kp)) Kp) Kp) Kp) Kp) Kp) Kp) Kp) Kp) Kp) Kp) (
 S.call (.fn 13) [] w (fun v89 w =>
 K v89 w) Kp)) Kp) Kp)) Kp) Kp) Kp) Kp) Kp)) Kp) Kp) Kp) Kp)) Kp) Kp)) Kp) Kp)) Kp) Kp) Kp)) Kp) Kp)) Kp) Kp)) Kp) Kp) Kp
theorem vc10_eq (S : Sig) (a0 a1 a2 a3 a4 : Value) (w : World) (K : Value → World → Prop) (Kp : KP) : vc10 S a0 a1 a2 a3 a4 w K Kp = fVC S [(11, [68])] [] Try.f10 [a0, a1, a2, a3, a4] w K Kp := by kernel_rfl
theorem vc10_calls {a0 a1 a2 a3 a4 : Value} {w : World} {K : Value → World → Prop} {Kp : KP} (h : vc10 (nice Try.prog) a0 a1 a2 a3 a4 w K Kp) : Calls Try.prog 10 #[a0, a1, a2, a3, a4] w (ret K Kp) :=
 fVC_sound (args := [a0, a1, a2, a3, a4]) nice_le follows_MVcS Try.func10 (by kernel_rfl) (Eq.mp (vc10_eq _ _ _ _ _ _ _ _ _) h)

def vc28 (S : Sig) (a0 a1 : Value) (w : World) (K : Value → World → Prop) (Kp : KP) : Prop :=
 S.op (.mkMap 30 none) w (fun v11 w =>
 S.op (.blt .len [65] 3 [a0]) w (fun v13 w =>
 Lp fun (I3 : Value → World → Prop) (μ3 : Value → World → Nat) => I3 (.int .i64 0) w ∧
 ∀ (wl3 : World) (junk : Nat → Value) (s14_ : Value), I3 s14_ wl3 →
 S.op (.bin .lss 3 false false s14_ v13) wl3 (fun v15 w =>
 Br v15 (
 S.op (.indexAddr 65 a0 s14_) w (fun v16 w =>
 S.op (.load 2 v16) w (fun v17 w =>
 S.op (.mapUpdate 30 v11 v17 (.int .i64 0)) w (fun _ w =>
 S.op (.bin .add 3 false true s14_ (.int .i64 1)) w (fun v20 w =>
 I3 v20 w ∧ μ3 v20 w < μ3 s14_ wl3) Kp) Kp) Kp) Kp) (
 S.op (.buildSlice 28 1 [(0, v11)]) w (fun v22 w =>
 S.op (.blt .len [25] 3 [a1]) w (fun v24 w =>
 Lp fun (I9 : Value → Value → World → Prop) (μ9 : Value → Value → World → Nat) => I9 v22 (.int .i64 0) w ∧
 ∀ (wl9 : World) (junk : Nat → Value) (s8_out : Value) (s25_ : Value), I9 s8_out s25_ wl9 →
 S.op (.bin .lss 3 false false s25_ v24) wl9 (fun v26 w =>
 Br v26 (
 S.op (.indexAddr 25 a1 s25_) w (fun v27 w =>
 S.op (.load 82 v27) w (fun v28 w =>
 S.op (.alloc 82) w (fun v10_s w =>
 S.op (.store 82 v10_s v28) w (fun _ w =>
 S.pur (.fieldAddr 82 v10_s 1) (fun v31 =>
 S.ld (.load 3 v31) w.drew (fun v32 =>
 S.pur (.indexAddr 28 s8_out v32) (fun v33 =>
 S.ld (.load 30 v33) w.drew (fun v34 =>
 S.ld (.load 82 v10_s) w.drew (fun v35 =>
 S.call (.fn 33) [v34, v35] w.drew (fun v36 w =>
 S.op (.buildSlice 28 1 [(0, v36)]) w (fun v37 w =>
 S.op (.blt .append [28, 28] 28 [s8_out, v37]) w (fun v38 w =>
 S.op (.bin .add 3 false true s25_ (.int .i64 1)) w (fun v39 w =>
 I9 v38 v39 w ∧ μ9 v38 v39 w < μ9 s8_out s25_ wl9) Kp) Kp) Kp) Kp)))))) Kp) Kp) Kp) Kp) (
 K s8_out w)) Kp) Kp) Kp)) Kp) Kp) Kp
theorem vc28_eq (S : Sig) (a0 a1 : Value) (w : World) (K : Value → World → Prop) (Kp : KP) : vc28 S a0 a1 w K Kp = fVC S [(3, [14]), (9, [8, 25])] [] Try.f28 [a0, a1] w K Kp := by kernel_rfl
theorem vc28_calls {a0 a1 : Value} {w : World} {K : Value → World → Prop} {Kp : KP} (h : vc28 (nice Try.prog) a0 a1 w K Kp) : Calls Try.prog 28 #[a0, a1] w (ret K Kp) :=
 fVC_sound (args := [a0, a1]) nice_le follows_MVcS Try.func28 (by kernel_rfl) (Eq.mp (vc28_eq _ _ _ _ _ _) h)

def vc29 (S : Sig) (a0 a1 a2 a3 a4 : Value) (w : World) (K : Value → World → Prop) (Kp : KP) : Prop :=
 S.op (.box 24 a0) w (fun v5_h w =>
 S.op (.load 24 v5_h) w (fun v15 w =>
 S.call (.fn 54) [v15, a1, a2] w (fun v18 w =>
 S.op (.bin .lss 3 false true a3 (.int .i64 0)) w (fun v20 w =>
 Br v20 (
 K (.slice none 0 0) w) (
 S.op (.blt .len [114] 3 [v18]) w (fun v24 w =>
 S.op (.bin .geq 3 false false a3 v24) w (fun v25 w =>
 Br v25 (
 K (.slice none 0 0) w) (
 S.op (.blt .len [65] 3 [a4]) w (fun v28 w =>
 Lp fun (I6 : Value → Value → World → Prop) (μ6 : Value → Value → World → Nat) => I6 (.slice none 0 0) (.int .i64 0) w ∧
 ∀ (wl6 : World) (junk : Nat → Value) (s12_out : Value) (s29_ : Value), I6 s12_out s29_ wl6 →
 S.op (.bin .lss 3 false false s29_ v28) wl6 (fun v30 w =>
 Br v30 (
 S.op (.indexAddr 65 a4 s29_) w (fun v31 w =>
 S.op (.load 2 v31) w (fun v32 w =>
 S.op (.indexAddr 114 v18 a3) w (fun v36 w =>
 S.op (.load 118 v36) w (fun v37 w =>
 S.call (.fn 55) [v37, v32] w (fun v39 w =>
 S.op (.buildSlice 49 1 [(0, v39)]) w (fun v40 w =>
 S.op (.blt .append [49, 49] 49 [s12_out, v40]) w (fun v41 w =>
 S.op (.bin .add 3 false true s29_ (.int .i64 1)) w (fun v42 w =>
 I6 v41 v42 w ∧ μ6 v41 v42 w < μ6 s12_out s29_ wl6) Kp) Kp) Kp) Kp) Kp) Kp) Kp) Kp) (
 K s12_out w)) Kp) Kp)) Kp) Kp)) Kp) Kp) Kp) Kp
theorem vc29_eq (S : Sig) (a0 a1 a2 a3 a4 : Value) (w : World) (K : Value → World → Prop) (Kp : KP) : vc29 S a0 a1 a2 a3 a4 w K Kp = fVC S [(6, [12, 29])] [] Try.f29 [a0, a1, a2, a3, a4] w K Kp := by kernel_rfl
theorem vc29_calls {a0 a1 a2 a3 a4 : Value} {w : World} {K : Value → World → Prop} {Kp : KP} (h : vc29 (nice Try.prog) a0 a1 a2 a3 a4 w K Kp) : Calls Try.prog 29 #[a0, a1, a2, a3, a4] w (ret K Kp) :=
 fVC_sound (args := [a0, a1, a2, a3, a4]) nice_le follows_MVcS Try.func29 (by kernel_rfl) (Eq.mp (vc29_eq _ _ _ _ _ _ _ _ _) h)

def vc54 (S : Sig) (a0 a1 a2 : Value) (w : World) (K : Value → World → Prop) (Kp : KP) : Prop :=
 S.op (.box 24 a0) w (fun v3_h w =>
 S.op (.load 24 v3_h) w (fun v13 w =>
 S.call (.fn 41) [v13] w (fun v14 w =>
 S.call (.fn 77) [v14, a1] w (fun v16 w =>
 S.op (.buildSlice 114 1 [(0, v16)]) w (fun v17 w =>
 S.op (.blt .len [32] 3 [a2]) w (fun v19 w =>
 Lp fun (I3 : Value → Value → World → Prop) (μ3 : Value → Value → World → Nat) => I3 v17 (.int .i64 0) w ∧
 ∀ (wl3 : World) (junk : Nat → Value) (s7_l : Value) (s20_ : Value), I3 s7_l s20_ wl3 →
 S.op (.bin .lss 3 false false s20_ v19) wl3 (fun v21 w =>
 Br v21 (
 S.op (.indexAddr 32 a2 s20_) w (fun v22 w =>
 S.op (.load 35 v22) w (fun v23 w =>
 S.op (.alloc 35) w (fun v9_s w =>
 S.op (.store 35 v9_s v23) w (fun _ w =>
 S.op (.load 24 v3_h) w (fun v24 w =>
 S.call (.fn 41) [v24] w (fun v25 w =>
 S.call (.fn 77) [v25, (.slice none 0 0)] w (fun v26 w =>
 S.op (.alloc 118) w (fun v10_m w =>
 S.op (.store 118 v10_m v26) w (fun _ w =>
 Jn fun (J23 : World → Prop) =>
 (S.op (.load 35 v9_s) w (fun v27 w =>
 S.op (.blt .len [114] 3 [s7_l]) w (fun v29 w =>
 S.call (.fn 67) [v27, v29] w (fun v30 w =>
 Br v30 (
 S.op (.fieldAddr 35 v9_s 1) w (fun v32 w =>
 S.op (.load 3 v32) w (fun v33 w =>
 S.op (.indexAddr 114 s7_l v33) w (fun v34 w =>
 S.op (.load 118 v34) w (fun v35 w =>
 S.op (.store 118 v10_m v35) w (fun _ w =>
 S.op (.fieldAddr 35 v9_s 0) w (fun v36 w =>
 S.op (.load 5 v36) w (fun v37 w =>
 S.op (.bin .eql 5 false true v37 (.int .u8 0)) w (fun v39 w =>
 Br v39 (
 S.op (.load 118 v10_m) w (fun v40 w =>
 S.op (.fieldAddr 35 v9_s 2) w (fun v41 w =>
 S.op (.load 2 v41) w (fun v42 w =>
 S.call (.fn 78) [v40, v42] w (fun v43 w =>
 S.op (.store 118 v10_m v43) w (fun _ w =>
 J23 w) Kp) Kp) Kp) Kp) Kp) (
 S.op (.bin .eql 5 false true v37 (.int .u8 1)) w (fun v45 w =>
 Br v45 (
 S.op (.load 118 v10_m) w (fun v46 w =>
 S.op (.fieldAddr 35 v9_s 2) w (fun v47 w =>
 S.op (.load 2 v47) w (fun v48 w =>
 S.call (.fn 79) [v46, v48] w (fun v49 w =>
 S.op (.store 118 v10_m v49) w (fun _ w =>
 J23 w) Kp) Kp) Kp) Kp) Kp) (
 S.op (.bin .eql 5 false true v37 (.int .u8 2)) w (fun v51 w =>
 Br v51 (
 Lp fun (I15 : Value → World → Prop) (μ15 : Value → World → Nat) => I15 (.int .i64 0) w ∧
 ∀ (wl15 : World) (junk : Nat → Value) (s11_i : Value), I15 s11_i wl15 →
 S.op (.fieldAddr 35 v9_s 4) wl15 (fun v53 w =>
 S.op (.load 3 v53) w (fun v54 w =>
 S.op (.bin .lss 3 false false s11_i v54) w (fun v55 w =>
 Br v55 (
 S.op (.load 118 v10_m) w (fun v58 w =>
 S.op (.fieldAddr 35 v9_s 2) w (fun v59 w =>
 S.op (.load 2 v59) w (fun v60 w =>
 S.op (.fieldAddr 35 v9_s 3) w (fun v62 w =>
 S.op (.load 2 v62) w (fun v63 w =>
 S.op (.bin .mul 2 false false s11_i v63) w (fun v64 w =>
 S.op (.bin .add 2 false false v60 v64) w (fun v65 w =>
 S.call (.fn 78) [v58, v65] w (fun v66 w =>
 S.op (.store 118 v10_m v66) w (fun _ w =>
 S.op (.bin .add 3 false true s11_i (.int .i64 1)) w (fun v57 w =>
 I15 v57 w ∧ μ15 v57 w < μ15 s11_i wl15) Kp) Kp) Kp) Kp) Kp) Kp) Kp) Kp) Kp) Kp) (
 J23 w)) Kp) Kp) Kp) (
 S.op (.bin .eql 5 false true v37 (.int .u8 3)) w (fun v68 w =>
 Br v68 (
 Lp fun (I20 : Value → World → Prop) (μ20 : Value → World → Nat) => I20 (.int .i64 0) w ∧
 ∀ (wl20 : World) (junk : Nat → Value) (s12_i : Value), I20 s12_i wl20 →
 S.op (.fieldAddr 35 v9_s 4) wl20 (fun v70 w =>
 S.op (.load 3 v70) w (fun v71 w =>
 S.op (.bin .lss 3 false false s12_i v71) w (fun v72 w =>
 Br v72 (
 S.op (.load 118 v10_m) w (fun v75 w =>
 S.op (.fieldAddr 35 v9_s 2) w (fun v76 w =>
 S.op (.load 2 v76) w (fun v77 w =>
 S.op (.fieldAddr 35 v9_s 3) w (fun v79 w =>
 S.op (.load 2 v79) w (fun v80 w =>
 S.op (.bin .mul 2 false false s12_i v80) w (fun v81 w =>
 S.op (.bin .add 2 false false v77 v81) w (fun v82 w =>
 S.call (.fn 79) [v75, v82] w (fun v83 w =>
 S.op (.store 118 v10_m v83) w (fun _ w =>
 S.op (.bin .add 3 false true s12_i (.int .i64 1)) w (fun v74 w =>
 I20 v74 w ∧ μ20 v74 w < μ20 s12_i wl20) Kp) Kp) Kp) Kp) Kp) Kp) Kp) Kp) Kp) Kp) (
 J23 w)) Kp) Kp) Kp) (
 J23 w)) Kp)) Kp)) Kp)) Kp) Kp) Kp) Kp) Kp) Kp) Kp) Kp) (
 J23 w)) Kp) Kp) Kp) ∧
 (∀ (w : World) (junk : Nat → Value), J23 w →
 S.op (.load 118 v10_m) w (fun v85 w =>
 S.op (.buildSlice 114 1 [(0, v85)]) w (fun v86 w =>
 S.op (.blt .append [114, 114] 114 [s7_l, v86]) w (fun v87 w =>
 S.op (.bin .add 3 false true s20_ (.int .i64 1)) w (fun v88 w =>
 I3 v87 v88 w ∧ μ3 v87 v88 w < μ3 s7_l s20_ wl3) Kp) Kp) Kp) Kp)) Kp) Kp) Kp) Kp) Kp) Kp) Kp) Kp) Kp) (
 K s7_l w)) Kp) Kp) Kp) Kp) Kp) Kp) Kp
theorem vc54_eq (S : Sig) (a0 a1 a2 : Value) (w : World) (K : Value → World → Prop) (Kp : KP) : vc54 S a0 a1 a2 w K Kp = fVC S [(3, [7, 20]), (15, [11]), (20, [12])] [(23, [])] Try.f54 [a0, a1, a2] w K Kp := by kernel_rfl
theorem vc54_calls {a0 a1 a2 : Value} {w : World} {K : Value → World → Prop} {Kp : KP} (h : vc54 (nice Try.prog) a0 a1 a2 w K Kp) : Calls Try.prog 54 #[a0, a1, a2] w (ret K Kp) :=
 fVC_sound (args := [a0, a1, a2]) nice_le follows_MVcS Try.func54 (by kernel_rfl) (Eq.mp (vc54_eq _ _ _ _ _ _ _) h)

def vc77 (S : Sig) (a0 a1 : Value) (w : World) (K : Value → World → Prop) (Kp : KP) : Prop :=
 S.op (.alloc 118) w (fun v4 w =>
 S.call (.fn 89) [a0] w (fun v9 w =>
 S.op (.blt .len [65] 3 [a1]) w (fun v11 w =>
 Lp fun (I3 : Value → Value → World → Prop) (μ3 : Value → Value → World → Nat) => I3 v9 (.int .i64 0) w ∧
 ∀ (wl3 : World) (junk : Nat → Value) (s5_m : Value) (s12_ : Value), I3 s5_m s12_ wl3 →
 S.op (.bin .lss 3 false false s12_ v11) wl3 (fun v13 w =>
 Br v13 (
 S.op (.indexAddr 65 a1 s12_) w (fun v14 w =>
 S.op (.load 2 v14) w (fun v15 w =>
 S.op (.build 190 []) w (fun v18 w =>
 S.call (.fn 90) [s5_m, v15, v18, (.bool true)] w (fun v19 w =>
 S.op (.bin .add 3 false true s12_ (.int .i64 1)) w (fun v20 w =>
 I3 v19 v20 w ∧ μ3 v19 v20 w < μ3 s5_m s12_ wl3) Kp) Kp) Kp) Kp) Kp) (
 S.op (.build 118 [(0, s5_m)]) w (fun v22 w =>
 S.op (.store 118 v4 v22) w (fun _ w =>
 S.ld (.load 118 v4) w (fun r0 =>
 K r0 w)) Kp) Kp)) Kp) Kp) Kp) Kp
theorem vc77_eq (S : Sig) (a0 a1 : Value) (w : World) (K : Value → World → Prop) (Kp : KP) : vc77 S a0 a1 w K Kp = fVC S [(3, [5, 12])] [] Try.f77 [a0, a1] w K Kp := by kernel_rfl
theorem vc77_calls {a0 a1 : Value} {w : World} {K : Value → World → Prop} {Kp : KP} (h : vc77 (nice Try.prog) a0 a1 w K Kp) : Calls Try.prog 77 #[a0, a1] w (ret K Kp) :=
 fVC_sound (args := [a0, a1]) nice_le follows_MVcS Try.func77 (by kernel_rfl) (Eq.mp (vc77_eq _ _ _ _ _ _) h)

def vc78 (S : Sig) (a0 a1 : Value) (w : World) (K : Value → World → Prop) (Kp : KP) : Prop :=
 S.op (.box 118 a0) w (fun v2_s w =>
 S.op (.alloc 118) w (fun v4 w =>
 S.op (.fieldAddr 118 v2_s 0) w (fun v5 w =>
 S.op (.load 116 v5) w (fun v6 w =>
 S.op (.build 190 []) w (fun v8 w =>
 S.call (.fn 91) [v6, a1, v8] w (fun v9 w =>
 S.op (.build 118 [(0, v9)]) w (fun v10 w =>
 S.op (.store 118 v4 v10) w (fun _ w =>
 S.ld (.load 118 v4) w (fun r0 =>
 K r0 w)) Kp) Kp) Kp) Kp) Kp) Kp) Kp) Kp
theorem vc78_eq (S : Sig) (a0 a1 : Value) (w : World) (K : Value → World → Prop) (Kp : KP) : vc78 S a0 a1 w K Kp = fVC S [] [] Try.f78 [a0, a1] w K Kp := by kernel_rfl
theorem vc78_calls {a0 a1 : Value} {w : World} {K : Value → World → Prop} {Kp : KP} (h : vc78 (nice Try.prog) a0 a1 w K Kp) : Calls Try.prog 78 #[a0, a1] w (ret K Kp) :=
 fVC_sound (args := [a0, a1]) nice_le follows_MVcS Try.func78 (by kernel_rfl) (Eq.mp (vc78_eq _ _ _ _ _ _) h)

def vc79 (S : Sig) (a0 a1 : Value) (w : World) (K : Value → World → Prop) (Kp : KP) : Prop :=
 S.op (.box 118 a0) w (fun v2_s w =>
 S.op (.alloc 118) w (fun v4 w =>
 S.op (.fieldAddr 118 v2_s 0) w (fun v5 w =>
 S.op (.load 116 v5) w (fun v6 w =>
 S.call (.fn 92) [v6, a1] w (fun v8 w =>
 S.op (.build 118 [(0, v8)]) w (fun v9 w =>
 S.op (.store 118 v4 v9) w (fun _ w =>
 S.ld (.load 118 v4) w (fun r0 =>
 K r0 w)) Kp) Kp) Kp) Kp) Kp) Kp) Kp
theorem vc79_eq (S : Sig) (a0 a1 : Value) (w : World) (K : Value → World → Prop) (Kp : KP) : vc79 S a0 a1 w K Kp = fVC S [] [] Try.f79 [a0, a1] w K Kp := by kernel_rfl
theorem vc79_calls {a0 a1 : Value} {w : World} {K : Value → World → Prop} {Kp : KP} (h : vc79 (nice Try.prog) a0 a1 w K Kp) : Calls Try.prog 79 #[a0, a1] w (ret K Kp) :=
 fVC_sound (args := [a0, a1]) nice_le follows_MVcS Try.func79 (by kernel_rfl) (Eq.mp (vc79_eq _ _ _ _ _ _) h)

def vc80 (S : Sig) (a0 a1 : Value) (w : World) (K : Value → World → Prop) (Kp : KP) : Prop :=
 S.op (.alloc 190) w (fun v4_value w =>
 S.op (.alloc 190) w (fun v6_empty w =>
 S.op (.nilCheck a0) w (fun v9 w =>
 S.op (.fieldAddr 228 v9 1) w (fun v10 w =>
 S.op (.load 226 v10) w (fun v11 w =>
 S.op (.bin .eql 226 false true v11 .nilIface) w (fun v12 w =>
 Br v12 (
 S.op (.load 190 v6_empty) w (fun v13 w =>
 S.op (.store 190 v4_value v13) w (fun _ w =>
 S.ld (.load 190 v4_value) w (fun r0 =>
 K (.tuple #[r0, (.bool false)]) w)) Kp) Kp) (
 S.op (.nilCheck a0) w (fun v15 w =>
 S.op (.fieldAddr 228 v15 2) w (fun v16 w =>
 S.op (.load 99 v16) w (fun v17 w =>
 S.call (.inv v17 "Hash") [a1] w (fun v19 w =>
 S.pur (.nilCheck a0) (fun v21 =>
 S.pur (.fieldAddr 228 v21 1) (fun v22 =>
 S.ld (.load 226 v22) w.drew (fun v23 =>
 S.pur (.nilCheck a0) (fun v27 =>
 S.pur (.fieldAddr 228 v27 2) (fun v28 =>
 S.ld (.load 99 v28) w.drew (fun v29 =>
 S.pur (.nilCheck v23) (fun v30 =>
 S.call (.inv v23 "pub-bracken/pub/immutable.get") [a1, (.int .u64 0), v19, v29] w.drew (fun v32 w =>
 S.pur (.extract v32 0) (fun v33 =>
 S.pur (.extract v32 1) (fun v34 =>
 S.op (.store 190 v4_value v33) w (fun _ w =>
 S.ld (.load 190 v4_value) w (fun r0 =>
 K (.tuple #[r0, v34]) w)) Kp))) Kp)))))))) Kp) Kp) Kp) Kp)) Kp) Kp) Kp) Kp) Kp) Kp
theorem vc80_eq (S : Sig) (a0 a1 : Value) (w : World) (K : Value → World → Prop) (Kp : KP) : vc80 S a0 a1 w K Kp = fVC S [] [] Try.f80 [a0, a1] w K Kp := by kernel_rfl
theorem vc80_calls {a0 a1 : Value} {w : World} {K : Value → World → Prop} {Kp : KP} (h : vc80 (nice Try.prog) a0 a1 w K Kp) : Calls Try.prog 80 #[a0, a1] w (ret K Kp) :=
 fVC_sound (args := [a0, a1]) nice_le follows_MVcS Try.func80 (by kernel_rfl) (Eq.mp (vc80_eq _ _ _ _ _ _) h)

def vc55 (S : Sig) (a0 a1 : Value) (w : World) (K : Value → World → Prop) (Kp : KP) : Prop :=
 S.op (.box 118 a0) w (fun v2_s w =>
 S.op (.fieldAddr 118 v2_s 0) w (fun v8 w =>
 S.op (.load 116 v8) w (fun v9 w =>
 S.call (.fn 80) [v9, a1] w (fun v11 w =>
 S.op (.extract v11 0) w (fun v12 w =>
 S.op (.extract v11 1) w (fun v13 w =>
 S.op (.alloc 190) w (fun v5 w =>
 S.op (.store 190 v5 v12) w (fun _ w =>
 K v13 w) Kp) Kp) Kp) Kp) Kp) Kp) Kp) Kp
theorem vc55_eq (S : Sig) (a0 a1 : Value) (w : World) (K : Value → World → Prop) (Kp : KP) : vc55 S a0 a1 w K Kp = fVC S [] [] Try.f55 [a0, a1] w K Kp := by kernel_rfl
theorem vc55_calls {a0 a1 : Value} {w : World} {K : Value → World → Prop} {Kp : KP} (h : vc55 (nice Try.prog) a0 a1 w K Kp) : Calls Try.prog 55 #[a0, a1] w (ret K Kp) :=
 fVC_sound (args := [a0, a1]) nice_le follows_MVcS Try.func55 (by kernel_rfl) (Eq.mp (vc55_eq _ _ _ _ _ _) h)

def vc89 (S : Sig) (a0 : Value) (w : World) (K : Value → World → Prop) (Kp : KP) : Prop :=
 S.op (.build 228 [(2, a0)]) w (fun v4 w =>
 S.op (.box 228 v4) w (fun v5 w =>
 K v5 w) Kp) Kp
theorem vc89_eq (S : Sig) (a0 : Value) (w : World) (K : Value → World → Prop) (Kp : KP) : vc89 S a0 w K Kp = fVC S [] [] Try.f89 [a0] w K Kp := by kernel_rfl
theorem vc89_calls {a0 : Value} {w : World} {K : Value → World → Prop} {Kp : KP} (h : vc89 (nice Try.prog) a0 w K Kp) : Calls Try.prog 89 #[a0] w (ret K Kp) :=
 fVC_sound (args := [a0]) nice_le follows_MVcS Try.func89 (by kernel_rfl) (Eq.mp (vc89_eq _ _ _ _ _) h)

def vc90 (S : Sig) (a0 a1 a2 a3 : Value) (w : World) (K : Value → World → Prop) (Kp : KP) : Prop :=
 S.op (.box 190 a2) w (fun v6_value w =>
 S.op (.nilCheck a0) w (fun v13 w =>
 S.op (.fieldAddr 228 v13 2) w (fun v14 w =>
 S.op (.load 99 v14) w (fun v15 w =>
 Jn fun (J4 : Value → World → Prop) =>
 (S.op (.bin .eql 99 false true v15 .nilIface) w (fun v17 w =>
 Br v17 (
 S.call (.fn 84) [a1] w (fun v19 w =>
 J4 v19 w) Kp) (
 J4 v15 w)) Kp) ∧
 (∀ (w : World) (junk : Nat → Value) (j9_hasher : Value), J4 j9_hasher w →
 Jn fun (J7 : Value → World → Prop) =>
 (S.op (.un .not a3) w (fun v22 w =>
 Br v22 (
 S.call (.fn 93) [a0] w (fun v24 w =>
 J7 v24 w) Kp) (
 J7 a0 w)) Kp) ∧
 (∀ (w : World) (junk : Nat → Value) (j10_other : Value), J7 j10_other w →
 S.op (.nilCheck j10_other) w (fun v27 w =>
 S.op (.fieldAddr 228 v27 2) w (fun v28 w =>
 S.op (.store 99 v28 j9_hasher) w (fun _ w =>
 S.op (.nilCheck a0) w (fun v30 w =>
 S.op (.fieldAddr 228 v30 1) w (fun v31 w =>
 S.op (.load 226 v31) w (fun v32 w =>
 S.op (.bin .eql 226 false true v32 .nilIface) w (fun v33 w =>
 Br v33 (
 S.op (.nilCheck j10_other) w (fun v35 w =>
 S.op (.fieldAddr 228 v35 0) w (fun v36 w =>
 S.op (.store 3 v36 (.int .i64 1)) w (fun _ w =>
 S.op (.load 190 v6_value) w (fun v39 w =>
 S.op (.build 242 [(0, a1), (1, v39)]) w (fun v40 w =>
 S.op (.buildSlice 243 1 [(0, v40)]) w (fun v41 w =>
 S.op (.build 245 [(0, v41)]) w (fun v42 w =>
 S.op (.box 245 v42) w (fun v43 w =>
 S.op (.mkIface 240 v43) w (fun v44 w =>
 S.op (.nilCheck j10_other) w (fun v45 w =>
 S.op (.fieldAddr 228 v45 1) w (fun v46 w =>
 S.op (.store 226 v46 v44) w (fun _ w =>
 K j10_other w) Kp) Kp) Kp) Kp) Kp) Kp) Kp) Kp) Kp) Kp) Kp) Kp) (
 S.op (.alloc 4) w (fun v11_resized w =>
 S.pur (.nilCheck a0) (fun v50 =>
 S.pur (.fieldAddr 228 v50 1) (fun v51 =>
 S.ld (.load 226 v51) w.drew (fun v52 =>
 S.ld (.load 190 v6_value) w.drew (fun v54 =>
 S.pur (.nilCheck v52) (fun v60 =>
 S.call (.inv j9_hasher "Hash") [a1] w.drew (fun v57 w =>
 S.same (.load 190 v6_value) v54 w ∧
 S.same (.load 226 v51) v52 w ∧
 S.call (.inv v52 "pub-bracken/pub/immutable.set") [a1, v54, (.int .u64 0), v57, j9_hasher, a3, v11_resized] w (fun v62 w =>
 S.pur (.nilCheck j10_other) (fun v63 =>
 S.pur (.fieldAddr 228 v63 1) (fun v64 =>
 S.op (.store 226 v64 v62) w (fun _ w =>
 S.op (.load 4 v11_resized) w (fun v65 w =>
 Br v65 (
 S.op (.nilCheck j10_other) w (fun v67 w =>
 S.op (.fieldAddr 228 v67 0) w (fun v68 w =>
 S.op (.load 3 v68) w (fun v69 w =>
 S.op (.bin .add 3 false true v69 (.int .i64 1)) w (fun v70 w =>
 S.op (.nilCheck j10_other) w (fun v71 w =>
 S.op (.fieldAddr 228 v71 0) w (fun v72 w =>
 S.op (.store 3 v72 v70) w (fun _ w =>
 K j10_other w) Kp) Kp) Kp) Kp) Kp) Kp) Kp) (
 K j10_other w)) Kp) Kp))) Kp) Kp)))))) Kp)) Kp) Kp) Kp) Kp) Kp) Kp) Kp))) Kp) Kp) Kp) Kp
theorem vc90_eq (S : Sig) (a0 a1 a2 a3 : Value) (w : World) (K : Value → World → Prop) (Kp : KP) : vc90 S a0 a1 a2 a3 w K Kp = fVC S [] [(4, [9]), (7, [10])] Try.f90 [a0, a1, a2, a3] w K Kp := by kernel_rfl
theorem vc90_calls {a0 a1 a2 a3 : Value} {w : World} {K : Value → World → Prop} {Kp : KP} (h : vc90 (nice Try.prog) a0 a1 a2 a3 w K Kp) : Calls Try.prog 90 #[a0, a1, a2, a3] w (ret K Kp) :=
 fVC_sound (args := [a0, a1, a2, a3]) nice_le follows_MVcS Try.func90 (by kernel_rfl) (Eq.mp (vc90_eq _ _ _ _ _ _ _ _) h)

def vc91 (S : Sig) (a0 a1 a2 : Value) (w : World) (K : Value → World → Prop) (Kp : KP) : Prop :=
 S.op (.box 190 a2) w (fun v5_value w =>
 S.op (.load 190 v5_value) w (fun v9 w =>
 S.call (.fn 90) [a0, a1, v9, (.bool false)] w (fun v10 w =>
 K v10 w) Kp) Kp) Kp
theorem vc91_eq (S : Sig) (a0 a1 a2 : Value) (w : World) (K : Value → World → Prop) (Kp : KP) : vc91 S a0 a1 a2 w K Kp = fVC S [] [] Try.f91 [a0, a1, a2] w K Kp := by kernel_rfl
theorem vc91_calls {a0 a1 a2 : Value} {w : World} {K : Value → World → Prop} {Kp : KP} (h : vc91 (nice Try.prog) a0 a1 a2 w K Kp) : Calls Try.prog 91 #[a0, a1, a2] w (ret K Kp) :=
 fVC_sound (args := [a0, a1, a2]) nice_le follows_MVcS Try.func91 (by kernel_rfl) (Eq.mp (vc91_eq _ _ _ _ _ _ _) h)

def vc92 (S : Sig) (a0 a1 : Value) (w : World) (K : Value → World → Prop) (Kp : KP) : Prop :=
 S.call (.fn 94) [a0, a1, (.bool false)] w (fun v7 w =>
 K v7 w) Kp
theorem vc92_eq (S : Sig) (a0 a1 : Value) (w : World) (K : Value → World → Prop) (Kp : KP) : vc92 S a0 a1 w K Kp = fVC S [] [] Try.f92 [a0, a1] w K Kp := by kernel_rfl
theorem vc92_calls {a0 a1 : Value} {w : World} {K : Value → World → Prop} {Kp : KP} (h : vc92 (nice Try.prog) a0 a1 w K Kp) : Calls Try.prog 92 #[a0, a1] w (ret K Kp) :=
 fVC_sound (args := [a0, a1]) nice_le follows_MVcS Try.func92 (by kernel_rfl) (Eq.mp (vc92_eq _ _ _ _ _ _) h)

def vc93 (S : Sig) (a0 : Value) (w : World) (K : Value → World → Prop) (Kp : KP) : Prop :=
 S.op (.nilCheck a0) w (fun v5 w =>
 S.op (.load 228 v5) w (fun v6 w =>
 S.op (.alloc 228) w (fun v3_other w =>
 S.op (.store 228 v3_other v6) w (fun _ w =>
 K v3_other w) Kp) Kp) Kp) Kp
theorem vc93_eq (S : Sig) (a0 : Value) (w : World) (K : Value → World → Prop) (Kp : KP) : vc93 S a0 w K Kp = fVC S [] [] Try.f93 [a0] w K Kp := by kernel_rfl
theorem vc93_calls {a0 : Value} {w : World} {K : Value → World → Prop} {Kp : KP} (h : vc93 (nice Try.prog) a0 w K Kp) : Calls Try.prog 93 #[a0] w (ret K Kp) :=
 fVC_sound (args := [a0]) nice_le follows_MVcS Try.func93 (by kernel_rfl) (Eq.mp (vc93_eq _ _ _ _ _) h)

def vc94 (S : Sig) (a0 a1 a2 : Value) (w : World) (K : Value → World → Prop) (Kp : KP) : Prop :=
 S.op (.nilCheck a0) w (fun v11 w =>
 S.op (.fieldAddr 228 v11 1) w (fun v12 w =>
 S.op (.load 226 v12) w (fun v13 w =>
 S.op (.bin .eql 226 false true v13 .nilIface) w (fun v14 w =>
 Br v14 (
 K a0 w) (
 S.op (.alloc 4) w (fun v7_resized w =>
 S.pur (.nilCheck a0) (fun v17 =>
 S.pur (.fieldAddr 228 v17 1) (fun v18 =>
 S.ld (.load 226 v18) w.drew (fun v19 =>
 S.pur (.nilCheck a0) (fun v22 =>
 S.pur (.fieldAddr 228 v22 2) (fun v23 =>
 S.ld (.load 99 v23) w.drew (fun v24 =>
 S.pur (.nilCheck a0) (fun v28 =>
 S.pur (.fieldAddr 228 v28 2) (fun v29 =>
 S.ld (.load 99 v29) w.drew (fun v30 =>
 S.pur (.nilCheck v19) (fun v32 =>
 S.call (.inv v24 "Hash") [a1] w.drew (fun v26 w =>
 S.same (.load 99 v29) v30 w ∧
 S.same (.load 226 v18) v19 w ∧
 S.call (.inv v19 "pub-bracken/pub/immutable.delete") [a1, (.int .u64 0), v26, v30, a2, v7_resized] w (fun v34 w =>
 S.op (.load 4 v7_resized) w (fun v35 w =>
 S.op (.un .not v35) w (fun v36 w =>
 Br v36 (
 K a0 w) (
 S.op (.un .not a2) w (fun v40 w =>
 Br v40 (
 S.call (.fn 93) [a0] w (fun v42 w =>
 S.op (.nilCheck a0) w (fun v45 w =>
 S.op (.fieldAddr 228 v45 0) w (fun v46 w =>
 S.op (.load 3 v46) w (fun v47 w =>
 S.op (.bin .sub 3 false true v47 (.int .i64 1)) w (fun v48 w =>
 S.op (.nilCheck v42) w (fun v49 w =>
 S.op (.fieldAddr 228 v49 0) w (fun v50 w =>
 S.op (.store 3 v50 v48) w (fun _ w =>
 S.op (.nilCheck v42) w (fun v53 w =>
 S.op (.fieldAddr 228 v53 1) w (fun v54 w =>
 S.op (.store 226 v54 v34) w (fun _ w =>
 K v42 w) Kp) Kp) Kp) Kp) Kp) Kp) Kp) Kp) Kp) Kp) Kp) (
 S.op (.nilCheck a0) w (fun v45 w =>
 S.op (.fieldAddr 228 v45 0) w (fun v46 w =>
 S.op (.load 3 v46) w (fun v47 w =>
 S.op (.bin .sub 3 false true v47 (.int .i64 1)) w (fun v48 w =>
 S.op (.nilCheck a0) w (fun v49 w =>
 S.op (.fieldAddr 228 v49 0) w (fun v50 w =>
 S.op (.store 3 v50 v48) w (fun _ w =>
 S.op (.nilCheck a0) w (fun v53 w =>
 S.op (.fieldAddr 228 v53 1) w (fun v54 w =>
 S.op (.store 226 v54 v34) w (fun _ w =>
 K a0 w) Kp) Kp) Kp) Kp) Kp) Kp) Kp) Kp) Kp) Kp)) Kp)) Kp) Kp) Kp) Kp))))))))))) Kp)) Kp) Kp) Kp) Kp
theorem vc94_eq (S : Sig) (a0 a1 a2 : Value) (w : World) (K : Value → World → Prop) (Kp : KP) : vc94 S a0 a1 a2 w K Kp = fVC S [] [] Try.f94 [a0, a1, a2] w K Kp := by kernel_rfl
theorem vc94_calls {a0 a1 a2 : Value} {w : World} {K : Value → World → Prop} {Kp : KP} (h : vc94 (nice Try.prog) a0 a1 a2 w K Kp) : Calls Try.prog 94 #[a0, a1, a2] w (ret K Kp) :=
 fVC_sound (args := [a0, a1, a2]) nice_le follows_MVcS Try.func94 (by kernel_rfl) (Eq.mp (vc94_eq _ _ _ _ _ _ _) h)

def vc167 (S : Sig) (a0 a1 a2 a3 a4 a5 a6 : Value) (w : World) (K : Value → World → Prop) (Kp : KP) : Prop :=
 S.call (.fn 169) [a0, a1, a4] w (fun v20 w =>
 S.op (.bin .eql 3 false true v20 (.int .i64 (-1))) w (fun v22 w =>
 Br v22 (
 S.op (.mkIface 240 a0) w (fun v24 w =>
 K v24 w) Kp) (
 S.op (.nilCheck a6) w (fun v26 w =>
 S.op (.store 4 v26 (.bool true)) w (fun _ w =>
 S.op (.nilCheck a0) w (fun v28 w =>
 S.op (.fieldAddr 245 v28 0) w (fun v29 w =>
 S.op (.load 243 v29) w (fun v30 w =>
 S.op (.blt .len [243] 3 [v30]) w (fun v31 w =>
 S.op (.bin .eql 3 false true v31 (.int .i64 1)) w (fun v32 w =>
 Br v32 (
 K .nilIface w) (
 Br a5 (
 S.pur (.nilCheck a0) (fun v35 =>
 S.pur (.fieldAddr 245 v35 0) (fun v36 =>
 S.ld (.load 243 v36) w.drew (fun v37 =>
 S.pur (.slice 243 v37 (some v20) none none) (fun v39 =>
 S.pur (.nilCheck a0) (fun v41 =>
 S.pur (.fieldAddr 245 v41 0) (fun v42 =>
 S.ld (.load 243 v42) w.drew (fun v43 =>
 S.pur (.bin .add 3 false true v20 (.int .i64 1)) (fun v45 =>
 S.pur (.slice 243 v43 (some v45) none none) (fun v46 =>
 S.op (.blt .copy [243, 243] 3 [v39, v46]) w.drew (fun v47 w =>
 S.pur (.nilCheck a0) (fun v49 =>
 S.pur (.fieldAddr 245 v49 0) (fun v50 =>
 S.ld (.load 243 v50) w.drew (fun v51 =>
 S.pur (.nilCheck a0) (fun v53 =>
 S.pur (.fieldAddr 245 v53 0) (fun v54 =>
 S.ld (.load 243 v54) w.drew (fun v55 =>
 S.ld (.blt .len [243] 3 [v55]) w.drew (fun v56 =>
 S.pur (.bin .sub 3 false true v56 (.int .i64 1)) (fun v57 =>
 S.pur (.build 242 []) (fun v58 =>
 S.pur (.indexAddr 243 v51 v57) (fun v59 =>
 S.op (.store 242 v59 v58) w.drew (fun _ w =>
 S.pur (.nilCheck a0) (fun v62 =>
 S.pur (.fieldAddr 245 v62 0) (fun v63 =>
 S.ld (.load 243 v63) w.drew (fun v64 =>
 S.pur (.nilCheck a0) (fun v66 =>
 S.pur (.fieldAddr 245 v66 0) (fun v67 =>
 S.ld (.load 243 v67) w.drew (fun v68 =>
 S.ld (.blt .len [243] 3 [v68]) w.drew (fun v69 =>
 S.pur (.bin .sub 3 false true v69 (.int .i64 1)) (fun v70 =>
 S.pur (.slice 243 v64 none (some v70) none) (fun v71 =>
 S.pur (.nilCheck a0) (fun v72 =>
 S.pur (.fieldAddr 245 v72 0) (fun v73 =>
 S.op (.store 243 v73 v71) w.drew (fun _ w =>
 S.op (.mkIface 240 a0) w (fun v75 w =>
 K v75 w) Kp) Kp)))))))))))) Kp))))))))))) Kp)))))))))) (
 S.op (.nilCheck a0) w (fun v77 w =>
 S.op (.fieldAddr 245 v77 0) w (fun v78 w =>
 S.op (.load 243 v78) w (fun v79 w =>
 S.op (.blt .len [243] 3 [v79]) w (fun v80 w =>
 S.op (.bin .sub 3 false true v80 (.int .i64 1)) w (fun v81 w =>
 S.op (.mkSlice 243 v81 v81) w (fun v82 w =>
 S.op (.build 245 [(0, v82)]) w (fun v83 w =>
 S.op (.box 245 v83) w (fun v84 w =>
 S.pur (.nilCheck v84) (fun v86 =>
 S.pur (.fieldAddr 245 v86 0) (fun v87 =>
 S.ld (.load 243 v87) w.drew (fun v88 =>
 S.pur (.slice 243 v88 none (some v20) none) (fun v90 =>
 S.pur (.nilCheck a0) (fun v92 =>
 S.pur (.fieldAddr 245 v92 0) (fun v93 =>
 S.ld (.load 243 v93) w.drew (fun v94 =>
 S.pur (.slice 243 v94 none (some v20) none) (fun v96 =>
 S.op (.blt .copy [243, 243] 3 [v90, v96]) w.drew (fun v97 w =>
 S.pur (.nilCheck v84) (fun v99 =>
 S.pur (.fieldAddr 245 v99 0) (fun v100 =>
 S.ld (.load 243 v100) w.drew (fun v101 =>
 S.pur (.slice 243 v101 (some v20) none none) (fun v103 =>
 S.pur (.nilCheck a0) (fun v105 =>
 S.pur (.fieldAddr 245 v105 0) (fun v106 =>
 S.ld (.load 243 v106) w.drew (fun v107 =>
 S.pur (.bin .add 3 false true v20 (.int .i64 1)) (fun v109 =>
 S.pur (.slice 243 v107 (some v109) none none) (fun v110 =>
 S.op (.blt .copy [243, 243] 3 [v103, v110]) w.drew (fun v111 w =>
 S.op (.mkIface 240 v84) w (fun v113 w =>
 K v113 w) Kp) Kp)))))))))) Kp))))))))) Kp) Kp) Kp) Kp) Kp) Kp) Kp) Kp))) Kp) Kp) Kp) Kp) Kp) Kp) Kp)) Kp) Kp
theorem vc167_eq (S : Sig) (a0 a1 a2 a3 a4 a5 a6 : Value) (w : World) (K : Value → World → Prop) (Kp : KP) : vc167 S a0 a1 a2 a3 a4 a5 a6 w K Kp = fVC S [] [] Try.f167 [a0, a1, a2, a3, a4, a5, a6] w K Kp := by kernel_rfl
theorem vc167_calls {a0 a1 a2 a3 a4 a5 a6 : Value} {w : World} {K : Value → World → Prop} {Kp : KP} (h : vc167 (nice Try.prog) a0 a1 a2 a3 a4 a5 a6 w K Kp) : Calls Try.prog 167 #[a0, a1, a2, a3, a4, a5, a6] w (ret K Kp) :=
 fVC_sound (args := [a0, a1, a2, a3, a4, a5, a6]) nice_le follows_MVcS Try.func167 (by kernel_rfl) (Eq.mp (vc167_eq _ _ _ _ _ _ _ _ _ _ _) h)

def vc168 (S : Sig) (a0 a1 a2 a3 a4 : Value) (w : World) (K : Value → World → Prop) (Kp : KP) : Prop :=
 S.op (.alloc 190) w (fun v10_value w =>
 S.call (.fn 169) [a0, a1, a4] w (fun v16 w =>
 S.op (.bin .eql 3 false true v16 (.int .i64 (-1))) w (fun v18 w =>
 Br v18 (
 S.op (.load 190 v10_value) w (fun v19 w =>
 S.op (.store 190 v10_value v19) w (fun _ w =>
 S.ld (.load 190 v10_value) w (fun r0 =>
 K (.tuple #[r0, (.bool false)]) w)) Kp) Kp) (
 S.op (.nilCheck a0) w (fun v21 w =>
 S.op (.fieldAddr 245 v21 0) w (fun v22 w =>
 S.op (.load 243 v22) w (fun v23 w =>
 S.op (.indexAddr 243 v23 v16) w (fun v25 w =>
 S.op (.fieldAddr 242 v25 1) w (fun v26 w =>
 S.op (.load 190 v26) w (fun v27 w =>
 S.op (.store 190 v10_value v27) w (fun _ w =>
 S.ld (.load 190 v10_value) w (fun r0 =>
 K (.tuple #[r0, (.bool true)]) w)) Kp) Kp) Kp) Kp) Kp) Kp) Kp)) Kp) Kp) Kp
theorem vc168_eq (S : Sig) (a0 a1 a2 a3 a4 : Value) (w : World) (K : Value → World → Prop) (Kp : KP) : vc168 S a0 a1 a2 a3 a4 w K Kp = fVC S [] [] Try.f168 [a0, a1, a2, a3, a4] w K Kp := by kernel_rfl
theorem vc168_calls {a0 a1 a2 a3 a4 : Value} {w : World} {K : Value → World → Prop} {Kp : KP} (h : vc168 (nice Try.prog) a0 a1 a2 a3 a4 w K Kp) : Calls Try.prog 168 #[a0, a1, a2, a3, a4] w (ret K Kp) :=
 fVC_sound (args := [a0, a1, a2, a3, a4]) nice_le follows_MVcS Try.func168 (by kernel_rfl) (Eq.mp (vc168_eq _ _ _ _ _ _ _ _ _) h)

def vc169 (S : Sig) (a0 a1 a2 : Value) (w : World) (K : Value → World → Prop) (Kp : KP) : Prop :=
 S.op (.nilCheck a0) w (fun v9 w =>
 S.op (.fieldAddr 245 v9 0) w (fun v10 w =>
 S.op (.load 243 v10) w (fun v11 w =>
 S.op (.blt .len [243] 3 [v11]) w (fun v12 w =>
 Lp fun (I2 : Value → World → Prop) (μ2 : Value → World → Nat) => I2 (.int .i64 0) w ∧
 ∀ (wl2 : World) (junk : Nat → Value) (s13_ : Value), I2 s13_ wl2 →
 S.op (.bin .lss 3 false false s13_ v12) wl2 (fun v14 w =>
 Br v14 (
 S.pur (.nilCheck a0) (fun v18 =>
 S.pur (.fieldAddr 245 v18 0) (fun v19 =>
 S.ld (.load 243 v19) w.drew (fun v20 =>
 S.pur (.indexAddr 243 v20 s13_) (fun v22 =>
 S.pur (.fieldAddr 242 v22 0) (fun v23 =>
 S.ld (.load 2 v23) w.drew (fun v24 =>
 S.pur (.mkFunc (Fn.method "Equal") [a2] []) (fun v26 =>
 S.pur (.nilCheck v26) (fun v27 =>
 S.call (.inv a2 "Equal") [v24, a1] w.drew (fun v29 w =>
 Br v29 (
 K s13_ w) (
 S.op (.bin .add 3 false true s13_ (.int .i64 1)) w (fun v31 w =>
 I2 v31 w ∧ μ2 v31 w < μ2 s13_ wl2) Kp)) Kp))))))))) (
 K (.int .i64 (-1)) w)) Kp) Kp) Kp) Kp) Kp
theorem vc169_eq (S : Sig) (a0 a1 a2 : Value) (w : World) (K : Value → World → Prop) (Kp : KP) : vc169 S a0 a1 a2 w K Kp = fVC S [(2, [13])] [] Try.f169 [a0, a1, a2] w K Kp := by kernel_rfl
theorem vc169_calls {a0 a1 a2 : Value} {w : World} {K : Value → World → Prop} {Kp : KP} (h : vc169 (nice Try.prog) a0 a1 a2 w K Kp) : Calls Try.prog 169 #[a0, a1, a2] w (ret K Kp) :=
 fVC_sound (args := [a0, a1, a2]) nice_le follows_MVcS Try.func169 (by kernel_rfl) (Eq.mp (vc169_eq _ _ _ _ _ _ _) h)

def vc170 (S : Sig) (a0 a1 a2 a3 a4 a5 a6 a7 : Value) (w : World) (K : Value → World → Prop) (Kp : KP) : Prop :=
 S.op (.box 190 a2) w (fun v10_value w =>
 S.call (.fn 169) [a0, a1, a5] w (fun v25 w =>
 Jn fun (J4 : World → Prop) =>
 (S.op (.bin .eql 3 false true v25 (.int .i64 (-1))) w (fun v27 w =>
 Br v27 (
 S.op (.nilCheck a7) w (fun v29 w =>
 S.op (.store 4 v29 (.bool true)) w (fun _ w =>
 J4 w) Kp) Kp) (
 J4 w)) Kp) ∧
 (∀ (w : World) (junk : Nat → Value), J4 w →
 Jn fun (J12 : World → Prop) =>
 (S.op (.bin .eql 3 false true v25 (.int .i64 (-1))) w (fun v31 w =>
 Br v31 (
 S.op (.nilCheck a0) w (fun v34 w =>
 S.op (.fieldAddr 245 v34 0) w (fun v35 w =>
 S.op (.load 243 v35) w (fun v36 w =>
 S.op (.blt .len [243] 3 [v36]) w (fun v37 w =>
 S.op (.bin .geq 3 false true v37 (.int .i64 8)) w (fun v38 w =>
 Br v38 (
 S.ld (.load 190 v10_value) w.drew (fun v44 =>
 S.call (.inv a5 "Hash") [a1] w.drew (fun v42 w =>
 S.same (.load 190 v10_value) v44 w ∧
 S.call (.fn 171) [v42, a1, v44] w (fun v45 w =>
 S.pur (.mkIface 283 v45) (fun v46 =>
 S.op (.nilCheck a0) w (fun v48 w =>
 S.op (.fieldAddr 245 v48 0) w (fun v49 w =>
 S.op (.load 243 v49) w (fun v50 w =>
 S.op (.blt .len [243] 3 [v50]) w (fun v51 w =>
 Lp fun (I7 : Value → Value → World → Prop) (μ7 : Value → Value → World → Nat) => I7 v46 (.int .i64 0) w ∧
 ∀ (wl7 : World) (junk : Nat → Value) (s18_node : Value) (s52_ : Value), I7 s18_node s52_ wl7 →
 S.op (.bin .lss 3 false false s52_ v51) wl7 (fun v53 w =>
 Br v53 (
 S.op (.indexAddr 243 v50 s52_) w (fun v54 w =>
 S.op (.load 242 v54) w (fun v55 w =>
 S.op (.alloc 242) w (fun v20_entry w =>
 S.op (.store 242 v20_entry v55) w (fun _ w =>
 S.pur (.fieldAddr 242 v20_entry 0) (fun v57 =>
 S.ld (.load 2 v57) w.drew (fun v58 =>
 S.ld (.fieldAddr 242 v20_entry 1) w.drew (fun v59 =>
 S.ld (.load 190 v59) w.drew (fun v60 =>
 S.pur (.fieldAddr 242 v20_entry 0) (fun v62 =>
 S.ld (.load 2 v62) w.drew (fun v63 =>
 S.pur (.mkFunc (Fn.method "pub-bracken/pub/immutable.set") [s18_node] []) (fun v67 =>
 S.pur (.nilCheck v67) (fun v68 =>
 S.call (.inv a5 "Hash") [v63] w.drew (fun v64 w =>
 S.same (.load 190 v59) v60 w ∧
 S.same (.fieldAddr 242 v20_entry 1) v59 w ∧
 S.same (.load 2 v57) v58 w ∧
 S.call (.inv s18_node "pub-bracken/pub/immutable.set") [v58, v60, (.int .u64 0), v64, a5, (.bool false), a7] w (fun v70 w =>
 S.op (.bin .add 3 false true s52_ (.int .i64 1)) w (fun v71 w =>
 I7 v70 v71 w ∧ μ7 v70 v71 w < μ7 s18_node s52_ wl7) Kp) Kp) Kp))))))))) Kp) Kp) Kp) Kp) (
 K s18_node w)) Kp) Kp) Kp) Kp) Kp)) Kp) Kp)) (
 J12 w)) Kp) Kp) Kp) Kp) Kp) (
 J12 w)) Kp) ∧
 (∀ (w : World) (junk : Nat → Value), J12 w →
 Br a6 (
 S.op (.bin .neq 3 false true v25 (.int .i64 (-1))) w (fun v75 w =>
 Br v75 (
 S.pur (.nilCheck a0) (fun v77 =>
 S.pur (.fieldAddr 245 v77 0) (fun v78 =>
 S.ld (.load 243 v78) w.drew (fun v79 =>
 S.ld (.load 190 v10_value) w.drew (fun v82 =>
 S.pur (.build 242 [(0, a1), (1, v82)]) (fun v83 =>
 S.pur (.indexAddr 243 v79 v25) (fun v84 =>
 S.op (.store 242 v84 v83) w.drew (fun _ w =>
 S.op (.mkIface 240 a0) w (fun v98 w =>
 K v98 w) Kp) Kp))))))) (
 S.pur (.nilCheck a0) (fun v87 =>
 S.pur (.fieldAddr 245 v87 0) (fun v88 =>
 S.ld (.load 243 v88) w.drew (fun v89 =>
 S.ld (.load 190 v10_value) w.drew (fun v91 =>
 S.pur (.build 242 [(0, a1), (1, v91)]) (fun v92 =>
 S.op (.buildSlice 243 1 [(0, v92)]) w.drew (fun v93 w =>
 S.same (.load 243 v88) v89 w ∧
 S.op (.blt .append [243, 243] 243 [v89, v93]) w (fun v94 w =>
 S.pur (.nilCheck a0) (fun v95 =>
 S.pur (.fieldAddr 245 v95 0) (fun v96 =>
 S.op (.store 243 v96 v94) w (fun _ w =>
 S.op (.mkIface 240 a0) w (fun v98 w =>
 K v98 w) Kp) Kp))) Kp) Kp))))))) Kp) (
 S.op (.alloc 245) w (fun v21_other w =>
 S.op (.bin .neq 3 false true v25 (.int .i64 (-1))) w (fun v100 w =>
 Br v100 (
 S.op (.nilCheck a0) w (fun v102 w =>
 S.op (.fieldAddr 245 v102 0) w (fun v103 w =>
 S.op (.load 243 v103) w (fun v104 w =>
 S.op (.blt .len [243] 3 [v104]) w (fun v105 w =>
 S.op (.mkSlice 243 v105 v105) w (fun v106 w =>
 S.op (.fieldAddr 245 v21_other 0) w (fun v107 w =>
 S.op (.store 243 v107 v106) w (fun _ w =>
 S.pur (.fieldAddr 245 v21_other 0) (fun v108 =>
 S.ld (.load 243 v108) w.drew (fun v109 =>
 S.pur (.nilCheck a0) (fun v111 =>
 S.pur (.fieldAddr 245 v111 0) (fun v112 =>
 S.ld (.load 243 v112) w.drew (fun v113 =>
 S.op (.blt .copy [243, 243] 3 [v109, v113]) w.drew (fun v114 w =>
 S.op (.fieldAddr 245 v21_other 0) w (fun v115 w =>
 S.op (.load 243 v115) w (fun v116 w =>
 S.op (.load 190 v10_value) w (fun v119 w =>
 S.op (.build 242 [(0, a1), (1, v119)]) w (fun v120 w =>
 S.op (.indexAddr 243 v116 v25) w (fun v121 w =>
 S.op (.store 242 v121 v120) w (fun _ w =>
 S.op (.mkIface 240 v21_other) w (fun v147 w =>
 K v147 w) Kp) Kp) Kp) Kp) Kp) Kp) Kp) Kp)))))) Kp) Kp) Kp) Kp) Kp) Kp) Kp) (
 S.op (.nilCheck a0) w (fun v123 w =>
 S.op (.fieldAddr 245 v123 0) w (fun v124 w =>
 S.op (.load 243 v124) w (fun v125 w =>
 S.op (.blt .len [243] 3 [v125]) w (fun v126 w =>
 S.op (.bin .add 3 false true v126 (.int .i64 1)) w (fun v127 w =>
 S.op (.mkSlice 243 v127 v127) w (fun v128 w =>
 S.op (.fieldAddr 245 v21_other 0) w (fun v129 w =>
 S.op (.store 243 v129 v128) w (fun _ w =>
 S.pur (.fieldAddr 245 v21_other 0) (fun v130 =>
 S.ld (.load 243 v130) w.drew (fun v131 =>
 S.pur (.nilCheck a0) (fun v133 =>
 S.pur (.fieldAddr 245 v133 0) (fun v134 =>
 S.ld (.load 243 v134) w.drew (fun v135 =>
 S.op (.blt .copy [243, 243] 3 [v131, v135]) w.drew (fun v136 w =>
 S.op (.fieldAddr 245 v21_other 0) w (fun v137 w =>
 S.op (.load 243 v137) w (fun v138 w =>
 S.op (.fieldAddr 245 v21_other 0) w (fun v139 w =>
 S.op (.load 243 v139) w (fun v140 w =>
 S.op (.blt .len [243] 3 [v140]) w (fun v141 w =>
 S.op (.bin .sub 3 false true v141 (.int .i64 1)) w (fun v142 w =>
 S.op (.load 190 v10_value) w (fun v144 w =>
 S.op (.build 242 [(0, a1), (1, v144)]) w (fun v145 w =>
 S.op (.indexAddr 243 v138 v142) w (fun v146 w =>
 S.op (.store 242 v146 v145) w (fun _ w =>
 S.op (.mkIface 240 v21_other) w (fun v147 w =>
 K v147 w) Kp) Kp) Kp) Kp) Kp) Kp) Kp) Kp) Kp) Kp) Kp) Kp)))))) Kp) Kp) Kp) Kp) Kp) Kp) Kp) Kp)) Kp) Kp)))) Kp) Kp
theorem vc170_eq (S : Sig) (a0 a1 a2 a3 a4 a5 a6 a7 : Value) (w : World) (K : Value → World → Prop) (Kp : KP) : vc170 S a0 a1 a2 a3 a4 a5 a6 a7 w K Kp = fVC S [(7, [18, 52])] [(4, []), (12, [])] Try.f170 [a0, a1, a2, a3, a4, a5, a6, a7] w K Kp := by kernel_rfl
theorem vc170_calls {a0 a1 a2 a3 a4 a5 a6 a7 : Value} {w : World} {K : Value → World → Prop} {Kp : KP} (h : vc170 (nice Try.prog) a0 a1 a2 a3 a4 a5 a6 a7 w K Kp) : Calls Try.prog 170 #[a0, a1, a2, a3, a4, a5, a6, a7] w (ret K Kp) :=
 fVC_sound (args := [a0, a1, a2, a3, a4, a5, a6, a7]) nice_le follows_MVcS Try.func170 (by kernel_rfl) (Eq.mp (vc170_eq _ _ _ _ _ _ _ _ _ _ _ _) h)

def vc171 (S : Sig) (a0 a1 a2 : Value) (w : World) (K : Value → World → Prop) (Kp : KP) : Prop :=
 S.op (.box 190 a2) w (fun v5_value w =>
 S.op (.load 190 v5_value) w (fun v9 w =>
 S.op (.build 286 [(0, a0), (1, a1), (2, v9)]) w (fun v10 w =>
 S.op (.box 286 v10) w (fun v11 w =>
 K v11 w) Kp) Kp) Kp) Kp
theorem vc171_eq (S : Sig) (a0 a1 a2 : Value) (w : World) (K : Value → World → Prop) (Kp : KP) : vc171 S a0 a1 a2 w K Kp = fVC S [] [] Try.f171 [a0, a1, a2] w K Kp := by kernel_rfl
theorem vc171_calls {a0 a1 a2 : Value} {w : World} {K : Value → World → Prop} {Kp : KP} (h : vc171 (nice Try.prog) a0 a1 a2 w K Kp) : Calls Try.prog 171 #[a0, a1, a2] w (ret K Kp) :=
 fVC_sound (args := [a0, a1, a2]) nice_le follows_MVcS Try.func171 (by kernel_rfl) (Eq.mp (vc171_eq _ _ _ _ _ _ _) h)

def vc173 (S : Sig) (a0 a1 a2 a3 a4 a5 a6 : Value) (w : World) (K : Value → World → Prop) (Kp : KP) : Prop :=
 S.pur (.nilCheck a0) (fun v17 =>
 S.pur (.fieldAddr 286 v17 1) (fun v18 =>
 S.ld (.load 2 v18) w.drew (fun v19 =>
 S.pur (.mkFunc (Fn.method "Equal") [a4] []) (fun v21 =>
 S.pur (.nilCheck v21) (fun v22 =>
 S.call (.inv a4 "Equal") [v19, a1] w.drew (fun v24 w =>
 S.pur (.un .not v24) (fun v25 =>
 Br v25 (
 S.op (.mkIface 283 a0) w (fun v27 w =>
 K v27 w) Kp) (
 S.op (.nilCheck a6) w (fun v29 w =>
 S.op (.store 4 v29 (.bool true)) w (fun _ w =>
 K .nilIface w) Kp) Kp))) Kp)))))
theorem vc173_eq (S : Sig) (a0 a1 a2 a3 a4 a5 a6 : Value) (w : World) (K : Value → World → Prop) (Kp : KP) : vc173 S a0 a1 a2 a3 a4 a5 a6 w K Kp = fVC S [] [] Try.f173 [a0, a1, a2, a3, a4, a5, a6] w K Kp := by kernel_rfl
theorem vc173_calls {a0 a1 a2 a3 a4 a5 a6 : Value} {w : World} {K : Value → World → Prop} {Kp : KP} (h : vc173 (nice Try.prog) a0 a1 a2 a3 a4 a5 a6 w K Kp) : Calls Try.prog 173 #[a0, a1, a2, a3, a4, a5, a6] w (ret K Kp) :=
 fVC_sound (args := [a0, a1, a2, a3, a4, a5, a6]) nice_le follows_MVcS Try.func173 (by kernel_rfl) (Eq.mp (vc173_eq _ _ _ _ _ _ _ _ _ _ _) h)

def vc174 (S : Sig) (a0 a1 a2 a3 a4 : Value) (w : World) (K : Value → World → Prop) (Kp : KP) : Prop :=
 S.op (.alloc 190) w (fun v10_value w =>
 S.pur (.nilCheck a0) (fun v14 =>
 S.pur (.fieldAddr 286 v14 1) (fun v15 =>
 S.ld (.load 2 v15) w.drew (fun v16 =>
 S.pur (.mkFunc (Fn.method "Equal") [a4] []) (fun v18 =>
 S.pur (.nilCheck v18) (fun v19 =>
 S.call (.inv a4 "Equal") [v16, a1] w.drew (fun v21 w =>
 S.pur (.un .not v21) (fun v22 =>
 Br v22 (
 S.op (.load 190 v10_value) w (fun v23 w =>
 S.op (.store 190 v10_value v23) w (fun _ w =>
 S.ld (.load 190 v10_value) w (fun r0 =>
 K (.tuple #[r0, (.bool false)]) w)) Kp) Kp) (
 S.op (.nilCheck a0) w (fun v25 w =>
 S.op (.fieldAddr 286 v25 2) w (fun v26 w =>
 S.op (.load 190 v26) w (fun v27 w =>
 S.op (.store 190 v10_value v27) w (fun _ w =>
 S.ld (.load 190 v10_value) w (fun r0 =>
 K (.tuple #[r0, (.bool true)]) w)) Kp) Kp) Kp) Kp))) Kp)))))) Kp
theorem vc174_eq (S : Sig) (a0 a1 a2 a3 a4 : Value) (w : World) (K : Value → World → Prop) (Kp : KP) : vc174 S a0 a1 a2 a3 a4 w K Kp = fVC S [] [] Try.f174 [a0, a1, a2, a3, a4] w K Kp := by kernel_rfl
theorem vc174_calls {a0 a1 a2 a3 a4 : Value} {w : World} {K : Value → World → Prop} {Kp : KP} (h : vc174 (nice Try.prog) a0 a1 a2 a3 a4 w K Kp) : Calls Try.prog 174 #[a0, a1, a2, a3, a4] w (ret K Kp) :=
 fVC_sound (args := [a0, a1, a2, a3, a4]) nice_le follows_MVcS Try.func174 (by kernel_rfl) (Eq.mp (vc174_eq _ _ _ _ _ _ _ _ _) h)

def vc175 (S : Sig) (a0 : Value) (w : World) (K : Value → World → Prop) (Kp : KP) : Prop :=
 S.op (.nilCheck a0) w (fun v4 w =>
 S.op (.fieldAddr 286 v4 0) w (fun v5 w =>
 S.op (.load 22 v5) w (fun v6 w =>
 K v6 w) Kp) Kp) Kp
theorem vc175_eq (S : Sig) (a0 : Value) (w : World) (K : Value → World → Prop) (Kp : KP) : vc175 S a0 w K Kp = fVC S [] [] Try.f175 [a0] w K Kp := by kernel_rfl
theorem vc175_calls {a0 : Value} {w : World} {K : Value → World → Prop} {Kp : KP} (h : vc175 (nice Try.prog) a0 w K Kp) : Calls Try.prog 175 #[a0] w (ret K Kp) :=
 fVC_sound (args := [a0]) nice_le follows_MVcS Try.func175 (by kernel_rfl) (Eq.mp (vc175_eq _ _ _ _ _) h)

def vc176 (S : Sig) (a0 a1 a2 a3 a4 a5 a6 a7 : Value) (w : World) (K : Value → World → Prop) (Kp : KP) : Prop :=
 S.op (.box 190 a2) w (fun v10_value w =>
 S.pur (.nilCheck a0) (fun v19 =>
 S.pur (.fieldAddr 286 v19 1) (fun v20 =>
 S.ld (.load 2 v20) w.drew (fun v21 =>
 S.pur (.mkFunc (Fn.method "Equal") [a5] []) (fun v23 =>
 S.pur (.nilCheck v23) (fun v24 =>
 S.call (.inv a5 "Equal") [v21, a1] w.drew (fun v26 w =>
 Br v26 (
 Br a6 (
 S.op (.load 190 v10_value) w (fun v29 w =>
 S.op (.nilCheck a0) w (fun v30 w =>
 S.op (.fieldAddr 286 v30 2) w (fun v31 w =>
 S.op (.store 190 v31 v29) w (fun _ w =>
 S.op (.mkIface 283 a0) w (fun v33 w =>
 K v33 w) Kp) Kp) Kp) Kp) Kp) (
 S.pur (.nilCheck a0) (fun v35 =>
 S.pur (.fieldAddr 286 v35 0) (fun v36 =>
 S.ld (.load 22 v36) w.drew (fun v37 =>
 S.ld (.load 190 v10_value) w.drew (fun v39 =>
 S.call (.fn 171) [v37, a1, v39] w.drew (fun v40 w =>
 S.pur (.mkIface 283 v40) (fun v41 =>
 K v41 w)) Kp)))))) (
 S.op (.nilCheck a7) w (fun v43 w =>
 S.op (.store 4 v43 (.bool true)) w (fun _ w =>
 S.op (.nilCheck a0) w (fun v45 w =>
 S.op (.fieldAddr 286 v45 0) w (fun v46 w =>
 S.op (.load 22 v46) w (fun v47 w =>
 S.op (.bin .neq 22 false false v47 a4) w (fun v49 w =>
 Br v49 (
 S.op (.mkIface 283 a0) w (fun v51 w =>
 S.op (.load 190 v10_value) w (fun v55 w =>
 S.call (.fn 177) [v51, a3, a4, a1, v55] w (fun v56 w =>
 K v56 w) Kp) Kp) Kp) (
 S.pur (.nilCheck a0) (fun v59 =>
 S.pur (.fieldAddr 286 v59 1) (fun v60 =>
 S.ld (.load 2 v60) w.drew (fun v61 =>
 S.pur (.nilCheck a0) (fun v63 =>
 S.ld (.fieldAddr 286 v63 2) w.drew (fun v64 =>
 S.ld (.load 190 v64) w.drew (fun v65 =>
 S.pur (.build 242 [(0, v61), (1, v65)]) (fun v66 =>
 S.ld (.load 190 v10_value) w.drew (fun v68 =>
 S.pur (.build 242 [(0, a1), (1, v68)]) (fun v69 =>
 S.op (.buildSlice 243 2 [(0, v66), (1, v69)]) w.drew (fun v70 w =>
 S.pur (.build 292 [(0, a4), (1, v70)]) (fun v71 =>
 S.op (.box 292 v71) w (fun v72 w =>
 S.pur (.mkIface 290 v72) (fun v73 =>
 K v73 w)) Kp)) Kp))))))))))) Kp) Kp) Kp) Kp) Kp) Kp)) Kp)))))) Kp
theorem vc176_eq (S : Sig) (a0 a1 a2 a3 a4 a5 a6 a7 : Value) (w : World) (K : Value → World → Prop) (Kp : KP) : vc176 S a0 a1 a2 a3 a4 a5 a6 a7 w K Kp = fVC S [] [] Try.f176 [a0, a1, a2, a3, a4, a5, a6, a7] w K Kp := by kernel_rfl
theorem vc176_calls {a0 a1 a2 a3 a4 a5 a6 a7 : Value} {w : World} {K : Value → World → Prop} {Kp : KP} (h : vc176 (nice Try.prog) a0 a1 a2 a3 a4 a5 a6 a7 w K Kp) : Calls Try.prog 176 #[a0, a1, a2, a3, a4, a5, a6, a7] w (ret K Kp) :=
 fVC_sound (args := [a0, a1, a2, a3, a4, a5, a6, a7]) nice_le follows_MVcS Try.func176 (by kernel_rfl) (Eq.mp (vc176_eq _ _ _ _ _ _ _ _ _ _ _ _) h)

def vc177 (S : Sig) (a0 a1 a2 a3 a4 : Value) (w : World) (K : Value → World → Prop) (Kp : KP) : Prop :=
 S.op (.box 190 a4) w (fun v9_value w =>
 S.call (.inv a0 "pub-bracken/pub/immutable.keyHashValue") [] w (fun v16 w =>
 S.op (.bin .shr 22 false false v16 a1) w (fun v18 w =>
 S.op (.bin .and 22 false true v18 (.int .u32 31)) w (fun v19 w =>
 S.op (.bin .shr 22 false false a2 a1) w (fun v22 w =>
 S.op (.bin .and 22 false true v22 (.int .u32 31)) w (fun v23 w =>
 S.op (.bin .shl 22 true false (.int .u32 1) v19) w (fun v25 w =>
 S.op (.bin .shl 22 true false (.int .u32 1) v23) w (fun v27 w =>
 S.op (.bin .or 22 false false v25 v27) w (fun v28 w =>
 S.op (.build 298 [(0, v28)]) w (fun v29 w =>
 S.op (.box 298 v29) w (fun v30 w =>
 S.op (.bin .eql 22 false false v19 v23) w (fun v33 w =>
 Br v33 (
 S.op (.bin .add 187 false true a1 (.int .u64 5)) w (fun v37 w =>
 S.op (.load 190 v9_value) w (fun v40 w =>
 S.call (.fn 177) [a0, v37, a2, a3, v40] w (fun v41 w =>
 S.op (.buildSlice 296 1 [(0, v41)]) w (fun v42 w =>
 S.op (.nilCheck v30) w (fun v43 w =>
 S.op (.fieldAddr 298 v43 1) w (fun v44 w =>
 S.op (.store 296 v44 v42) w (fun _ w =>
 S.op (.mkIface 295 v30) w (fun v67 w =>
 K v67 w) Kp) Kp) Kp) Kp) Kp) Kp) Kp) Kp) (
 S.op (.load 190 v9_value) w (fun v47 w =>
 S.call (.fn 171) [a2, a3, v47] w (fun v48 w =>
 S.op (.bin .lss 22 false false v19 v23) w (fun v51 w =>
 Br v51 (
 S.op (.mkIface 283 v48) w (fun v55 w =>
 S.op (.buildSlice 296 2 [(0, a0), (1, v55)]) w (fun v56 w =>
 S.op (.nilCheck v30) w (fun v57 w =>
 S.op (.fieldAddr 298 v57 1) w (fun v58 w =>
 S.op (.store 296 v58 v56) w (fun _ w =>
 S.op (.mkIface 295 v30) w (fun v67 w =>
 K v67 w) Kp) Kp) Kp) Kp) Kp) Kp) (
 S.op (.mkIface 283 v48) w (fun v61 w =>
 S.op (.buildSlice 296 2 [(0, v61), (1, a0)]) w (fun v63 w =>
 S.op (.nilCheck v30) w (fun v64 w =>
 S.op (.fieldAddr 298 v64 1) w (fun v65 w =>
 S.op (.store 296 v65 v63) w (fun _ w =>
 S.op (.mkIface 295 v30) w (fun v67 w =>
 K v67 w) Kp) Kp) Kp) Kp) Kp) Kp)) Kp) Kp) Kp)) Kp) Kp) Kp) Kp) Kp) Kp) Kp) Kp) Kp) Kp) Kp) Kp
theorem vc177_eq (S : Sig) (a0 a1 a2 a3 a4 : Value) (w : World) (K : Value → World → Prop) (Kp : KP) : vc177 S a0 a1 a2 a3 a4 w K Kp = fVC S [] [] Try.f177 [a0, a1, a2, a3, a4] w K Kp := by kernel_rfl
theorem vc177_calls {a0 a1 a2 a3 a4 : Value} {w : World} {K : Value → World → Prop} {Kp : KP} (h : vc177 (nice Try.prog) a0 a1 a2 a3 a4 w K Kp) : Calls Try.prog 177 #[a0, a1, a2, a3, a4] w (ret K Kp) :=
 fVC_sound (args := [a0, a1, a2, a3, a4]) nice_le follows_MVcS Try.func177 (by kernel_rfl) (Eq.mp (vc177_eq _ _ _ _ _ _ _ _ _) h)

def vc183 (S : Sig) (a0 a1 a2 a3 a4 a5 a6 : Value) (w : World) (K : Value → World → Prop) (Kp : KP) : Prop :=
 S.call (.fn 185) [a0, a1, a4] w (fun v20 w =>
 S.op (.bin .eql 3 false true v20 (.int .i64 (-1))) w (fun v22 w =>
 Br v22 (
 S.op (.mkIface 290 a0) w (fun v24 w =>
 K v24 w) Kp) (
 S.op (.nilCheck a6) w (fun v26 w =>
 S.op (.store 4 v26 (.bool true)) w (fun _ w =>
 S.op (.nilCheck a0) w (fun v28 w =>
 S.op (.fieldAddr 292 v28 1) w (fun v29 w =>
 S.op (.load 243 v29) w (fun v30 w =>
 S.op (.blt .len [243] 3 [v30]) w (fun v31 w =>
 S.op (.bin .eql 3 false true v31 (.int .i64 2)) w (fun v32 w =>
 Br v32 (
 S.pur (.nilCheck a0) (fun v34 =>
 S.pur (.fieldAddr 292 v34 0) (fun v35 =>
 S.ld (.load 22 v35) w.drew (fun v36 =>
 S.pur (.nilCheck a0) (fun v38 =>
 S.pur (.fieldAddr 292 v38 1) (fun v39 =>
 S.ld (.load 243 v39) w.drew (fun v40 =>
 S.pur (.bin .xor 3 false true v20 (.int .i64 1)) (fun v42 =>
 S.pur (.indexAddr 243 v40 v42) (fun v43 =>
 S.pur (.fieldAddr 242 v43 0) (fun v44 =>
 S.ld (.load 2 v44) w.drew (fun v45 =>
 S.pur (.nilCheck a0) (fun v47 =>
 S.pur (.fieldAddr 292 v47 1) (fun v48 =>
 S.ld (.load 243 v48) w.drew (fun v49 =>
 S.pur (.bin .xor 3 false true v20 (.int .i64 1)) (fun v51 =>
 S.pur (.indexAddr 243 v49 v51) (fun v52 =>
 S.ld (.fieldAddr 242 v52 1) w.drew (fun v53 =>
 S.ld (.load 190 v53) w.drew (fun v54 =>
 S.pur (.build 286 [(0, v36), (1, v45), (2, v54)]) (fun v55 =>
 S.op (.box 286 v55) w.drew (fun v56 w =>
 S.pur (.mkIface 283 v56) (fun v57 =>
 K v57 w)) Kp))))))))))))))))))) (
 Br a5 (
 S.pur (.nilCheck a0) (fun v60 =>
 S.pur (.fieldAddr 292 v60 1) (fun v61 =>
 S.ld (.load 243 v61) w.drew (fun v62 =>
 S.pur (.slice 243 v62 (some v20) none none) (fun v64 =>
 S.pur (.nilCheck a0) (fun v66 =>
 S.pur (.fieldAddr 292 v66 1) (fun v67 =>
 S.ld (.load 243 v67) w.drew (fun v68 =>
 S.pur (.bin .add 3 false true v20 (.int .i64 1)) (fun v70 =>
 S.pur (.slice 243 v68 (some v70) none none) (fun v71 =>
 S.op (.blt .copy [243, 243] 3 [v64, v71]) w.drew (fun v72 w =>
 S.pur (.nilCheck a0) (fun v74 =>
 S.pur (.fieldAddr 292 v74 1) (fun v75 =>
 S.ld (.load 243 v75) w.drew (fun v76 =>
 S.pur (.nilCheck a0) (fun v78 =>
 S.pur (.fieldAddr 292 v78 1) (fun v79 =>
 S.ld (.load 243 v79) w.drew (fun v80 =>
 S.ld (.blt .len [243] 3 [v80]) w.drew (fun v81 =>
 S.pur (.bin .sub 3 false true v81 (.int .i64 1)) (fun v82 =>
 S.pur (.build 242 []) (fun v83 =>
 S.pur (.indexAddr 243 v76 v82) (fun v84 =>
 S.op (.store 242 v84 v83) w.drew (fun _ w =>
 S.pur (.nilCheck a0) (fun v87 =>
 S.pur (.fieldAddr 292 v87 1) (fun v88 =>
 S.ld (.load 243 v88) w.drew (fun v89 =>
 S.pur (.nilCheck a0) (fun v91 =>
 S.pur (.fieldAddr 292 v91 1) (fun v92 =>
 S.ld (.load 243 v92) w.drew (fun v93 =>
 S.ld (.blt .len [243] 3 [v93]) w.drew (fun v94 =>
 S.pur (.bin .sub 3 false true v94 (.int .i64 1)) (fun v95 =>
 S.pur (.slice 243 v89 none (some v95) none) (fun v96 =>
 S.pur (.nilCheck a0) (fun v97 =>
 S.pur (.fieldAddr 292 v97 1) (fun v98 =>
 S.op (.store 243 v98 v96) w.drew (fun _ w =>
 S.op (.mkIface 290 a0) w (fun v100 w =>
 K v100 w) Kp) Kp)))))))))))) Kp))))))))))) Kp)))))))))) (
 S.pur (.nilCheck a0) (fun v102 =>
 S.pur (.fieldAddr 292 v102 0) (fun v103 =>
 S.ld (.load 22 v103) w.drew (fun v104 =>
 S.pur (.nilCheck a0) (fun v106 =>
 S.pur (.fieldAddr 292 v106 1) (fun v107 =>
 S.ld (.load 243 v107) w.drew (fun v108 =>
 S.ld (.blt .len [243] 3 [v108]) w.drew (fun v109 =>
 S.pur (.bin .sub 3 false true v109 (.int .i64 1)) (fun v110 =>
 S.op (.mkSlice 243 v110 v110) w.drew (fun v111 w =>
 S.same (.load 22 v103) v104 w ∧
 S.pur (.build 292 [(0, v104), (1, v111)]) (fun v112 =>
 S.op (.box 292 v112) w (fun v113 w =>
 S.pur (.nilCheck v113) (fun v115 =>
 S.pur (.fieldAddr 292 v115 1) (fun v116 =>
 S.ld (.load 243 v116) w.drew (fun v117 =>
 S.pur (.slice 243 v117 none (some v20) none) (fun v119 =>
 S.pur (.nilCheck a0) (fun v121 =>
 S.pur (.fieldAddr 292 v121 1) (fun v122 =>
 S.ld (.load 243 v122) w.drew (fun v123 =>
 S.pur (.slice 243 v123 none (some v20) none) (fun v125 =>
 S.op (.blt .copy [243, 243] 3 [v119, v125]) w.drew (fun v126 w =>
 S.pur (.nilCheck v113) (fun v128 =>
 S.pur (.fieldAddr 292 v128 1) (fun v129 =>
 S.ld (.load 243 v129) w.drew (fun v130 =>
 S.pur (.slice 243 v130 (some v20) none none) (fun v132 =>
 S.pur (.nilCheck a0) (fun v134 =>
 S.pur (.fieldAddr 292 v134 1) (fun v135 =>
 S.ld (.load 243 v135) w.drew (fun v136 =>
 S.pur (.bin .add 3 false true v20 (.int .i64 1)) (fun v138 =>
 S.pur (.slice 243 v136 (some v138) none none) (fun v139 =>
 S.op (.blt .copy [243, 243] 3 [v132, v139]) w.drew (fun v140 w =>
 S.op (.mkIface 290 v113) w (fun v142 w =>
 K v142 w) Kp) Kp)))))))))) Kp))))))))) Kp)) Kp))))))))))) Kp) Kp) Kp) Kp) Kp) Kp) Kp)) Kp) Kp
theorem vc183_eq (S : Sig) (a0 a1 a2 a3 a4 a5 a6 : Value) (w : World) (K : Value → World → Prop) (Kp : KP) : vc183 S a0 a1 a2 a3 a4 a5 a6 w K Kp = fVC S [] [] Try.f183 [a0, a1, a2, a3, a4, a5, a6] w K Kp := by kernel_rfl
theorem vc183_calls {a0 a1 a2 a3 a4 a5 a6 : Value} {w : World} {K : Value → World → Prop} {Kp : KP} (h : vc183 (nice Try.prog) a0 a1 a2 a3 a4 a5 a6 w K Kp) : Calls Try.prog 183 #[a0, a1, a2, a3, a4, a5, a6] w (ret K Kp) :=
 fVC_sound (args := [a0, a1, a2, a3, a4, a5, a6]) nice_le follows_MVcS Try.func183 (by kernel_rfl) (Eq.mp (vc183_eq _ _ _ _ _ _ _ _ _ _ _) h)

def vc184 (S : Sig) (a0 a1 a2 a3 a4 : Value) (w : World) (K : Value → World → Prop) (Kp : KP) : Prop :=
 S.op (.alloc 190) w (fun v10_value w =>
 S.op (.nilCheck a0) w (fun v14 w =>
 S.op (.fieldAddr 292 v14 1) w (fun v15 w =>
 S.op (.load 243 v15) w (fun v16 w =>
 S.op (.blt .len [243] 3 [v16]) w (fun v17 w =>
 Lp fun (I2 : Value → World → Prop) (μ2 : Value → World → Nat) => I2 (.int .i64 0) w ∧
 ∀ (wl2 : World) (junk : Nat → Value) (s18_ : Value), I2 s18_ wl2 →
 S.op (.bin .lss 3 false false s18_ v17) wl2 (fun v19 w =>
 Br v19 (
 S.pur (.nilCheck a0) (fun v23 =>
 S.pur (.fieldAddr 292 v23 1) (fun v24 =>
 S.ld (.load 243 v24) w.drew (fun v25 =>
 S.pur (.indexAddr 243 v25 s18_) (fun v27 =>
 S.pur (.fieldAddr 242 v27 0) (fun v28 =>
 S.ld (.load 2 v28) w.drew (fun v29 =>
 S.pur (.mkFunc (Fn.method "Equal") [a4] []) (fun v31 =>
 S.pur (.nilCheck v31) (fun v32 =>
 S.call (.inv a4 "Equal") [v29, a1] w.drew (fun v34 w =>
 Br v34 (
 S.op (.nilCheck a0) w (fun v36 w =>
 S.op (.fieldAddr 292 v36 1) w (fun v37 w =>
 S.op (.load 243 v37) w (fun v38 w =>
 S.op (.indexAddr 243 v38 s18_) w (fun v40 w =>
 S.op (.fieldAddr 242 v40 1) w (fun v41 w =>
 S.op (.load 190 v41) w (fun v42 w =>
 S.op (.store 190 v10_value v42) w (fun _ w =>
 S.ld (.load 190 v10_value) w (fun r0 =>
 K (.tuple #[r0, (.bool true)]) w)) Kp) Kp) Kp) Kp) Kp) Kp) Kp) (
 S.op (.bin .add 3 false true s18_ (.int .i64 1)) w (fun v43 w =>
 I2 v43 w ∧ μ2 v43 w < μ2 s18_ wl2) Kp)) Kp))))))))) (
 S.op (.load 190 v10_value) w (fun v44 w =>
 S.op (.store 190 v10_value v44) w (fun _ w =>
 S.ld (.load 190 v10_value) w (fun r0 =>
 K (.tuple #[r0, (.bool false)]) w)) Kp) Kp)) Kp) Kp) Kp) Kp) Kp) Kp
theorem vc184_eq (S : Sig) (a0 a1 a2 a3 a4 : Value) (w : World) (K : Value → World → Prop) (Kp : KP) : vc184 S a0 a1 a2 a3 a4 w K Kp = fVC S [(2, [18])] [] Try.f184 [a0, a1, a2, a3, a4] w K Kp := by kernel_rfl
theorem vc184_calls {a0 a1 a2 a3 a4 : Value} {w : World} {K : Value → World → Prop} {Kp : KP} (h : vc184 (nice Try.prog) a0 a1 a2 a3 a4 w K Kp) : Calls Try.prog 184 #[a0, a1, a2, a3, a4] w (ret K Kp) :=
 fVC_sound (args := [a0, a1, a2, a3, a4]) nice_le follows_MVcS Try.func184 (by kernel_rfl) (Eq.mp (vc184_eq _ _ _ _ _ _ _ _ _) h)

def vc185 (S : Sig) (a0 a1 a2 : Value) (w : World) (K : Value → World → Prop) (Kp : KP) : Prop :=
 S.op (.nilCheck a0) w (fun v9 w =>
 S.op (.fieldAddr 292 v9 1) w (fun v10 w =>
 S.op (.load 243 v10) w (fun v11 w =>
 S.op (.blt .len [243] 3 [v11]) w (fun v12 w =>
 Lp fun (I2 : Value → World → Prop) (μ2 : Value → World → Nat) => I2 (.int .i64 0) w ∧
 ∀ (wl2 : World) (junk : Nat → Value) (s13_ : Value), I2 s13_ wl2 →
 S.op (.bin .lss 3 false false s13_ v12) wl2 (fun v14 w =>
 Br v14 (
 S.pur (.nilCheck a0) (fun v18 =>
 S.pur (.fieldAddr 292 v18 1) (fun v19 =>
 S.ld (.load 243 v19) w.drew (fun v20 =>
 S.pur (.indexAddr 243 v20 s13_) (fun v22 =>
 S.pur (.fieldAddr 242 v22 0) (fun v23 =>
 S.ld (.load 2 v23) w.drew (fun v24 =>
 S.pur (.mkFunc (Fn.method "Equal") [a2] []) (fun v26 =>
 S.pur (.nilCheck v26) (fun v27 =>
 S.call (.inv a2 "Equal") [v24, a1] w.drew (fun v29 w =>
 Br v29 (
 K s13_ w) (
 S.op (.bin .add 3 false true s13_ (.int .i64 1)) w (fun v31 w =>
 I2 v31 w ∧ μ2 v31 w < μ2 s13_ wl2) Kp)) Kp))))))))) (
 K (.int .i64 (-1)) w)) Kp) Kp) Kp) Kp) Kp
theorem vc185_eq (S : Sig) (a0 a1 a2 : Value) (w : World) (K : Value → World → Prop) (Kp : KP) : vc185 S a0 a1 a2 w K Kp = fVC S [(2, [13])] [] Try.f185 [a0, a1, a2] w K Kp := by kernel_rfl
theorem vc185_calls {a0 a1 a2 : Value} {w : World} {K : Value → World → Prop} {Kp : KP} (h : vc185 (nice Try.prog) a0 a1 a2 w K Kp) : Calls Try.prog 185 #[a0, a1, a2] w (ret K Kp) :=
 fVC_sound (args := [a0, a1, a2]) nice_le follows_MVcS Try.func185 (by kernel_rfl) (Eq.mp (vc185_eq _ _ _ _ _ _ _) h)

def vc186 (S : Sig) (a0 : Value) (w : World) (K : Value → World → Prop) (Kp : KP) : Prop :=
 S.op (.nilCheck a0) w (fun v4 w =>
 S.op (.fieldAddr 292 v4 0) w (fun v5 w =>
 S.op (.load 22 v5) w (fun v6 w =>
 K v6 w) Kp) Kp) Kp
theorem vc186_eq (S : Sig) (a0 : Value) (w : World) (K : Value → World → Prop) (Kp : KP) : vc186 S a0 w K Kp = fVC S [] [] Try.f186 [a0] w K Kp := by kernel_rfl
theorem vc186_calls {a0 : Value} {w : World} {K : Value → World → Prop} {Kp : KP} (h : vc186 (nice Try.prog) a0 w K Kp) : Calls Try.prog 186 #[a0] w (ret K Kp) :=
 fVC_sound (args := [a0]) nice_le follows_MVcS Try.func186 (by kernel_rfl) (Eq.mp (vc186_eq _ _ _ _ _) h)

def vc187 (S : Sig) (a0 a1 a2 a3 a4 a5 a6 a7 : Value) (w : World) (K : Value → World → Prop) (Kp : KP) : Prop :=
 S.op (.box 190 a2) w (fun v10_value w =>
 S.op (.nilCheck a0) w (fun v21 w =>
 S.op (.fieldAddr 292 v21 0) w (fun v22 w =>
 S.op (.load 22 v22) w (fun v23 w =>
 S.op (.bin .neq 22 false false v23 a4) w (fun v25 w =>
 Br v25 (
 S.op (.nilCheck a7) w (fun v27 w =>
 S.op (.store 4 v27 (.bool true)) w (fun _ w =>
 S.op (.mkIface 290 a0) w (fun v29 w =>
 S.op (.load 190 v10_value) w (fun v33 w =>
 S.call (.fn 177) [v29, a3, a4, a1, v33] w (fun v34 w =>
 K v34 w) Kp) Kp) Kp) Kp) Kp) (
 Br a6 (
 S.call (.fn 185) [a0, a1, a5] w (fun v39 w =>
 S.op (.bin .eql 3 false true v39 (.int .i64 (-1))) w (fun v41 w =>
 Br v41 (
 S.op (.nilCheck a7) w (fun v43 w =>
 S.op (.store 4 v43 (.bool true)) w (fun _ w =>
 S.pur (.nilCheck a0) (fun v46 =>
 S.pur (.fieldAddr 292 v46 1) (fun v47 =>
 S.ld (.load 243 v47) w.drew (fun v48 =>
 S.ld (.load 190 v10_value) w.drew (fun v50 =>
 S.pur (.build 242 [(0, a1), (1, v50)]) (fun v51 =>
 S.op (.buildSlice 243 1 [(0, v51)]) w.drew (fun v52 w =>
 S.same (.load 243 v47) v48 w ∧
 S.op (.blt .append [243, 243] 243 [v48, v52]) w (fun v53 w =>
 S.pur (.nilCheck a0) (fun v54 =>
 S.pur (.fieldAddr 292 v54 1) (fun v55 =>
 S.op (.store 243 v55 v53) w (fun _ w =>
 S.op (.mkIface 290 a0) w (fun v66 w =>
 K v66 w) Kp) Kp))) Kp) Kp)))))) Kp) Kp) (
 S.pur (.nilCheck a0) (fun v57 =>
 S.pur (.fieldAddr 292 v57 1) (fun v58 =>
 S.ld (.load 243 v58) w.drew (fun v59 =>
 S.ld (.load 190 v10_value) w.drew (fun v62 =>
 S.pur (.build 242 [(0, a1), (1, v62)]) (fun v63 =>
 S.pur (.indexAddr 243 v59 v39) (fun v64 =>
 S.op (.store 242 v64 v63) w.drew (fun _ w =>
 S.op (.mkIface 290 a0) w (fun v66 w =>
 K v66 w) Kp) Kp)))))))) Kp) Kp) (
 S.op (.nilCheck a0) w (fun v68 w =>
 S.op (.fieldAddr 292 v68 0) w (fun v69 w =>
 S.op (.load 22 v69) w (fun v70 w =>
 S.op (.build 292 [(0, v70)]) w (fun v71 w =>
 S.op (.box 292 v71) w (fun v72 w =>
 S.call (.fn 185) [a0, a1, a5] w (fun v76 w =>
 S.op (.bin .eql 3 false true v76 (.int .i64 (-1))) w (fun v78 w =>
 Br v78 (
 S.op (.nilCheck a7) w (fun v80 w =>
 S.op (.store 4 v80 (.bool true)) w (fun _ w =>
 S.op (.nilCheck a0) w (fun v83 w =>
 S.op (.fieldAddr 292 v83 1) w (fun v84 w =>
 S.op (.load 243 v84) w (fun v85 w =>
 S.op (.blt .len [243] 3 [v85]) w (fun v86 w =>
 S.op (.bin .add 3 false true v86 (.int .i64 1)) w (fun v87 w =>
 S.op (.mkSlice 243 v87 v87) w (fun v88 w =>
 S.op (.nilCheck v72) w (fun v89 w =>
 S.op (.fieldAddr 292 v89 1) w (fun v90 w =>
 S.op (.store 243 v90 v88) w (fun _ w =>
 S.pur (.nilCheck v72) (fun v92 =>
 S.pur (.fieldAddr 292 v92 1) (fun v93 =>
 S.ld (.load 243 v93) w.drew (fun v94 =>
 S.pur (.nilCheck a0) (fun v96 =>
 S.pur (.fieldAddr 292 v96 1) (fun v97 =>
 S.ld (.load 243 v97) w.drew (fun v98 =>
 S.op (.blt .copy [243, 243] 3 [v94, v98]) w.drew (fun v99 w =>
 S.pur (.nilCheck v72) (fun v101 =>
 S.pur (.fieldAddr 292 v101 1) (fun v102 =>
 S.ld (.load 243 v102) w.drew (fun v103 =>
 S.pur (.nilCheck v72) (fun v105 =>
 S.pur (.fieldAddr 292 v105 1) (fun v106 =>
 S.ld (.load 243 v106) w.drew (fun v107 =>
 S.ld (.blt .len [243] 3 [v107]) w.drew (fun v108 =>
 S.pur (.bin .sub 3 false true v108 (.int .i64 1)) (fun v109 =>
 S.ld (.load 190 v10_value) w.drew (fun v111 =>
 S.pur (.build 242 [(0, a1), (1, v111)]) (fun v112 =>
 S.pur (.indexAddr 243 v103 v109) (fun v113 =>
 S.op (.store 242 v113 v112) w.drew (fun _ w =>
 S.op (.mkIface 290 v72) w (fun v142 w =>
 K v142 w) Kp) Kp)))))))))))) Kp))))))) Kp) Kp) Kp) Kp) Kp) Kp) Kp) Kp) Kp) Kp) Kp) (
 S.op (.nilCheck a0) w (fun v116 w =>
 S.op (.fieldAddr 292 v116 1) w (fun v117 w =>
 S.op (.load 243 v117) w (fun v118 w =>
 S.op (.blt .len [243] 3 [v118]) w (fun v119 w =>
 S.op (.mkSlice 243 v119 v119) w (fun v120 w =>
 S.op (.nilCheck v72) w (fun v121 w =>
 S.op (.fieldAddr 292 v121 1) w (fun v122 w =>
 S.op (.store 243 v122 v120) w (fun _ w =>
 S.pur (.nilCheck v72) (fun v124 =>
 S.pur (.fieldAddr 292 v124 1) (fun v125 =>
 S.ld (.load 243 v125) w.drew (fun v126 =>
 S.pur (.nilCheck a0) (fun v128 =>
 S.pur (.fieldAddr 292 v128 1) (fun v129 =>
 S.ld (.load 243 v129) w.drew (fun v130 =>
 S.op (.blt .copy [243, 243] 3 [v126, v130]) w.drew (fun v131 w =>
 S.pur (.nilCheck v72) (fun v133 =>
 S.pur (.fieldAddr 292 v133 1) (fun v134 =>
 S.ld (.load 243 v134) w.drew (fun v135 =>
 S.ld (.load 190 v10_value) w.drew (fun v138 =>
 S.pur (.build 242 [(0, a1), (1, v138)]) (fun v139 =>
 S.pur (.indexAddr 243 v135 v76) (fun v140 =>
 S.op (.store 242 v140 v139) w.drew (fun _ w =>
 S.op (.mkIface 290 v72) w (fun v142 w =>
 K v142 w) Kp) Kp))))))) Kp))))))) Kp) Kp) Kp) Kp) Kp) Kp) Kp) Kp)) Kp) Kp) Kp) Kp) Kp) Kp) Kp))) Kp) Kp) Kp) Kp) Kp
theorem vc187_eq (S : Sig) (a0 a1 a2 a3 a4 a5 a6 a7 : Value) (w : World) (K : Value → World → Prop) (Kp : KP) : vc187 S a0 a1 a2 a3 a4 a5 a6 a7 w K Kp = fVC S [] [] Try.f187 [a0, a1, a2, a3, a4, a5, a6, a7] w K Kp := by kernel_rfl
theorem vc187_calls {a0 a1 a2 a3 a4 a5 a6 a7 : Value} {w : World} {K : Value → World → Prop} {Kp : KP} (h : vc187 (nice Try.prog) a0 a1 a2 a3 a4 a5 a6 a7 w K Kp) : Calls Try.prog 187 #[a0, a1, a2, a3, a4, a5, a6, a7] w (ret K Kp) :=
 fVC_sound (args := [a0, a1, a2, a3, a4, a5, a6, a7]) nice_le follows_MVcS Try.func187 (by kernel_rfl) (Eq.mp (vc187_eq _ _ _ _ _ _ _ _ _ _ _ _) h)

def vc188 (S : Sig) (a0 a1 a2 a3 a4 a5 a6 : Value) (w : World) (K : Value → World → Prop) (Kp : KP) : Prop :=
 S.op (.bin .shr 22 false false a3 a2) w (fun v23 w =>
 S.op (.bin .and 22 false true v23 (.int .u32 31)) w (fun v24 w =>
 S.op (.bin .shl 22 true false (.int .u32 1) v24) w (fun v25 w =>
 S.op (.nilCheck a0) w (fun v27 w =>
 S.op (.fieldAddr 298 v27 0) w (fun v28 w =>
 S.op (.load 22 v28) w (fun v29 w =>
 S.op (.bin .and 22 false false v29 v25) w (fun v31 w =>
 S.op (.bin .eql 22 false true v31 (.int .u32 0)) w (fun v32 w =>
 Br v32 (
 S.op (.mkIface 295 a0) w (fun v34 w =>
 K v34 w) Kp) (
 S.op (.nilCheck a0) w (fun v36 w =>
 S.op (.fieldAddr 298 v36 0) w (fun v37 w =>
 S.op (.load 22 v37) w (fun v38 w =>
 S.op (.bin .sub 22 false true v25 (.int .u32 1)) w (fun v40 w =>
 S.op (.bin .and 22 false false v38 v40) w (fun v41 w =>
 S.call (.fn 149) [v41] w (fun v42 w =>
 S.op (.nilCheck a0) w (fun v44 w =>
 S.op (.fieldAddr 298 v44 1) w (fun v45 w =>
 S.op (.load 296 v45) w (fun v46 w =>
 S.op (.indexAddr 296 v46 v42) w (fun v48 w =>
 S.op (.load 226 v48) w (fun v49 w =>
 S.op (.bin .add 187 false true a2 (.int .u64 5)) w (fun v53 w =>
 S.call (.inv v49 "pub-bracken/pub/immutable.delete") [a1, v53, a3, a4, a5, a6] w (fun v58 w =>
 S.op (.nilCheck a6) w (fun v60 w =>
 S.op (.load 4 v60) w (fun v61 w =>
 S.op (.un .not v61) w (fun v62 w =>
 Br v62 (
 S.op (.mkIface 295 a0) w (fun v64 w =>
 K v64 w) Kp) (
 S.op (.bin .eql 226 false true v58 .nilIface) w (fun v66 w =>
 Br v66 (
 S.op (.nilCheck a0) w (fun v68 w =>
 S.op (.fieldAddr 298 v68 1) w (fun v69 w =>
 S.op (.load 296 v69) w (fun v70 w =>
 S.op (.blt .len [296] 3 [v70]) w (fun v71 w =>
 S.op (.bin .eql 3 false true v71 (.int .i64 1)) w (fun v72 w =>
 Br v72 (
 K .nilIface w) (
 Br a5 (
 S.op (.nilCheck a0) w (fun v75 w =>
 S.op (.fieldAddr 298 v75 0) w (fun v76 w =>
 S.op (.load 22 v76) w (fun v77 w =>
 S.op (.bin .xor 22 false false v77 v25) w (fun v79 w =>
 S.op (.nilCheck a0) w (fun v80 w =>
 S.op (.fieldAddr 298 v80 0) w (fun v81 w =>
 S.op (.store 22 v81 v79) w (fun _ w =>
 S.pur (.nilCheck a0) (fun v83 =>
 S.pur (.fieldAddr 298 v83 1) (fun v84 =>
 S.ld (.load 296 v84) w.drew (fun v85 =>
 S.pur (.slice 296 v85 (some v42) none none) (fun v87 =>
 S.pur (.nilCheck a0) (fun v89 =>
 S.pur (.fieldAddr 298 v89 1) (fun v90 =>
 S.ld (.load 296 v90) w.drew (fun v91 =>
 S.pur (.bin .add 3 false true v42 (.int .i64 1)) (fun v93 =>
 S.pur (.slice 296 v91 (some v93) none none) (fun v94 =>
 S.op (.blt .copy [296, 296] 3 [v87, v94]) w.drew (fun v95 w =>
 S.pur (.nilCheck a0) (fun v97 =>
 S.pur (.fieldAddr 298 v97 1) (fun v98 =>
 S.ld (.load 296 v98) w.drew (fun v99 =>
 S.pur (.nilCheck a0) (fun v101 =>
 S.pur (.fieldAddr 298 v101 1) (fun v102 =>
 S.ld (.load 296 v102) w.drew (fun v103 =>
 S.ld (.blt .len [296] 3 [v103]) w.drew (fun v104 =>
 S.pur (.bin .sub 3 false true v104 (.int .i64 1)) (fun v105 =>
 S.pur (.indexAddr 296 v99 v105) (fun v106 =>
 S.op (.store 226 v106 .nilIface) w.drew (fun _ w =>
 S.pur (.nilCheck a0) (fun v109 =>
 S.pur (.fieldAddr 298 v109 1) (fun v110 =>
 S.ld (.load 296 v110) w.drew (fun v111 =>
 S.pur (.nilCheck a0) (fun v113 =>
 S.pur (.fieldAddr 298 v113 1) (fun v114 =>
 S.ld (.load 296 v114) w.drew (fun v115 =>
 S.ld (.blt .len [296] 3 [v115]) w.drew (fun v116 =>
 S.pur (.bin .sub 3 false true v116 (.int .i64 1)) (fun v117 =>
 S.pur (.slice 296 v111 none (some v117) none) (fun v118 =>
 S.pur (.nilCheck a0) (fun v119 =>
 S.pur (.fieldAddr 298 v119 1) (fun v120 =>
 S.op (.store 296 v120 v118) w.drew (fun _ w =>
 S.op (.mkIface 295 a0) w (fun v122 w =>
 K v122 w) Kp) Kp)))))))))))) Kp)))))))))) Kp)))))))))) Kp) Kp) Kp) Kp) Kp) Kp) Kp) (
 S.pur (.nilCheck a0) (fun v124 =>
 S.pur (.fieldAddr 298 v124 0) (fun v125 =>
 S.ld (.load 22 v125) w.drew (fun v126 =>
 S.pur (.bin .xor 22 false false v126 v25) (fun v128 =>
 S.pur (.nilCheck a0) (fun v130 =>
 S.pur (.fieldAddr 298 v130 1) (fun v131 =>
 S.ld (.load 296 v131) w.drew (fun v132 =>
 S.ld (.blt .len [296] 3 [v132]) w.drew (fun v133 =>
 S.pur (.bin .sub 3 false true v133 (.int .i64 1)) (fun v134 =>
 S.op (.mkSlice 296 v134 v134) w.drew (fun v135 w =>
 S.same (.load 22 v125) v126 w ∧
 S.pur (.build 298 [(0, v128), (1, v135)]) (fun v136 =>
 S.op (.box 298 v136) w (fun v137 w =>
 S.pur (.nilCheck v137) (fun v139 =>
 S.pur (.fieldAddr 298 v139 1) (fun v140 =>
 S.ld (.load 296 v140) w.drew (fun v141 =>
 S.pur (.slice 296 v141 none (some v42) none) (fun v143 =>
 S.pur (.nilCheck a0) (fun v145 =>
 S.pur (.fieldAddr 298 v145 1) (fun v146 =>
 S.ld (.load 296 v146) w.drew (fun v147 =>
 S.pur (.slice 296 v147 none (some v42) none) (fun v149 =>
 S.op (.blt .copy [296, 296] 3 [v143, v149]) w.drew (fun v150 w =>
 S.pur (.nilCheck v137) (fun v152 =>
 S.pur (.fieldAddr 298 v152 1) (fun v153 =>
 S.ld (.load 296 v153) w.drew (fun v154 =>
 S.pur (.slice 296 v154 (some v42) none none) (fun v156 =>
 S.pur (.nilCheck a0) (fun v158 =>
 S.pur (.fieldAddr 298 v158 1) (fun v159 =>
 S.ld (.load 296 v159) w.drew (fun v160 =>
 S.pur (.bin .add 3 false true v42 (.int .i64 1)) (fun v162 =>
 S.pur (.slice 296 v160 (some v162) none none) (fun v163 =>
 S.op (.blt .copy [296, 296] 3 [v156, v163]) w.drew (fun v164 w =>
 S.op (.mkIface 295 v137) w (fun v166 w =>
 K v166 w) Kp) Kp)))))))))) Kp))))))))) Kp)) Kp)))))))))))) Kp) Kp) Kp) Kp) Kp) (
 S.op (.un .not a5) w (fun v169 w =>
 Br v169 (
 S.pur (.nilCheck a0) (fun v171 =>
 S.pur (.fieldAddr 298 v171 0) (fun v172 =>
 S.ld (.load 22 v172) w.drew (fun v173 =>
 S.pur (.nilCheck a0) (fun v175 =>
 S.pur (.fieldAddr 298 v175 1) (fun v176 =>
 S.ld (.load 296 v176) w.drew (fun v177 =>
 S.ld (.blt .len [296] 3 [v177]) w.drew (fun v178 =>
 S.op (.mkSlice 296 v178 v178) w.drew (fun v179 w =>
 S.same (.load 22 v172) v173 w ∧
 S.pur (.build 298 [(0, v173), (1, v179)]) (fun v180 =>
 S.op (.box 298 v180) w (fun v181 w =>
 S.pur (.nilCheck v181) (fun v183 =>
 S.pur (.fieldAddr 298 v183 1) (fun v184 =>
 S.ld (.load 296 v184) w.drew (fun v185 =>
 S.pur (.nilCheck a0) (fun v187 =>
 S.pur (.fieldAddr 298 v187 1) (fun v188 =>
 S.ld (.load 296 v188) w.drew (fun v189 =>
 S.op (.blt .copy [296, 296] 3 [v185, v189]) w.drew (fun v190 w =>
 S.op (.nilCheck v181) w (fun v192 w =>
 S.op (.fieldAddr 298 v192 1) w (fun v193 w =>
 S.op (.load 296 v193) w (fun v194 w =>
 S.op (.indexAddr 296 v194 v42) w (fun v197 w =>
 S.op (.store 226 v197 v58) w (fun _ w =>
 S.op (.mkIface 295 v181) w (fun v199 w =>
 K v199 w) Kp) Kp) Kp) Kp) Kp) Kp) Kp))))))) Kp)) Kp)))))))) (
 S.op (.nilCheck a0) w (fun v192 w =>
 S.op (.fieldAddr 298 v192 1) w (fun v193 w =>
 S.op (.load 296 v193) w (fun v194 w =>
 S.op (.indexAddr 296 v194 v42) w (fun v197 w =>
 S.op (.store 226 v197 v58) w (fun _ w =>
 S.op (.mkIface 295 a0) w (fun v199 w =>
 K v199 w) Kp) Kp) Kp) Kp) Kp) Kp)) Kp)) Kp)) Kp) Kp) Kp) Kp) Kp) Kp) Kp) Kp) Kp) Kp) Kp) Kp) Kp) Kp) Kp) Kp)) Kp) Kp) Kp) Kp) Kp) Kp) Kp) Kp
theorem vc188_eq (S : Sig) (a0 a1 a2 a3 a4 a5 a6 : Value) (w : World) (K : Value → World → Prop) (Kp : KP) : vc188 S a0 a1 a2 a3 a4 a5 a6 w K Kp = fVC S [] [] Try.f188 [a0, a1, a2, a3, a4, a5, a6] w K Kp := by kernel_rfl
theorem vc188_calls {a0 a1 a2 a3 a4 a5 a6 : Value} {w : World} {K : Value → World → Prop} {Kp : KP} (h : vc188 (nice Try.prog) a0 a1 a2 a3 a4 a5 a6 w K Kp) : Calls Try.prog 188 #[a0, a1, a2, a3, a4, a5, a6] w (ret K Kp) :=
 fVC_sound (args := [a0, a1, a2, a3, a4, a5, a6]) nice_le follows_MVcS Try.func188 (by kernel_rfl) (Eq.mp (vc188_eq _ _ _ _ _ _ _ _ _ _ _) h)

def vc189 (S : Sig) (a0 a1 a2 a3 a4 : Value) (w : World) (K : Value → World → Prop) (Kp : KP) : Prop :=
 S.op (.alloc 190) w (fun v10_value w =>
 S.op (.bin .shr 22 false false a3 a2) w (fun v16 w =>
 S.op (.bin .and 22 false true v16 (.int .u32 31)) w (fun v17 w =>
 S.op (.bin .shl 22 true false (.int .u32 1) v17) w (fun v18 w =>
 S.op (.nilCheck a0) w (fun v20 w =>
 S.op (.fieldAddr 298 v20 0) w (fun v21 w =>
 S.op (.load 22 v21) w (fun v22 w =>
 S.op (.bin .and 22 false false v22 v18) w (fun v24 w =>
 S.op (.bin .eql 22 false true v24 (.int .u32 0)) w (fun v25 w =>
 Br v25 (
 S.op (.load 190 v10_value) w (fun v26 w =>
 S.op (.store 190 v10_value v26) w (fun _ w =>
 S.ld (.load 190 v10_value) w (fun r0 =>
 K (.tuple #[r0, (.bool false)]) w)) Kp) Kp) (
 S.pur (.nilCheck a0) (fun v28 =>
 S.pur (.fieldAddr 298 v28 1) (fun v29 =>
 S.ld (.load 296 v29) w.drew (fun v30 =>
 S.pur (.nilCheck a0) (fun v32 =>
 S.pur (.fieldAddr 298 v32 0) (fun v33 =>
 S.ld (.load 22 v33) w.drew (fun v34 =>
 S.pur (.bin .sub 22 false true v18 (.int .u32 1)) (fun v36 =>
 S.pur (.bin .and 22 false false v34 v36) (fun v37 =>
 S.call (.fn 149) [v37] w.drew (fun v38 w =>
 S.same (.load 296 v29) v30 w ∧
 S.pur (.indexAddr 296 v30 v38) (fun v39 =>
 S.ld (.load 226 v39) w (fun v40 =>
 S.op (.bin .add 187 false true a2 (.int .u64 5)) w (fun v44 w =>
 S.call (.inv v40 "pub-bracken/pub/immutable.get") [a1, v44, a3, a4] w (fun v47 w =>
 S.op (.extract v47 0) w (fun v48 w =>
 S.op (.extract v47 1) w (fun v49 w =>
 S.op (.store 190 v10_value v48) w (fun _ w =>
 S.ld (.load 190 v10_value) w (fun r0 =>
 K (.tuple #[r0, v49]) w)) Kp) Kp) Kp) Kp) Kp))) Kp)))))))))) Kp) Kp) Kp) Kp) Kp) Kp) Kp) Kp) Kp
theorem vc189_eq (S : Sig) (a0 a1 a2 a3 a4 : Value) (w : World) (K : Value → World → Prop) (Kp : KP) : vc189 S a0 a1 a2 a3 a4 w K Kp = fVC S [] [] Try.f189 [a0, a1, a2, a3, a4] w K Kp := by kernel_rfl
theorem vc189_calls {a0 a1 a2 a3 a4 : Value} {w : World} {K : Value → World → Prop} {Kp : KP} (h : vc189 (nice Try.prog) a0 a1 a2 a3 a4 w K Kp) : Calls Try.prog 189 #[a0, a1, a2, a3, a4] w (ret K Kp) :=
 fVC_sound (args := [a0, a1, a2, a3, a4]) nice_le follows_MVcS Try.func189 (by kernel_rfl) (Eq.mp (vc189_eq _ _ _ _ _ _ _ _ _) h)

def vc190 (S : Sig) (a0 a1 a2 a3 a4 a5 a6 a7 : Value) (w : World) (K : Value → World → Prop) (Kp : KP) : Prop :=
 S.op (.box 190 a2) w (fun v10_value w =>
 S.op (.bin .shr 22 false false a4 a3) w (fun v27 w =>
 S.op (.bin .and 22 false true v27 (.int .u32 31)) w (fun v28 w =>
 S.op (.bin .shl 22 true false (.int .u32 1) v28) w (fun v30 w =>
 S.op (.nilCheck a0) w (fun v32 w =>
 S.op (.fieldAddr 298 v32 0) w (fun v33 w =>
 S.op (.load 22 v33) w (fun v34 w =>
 S.op (.bin .and 22 false false v34 v30) w (fun v36 w =>
 S.op (.bin .neq 22 false true v36 (.int .u32 0)) w (fun v37 w =>
 Jn fun (J6 : World → Prop) =>
 (S.op (.un .not v37) w (fun v39 w =>
 Br v39 (
 S.op (.nilCheck a7) w (fun v41 w =>
 S.op (.store 4 v41 (.bool true)) w (fun _ w =>
 J6 w) Kp) Kp) (
 J6 w)) Kp) ∧
 (∀ (w : World) (junk : Nat → Value), J6 w →
 S.op (.nilCheck a0) w (fun v43 w =>
 S.op (.fieldAddr 298 v43 0) w (fun v44 w =>
 S.op (.load 22 v44) w (fun v45 w =>
 S.op (.bin .sub 22 false true v30 (.int .u32 1)) w (fun v47 w =>
 S.op (.bin .and 22 false false v45 v47) w (fun v48 w =>
 S.call (.fn 149) [v48] w (fun v49 w =>
 Jn fun (J11 : Value → World → Prop) =>
 (Br v37 (
 S.pur (.nilCheck a0) (fun v52 =>
 S.pur (.fieldAddr 298 v52 1) (fun v53 =>
 S.ld (.load 296 v53) w.drew (fun v54 =>
 S.pur (.indexAddr 296 v54 v49) (fun v56 =>
 S.ld (.load 226 v56) w.drew (fun v57 =>
 S.ld (.load 190 v10_value) w.drew (fun v59 =>
 S.pur (.bin .add 187 false true a3 (.int .u64 5)) (fun v61 =>
 S.call (.inv v57 "pub-bracken/pub/immutable.set") [a1, v59, v61, a4, a5, a6, a7] w.drew (fun v66 w =>
 J11 v66 w) Kp)))))))) (
 S.op (.load 190 v10_value) w (fun v69 w =>
 S.call (.fn 171) [a4, a1, v69] w (fun v70 w =>
 S.op (.mkIface 283 v70) w (fun v71 w =>
 J11 v71 w) Kp) Kp) Kp)) ∧
 (∀ (w : World) (junk : Nat → Value) (j21_newNode : Value), J11 j21_newNode w →
 Jn fun (J22 : World → Prop) =>
 (S.op (.un .not v37) w (fun v73 w =>
 Br v73 (
 S.op (.nilCheck a0) w (fun v76 w =>
 S.op (.fieldAddr 298 v76 1) w (fun v77 w =>
 S.op (.load 296 v77) w (fun v78 w =>
 S.op (.blt .len [296] 3 [v78]) w (fun v79 w =>
 S.op (.bin .gtr 3 false true v79 (.int .i64 16)) w (fun v80 w =>
 Br v80 (
 S.op (.alloc 307) w (fun v22_other w =>
 Lp fun (I14 : Value → World → Prop) (μ14 : Value → World → Nat) => I14 (.int .u64 0) w ∧
 ∀ (wl14 : World) (junk : Nat → Value) (s23_i : Value), I14 s23_i wl14 →
 S.op (.bin .lss 187 false true s23_i (.int .u64 32)) wl14 (fun v83 w =>
 Br v83 (
 S.op (.nilCheck a0) w (fun v87 w =>
 S.op (.fieldAddr 298 v87 0) w (fun v88 w =>
 S.op (.load 22 v88) w (fun v89 w =>
 S.op (.bin .shl 22 true false (.int .u32 1) s23_i) w (fun v91 w =>
 S.op (.bin .and 22 false false v89 v91) w (fun v92 w =>
 S.op (.bin .neq 22 false true v92 (.int .u32 0)) w (fun v93 w =>
 Br v93 (
 S.pur (.nilCheck a0) (fun v96 =>
 S.pur (.fieldAddr 298 v96 1) (fun v97 =>
 S.ld (.load 296 v97) w.drew (fun v98 =>
 S.pur (.fieldAddr 307 v22_other 0) (fun v99 =>
 S.ld (.load 187 v99) w.drew (fun v100 =>
 S.pur (.indexAddr 296 v98 v100) (fun v101 =>
 S.ld (.load 226 v101) w.drew (fun v102 =>
 S.pur (.fieldAddr 307 v22_other 1) (fun v103 =>
 S.pur (.indexAddr 305 v103 s23_i) (fun v104 =>
 S.op (.store 226 v104 v102) w.drew (fun _ w =>
 S.op (.fieldAddr 307 v22_other 0) w (fun v105 w =>
 S.op (.load 187 v105) w (fun v106 w =>
 S.op (.bin .add 187 false true v106 (.int .u64 1)) w (fun v107 w =>
 S.op (.fieldAddr 307 v22_other 0) w (fun v108 w =>
 S.op (.store 187 v108 v107) w (fun _ w =>
 S.op (.bin .add 187 false true s23_i (.int .u64 1)) w (fun v85 w =>
 I14 v85 w ∧ μ14 v85 w < μ14 s23_i wl14) Kp) Kp) Kp) Kp) Kp) Kp) Kp)))))))))) (
 S.op (.bin .add 187 false true s23_i (.int .u64 1)) w (fun v85 w =>
 I14 v85 w ∧ μ14 v85 w < μ14 s23_i wl14) Kp)) Kp) Kp) Kp) Kp) Kp) Kp) (
 S.op (.fieldAddr 307 v22_other 1) w (fun v111 w =>
 S.op (.indexAddr 305 v111 v28) w (fun v112 w =>
 S.op (.store 226 v112 j21_newNode) w (fun _ w =>
 S.op (.fieldAddr 307 v22_other 0) w (fun v113 w =>
 S.op (.load 187 v113) w (fun v114 w =>
 S.op (.bin .add 187 false true v114 (.int .u64 1)) w (fun v115 w =>
 S.op (.fieldAddr 307 v22_other 0) w (fun v116 w =>
 S.op (.store 187 v116 v115) w (fun _ w =>
 S.op (.mkIface 308 v22_other) w (fun v117 w =>
 K v117 w) Kp) Kp) Kp) Kp) Kp) Kp) Kp) Kp) Kp)) Kp) Kp) (
 J22 w)) Kp) Kp) Kp) Kp) Kp) (
 J22 w)) Kp) ∧
 (∀ (w : World) (junk : Nat → Value), J22 w →
 Br a6 (
 Br v37 (
 S.op (.nilCheck a0) w (fun v121 w =>
 S.op (.fieldAddr 298 v121 1) w (fun v122 w =>
 S.op (.load 296 v122) w (fun v123 w =>
 S.op (.indexAddr 296 v123 v49) w (fun v126 w =>
 S.op (.store 226 v126 j21_newNode) w (fun _ w =>
 S.op (.mkIface 295 a0) w (fun v166 w =>
 K v166 w) Kp) Kp) Kp) Kp) Kp) Kp) (
 S.op (.nilCheck a0) w (fun v128 w =>
 S.op (.fieldAddr 298 v128 0) w (fun v129 w =>
 S.op (.load 22 v129) w (fun v130 w =>
 S.op (.bin .or 22 false false v130 v30) w (fun v132 w =>
 S.op (.nilCheck a0) w (fun v133 w =>
 S.op (.fieldAddr 298 v133 0) w (fun v134 w =>
 S.op (.store 22 v134 v132) w (fun _ w =>
 S.op (.nilCheck a0) w (fun v137 w =>
 S.op (.fieldAddr 298 v137 1) w (fun v138 w =>
 S.op (.load 296 v138) w (fun v139 w =>
 S.op (.buildSlice 296 1 [(0, .nilIface)]) w (fun v140 w =>
 S.op (.blt .append [296, 296] 296 [v139, v140]) w (fun v141 w =>
 S.op (.nilCheck a0) w (fun v142 w =>
 S.op (.fieldAddr 298 v142 1) w (fun v143 w =>
 S.op (.store 296 v143 v141) w (fun _ w =>
 S.pur (.nilCheck a0) (fun v145 =>
 S.pur (.fieldAddr 298 v145 1) (fun v146 =>
 S.ld (.load 296 v146) w.drew (fun v147 =>
 S.pur (.bin .add 3 false true v49 (.int .i64 1)) (fun v149 =>
 S.pur (.slice 296 v147 (some v149) none none) (fun v150 =>
 S.pur (.nilCheck a0) (fun v152 =>
 S.pur (.fieldAddr 298 v152 1) (fun v153 =>
 S.ld (.load 296 v153) w.drew (fun v154 =>
 S.pur (.slice 296 v154 (some v49) none none) (fun v156 =>
 S.op (.blt .copy [296, 296] 3 [v150, v156]) w.drew (fun v157 w =>
 S.op (.nilCheck a0) w (fun v159 w =>
 S.op (.fieldAddr 298 v159 1) w (fun v160 w =>
 S.op (.load 296 v160) w (fun v161 w =>
 S.op (.indexAddr 296 v161 v49) w (fun v164 w =>
 S.op (.store 226 v164 j21_newNode) w (fun _ w =>
 S.op (.mkIface 295 a0) w (fun v166 w =>
 K v166 w) Kp) Kp) Kp) Kp) Kp) Kp) Kp)))))))))) Kp) Kp) Kp) Kp) Kp) Kp) Kp) Kp) Kp) Kp) Kp) Kp) Kp) Kp) Kp)) (
 S.op (.nilCheck a0) w (fun v168 w =>
 S.op (.fieldAddr 298 v168 0) w (fun v169 w =>
 S.op (.load 22 v169) w (fun v170 w =>
 S.op (.bin .or 22 false false v170 v30) w (fun v172 w =>
 S.op (.build 298 [(0, v172)]) w (fun v173 w =>
 S.op (.box 298 v173) w (fun v174 w =>
 Br v37 (
 S.op (.nilCheck a0) w (fun v178 w =>
 S.op (.fieldAddr 298 v178 1) w (fun v179 w =>
 S.op (.load 296 v179) w (fun v180 w =>
 S.op (.blt .len [296] 3 [v180]) w (fun v181 w =>
 S.op (.mkSlice 296 v181 v181) w (fun v182 w =>
 S.op (.nilCheck v174) w (fun v183 w =>
 S.op (.fieldAddr 298 v183 1) w (fun v184 w =>
 S.op (.store 296 v184 v182) w (fun _ w =>
 S.pur (.nilCheck v174) (fun v186 =>
 S.pur (.fieldAddr 298 v186 1) (fun v187 =>
 S.ld (.load 296 v187) w.drew (fun v188 =>
 S.pur (.nilCheck a0) (fun v190 =>
 S.pur (.fieldAddr 298 v190 1) (fun v191 =>
 S.ld (.load 296 v191) w.drew (fun v192 =>
 S.op (.blt .copy [296, 296] 3 [v188, v192]) w.drew (fun v193 w =>
 S.op (.nilCheck v174) w (fun v195 w =>
 S.op (.fieldAddr 298 v195 1) w (fun v196 w =>
 S.op (.load 296 v196) w (fun v197 w =>
 S.op (.indexAddr 296 v197 v49) w (fun v200 w =>
 S.op (.store 226 v200 j21_newNode) w (fun _ w =>
 S.op (.mkIface 295 v174) w (fun v244 w =>
 K v244 w) Kp) Kp) Kp) Kp) Kp) Kp) Kp))))))) Kp) Kp) Kp) Kp) Kp) Kp) Kp) Kp) (
 S.op (.nilCheck a0) w (fun v203 w =>
 S.op (.fieldAddr 298 v203 1) w (fun v204 w =>
 S.op (.load 296 v204) w (fun v205 w =>
 S.op (.blt .len [296] 3 [v205]) w (fun v206 w =>
 S.op (.bin .add 3 false true v206 (.int .i64 1)) w (fun v207 w =>
 S.op (.mkSlice 296 v207 v207) w (fun v208 w =>
 S.op (.nilCheck v174) w (fun v209 w =>
 S.op (.fieldAddr 298 v209 1) w (fun v210 w =>
 S.op (.store 296 v210 v208) w (fun _ w =>
 S.pur (.nilCheck v174) (fun v212 =>
 S.pur (.fieldAddr 298 v212 1) (fun v213 =>
 S.ld (.load 296 v213) w.drew (fun v214 =>
 S.pur (.nilCheck a0) (fun v216 =>
 S.pur (.fieldAddr 298 v216 1) (fun v217 =>
 S.ld (.load 296 v217) w.drew (fun v218 =>
 S.pur (.slice 296 v218 none (some v49) none) (fun v220 =>
 S.op (.blt .copy [296, 296] 3 [v214, v220]) w.drew (fun v221 w =>
 S.op (.nilCheck v174) w (fun v223 w =>
 S.op (.fieldAddr 298 v223 1) w (fun v224 w =>
 S.op (.load 296 v224) w (fun v225 w =>
 S.op (.indexAddr 296 v225 v49) w (fun v228 w =>
 S.op (.store 226 v228 j21_newNode) w (fun _ w =>
 S.pur (.nilCheck v174) (fun v230 =>
 S.pur (.fieldAddr 298 v230 1) (fun v231 =>
 S.ld (.load 296 v231) w.drew (fun v232 =>
 S.pur (.bin .add 3 false true v49 (.int .i64 1)) (fun v234 =>
 S.pur (.slice 296 v232 (some v234) none none) (fun v235 =>
 S.pur (.nilCheck a0) (fun v237 =>
 S.pur (.fieldAddr 298 v237 1) (fun v238 =>
 S.ld (.load 296 v238) w.drew (fun v239 =>
 S.pur (.slice 296 v239 (some v49) none none) (fun v241 =>
 S.op (.blt .copy [296, 296] 3 [v235, v241]) w.drew (fun v242 w =>
 S.op (.mkIface 295 v174) w (fun v244 w =>
 K v244 w) Kp) Kp)))))))))) Kp) Kp) Kp) Kp) Kp) Kp)))))))) Kp) Kp) Kp) Kp) Kp) Kp) Kp) Kp) Kp)) Kp) Kp) Kp) Kp) Kp) Kp)))) Kp) Kp) Kp) Kp) Kp) Kp)) Kp) Kp) Kp) Kp) Kp) Kp) Kp) Kp) Kp
theorem vc190_eq (S : Sig) (a0 a1 a2 a3 a4 a5 a6 a7 : Value) (w : World) (K : Value → World → Prop) (Kp : KP) : vc190 S a0 a1 a2 a3 a4 a5 a6 a7 w K Kp = fVC S [(14, [23])] [(6, []), (11, [21]), (22, [])] Try.f190 [a0, a1, a2, a3, a4, a5, a6, a7] w K Kp := by kernel_rfl
theorem vc190_calls {a0 a1 a2 a3 a4 a5 a6 a7 : Value} {w : World} {K : Value → World → Prop} {Kp : KP} (h : vc190 (nice Try.prog) a0 a1 a2 a3 a4 a5 a6 a7 w K Kp) : Calls Try.prog 190 #[a0, a1, a2, a3, a4, a5, a6, a7] w (ret K Kp) :=
 fVC_sound (args := [a0, a1, a2, a3, a4, a5, a6, a7]) nice_le follows_MVcS Try.func190 (by kernel_rfl) (Eq.mp (vc190_eq _ _ _ _ _ _ _ _ _ _ _ _) h)

def vc191 (S : Sig) (a0 : Value) (w : World) (K : Value → World → Prop) (Kp : KP) : Prop :=
 S.op (.nilCheck a0) w (fun v5 w =>
 S.op (.load 307 v5) w (fun v6 w =>
 S.op (.alloc 307) w (fun v3_other w =>
 S.op (.store 307 v3_other v6) w (fun _ w =>
 K v3_other w) Kp) Kp) Kp) Kp
theorem vc191_eq (S : Sig) (a0 : Value) (w : World) (K : Value → World → Prop) (Kp : KP) : vc191 S a0 w K Kp = fVC S [] [] Try.f191 [a0] w K Kp := by kernel_rfl
theorem vc191_calls {a0 : Value} {w : World} {K : Value → World → Prop} {Kp : KP} (h : vc191 (nice Try.prog) a0 w K Kp) : Calls Try.prog 191 #[a0] w (ret K Kp) :=
 fVC_sound (args := [a0]) nice_le follows_MVcS Try.func191 (by kernel_rfl) (Eq.mp (vc191_eq _ _ _ _ _) h)

def vc192 (S : Sig) (a0 a1 a2 a3 a4 a5 a6 : Value) (w : World) (K : Value → World → Prop) (Kp : KP) : Prop :=
 S.op (.bin .shr 22 false false a3 a2) w (fun v24 w =>
 S.op (.bin .and 22 false true v24 (.int .u32 31)) w (fun v25 w =>
 S.op (.nilCheck a0) w (fun v28 w =>
 S.op (.fieldAddr 307 v28 1) w (fun v29 w =>
 S.op (.indexAddr 305 v29 v25) w (fun v30 w =>
 S.op (.load 226 v30) w (fun v31 w =>
 S.op (.bin .eql 226 false true v31 .nilIface) w (fun v33 w =>
 Br v33 (
 S.op (.mkIface 308 a0) w (fun v35 w =>
 K v35 w) Kp) (
 S.op (.bin .add 187 false true a2 (.int .u64 5)) w (fun v39 w =>
 S.call (.inv v31 "pub-bracken/pub/immutable.delete") [a1, v39, a3, a4, a5, a6] w (fun v44 w =>
 S.op (.nilCheck a6) w (fun v46 w =>
 S.op (.load 4 v46) w (fun v47 w =>
 S.op (.un .not v47) w (fun v48 w =>
 Br v48 (
 S.op (.mkIface 308 a0) w (fun v50 w =>
 K v50 w) Kp) (
 Jn fun (J18 : World → Prop) =>
 (S.op (.bin .eql 226 false true v44 .nilIface) w (fun v52 w =>
 Br v52 (
 S.op (.nilCheck a0) w (fun v55 w =>
 S.op (.fieldAddr 307 v55 0) w (fun v56 w =>
 S.op (.load 187 v56) w (fun v57 w =>
 S.op (.bin .leq 187 false true v57 (.int .u64 16)) w (fun v58 w =>
 Br v58 (
 S.op (.nilCheck a0) w (fun v61 w =>
 S.op (.fieldAddr 307 v61 0) w (fun v62 w =>
 S.op (.load 187 v62) w (fun v63 w =>
 S.op (.bin .sub 187 false true v63 (.int .u64 1)) w (fun v64 w =>
 S.op (.mkSlice 296 (.int .i64 0) v64) w (fun v65 w =>
 S.op (.build 298 [(1, v65)]) w (fun v66 w =>
 S.op (.box 298 v66) w (fun v67 w =>
 S.op (.nilCheck a0) w (fun v69 w =>
 S.op (.fieldAddr 307 v69 1) w (fun v70 w =>
 S.op (.load 305 v70) w (fun v71 w =>
 Lp fun (I11 : Value → World → Prop) (μ11 : Value → World → Nat) => I11 (.int .i64 0) w ∧
 ∀ (wl11 : World) (junk : Nat → Value) (s72_ : Value), I11 s72_ wl11 →
 S.op (.bin .lss 3 false true s72_ (.int .i64 32)) wl11 (fun v73 w =>
 Br v73 (
 S.op (.index 305 v71 s72_) w (fun v75 w =>
 S.op (.bin .neq 226 false true v75 .nilIface) w (fun v77 w =>
 Br v77 (
 S.op (.conv 3 22 s72_) w (fun v80 w =>
 S.op (.bin .neq 22 false false v80 v25) w (fun v82 w =>
 Br v82 (
 S.op (.nilCheck v67) w (fun v85 w =>
 S.op (.fieldAddr 298 v85 0) w (fun v86 w =>
 S.op (.load 22 v86) w (fun v87 w =>
 S.op (.conv 3 187 s72_) w (fun v89 w =>
 S.op (.bin .shl 22 true false (.int .u32 1) v89) w (fun v90 w =>
 S.op (.bin .or 22 false false v87 v90) w (fun v91 w =>
 S.op (.nilCheck v67) w (fun v92 w =>
 S.op (.fieldAddr 298 v92 0) w (fun v93 w =>
 S.op (.store 22 v93 v91) w (fun _ w =>
 S.op (.nilCheck v67) w (fun v96 w =>
 S.op (.fieldAddr 298 v96 1) w (fun v97 w =>
 S.op (.load 296 v97) w (fun v98 w =>
 S.op (.buildSlice 296 1 [(0, v75)]) w (fun v100 w =>
 S.op (.blt .append [296, 296] 296 [v98, v100]) w (fun v101 w =>
 S.op (.nilCheck v67) w (fun v102 w =>
 S.op (.fieldAddr 298 v102 1) w (fun v103 w =>
 S.op (.store 296 v103 v101) w (fun _ w =>
 S.op (.bin .add 3 false true s72_ (.int .i64 1)) w (fun v104 w =>
 I11 v104 w ∧ μ11 v104 w < μ11 s72_ wl11) Kp) Kp) Kp) Kp) Kp) Kp) Kp) Kp) Kp) Kp) Kp) Kp) Kp) Kp) Kp) Kp) Kp) Kp) (
 S.op (.bin .add 3 false true s72_ (.int .i64 1)) w (fun v104 w =>
 I11 v104 w ∧ μ11 v104 w < μ11 s72_ wl11) Kp)) Kp) Kp) (
 S.op (.bin .add 3 false true s72_ (.int .i64 1)) w (fun v104 w =>
 I11 v104 w ∧ μ11 v104 w < μ11 s72_ wl11) Kp)) Kp) Kp) (
 S.op (.mkIface 295 v67) w (fun v106 w =>
 K v106 w) Kp)) Kp) Kp) Kp) Kp) Kp) Kp) Kp) Kp) Kp) Kp) Kp) (
 J18 w)) Kp) Kp) Kp) Kp) (
 J18 w)) Kp) ∧
 (∀ (w : World) (junk : Nat → Value), J18 w →
 S.op (.un .not a5) w (fun v109 w =>
 Br v109 (
 S.call (.fn 191) [a0] w (fun v111 w =>
 S.op (.nilCheck v111) w (fun v115 w =>
 S.op (.fieldAddr 307 v115 1) w (fun v116 w =>
 S.op (.indexAddr 305 v116 v25) w (fun v117 w =>
 S.op (.store 226 v117 v44) w (fun _ w =>
 S.op (.bin .eql 226 false true v44 .nilIface) w (fun v119 w =>
 Br v119 (
 S.op (.nilCheck v111) w (fun v121 w =>
 S.op (.fieldAddr 307 v121 0) w (fun v122 w =>
 S.op (.load 187 v122) w (fun v123 w =>
 S.op (.bin .sub 187 false true v123 (.int .u64 1)) w (fun v124 w =>
 S.op (.nilCheck v111) w (fun v125 w =>
 S.op (.fieldAddr 307 v125 0) w (fun v126 w =>
 S.op (.store 187 v126 v124) w (fun _ w =>
 S.op (.mkIface 308 v111) w (fun v128 w =>
 K v128 w) Kp) Kp) Kp) Kp) Kp) Kp) Kp) Kp) (
 S.op (.mkIface 308 v111) w (fun v128 w =>
 K v128 w) Kp)) Kp) Kp) Kp) Kp) Kp) Kp) (
 S.op (.nilCheck a0) w (fun v115 w =>
 S.op (.fieldAddr 307 v115 1) w (fun v116 w =>
 S.op (.indexAddr 305 v116 v25) w (fun v117 w =>
 S.op (.store 226 v117 v44) w (fun _ w =>
 S.op (.bin .eql 226 false true v44 .nilIface) w (fun v119 w =>
 Br v119 (
 S.op (.nilCheck a0) w (fun v121 w =>
 S.op (.fieldAddr 307 v121 0) w (fun v122 w =>
 S.op (.load 187 v122) w (fun v123 w =>
 S.op (.bin .sub 187 false true v123 (.int .u64 1)) w (fun v124 w =>
 S.op (.nilCheck a0) w (fun v125 w =>
 S.op (.fieldAddr 307 v125 0) w (fun v126 w =>
 S.op (.store 187 v126 v124) w (fun _ w =>
 S.op (.mkIface 308 a0) w (fun v128 w =>
 K v128 w) Kp) Kp) Kp) Kp) Kp) Kp) Kp) Kp) (
 S.op (.mkIface 308 a0) w (fun v128 w =>
 K v128 w) Kp)) Kp) Kp) Kp) Kp) Kp)) Kp))) Kp) Kp) Kp) Kp) Kp)) Kp) Kp) Kp) Kp) Kp) Kp) Kp
theorem vc192_eq (S : Sig) (a0 a1 a2 a3 a4 a5 a6 : Value) (w : World) (K : Value → World → Prop) (Kp : KP) : vc192 S a0 a1 a2 a3 a4 a5 a6 w K Kp = fVC S [(11, [72])] [(18, [])] Try.f192 [a0, a1, a2, a3, a4, a5, a6] w K Kp := by kernel_rfl
theorem vc192_calls {a0 a1 a2 a3 a4 a5 a6 : Value} {w : World} {K : Value → World → Prop} {Kp : KP} (h : vc192 (nice Try.prog) a0 a1 a2 a3 a4 a5 a6 w K Kp) : Calls Try.prog 192 #[a0, a1, a2, a3, a4, a5, a6] w (ret K Kp) :=
 fVC_sound (args := [a0, a1, a2, a3, a4, a5, a6]) nice_le follows_MVcS Try.func192 (by kernel_rfl) (Eq.mp (vc192_eq _ _ _ _ _ _ _ _ _ _ _) h)

def vc193 (S : Sig) (a0 a1 a2 a3 a4 : Value) (w : World) (K : Value → World → Prop) (Kp : KP) : Prop :=
 S.op (.alloc 190) w (fun v10_value w =>
 S.op (.bin .shr 22 false false a3 a2) w (fun v16 w =>
 S.op (.bin .and 22 false true v16 (.int .u32 31)) w (fun v17 w =>
 S.op (.nilCheck a0) w (fun v18 w =>
 S.op (.fieldAddr 307 v18 1) w (fun v19 w =>
 S.op (.indexAddr 305 v19 v17) w (fun v20 w =>
 S.op (.load 226 v20) w (fun v21 w =>
 S.op (.bin .eql 226 false true v21 .nilIface) w (fun v23 w =>
 Br v23 (
 S.op (.load 190 v10_value) w (fun v24 w =>
 S.op (.store 190 v10_value v24) w (fun _ w =>
 S.ld (.load 190 v10_value) w (fun r0 =>
 K (.tuple #[r0, (.bool false)]) w)) Kp) Kp) (
 S.op (.bin .add 187 false true a2 (.int .u64 5)) w (fun v28 w =>
 S.call (.inv v21 "pub-bracken/pub/immutable.get") [a1, v28, a3, a4] w (fun v31 w =>
 S.op (.extract v31 0) w (fun v32 w =>
 S.op (.extract v31 1) w (fun v33 w =>
 S.op (.store 190 v10_value v32) w (fun _ w =>
 S.ld (.load 190 v10_value) w (fun r0 =>
 K (.tuple #[r0, v33]) w)) Kp) Kp) Kp) Kp) Kp)) Kp) Kp) Kp) Kp) Kp) Kp) Kp) Kp
theorem vc193_eq (S : Sig) (a0 a1 a2 a3 a4 : Value) (w : World) (K : Value → World → Prop) (Kp : KP) : vc193 S a0 a1 a2 a3 a4 w K Kp = fVC S [] [] Try.f193 [a0, a1, a2, a3, a4] w K Kp := by kernel_rfl
theorem vc193_calls {a0 a1 a2 a3 a4 : Value} {w : World} {K : Value → World → Prop} {Kp : KP} (h : vc193 (nice Try.prog) a0 a1 a2 a3 a4 w K Kp) : Calls Try.prog 193 #[a0, a1, a2, a3, a4] w (ret K Kp) :=
 fVC_sound (args := [a0, a1, a2, a3, a4]) nice_le follows_MVcS Try.func193 (by kernel_rfl) (Eq.mp (vc193_eq _ _ _ _ _ _ _ _ _) h)

def vc194 (S : Sig) (a0 a1 a2 a3 a4 a5 a6 a7 : Value) (w : World) (K : Value → World → Prop) (Kp : KP) : Prop :=
 S.op (.box 190 a2) w (fun v10_value w =>
 S.op (.bin .shr 22 false false a4 a3) w (fun v23 w =>
 S.op (.bin .and 22 false true v23 (.int .u32 31)) w (fun v24 w =>
 S.op (.nilCheck a0) w (fun v27 w =>
 S.op (.fieldAddr 307 v27 1) w (fun v28 w =>
 S.op (.indexAddr 305 v28 v24) w (fun v29 w =>
 S.op (.load 226 v29) w (fun v30 w =>
 Jn fun (J8 : Value → World → Prop) =>
 (S.op (.bin .eql 226 false true v30 .nilIface) w (fun v32 w =>
 Br v32 (
 S.op (.nilCheck a7) w (fun v34 w =>
 S.op (.store 4 v34 (.bool true)) w (fun _ w =>
 S.op (.load 190 v10_value) w (fun v37 w =>
 S.call (.fn 171) [a4, a1, v37] w (fun v38 w =>
 S.op (.mkIface 283 v38) w (fun v39 w =>
 J8 v39 w) Kp) Kp) Kp) Kp) Kp) (
 S.op (.load 190 v10_value) w (fun v42 w =>
 S.op (.bin .add 187 false true a3 (.int .u64 5)) w (fun v44 w =>
 S.call (.inv v30 "pub-bracken/pub/immutable.set") [a1, v42, v44, a4, a5, a6, a7] w (fun v49 w =>
 J8 v49 w) Kp) Kp) Kp)) Kp) ∧
 (∀ (w : World) (junk : Nat → Value) (j19_newNode : Value), J8 j19_newNode w →
 Jn fun (J11 : Value → World → Prop) =>
 (S.op (.un .not a6) w (fun v52 w =>
 Br v52 (
 S.call (.fn 191) [a0] w (fun v54 w =>
 J11 v54 w) Kp) (
 J11 a0 w)) Kp) ∧
 (∀ (w : World) (junk : Nat → Value) (j20_other : Value), J11 j20_other w →
 S.op (.bin .eql 226 false true v30 .nilIface) w (fun v56 w =>
 Br v56 (
 S.op (.nilCheck j20_other) w (fun v58 w =>
 S.op (.fieldAddr 307 v58 0) w (fun v59 w =>
 S.op (.load 187 v59) w (fun v60 w =>
 S.op (.bin .add 187 false true v60 (.int .u64 1)) w (fun v61 w =>
 S.op (.nilCheck j20_other) w (fun v62 w =>
 S.op (.fieldAddr 307 v62 0) w (fun v63 w =>
 S.op (.store 187 v63 v61) w (fun _ w =>
 S.op (.nilCheck j20_other) w (fun v67 w =>
 S.op (.fieldAddr 307 v67 1) w (fun v68 w =>
 S.op (.indexAddr 305 v68 v24) w (fun v69 w =>
 S.op (.store 226 v69 j19_newNode) w (fun _ w =>
 S.op (.mkIface 308 j20_other) w (fun v71 w =>
 K v71 w) Kp) Kp) Kp) Kp) Kp) Kp) Kp) Kp) Kp) Kp) Kp) Kp) (
 S.op (.nilCheck j20_other) w (fun v67 w =>
 S.op (.fieldAddr 307 v67 1) w (fun v68 w =>
 S.op (.indexAddr 305 v68 v24) w (fun v69 w =>
 S.op (.store 226 v69 j19_newNode) w (fun _ w =>
 S.op (.mkIface 308 j20_other) w (fun v71 w =>
 K v71 w) Kp) Kp) Kp) Kp) Kp)) Kp))) Kp) Kp) Kp) Kp) Kp) Kp) Kp
theorem vc194_eq (S : Sig) (a0 a1 a2 a3 a4 a5 a6 a7 : Value) (w : World) (K : Value → World → Prop) (Kp : KP) : vc194 S a0 a1 a2 a3 a4 a5 a6 a7 w K Kp = fVC S [] [(8, [19]), (11, [20])] Try.f194 [a0, a1, a2, a3, a4, a5, a6, a7] w K Kp := by kernel_rfl
theorem vc194_calls {a0 a1 a2 a3 a4 a5 a6 a7 : Value} {w : World} {K : Value → World → Prop} {Kp : KP} (h : vc194 (nice Try.prog) a0 a1 a2 a3 a4 a5 a6 a7 w K Kp) : Calls Try.prog 194 #[a0, a1, a2, a3, a4, a5, a6, a7] w (ret K Kp) :=
 fVC_sound (args := [a0, a1, a2, a3, a4, a5, a6, a7]) nice_le follows_MVcS Try.func194 (by kernel_rfl) (Eq.mp (vc194_eq _ _ _ _ _ _ _ _ _ _ _ _) h)

end Go.Proofs.Ytbghmbbhkoniiaa
end
section
/- The address of a field that has no size. -/
set_option linter.unusedSimpArgs false
set_option linter.unusedVariables false
namespace Go.Vc
variable {P : Program} {w : World} {K : Value → World → Prop} {Kp : KP} {K1 : Value → Prop} {t e : TypeId}
theorem fieldAt0 {fs : Array Field} {fd : Field} {f b o b1 b2 : Nat} {cs : Array Value} {fz : Nat × Nat} (hu : P.underlying t = some (.struct fs)) (hf : fs[f]? = some fd) (hs : szOf P fd.type = some 0)
    (hb : w.heap[b]? = some (.cells cs e fz)) (h0 : P.cellsOf e ≠ 0) (h1 : byteOfCell P P.depth e (o % P.cellsOf e) = some b1) (h2 : byteOfCell P P.depth e ((o + fd.offset) % P.cellsOf e) = some b2)
    (hne : (o + fd.offset) / P.cellsOf e * P.bytesOf e + b2 ≠ o / P.cellsOf e * P.bytesOf e + b1 + fd.byteOffset) :
    (Instr.fieldAt t (.pointer (some ⟨b, o, none⟩)) f).run P w = .ok (.pointer (some ⟨b, o + fd.offset, some (o / P.cellsOf e * P.bytesOf e + b1 + fd.byteOffset)⟩)) w := by
  have hc : ∀ {α : Type} (k : Option (TypeId × Nat) → Sem α), (Sem.shape b k).run P w = (k (some (e, cs.size))).run P w := fun k => by
    simp [Sem.run, World.shape?, hb]
  simp [Instr.fieldAt, run_und hu, hf, Instr.sureAddr, fieldPlace, run_sz hs, partAt, byteOf, noView, viewAt, shape, hc, h0, h1, h2, hne]
theorem op_fa0_ok {f b o : Nat} {a : Value} (hn : fieldOff P t f = none) (h : (Instr.fieldAt t (.pointer (some ⟨b, o, none⟩)) f).run P w = .ok a w) (hK : K a w) : (nice P).op (.fieldAddr t (.pointer (some ⟨b, o, none⟩)) f) w K Kp := by
  simp only [nice, niceOp, pv, hn, Option.map_none, memOp]
  exact out_ok h hK
theorem ld_fa0_ok {f b o : Nat} {a : Value} (h : (Instr.fieldAt t (.pointer (some ⟨b, o, none⟩)) f).run P w = .ok a w) (hK : K1 a) : (nice P).ld (.fieldAddr t (.pointer (some ⟨b, o, none⟩)) f) w K1 := ⟨a, h, hK⟩
theorem same_fa0_ok {f b o : Nat} {a : Value} (h : (Instr.fieldAt t (.pointer (some ⟨b, o, none⟩)) f).run P w = .ok a w) : (nice P).same (.fieldAddr t (.pointer (some ⟨b, o, none⟩)) f) a w := h
end Go.Vc
end
section
/- The nodes of a map's trie in the heap; what looking a key up in them does. -/
set_option maxRecDepth 100000
set_option linter.unusedSimpArgs false
set_option linter.unusedVariables false
set_option linter.unusedSectionVars false
namespace Go.Proofs.Ytbghmbbhkoniiaa.S
open Go.Vc Go.Proofs Go.Proofs.Ytbghmbbhkoniiaa Go.Vc.Nd

abbrev Ky := Int
abbrev Vl := Unit
def ek (k : Ky) : Value := .int .i64 k
def ev (_ : Vl) : Value := .agg #[]
def zv : Value := .agg #[]
abbrev Tr := Nd Ky Vl
def ent (e : Ky × Vl) : List Value := [ek e.1]
theorem ent_len (e : Ky × Vl) : (ent e).length = 1 := rfl
theorem one_ek (k : Ky) : (ek k).oneCell' = true := rfl
def ents (es : List (Ky × Vl)) : List Value := es.flatMap ent
theorem ents_len (es : List (Ky × Vl)) : (ents es).length = es.length * 1 := flatMap_len ent_len es
theorem ents_get {es : List (Ky × Vl)} {i r : Nat} (hi : i < es.length) (hr : r < 1) : (ents es)[i * 1 + r]? = (ent es[i])[r]? := flatMap_get ent_len es i r hi hr
theorem ents_one {es : List (Ky × Vl)} : ∀ u ∈ ents es, u.oneCell' = true := fun u hu => by
  obtain ⟨e, _, he⟩ := List.mem_flatMap.1 hu
  simp only [ent, List.mem_cons, List.not_mem_nil, or_false] at he
  subst he; rfl
def ptr (b : Nat) : Value := .pointer (some ⟨b, 0, none⟩)

@[simp] theorem op_ent (a : Ky) (c : Vl) {w : World} {K : Value → World → Prop} {Kp : KP} : (nice Try.prog).op (.build 242 [(0, ek a), (1, ev c)]) w K Kp = K (.agg #[ek a]) w := op_build_242_0_1 (one_ek a)
@[simp] theorem pur_ent (a : Ky) (c : Vl) {K1 : Value → Prop} : (nice Try.prog).pur (.build 242 [(0, ek a), (1, ev c)]) K1 = K1 (.agg #[ek a]) := pur_build_242_0_1 (one_ek a)

@[simp] theorem pur_valB (a : Ky) (c : Vl) {h : Nat} {K1 : Value → Prop} : (nice Try.prog).pur (.build 286 [(0, .int .u32 h), (1, ek a), (2, ev c)]) K1 = K1 (.agg #[.int .u32 h, ek a]) := pur_build_286_0_1_2 one_int (one_ek a)
@[simp] theorem op_ent0 (a : Ky) {w : World} {K : Value → World → Prop} {Kp : KP} : (nice Try.prog).op (.build 242 [(0, ek a), (1, .agg #[])]) w K Kp = K (.agg #[ek a]) w := op_ent a ()
@[simp] theorem pur_ent0 (a : Ky) {K1 : Value → Prop} : (nice Try.prog).pur (.build 242 [(0, ek a), (1, .agg #[])]) K1 = K1 (.agg #[ek a]) := pur_ent a ()
@[simp] theorem pur_valB0 (a : Ky) {h : Nat} {K1 : Value → Prop} : (nice Try.prog).pur (.build 286 [(0, .int .u32 h), (1, ek a), (2, .agg #[])]) K1 = K1 (.agg #[.int .u32 h, ek a]) := pur_valB a ()
theorem apE : apOf Try.prog 243 = some (242, 1, 16) := by kernel_rfl
theorem apN : apOf Try.prog 296 = some (226, 1, 16) := by kernel_rfl

structure IsH (hv : Value) (hash : Ky → Nat) : Prop where
  lt : ∀ k, hash k < 2 ^ 32
  eqv : ∀ {a b : Ky} {w : World} {K : Value → World → Prop} {Kp : KP}, (∀ w', Frm (fun _ => False) w w' → K (.bool (decide (a = b))) w') → (nice Try.prog).call (.inv hv "Equal") [ek a, ek b] w K Kp
  hsh : ∀ {k : Ky} {w : World} {K : Value → World → Prop} {Kp : KP}, (∀ w', Frm (fun _ => False) w w' → K (.int .u32 (hash k)) w') → (nice Try.prog).call (.inv hv "Hash") [ek k] w K Kp
  nilE : ∀ {K1 : Value → Prop}, (nice Try.prog).pur (.nilCheck (.func (.method "Equal") #[hv] #[])) K1 = K1 (.func (.method "Equal") #[hv] #[])
  iface : ∃ t p, hv = .iface t p

def Rep (w : World) : Tr → Value → (Nat → Prop) → Prop
  | .emp, v, F => v = .nilIface
  | .arr es, v, F => ∃ b g cap, v = .iface 240 (ptr b) ∧ F b ∧ F g ∧ g ≠ b ∧ w.heap[b]? = some (.cells #[.slice (some ⟨g, 0, none⟩) es.length cap] 245 (0, 0)) ∧ es.length ≤ cap ∧ Rw w 242 1 g cap (ents es)
  | .val h k x, v, F => ∃ b, v = .iface 283 (ptr b) ∧ F b ∧ w.heap[b]? = some (.cells #[.int .u32 h, ek k] 286 (0, 0))
  | .col h es, v, F => ∃ b g cap, v = .iface 290 (ptr b) ∧ F b ∧ F g ∧ g ≠ b ∧ w.heap[b]? = some (.cells #[.int .u32 h, .slice (some ⟨g, 0, none⟩) es.length cap] 292 (0, 0)) ∧ es.length ≤ cap ∧ Rw w 242 1 g cap (ents es)
  | .br false f, v, F => ∃ b g cap, ∃ vs : Nat → Value, ∃ Fs : Nat → Nat → Prop, v = .iface 295 (ptr b) ∧ F b ∧ F g ∧ g ≠ b ∧ w.heap[b]? = some (.cells #[.int .u32 (bm f), .slice (some ⟨g, 0, none⟩) (cnt f) cap] 298 (0, 0)) ∧ cnt f ≤ cap ∧ Rw w 226 1 g cap (kids f vs) ∧
      (∀ i, i < 32 → Rep w (f i) (vs i) (Fs i)) ∧ ∀ i, i < 32 → ∀ c, Fs i c → F c ∧ c ≠ b ∧ c ≠ g ∧ ∀ k, k < 32 → k ≠ i → ¬ Fs k c
  | .br true f, v, F => ∃ b cs, ∃ vs : Nat → Value, ∃ Fs : Nat → Nat → Prop, v = .iface 308 (ptr b) ∧ F b ∧ w.heap[b]? = some (.cells cs 307 (0, 0)) ∧ cs.size = 33 ∧ cs[0]? = some (.int .u64 (cnt f)) ∧ (∀ i, i < 32 → cs[i + 1]? = some (vs i)) ∧
      (∀ i, i < 32 → Rep w (f i) (vs i) (Fs i)) ∧ ∀ i, i < 32 → ∀ c, Fs i c → F c ∧ c ≠ b ∧ ∀ k, k < 32 → k ≠ i → ¬ Fs k c

variable {w w' : World} {v hv : Value} {t : Tr} {F F' : Nat → Prop} {K : Value → World → Prop} {Kp : KP} {hash : Ky → Nat} {k : Ky} {x : Vl} {l : Nat}
theorem Rep.mono : ∀ {t : Tr} {v : Value} {F F' : Nat → Prop}, Rep w t v F → (∀ b, F b → F' b) → (∀ b o, F b → w.heap[b]? = some o → w'.heap[b]? = some o) → Rep w' t v F'
  | .emp, v, F, F', h, hF, hw => h
  | .arr es, v, F, F', h, hF, hw => by
    obtain ⟨b, g, cap, h1, h2, h3, h4, h5, h6, h7⟩ := h
    exact ⟨b, g, cap, h1, hF _ h2, hF _ h3, h4, hw _ _ h2 h5, h6, h7.keep fun o => hw _ _ h3⟩
  | .val h' k x, v, F, F', h, hF, hw => by
    obtain ⟨b, h1, h2, h3⟩ := h
    exact ⟨b, h1, hF _ h2, hw _ _ h2 h3⟩
  | .col h' es, v, F, F', h, hF, hw => by
    obtain ⟨b, g, cap, h1, h2, h3, h4, h5, h6, h7⟩ := h
    exact ⟨b, g, cap, h1, hF _ h2, hF _ h3, h4, hw _ _ h2 h5, h6, h7.keep fun o => hw _ _ h3⟩
  | .br false f, v, F, F', h, hF, hw => by
    obtain ⟨b, g, cap, vs, Fs, h1, h2, h3, h4, h5, h6, h7, h8, h9⟩ := h
    exact ⟨b, g, cap, vs, Fs, h1, hF _ h2, hF _ h3, h4, hw _ _ h2 h5, h6, h7.keep fun o => hw _ _ h3, fun i hi => (h8 i hi).mono (fun _ h => h) fun c o hc => hw c o (h9 i hi c hc).1,
      fun i hi c hc => ⟨hF _ (h9 i hi c hc).1, (h9 i hi c hc).2⟩⟩
  | .br true f, v, F, F', h, hF, hw => by
    obtain ⟨b, cs, vs, Fs, h1, h2, h3, h4, h5, h6, h7, h8⟩ := h
    exact ⟨b, cs, vs, Fs, h1, hF _ h2, hw _ _ h2 h3, h4, h5, h6, fun i hi => (h7 i hi).mono (fun _ h => h) fun c o hc => hw c o (h8 i hi c hc).1,
      fun i hi c hc => ⟨hF _ (h8 i hi c hc).1, (h8 i hi c hc).2⟩⟩
theorem Rep.frame {M : Nat → Prop} (h : Rep w t v F) (hf : Frm M w w') (hM : ∀ b, F b → ¬ M b) : Rep w' t v F :=
  h.mono (fun _ h => h) fun b o hb ho => hf.get ho (hM b hb)
theorem Rep.still (h : Rep w t v F) (hf : Frm (fun _ => False) w w') : Rep w' t v F := h.frame hf fun _ _ h => h
theorem Rep.lt : ∀ {t : Tr} {v : Value} {F : Nat → Prop}, Rep w t v F → Rep w t v (fun b => F b ∧ b < w.heap.size)
  | .emp, v, F, h => h
  | .arr es, v, F, h => by
    obtain ⟨b, g, cap, h1, h2, h3, h4, h5, h6, h7⟩ := h
    exact ⟨b, g, cap, h1, ⟨h2, lt_of_get h5⟩, ⟨h3, h7.lt⟩, h4, h5, h6, h7⟩
  | .val h' k x, v, F, h => by
    obtain ⟨b, h1, h2, h3⟩ := h
    exact ⟨b, h1, ⟨h2, lt_of_get h3⟩, h3⟩
  | .col h' es, v, F, h => by
    obtain ⟨b, g, cap, h1, h2, h3, h4, h5, h6, h7⟩ := h
    exact ⟨b, g, cap, h1, ⟨h2, lt_of_get h5⟩, ⟨h3, h7.lt⟩, h4, h5, h6, h7⟩
  | .br false f, v, F, h => by
    obtain ⟨b, g, cap, vs, Fs, h1, h2, h3, h4, h5, h6, h7, h8, h9⟩ := h
    exact ⟨b, g, cap, vs, fun i c => Fs i c ∧ c < w.heap.size, h1, ⟨h2, lt_of_get h5⟩, ⟨h3, h7.lt⟩, h4, h5, h6, h7, fun i hi => (h8 i hi).lt,
      fun i hi c hc => ⟨⟨(h9 i hi c hc.1).1, hc.2⟩, (h9 i hi c hc.1).2.1, (h9 i hi c hc.1).2.2.1, fun k hk hne h => (h9 i hi c hc.1).2.2.2 k hk hne h.1⟩⟩
  | .br true f, v, F, h => by
    obtain ⟨b, cs, vs, Fs, h1, h2, h3, h4, h5, h6, h7, h8⟩ := h
    exact ⟨b, cs, vs, fun i c => Fs i c ∧ c < w.heap.size, h1, ⟨h2, lt_of_get h3⟩, h3, h4, h5, h6, fun i hi => (h7 i hi).lt,
      fun i hi c hc => ⟨⟨(h8 i hi c hc.1).1, hc.2⟩, (h8 i hi c hc.1).2.1, fun k hk hne h => (h8 i hi c hc.1).2.2 k hk hne h.1⟩⟩
theorem Rep.iface (h : Rep w t v F) (ht : t ≠ .emp) : ∃ u b, v = .iface u (ptr b) := by
  cases t with
  | emp => exact absurd rfl ht
  | arr es => obtain ⟨b, g, cap, h1, _⟩ := h; exact ⟨_, _, h1⟩
  | val h' k x => obtain ⟨b, h1, _⟩ := h; exact ⟨_, _, h1⟩
  | col h' es => obtain ⟨b, g, cap, h1, _⟩ := h; exact ⟨_, _, h1⟩
  | br hs f => cases hs with
    | true => obtain ⟨b, cs, vs, Fs, h1, _⟩ := h; exact ⟨_, _, h1⟩
    | false => obtain ⟨b, g, cap, vs, Fs, h1, _⟩ := h; exact ⟨_, _, h1⟩
theorem Rep.nil (h : Rep w .emp v F) : v = .nilIface := h
theorem Rep.one (h : Rep w t v F) : v.oneCell' = true := by
  by_cases ht : t = .emp
  · subst ht; rw [h.nil]; rfl
  · obtain ⟨u, b, rfl⟩ := h.iface ht; rfl
theorem find_at {es : List (Ky × Vl)} {j : Nat} (hj : j < es.length) (h1 : ∀ i (hi : i < j), es[i].1 ≠ k) (h2 : es[j].1 = k) : find es k = some j := by
  rw [find, List.findIdx?_eq_some_iff_getElem]
  exact ⟨hj, by simpa using h2, fun i hi => by simpa using h1 i hi⟩
def idxV (o : Option Nat) : Value := match o with
  | some i => .int .i64 i
  | none => .int .i64 (-1)
theorem key_cell {g cap : Nat} {es : List (Ky × Vl)} (h : Rw w 242 1 g cap (ents es)) : ∃ cur, w.heap[g]? = some (.cells cur 242 (0, 0)) ∧ ∀ j (hj : j < es.length), cur[j * 1]? = some (ek es[j].1) ∧ cur[j * 1 + 1]? = if 1 < 1 then some (ev es[j].2) else cur[j * 1 + 1]? := by
  obtain ⟨cur, h1, h2, h3⟩ := h.cells
  refine ⟨cur, h1, fun j hj => ⟨?_, ?_⟩⟩
  · rw [h3 _ (by rw [ents_len]; omega)]
    have := ents_get (r := 0) hj (by decide)
    rw [Nat.add_zero] at this
    rw [this]; rfl
  · rfl
theorem ent_val {g o : Nat} {cur : Array Value} {fz : Nat × Nat} (hb : w.heap[g]? = some (.cells cur 242 fz)) : (Instr.fieldAt 242 (.pointer (some ⟨g, o, none⟩)) 1).run Try.prog w = .ok (.pointer (some ⟨g, o + 1, some (o * 16 + 8)⟩)) w := by
  have c1 : Try.prog.cellsOf 242 = 1 := by kernel_rfl
  have c2 : Try.prog.bytesOf 242 = 16 := by kernel_rfl
  have c3 : byteOfCell Try.prog Try.prog.depth 242 0 = some 0 := by kernel_rfl
  have := fieldAt0 (P := Try.prog) (t := 242) (f := 1) (o := o) (b1 := 0) (b2 := 0) (fs := Try.prog.fieldsOf 242) (fd := ((Try.prog.fieldsOf 242)[1]?).getD default) (by kernel_rfl) (by kernel_rfl) (by kernel_rfl) hb (by rw [c1]; decide) (by rw [c1, Nat.mod_one]; exact c3) (by rw [c1, Nat.mod_one]; exact c3)
  have d1 : (((Try.prog.fieldsOf 242)[1]?).getD default).offset = 1 := by kernel_rfl
  have d2 : (((Try.prog.fieldsOf 242)[1]?).getD default).byteOffset = 8 := by kernel_rfl
  rw [c1, c2, d1, d2, Nat.div_one, Nat.div_one] at this
  exact this (by omega)
theorem val_val {b : Nat} {cur : Array Value} {fz : Nat × Nat} (hb : w.heap[b]? = some (.cells cur 286 fz)) : (Instr.fieldAt 286 (.pointer (some ⟨b, 0, none⟩)) 2).run Try.prog w = .ok (.pointer (some ⟨b, 2, some 16⟩)) w := by
  have c1 : Try.prog.cellsOf 286 = 2 := by kernel_rfl
  have c2 : Try.prog.bytesOf 286 = 24 := by kernel_rfl
  have c3 : byteOfCell Try.prog Try.prog.depth 286 0 = some 0 := by kernel_rfl
  have d1 : (((Try.prog.fieldsOf 286)[2]?).getD default).offset = 2 := by kernel_rfl
  have d2 : (((Try.prog.fieldsOf 286)[2]?).getD default).byteOffset = 16 := by kernel_rfl
  have := fieldAt0 (P := Try.prog) (t := 286) (f := 2) (o := 0) (b1 := 0) (b2 := 0) (fs := Try.prog.fieldsOf 286) (fd := ((Try.prog.fieldsOf 286)[2]?).getD default) (by kernel_rfl) (by kernel_rfl) (by kernel_rfl) hb (by rw [c1]; decide) (by rw [c1]; exact c3) (by rw [c1, d1]; exact c3)
  rw [c1, c2, d1, d2] at this
  exact this (by decide)
theorem wrap_i64_small {n : Int} (h0 : 0 ≤ n) (h1 : n < 9223372036854775808) : IntKind.i64.wrap n = n := by rw [IntKind.wrap_i64]; omega
def natOf : Value → Nat
  | .int _ j => j.toNat
  | _ => 0
theorem indexA_ok {b g cap : Nat} {es : List (Ky × Vl)} (hH : IsH hv hash) (hb : w.heap[b]? = some (.cells #[.slice (some ⟨g, 0, none⟩) es.length cap] 245 (0, 0))) (hg : Rw w 242 1 g cap (ents es)) (h6 : es.length ≤ cap)
    (hK : ∀ w', Frm (fun _ => False) w w' → K (idxV (find es k)) w') : Calls Try.prog 169 #[ptr b, ek k, hv] w (ret K Kp) := by
  have hc := hg.cap_le h6
  refine vc169_calls ?_
  simp [-getElem?_pos, -Array.getElem?_eq_getElem, vc169, ptr, add_spot, hb, and_assoc]
  obtain ⟨I, hI⟩ : ∃ I : Value → World → Prop, ∀ s wl, I s wl ↔ ∃ j : Nat, s = Value.int .i64 j ∧ j ≤ es.length ∧ Frm (fun _ => False) w wl ∧ ∀ i (_ : i < j) (hi : i < es.length), es[i].1 ≠ k := ⟨_, fun _ _ => Iff.rfl⟩
  refine Lp.intro I (fun s _ => es.length - natOf s) ⟨(hI _ _).2 ⟨0, rfl, by omega, Frm.refl, fun i hi => by omega⟩, ?_⟩
  intro wl s hs
  obtain ⟨j, rfl, hj, hf, hno⟩ := (hI _ _).1 hs
  simp only [op_lss, Br_dec]
  refine ⟨fun hlt => ?_, fun hge => ?_⟩
  · have hlt' : j < es.length := by omega
    have hb' := hf.get hb (fun h => h)
    obtain ⟨cur, hcur, hk⟩ := key_cell (hg.frame hf fun h => h)
    have hk' := (hk j hlt').1
    rw [Nat.mul_one] at hk'
    simp [-getElem?_pos, -Array.getElem?_eq_getElem, ptr, add_spot, hb', hcur, hk', hH.nilE, and_assoc]
    refine ⟨by omega, hH.eqv fun w' hf' => ?_⟩
    simp only [Br_dec]
    refine ⟨fun he => ?_, fun hne => ?_⟩
    · have := hK w' (Frm.no hf (Frm.dr hf'))
      rw [find_at hlt' (fun i hi => hno i hi (by omega)) he] at this
      exact this
    · rw [wrap_i64_small (by omega) (by omega)]
      refine ⟨(hI _ _).2 ⟨j + 1, by simp, by omega, Frm.no hf (Frm.dr hf'), fun i hi hi' => ?_⟩, ?_⟩
      · by_cases e : i = j
        · subst e; exact hne
        · exact hno i (by omega) hi'
      · simp only [natOf]; omega
  · have := hK wl hf
    rw [show find es k = none from Nd.find_none.2 fun e he => by obtain ⟨i, hi, rfl⟩ := List.mem_iff_getElem.1 he; exact hno i (by omega) hi] at this
    exact this
end Go.Proofs.Ytbghmbbhkoniiaa.S
end
section
/- Looking a key up in a node. -/
set_option maxRecDepth 100000
set_option linter.unusedSimpArgs false
set_option linter.unusedVariables false
set_option linter.unusedSectionVars false
namespace Go.Proofs.Ytbghmbbhkoniiaa.S
open Go.Vc Go.Proofs Go.Proofs.Ytbghmbbhkoniiaa Go.Vc.Nd
variable {w w' : World} {v hv : Value} {t : Tr} {F F' : Nat → Prop} {K : Value → World → Prop} {Kp : KP} {hash : Ky → Nat} {k : Ky} {x : Vl} {l : Nat}

theorem indexC_ok {b g cap : Nat} {hx : Value} {es : List (Ky × Vl)} (hH : IsH hv hash) (hb : w.heap[b]? = some (.cells #[hx, .slice (some ⟨g, 0, none⟩) es.length cap] 292 (0, 0))) (hg : Rw w 242 1 g cap (ents es)) (h6 : es.length ≤ cap)
    (hK : ∀ w', Frm (fun _ => False) w w' → K (idxV (find es k)) w') : Calls Try.prog 185 #[ptr b, ek k, hv] w (ret K Kp) := by
  have hc := hg.cap_le h6
  refine vc185_calls ?_
  simp [-getElem?_pos, -Array.getElem?_eq_getElem, vc185, ptr, add_spot, hb, and_assoc]
  obtain ⟨I, hI⟩ : ∃ I : Value → World → Prop, ∀ s wl, I s wl ↔ ∃ j : Nat, s = Value.int .i64 j ∧ j ≤ es.length ∧ Frm (fun _ => False) w wl ∧ ∀ i (_ : i < j) (hi : i < es.length), es[i].1 ≠ k := ⟨_, fun _ _ => Iff.rfl⟩
  refine Lp.intro I (fun s _ => es.length - natOf s) ⟨(hI _ _).2 ⟨0, rfl, by omega, Frm.refl, fun i hi => by omega⟩, ?_⟩
  intro wl s hs
  obtain ⟨j, rfl, hj, hf, hno⟩ := (hI _ _).1 hs
  simp only [op_lss, Br_dec]
  refine ⟨fun hlt => ?_, fun hge => ?_⟩
  · have hlt' : j < es.length := by omega
    have hb' := hf.get hb (fun h => h)
    obtain ⟨cur, hcur, hk⟩ := key_cell (hg.frame hf fun h => h)
    have hk' := (hk j hlt').1
    rw [Nat.mul_one] at hk'
    simp [-getElem?_pos, -Array.getElem?_eq_getElem, ptr, add_spot, hb', hcur, hk', hH.nilE, and_assoc]
    refine ⟨by omega, hH.eqv fun w' hf' => ?_⟩
    simp only [Br_dec]
    refine ⟨fun he => ?_, fun hne => ?_⟩
    · have := hK w' (Frm.no hf (Frm.dr hf'))
      rw [find_at hlt' (fun i hi => hno i hi (by omega)) he] at this
      exact this
    · rw [wrap_i64_small (by omega) (by omega)]
      refine ⟨(hI _ _).2 ⟨j + 1, by simp, by omega, Frm.no hf (Frm.dr hf'), fun i hi hi' => ?_⟩, ?_⟩
      · by_cases e : i = j
        · subst e; exact hne
        · exact hno i (by omega) hi'
      · simp only [natOf]; omega
  · have := hK wl hf
    rw [show find es k = none from Nd.find_none.2 fun e he => by obtain ⟨i, hi, rfl⟩ := List.mem_iff_getElem.1 he; exact hno i (by omega) hi] at this
    exact this

theorem pop_ok {x : Nat} (hx : x < 2 ^ 32) (hK : ∀ w', Frm (fun _ => False) w w' → K (.int .i64 (pop 32 x)) w') : Calls Try.prog 149 #[.int .u32 x] w (ret K Kp) := by
  refine vc149_calls ?_
  delta vc149
  generalize hs : (ByteArray.mk _) = s
  have hz : s.size = 256 := by rw [← hs]; rfl
  have ht : ∀ j, j < 256 → ((s[j]?).getD 0).toNat = pop 8 j := by
    have h : (List.range 256).all (fun j => ((s[j]?).getD 0).toNat == pop 8 j) = true := by rw [← hs]; kernel_rfl
    intro j hj
    have := List.all_eq_true.1 h j (List.mem_range.2 hj)
    simpa using this
  clear hs
  have e24 : (2 : Int) ^ min (Int.toNat 24) IntKind.u32.bits = 2 ^ 24 := rfl
  have e16 : (2 : Int) ^ min (Int.toNat 16) IntKind.u32.bits = 2 ^ 16 := rfl
  have e8 : (2 : Int) ^ min (Int.toNat 8) IntKind.u32.bits = 2 ^ 8 := rfl
  have f24 := fdiv_pow x 24
  have f16 := fdiv_pow x 16
  have f8 := fdiv_pow x 8
  have a16 := and255 (a := x / 2 ^ 16) (by omega)
  have a8 := and255 (a := x / 2 ^ 8) (by omega)
  have a0 := and255 (a := x) hx
  simp only [pur_shr, pur_and, pur_index_9, pur_add, pur_conv_5_3, e24, e16, e8, f24, f16, f8, a16, a8, a0, hz, Int.toNat_natCast]
  have p := pop_bytes x hx
  have l1 := pop_le 8 (x / 2 ^ 24)
  have l2 := pop_le 8 (x / 2 ^ 16 % 256)
  have l3 := pop_le 8 (x / 2 ^ 8 % 256)
  have l4 := pop_le 8 (x % 256)
  have t1 := ht (x / 2 ^ 24) (by omega)
  have t2 := ht (x / 2 ^ 16 % 256) (by omega)
  have t3 := ht (x / 2 ^ 8 % 256) (by omega)
  have t4 := ht (x % 256) (by omega)
  rw [t1, t2, t3, t4]
  refine ⟨by omega, by omega, by omega, by omega, by omega, by omega, by omega, ?_⟩
  have := hK w.drew (Frm.drew _)
  rw [p] at this
  simp only [IntKind.wrap_u8, IntKind.wrap_i64]
  refine (congrArg (fun z : Int => K (Value.int .i64 z) w.drew) ?_).mpr this
  omega

/-! ### get -/
def gotV (o : Option Vl) : Value := match o with
  | some x => .tuple #[ev x, .bool true]
  | none => .tuple #[zv, .bool false]
theorem look_find {es : List (Ky × Vl)} : Nd.look es k = (find es k).bind fun i => es[i]?.map (·.2) := by
  induction es with
  | nil => rfl
  | cons e es ih =>
    by_cases h : e.1 = k
    · simp [Nd.look, find, h, List.findIdx?_cons]
    · simp only [Nd.look, find, List.find?_cons, List.findIdx?_cons, decide_eq_false h] at ih ⊢
      rw [ih]
      cases List.findIdx? (fun e => decide (e.1 = k)) es <;> simp
theorem getA_ok {es : List (Ky × Vl)} {a3 : Value} {s : Value} (hH : IsH hv hash) (h : Rep w (.arr es) v F) (hK : ∀ w', Frm (fun _ => False) w w' → K (gotV (Nd.look es k)) w') :
    (nice Try.prog).call (.inv v "pub-bracken/pub/immutable.get") [ek k, s, a3, hv] w K Kp := by
  obtain ⟨b, g, cap, rfl, h2, h3, h4, h5, h6, h7⟩ := h
  simp only [inv_240_168]
  refine vc168_calls ?_
  simp only [vc168, call_169]
  refine op_alloc_ok (z := .agg #[]) (by kernel_rfl) fun w0 k0 z0 b0 => ?_
  replace h5 := k0.get h5 (fun h => h)
  replace h7 := h7.frame k0 fun h => h
  replace hK := fun w' (hf : Frm (fun _ => False) w0 w') => hK w' (k0.no hf)
  refine indexA_ok hH h5 h7 h6 fun w' hf => ?_
  have := hK w' hf
  rw [look_find] at this
  cases hx : find es k with
  | none =>
    rw [hx] at this
    simp [idxV]
    exact this
  | some i =>
    rw [hx] at this
    obtain ⟨hi, _, _⟩ := find_some hx
    have hb' := hf.get h5 (fun h => h)
    obtain ⟨cur, hcur, hk⟩ := key_cell (h7.frame hf fun h => h)
    have hk' := (hk i hi).2
    simp only [Option.bind_some, List.getElem?_eq_getElem hi, Option.map_some] at this
    simp [-getElem?_pos, -Array.getElem?_eq_getElem, idxV, ptr, add_spot, hb', hcur, hk', and_assoc]
    refine ⟨hi, op_fa0_ok (by kernel_rfl) (ent_val hcur) ?_⟩
    simp
    exact this
theorem getC_ok {h' : Nat} {es : List (Ky × Vl)} {a3 s : Value} (hH : IsH hv hash) (h : Rep w (.col h' es) v F) (hK : ∀ w', Frm (fun _ => False) w w' → K (gotV (Nd.look es k)) w') :
    (nice Try.prog).call (.inv v "pub-bracken/pub/immutable.get") [ek k, s, a3, hv] w K Kp := by
  obtain ⟨b, g, cap, rfl, h2, h3, h4, hb, h6, hg⟩ := h
  have hc := hg.cap_le h6
  simp only [inv_290_184]
  refine vc184_calls ?_
  simp only [vc184]
  refine op_alloc_ok (z := .agg #[]) (by kernel_rfl) fun w0 k0 z0 b0 => ?_
  replace hb := k0.get hb (fun h => h)
  replace hg := hg.frame k0 fun h => h
  replace hK := fun w' (hf : Frm (fun _ => False) w0 w') => hK w' (k0.no hf)
  simp [-getElem?_pos, -Array.getElem?_eq_getElem, vc184, ptr, add_spot, hb, and_assoc]
  obtain ⟨I, hI⟩ : ∃ I : Value → World → Prop, ∀ s wl, I s wl ↔ ∃ j : Nat, s = Value.int .i64 j ∧ j ≤ es.length ∧ Frm (fun _ => False) w0 wl ∧ ∀ i (_ : i < j) (hi : i < es.length), es[i].1 ≠ k := ⟨_, fun _ _ => Iff.rfl⟩
  refine Lp.intro I (fun s _ => es.length - natOf s) ⟨(hI _ _).2 ⟨0, rfl, by omega, Frm.refl, fun i hi => by omega⟩, ?_⟩
  intro wl s hs
  obtain ⟨j, rfl, hj, hf, hno⟩ := (hI _ _).1 hs
  simp only [op_lss, Br_dec]
  refine ⟨fun hlt => ?_, fun hge => ?_⟩
  · have hlt' : j < es.length := by omega
    have hb' := hf.get hb (fun h => h)
    obtain ⟨cur, hcur, hk⟩ := key_cell (hg.frame hf fun h => h)
    have hk' := (hk j hlt').1
    rw [Nat.mul_one] at hk'
    simp [-getElem?_pos, -Array.getElem?_eq_getElem, ptr, add_spot, hb', hcur, hk', hH.nilE, and_assoc]
    refine ⟨by omega, hH.eqv fun w' hf' => ?_⟩
    simp only [Br_dec]
    refine ⟨fun he => ?_, fun hne => ?_⟩
    · have := hK w' (Frm.no hf (Frm.dr hf'))
      rw [look_find, find_at hlt' (fun i hi => hno i hi (by omega)) he] at this
      simp only [Option.bind_some, List.getElem?_eq_getElem hlt', Option.map_some] at this
      have hf2 := Frm.no hf (Frm.dr hf')
      have hb2 := hf2.get hb (fun h => h)
      obtain ⟨cur2, hcur2, hk2⟩ := key_cell (hg.frame hf2 fun h => h)
      have hk2' := (hk2 j hlt').2
      simp [-getElem?_pos, -Array.getElem?_eq_getElem, ptr, add_spot, hb2, hcur2, hk2', and_assoc]
      refine ⟨by omega, op_fa0_ok (by kernel_rfl) (ent_val hcur2) ?_⟩
      simp
      exact this
    · rw [wrap_i64_small (by omega) (by omega)]
      refine ⟨(hI _ _).2 ⟨j + 1, by simp, by omega, Frm.no hf (Frm.dr hf'), fun i hi hi' => ?_⟩, ?_⟩
      · by_cases e : i = j
        · subst e; exact hne
        · exact hno i (by omega) hi'
      · simp only [natOf]; omega
  · have := hK wl hf
    rw [look_find, show find es k = none from Nd.find_none.2 fun e he => by obtain ⟨i, hi, rfl⟩ := List.mem_iff_getElem.1 he; exact hno i (by omega) hi] at this
    exact this

theorem getV_ok {h' : Nat} {k' : Ky} {a3 s : Value} (hH : IsH hv hash) (h : Rep w (.val h' k' x) v F) (hK : ∀ w', Frm (fun _ => False) w w' → K (gotV (if k' = k then some x else none)) w') :
    (nice Try.prog).call (.inv v "pub-bracken/pub/immutable.get") [ek k, s, a3, hv] w K Kp := by
  obtain ⟨b, rfl, h2, hb⟩ := h
  simp only [inv_283_174]
  refine vc174_calls ?_
  simp only [vc174]
  refine op_alloc_ok (z := .agg #[]) (by kernel_rfl) fun w0 k0 z0 b0 => ?_
  replace hb := k0.get hb (fun h => h)
  replace hK := fun w' (hf : Frm (fun _ => False) w0 w') => hK w' (k0.no hf)
  simp [-getElem?_pos, -Array.getElem?_eq_getElem, vc174, ptr, add_spot, hb, hH.nilE, and_assoc]
  refine hH.eqv fun w' hf => ?_
  have hb' := (Frm.dr hf).get hb (fun h => h)
  have := hK w' (Frm.dr hf)
  by_cases e : k' = k
  · rw [if_pos e] at this
    simp [-getElem?_pos, -Array.getElem?_eq_getElem, e, ptr, add_spot, hb', and_assoc]
    refine op_fa0_ok (by kernel_rfl) (val_val hb') ?_
    simp
    exact this
  · rw [if_neg e] at this
    simp [e]
    exact this

theorem kid_cell {g cap : Nat} {f : Nat → Tr} {vs : Nat → Value} (h : Rw w 226 1 g cap (kids f vs)) : ∃ cur, w.heap[g]? = some (.cells cur 226 (0, 0)) ∧ ∀ i, i < 32 → f i ≠ .emp → cur[rk f i]? = some (vs i) := by
  obtain ⟨cur, h1, h2, h3⟩ := h.cells
  refine ⟨cur, h1, fun i hi hf => ?_⟩
  have hg := kids_get (vs := vs) hi hf
  rw [h3 _ (by rw [kids_len, cnt_rk]; exact rk_lt hi hf), hg]
theorem get_ok : ∀ {t : Tr} {l p s : Nat} {v : Value} {F : Nat → Prop} {K : Value → World → Prop} {Kp : KP} {w : World}, IsH hv hash → WF hash t l p → Rep w t v F → t ≠ .emp → s = 5 * l →
    (∀ w', Frm (fun _ => False) w w' → K (gotV (getIn (hash k) k t l)) w') → (nice Try.prog).call (.inv v "pub-bracken/pub/immutable.get") [ek k, .int .u64 s, .int .u32 (hash k), hv] w K Kp
  | .emp, l, p, s, v, F, K, Kp, w, hH, hW, h, hne, hs, hK => absurd rfl hne
  | .arr es, l, p, s, v, F, K, Kp, w, hH, hW, h, hne, hs, hK => hW.elim
  | .val h' k' x, l, p, s, v, F, K, Kp, w, hH, hW, h, hne, hs, hK => getV_ok hH h hK
  | .col h' es, l, p, s, v, F, K, Kp, w, hH, hW, h, hne, hs, hK => getC_ok hH h hK
  | .br false f, l, p, s, v, F, K, Kp, w, hH, hW, h, hne, hs, hK => by
    obtain ⟨b, g, cap, vs, Fs, rfl, h2, h3, h4, h5, h6, h7, h8, h9⟩ := h
    obtain ⟨hl, hWs, _⟩ := hW
    have hi := frag_lt l (hash k)
    have hfr := frag_eq (hH.lt k) hs hl
    rw [getIn] at hK
    generalize frag l (hash k) = i at *
    simp only [inv_295_189]
    refine vc189_calls ?_
    simp only [vc189]
    refine op_alloc_ok (z := .agg #[]) (by kernel_rfl) fun w0 k0 z0 b0 => ?_
    replace h5 := k0.get h5 (fun h => h)
    replace h7 := h7.frame k0 fun h => h
    replace h8 := fun i hi => (h8 i hi).still k0
    replace hK := fun w' (hf : Frm (fun _ => False) w0 w') => hK w' (k0.no hf)
    have hbit := bit_eq hi
    have hand := and_u32 (bm_lt (f := f)) (two_pow_lt hi)
    have hless := bit_less hi
    have hpos := Nat.pow_pos (n := i) (show 0 < 2 by decide)
    have hbel := and_u32 (bm_lt (f := f)) (b := 2 ^ i - 1) (by have := two_pow_lt hi; omega)
    have hz := bm_and_zero (f := f) i hi
    have hpop := pop_rk (f := f) (i := i) (by omega)
    have hlt2 : bm f &&& (2 ^ i - 1) < 2 ^ 32 := Nat.lt_of_le_of_lt Nat.and_le_left bm_lt
    generalize hB : bm f &&& 2 ^ i = B at *
    generalize hC : bm f &&& (2 ^ i - 1) = C at *
    have hns := next_shift hs hl
    generalize (2 : Nat) ^ i = y at *
    generalize bm f = z at *
    simp [-getElem?_pos, -Array.getElem?_eq_getElem, -Int.natCast_add, vc189, ptr, add_spot, h5, hfr, hbit, hand, Br_dec, and_assoc]
    refine ⟨fun h0 => ?_, fun h0 => ?_⟩
    · have := hK _ Frm.refl
      rw [hz.1 h0] at this
      exact this
    · have hne : f i ≠ .emp := fun e => h0 (hz.2 e)
      rw [hless, hbel]
      refine pop_ok hlt2 fun w' hf => ?_
      rw [hpop]
      have h5' := (Frm.dr hf).get h5 (fun h => h)
      obtain ⟨cur, hcur, hk⟩ := kid_cell (h7.frame (Frm.dr hf) fun h => h)
      have hk' := hk i hi hne
      have hr := (h8 i hi).still (Frm.dr hf)
      have hrl := rk_lt (f := f) hi hne
      rw [← cnt_rk] at hrl
      simp [-getElem?_pos, -Array.getElem?_eq_getElem, -Int.natCast_add, ptr, add_spot, h5', hcur, hk', hns, hrl, and_assoc]
      refine get_ok hH (hWs i hi) hr hne (by omega) fun w'' hf' => ?_
      have := hK w'' (Frm.no (Frm.dr hf) hf')
      cases hx : getIn (hash k) k (f i) (l + 1) with
      | none => rw [hx] at this; simpa [gotV, zv] using this
      | some x => rw [hx] at this; simpa [gotV, ev] using this
  | .br true f, l, p, s, v, F, K, Kp, w, hH, hW, h, hne, hs, hK => by
    obtain ⟨b, cs, vs, Fs, rfl, h2, h3, h4, h5, h6, h7, h8⟩ := h
    obtain ⟨hl, hWs, _⟩ := hW
    have hi := frag_lt l (hash k)
    have hfr := frag_eq (hH.lt k) hs hl
    rw [getIn] at hK
    generalize frag l (hash k) = i at *
    have hc := h6 i hi
    have hns := next_shift hs hl
    simp only [inv_308_193]
    refine vc193_calls ?_
    simp only [vc193]
    refine op_alloc_ok (z := .agg #[]) (by kernel_rfl) fun w0 k0 z0 b0 => ?_
    replace h3 := k0.get h3 (fun h => h)
    replace h7 := fun i hi => (h7 i hi).still k0
    replace hK := fun w' (hf : Frm (fun _ => False) w0 w') => hK w' (k0.no hf)
    simp [-getElem?_pos, -Array.getElem?_eq_getElem, -Int.natCast_add, vc193, ptr, add_spot, h3, hfr, Nat.add_comm 1, hc, Br_dec, and_assoc]
    refine ⟨by omega, ?_⟩
    by_cases he : f i = .emp
    · have hv : vs i = .nilIface := by have := h7 i hi; rw [he] at this; exact this.nil
      have := hK _ Frm.refl
      rw [he] at this
      rw [hv]
      simp
      exact this
    · obtain ⟨u, c, hv⟩ := (h7 i hi).iface he
      have hr := h7 i hi
      rw [hv] at hr ⊢
      simp [-Int.natCast_add, hns]
      refine get_ok hH (hWs i hi) hr he (by omega) fun w'' hf' => ?_
      have := hK w'' hf'
      cases hx : getIn (hash k) k (f i) (l + 1) with
      | none => rw [hx] at this; simpa [gotV, zv] using this
      | some x => rw [hx] at this; simpa [gotV, ev] using this
theorem root_get_ok (hH : IsH hv hash) (hW : WFr hash t) (h : Rep w t v F) (hne : t ≠ .emp) (hK : ∀ w', Frm (fun _ => False) w w' → K (gotV (getIn (hash k) k t 0)) w') :
    (nice Try.prog).call (.inv v "pub-bracken/pub/immutable.get") [ek k, .int .u64 0, .int .u32 (hash k), hv] w K Kp := by
  cases t with
  | arr es => exact getA_ok hH h hK
  | emp => exact absurd rfl hne
  | br hs f => exact get_ok (s := 0) hH hW h hne rfl hK
  | val h' k' x => exact get_ok (s := 0) hH hW h hne rfl hK
  | col h' es => exact get_ok (s := 0) hH hW h hne rfl hK
end Go.Proofs.Ytbghmbbhkoniiaa.S
end
section
/- Setting a key in a leaf; merging a leaf and a key into branches. -/
set_option maxRecDepth 100000
set_option linter.unusedSimpArgs false
set_option linter.unusedVariables false
set_option linter.unusedSectionVars false
namespace Go.Proofs.Ytbghmbbhkoniiaa.S
open Go.Vc Go.Proofs Go.Proofs.Ytbghmbbhkoniiaa Go.Vc.Nd
variable {w w' : World} {v hv : Value} {t : Tr} {F F' : Nat → Prop} {K : Value → World → Prop} {Kp : KP} {hash : Ky → Nat} {k : Ky} {x : Vl} {l s rb : Nat} {r0 mu : Bool}

def flag (w : World) (rb : Nat) (b : Bool) : Prop := w.heap[rb]? = some (.cells #[.bool b] 4 (0, 0))
theorem flag.frame {M : Nat → Prop} {b : Bool} (h : flag w rb b) (hf : Frm M w w') (hM : ¬ M rb) : flag w' rb b := hf.get h hM
def Sets (w : World) (mu : Bool) (F : Nat → Prop) (rb : Nat) (fl : Bool) (t' : Tr) (K : Value → World → Prop) : Prop :=
  ∀ v' w' F', Frm (fun b => b = rb ∨ mu = true ∧ F b) w w' → Rep w' t' v' F' → (∀ b, F' b → F b ∨ w.heap.size ≤ b) → flag w' rb fl → K v' w'

theorem Sets.still {fl : Bool} {t' : Tr} (h : Sets w mu F rb fl t' K) (k0 : Frm (fun _ => False) w w') : Sets w' mu F rb fl t' K :=
  fun v' w'' F' hf hr hF hfl => h v' w'' F' (k0.fst hf) hr (fun b hb => (hF b hb).imp id fun h => Nat.le_trans k0.size h) hfl
theorem raise_ok {b : Bool} (h : flag w rb b) (hK : ∀ w', Frm (· = rb) w w' → w'.heap.size = w.heap.size → flag w' rb true → K undef w') : (nice Try.prog).op (.store 4 (ptr rb) (.bool true)) w K Kp :=
  op_store_ok (by kernel_rfl) h (by simp) rfl fun w' hf hs hb => hK w' hf hs (by simpa [flag] using hb)
theorem new_val_ok {h' : Nat} (hK : ∀ b w', Frm (fun _ => False) w w' → w.heap.size ≤ b → b < w'.heap.size → Rep w' (.val h' k x) (.iface 283 (ptr b)) (fun c => c = b) → K (ptr b) w') : Calls Try.prog 171 #[.int .u32 h', ek k, ev x] w (ret K Kp) := by
  refine vc171_calls ?_
  simp only [vc171, ev]
  refine op_box_ok fun w1 k1 z1 b1 => ?_
  simp only [op_ld_190, op_build_286_0_1_2 (one_int (k := .u32) (n := (h' : Int))) (one_ek k)]
  refine op_box_ok fun w2 k2 z2 b2 => ?_
  exact hK _ w2 (k1.no k2) (by omega) (by omega) ⟨_, rfl, rfl, by simpa using b2⟩

def leafH : Tr → Option Nat
  | .val h _ _ => some h
  | .col h _ => some h
  | _ => none
theorem khv_ok {h1 : Nat} (h : Rep w t v F) (ht : leafH t = some h1) (hK : K (.int .u32 h1) w) : (nice Try.prog).call (.inv v "pub-bracken/pub/immutable.keyHashValue") [] w K Kp := by
  cases t with
  | val h' k x =>
    obtain ⟨b, rfl, h2, h3⟩ := h
    obtain rfl := Option.some.inj ht
    simp only [inv_283_175]
    refine vc175_calls ?_
    simp [-getElem?_pos, -Array.getElem?_eq_getElem, -Int.natCast_add, add_spot, and_assoc, Br_dec, -op_box, -op_st_4, -op_st_22, -op_st_226, -op_st_243, -op_st_296, -op_st_242, -op_st_187, -op_st_2, -op_alloc_245, -op_alloc_242, -op_alloc_307, -op_lit_243_1, -op_lit_243_2, -op_lit_296_1, -op_lit_296_2, vc175, ptr, h3]
    exact hK
  | col h' es =>
    obtain ⟨b, g, cap, rfl, h2, h3, h4, h5, h6⟩ := h
    obtain rfl := Option.some.inj ht
    simp only [inv_290_186]
    refine vc186_calls ?_
    simp [-getElem?_pos, -Array.getElem?_eq_getElem, -Int.natCast_add, add_spot, and_assoc, Br_dec, -op_box, -op_st_4, -op_st_22, -op_st_226, -op_st_243, -op_st_296, -op_st_242, -op_st_187, -op_st_2, -op_alloc_245, -op_alloc_242, -op_alloc_307, -op_lit_243_1, -op_lit_243_2, -op_lit_296_1, -op_lit_296_2, vc186, ptr, h5]
    exact hK
  | _ => cases ht
theorem leaf_ne {h1 : Nat} (ht : leafH t = some h1) : t ≠ .emp := by intro e; subst e; cases ht

def Kin (w : World) (f : Nat → Tr) (vs : Nat → Value) (Fs : Nat → Nat → Prop) (O : Nat → Prop) : Prop :=
  (∀ i, i < 32 → Rep w (f i) (vs i) (Fs i)) ∧ ∀ i, i < 32 → ∀ c, Fs i c → ¬ O c ∧ ∀ j, j < 32 → j ≠ i → ¬ Fs j c
theorem Kin.none {O : Nat → Prop} : Kin w (fun _ => .emp) (fun _ => .nilIface) (fun _ _ => False) O := ⟨fun _ _ => rfl, fun _ _ _ h => h.elim⟩
theorem Kin.put {f : Nat → Tr} {vs : Nat → Value} {Fs : Nat → Nat → Prop} {O O' F1 : Nat → Prop} {i : Nat} (h : Kin w f vs Fs O) (hk : ∀ j, j < 32 → j ≠ i → ∀ c o, Fs j c → w.heap[c]? = some o → w'.heap[c]? = some o)
    (hr : Rep w' t v F1) (ha : ∀ c, F1 c → ∀ j, j < 32 → j ≠ i → ¬ Fs j c) (h1 : ∀ c, F1 c → ¬ O' c) (h2 : ∀ j, j < 32 → j ≠ i → ∀ c, Fs j c → ¬ O' c) :
    Kin w' (Nd.put f i t) (putV vs i v) (fun j => if j = i then F1 else Fs j) O' := by
  refine ⟨fun j hj => ?_, fun j hj c hc => ?_⟩
  · by_cases e : j = i
    · subst e; rw [Nd.put_same]; simpa [putV] using hr
    · rw [Nd.put_ne e]; simp only [putV, if_neg e]; exact (h.1 j hj).mono (fun _ h => h) fun b o hb => hk j hj e b o hb
  · by_cases e : j = i
    · simp only [if_pos e] at hc
      refine ⟨h1 c hc, fun k hk hne hkc => ?_⟩
      simp only [if_neg (show ¬ k = i by omega)] at hkc
      exact ha c hc k hk (by omega) hkc
    · simp only [if_neg e] at hc
      refine ⟨h2 j hj e c hc, fun k hk hne hkc => ?_⟩
      by_cases e' : k = i
      · simp only [if_pos e'] at hkc; exact ha c hkc j hj e hc
      · simp only [if_neg e'] at hkc; exact (h.2 j hj c hc).2 k hk hne hkc
theorem Kin.lt {f : Nat → Tr} {vs : Nat → Value} {Fs : Nat → Nat → Prop} {O : Nat → Prop} (h : Kin w f vs Fs O) : Kin w f vs (fun i c => Fs i c ∧ c < w.heap.size) O :=
  ⟨fun i hi => (h.1 i hi).lt, fun i hi c hc => ⟨(h.2 i hi c hc.1).1, fun j hj hne hc' => (h.2 i hi c hc.1).2 j hj hne hc'.1⟩⟩
theorem Rep.mkB {f : Nat → Tr} {vs : Nat → Value} {Fs : Nat → Nat → Prop} {b g cap : Nat} (hn : g ≠ b) (hb : w.heap[b]? = some (.cells #[.int .u32 (bm f), .slice (some ⟨g, 0, none⟩) (Nd.cnt f) cap] 298 (0, 0))) (hc : Nd.cnt f ≤ cap) (hg : Rw w 226 1 g cap (kids f vs))
    (h : Kin w f vs Fs (fun c => c = b ∨ c = g)) : Rep w (.br false f) (.iface 295 (ptr b)) (fun c => c = b ∨ c = g ∨ ∃ i, i < 32 ∧ Fs i c) :=
  ⟨b, g, cap, vs, Fs, rfl, .inl rfl, .inr (.inl rfl), hn, hb, hc, hg, h.1, fun i hi c hc => ⟨.inr (.inr ⟨i, hi, hc⟩), fun e => (h.2 i hi c hc).1 (.inl e), fun e => (h.2 i hi c hc).1 (.inr e), (h.2 i hi c hc).2⟩⟩
theorem Rep.mkH {f : Nat → Tr} {vs : Nat → Value} {Fs : Nat → Nat → Prop} {b : Nat} {cs : Array Value} (hb : w.heap[b]? = some (.cells cs 307 (0, 0))) (hz : cs.size = 33) (h0 : cs[0]? = some (.int .u64 (Nd.cnt f))) (hv : ∀ i, i < 32 → cs[i + 1]? = some (vs i))
    (h : Kin w f vs Fs (fun c => c = b)) : Rep w (.br true f) (.iface 308 (ptr b)) (fun c => c = b ∨ ∃ i, i < 32 ∧ Fs i c) :=
  ⟨b, cs, vs, Fs, rfl, .inl rfl, hb, hz, h0, hv, h.1, fun i hi c hc => ⟨.inr ⟨i, hi, hc⟩, (h.2 i hi c hc).1, (h.2 i hi c hc).2⟩⟩

theorem merge_ne {n l h1 h2 : Nat} {t : Tr} (l1 : h1 < 2 ^ 32) (l2 : h2 < 2 ^ 32) (hne : h1 ≠ h2) (hp : h1 % 32 ^ l = h2 % 32 ^ l) (hn : n + l = 7) : merge t h1 h2 k x n l ≠ .emp := by
  cases n with
  | zero =>
    obtain rfl : l = 7 := by omega
    rw [Nat.mod_eq_of_lt (by omega), Nat.mod_eq_of_lt (by omega)] at hp
    exact absurd hp hne
  | succ n => rw [merge]; split <;> simp
theorem merge_ok : ∀ (n : Nat) {l s h1 h2 p : Nat} {t : Tr} {v : Value} {F : Nat → Prop} {K : Value → World → Prop} {Kp : KP} {w : World}, Rep w t v F → leafH t = some h1 → h1 < 2 ^ 32 → h2 < 2 ^ 32 → h1 ≠ h2 → h1 % 32 ^ l = h2 % 32 ^ l → n + l = 7 → s = 5 * l →
    (∀ v' w' F', Frm (fun _ => False) w w' → Rep w' (merge t h1 h2 k x n l) v' F' → (∀ b, F' b → F b ∨ w.heap.size ≤ b) → K v' w') → Calls Try.prog 177 #[v, .int .u64 s, .int .u32 h2, ek k, ev x] w (ret K Kp)
  | 0, l, s, h1, h2, p, t, v, F, K, Kp, w, hr, ht, l1, l2, hne, hp, hn, hs, hK => by
    obtain rfl : l = 7 := by omega
    rw [Nat.mod_eq_of_lt (by omega), Nat.mod_eq_of_lt (by omega)] at hp
    exact absurd hp hne
  | n + 1, l, s, h1, h2, p, t, v, F, K, Kp, w, hr, ht, l1, l2, hne, hp, hn, hs, hK => by
    have hl : l ≤ 6 := by omega
    have hi1 := frag_lt l h1
    have hi2 := frag_lt l h2
    have hf1 := frag_eq l1 hs hl
    have hf2 := frag_eq l2 hs hl
    have hte := leaf_ne ht
    have hns := next_shift hs hl
    have hb1 := bit_eq hi1
    have hb2 := bit_eq hi2
    have hor := or_u32 (two_pow_lt hi1) (two_pow_lt hi2)
    have hfe : (frag l h1 : Int) = (frag l h2 : Int) ↔ frag l h1 = frag l h2 := by omega
    have hnx1 := mod_next l h1
    have hnx2 := mod_next l h2
    have hbm1 := bm_one (t := t) hi1 hte
    have hbm2 := bm_two (t := t) (u := Nd.val h2 k x) hi1 hi2 hte (by simp)
    have hbm3 : ∀ u : Tr, u ≠ .emp → frag l h1 = frag l h2 → bm (Nd.one (frag l h1) u) = 2 ^ frag l h1 ||| 2 ^ frag l h2 := fun u hu e => by rw [bm_one hi1 hu, ← e, Nat.or_self]
    generalize hi1e : frag l h1 = i1 at *
    generalize hi2e : frag l h2 = i2 at *
    generalize hB : 2 ^ i1 ||| 2 ^ i2 = B at *
    generalize 2 ^ i1 = y1 at *
    generalize 2 ^ i2 = y2 at *
    have h1' := Rep.one hr
    obtain ⟨u, bv, hv⟩ := hr.iface hte
    rw [merge, hi1e, hi2e] at hK
    refine vc177_calls ?_
    simp only [vc177]
    refine op_box_ok fun w k0 z0 b0 => ?_
    replace hr := hr.still k0
    replace hK := fun v' w' F' (hf : Frm (fun _ => False) w w') hr' (hF : ∀ b, F' b → F b ∨ w.heap.size ≤ b) => hK v' w' F' (k0.no hf) hr' fun b hb => (hF b hb).imp id fun h => by omega
    refine khv_ok hr ht ?_
    simp [-getElem?_pos, -Array.getElem?_eq_getElem, -Int.natCast_add, add_spot, and_assoc, Br_dec, -op_box, -op_st_4, -op_st_22, -op_st_226, -op_st_243, -op_st_296, -op_st_242, -op_st_187, -op_st_2, -op_alloc_245, -op_alloc_242, -op_alloc_307, -op_lit_243_1, -op_lit_243_2, -op_lit_296_1, -op_lit_296_2, hf1, hf2, hb1, hb2, hor, hns, hfe]
    refine op_box_ok fun w1 k1 z1 b1 => ?_
    simp only [cells_agg] at b1
    refine ⟨fun e => ?_, fun e => ?_⟩
    · rw [if_pos e] at hK
      have hr1 := hr.lt.still k1
      refine merge_ok n (p := p) hr1 ht l1 l2 hne (by rw [hnx1, hnx2, hp, e]) (by omega) (by omega) fun v' w2 F'' k2 r2' f2' => ?_
      obtain ⟨F', hF', r2, f2, hlt2⟩ : ∃ F' : Nat → Prop, F' = (fun c => F'' c ∧ c < w2.heap.size) ∧ Rep w2 (merge t h1 h2 k x n (l + 1)) v' F' ∧ (∀ b, F' b → F b ∧ b < w.heap.size ∨ w1.heap.size ≤ b) ∧ ∀ b, F' b → b < w2.heap.size := ⟨_, rfl, r2'.lt, fun b hb => f2' b hb.1, fun b hb => hb.2⟩
      have hme : merge t h1 h2 k x n (l + 1) ≠ .emp := merge_ne l1 l2 hne (by rw [hnx1, hnx2, hp, e]) (by omega)
      refine op_lit_ok (lit_296_1 r2.one) fun w3 k3 z3 b3 => ?_
      simp [-getElem?_pos, -Array.getElem?_eq_getElem, -Int.natCast_add, add_spot, and_assoc, Br_dec, -op_box, -op_st_4, -op_st_22, -op_st_226, -op_st_243, -op_st_296, -op_st_242, -op_st_187, -op_st_2, -op_alloc_245, -op_alloc_242, -op_alloc_307, -op_lit_243_1, -op_lit_243_2, -op_lit_296_1, -op_lit_296_2]
      have b1' := ((k1.no k2).no k3)
      refine op_store_ok (by kernel_rfl) ((k2.no k3).get b1 (fun h => h)) (by simp) rfl fun w4 k4 z4 b4 => ?_
      have := k2.size
      have hg : Rw w4 226 1 w2.heap.size 1 [v'] := (Rw.lit (w := w3) (n := 1) rfl (by decide) b3).frame k4 (by omega)
      have hnew : ∀ c, F' c → c < w2.heap.size ∧ c ≠ w.heap.size := fun c hc => ⟨(hlt2 c hc), fun e' => by rcases f2 c hc with h | h <;> omega⟩
      have hkin := (Kin.none (w := w4) (O := fun _ => False)).put (w' := w4) (t := merge t h1 h2 k x n (l + 1)) (v := v') (F1 := F') (O' := fun c => c = w.heap.size ∨ c = w2.heap.size) (i := i1) (fun _ _ _ _ _ h => h.elim)
        ((r2.still k3).frame k4 (fun b hb => (hnew b hb).2)) (fun _ _ _ _ _ h => h) (fun c hc h => by have := hnew c hc; omega) (fun _ _ _ _ h => h.elim)
      refine hK _ w4 _ (((k1.no k2).no k3).old k4 fun b e => .inr (by omega)) (Rep.mkB (cap := 1) (f := Nd.one i1 (merge t h1 h2 k x n (l + 1))) (by omega) (by simpa [cnt_one hi1 hme, hbm3 _ hme e] using b4) (by rw [cnt_one hi1 hme]; omega) (by rw [kids_one hi1 hme]; exact hg) hkin) ?_
      rintro c (rfl | rfl | ⟨i, hi, hc⟩)
      · exact .inr (by omega)
      · exact .inr (by omega)
      · by_cases ei : i = i1
        · simp only [if_pos ei] at hc
          rcases f2 c hc with h | h
          · exact .inl h.1
          · exact .inr (by omega)
        · simp only [if_neg ei] at hc
    · rw [if_neg e] at hK
      refine new_val_ok (x := x) fun bv w2 k2 lv lv2 r2 => ?_
      have hr2 := (hr.lt.still k1).still k2
      have hval : (Value.iface 283 (ptr bv)).oneCell' = true := rfl
      have fin : ∀ w3, ∀ ks : List Value, ks = (if i1 < i2 then [v, .iface 283 (ptr bv)] else [.iface 283 (ptr bv), v]) → Frm (fun _ => False) w2 w3 → w3.heap.size = w2.heap.size + 1 → w3.heap[w2.heap.size]? = some (.cells ks.toArray 226 (0, 0)) →
          (nice Try.prog).op (.store 296 (.pointer (some ⟨w.heap.size, 1, none⟩)) (.slice (some ⟨w2.heap.size, 0, none⟩) 2 2)) w3 (fun _ wz => K (.iface 295 (ptr w.heap.size)) wz) Kp := fun w3 ks hks k3 z3 b3 => by
        refine op_store_ok (by kernel_rfl) ((k2.no k3).get b1 (fun h => h)) (by simp) rfl fun w4 k4 z4 b4 => ?_
        have hlen : ks.length = 2 * 1 := by rw [hks]; split <;> rfl
        have hg : Rw w4 226 1 w2.heap.size 2 ks := (Rw.lit (w := w3) (n := 2) hlen (by decide) b3).frame k4 (by omega)
        have hv1 : Nd.val h2 k x ≠ .emp := by simp
        have hk1 := (Kin.none (w := w4) (O := fun _ => False)).put (w' := w4) (t := t) (v := v) (F1 := fun b => F b ∧ b < w.heap.size) (O' := fun c => c = w.heap.size ∨ c = w2.heap.size) (i := i1) (fun _ _ _ _ _ h => h.elim)
          ((hr2.still k3).frame k4 (fun b hb => by omega)) (fun _ _ _ _ _ h => h) (fun c hc h => by omega) (fun _ _ _ _ h => h.elim)
        have hk2 := hk1.put (w' := w4) (t := Nd.val h2 k x) (v := .iface 283 (ptr bv)) (F1 := fun b => b = bv) (O' := fun c => c = w.heap.size ∨ c = w2.heap.size) (i := i2) (fun _ _ _ _ _ _ h => h)
          ((r2.still k3).frame k4 (fun b hb => by omega)) (fun c hc j hj hne h => by
            by_cases ej : j = i1
            · simp only [if_pos ej] at h; omega
            · simp only [if_neg ej] at h) (fun c hc h => by omega) (fun j hj hne c h => by
            by_cases ej : j = i1
            · simp only [if_pos ej] at h; omega
            · simp only [if_neg ej] at h)
        refine hK _ w4 _ (((k1.no k2).no k3).old k4 fun b e => .inr (by omega)) (Rep.mkB (cap := 2) (f := Nd.put (Nd.one i1 t) i2 (Nd.val h2 k x)) (by omega) (by simpa [cnt_two hi1 hi2 e hte hv1, hbm2] using b4) (by rw [cnt_two hi1 hi2 e hte hv1]; omega) (by rw [kids_two hi1 hi2 e hte hv1, ← hks]; exact hg) hk2) ?_
        rintro c (rfl | rfl | ⟨i, hi, hc⟩)
        · exact .inr (by omega)
        · exact .inr (by omega)
        · by_cases ei : i = i2
          · simp only [if_pos ei] at hc; exact .inr (by omega)
          · simp only [if_neg ei] at hc
            by_cases ei' : i = i1
            · simp only [if_pos ei'] at hc; exact .inl hc.1
            · simp only [if_neg ei'] at hc
      refine ⟨fun hlt => ?_, fun hle => ?_⟩
      · refine op_lit_ok (lit_296_2 h1' hval) fun w3 k3 z3 b3 => ?_
        simp [-getElem?_pos, -Array.getElem?_eq_getElem, -Int.natCast_add, add_spot, and_assoc, Br_dec, -op_box, -op_st_4, -op_st_22, -op_st_226, -op_st_243, -op_st_296, -op_st_242, -op_st_187, -op_st_2, -op_alloc_245, -op_alloc_242, -op_alloc_307, -op_lit_243_1, -op_lit_243_2, -op_lit_296_1, -op_lit_296_2]
        exact fin w3 [v, .iface 283 (ptr bv)] (by rw [if_pos hlt]) k3 z3 b3
      · refine op_lit_ok (lit_296_2 hval h1') fun w3 k3 z3 b3 => ?_
        simp [-getElem?_pos, -Array.getElem?_eq_getElem, -Int.natCast_add, add_spot, and_assoc, Br_dec, -op_box, -op_st_4, -op_st_22, -op_st_226, -op_st_243, -op_st_296, -op_st_242, -op_st_187, -op_st_2, -op_alloc_245, -op_alloc_242, -op_alloc_307, -op_lit_243_1, -op_lit_243_2, -op_lit_296_1, -op_lit_296_2]
        exact fin w3 [.iface 283 (ptr bv), v] (by rw [if_neg (by omega)]) k3 z3 b3
end Go.Proofs.Ytbghmbbhkoniiaa.S
end
section
/- Setting a key in a leaf. -/
set_option maxRecDepth 100000
set_option linter.unusedSimpArgs false
set_option linter.unusedVariables false
set_option linter.unusedSectionVars false
namespace Go.Proofs.Ytbghmbbhkoniiaa.S
open Go.Vc Go.Proofs Go.Proofs.Ytbghmbbhkoniiaa Go.Vc.Nd
variable {w w' : World} {v hv : Value} {t : Tr} {F F' : Nat → Prop} {K : Value → World → Prop} {Kp : KP} {hash : Ky → Nat} {k : Ky} {x : Vl} {l s rb : Nat} {r0 mu : Bool}

theorem WF.hash_lt (hH : IsH hv hash) {h1 p : Nat} (hW : WF hash t l p) (ht : leafH t = some h1) : h1 < 2 ^ 32 ∧ h1 % 32 ^ l = p := by
  cases t with
  | val h' k x => obtain rfl := Option.some.inj ht; exact ⟨by rw [hW.1]; exact hH.lt _, hW.2⟩
  | col h' es =>
    obtain rfl := Option.some.inj ht
    obtain ⟨h1, h2, h3, h4⟩ := hW
    cases es with
    | nil => simp at h1
    | cons e es => exact ⟨by rw [← h3 e (by simp)]; exact hH.lt _, h4⟩
  | _ => cases ht
/-! ### rows of entries -/
theorem ents_take (es : List (Ky × Vl)) (i : Nat) : (ents es).take (i * 1) = ents (es.take i) := by
  induction es generalizing i with
  | nil => simp [ents]
  | cons e es ih =>
    cases i with
    | zero => simp [ents]
    | succ i =>
      have h : ents (e :: es) = ent e ++ ents es := rfl
      have h' : ents (List.take (i + 1) (e :: es)) = ent e ++ ents (es.take i) := rfl
      rw [h, h', ← ih, Nat.add_mul, Nat.one_mul, Nat.add_comm (i * 1), show (ent e ++ ents es).take (1 + i * 1) = ent e ++ (ents es).take (i * 1) from by rw [← ent_len e, List.take_length_add_append]]
theorem ents_drop (es : List (Ky × Vl)) (i : Nat) : (ents es).drop (i * 1) = ents (es.drop i) := by
  induction es generalizing i with
  | nil => simp [ents]
  | cons e es ih =>
    cases i with
    | zero => simp [ents]
    | succ i =>
      have h : ents (e :: es) = ent e ++ ents es := rfl
      rw [h, Nat.add_mul, Nat.one_mul, Nat.add_comm (i * 1), show (ent e ++ ents es).drop (1 + i * 1) = (ents es).drop (i * 1) from by rw [← ent_len e, List.drop_length_add_append], ih]; rfl
theorem ents_append (es es' : List (Ky × Vl)) : ents (es ++ es') = ents es ++ ents es' := by simp [ents]
theorem ents_set {es : List (Ky × Vl)} {i : Nat} (hi : i < es.length) (e : Ky × Vl) : lw (ents es) (i * 1) (ent e) = ents (es.set i e) := by
  rw [List.set_eq_take_append_cons_drop, if_pos hi, ents_append, lw, ents_take, ent_len, show i * 1 + 1 = (i + 1) * 1 from by omega, ents_drop]
  simp [ents]
theorem ents_set_at {es : List (Ky × Vl)} {i o : Nat} {e : Ky × Vl} {l : List Value} (hi : i < es.length) (ho : o = i * 1) (hl : l = ent e) : lw (ents es) o l = ents (es.set i e) := by
  rw [ho, hl, ents_set hi]
theorem ents_snoc_at {es : List (Ky × Vl)} {o : Nat} {zs l : List Value} {e : Ky × Vl} (hz : zs.length = 1) (ho : o = es.length * 1) (hl : l = ent e) : lw (ents es ++ zs) o l = ents (es ++ [e]) := by
  have h : lw (ents es ++ zs) (ents es).length (ent e) = ents es ++ ent e := by
    have : zs.length = (ent e).length := by rw [hz, ent_len]
    rw [lw, List.take_left, List.append_assoc, List.drop_append, show (ents es).length + (ent e).length - (ents es).length = (ent e).length from by omega, ← this, List.drop_length, List.drop_of_length_le (by omega)]; simp
  rw [ho, hl, ← ents_len, h, ents_append]; simp [ents]
theorem Rw_to {w : World} {e s g cap : Nat} {xs ys : List Value} (h : Rw w e s g cap xs) (he : xs = ys) : Rw w e s g cap ys := he ▸ h
theorem lw_all {zs l : List Value} (h : zs.length = l.length) : lw zs 0 l = l := by simp [lw, ← h]
theorem lw_first {zs l : List Value} : lw zs 0 l = l ++ zs.drop l.length := by simp [lw]
theorem meet_ok {h1 p : Nat} {t : Tr} (hH : IsH hv hash) (hW : WF hash t l p) (hp : hash k % 32 ^ l = p) (hl : l ≤ 7) (hs : s = 5 * l) (h : Rep w t v F) (ht : leafH t = some h1) (hne : h1 ≠ hash k)
    (hK : ∀ v' w' F', Frm (fun _ => False) w w' → Rep w' (merge t h1 (hash k) k x (7 - l) l) v' F' → (∀ b, F' b → F b ∨ w.heap.size ≤ b) → K v' w') : Calls Try.prog 177 #[v, .int .u64 s, .int .u32 (hash k), ek k, ev x] w (ret K Kp) :=
  merge_ok (7 - l) (p := p) h ht (WF.hash_lt hH hW ht).1 (hH.lt k) hne (by rw [(WF.hash_lt hH hW ht).2, hp]) (by omega) hs hK

theorem setV_ok {h' : Nat} {k' : Ky} {x' : Vl} {p : Nat} (hH : IsH hv hash) (hW : WF hash (.val h' k' x') l p) (hp : hash k % 32 ^ l = p) (hl : l ≤ 7) (hs : s = 5 * l) (h : Rep w (.val h' k' x') v F) (hr : flag w rb r0) (hrb : ¬ F rb)
    (hK : Sets w mu F rb (r0 || !decide (k' = k)) (setIn (hash k) k x (.val h' k' x') l) K) :
    (nice Try.prog).call (.inv v "pub-bracken/pub/immutable.set") [ek k, ev x, .int .u64 s, .int .u32 (hash k), hv, .bool mu, ptr rb] w K Kp := by
  have h0 := h
  obtain ⟨b, rfl, h2, h3⟩ := h
  simp only [inv_283_176]
  refine vc176_calls ?_
  simp only [vc176]
  refine op_box_ok fun w k0 z0 b0 => ?_
  replace h0 := h0.still k0
  replace h3 := k0.get h3 (fun h => h)
  replace hr := hr.frame k0 (fun h => h)
  replace hK := hK.still k0
  simp [-getElem?_pos, -Array.getElem?_eq_getElem, -Int.natCast_add, add_spot, and_assoc, Br_dec, -op_box, -op_st_4, -op_st_22, -op_st_226, -op_st_243, -op_st_296, -op_st_242, -op_st_187, -op_st_2, -op_alloc_245, -op_alloc_242, -op_alloc_307, -op_lit_243_1, -op_lit_243_2, -op_lit_296_1, -op_lit_296_2, vc176, ptr, h3, hH.nilE]
  refine hH.eqv fun w1 k1 => ?_
  have k1 := Frm.dr k1
  have h3' := k1.get h3 (fun h => h)
  have hr' := hr.frame k1 (fun h => h)
  have hne : b ≠ rb := fun e => hrb (e ▸ h2)
  rw [Sets, setIn] at hK
  by_cases hk : k' = k
  · rw [if_pos hk] at hK
    cases mu with
    | true =>
      simp [-getElem?_pos, -Array.getElem?_eq_getElem, -Int.natCast_add, add_spot, and_assoc, Br_dec, -op_box, -op_st_4, -op_st_22, -op_st_226, -op_st_243, -op_st_296, -op_st_242, -op_st_187, -op_st_2, -op_alloc_245, -op_alloc_242, -op_alloc_307, -op_lit_243_1, -op_lit_243_2, -op_lit_296_1, -op_lit_296_2, hk]
      refine op_fa0_ok (by kernel_rfl) (val_val h3') ?_
      simp [-getElem?_pos, -Array.getElem?_eq_getElem, -Int.natCast_add, add_spot, and_assoc, Br_dec, -op_box, -op_st_4, -op_st_22, -op_st_226, -op_st_243, -op_st_296, -op_st_242, -op_st_187, -op_st_2, -op_alloc_245, -op_alloc_242, -op_alloc_307, -op_lit_243_1, -op_lit_243_2, -op_lit_296_1, -op_lit_296_2]
      exact hK _ w1 F (k1.to fun _ h => h.elim) ⟨b, rfl, h2, by simpa [hk] using h3'⟩ (fun _ h => .inl h) (by rw [decide_eq_true hk]; simpa using hr')
    | false =>
      simp [-getElem?_pos, -Array.getElem?_eq_getElem, -Int.natCast_add, add_spot, and_assoc, Br_dec, -op_box, -op_st_4, -op_st_22, -op_st_226, -op_st_243, -op_st_296, -op_st_242, -op_st_187, -op_st_2, -op_alloc_245, -op_alloc_242, -op_alloc_307, -op_lit_243_1, -op_lit_243_2, -op_lit_296_1, -op_lit_296_2, hk, h3']
      refine new_val_ok (x := x) fun bv w2 k2 lv lv2 r2 => ?_
      replace k2 : Frm (fun _ => False) w1 w2 := by first | exact k2 | exact Frm.dr k2
      replace lv : w1.heap.size ≤ bv := lv
      have := hK _ w2 _ ((k1.no k2).mono fun _ h _ => h.elim) r2 (fun c hc => .inr (by have := k1.size; omega)) (by rw [decide_eq_true hk]; simpa using hr'.frame k2 (fun h => h))
      exact this
  · rw [if_neg hk] at hK
    simp [-getElem?_pos, -Array.getElem?_eq_getElem, -Int.natCast_add, add_spot, and_assoc, Br_dec, -op_box, -op_st_4, -op_st_22, -op_st_226, -op_st_243, -op_st_296, -op_st_242, -op_st_187, -op_st_2, -op_alloc_245, -op_alloc_242, -op_alloc_307, -op_lit_243_1, -op_lit_243_2, -op_lit_296_1, -op_lit_296_2, hk]
    refine raise_ok hr' fun w2 k2 z2 f2 => ?_
    have h3'' := k2.get h3' (fun e => hne e)
    by_cases hh : h' = hash k
    · have hh' : ((h' : Nat) : Int) = ((hash k : Nat) : Int) := by omega
      rw [if_pos hh] at hK
      simp [-getElem?_pos, -Array.getElem?_eq_getElem, -Int.natCast_add, add_spot, and_assoc, Br_dec, -op_box, -op_st_4, -op_st_22, -op_st_226, -op_st_243, -op_st_296, -op_st_242, -op_st_187, -op_st_2, -op_alloc_245, -op_alloc_242, -op_alloc_307, -op_lit_243_1, -op_lit_243_2, -op_lit_296_1, -op_lit_296_2, ptr, h3'', hh']
      refine ld_fa0_ok (val_val (w := w2.drew) h3'') ?_
      simp [-getElem?_pos, -Array.getElem?_eq_getElem, -Int.natCast_add, add_spot, and_assoc, Br_dec, -op_box, -op_st_4, -op_st_22, -op_st_226, -op_st_243, -op_st_296, -op_st_242, -op_st_187, -op_st_2, -op_alloc_245, -op_alloc_242, -op_alloc_307, -op_lit_243_1, -op_lit_243_2, -op_lit_296_1, -op_lit_296_2]
      refine op_lit_ok lit_243_2 fun w3 k3 z3 b3 => ?_
      simp [-getElem?_pos, -Array.getElem?_eq_getElem, -Int.natCast_add, add_spot, and_assoc, Br_dec, -op_box, -op_st_4, -op_st_22, -op_st_226, -op_st_243, -op_st_296, -op_st_242, -op_st_187, -op_st_2, -op_alloc_245, -op_alloc_242, -op_alloc_307, -op_lit_243_1, -op_lit_243_2, -op_lit_296_1, -op_lit_296_2]
      refine op_box_ok fun w4 k4 z4 b4 => ?_
      have k3 := Frm.dr k3
      have hg : Rw w4 242 1 w2.heap.size 2 (ents [(k', x'), (k, x)]) := (Rw.lit (w := w3) (n := 2) (by rw [ents_len]; rfl) (by decide) (by simpa [ents, ent] using b3)).frame k4 (fun h => h)
      have := k1.size
      refine hK _ w4 (fun c => c = w3.heap.size ∨ c = w2.heap.size) ((k1.fst (k2.old (k3.no k4) fun _ h => h.elim)).to fun c hc => .inl hc)
        ⟨w3.heap.size, w2.heap.size, 2, rfl, .inl rfl, .inr rfl, by simp at z3; omega, by simpa [hh] using b4, by simp, hg⟩ (fun c hc => .inr (by simp at z3; omega)) ?_
      rw [decide_eq_false hk]
      simpa using (f2.frame k3 (fun h => h)).frame k4 (fun h => h)
    · have hh' : ¬ ((h' : Nat) : Int) = ((hash k : Nat) : Int) := by omega
      rw [if_neg hh] at hK
      have h0' := (h0.still k1).frame k2 (fun c hc e => hrb (e ▸ hc))
      simp [-getElem?_pos, -Array.getElem?_eq_getElem, -Int.natCast_add, add_spot, and_assoc, Br_dec, -op_box, -op_st_4, -op_st_22, -op_st_226, -op_st_243, -op_st_296, -op_st_242, -op_st_187, -op_st_2, -op_alloc_245, -op_alloc_242, -op_alloc_307, -op_lit_243_1, -op_lit_243_2, -op_lit_296_1, -op_lit_296_2, ptr, h3'', hh']
      refine meet_ok (x := x) hH hW hp hl hs h0' rfl hh fun v' w3 F' k3 r3 f3 => ?_
      refine hK v' w3 F' ((k1.fst (k2.old k3 fun _ h => h.elim)).to fun c hc => .inl hc) r3 (fun c hc => (f3 c hc).imp id fun h => by have := k1.size; omega) ?_
      rw [decide_eq_false hk]
      simpa using f2.frame k3 (fun h => h)

theorem setC_ok {h' : Nat} {es : List (Ky × Vl)} {p : Nat} (hH : IsH hv hash) (hW : WF hash (.col h' es) l p) (hp : hash k % 32 ^ l = p) (hl : l ≤ 7) (hs : s = 5 * l) (hz : es.length ≤ 1000000) (h : Rep w (.col h' es) v F) (hr : flag w rb r0) (hrb : ¬ F rb)
    (hK : Sets w mu F rb (r0 || (!decide (h' = hash k) || (find es k).isNone)) (setIn (hash k) k x (.col h' es) l) K) :
    (nice Try.prog).call (.inv v "pub-bracken/pub/immutable.set") [ek k, ev x, .int .u64 s, .int .u32 (hash k), hv, .bool mu, ptr rb] w K Kp := by
  have h0 := h
  obtain ⟨b, g, cap, rfl, h2, h3, h4, hb, h6, hg⟩ := h
  simp only [inv_290_187]
  refine vc187_calls ?_
  simp only [vc187]
  refine op_box_ok fun w k0 z0 b0 => ?_
  replace h0 := h0.still k0
  replace hb := k0.get hb (fun h => h)
  replace hg := hg.frame k0 (fun h => h)
  replace hr := hr.frame k0 (fun h => h)
  replace hK := hK.still k0
  have hne : b ≠ rb := fun e => hrb (e ▸ h2)
  have hgr : g ≠ rb := fun e => hrb (e ▸ h3)
  rw [Sets, setIn] at hK
  by_cases hh : h' = hash k
  · have hh' : ((h' : Nat) : Int) = ((hash k : Nat) : Int) := by omega
    rw [if_pos hh] at hK
    rw [decide_eq_true hh] at hK
    cases mu with
    | true =>
      simp [-getElem?_pos, -Array.getElem?_eq_getElem, -Int.natCast_add, add_spot, and_assoc, Br_dec, -op_box, -op_st_4, -op_st_22, -op_st_226, -op_st_243, -op_st_296, -op_st_242, -op_st_187, -op_st_2, -op_alloc_245, -op_alloc_242, -op_alloc_307, -op_lit_243_1, -op_lit_243_2, -op_lit_296_1, -op_lit_296_2, vc187, ptr, hb, hh']
      refine indexC_ok hH hb hg h6 fun w1 k1 => ?_
      have hb1 := k1.get hb (fun h => h)
      have hg1 := hg.frame k1 (fun h => h)
      have hr1 := hr.frame k1 (fun h => h)
      cases hx : find es k with
      | none =>
        rw [hx] at hK
        simp [-getElem?_pos, -Array.getElem?_eq_getElem, -Int.natCast_add, add_spot, and_assoc, Br_dec, -op_box, -op_st_4, -op_st_22, -op_st_226, -op_st_243, -op_st_296, -op_st_242, -op_st_187, -op_st_2, -op_alloc_245, -op_alloc_242, -op_alloc_307, -op_lit_243_1, -op_lit_243_2, -op_lit_296_1, -op_lit_296_2, idxV]
        refine raise_ok hr1 fun w2 k2 z2 f2 => ?_
        have hb2 := k2.get hb1 hne
        have hg2 := hg1.frame k2 hgr
        simp [-getElem?_pos, -Array.getElem?_eq_getElem, -Int.natCast_add, add_spot, and_assoc, Br_dec, -op_box, -op_st_4, -op_st_22, -op_st_226, -op_st_243, -op_st_296, -op_st_242, -op_st_187, -op_st_2, -op_alloc_245, -op_alloc_242, -op_alloc_307, -op_lit_243_1, -op_lit_243_2, -op_lit_296_1, -op_lit_296_2, hb2]
        refine op_lit_ok lit_243_1 fun w3 k3 z3 b3 => ?_
        have k3 := Frm.dr k3
        have hg3 := hg2.frame k3 (fun h => h)
        have hq : Rw w3 242 1 w2.heap.size 1 (ent (k, x)) := Rw.lit (n := 1) (ent_len _) (by decide) (by simpa [ent] using b3)
        have hb3' := k3.get hb2 (fun h => h)
        simp [-getElem?_pos, -Array.getElem?_eq_getElem, -Int.natCast_add, add_spot, and_assoc, Br_dec, -op_box, -op_st_4, -op_st_22, -op_st_226, -op_st_243, -op_st_296, -op_st_242, -op_st_187, -op_st_2, -op_alloc_245, -op_alloc_242, -op_alloc_307, -op_lit_243_1, -op_lit_243_2, -op_lit_296_1, -op_lit_296_2, hb3']
        refine op_appendR (m := 1) (apE) hg3 (ents_len es) h6 hq (by rw [ent_len]) (fun u hu => ents_one (es := [(k, x)]) u (by simpa [ents] using hu)) (by omega) (by omega) fun w4 g' cap' k4 hg4 hc4 hgg => ?_
        have hb3 := (k3.get hb2 (fun h => h))
        have hb4 := k4.get hb3 (fun e => h4 e.symm)
        refine op_store_ok (by kernel_rfl) hb4 (by simp) rfl fun w5 k5 z5 b5 => ?_
        have hgb : g' ≠ b := by
          rcases hgg with rfl | rfl
          · exact h4
          · have := lt_of_get hb3; omega
        have hg5 := hg4.frame k5 hgb
        have hrg : g' ≠ rb := by
          rcases hgg with rfl | rfl
          · exact hgr
          · have := lt_of_get (f2.frame k3 (fun h => h)); omega
        have f5 := ((f2.frame k3 (fun h => h)).frame k4 (fun e => hgr e.symm)).frame k5 (fun e => hne e.symm)
        refine hK _ w5 (fun c => c = b ∨ c = g') ((k1.fst ((k2.tr (k3.fst k4)).tr k5)).to fun c hc => ?_) ⟨b, g', cap', rfl, .inl rfl, .inr rfl, hgb, ?_, ?_, ?_⟩ (fun c hc => ?_) ?_
        · rcases hc with (hc | hc) | hc
          · exact .inl hc
          · exact .inr ⟨rfl, hc ▸ h3⟩
          · exact .inr ⟨rfl, hc ▸ h2⟩
        · simpa [upd, hx] using b5
        · simpa [upd, hx] using hc4
        · simpa [upd, hx, ents_append, ents] using hg5
        · rcases hc with rfl | rfl
          · exact .inl h2
          · rcases hgg with rfl | rfl
            · exact .inl h3
            · exact .inr (by have := k1.size; have := k3.size; omega)
        · simpa using f5
      | some i =>
        rw [hx] at hK
        obtain ⟨hi, hik, _⟩ := find_some hx
        simp [-getElem?_pos, -Array.getElem?_eq_getElem, -Int.natCast_add, add_spot, and_assoc, Br_dec, -op_box, -op_st_4, -op_st_22, -op_st_226, -op_st_243, -op_st_296, -op_st_242, -op_st_187, -op_st_2, -op_alloc_245, -op_alloc_242, -op_alloc_307, -op_lit_243_1, -op_lit_243_2, -op_lit_296_1, -op_lit_296_2, idxV, hb1, hi]
        refine op_storeRN (n := 1) (by kernel_rfl) rfl hg1 (by rw [ents_len]; omega) (fun u hu => ents_one (es := [(k, x)]) u (by simpa [ents, ent] using hu)) fun w2 k2 z2 hg2 => ?_
        have hg2 : Rw w2 242 1 g cap (ents (es.set i (k, x))) := Rw_to hg2 (ents_set_at hi (by omega) rfl)
        have k2 := Frm.dr k2
        have hb2 := k2.get hb1 (fun e => h4 e.symm)
        refine hK _ w2 F ((k1.fst k2).to fun c hc => .inr ⟨rfl, hc ▸ h3⟩) ⟨b, g, cap, rfl, h2, h3, h4, ?_, ?_, ?_⟩ (fun _ h => .inl h) ?_
        · simpa [upd, hx, hh] using hb2
        · simpa [upd, hx] using h6
        · simpa [upd, hx] using hg2
        · simpa using hr1.frame k2 (fun e => hgr e.symm)
    | false =>
      simp [-getElem?_pos, -Array.getElem?_eq_getElem, -Int.natCast_add, add_spot, and_assoc, Br_dec, -op_box, -op_st_4, -op_st_22, -op_st_226, -op_st_243, -op_st_296, -op_st_242, -op_st_187, -op_st_2, -op_alloc_245, -op_alloc_242, -op_alloc_307, -op_lit_243_1, -op_lit_243_2, -op_lit_296_1, -op_lit_296_2, vc187, ptr, hb, hh']
      refine op_box_ok fun w1 k1 z1 b1 => ?_
      have hb1 := k1.get hb (fun h => h)
      have hg1 := hg.frame k1 (fun h => h)
      have hr1 := hr.frame k1 (fun h => h)
      refine indexC_ok hH hb1 hg1 h6 fun w2 k2 => ?_
      have bn2 := k2.get b1 (fun h => h)
      have hb2 := k2.get hb1 (fun h => h)
      have hg2 := hg1.frame k2 (fun h => h)
      have hr2 := hr1.frame k2 (fun h => h)
      have l1 := lt_of_get hb
      have l2 := lt_of_get hr
      have l3 := hg.lt
      have s2 := k2.size
      cases hx : find es k with
      | none =>
        rw [hx] at hK
        simp [-getElem?_pos, -Array.getElem?_eq_getElem, -Int.natCast_add, add_spot, and_assoc, Br_dec, -op_box, -op_st_4, -op_st_22, -op_st_226, -op_st_243, -op_st_296, -op_st_242, -op_st_187, -op_st_2, -op_alloc_245, -op_alloc_242, -op_alloc_307, -op_lit_243_1, -op_lit_243_2, -op_lit_296_1, -op_lit_296_2, idxV]
        refine raise_ok hr2 fun w3 k3 z3 f3 => ?_
        have bn3 := k3.get bn2 (by omega)
        have hb3 := k3.get hb2 hne
        have hg3 := hg2.frame k3 hgr
        simp [-getElem?_pos, -Array.getElem?_eq_getElem, -Int.natCast_add, add_spot, and_assoc, Br_dec, -op_box, -op_st_4, -op_st_22, -op_st_226, -op_st_243, -op_st_296, -op_st_242, -op_st_187, -op_st_2, -op_alloc_245, -op_alloc_242, -op_alloc_307, -op_lit_243_1, -op_lit_243_2, -op_lit_296_1, -op_lit_296_2, hb3, wrap_i64_small (n := (es.length : Int) + 1) (by omega) (by omega)]
        refine op_make_ok (n := es.length + 1) apE (by omega) (by omega) fun w4 zs k4 z4 hzs q4 => ?_
        have bn4 := k4.get bn3 (fun h => h)
        have hb4 := k4.get hb3 (fun h => h)
        have hg4 := hg3.frame k4 (fun h => h)
        have f4 := f3.frame k4 (fun h => h)
        refine op_store_ok (by kernel_rfl) bn4 (by simp) rfl fun w5 k5 z5 bn5 => ?_
        have hb5 := k5.get hb4 (by omega)
        have hg5 := hg4.frame k5 (by omega)
        have f5 := f4.frame k5 (by omega)
        have q5 := q4.frame k5 (by omega)
        simp only [cells_agg] at bn5
        simp [-getElem?_pos, -Array.getElem?_eq_getElem, -Int.natCast_add, add_spot, and_assoc, Br_dec, -op_box, -op_st_4, -op_st_22, -op_st_226, -op_st_243, -op_st_296, -op_st_242, -op_st_187, -op_st_2, -op_alloc_245, -op_alloc_242, -op_alloc_307, -op_lit_243_1, -op_lit_243_2, -op_lit_296_1, -op_lit_296_2, bn5, hb5]
        refine op_copyR (n := es.length) (by kernel_rfl) q5.drew hg5.drew (by omega) (by rw [hzs]; omega) (by rw [ents_len]; omega) ents_one fun w6 k6 z6 q6 => ?_
        have k6 := Frm.dr k6
        have bn6 := k6.get bn5 (by omega)
        have f6 := f5.frame k6 (by omega)
        have hq : lw zs 0 (List.take (es.length * 1) (List.drop 0 (ents es))) = ents es ++ zs.drop (es.length * 1) := by
          rw [List.drop_zero, List.take_of_length_le (by rw [ents_len]; omega), lw_first, ents_len]
        rw [hq] at q6
        have hm1 : IntKind.i64.wrap (((es.length + 1 : Nat) : Int) - 1) = (es.length : Int) := by rw [IntKind.wrap_i64]; omega
        have hm2 : es.length < es.length + 1 := by omega
        simp [-getElem?_pos, -Array.getElem?_eq_getElem, -Int.natCast_add, add_spot, and_assoc, Br_dec, -op_box, -op_st_4, -op_st_22, -op_st_226, -op_st_243, -op_st_296, -op_st_242, -op_st_187, -op_st_2, -op_alloc_245, -op_alloc_242, -op_alloc_307, -op_lit_243_1, -op_lit_243_2, -op_lit_296_1, -op_lit_296_2, bn6, hm1]
        refine op_storeRN (n := 1) (by kernel_rfl) rfl q6.drew (by simp [ents_len, hzs] <;> omega) (fun u hu => ents_one (es := [(k, x)]) u (by simpa [ents, ent] using hu)) fun w7 k7 z7 q7 => ?_
        have k7 := Frm.dr k7
        have bn7 := k7.get bn6 (by omega)
        have f7 := f6.frame k7 (by omega)
        have q7 : Rw w7 242 1 w3.heap.size (es.length + 1) (ents (es ++ [(k, x)])) := Rw_to q7 (ents_snoc_at (by rw [List.length_drop, hzs]; omega) (by omega) rfl)
        refine hK _ w7 (fun c => c = w.heap.size ∨ c = w3.heap.size) (((k1.no k2).fst k3).old ((k4.fst (k5.tr k6)).tr k7) (fun c hc => .inr (by omega)) |>.to fun c hc => .inl hc) ⟨w.heap.size, w3.heap.size, es.length + 1, rfl, .inl rfl, .inr rfl, by omega, ?_, ?_, ?_⟩ (fun c hc => .inr (by omega)) ?_
        · simpa [upd, hx, hh] using bn7
        · simp [upd, hx]
        · simpa [upd, hx] using q7
        · simpa using f7
      | some i =>
        rw [hx] at hK
        obtain ⟨hi, hik, _⟩ := find_some hx
        simp [-getElem?_pos, -Array.getElem?_eq_getElem, -Int.natCast_add, add_spot, and_assoc, Br_dec, -op_box, -op_st_4, -op_st_22, -op_st_226, -op_st_243, -op_st_296, -op_st_242, -op_st_187, -op_st_2, -op_alloc_245, -op_alloc_242, -op_alloc_307, -op_lit_243_1, -op_lit_243_2, -op_lit_296_1, -op_lit_296_2, idxV, hb2]
        refine op_make_ok (n := es.length) apE (by omega) (by omega) fun w4 zs k4 z4 hzs q4 => ?_
        have bn4 := k4.get bn2 (fun h => h)
        have hb4 := k4.get hb2 (fun h => h)
        have hg4 := hg2.frame k4 (fun h => h)
        have f4 := hr2.frame k4 (fun h => h)
        refine op_store_ok (by kernel_rfl) bn4 (by simp) rfl fun w5 k5 z5 bn5 => ?_
        have hb5 := k5.get hb4 (by omega)
        have hg5 := hg4.frame k5 (by omega)
        have f5 := f4.frame k5 (by omega)
        have q5 := q4.frame k5 (by omega)
        simp only [cells_agg] at bn5
        simp [-getElem?_pos, -Array.getElem?_eq_getElem, -Int.natCast_add, add_spot, and_assoc, Br_dec, -op_box, -op_st_4, -op_st_22, -op_st_226, -op_st_243, -op_st_296, -op_st_242, -op_st_187, -op_st_2, -op_alloc_245, -op_alloc_242, -op_alloc_307, -op_lit_243_1, -op_lit_243_2, -op_lit_296_1, -op_lit_296_2, bn5, hb5]
        refine op_copyR (n := es.length) (by kernel_rfl) q5.drew hg5.drew (by omega) (by rw [hzs]; omega) (by rw [ents_len]; omega) ents_one fun w6 k6 z6 q6 => ?_
        have k6 := Frm.dr k6
        have bn6 := k6.get bn5 (by omega)
        have f6 := f5.frame k6 (by omega)
        have hq : lw zs 0 (List.take (es.length * 1) (List.drop 0 (ents es))) = ents es := by
          rw [List.drop_zero, List.take_of_length_le (by rw [ents_len]; omega), lw_all (by rw [hzs, ents_len])]
        rw [hq] at q6
        simp [-getElem?_pos, -Array.getElem?_eq_getElem, -Int.natCast_add, add_spot, and_assoc, Br_dec, -op_box, -op_st_4, -op_st_22, -op_st_226, -op_st_243, -op_st_296, -op_st_242, -op_st_187, -op_st_2, -op_alloc_245, -op_alloc_242, -op_alloc_307, -op_lit_243_1, -op_lit_243_2, -op_lit_296_1, -op_lit_296_2, bn6, hi]
        refine op_storeRN (n := 1) (by kernel_rfl) rfl q6 (by rw [ents_len]; omega) (fun u hu => ents_one (es := [(k, x)]) u (by simpa [ents, ent] using hu)) fun w7 k7 z7 q7 => ?_
        have k7 := Frm.dr k7
        have bn7 := k7.get bn6 (by omega)
        have f7 := f6.frame k7 (by omega)
        have q7 : Rw w7 242 1 w2.heap.size es.length (ents (es.set i (k, x))) := Rw_to q7 (ents_set_at hi (by omega) rfl)
        refine hK _ w7 (fun c => c = w.heap.size ∨ c = w2.heap.size) ((((k1.no k2).no k4).old ((k5.tr k6).tr k7) fun c hc => .inr (by omega)).to fun c hc => hc.elim) ⟨w.heap.size, w2.heap.size, es.length, rfl, .inl rfl, .inr rfl, by omega, ?_, ?_, ?_⟩ (fun c hc => .inr (by omega)) ?_
        · simpa [upd, hx, hh] using bn7
        · simp [upd, hx]
        · simpa [upd, hx] using q7
        · simpa using f7
  · have hh' : ¬ ((h' : Nat) : Int) = ((hash k : Nat) : Int) := by omega
    rw [if_neg hh] at hK
    simp [-getElem?_pos, -Array.getElem?_eq_getElem, -Int.natCast_add, add_spot, and_assoc, Br_dec, -op_box, -op_st_4, -op_st_22, -op_st_226, -op_st_243, -op_st_296, -op_st_242, -op_st_187, -op_st_2, -op_alloc_245, -op_alloc_242, -op_alloc_307, -op_lit_243_1, -op_lit_243_2, -op_lit_296_1, -op_lit_296_2, vc187, ptr, hb, hh']
    refine raise_ok hr fun w2 k2 z2 f2 => ?_
    have h0' := h0.frame k2 (fun c hc e => hrb (e ▸ hc))
    refine meet_ok (x := x) hH hW hp hl hs h0' rfl hh fun v' w3 F' k3 r3 f3 => ?_
    refine hK v' w3 F' ((k2.old k3 fun _ h => h.elim).to fun c hc => .inl hc) r3 (fun c hc => (f3 c hc).imp id fun h => by omega) ?_
    rw [decide_eq_false hh]
    simpa using f2.frame k3 (fun h => h)
end Go.Proofs.Ytbghmbbhkoniiaa.S
end
section
/- Setting a key in a branch. -/
set_option maxRecDepth 100000
set_option maxHeartbeats 1000000
set_option linter.unusedSimpArgs false
set_option linter.unusedVariables false
set_option linter.unusedSectionVars false
namespace Go.Proofs.Ytbghmbbhkoniiaa.S
open Go.Vc Go.Proofs Go.Proofs.Ytbghmbbhkoniiaa Go.Vc.Nd
variable {w w' : World} {v hv : Value} {t : Tr} {F F' : Nat → Prop} {K : Value → World → Prop} {Kp : KP} {hash : Ky → Nat} {k : Ky} {x : Vl} {l s rb : Nat} {r0 mu : Bool}

theorem kids_one_cell {f : Nat → Tr} {vs : Nat → Value} {Fs : Nat → Nat → Prop} (h : ∀ i, i < 32 → Rep w (f i) (vs i) (Fs i)) : ∀ u ∈ kids f vs, u.oneCell' = true := fun u hu => by
  obtain ⟨j, hj, rfl⟩ := List.mem_map.1 hu
  have := (List.mem_filter.1 hj).1
  exact (h j (List.mem_range.1 this)).one
theorem kids_set {f : Nat → Tr} {vs : Nat → Value} {i : Nat} (hi : i < 32) (hf : f i ≠ .emp) (ht : t ≠ .emp) : (kids f vs).set (rk f i) v = kids (Nd.put f i t) (putV vs i v) := by
  have hr := rk_lt (f := f) hi hf
  rw [kids_put hi ht, List.set_eq_take_append_cons_drop, if_pos (by rw [kids_len, cnt_rk]; exact hr), full_iff.2 hf]
  rfl
theorem kids_ins {f : Nat → Tr} {vs : Nat → Value} {i : Nat} (hi : i < 32) (hf : f i = .emp) (ht : t ≠ .emp) : (kids f vs).take (rk f i) ++ v :: (kids f vs).drop (rk f i) = kids (Nd.put f i t) (putV vs i v) := by
  rw [kids_put hi ht, full_not.2 hf]
  rfl
theorem setIn_ne (hH : IsH hv hash) {p : Nat} (hW : WF hash t l p) (hp : hash k % 32 ^ l = p) (hlt : p < 32 ^ l) (hl : l ≤ 7) : setIn (hash k) k x t l ≠ .emp := by
  intro e
  exact (setIn_spec (hash := hash) (k := k) (v := x) hH.lt t l p hW hlt hp hl).2.1 e

def SetC (hv : Value) (hash : Ky → Nat) (k : Ky) (x : Vl) (mu : Bool) (rb s : Nat) (t t' : Tr) (nw : Bool) : Prop :=
  ∀ {w : World} {v : Value} {F : Nat → Prop} {K : Value → World → Prop} {Kp : KP} {r0 : Bool}, Rep w t v F → flag w rb r0 → ¬ F rb → Sets w mu F rb (r0 || nw) t' K →
    (nice Try.prog).call (.inv v "pub-bracken/pub/immutable.set") [ek k, ev x, .int .u64 s, .int .u32 (hash k), hv, .bool mu, ptr rb] w K Kp

theorem setB_ok {f : Nat → Tr} {p i : Nat} {t' : Tr} (hH : IsH hv hash) (hl : l ≤ 6) (hs : s = 5 * l) (hi0 : frag l (hash k) = i) (ht' : t' ≠ .emp) (nw : Bool) (he : f i = .emp → t' = .val (hash k) k x ∧ nw = true)
    (child : f i ≠ .emp → SetC hv hash k x mu rb (s + 5) (f i) t' nw) : SetC hv hash k x mu rb s (.br false f) (.br ((f i).isEmp && decide (16 < Nd.cnt f)) (Nd.put f i t')) nw := by
  intro w v F K Kp r0 h hr hrb hK
  have hi := frag_lt l (hash k)
  have hfr := frag_eq (hH.lt k) hs hl
  rw [hi0] at hi hfr
  obtain ⟨b, g, cap, vs, Fs0, rfl, h2, h3, h4, hb, h6, hg, h8, h9⟩ := h
  have hF : ∀ j, j < 32 → ∀ c, Fs0 j c → F c := fun j hj c hc => (h9 j hj c hc).1
  have hkin0 : Kin w f vs Fs0 (fun c => c = b ∨ c = g) := ⟨h8, fun j hj c hc => ⟨fun e => e.elim (h9 j hj c hc).2.1 (h9 j hj c hc).2.2.1, (h9 j hj c hc).2.2.2⟩⟩
  obtain ⟨Fs, hkin, hFl⟩ : ∃ Fs : Nat → Nat → Prop, Kin w f vs Fs (fun c => c = b ∨ c = g) ∧ ∀ j, j < 32 → ∀ c, Fs j c → F c ∧ c < w.heap.size := ⟨_, hkin0.lt, fun j hj c hc => ⟨hF j hj c hc.1, hc.2⟩⟩
  clear h8 h9 hF hkin0
  simp only [inv_295_190]
  refine vc190_calls ?_
  simp only [vc190]
  refine op_box_ok fun w k0 z0 b0 => ?_
  replace hb := k0.get hb (fun h => h)
  replace hg := hg.frame k0 (fun h => h)
  replace hr := hr.frame k0 (fun h => h)
  replace hK := hK.still k0
  replace hFl : ∀ j, j < 32 → ∀ c, Fs j c → F c ∧ c < w.heap.size := fun j hj c hc => ⟨(hFl j hj c hc).1, by have := (hFl j hj c hc).2; omega⟩
  replace hkin : Kin w f vs Fs (fun c => c = b ∨ c = g) := ⟨fun j hj => (hkin.1 j hj).still k0, hkin.2⟩
  have hbit := bit_eq hi
  have hand := and_u32 (bm_lt (f := f)) (two_pow_lt hi)
  have hor := or_u32 (bm_lt (f := f)) (two_pow_lt hi)
  have hless := bit_less hi
  have hpos := Nat.pow_pos (n := i) (show 0 < 2 by decide)
  have hbel := and_u32 (bm_lt (f := f)) (b := 2 ^ i - 1) (by have := two_pow_lt hi; omega)
  have hz := bm_and_zero (f := f) i hi
  have hpop := pop_rk (f := f) (i := i) (by omega)
  have hlt2 : bm f &&& (2 ^ i - 1) < 2 ^ 32 := Nat.lt_of_le_of_lt Nat.and_le_left bm_lt
  have hbm := bm_or (f := f) hi ht'
  have hns := next_shift hs hl
  have hne : b ≠ rb := fun e => hrb (e ▸ h2)
  have hgr : g ≠ rb := fun e => hrb (e ▸ h3)
  have l1 := lt_of_get hb
  have l2 := lt_of_get hr
  have l3 := hg.lt
  generalize hB : bm f &&& 2 ^ i = B at *
  generalize hO : bm f ||| 2 ^ i = O at *
  generalize hC : bm f &&& (2 ^ i - 1) = C at *
  have hbits : ∀ j, j < 32 → (bm f &&& 2 ^ j = 0 ↔ f j = .emp) := fun j hj => bm_and_zero (f := f) j hj
  generalize hy : (2 : Nat) ^ i = y at *
  have hzB : ((B : Int) = 0) ↔ f i = .emp := by rw [← hz]; omega
  simp [-getElem?_pos, -Array.getElem?_eq_getElem, -Int.natCast_add, add_spot, and_assoc, Br_dec, -op_box, -op_st_4, -op_st_22, -op_st_226, -op_st_243, -op_st_296, -op_st_242, -op_st_187, -op_st_2, -op_alloc_245, -op_alloc_242, -op_alloc_307, -op_lit_243_1, -op_lit_243_2, -op_lit_296_1, -op_lit_296_2, vc190, ptr, hb, hfr, hbit, hand, -Int.natCast_eq_zero, hzB]
  refine Jn.intro (fun w1 => Frm (· = rb) w w1 ∧ flag w1 rb (r0 || (f i).isEmp)) ⟨fun e => ?_, fun e => ?_, ?_⟩
  · refine raise_ok hr fun w1 k1 z1 f1 => ⟨k1, ?_⟩
    rw [e]; simpa [Nd.isEmp] using f1
  · refine ⟨Frm.refl, ?_⟩
    have : (f i).isEmp = false := by cases h : (f i).isEmp; rfl; exact absurd (isEmp_iff.1 h) e
    rw [this]; simpa using hr
  rintro w1 ⟨k1, f1⟩
  have hb1 := k1.get hb hne
  have hg1 := hg.frame k1 hgr
  have n1 := k1.size
  have hkin1 : ∀ j, j < 32 → Rep w1 (f j) (vs j) (Fs j) := fun j hj => (hkin.1 j hj).frame k1 fun c hc e => hrb (e ▸ (hFl j hj c hc).1)
  simp [-getElem?_pos, -Array.getElem?_eq_getElem, -Int.natCast_add, add_spot, and_assoc, Br_dec, -op_box, -op_st_4, -op_st_22, -op_st_226, -op_st_243, -op_st_296, -op_st_242, -op_st_187, -op_st_2, -op_alloc_245, -op_alloc_242, -op_alloc_307, -op_lit_243_1, -op_lit_243_2, -op_lit_296_1, -op_lit_296_2, hb1, hless, hbel]
  refine pop_ok hlt2 fun w2 k2 => ?_
  rw [hpop]
  have hb2 := k2.get hb1 (fun h => h)
  have hg2 := hg1.frame k2 (fun h => h)
  have f2 := f1.frame k2 (fun h => h)
  have n2 := k2.size
  obtain ⟨J, hJ⟩ : ∃ J : Value → World → Prop, ∀ nv w3, J nv w3 ↔ ∃ F1, Frm (fun c => c = rb ∨ mu = true ∧ Fs i c) w2 w3 ∧ Rep w3 t' nv F1 ∧ (∀ c, F1 c → (Fs i c ∨ w2.heap.size ≤ c) ∧ c < w3.heap.size) ∧ flag w3 rb (r0 || nw) := ⟨_, fun _ _ => Iff.rfl⟩
  refine Jn.intro J ⟨fun e => ?_, fun e => ?_, ?_⟩
  · obtain ⟨cur, hcur, hk⟩ := kid_cell hg2
    have hk' := hk i hi e
    have hrl := rk_lt (f := f) hi e
    rw [← cnt_rk] at hrl
    have he' : (f i).isEmp = false := by cases h : (f i).isEmp; rfl; exact absurd (isEmp_iff.1 h) e
    simp [-getElem?_pos, -Array.getElem?_eq_getElem, -Int.natCast_add, add_spot, and_assoc, Br_dec, -op_box, -op_st_4, -op_st_22, -op_st_226, -op_st_243, -op_st_296, -op_st_242, -op_st_187, -op_st_2, -op_alloc_245, -op_alloc_242, -op_alloc_307, -op_lit_243_1, -op_lit_243_2, -op_lit_296_1, -op_lit_296_2, hb2, hcur, hk', hns, hrl]
    refine child e ((hkin1 i hi).still (k2.no (Frm.drew w2))) (r0 := r0) (by rw [he'] at f2; exact flag.frame (M := fun _ => False) (by simpa using f2) (Frm.drew w2) (fun h => h)) (fun h => hrb (hFl i hi rb h).1) fun v' w3 F' k3 r3 h3' f3 => ?_
    replace k3 := Frm.dr k3
    exact (hJ _ _).2 ⟨fun c => F' c ∧ c < w3.heap.size, k3, r3.lt, fun c hc => ⟨h3' c hc.1, hc.2⟩, f3⟩
  · obtain ⟨rfl, rfl⟩ := he e
    refine new_val_ok (x := x) fun bv w3 k3 lv lv2 r3 => (hJ _ _).2 ⟨_, (k3.to fun _ h => h.elim), r3, fun c hc => ⟨.inr (by omega), by omega⟩, ?_⟩
    have : (f i).isEmp = true := by rw [e]; rfl
    rw [this] at f2
    exact f2.frame k3 (fun h => h)
  intro w3 nv hJnv
  obtain ⟨F1, k3, r3, hF1, f3⟩ := (hJ _ _).1 hJnv
  clear hJnv hJ J
  have n3 := k3.size
  have hbF : ¬ Fs i b := fun h => (hkin.2 i hi b h).1 (.inl rfl)
  have hgF : ¬ Fs i g := fun h => (hkin.2 i hi g h).1 (.inr rfl)
  have hb3 := k3.get hb2 (fun h => h.elim hne fun h => hbF h.2)
  have hg3 := hg2.frame k3 (fun h => h.elim hgr fun h => hgF h.2)
  have hkin3 : ∀ j, j < 32 → j ≠ i → Rep w3 (f j) (vs j) (Fs j) := fun j hj hji => ((hkin1 j hj).still k2).frame k3 fun c hc h => h.elim (fun e => hrb (e ▸ (hFl j hj c hc).1)) fun h => (hkin.2 j hj c hc).2 i hi (fun e => hji e.symm) h.2
  have hF1b : ∀ c, F1 c → c ≠ b ∧ c ≠ g := fun c hc => by
    rcases (hF1 c hc).1 with h | h
    · have := (hkin.2 i hi c h).1; exact ⟨fun e => this (.inl e), fun e => this (.inr e)⟩
    · exact ⟨by omega, by omega⟩
  have hF1d : ∀ c, F1 c → ∀ j, j < 32 → j ≠ i → ¬ Fs j c := fun c hc j hj hji hjc => by
    rcases (hF1 c hc).1 with h | h
    · exact (hkin.2 i hi c h).2 j hj hji hjc
    · have := (hFl j hj c hjc).2; omega
  have hto : ∀ {w4 : World} {M : Nat → Prop}, Frm M w3 w4 → (∀ c, M c → (mu = true ∧ (c = b ∨ c = g)) ∨ w.heap.size ≤ c) → Frm (fun c => c = rb ∨ mu = true ∧ F c) w w4 := fun {w4 M} k4 hM => by
    refine Frm.old (((k1.tr (k2.fst k3)).to fun c hc => ?_)) (k4.to (M' := fun c => (mu = true ∧ (c = b ∨ c = g)) ∨ w.heap.size ≤ c) hM) fun c hc => ?_
    · rcases hc with h | h | h
      · exact .inl h
      · exact .inl h
      · exact .inr ⟨h.1, (hFl i hi c h.2).1⟩
    · rcases hc with ⟨hm, h | h⟩ | h
      · exact .inl (.inr ⟨hm, h ▸ h2⟩)
      · exact .inl (.inr ⟨hm, h ▸ h3⟩)
      · exact .inr h
  have hkinP : ∀ {w4 : World} {M O : Nat → Prop}, Frm M w3 w4 → (∀ c, M c → c = b ∨ c = g ∨ w3.heap.size ≤ c) → (∀ c, O c → c = b ∨ c = g ∨ w3.heap.size ≤ c) → Kin w4 (Nd.put f i t') (putV vs i nv) (fun j => if j = i then F1 else Fs j) O := fun {w4 M O} k4 hM hO => by
    have hOF : ∀ j, j < 32 → ∀ c, Fs j c → ¬ O c ∧ ¬ M c := fun j hj c hc => by
      have h1 := (hkin.2 j hj c hc).1
      have h2 := (hFl j hj c hc).2
      exact ⟨fun h => by rcases hO c h with h | h | h; exact h1 (.inl h); exact h1 (.inr h); omega, fun h => by rcases hM c h with h | h | h; exact h1 (.inl h); exact h1 (.inr h); omega⟩
    have hOF1 : ∀ c, F1 c → ¬ O c ∧ ¬ M c := fun c hc => by
      have h1 := hF1b c hc
      have h2 := (hF1 c hc).2
      exact ⟨fun h => by rcases hO c h with h | h | h; exact h1.1 h; exact h1.2 h; omega, fun h => by rcases hM c h with h | h | h; exact h1.1 h; exact h1.2 h; omega⟩
    refine ⟨fun j hj => ?_, fun j hj c hc => ?_⟩
    · by_cases e : j = i
      · subst e; rw [Nd.put_same]; simpa [putV] using r3.frame k4 fun c hc => (hOF1 c hc).2
      · rw [Nd.put_ne e]; simp only [putV, if_neg e]; exact (hkin3 j hj e).frame k4 fun c hc => (hOF j hj c hc).2
    · by_cases e : j = i
      · simp only [if_pos e] at hc
        refine ⟨(hOF1 c hc).1, fun q hq hne hqc => ?_⟩
        simp only [if_neg (show ¬ q = i by omega)] at hqc
        exact hF1d c hc q hq (by omega) hqc
      · simp only [if_neg e] at hc
        refine ⟨(hOF j hj c hc).1, fun q hq hne hqc => ?_⟩
        by_cases e' : q = i
        · simp only [if_pos e'] at hqc; exact hF1d c hqc j hj e hc
        · simp only [if_neg e'] at hqc; exact (hkin.2 j hj c hc).2 q hq hne hqc
  have hFF : ∀ {O : Nat → Prop} {w4 : World}, (∀ c, O c → F c ∨ w.heap.size ≤ c) → ∀ c, (O c ∨ ∃ j, j < 32 ∧ (if j = i then F1 else Fs j) c) → F c ∨ w.heap.size ≤ c := fun {O w4} hO c hc => by
    rcases hc with hc | ⟨j, hj, hc⟩
    · exact hO c hc
    · by_cases e : j = i
      · simp only [if_pos e] at hc
        rcases (hF1 c hc).1 with h | h
        · exact .inl (hFl i hi c h).1
        · exact .inr (by omega)
      · simp only [if_neg e] at hc
        exact .inl (hFl j hj c hc).1
  have hone := kids_one_cell hkin.1
  have hnil : ∀ q, q < 32 → f q = .emp → vs q = .nilIface := fun q hq e => by have := hkin.1 q hq; rw [e] at this; exact this.nil
  clear hkin hkin1 hkin3
  refine Jn.intro (fun w4 => w4 = w3 ∧ ¬ (f i = .emp ∧ 16 < Nd.cnt f)) ⟨fun e => ?_, fun e => ⟨rfl, fun h => e h.1⟩, ?_⟩
  · have hcast : ((16 : Int) < (Nd.cnt f : Int)) ↔ 16 < Nd.cnt f := by omega
    simp [-getElem?_pos, -Array.getElem?_eq_getElem, -Int.natCast_add, add_spot, and_assoc, Br_dec, -op_box, -op_st_4, -op_st_22, -op_st_226, -op_st_243, -op_st_296, -op_st_242, -op_st_187, -op_st_2, -op_alloc_245, -op_alloc_242, -op_alloc_307, -op_lit_243_1, -op_lit_243_2, -op_lit_296_1, -op_lit_296_2, hb3, hcast, e]
    intro h16
    refine op_alloc_ok (z := .agg zero_307) (by kernel_rfl) fun w4 k4 z4 b4 => ?_
    simp only [cells_agg] at b4
    have hzz : ∀ j, j < 32 → zero_307[j + 1]? = some Value.nilIface := fun j hj => by
      have : zero_307.toList = Value.int .u64 0 :: List.replicate 32 Value.nilIface := by kernel_rfl
      rw [← Array.getElem?_toList, this, List.getElem?_cons_succ, List.getElem?_replicate, if_pos hj]
    obtain ⟨I, hI⟩ : ∃ I : Value → World → Prop, ∀ sv w5, I sv w5 ↔ ∃ j : Nat, sv = Value.int .u64 j ∧ j ≤ 32 ∧ Frm (· = w3.heap.size) w4 w5 ∧ w5.heap.size = w4.heap.size ∧ ∃ cs, w5.heap[w3.heap.size]? = some (.cells cs 307 (0, 0)) ∧ cs.size = 33 ∧ cs[0]? = some (.int .u64 (rk f j)) ∧ ∀ q, q < 32 → cs[q + 1]? = some (if q < j ∧ full f q = true then vs q else .nilIface) := ⟨_, fun _ _ => Iff.rfl⟩
    refine Lp.intro I (fun sv _ => 32 - natOf sv) ⟨(hI _ _).2 ⟨0, rfl, by omega, Frm.refl, rfl, zero_307, b4, rfl, rfl, fun q hq => by rw [hzz q hq]; simp⟩, ?_⟩
    intro wl sv hsv
    obtain ⟨j, rfl, hj, kl, nl, cs, bl, hcz, hc0, hcs⟩ := (hI _ _).1 hsv
    have hbl := kl.get (k4.get hb3 (fun h => h)) (by omega)
    have hgl := (hg3.frame k4 (fun h => h)).frame kl (by omega)
    have hjlt : ((j : Int) < 32) ↔ j < 32 := by omega
    simp [-getElem?_pos, -Array.getElem?_eq_getElem, -Int.natCast_add, add_spot, and_assoc, Br_dec, -op_box, -op_st_4, -op_st_22, -op_st_226, -op_st_243, -op_st_296, -op_st_242, -op_st_187, -op_st_2, -op_alloc_245, -op_alloc_242, -op_alloc_307, -op_lit_243_1, -op_lit_243_2, -op_lit_296_1, -op_lit_296_2, hjlt]
    refine ⟨fun hj32 => ?_, fun hj32 => ?_⟩
    · have hbitj := bit_eq hj32
      have handj := and_u32 (bm_lt (f := f)) (two_pow_lt hj32)
      have hzj := hbits j hj32
      generalize hBj : bm f &&& 2 ^ j = Bj at *
      generalize (2 : Nat) ^ j = yj at *
      have hzBj : ((Bj : Int) = 0) ↔ f j = .emp := by rw [← hzj]; omega
      have hnx : IntKind.u64.wrap ((j : Int) + 1) = ((j + 1 : Nat) : Int) := by rw [IntKind.wrap_u64]; omega
      simp [-getElem?_pos, -Array.getElem?_eq_getElem, -Int.natCast_add, add_spot, and_assoc, Br_dec, -op_box, -op_st_4, -op_st_22, -op_st_226, -op_st_243, -op_st_296, -op_st_242, -op_st_187, -op_st_2, -op_alloc_245, -op_alloc_242, -op_alloc_307, -op_lit_243_1, -op_lit_243_2, -op_lit_296_1, -op_lit_296_2, hbl, hbitj, handj, -Int.natCast_eq_zero, hzBj, hnx]
      refine ⟨fun ej => ?_, fun ej => ?_⟩
      · obtain ⟨cur, hcur, hk⟩ := kid_cell hgl
        have hk' := hk j hj32 ej
        have hrl := rk_lt (f := f) hj32 ej
        rw [← cnt_rk] at hrl
        simp [-getElem?_pos, -Array.getElem?_eq_getElem, -Int.natCast_add, add_spot, and_assoc, Br_dec, -op_box, -op_st_4, -op_st_22, -op_st_226, -op_st_243, -op_st_296, -op_st_242, -op_st_187, -op_st_2, -op_alloc_245, -op_alloc_242, -op_alloc_307, -op_lit_243_1, -op_lit_243_2, -op_lit_296_1, -op_lit_296_2, bl, hc0, hcur, hk', hrl, hj32]
        refine op_store_ok (by kernel_rfl) bl (by omega) (hone (vs j) (by have := kids_get (vs := vs) hj32 ej; exact List.mem_of_getElem? this)) fun w5 k5 z5 b5 => ?_
        have k5 := Frm.dr k5
        have hc5 : (cs.setIfInBounds (1 + j) (vs j))[0]? = some (.int .u64 (rk f j)) := by rw [Array.getElem?_setIfInBounds, if_neg (by omega), hc0]
        have hr32 := rk_le (f := f) j
        have hrn : IntKind.u64.wrap ((rk f j : Int) + 1) = ((rk f j + 1 : Nat) : Int) := by rw [IntKind.wrap_u64]; omega
        simp [-getElem?_pos, -Array.getElem?_eq_getElem, -Int.natCast_add, add_spot, and_assoc, Br_dec, -op_box, -op_st_4, -op_st_22, -op_st_226, -op_st_243, -op_st_296, -op_st_242, -op_st_187, -op_st_2, -op_alloc_245, -op_alloc_242, -op_alloc_307, -op_lit_243_1, -op_lit_243_2, -op_lit_296_1, -op_lit_296_2, b5, hc5, hrn]
        refine op_store_ok (by kernel_rfl) b5 (by simp; omega) rfl fun w6 k6 z6 b6 => ?_
        refine ⟨(hI _ _).2 ⟨j + 1, rfl, by omega, (kl.tr (k5.tr k6)).to (fun c hc => by omega), by simp at z5; omega, _, b6, by simp [hcz], ?_, fun q hq => ?_⟩, by simp only [natOf]; omega⟩
        · rw [Array.getElem?_setIfInBounds, if_pos rfl, if_pos (by simp; omega), rk_succ, full_iff.2 ej]; rfl
        · rw [Array.getElem?_setIfInBounds, if_neg (by omega), Array.getElem?_setIfInBounds]
          by_cases eq : q = j
          · subst eq
            rw [if_pos (by omega), if_pos (by omega), if_pos ⟨by omega, full_iff.2 ej⟩]
          · rw [if_neg (by omega), hcs q hq]
            simp only [show q < j + 1 ↔ q < j by omega]
      · refine ⟨(hI _ _).2 ⟨j + 1, rfl, by omega, kl, nl, cs, bl, hcz, ?_, fun q hq => ?_⟩, by simp only [natOf]; omega⟩
        · rw [hc0, rk_succ, full_not.2 ej]; simp
        · rw [hcs q hq]
          by_cases eq : q = j
          · subst eq; simp [full_not.2 ej]
          · simp only [show q < j + 1 ↔ q < j by omega]
    · obtain rfl : j = 32 := by omega
      have hi' : (i : Int) < 32 := by omega
      simp [-getElem?_pos, -Array.getElem?_eq_getElem, -Int.natCast_add, add_spot, and_assoc, Br_dec, -op_box, -op_st_4, -op_st_22, -op_st_226, -op_st_243, -op_st_296, -op_st_242, -op_st_187, -op_st_2, -op_alloc_245, -op_alloc_242, -op_alloc_307, -op_lit_243_1, -op_lit_243_2, -op_lit_296_1, -op_lit_296_2, hi']
      refine op_store_ok (by kernel_rfl) bl (by omega) r3.one fun w5 k5 z5 b5 => ?_
      have hc5 : (cs.setIfInBounds (1 + i) nv)[0]? = some (.int .u64 (rk f 32)) := by rw [Array.getElem?_setIfInBounds, if_neg (by omega), hc0]
      have hr32 := rk_le (f := f) 32
      have hrn : IntKind.u64.wrap ((rk f 32 : Int) + 1) = ((rk f 32 + 1 : Nat) : Int) := by rw [IntKind.wrap_u64]; omega
      simp [-getElem?_pos, -Array.getElem?_eq_getElem, -Int.natCast_add, add_spot, and_assoc, Br_dec, -op_box, -op_st_4, -op_st_22, -op_st_226, -op_st_243, -op_st_296, -op_st_242, -op_st_187, -op_st_2, -op_alloc_245, -op_alloc_242, -op_alloc_307, -op_lit_243_1, -op_lit_243_2, -op_lit_296_1, -op_lit_296_2, b5, hc5, hrn]
      refine op_store_ok (by kernel_rfl) b5 (by simp; omega) rfl fun w6 k6 z6 b6 => ?_
      have hcn : Nd.cnt (Nd.put f i t') = Nd.cnt f + 1 := cnt_add hi e ht'
      have hfl : ((f i).isEmp && decide (16 < Nd.cnt f)) = true := by rw [e]; simpa [Nd.isEmp] using h16
      rw [hfl] at hK
      have kall := k4.fst (kl.tr (k5.tr k6))
      have hempty : ∀ q, q < 32 → full f q = false → vs q = .nilIface := fun q hq hfq => hnil q hq (full_not.1 hfq)
      refine hK _ w6 _ (hto kall fun c hc => .inr (by omega)) (Rep.mkH (f := Nd.put f i t') (b := w3.heap.size) b6 (by simp [hcz]) ?_ (fun q hq => ?_) (hkinP kall (fun c hc => .inr (.inr (by omega))) (fun c hc => .inr (.inr (by omega))))) (fun c hc => hFF (O := fun c => c = w3.heap.size) (w4 := w) (fun c hc => .inr (by omega)) c hc) ?_
      · rw [Array.getElem?_setIfInBounds, if_pos rfl, if_pos (by simp; omega), hcn, cnt_rk]
      · rw [Array.getElem?_setIfInBounds, if_neg (by omega), Array.getElem?_setIfInBounds]
        by_cases eq : q = i
        · subst eq
          rw [if_pos (by omega), if_pos (by omega)]; simp [putV]
        · rw [if_neg (by omega), hcs q hq]
          simp only [putV, if_neg eq]
          cases hfq : full f q with
          | true => simp [hq]
          | false => simp [hempty q hq hfq]
      · have := lt_of_get f3
        exact ((f3.frame k4 (fun h => h)).frame kl (by omega)).frame (k5.tr k6) (by omega)
  rintro w4 ⟨rfl, h16⟩
  have hfl : ((f i).isEmp && decide (16 < Nd.cnt f)) = false := by
    cases h : (f i).isEmp with
    | false => rfl
    | true => rw [Bool.true_and]; exact decide_eq_false fun h' => h16 ⟨isEmp_iff.1 h, h'⟩
  rw [hfl] at hK
  have hvs : ∀ u ∈ kids f vs, u.oneCell' = true := hone
  have hcl := cnt_le (f := f)
  have hrk : rk f i ≤ Nd.cnt f := by rw [cnt_rk]; exact rk_mono (by omega)
  have hcm := hg3.cap_le h6
  refine ⟨fun hm => ⟨fun e => ?_, fun e => ?_⟩, fun hm => ?_⟩
  · have hrl := rk_lt (f := f) hi e
    rw [← cnt_rk] at hrl
    simp [-getElem?_pos, -Array.getElem?_eq_getElem, -Int.natCast_add, add_spot, and_assoc, Br_dec, -op_box, -op_st_4, -op_st_22, -op_st_226, -op_st_243, -op_st_296, -op_st_242, -op_st_187, -op_st_2, -op_alloc_245, -op_alloc_242, -op_alloc_307, -op_lit_243_1, -op_lit_243_2, -op_lit_296_1, -op_lit_296_2, hb3, hrl]
    refine op_storeR1 (by kernel_rfl) hg3 (by rw [kids_len]; exact hrl) r3.one fun w5 k5 z5 q5 => ?_
    rw [kids_set hi e ht'] at q5
    have f5 := f3.frame k5 (fun e => hgr e.symm)
    refine hK _ w5 _ (hto k5 fun c hc => .inl ⟨hm, .inr hc⟩) (Rep.mkB (f := Nd.put f i t') h4 (by rw [bm_keep e ht', cnt_same e ht']; exact k5.get hb3 (fun e => h4 e.symm)) (by rw [cnt_same e ht']; exact h6) q5 (hkinP k5 (fun c hc => .inr (.inl hc)) (fun c hc => hc.imp id .inl))) (fun c hc => hFF (O := fun c => c = b ∨ c = g) (w4 := w) (fun c hc => .inl (hc.elim (fun e => e ▸ h2) fun e => e ▸ h3)) c (or_assoc.2 hc)) f5
  · simp [-getElem?_pos, -Array.getElem?_eq_getElem, -Int.natCast_add, add_spot, and_assoc, Br_dec, -op_box, -op_st_4, -op_st_22, -op_st_226, -op_st_243, -op_st_296, -op_st_242, -op_st_187, -op_st_2, -op_alloc_245, -op_alloc_242, -op_alloc_307, -op_lit_243_1, -op_lit_243_2, -op_lit_296_1, -op_lit_296_2, hb3, hor]
    refine op_store_ok (by kernel_rfl) hb3 (by simp) rfl fun w5 k5 z5 b5 => ?_
    have hg5 := hg3.frame k5 h4
    have f5 := f3.frame k5 (fun e => hne e.symm)
    simp [-getElem?_pos, -Array.getElem?_eq_getElem, -Int.natCast_add, add_spot, and_assoc, Br_dec, -op_box, -op_st_4, -op_st_22, -op_st_226, -op_st_243, -op_st_296, -op_st_242, -op_st_187, -op_st_2, -op_alloc_245, -op_alloc_242, -op_alloc_307, -op_lit_243_1, -op_lit_243_2, -op_lit_296_1, -op_lit_296_2, b5]
    refine op_lit_ok (lit_296_1 rfl) fun w6 k6 z6 b6 => ?_
    have hq : Rw w6 226 1 w5.heap.size 1 [.nilIface] := Rw.lit (n := 1) rfl (by decide) b6
    refine op_appendR apN (hg5.frame k6 fun h => h) (n := Nd.cnt f) (by rw [kids_len]; omega) h6 hq (m := 1) rfl (fun u hu => by simp at hu; subst hu; rfl) (by omega) (by omega) fun w7 g' cap' k7 hg7 hc7 hgg => ?_
    have b7 := k7.get (k6.get b5 (fun h => h)) (fun e => h4 e.symm)
    have f7 := (f5.frame k6 (fun h => h)).frame k7 (fun e => hgr e.symm)
    have hgb : g' ≠ b := by
      rcases hgg with rfl | rfl
      · exact h4
      · omega
    have hgr' : g' ≠ rb := by
      rcases hgg with rfl | rfl
      · exact hgr
      · omega
    refine op_store_ok (by kernel_rfl) b7 (by simp) rfl fun w8 k8 z8 b8 => ?_
    have hg8 := hg7.frame k8 hgb
    have f8 := f7.frame k8 (fun e => hne e.symm)
    have hw : IntKind.i64.wrap ((rk f i : Int) + 1) = ((rk f i + 1 : Nat) : Int) := by rw [IntKind.wrap_i64]; omega
    simp [-getElem?_pos, -Array.getElem?_eq_getElem, -Int.natCast_add, add_spot, and_assoc, Br_dec, -op_box, -op_st_4, -op_st_22, -op_st_226, -op_st_243, -op_st_296, -op_st_242, -op_st_187, -op_st_2, -op_alloc_245, -op_alloc_242, -op_alloc_307, -op_lit_243_1, -op_lit_243_2, -op_lit_296_1, -op_lit_296_2, b8, hw]
    have hkl : (kids f vs).length = Nd.cnt f := kids_len
    refine ⟨by omega, hc7, by omega, hc7, ?_⟩
    refine op_copyX (n := Nd.cnt f - rk f i) (x1 := rk f i + 1) (x2 := rk f i) (by kernel_rfl) hg8.drew hg8.drew (by split; exact .inr ⟨rfl, by omega⟩; exact .inl (by simp)) (by split; exact .inr ⟨rfl, by omega⟩; exact .inl (by simp)) (by omega) (by simp; omega) (by simp; omega)
      (fun u hu => by rcases List.mem_append.1 hu with h | h; exact hvs u h; simp at h; subst h; rfl) fun w9 k9 z9 q9 => ?_
    have k9 := Frm.dr k9
    have b9 := k9.get b8 (fun e => hgb e.symm)
    have f9 := f8.frame k9 (fun e => hgr' e.symm)
    simp only [Nat.mul_one] at q9
    have hlt9 : rk f i < Nd.cnt f + 1 := by omega
    simp [-getElem?_pos, -Array.getElem?_eq_getElem, -Int.natCast_add, add_spot, and_assoc, Br_dec, -op_box, -op_st_4, -op_st_22, -op_st_226, -op_st_243, -op_st_296, -op_st_242, -op_st_187, -op_st_2, -op_alloc_245, -op_alloc_242, -op_alloc_307, -op_lit_243_1, -op_lit_243_2, -op_lit_296_1, -op_lit_296_2, b9, hlt9]
    refine op_storeR1 (by kernel_rfl) q9 (by rw [lw_len (by simp; omega)]; simp; omega) r3.one fun w10 k10 z10 q10 => ?_
    have hins := ins_mut (A := kids f vs) (z := .nilIface) (v := nv) (by rw [hkl]; exact hrk)
    rw [hkl] at hins
    rw [hins, kids_ins hi e ht'] at q10
    have b10 := k10.get b9 (fun e => hgb e.symm)
    have f10 := f9.frame k10 (fun e => hgr' e.symm)
    have hcn : Nd.cnt (Nd.put f i t') = Nd.cnt f + 1 := cnt_add hi e ht'
    have n6 := k6.size
    have n7 := k7.size
    have kall := (((((k5.tr (k6.fst k7)).tr k8).tr k9).tr k10))
    have hall : ∀ c, ((((c = b ∨ c = g) ∨ c = b) ∨ c = g') ∨ c = g') → (c = b ∨ c = g) ∨ w4.heap.size ≤ c := fun c hc => by
      rcases hgg with h | h <;> omega
    refine hK _ w10 _ (hto kall fun c hc => ?_) (Rep.mkB (f := Nd.put f i t') hgb (by rw [← hbm, hcn]; simpa using b10) (by rw [hcn]; exact hc7) q10 (hkinP kall (fun c hc => or_assoc.1 (hall c hc)) (fun c hc => by rcases hc with h | h; exact .inl h; rcases hgg with h' | h'; exact .inr (.inl (by omega)); exact .inr (.inr (by omega))))) (fun c hc => hFF (O := fun c => c = b ∨ c = g') (w4 := w) (fun c hc => ?_) c (or_assoc.2 hc)) f10
    · rcases hall c hc with h | h
      · exact .inl ⟨hm, h⟩
      · exact .inr (by omega)
    · rcases hc with h | h
      · exact .inl (h ▸ h2)
      · rcases hgg with h' | h'
        · exact .inl (h ▸ h' ▸ h3)
        · exact .inr (by omega)
  · simp [-getElem?_pos, -Array.getElem?_eq_getElem, -Int.natCast_add, add_spot, and_assoc, Br_dec, -op_box, -op_st_4, -op_st_22, -op_st_226, -op_st_243, -op_st_296, -op_st_242, -op_st_187, -op_st_2, -op_alloc_245, -op_alloc_242, -op_alloc_307, -op_lit_243_1, -op_lit_243_2, -op_lit_296_1, -op_lit_296_2, hb3, hor]
    refine op_box_ok fun w5 k5 z5 b5 => ?_
    simp only [cells_agg] at b5
    have hb5 := k5.get hb3 (fun h => h)
    have hg5 := hg3.frame k5 (fun h => h)
    have f5 := f3.frame k5 (fun h => h)
    have hkl : (kids f vs).length = Nd.cnt f := kids_len
    refine ⟨fun e => ?_, fun e => ?_⟩
    · have hrl := rk_lt (f := f) hi e
      rw [← cnt_rk] at hrl
      simp [-getElem?_pos, -Array.getElem?_eq_getElem, -Int.natCast_add, add_spot, and_assoc, Br_dec, -op_box, -op_st_4, -op_st_22, -op_st_226, -op_st_243, -op_st_296, -op_st_242, -op_st_187, -op_st_2, -op_alloc_245, -op_alloc_242, -op_alloc_307, -op_lit_243_1, -op_lit_243_2, -op_lit_296_1, -op_lit_296_2, hb5]
      refine op_make_ok (n := Nd.cnt f) apN rfl (by omega) fun w6 zs k6 z6 hzs q6 => ?_
      have b6 := k6.get b5 (fun h => h)
      have hb6 := k6.get hb5 (fun h => h)
      have hg6 := hg5.frame k6 (fun h => h)
      have f6 := f5.frame k6 (fun h => h)
      refine op_store_ok (by kernel_rfl) b6 (by simp) rfl fun w7 k7 z7 b7 => ?_
      have hb7 := k7.get hb6 (by omega)
      have hg7 := hg6.frame k7 (by omega)
      have f7 := f6.frame k7 (by omega)
      have q7 := q6.frame k7 (by omega)
      simp [-getElem?_pos, -Array.getElem?_eq_getElem, -Int.natCast_add, add_spot, and_assoc, Br_dec, -op_box, -op_st_4, -op_st_22, -op_st_226, -op_st_243, -op_st_296, -op_st_242, -op_st_187, -op_st_2, -op_alloc_245, -op_alloc_242, -op_alloc_307, -op_lit_243_1, -op_lit_243_2, -op_lit_296_1, -op_lit_296_2, b7, hb7]
      refine op_copyX (n := Nd.cnt f) (x1 := 0) (x2 := 0) (by kernel_rfl) q7.drew hg7.drew (.inl rfl) (.inl rfl) (by omega) (by omega) (by omega) hvs fun w8 k8 z8 q8 => ?_
      have k8 := Frm.dr k8
      have b8 := k8.get b7 (by omega)
      have f8 := f7.frame k8 (by omega)
      have hq8 : lw zs (0 * 1) (List.take (Nd.cnt f * 1) (List.drop (0 * 1) (kids f vs))) = kids f vs := by
        simp only [Nat.zero_mul, Nat.mul_one, List.drop_zero]
        rw [List.take_of_length_le (by omega), lw_all (by omega)]
      rw [hq8] at q8
      simp [-getElem?_pos, -Array.getElem?_eq_getElem, -Int.natCast_add, add_spot, and_assoc, Br_dec, -op_box, -op_st_4, -op_st_22, -op_st_226, -op_st_243, -op_st_296, -op_st_242, -op_st_187, -op_st_2, -op_alloc_245, -op_alloc_242, -op_alloc_307, -op_lit_243_1, -op_lit_243_2, -op_lit_296_1, -op_lit_296_2, b8, hrl]
      refine op_storeR1 (by kernel_rfl) q8 (by rw [hkl]; exact hrl) r3.one fun w9 k9 z9 q9 => ?_
      rw [kids_set hi e ht'] at q9
      have b9 := k9.get b8 (by omega)
      have f9 := f8.frame k9 (by omega)
      have n6 := k6.size
      have kall := ((k5.fst (k6.fst (k7.tr (k8.tr k9)))))
      have hall : ∀ c, (c = w4.heap.size ∨ c = w5.heap.size ∨ c = w5.heap.size) → w4.heap.size ≤ c := fun c hc => by omega
      have hbm2 : O = bm (Nd.put f i t') := hbm
      refine hK _ w9 _ (hto kall fun c hc => .inr (by have := hall c hc; omega)) (Rep.mkB (f := Nd.put f i t') (b := w4.heap.size) (g := w5.heap.size) (cap := Nd.cnt f) (by omega) (by rw [← hbm2, cnt_same e ht']; simpa using b9) (by rw [cnt_same e ht']; omega) q9 (hkinP kall (fun c hc => .inr (.inr (hall c hc))) (fun c hc => .inr (.inr (by omega))))) (fun c hc => hFF (O := fun c => c = w4.heap.size ∨ c = w5.heap.size) (w4 := w) (fun c hc => .inr (by omega)) c (or_assoc.2 hc)) f9
    · have hwc : IntKind.i64.wrap ((Nd.cnt f : Int) + 1) = ((Nd.cnt f + 1 : Nat) : Int) := by rw [IntKind.wrap_i64]; omega
      have hw : IntKind.i64.wrap ((rk f i : Int) + 1) = ((rk f i + 1 : Nat) : Int) := by rw [IntKind.wrap_i64]; omega
      simp [-getElem?_pos, -Array.getElem?_eq_getElem, -Int.natCast_add, add_spot, and_assoc, Br_dec, -op_box, -op_st_4, -op_st_22, -op_st_226, -op_st_243, -op_st_296, -op_st_242, -op_st_187, -op_st_2, -op_alloc_245, -op_alloc_242, -op_alloc_307, -op_lit_243_1, -op_lit_243_2, -op_lit_296_1, -op_lit_296_2, hb5, hwc]
      refine op_make_ok (n := Nd.cnt f + 1) apN rfl (by omega) fun w6 zs k6 z6 hzs q6 => ?_
      have b6 := k6.get b5 (fun h => h)
      have hb6 := k6.get hb5 (fun h => h)
      have hg6 := hg5.frame k6 (fun h => h)
      have f6 := f5.frame k6 (fun h => h)
      refine op_store_ok (by kernel_rfl) b6 (by simp) rfl fun w7 k7 z7 b7 => ?_
      have hb7 := k7.get hb6 (by omega)
      have hg7 := hg6.frame k7 (by omega)
      have f7 := f6.frame k7 (by omega)
      have q7 := q6.frame k7 (by omega)
      simp [-getElem?_pos, -Array.getElem?_eq_getElem, -Int.natCast_add, add_spot, and_assoc, Br_dec, -op_box, -op_st_4, -op_st_22, -op_st_226, -op_st_243, -op_st_296, -op_st_242, -op_st_187, -op_st_2, -op_alloc_245, -op_alloc_242, -op_alloc_307, -op_lit_243_1, -op_lit_243_2, -op_lit_296_1, -op_lit_296_2, b7, hb7]
      refine ⟨by omega, ?_⟩
      refine op_copyX (n := rk f i) (x1 := 0) (x2 := 0) (by kernel_rfl) q7.drew hg7.drew (.inl rfl) (.inl rfl) (by omega) (by omega) (by omega) hvs fun w8 k8 z8 q8 => ?_
      have k8 := Frm.dr k8
      have b8 := k8.get b7 (by omega)
      have hb8 := k8.get hb7 (by omega)
      have hg8 := hg7.frame k8 (by omega)
      have f8 := f7.frame k8 (by omega)
      simp only [Nat.zero_mul, Nat.mul_one, List.drop_zero] at q8
      have hlt8 : rk f i < Nd.cnt f + 1 := by omega
      simp [-getElem?_pos, -Array.getElem?_eq_getElem, -Int.natCast_add, add_spot, and_assoc, Br_dec, -op_box, -op_st_4, -op_st_22, -op_st_226, -op_st_243, -op_st_296, -op_st_242, -op_st_187, -op_st_2, -op_alloc_245, -op_alloc_242, -op_alloc_307, -op_lit_243_1, -op_lit_243_2, -op_lit_296_1, -op_lit_296_2, b8, hlt8]
      refine op_storeR1 (by kernel_rfl) q8 (by rw [lw_len (by simp; omega)]; omega) r3.one fun w9 k9 z9 q9 => ?_
      have b9 := k9.get b8 (by omega)
      have hb9 := k9.get hb8 (by omega)
      have hg9 := hg8.frame k9 (by omega)
      have f9 := f8.frame k9 (by omega)
      simp [-getElem?_pos, -Array.getElem?_eq_getElem, -Int.natCast_add, add_spot, and_assoc, Br_dec, -op_box, -op_st_4, -op_st_22, -op_st_226, -op_st_243, -op_st_296, -op_st_242, -op_st_187, -op_st_2, -op_alloc_245, -op_alloc_242, -op_alloc_307, -op_lit_243_1, -op_lit_243_2, -op_lit_296_1, -op_lit_296_2, b9, hb9, hw]
      refine ⟨hrk, h6, ?_⟩
      refine op_copyX (n := Nd.cnt f - rk f i) (x1 := rk f i + 1) (x2 := rk f i) (by kernel_rfl) q9.drew hg9.drew (by split; exact .inr ⟨rfl, by omega⟩; exact .inl (by simp)) (by split; exact .inr ⟨rfl, by omega⟩; exact .inl (by simp)) (by omega)
        (by rw [List.length_set, lw_len (by simp; omega)]; omega) (by omega) hvs fun w10 k10 z10 q10 => ?_
      have k10 := Frm.dr k10
      have b10 := k10.get b9 (by omega)
      have f10 := f9.frame k10 (by omega)
      have hins := ins_new (A := kids f vs) (zs := zs) (r := rk f i) (v := nv) (by rw [hkl]; exact hrk) (by omega)
      rw [hkl] at hins
      simp only [Nat.mul_one] at q10
      rw [hins, kids_ins hi e ht'] at q10
      have hcn : Nd.cnt (Nd.put f i t') = Nd.cnt f + 1 := cnt_add hi e ht'
      have n6 := k6.size
      have kall := ((k5.fst (k6.fst (k7.tr (k8.tr (k9.tr k10))))))
      have hall : ∀ c, (c = w4.heap.size ∨ c = w5.heap.size ∨ c = w5.heap.size ∨ c = w5.heap.size) → w4.heap.size ≤ c := fun c hc => by omega
      refine hK _ w10 _ (hto kall fun c hc => .inr (by have := hall c hc; omega)) (Rep.mkB (f := Nd.put f i t') (b := w4.heap.size) (g := w5.heap.size) (cap := Nd.cnt f + 1) (by omega) (by rw [← hbm, hcn]; simpa using b10) (by rw [hcn]; omega) q10 (hkinP kall (fun c hc => .inr (.inr (hall c hc))) (fun c hc => .inr (.inr (by omega))))) (fun c hc => hFF (O := fun c => c = w4.heap.size ∨ c = w5.heap.size) (w4 := w) (fun c hc => .inr (by omega)) c (or_assoc.2 hc)) f10
end Go.Proofs.Ytbghmbbhkoniiaa.S
end
section
/- Setting a key in a branch of 32 places; setting at any node, and behind a root. -/
set_option maxRecDepth 100000
set_option maxHeartbeats 1000000
set_option linter.unusedSimpArgs false
set_option linter.unusedVariables false
set_option linter.unusedSectionVars false
namespace Go.Proofs.Ytbghmbbhkoniiaa.S
open Go.Vc Go.Proofs Go.Proofs.Ytbghmbbhkoniiaa Go.Vc.Nd
variable {w w' : World} {v hv : Value} {t : Tr} {F F' : Nat → Prop} {K : Value → World → Prop} {Kp : KP} {hash : Ky → Nat} {k : Ky} {x : Vl} {l s rb : Nat} {r0 mu : Bool}

theorem clone_ok {b : Nat} {cs : Array Value} (hb : w.heap[b]? = some (.cells cs 307 (0, 0))) (hz : cs.size = 33) (h1 : ∀ u ∈ cs, u.oneCell' = true)
    (hK : ∀ w', Frm (fun _ => False) w w' → w'.heap[w.heap.size]? = some (.cells cs 307 (0, 0)) → K (ptr w.heap.size) w') : Calls Try.prog 191 #[ptr b] w (ret K Kp) := by
  refine vc191_calls ?_
  have hx : cs.extract 0 33 = cs := extract_self hz
  simp [-getElem?_pos, -Array.getElem?_eq_getElem, -Int.natCast_add, add_spot, and_assoc, Br_dec, -op_box, -op_st_4, -op_st_22, -op_st_226, -op_st_243, -op_st_296, -op_st_242, -op_st_187, -op_st_2, -op_st_307, -op_alloc_245, -op_alloc_242, -op_alloc_307, -op_lit_243_1, -op_lit_243_2, -op_lit_296_1, -op_lit_296_2, vc191, ptr, hb, hz, hx]
  refine op_alloc_ok (z := .agg zero_307) (by kernel_rfl) fun w1 k1 z1 b1 => ?_
  simp only [cells_agg] at b1
  rw [op_stn (n := 33) (by kernel_rfl)]
  have how : ow zero_307 0 cs.toList = cs := by rw [ow_all (by simp [hz]; rfl)]
  refine ⟨hz, fun u hu => h1 u (by simpa using hu), _, _, b1, rfl, by show 0 + 33 ≤ zero_307.size; decide, ?_⟩
  refine hK _ (k1.old (Frm.upd (M := (· = w.heap.size)) _ _ fun _ => rfl) fun c hc => .inr (by omega)) ?_
  have := heap_upd_same (o := .cells (ow zero_307 0 cs.toList) 307 (0, 0)) b1
  rw [how] at this
  show (w1.upd w.heap.size (.cells (ow zero_307 0 cs.toList) 307 (0, 0))).heap[w.heap.size]? = _
  rw [how]; exact this
theorem cells_one_H {cs : Array Value} {n : Nat} {vs : Nat → Value} (hz : cs.size = 33) (h0 : cs[0]? = some (.int .u64 n)) (hv : ∀ i, i < 32 → cs[i + 1]? = some (vs i)) (hone : ∀ i, i < 32 → (vs i).oneCell' = true) : ∀ u ∈ cs, u.oneCell' = true := fun u hu => by
  obtain ⟨j, hj, rfl⟩ := Array.mem_iff_getElem.1 hu
  cases j with
  | zero =>
    rw [Array.getElem?_eq_getElem hj] at h0
    rw [Option.some.inj h0]; rfl
  | succ j =>
    have := hv j (by omega)
    rw [Array.getElem?_eq_getElem hj] at this
    rw [Option.some.inj this]; exact hone j (by omega)

theorem setH_ok {f : Nat → Tr} {p i : Nat} {t' : Tr} (hH : IsH hv hash) (hl : l ≤ 6) (hs : s = 5 * l) (hi0 : frag l (hash k) = i) (ht' : t' ≠ .emp) (nw : Bool) (he : f i = .emp → t' = .val (hash k) k x ∧ nw = true)
    (child : f i ≠ .emp → SetC hv hash k x mu rb (s + 5) (f i) t' nw) : SetC hv hash k x mu rb s (.br true f) (.br true (Nd.put f i t')) nw := by
  intro w v F K Kp r0 h hr hrb hK
  have hi := frag_lt l (hash k)
  have hfr := frag_eq (hH.lt k) hs hl
  rw [hi0] at hi hfr
  obtain ⟨b, cs, vs, Fs0, rfl, h2, hb, hcz, hc0, hcs, h8, h9⟩ := h
  obtain ⟨Fs, hrep, hdis, hFl⟩ : ∃ Fs : Nat → Nat → Prop, (∀ j, j < 32 → Rep w (f j) (vs j) (Fs j)) ∧ (∀ j, j < 32 → ∀ c, Fs j c → c ≠ b ∧ ∀ q, q < 32 → q ≠ j → ¬ Fs q c) ∧ ∀ j, j < 32 → ∀ c, Fs j c → F c ∧ c < w.heap.size :=
    ⟨fun j c => Fs0 j c ∧ c < w.heap.size, fun j hj => (h8 j hj).lt, fun j hj c hc => ⟨(h9 j hj c hc.1).2.1, fun q hq hne h => (h9 j hj c hc.1).2.2 q hq hne h.1⟩, fun j hj c hc => ⟨(h9 j hj c hc.1).1, hc.2⟩⟩
  clear h8 h9
  have hns := next_shift hs hl
  have hne : b ≠ rb := fun e => hrb (e ▸ h2)
  have l1 := lt_of_get hb
  have l2 := lt_of_get hr
  have hci := hcs i hi
  simp only [inv_308_194]
  refine vc194_calls ?_
  simp only [vc194]
  refine op_box_ok fun w k0 z0 b0 => ?_
  replace hb := k0.get hb (fun h => h)
  replace l1 := lt_of_get hb
  replace hr := hr.frame k0 (fun h => h)
  replace l2 := lt_of_get hr
  replace hK := hK.still k0
  replace hFl : ∀ j, j < 32 → ∀ c, Fs j c → F c ∧ c < w.heap.size := fun j hj c hc => ⟨(hFl j hj c hc).1, by have := (hFl j hj c hc).2; omega⟩
  replace hrep : ∀ j, j < 32 → Rep w (f j) (vs j) (Fs j) := fun j hj => (hrep j hj).still k0
  have hi' : (i : Int) < 32 := by omega
  simp [-getElem?_pos, -Array.getElem?_eq_getElem, -Int.natCast_add, add_spot, and_assoc, Br_dec, -op_box, -op_st_4, -op_st_22, -op_st_226, -op_st_243, -op_st_296, -op_st_242, -op_st_187, -op_st_2, -op_st_307, -op_alloc_245, -op_alloc_242, -op_alloc_307, -op_lit_243_1, -op_lit_243_2, -op_lit_296_1, -op_lit_296_2, vc194, ptr, hb, hfr, Nat.add_comm 1, hci, hi']
  have heq : ∀ {w : World} {K : Value → World → Prop} {Kp : KP}, (nice Try.prog).op (.bin .eql 226 false true (vs i) .nilIface) w K Kp = K (.bool (f i).isEmp) w := fun {w K Kp} => by
    by_cases e : f i = .emp
    · have := hrep i hi
      rw [e] at this
      rw [this.nil, e]
      simp [Nd.isEmp]
    · obtain ⟨u, c, hv⟩ := (hrep i hi).iface e
      have he' : (f i).isEmp = false := by cases h : (f i).isEmp; rfl; exact absurd (isEmp_iff.1 h) e
      rw [hv, he']; simp
  obtain ⟨J, hJ⟩ : ∃ J : Value → World → Prop, ∀ nv w3, J nv w3 ↔ ∃ F1, Frm (fun c => c = rb ∨ mu = true ∧ Fs i c) w w3 ∧ Rep w3 t' nv F1 ∧ (∀ c, F1 c → (Fs i c ∨ w.heap.size ≤ c) ∧ c < w3.heap.size) ∧ flag w3 rb (r0 || nw) := ⟨_, fun _ _ => Iff.rfl⟩
  refine Jn.intro J ⟨?_, ?_⟩
  · rw [heq]
    by_cases e : f i = .emp
    · obtain ⟨rfl, rfl⟩ := he e
      have he' : (f i).isEmp = true := by rw [e]; rfl
      simp [-getElem?_pos, -Array.getElem?_eq_getElem, -Int.natCast_add, add_spot, and_assoc, Br_dec, -op_box, -op_st_4, -op_st_22, -op_st_226, -op_st_243, -op_st_296, -op_st_242, -op_st_187, -op_st_2, -op_st_307, -op_alloc_245, -op_alloc_242, -op_alloc_307, -op_lit_243_1, -op_lit_243_2, -op_lit_296_1, -op_lit_296_2, he']
      refine raise_ok hr fun w1 k1 z1 f1 => ?_
      refine new_val_ok (x := x) fun bv w3 k3 lv lv2 r3 => (hJ _ _).2 ⟨_, ((k1.tr k3).to fun c hc => .inl (hc.elim id fun h => h.elim)), r3, fun c hc => ⟨.inr (by omega), by omega⟩, ?_⟩
      simpa using f1.frame k3 (fun h => h)
    · have he' : (f i).isEmp = false := by cases h : (f i).isEmp; rfl; exact absurd (isEmp_iff.1 h) e
      simp [-getElem?_pos, -Array.getElem?_eq_getElem, -Int.natCast_add, add_spot, and_assoc, Br_dec, -op_box, -op_st_4, -op_st_22, -op_st_226, -op_st_243, -op_st_296, -op_st_242, -op_st_187, -op_st_2, -op_st_307, -op_alloc_245, -op_alloc_242, -op_alloc_307, -op_lit_243_1, -op_lit_243_2, -op_lit_296_1, -op_lit_296_2, he', hns]
      refine child e (hrep i hi) (r0 := r0) hr (fun h => hrb (hFl i hi rb h).1) fun v' w3 F' k3 r3 h3' f3 => ?_
      exact (hJ _ _).2 ⟨fun c => F' c ∧ c < w3.heap.size, k3, r3.lt, fun c hc => ⟨h3' c hc.1, hc.2⟩, f3⟩
  intro w3 nv hJnv
  obtain ⟨F1, k3, r3, hF1, f3⟩ := (hJ _ _).1 hJnv
  clear hJnv hJ J
  have n3 := k3.size
  have hbF : ¬ Fs i b := fun h => (hdis i hi b h).1 rfl
  have hb3 := k3.get hb (fun h => h.elim hne fun h => hbF h.2)
  have hrep3 : ∀ j, j < 32 → j ≠ i → Rep w3 (f j) (vs j) (Fs j) := fun j hj hji => (hrep j hj).frame k3 fun c hc h => h.elim (fun e => hrb (e ▸ (hFl j hj c hc).1)) fun h => (hdis j hj c hc).2 i hi (fun e => hji e.symm) h.2
  have hcone := cells_one_H hcz hc0 hcs fun j hj => (hrep j hj).one
  obtain ⟨J, hJ⟩ : ∃ J : Value → World → Prop, ∀ ov w4, J ov w4 ↔ ∃ nb, ov = ptr nb ∧ Frm (fun _ => False) w3 w4 ∧ w4.heap[nb]? = some (.cells cs 307 (0, 0)) ∧ (nb = b ∧ mu = true ∨ nb = w3.heap.size) := ⟨_, fun _ _ => Iff.rfl⟩
  refine Jn.intro J ⟨fun hm => ?_, fun hm => (hJ _ _).2 ⟨b, rfl, Frm.refl, hb3, .inl ⟨rfl, hm⟩⟩, ?_⟩
  · exact clone_ok hb3 hcz hcone fun w4 k4 b4 => (hJ _ _).2 ⟨_, rfl, k4, b4, .inr rfl⟩
  intro w4 ov hov
  obtain ⟨nb, rfl, k4, b4, hnb⟩ := (hJ _ _).1 hov
  clear hov hJ J
  rw [heq]
  have f4 := f3.frame k4 (fun h => h)
  have hnr : nb ≠ rb := by
    rcases hnb with h | h
    · rw [h.1]; exact hne
    · have := lt_of_get f3; omega
  have fin : ∀ {w5 : World} {cs' : Array Value}, Frm (· = nb) w4 w5 → w5.heap[nb]? = some (.cells cs' 307 (0, 0)) → cs'.size = 33 → cs'[0]? = some (.int .u64 (Nd.cnt (Nd.put f i t'))) → (∀ q, q < 32 → cs'[q + 1]? = some (putV vs i nv q)) → K (.iface 308 (ptr nb)) w5 := fun {w5 cs'} k5 b5 hz5 h05 hv5 => by
    have kall := k4.fst k5
    have hnF : ∀ j, j < 32 → ∀ c, Fs j c → c ≠ nb := fun j hj c hc => by
      rcases hnb with h | h
      · rw [h.1]; exact (hdis j hj c hc).1
      · have := (hFl j hj c hc).2; omega
    have hnF1 : ∀ c, F1 c → c ≠ nb := fun c hc => by
      rcases hnb with h | h
      · rw [h.1]
        rcases (hF1 c hc).1 with h' | h'
        · exact (hdis i hi c h').1
        · omega
      · have := (hF1 c hc).2; omega
    have hF1d : ∀ c, F1 c → ∀ j, j < 32 → j ≠ i → ¬ Fs j c := fun c hc j hj hji hjc => by
      rcases (hF1 c hc).1 with h | h
      · exact (hdis i hi c h).2 j hj hji hjc
      · have := (hFl j hj c hjc).2; omega
    have hkin : Kin w5 (Nd.put f i t') (putV vs i nv) (fun j => if j = i then F1 else Fs j) (fun c => c = nb) := by
      refine ⟨fun j hj => ?_, fun j hj c hc => ?_⟩
      · by_cases e : j = i
        · subst e; rw [Nd.put_same]; simpa [putV] using r3.frame kall fun c hc h => hnF1 c hc h
        · rw [Nd.put_ne e]; simp only [putV, if_neg e]; exact (hrep3 j hj e).frame kall fun c hc h => hnF j hj c hc h
      · by_cases e : j = i
        · simp only [if_pos e] at hc
          refine ⟨hnF1 c hc, fun q hq hne hqc => ?_⟩
          simp only [if_neg (show ¬ q = i by omega)] at hqc
          exact hF1d c hc q hq (by omega) hqc
        · simp only [if_neg e] at hc
          refine ⟨hnF j hj c hc, fun q hq hne hqc => ?_⟩
          by_cases e' : q = i
          · simp only [if_pos e'] at hqc; exact hF1d c hqc j hj e hc
          · simp only [if_neg e'] at hqc; exact (hdis j hj c hc).2 q hq hne hqc
    refine hK _ w5 _ ((k3.to (M' := fun c => c = rb ∨ mu = true ∧ F c) fun c hc => hc.imp id fun h => ⟨h.1, (hFl i hi c h.2).1⟩).old kall fun c hc => ?_) (Rep.mkH (f := Nd.put f i t') b5 hz5 h05 hv5 hkin) (fun c hc => ?_) (f4.frame k5 (fun e => hnr e.symm))
    · rcases hnb with h | h
      · exact .inl (.inr ⟨h.2, by rw [hc, h.1]; exact h2⟩)
      · exact .inr (by omega)
    · rcases hc with rfl | ⟨j, hj, hc⟩
      · rcases hnb with h | h
        · exact .inl (by rw [h.1]; exact h2)
        · exact .inr (by omega)
      · by_cases e : j = i
        · simp only [if_pos e] at hc
          exact (hF1 c hc).1.imp (fun h => (hFl i hi c h).1) id
        · simp only [if_neg e] at hc
          exact .inl (hFl j hj c hc).1
  by_cases e : f i = .emp
  · have he' : (f i).isEmp = true := by rw [e]; rfl
    have hcn : Nd.cnt (Nd.put f i t') = Nd.cnt f + 1 := cnt_add hi e ht'
    have hcl := cnt_le (f := f)
    have hrn : IntKind.u64.wrap ((Nd.cnt f : Int) + 1) = ((Nd.cnt f + 1 : Nat) : Int) := by rw [IntKind.wrap_u64]; omega
    simp [-getElem?_pos, -Array.getElem?_eq_getElem, -Int.natCast_add, add_spot, and_assoc, Br_dec, -op_box, -op_st_4, -op_st_22, -op_st_226, -op_st_243, -op_st_296, -op_st_242, -op_st_187, -op_st_2, -op_st_307, -op_alloc_245, -op_alloc_242, -op_alloc_307, -op_lit_243_1, -op_lit_243_2, -op_lit_296_1, -op_lit_296_2, he', ptr, b4, hc0, hrn]
    refine op_store_ok (by kernel_rfl) b4 (by omega) rfl fun w5 k5 z5 b5 => ?_
    simp [-getElem?_pos, -Array.getElem?_eq_getElem, -Int.natCast_add, add_spot, and_assoc, Br_dec, -op_box, -op_st_4, -op_st_22, -op_st_226, -op_st_243, -op_st_296, -op_st_242, -op_st_187, -op_st_2, -op_st_307, -op_alloc_245, -op_alloc_242, -op_alloc_307, -op_lit_243_1, -op_lit_243_2, -op_lit_296_1, -op_lit_296_2, hi']
    refine op_store_ok (by kernel_rfl) b5 (by simp; omega) r3.one fun w6 k6 z6 b6 => ?_
    refine fin ((k5.tr k6).to fun c hc => hc.elim id id) b6 (by simp [hcz]) ?_ fun q hq => ?_
    · rw [Array.getElem?_setIfInBounds, if_neg (by omega), Array.getElem?_setIfInBounds, if_pos rfl, if_pos (by omega), hcn]
    · rw [Array.getElem?_setIfInBounds]
      by_cases eq : q = i
      · subst eq; rw [if_pos (by omega), if_pos (by simp; omega)]; simp [putV]
      · rw [if_neg (by omega), Array.getElem?_setIfInBounds, if_neg (by omega), hcs q hq]; simp [putV, eq]
  · have he' : (f i).isEmp = false := by cases h : (f i).isEmp; rfl; exact absurd (isEmp_iff.1 h) e
    simp [-getElem?_pos, -Array.getElem?_eq_getElem, -Int.natCast_add, add_spot, and_assoc, Br_dec, -op_box, -op_st_4, -op_st_22, -op_st_226, -op_st_243, -op_st_296, -op_st_242, -op_st_187, -op_st_2, -op_st_307, -op_alloc_245, -op_alloc_242, -op_alloc_307, -op_lit_243_1, -op_lit_243_2, -op_lit_296_1, -op_lit_296_2, he', ptr, hi']
    refine op_store_ok (by kernel_rfl) b4 (by omega) r3.one fun w5 k5 z5 b5 => ?_
    refine fin k5 b5 (by simp [hcz]) ?_ fun q hq => ?_
    · rw [Array.getElem?_setIfInBounds, if_neg (by omega), hc0, cnt_same e ht']
    · rw [Array.getElem?_setIfInBounds]
      by_cases eq : q = i
      · subst eq; rw [if_pos (by omega), if_pos (by omega)]; simp [putV]
      · rw [if_neg (by omega), hcs q hq]; simp [putV, eq]

theorem set_ok : ∀ {t : Tr} {l p s : Nat}, IsH hv hash → WF hash t l p → p < 32 ^ l → hash k % 32 ^ l = p → l ≤ 7 → s = 5 * l → t ≠ .emp → (toL t).length ≤ 1000000 →
    SetC hv hash k x mu rb s t (setIn (hash k) k x t l) (getIn (hash k) k t l).isNone
  | .emp, l, p, s, hH, hW, hlt, hp, hl, hs, hne, hL => absurd rfl hne
  | .arr es, l, p, s, hH, hW, hlt, hp, hl, hs, hne, hL => hW.elim
  | .val h' k' x', l, p, s, hH, hW, hlt, hp, hl, hs, hne, hL => by
    intro h hr hrb hK
    refine setV_ok hH hW hp hl hs h hr hrb ?_
    have e : (getIn (hash k) k (Nd.val h' k' x') l).isNone = !decide (k' = k) := by
      rw [getIn]; by_cases hk : k' = k <;> simp [hk]
    rw [e] at hK; exact hK
  | .col h' es, l, p, s, hH, hW, hlt, hp, hl, hs, hne, hL => by
    intro h hr hrb hK
    refine setC_ok hH hW hp hl hs hL h hr hrb ?_
    have e : (getIn (hash k) k (Nd.col h' es) l).isNone = (!decide (h' = hash k) || (find es k).isNone) := by
      rw [getIn, look_find]
      cases hx : find es k with
      | none => simp
      | some i =>
        obtain ⟨hi, hik, _⟩ := find_some hx
        have : h' = hash k := by rw [← hW.2.2.1 es[i] (List.getElem_mem hi), hik]
        simp [this, hi]
    rw [e] at hK; exact hK
  | .br hs' f, l, p, s, hH, hW, hlt, hp, hl, hs, hne, hL => by
    obtain ⟨hl6, hWs, hup, _⟩ := hW
    have hi := frag_lt l (hash k)
    have hnext := next_lt (i := frag l (hash k)) hlt hi
    have hpre : hash k % 32 ^ (l + 1) = p + frag l (hash k) * 32 ^ l := by rw [mod_next, hp]
    have hne' := setIn_ne (x := x) hH (hWs _ hi) hpre hnext (by omega)
    have child : f (frag l (hash k)) ≠ .emp → SetC hv hash k x mu rb (s + 5) (f (frag l (hash k))) (setIn (hash k) k x (f (frag l (hash k))) (l + 1)) (getIn (hash k) k (f (frag l (hash k))) (l + 1)).isNone :=
      fun e => set_ok hH (hWs _ hi) hnext hpre (by omega) (by omega) e (Nat.le_trans (len_child (hs := hs') hi) hL)
    have he : f (frag l (hash k)) = .emp → setIn (hash k) k x (f (frag l (hash k))) (l + 1) = .val (hash k) k x ∧ (getIn (hash k) k (f (frag l (hash k))) (l + 1)).isNone = true := fun e => by
      rw [e]; exact ⟨rfl, rfl⟩
    rw [setIn, getIn]
    cases hs' with
    | false => rw [Bool.false_or]; exact setB_ok (p := p) hH hl6 hs rfl hne' _ he child
    | true => rw [Bool.true_or]; exact setH_ok (p := p) hH hl6 hs rfl hne' _ he child
end Go.Proofs.Ytbghmbbhkoniiaa.S
end
