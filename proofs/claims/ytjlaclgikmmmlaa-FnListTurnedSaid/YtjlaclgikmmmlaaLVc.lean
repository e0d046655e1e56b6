import Derived.Test.YtjlaclgikmmmlaaLOps
set_option linter.unusedVariables false
set_option maxRecDepth 100000
namespace Go.Proofs.Ytjlaclgikmmmlaa
open Go.Vc Go.Proofs
theorem follows_mixed : Try.prog.follows .mixedOrders = true := by kernel_rfl

/-- gosem.cut.init -/
def vc2 (S : Sig) (w : World) (K : Value → World → Prop) (Kp : KP) : Prop :=
  S.call (.fn 1) [] w (fun v0 w =>
  K (Value.tuple #[]) w) Kp
theorem vc2_eq (S : Sig) (w : World) (K : Value → World → Prop) (Kp : KP) : vc2 S  w K Kp = fVC S [] [] Try.f2 [] w K Kp := by kernel_rfl
theorem vc2_calls {w : World} {K : Value → World → Prop} {Kp : KP} (h : vc2 (nice Try.prog)  w K Kp) : Calls Try.prog 2 #[] w (ret K Kp) :=
  fVC_sound (args := []) nice_le follows_mixed Try.func2 (by kernel_rfl) (Eq.mp (vc2_eq _  _ _ _) h)

/-- pub-bracken/laws.FnListParts -/
def vc3 (S : Sig) (a0 a1 : Value) (w : World) (K : Value → World → Prop) (Kp : KP) : Prop :=
  S.op (.blt Builtin.len [22] 3 [a0]) w (fun v15 w =>
  S.op (.bin BinOp.gtr 3 false true v15 (Value.int IntKind.i64 2147483647)) w (fun v16 w =>
  Br v16 (
    K (Value.bool true) w) (
    S.op (.blt Builtin.len [22] 3 [a0]) w (fun v18 w =>
    S.op (.bin BinOp.gtr 3 false true v18 (Value.int IntKind.i64 300)) w (fun v19 w =>
    Br v19 (
      S.call (.fn 9) [] w (fun v20 w =>
      K v20 w) Kp) (
      S.op (.conv 23 3 a1) w (fun v22 w =>
      S.op (.blt Builtin.len [22] 3 [a0]) w (fun v24 w =>
      S.op (.bin BinOp.add 3 false true v24 (Value.int IntKind.i64 1)) w (fun v25 w =>
      S.op (.bin BinOp.rem 3 false false v22 v25) w (fun v26 w =>
      S.op (.build 26 [(0, (Value.int IntKind.u8 3)), (3, v26)]) w (fun v28 w =>
      S.op (.buildSlice 27 1 [(0, v28)]) w (fun v29 w =>
      Lp fun (I8 : Value → Value → World → Prop) (μ8 : Value → Value → World → Nat) => I8 v29 v26 w ∧
      ∀ (wl8 : World) (junk : Nat → Value) (s6_behind : Value) (s7_i : Value), I8 s6_behind s7_i wl8 →
        S.op (.blt Builtin.len [22] 3 [a0]) wl8 (fun v33 w =>
        S.op (.bin BinOp.lss 3 false false s7_i v33) w (fun v34 w =>
        Br v34 (
          S.op (.blt Builtin.len [27] 3 [s6_behind]) w (fun v39 w =>
          S.op (.indexAddr 22 a0 s7_i) w (fun v42 w =>
          S.op (.load 2 v42) w (fun v43 w =>
          S.op (.build 26 [(0, (Value.int IntKind.u8 0)), (1, v39), (4, v43)]) w (fun v44 w =>
          S.op (.buildSlice 27 1 [(0, v44)]) w (fun v45 w =>
          S.op (.blt Builtin.append [27, 27] 27 [s6_behind, v45]) w (fun v46 w =>
          S.op (.bin BinOp.add 3 false true s7_i (Value.int IntKind.i64 1)) w (fun v36 w =>
          I8 v46 v36 w ∧ μ8 v46 v36 w < μ8 s6_behind s7_i wl8) Kp) Kp) Kp) Kp) Kp) Kp) Kp) (
          S.op (.blt Builtin.len [22] 3 [a0]) w (fun v49 w =>
          S.op (.build 26 [(0, (Value.int IntKind.u8 3)), (2, v26), (3, v49)]) w (fun v50 w =>
          S.op (.buildSlice 27 1 [(0, v50)]) w (fun v51 w =>
          S.op (.bin BinOp.sub 3 false true v26 (Value.int IntKind.i64 1)) w (fun v53 w =>
          Lp fun (I13 : Value → Value → World → Prop) (μ13 : Value → Value → World → Nat) => I13 v51 v53 w ∧
          ∀ (wl13 : World) (junk : Nat → Value) (s8_ahead : Value) (s9_i : Value), I13 s8_ahead s9_i wl13 →
            S.op (.bin BinOp.geq 3 false true s9_i (Value.int IntKind.i64 0)) wl13 (fun v55 w =>
            Br v55 (
              S.op (.blt Builtin.len [27] 3 [s8_ahead]) w (fun v60 w =>
              S.op (.indexAddr 22 a0 s9_i) w (fun v63 w =>
              S.op (.load 2 v63) w (fun v64 w =>
              S.op (.build 26 [(0, (Value.int IntKind.u8 1)), (1, v60), (4, v64)]) w (fun v65 w =>
              S.op (.buildSlice 27 1 [(0, v65)]) w (fun v66 w =>
              S.op (.blt Builtin.append [27, 27] 27 [s8_ahead, v66]) w (fun v67 w =>
              S.op (.bin BinOp.sub 3 false true s9_i (Value.int IntKind.i64 1)) w (fun v57 w =>
              I13 v67 v57 w ∧ μ13 v67 v57 w < μ13 s8_ahead s9_i wl13) Kp) Kp) Kp) Kp) Kp) Kp) Kp) (
              S.call (.fn 10) [a0, s6_behind] w (fun v71 w =>
              S.op (.extract v71 0) w (fun v72 w =>
              S.op (.extract v71 1) w (fun v73 w =>
              S.call (.fn 10) [a0, s8_ahead] w (fun v77 w =>
              S.op (.extract v77 0) w (fun v78 w =>
              S.op (.extract v77 1) w (fun v79 w =>
              Br v73 (
                Br v79 (
                  S.call (.fn 11) [v72, a0] w (fun v87 w =>
                  Br v87 (
                    S.call (.fn 11) [v78, a0] w (fun v92 w =>
                    Br v92 (
                      S.call (.fn 9) [] w (fun v95 w =>
                      K v95 w) Kp) (
                      K (Value.bool false) w)) Kp) (
                    K (Value.bool false) w)) Kp) (
                  K (Value.bool false) w)) (
                K (Value.bool false) w)) Kp) Kp) Kp) Kp) Kp) Kp)) Kp) Kp) Kp) Kp) Kp)) Kp) Kp) Kp) Kp) Kp) Kp) Kp) Kp)) Kp) Kp)) Kp) Kp
theorem vc3_eq (S : Sig) (a0 a1 : Value) (w : World) (K : Value → World → Prop) (Kp : KP) : vc3 S a0 a1 w K Kp = fVC S [(8, [6, 7]), (13, [8, 9])] [] Try.f3 [a0, a1] w K Kp := by kernel_rfl
theorem vc3_calls {a0 a1 : Value} {w : World} {K : Value → World → Prop} {Kp : KP} (h : vc3 (nice Try.prog) a0 a1 w K Kp) : Calls Try.prog 3 #[a0, a1] w (ret K Kp) :=
  fVC_sound (args := [a0, a1]) nice_le follows_mixed Try.func3 (by kernel_rfl) (Eq.mp (vc3_eq _ _ _ _ _ _) h)

/-- pub-bracken/laws.FnListSlices -/
def vc4 (S : Sig) (a0 a1 a2 a3 a4 : Value) (w : World) (K : Value → World → Prop) (Kp : KP) : Prop :=
  S.op (.blt Builtin.len [22] 3 [a0]) w (fun v23 w =>
  S.op (.bin BinOp.gtr 3 false true v23 (Value.int IntKind.i64 2147483647)) w (fun v24 w =>
  Br v24 (
    K (Value.bool true) w) (
    S.op (.blt Builtin.len [22] 3 [a0]) w (fun v26 w =>
    S.op (.bin BinOp.gtr 3 false true v26 (Value.int IntKind.i64 6000)) w (fun v27 w =>
    Br v27 (
      S.call (.fn 9) [] w (fun v28 w =>
      K v28 w) Kp) (
      S.op (.blt Builtin.len [22] 3 [a0]) w (fun v30 w =>
      S.op (.conv 23 3 a1) w (fun v32 w =>
      S.op (.bin BinOp.add 3 false true v30 (Value.int IntKind.i64 1)) w (fun v34 w =>
      S.op (.bin BinOp.rem 3 false false v32 v34) w (fun v35 w =>
      S.op (.conv 23 3 a2) w (fun v38 w =>
      S.op (.bin BinOp.sub 3 false false v30 v35) w (fun v41 w =>
      S.op (.bin BinOp.add 3 false true v41 (Value.int IntKind.i64 1)) w (fun v42 w =>
      S.op (.bin BinOp.rem 3 false false v38 v42) w (fun v43 w =>
      S.op (.bin BinOp.add 3 false false v35 v43) w (fun v44 w =>
      S.op (.conv 23 3 a3) w (fun v46 w =>
      S.op (.bin BinOp.sub 3 false false v44 v35) w (fun v49 w =>
      S.op (.bin BinOp.add 3 false true v49 (Value.int IntKind.i64 1)) w (fun v50 w =>
      S.op (.bin BinOp.rem 3 false false v46 v50) w (fun v51 w =>
      S.op (.conv 23 3 a4) w (fun v54 w =>
      S.op (.bin BinOp.sub 3 false false v44 v35) w (fun v57 w =>
      S.op (.bin BinOp.sub 3 false false v57 v51) w (fun v59 w =>
      S.op (.bin BinOp.add 3 false true v59 (Value.int IntKind.i64 1)) w (fun v60 w =>
      S.op (.bin BinOp.rem 3 false false v54 v60) w (fun v61 w =>
      S.op (.bin BinOp.add 3 false false v51 v61) w (fun v62 w =>
      S.op (.build 26 [(0, (Value.int IntKind.u8 3)), (2, v35), (3, v44)]) w (fun v67 w =>
      S.op (.build 26 [(0, (Value.int IntKind.u8 3)), (1, (Value.int IntKind.i64 1)), (2, v51), (3, v62)]) w (fun v70 w =>
      S.op (.buildSlice 27 2 [(0, v67), (1, v70)]) w (fun v71 w =>
      S.call (.fn 10) [a0, v71] w (fun v72 w =>
      S.op (.extract v72 0) w (fun v73 w =>
      S.op (.extract v72 1) w (fun v74 w =>
      S.op (.bin BinOp.add 3 false false v35 v51) w (fun v79 w =>
      S.op (.bin BinOp.add 3 false false v35 v62) w (fun v82 w =>
      S.op (.build 26 [(0, (Value.int IntKind.u8 3)), (2, v79), (3, v82)]) w (fun v83 w =>
      S.op (.buildSlice 27 1 [(0, v83)]) w (fun v84 w =>
      S.call (.fn 10) [a0, v84] w (fun v85 w =>
      S.op (.extract v85 0) w (fun v86 w =>
      S.op (.extract v85 1) w (fun v87 w =>
      S.op (.build 26 [(0, (Value.int IntKind.u8 3)), (3, v30)]) w (fun v91 w =>
      S.op (.buildSlice 27 1 [(0, v91)]) w (fun v92 w =>
      S.call (.fn 10) [a0, v92] w (fun v93 w =>
      S.op (.extract v93 0) w (fun v94 w =>
      S.op (.extract v93 1) w (fun v95 w =>
      Br v74 (
        Br v87 (
          Br v95 (
            S.call (.fn 11) [v73, v86] w (fun v106 w =>
            Br v106 (
              S.call (.fn 11) [v94, a0] w (fun v111 w =>
              Br v111 (
                S.call (.fn 9) [] w (fun v114 w =>
                K v114 w) Kp) (
                K (Value.bool false) w)) Kp) (
              K (Value.bool false) w)) Kp) (
            K (Value.bool false) w)) (
          K (Value.bool false) w)) (
        K (Value.bool false) w)) Kp) Kp) Kp) Kp) Kp) Kp) Kp) Kp) Kp) Kp) Kp) Kp) Kp) Kp) Kp) Kp) Kp) Kp) Kp) Kp) Kp) Kp) Kp) Kp) Kp) Kp) Kp) Kp) Kp) Kp) Kp) Kp) Kp) Kp) Kp) Kp) Kp)) Kp) Kp)) Kp) Kp
theorem vc4_eq (S : Sig) (a0 a1 a2 a3 a4 : Value) (w : World) (K : Value → World → Prop) (Kp : KP) : vc4 S a0 a1 a2 a3 a4 w K Kp = fVC S [] [] Try.f4 [a0, a1, a2, a3, a4] w K Kp := by kernel_rfl
theorem vc4_calls {a0 a1 a2 a3 a4 : Value} {w : World} {K : Value → World → Prop} {Kp : KP} (h : vc4 (nice Try.prog) a0 a1 a2 a3 a4 w K Kp) : Calls Try.prog 4 #[a0, a1, a2, a3, a4] w (ret K Kp) :=
  fVC_sound (args := [a0, a1, a2, a3, a4]) nice_le follows_mixed Try.func4 (by kernel_rfl) (Eq.mp (vc4_eq _ _ _ _ _ _ _ _ _) h)

/-- pub-bracken/laws.FnListRun -/
def vc5 (S : Sig) (a0 a1 : Value) (w : World) (K : Value → World → Prop) (Kp : KP) : Prop :=
  S.op (.blt Builtin.len [22] 3 [a0]) w (fun v12 w =>
  S.op (.bin BinOp.gtr 3 false true v12 (Value.int IntKind.i64 2147483647)) w (fun v13 w =>
  Br v13 (
    K (Value.bool true) w) (
    S.op (.blt Builtin.len [33] 3 [a1]) w (fun v16 w =>
    S.op (.bin BinOp.gtr 3 false true v16 (Value.int IntKind.i64 2147483647)) w (fun v17 w =>
    Br v17 (
      K (Value.bool true) w) (
      S.call (.fn 12) [a0, a1] w (fun v21 w =>
      S.op (.un UnOp.not v21) w (fun v22 w =>
      Br v22 (
        S.call (.fn 9) [] w (fun v23 w =>
        K v23 w) Kp) (
        S.call (.fn 13) [a0, a1] w (fun v27 w =>
        S.op (.extract v27 0) w (fun v28 w =>
        S.op (.extract v27 1) w (fun v29 w =>
        S.call (.fn 15) [a1] w (fun v33 w =>
        S.call (.fn 14) [a0, v33] w (fun v34 w =>
        S.op (.extract v34 0) w (fun v35 w =>
        S.op (.extract v34 1) w (fun v36 w =>
        S.op (.blt Builtin.len [35] 3 [v35]) w (fun v38 w =>
        S.op (.blt Builtin.len [35] 3 [v28]) w (fun v40 w =>
        S.op (.bin BinOp.neq 3 false false v38 v40) w (fun v41 w =>
        Br v41 (
          K (Value.bool false) w) (
          S.call (.fn 16) [v36, v29] w (fun v45 w =>
          S.op (.un UnOp.not v45) w (fun v46 w =>
          Br v46 (
            K (Value.bool false) w) (
            S.op (.blt Builtin.len [35] 3 [v35]) w (fun v49 w =>
            Lp fun (I10 : Value → World → Prop) (μ10 : Value → World → Nat) => I10 (Value.int IntKind.i64 0) w ∧
            ∀ (wl10 : World) (junk : Nat → Value) (s50_ : Value), I10 s50_ wl10 →
              S.op (.bin BinOp.lss 3 false false s50_ v49) wl10 (fun v51 w =>
              Br v51 (
                S.op (.indexAddr 35 v35 s50_) w (fun v53 w =>
                S.op (.load 22 v53) w (fun v54 w =>
                S.op (.indexAddr 35 v28 s50_) w (fun v58 w =>
                S.op (.load 22 v58) w (fun v59 w =>
                S.call (.fn 11) [v54, v59] w (fun v60 w =>
                S.op (.un UnOp.not v60) w (fun v61 w =>
                Br v61 (
                  K (Value.bool false) w) (
                  S.op (.bin BinOp.add 3 false true s50_ (Value.int IntKind.i64 1)) w (fun v62 w =>
                  I10 v62 w ∧ μ10 v62 w < μ10 s50_ wl10) Kp)) Kp) Kp) Kp) Kp) Kp) Kp) (
                S.call (.fn 9) [] w (fun v63 w =>
                K v63 w) Kp)) Kp) Kp)) Kp) Kp)) Kp) Kp) Kp) Kp) Kp) Kp) Kp) Kp) Kp) Kp)) Kp) Kp)) Kp) Kp)) Kp) Kp
theorem vc5_eq (S : Sig) (a0 a1 : Value) (w : World) (K : Value → World → Prop) (Kp : KP) : vc5 S a0 a1 w K Kp = fVC S [(10, [50])] [] Try.f5 [a0, a1] w K Kp := by kernel_rfl
theorem vc5_calls {a0 a1 : Value} {w : World} {K : Value → World → Prop} {Kp : KP} (h : vc5 (nice Try.prog) a0 a1 w K Kp) : Calls Try.prog 5 #[a0, a1] w (ret K Kp) :=
  fVC_sound (args := [a0, a1]) nice_le follows_mixed Try.func5 (by kernel_rfl) (Eq.mp (vc5_eq _ _ _ _ _ _) h)

/-- pub-bracken/laws.FnListTurned -/
def vc6 (S : Sig) (a0 a1 : Value) (w : World) (K : Value → World → Prop) (Kp : KP) : Prop :=
  S.op (.blt Builtin.len [22] 3 [a0]) w (fun v15 w =>
  S.op (.bin BinOp.gtr 3 false true v15 (Value.int IntKind.i64 2147483647)) w (fun v16 w =>
  Br v16 (
    K (Value.bool true) w) (
    S.op (.blt Builtin.len [33] 3 [a1]) w (fun v19 w =>
    S.op (.bin BinOp.gtr 3 false true v19 (Value.int IntKind.i64 2147483647)) w (fun v20 w =>
    Br v20 (
      K (Value.bool true) w) (
      S.call (.fn 12) [a0, a1] w (fun v24 w =>
      S.op (.un UnOp.not v24) w (fun v25 w =>
      Br v25 (
        S.call (.fn 9) [] w (fun v26 w =>
        K v26 w) Kp) (
        S.call (.fn 15) [a1] w (fun v30 w =>
        S.call (.fn 14) [a0, v30] w (fun v31 w =>
        S.op (.extract v31 0) w (fun v32 w =>
        S.op (.extract v31 1) w (fun v33 w =>
        S.op (.blt Builtin.len [35] 3 [v32]) w (fun v35 w =>
        S.op (.blt Builtin.len [33] 3 [a1]) w (fun v37 w =>
        S.op (.bin BinOp.add 3 false true v37 (Value.int IntKind.i64 1)) w (fun v38 w =>
        S.op (.bin BinOp.neq 3 false false v35 v38) w (fun v39 w =>
        Br v39 (
          K (Value.bool false) w) (
          S.op (.blt Builtin.len [33] 3 [a1]) w (fun v42 w =>
          S.op (.indexAddr 35 v32 v42) w (fun v43 w =>
          S.op (.load 22 v43) w (fun v44 w =>
          S.op (.build 43 [(0, (Value.int IntKind.u8 3))]) w (fun v45 w =>
          S.op (.buildSlice 44 1 [(0, v45)]) w (fun v46 w =>
          S.op (.blt Builtin.len [22] 3 [v44]) w (fun v48 w =>
          Lp fun (I11 : Value → Value → World → Prop) (μ11 : Value → Value → World → Nat) => I11 v46 (Value.int IntKind.i64 0) w ∧
          ∀ (wl11 : World) (junk : Nat → Value) (s8_moves : Value) (s49_ : Value), I11 s8_moves s49_ wl11 →
            S.op (.bin BinOp.lss 3 false false s49_ v48) wl11 (fun v50 w =>
            Br v50 (
              S.op (.build 43 [(0, (Value.int IntKind.u8 1))]) w (fun v52 w =>
              S.op (.buildSlice 44 1 [(0, v52)]) w (fun v53 w =>
              S.op (.blt Builtin.append [44, 44] 44 [s8_moves, v53]) w (fun v54 w =>
              S.op (.bin BinOp.add 3 false true s49_ (Value.int IntKind.i64 1)) w (fun v55 w =>
              I11 v54 v55 w ∧ μ11 v54 v55 w < μ11 s8_moves s49_ wl11) Kp) Kp) Kp) Kp) (
              S.call (.fn 15) [a1] w (fun v59 w =>
              S.op (.blt Builtin.len [33] 3 [a1]) w (fun v61 w =>
              S.call (.fn 17) [a0, v59, v61, s8_moves] w (fun v63 w =>
              S.op (.extract v63 0) w (fun v64 w =>
              S.op (.extract v63 1) w (fun v65 w =>
              S.op (.blt Builtin.len [45] 3 [v65]) w (fun v67 w =>
              S.op (.blt Builtin.len [44] 3 [s8_moves]) w (fun v69 w =>
              S.op (.bin BinOp.neq 3 false false v67 v69) w (fun v70 w =>
              Br v70 (
                K (Value.bool false) w) (
                S.op (.slice 45 v65 (some (Value.int IntKind.i64 1)) none none) w (fun v72 w =>
                S.op (.blt Builtin.len [45] 3 [v72]) w (fun v73 w =>
                Lp fun (I18 : Value → World → Prop) (μ18 : Value → World → Nat) => I18 (Value.int IntKind.i64 0) w ∧
                ∀ (wl18 : World) (junk : Nat → Value) (s74_ : Value), I18 s74_ wl18 →
                  S.op (.bin BinOp.lss 3 false false s74_ v73) wl18 (fun v75 w =>
                  Br v75 (
                    S.op (.indexAddr 45 v72 s74_) w (fun v77 w =>
                    S.op (.load 49 v77) w (fun v78 w =>
                    S.op (.alloc 49) w (fun v12_x w =>
                    S.op (.store 49 v12_x v78) w (fun _ w =>
                    S.op (.blt Builtin.len [22] 3 [v44]) w (fun v80 w =>
                    S.op (.bin BinOp.sub 3 false true v80 (Value.int IntKind.i64 1)) w (fun v81 w =>
                    S.op (.bin BinOp.sub 3 false false v81 s74_) w (fun v83 w =>
                    S.pur (.fieldAddr 49 v12_x 0) (fun v84 =>
                    S.ld (.load 3 v84) w.drew (fun v85 =>
                    S.pur (.bin BinOp.neq 3 false false v85 v83) (fun v87 =>
                    Br v87 (
                      K (Value.bool false) w.drew) (
                      S.pur (.fieldAddr 49 v12_x 1) (fun v89 =>
                      S.ld (.load 2 v89) w.drew (fun v90 =>
                      S.pur (.indexAddr 22 v44 v83) (fun v93 =>
                      S.ld (.load 2 v93) w.drew (fun v94 =>
                      S.pur (.bin BinOp.neq 2 false false v90 v94) (fun v95 =>
                      Br v95 (
                        K (Value.bool false) w.drew) (
                        S.pur (.fieldAddr 49 v12_x 3) (fun v98 =>
                        S.ld (.load 4 v98) w.drew (fun v99 =>
                        S.pur (.bin BinOp.eql 3 false true v83 (Value.int IntKind.i64 0)) (fun v101 =>
                        S.pur (.bin BinOp.neq 4 false false v99 v101) (fun v102 =>
                        Br v102 (
                          K (Value.bool false) w.drew) (
                          S.op (.bin BinOp.add 3 false true s74_ (Value.int IntKind.i64 1)) w.drew (fun v104 w =>
                          I18 v104 w ∧ μ18 v104 w < μ18 s74_ wl18) Kp)))))))))))))))) Kp) Kp) Kp) Kp) Kp) Kp) Kp) (
                    S.call (.fn 9) [] w (fun v105 w =>
                    K v105 w) Kp)) Kp) Kp) Kp)) Kp) Kp) Kp) Kp) Kp) Kp) Kp) Kp)) Kp) Kp) Kp) Kp) Kp) Kp) Kp)) Kp) Kp) Kp) Kp) Kp) Kp) Kp) Kp)) Kp) Kp)) Kp) Kp)) Kp) Kp
theorem vc6_eq (S : Sig) (a0 a1 : Value) (w : World) (K : Value → World → Prop) (Kp : KP) : vc6 S a0 a1 w K Kp = fVC S [(11, [8, 49]), (18, [74])] [] Try.f6 [a0, a1] w K Kp := by kernel_rfl
theorem vc6_calls {a0 a1 : Value} {w : World} {K : Value → World → Prop} {Kp : KP} (h : vc6 (nice Try.prog) a0 a1 w K Kp) : Calls Try.prog 6 #[a0, a1] w (ret K Kp) :=
  fVC_sound (args := [a0, a1]) nice_le follows_mixed Try.func6 (by kernel_rfl) (Eq.mp (vc6_eq _ _ _ _ _ _) h)

/-- pub-bracken/laws.FnListMoves -/
def vc7 (S : Sig) (a0 a1 a2 a3 : Value) (w : World) (K : Value → World → Prop) (Kp : KP) : Prop :=
  S.op (.blt Builtin.len [22] 3 [a0]) w (fun v21 w =>
  S.op (.bin BinOp.gtr 3 false true v21 (Value.int IntKind.i64 2147483647)) w (fun v22 w =>
  Br v22 (
    K (Value.bool true) w) (
    S.op (.blt Builtin.len [33] 3 [a1]) w (fun v25 w =>
    S.op (.bin BinOp.gtr 3 false true v25 (Value.int IntKind.i64 2147483647)) w (fun v26 w =>
    Br v26 (
      K (Value.bool true) w) (
      S.op (.blt Builtin.len [50] 3 [a3]) w (fun v30 w =>
      S.op (.bin BinOp.gtr 3 false true v30 (Value.int IntKind.i64 2147483647)) w (fun v31 w =>
      Br v31 (
        K (Value.bool true) w) (
        S.call (.fn 12) [a0, a1] w (fun v35 w =>
        S.op (.un UnOp.not v35) w (fun v36 w =>
        Br v36 (
          S.call (.fn 9) [] w (fun v42 w =>
          K v42 w) Kp) (
          S.op (.blt Builtin.len [50] 3 [a3]) w (fun v39 w =>
          S.op (.bin BinOp.gtr 3 false true v39 (Value.int IntKind.i64 100)) w (fun v40 w =>
          Br v40 (
            S.call (.fn 9) [] w (fun v42 w =>
            K v42 w) Kp) (
            S.op (.blt Builtin.len [50] 3 [a3]) w (fun v44 w =>
            Lp fun (I6 : Value → World → Prop) (μ6 : Value → World → Nat) => I6 (Value.int IntKind.i64 0) w ∧
            ∀ (wl6 : World) (junk : Nat → Value) (s45_ : Value), I6 s45_ wl6 →
              S.op (.bin BinOp.lss 3 false false s45_ v44) wl6 (fun v46 w =>
              Br v46 (
                S.op (.indexAddr 50 a3 s45_) w (fun v47 w =>
                S.op (.load 51 v47) w (fun v48 w =>
                S.op (.alloc 51) w (fun v10_m w =>
                S.op (.store 51 v10_m v48) w (fun _ w =>
                S.op (.fieldAddr 51 v10_m 0) w (fun v49 w =>
                S.op (.load 5 v49) w (fun v50 w =>
                S.op (.bin BinOp.gtr 5 false true v50 (Value.int IntKind.u8 4)) w (fun v51 w =>
                Br v51 (
                  S.call (.fn 9) [] w (fun v52 w =>
                  K v52 w) Kp) (
                  S.op (.bin BinOp.add 3 false true s45_ (Value.int IntKind.i64 1)) w (fun v53 w =>
                  I6 v53 w ∧ μ6 v53 w < μ6 s45_ wl6) Kp)) Kp) Kp) Kp) Kp) Kp) Kp) Kp) (
                S.call (.fn 13) [a0, a1] w (fun v57 w =>
                S.op (.extract v57 0) w (fun v58 w =>
                S.op (.extract v57 1) w (fun v59 w =>
                S.op (.conv 5 3 a2) w (fun v61 w =>
                S.op (.blt Builtin.len [35] 3 [v58]) w (fun v63 w =>
                S.op (.bin BinOp.rem 3 false false v61 v63) w (fun v64 w =>
                S.op (.indexAddr 35 v58 v64) w (fun v68 w =>
                S.op (.load 22 v68) w (fun v69 w =>
                S.call (.fn 18) [v69, a3] w (fun v71 w =>
                S.op (.extract v71 0) w (fun v72 w =>
                S.op (.extract v71 1) w (fun v73 w =>
                S.call (.fn 15) [a1] w (fun v77 w =>
                S.call (.fn 19) [a3] w (fun v80 w =>
                S.call (.fn 17) [a0, v77, v64, v80] w (fun v81 w =>
                S.op (.extract v81 0) w (fun v82 w =>
                S.op (.extract v81 1) w (fun v83 w =>
                S.op (.bin BinOp.neq 4 false false v82 v72) w (fun v86 w =>
                Br v86 (
                  K (Value.bool false) w) (
                  S.op (.blt Builtin.len [45] 3 [v83]) w (fun v89 w =>
                  S.op (.blt Builtin.len [52] 3 [v73]) w (fun v91 w =>
                  S.op (.bin BinOp.neq 3 false false v89 v91) w (fun v92 w =>
                  Br v92 (
                    K (Value.bool false) w) (
                    S.op (.blt Builtin.len [45] 3 [v83]) w (fun v95 w =>
                    Lp fun (I18 : Value → World → Prop) (μ18 : Value → World → Nat) => I18 (Value.int IntKind.i64 0) w ∧
                    ∀ (wl18 : World) (junk : Nat → Value) (s96_ : Value), I18 s96_ wl18 →
                      S.op (.bin BinOp.lss 3 false false s96_ v95) wl18 (fun v97 w =>
                      Br v97 (
                        S.op (.indexAddr 45 v83 s96_) w (fun v99 w =>
                        S.op (.load 49 v99) w (fun v100 w =>
                        S.op (.alloc 49) w (fun v19_x w =>
                        S.op (.store 49 v19_x v100) w (fun _ w =>
                        S.ld (.load 49 v19_x) w.drew (fun v101 =>
                        S.pur (.indexAddr 52 v73 s96_) (fun v104 =>
                        S.ld (.load 56 v104) w.drew (fun v105 =>
                        S.pur (.bin BinOp.neq 56 false false v101 v105) (fun v106 =>
                        Br v106 (
                          K (Value.bool false) w.drew) (
                          S.op (.bin BinOp.add 3 false true s96_ (Value.int IntKind.i64 1)) w.drew (fun v107 w =>
                          I18 v107 w ∧ μ18 v107 w < μ18 s96_ wl18) Kp)))))) Kp) Kp) Kp) Kp) (
                        S.call (.fn 9) [] w (fun v108 w =>
                        K v108 w) Kp)) Kp) Kp)) Kp) Kp) Kp)) Kp) Kp) Kp) Kp) Kp) Kp) Kp) Kp) Kp) Kp) Kp) Kp) Kp) Kp) Kp) Kp) Kp)) Kp) Kp)) Kp) Kp)) Kp) Kp)) Kp) Kp)) Kp) Kp)) Kp) Kp
theorem vc7_eq (S : Sig) (a0 a1 a2 a3 : Value) (w : World) (K : Value → World → Prop) (Kp : KP) : vc7 S a0 a1 a2 a3 w K Kp = fVC S [(6, [45]), (18, [96])] [] Try.f7 [a0, a1, a2, a3] w K Kp := by kernel_rfl
theorem vc7_calls {a0 a1 a2 a3 : Value} {w : World} {K : Value → World → Prop} {Kp : KP} (h : vc7 (nice Try.prog) a0 a1 a2 a3 w K Kp) : Calls Try.prog 7 #[a0, a1, a2, a3] w (ret K Kp) :=
  fVC_sound (args := [a0, a1, a2, a3]) nice_le follows_mixed Try.func7 (by kernel_rfl) (Eq.mp (vc7_eq _ _ _ _ _ _ _ _) h)

/-- pub-bracken/laws.FnListBuild -/
def vc8 (S : Sig) (a0 a1 : Value) (w : World) (K : Value → World → Prop) (Kp : KP) : Prop :=
  S.op (.blt Builtin.len [22] 3 [a0]) w (fun v15 w =>
  S.op (.bin BinOp.gtr 3 false true v15 (Value.int IntKind.i64 2147483647)) w (fun v16 w =>
  Br v16 (
    K (Value.bool true) w) (
    S.op (.blt Builtin.len [33] 3 [a1]) w (fun v19 w =>
    S.op (.bin BinOp.gtr 3 false true v19 (Value.int IntKind.i64 2147483647)) w (fun v20 w =>
    Br v20 (
      K (Value.bool true) w) (
      S.call (.fn 20) [a1] w (fun v23 w =>
      S.op (.blt Builtin.len [33] 3 [v23]) w (fun v25 w =>
      Lp fun (I5 : Value → World → Prop) (μ5 : Value → World → Nat) => I5 (Value.int IntKind.i64 0) w ∧
      ∀ (wl5 : World) (junk : Nat → Value) (s26_ : Value), I5 s26_ wl5 →
        S.op (.bin BinOp.lss 3 false false s26_ v25) wl5 (fun v27 w =>
        Br v27 (
          S.op (.indexAddr 33 v23 s26_) w (fun v32 w =>
          S.op (.fieldAddr 59 v32 1) w (fun v33 w =>
          S.op (.store 3 v33 s26_) w (fun _ w =>
          S.op (.bin BinOp.add 3 false true s26_ (Value.int IntKind.i64 1)) w (fun v34 w =>
          I5 v34 w ∧ μ5 v34 w < μ5 s26_ wl5) Kp) Kp) Kp) Kp) (
          S.call (.fn 12) [a0, v23] w (fun v37 w =>
          S.op (.un UnOp.not v37) w (fun v38 w =>
          Br v38 (
            S.call (.fn 9) [] w (fun v39 w =>
            K v39 w) Kp) (
            S.call (.fn 13) [a0, v23] w (fun v43 w =>
            S.op (.extract v43 0) w (fun v44 w =>
            S.op (.extract v43 1) w (fun v45 w =>
            S.op (.blt Builtin.len [35] 3 [v44]) w (fun v48 w =>
            S.op (.bin BinOp.sub 3 false true v48 (Value.int IntKind.i64 1)) w (fun v49 w =>
            S.op (.indexAddr 35 v44 v49) w (fun v50 w =>
            S.op (.load 22 v50) w (fun v51 w =>
            S.call (.fn 15) [v23] w (fun v55 w =>
            S.call (.fn 21) [a0, v55] w (fun v56 w =>
            S.op (.extract v56 0) w (fun v57 w =>
            S.op (.extract v56 1) w (fun v58 w =>
            S.op (.extract v56 2) w (fun v59 w =>
            S.op (.extract v56 3) w (fun v60 w =>
            S.call (.fn 11) [v57, v51] w (fun v63 w =>
            Br v63 (
              S.call (.fn 11) [v58, v51] w (fun v67 w =>
              Br v67 (
                S.call (.fn 11) [v59, v51] w (fun v72 w =>
                Br v72 (
                  S.call (.fn 16) [v60, v45] w (fun v77 w =>
                  Br v77 (
                    S.call (.fn 9) [] w (fun v80 w =>
                    K v80 w) Kp) (
                    K (Value.bool false) w)) Kp) (
                  K (Value.bool false) w)) Kp) (
                K (Value.bool false) w)) Kp) (
              K (Value.bool false) w)) Kp) Kp) Kp) Kp) Kp) Kp) Kp) Kp) Kp) Kp) Kp) Kp) Kp) Kp)) Kp) Kp)) Kp) Kp) Kp)) Kp) Kp)) Kp) Kp
theorem vc8_eq (S : Sig) (a0 a1 : Value) (w : World) (K : Value → World → Prop) (Kp : KP) : vc8 S a0 a1 w K Kp = fVC S [(5, [26])] [] Try.f8 [a0, a1] w K Kp := by kernel_rfl
theorem vc8_calls {a0 a1 : Value} {w : World} {K : Value → World → Prop} {Kp : KP} (h : vc8 (nice Try.prog) a0 a1 w K Kp) : Calls Try.prog 8 #[a0, a1] w (ret K Kp) :=
  fVC_sound (args := [a0, a1]) nice_le follows_mixed Try.func8 (by kernel_rfl) (Eq.mp (vc8_eq _ _ _ _ _ _) h)

/-- pub-bracken/laws.listAwake -/
def vc9 (S : Sig) (w : World) (K : Value → World → Prop) (Kp : KP) : Prop :=
  S.op (.buildSlice 22 2 [(0, (Value.int IntKind.i64 7)), (1, (Value.int IntKind.i64 8))]) w (fun v4 w =>
  S.op (.build 26 [(0, (Value.int IntKind.u8 0)), (4, (Value.int IntKind.i64 9))]) w (fun v5 w =>
  S.op (.buildSlice 27 1 [(0, v5)]) w (fun v6 w =>
  S.call (.fn 14) [v4, v6] w (fun v7 w =>
  S.op (.extract v7 0) w (fun v8 w =>
  S.op (.extract v7 1) w (fun v9 w =>
  S.op (.blt Builtin.len [35] 3 [v8]) w (fun v11 w =>
  S.op (.bin BinOp.eql 3 false true v11 (Value.int IntKind.i64 2)) w (fun v12 w =>
  Br v12 (
    S.op (.indexAddr 35 v8 (Value.int IntKind.i64 0)) w (fun v15 w =>
    S.op (.load 22 v15) w (fun v16 w =>
    S.op (.buildSlice 22 2 [(0, (Value.int IntKind.i64 7)), (1, (Value.int IntKind.i64 8))]) w (fun v17 w =>
    S.call (.fn 11) [v16, v17] w (fun v18 w =>
    Br v18 (
      S.op (.indexAddr 35 v8 (Value.int IntKind.i64 1)) w (fun v22 w =>
      S.op (.load 22 v22) w (fun v23 w =>
      S.op (.buildSlice 22 3 [(0, (Value.int IntKind.i64 7)), (1, (Value.int IntKind.i64 8)), (2, (Value.int IntKind.i64 9))]) w (fun v24 w =>
      S.call (.fn 11) [v23, v24] w (fun v25 w =>
      Br v25 (
        S.op (.buildSlice 36 1 [(0, (Value.bool false))]) w (fun v29 w =>
        S.call (.fn 16) [v9, v29] w (fun v30 w =>
        K v30 w) Kp) Kp) (
        K (Value.bool false) w)) Kp) Kp) Kp) Kp) (
      K (Value.bool false) w)) Kp) Kp) Kp) Kp) (
    K (Value.bool false) w)) Kp) Kp) Kp) Kp) Kp) Kp) Kp) Kp
theorem vc9_eq (S : Sig) (w : World) (K : Value → World → Prop) (Kp : KP) : vc9 S  w K Kp = fVC S [] [] Try.f9 [] w K Kp := by kernel_rfl
theorem vc9_calls {w : World} {K : Value → World → Prop} {Kp : KP} (h : vc9 (nice Try.prog)  w K Kp) : Calls Try.prog 9 #[] w (ret K Kp) :=
  fVC_sound (args := []) nice_le follows_mixed Try.func9 (by kernel_rfl) (Eq.mp (vc9_eq _  _ _ _) h)

/-- pub-bracken/laws.listOne -/
def vc10 (S : Sig) (a0 a1 : Value) (w : World) (K : Value → World → Prop) (Kp : KP) : Prop :=
  S.call (.fn 14) [a0, a1] w (fun v11 w =>
  S.op (.extract v11 0) w (fun v12 w =>
  S.op (.extract v11 1) w (fun v13 w =>
  S.op (.blt Builtin.len [35] 3 [v12]) w (fun v15 w =>
  S.op (.blt Builtin.len [27] 3 [a1]) w (fun v17 w =>
  S.op (.bin BinOp.add 3 false true v17 (Value.int IntKind.i64 1)) w (fun v18 w =>
  S.op (.bin BinOp.neq 3 false false v15 v18) w (fun v19 w =>
  Br v19 (
    K (Value.tuple #[(Value.slice none 0 0), (Value.bool false)]) w) (
    S.call (.fn 22) [v13, (Value.bool true)] w (fun v22 w =>
    Br v22 (
      K (Value.tuple #[(Value.slice none 0 0), (Value.bool false)]) w) (
      S.op (.blt Builtin.len [27] 3 [a1]) w (fun v26 w =>
      S.op (.indexAddr 35 v12 v26) w (fun v27 w =>
      S.op (.load 22 v27) w (fun v28 w =>
      K (Value.tuple #[v28, (Value.bool true)]) w) Kp) Kp) Kp)) Kp)) Kp) Kp) Kp) Kp) Kp) Kp) Kp
theorem vc10_eq (S : Sig) (a0 a1 : Value) (w : World) (K : Value → World → Prop) (Kp : KP) : vc10 S a0 a1 w K Kp = fVC S [] [] Try.f10 [a0, a1] w K Kp := by kernel_rfl
theorem vc10_calls {a0 a1 : Value} {w : World} {K : Value → World → Prop} {Kp : KP} (h : vc10 (nice Try.prog) a0 a1 w K Kp) : Calls Try.prog 10 #[a0, a1] w (ret K Kp) :=
  fVC_sound (args := [a0, a1]) nice_le follows_mixed Try.func10 (by kernel_rfl) (Eq.mp (vc10_eq _ _ _ _ _ _) h)

/-- slices.Equal[[]int64,int64] -/
def vc11 (S : Sig) (a0 a1 : Value) (w : World) (K : Value → World → Prop) (Kp : KP) : Prop :=
  S.op (.blt Builtin.len [22] 3 [a0]) w (fun v7 w =>
  S.op (.blt Builtin.len [22] 3 [a1]) w (fun v9 w =>
  S.op (.bin BinOp.neq 3 false false v7 v9) w (fun v10 w =>
  Br v10 (
    K (Value.bool false) w) (
    S.op (.blt Builtin.len [22] 3 [a0]) w (fun v12 w =>
    Lp fun (I4 : Value → World → Prop) (μ4 : Value → World → Nat) => I4 (Value.int IntKind.i64 0) w ∧
    ∀ (wl4 : World) (junk : Nat → Value) (s13_ : Value), I4 s13_ wl4 →
      S.op (.bin BinOp.lss 3 false false s13_ v12) wl4 (fun v14 w =>
      Br v14 (
        S.pur (.indexAddr 22 a0 s13_) (fun v18 =>
        S.ld (.load 2 v18) w.drew (fun v19 =>
        S.pur (.indexAddr 22 a1 s13_) (fun v22 =>
        S.ld (.load 2 v22) w.drew (fun v23 =>
        S.pur (.bin BinOp.neq 2 false false v19 v23) (fun v24 =>
        Br v24 (
          K (Value.bool false) w.drew) (
          S.op (.bin BinOp.add 3 false true s13_ (Value.int IntKind.i64 1)) w.drew (fun v25 w =>
          I4 v25 w ∧ μ4 v25 w < μ4 s13_ wl4) Kp))))))) (
        K (Value.bool true) w)) Kp) Kp)) Kp) Kp) Kp
theorem vc11_eq (S : Sig) (a0 a1 : Value) (w : World) (K : Value → World → Prop) (Kp : KP) : vc11 S a0 a1 w K Kp = fVC S [(4, [13])] [] Try.f11 [a0, a1] w K Kp := by kernel_rfl
theorem vc11_calls {a0 a1 : Value} {w : World} {K : Value → World → Prop} {Kp : KP} (h : vc11 (nice Try.prog) a0 a1 w K Kp) : Calls Try.prog 11 #[a0, a1] w (ret K Kp) :=
  fVC_sound (args := [a0, a1]) nice_le follows_mixed Try.func11 (by kernel_rfl) (Eq.mp (vc11_eq _ _ _ _ _ _) h)

/-- pub-bracken/laws.listFits -/
def vc12 (S : Sig) (a0 a1 : Value) (w : World) (K : Value → World → Prop) (Kp : KP) : Prop :=
  S.op (.blt Builtin.len [33] 3 [a1]) w (fun v6 w =>
  S.op (.bin BinOp.leq 3 false true v6 (Value.int IntKind.i64 12)) w (fun v7 w =>
  Br v7 (
    S.call (.fn 23) [a0, a1] w (fun v11 w =>
    K v11 w) Kp) (
    K (Value.bool false) w)) Kp) Kp
theorem vc12_eq (S : Sig) (a0 a1 : Value) (w : World) (K : Value → World → Prop) (Kp : KP) : vc12 S a0 a1 w K Kp = fVC S [] [] Try.f12 [a0, a1] w K Kp := by kernel_rfl
theorem vc12_calls {a0 a1 : Value} {w : World} {K : Value → World → Prop} {Kp : KP} (h : vc12 (nice Try.prog) a0 a1 w K Kp) : Calls Try.prog 12 #[a0, a1] w (ret K Kp) :=
  fVC_sound (args := [a0, a1]) nice_le follows_mixed Try.func12 (by kernel_rfl) (Eq.mp (vc12_eq _ _ _ _ _ _) h)

/-- pub-bracken/spec.ListVersions -/
def vc13 (S : Sig) (a0 a1 : Value) (w : World) (K : Value → World → Prop) (Kp : KP) : Prop :=
  S.op (.buildSlice 35 1 [(0, a0)]) w (fun v11 w =>
  S.op (.blt Builtin.len [33] 3 [a1]) w (fun v13 w =>
  Lp fun (I3 : Value → Value → Value → World → Prop) (μ3 : Value → Value → Value → World → Nat) => I3 v11 (Value.slice none 0 0) (Value.int IntKind.i64 0) w ∧
  ∀ (wl3 : World) (junk : Nat → Value) (s4_versions : Value) (s5_out : Value) (s14_ : Value), I3 s4_versions s5_out s14_ wl3 →
    S.op (.bin BinOp.lss 3 false false s14_ v13) wl3 (fun v15 w =>
    Br v15 (
      S.op (.indexAddr 33 a1 s14_) w (fun v16 w =>
      S.op (.load 59 v16) w (fun v17 w =>
      S.op (.alloc 59) w (fun v7_s w =>
      S.op (.store 59 v7_s v17) w (fun _ w =>
      S.pur (.fieldAddr 59 v7_s 1) (fun v20 =>
      S.ld (.load 3 v20) w.drew (fun v21 =>
      S.pur (.indexAddr 35 s4_versions v21) (fun v22 =>
      S.ld (.load 22 v22) w.drew (fun v23 =>
      S.ld (.load 59 v7_s) w.drew (fun v24 =>
      S.call (.fn 24) [v23, v24] w.drew (fun v25 w =>
      S.pur (.extract v25 0) (fun v26 =>
      S.pur (.extract v25 1) (fun v27 =>
      S.op (.buildSlice 35 1 [(0, v26)]) w (fun v30 w =>
      S.op (.blt Builtin.append [35, 35] 35 [s4_versions, v30]) w (fun v31 w =>
      S.op (.un UnOp.not v27) w (fun v34 w =>
      S.op (.buildSlice 36 1 [(0, v34)]) w (fun v35 w =>
      S.op (.blt Builtin.append [36, 36] 36 [s5_out, v35]) w (fun v36 w =>
      S.op (.bin BinOp.add 3 false true s14_ (Value.int IntKind.i64 1)) w (fun v37 w =>
      I3 v31 v36 v37 w ∧ μ3 v31 v36 v37 w < μ3 s4_versions s5_out s14_ wl3) Kp) Kp) Kp) Kp) Kp) Kp))) Kp)))))) Kp) Kp) Kp) Kp) (
      K (Value.tuple #[s4_versions, s5_out]) w)) Kp) Kp) Kp
theorem vc13_eq (S : Sig) (a0 a1 : Value) (w : World) (K : Value → World → Prop) (Kp : KP) : vc13 S a0 a1 w K Kp = fVC S [(3, [4, 5, 14])] [] Try.f13 [a0, a1] w K Kp := by kernel_rfl
theorem vc13_calls {a0 a1 : Value} {w : World} {K : Value → World → Prop} {Kp : KP} (h : vc13 (nice Try.prog) a0 a1 w K Kp) : Calls Try.prog 13 #[a0, a1] w (ret K Kp) :=
  fVC_sound (args := [a0, a1]) nice_le follows_mixed Try.func13 (by kernel_rfl) (Eq.mp (vc13_eq _ _ _ _ _ _) h)

/-- pub-bracken/impl.ListRun -/
def vc14 (S : Sig) (a0 a1 : Value) (w : World) (K : Value → World → Prop) (Kp : KP) : Prop :=
  S.call (.fn 25) [a0, a1] w (fun v13 w =>
  S.op (.extract v13 0) w (fun v14 w =>
  S.op (.extract v13 1) w (fun v15 w =>
  S.op (.blt Builtin.len [64] 3 [v14]) w (fun v17 w =>
  Lp fun (I3 : Value → Value → World → Prop) (μ3 : Value → Value → World → Nat) => I3 (Value.slice none 0 0) (Value.int IntKind.i64 0) w ∧
  ∀ (wl3 : World) (junk : Nat → Value) (s4_versions : Value) (s18_ : Value), I3 s4_versions s18_ wl3 →
    S.op (.bin BinOp.lss 3 false false s18_ v17) wl3 (fun v19 w =>
    Br v19 (
      S.op (.indexAddr 64 v14 s18_) w (fun v20 w =>
      S.op (.load 67 v20) w (fun v21 w =>
      S.call (.fn 26) [v21] w (fun v24 w =>
      S.op (.buildSlice 35 1 [(0, v24)]) w (fun v25 w =>
      S.op (.blt Builtin.append [35, 35] 35 [s4_versions, v25]) w (fun v26 w =>
      S.op (.bin BinOp.add 3 false true s18_ (Value.int IntKind.i64 1)) w (fun v27 w =>
      I3 v26 v27 w ∧ μ3 v26 v27 w < μ3 s4_versions s18_ wl3) Kp) Kp) Kp) Kp) Kp) Kp) (
      K (Value.tuple #[s4_versions, v15]) w)) Kp) Kp) Kp) Kp) Kp
theorem vc14_eq (S : Sig) (a0 a1 : Value) (w : World) (K : Value → World → Prop) (Kp : KP) : vc14 S a0 a1 w K Kp = fVC S [(3, [4, 18])] [] Try.f14 [a0, a1] w K Kp := by kernel_rfl
theorem vc14_calls {a0 a1 : Value} {w : World} {K : Value → World → Prop} {Kp : KP} (h : vc14 (nice Try.prog) a0 a1 w K Kp) : Calls Try.prog 14 #[a0, a1] w (ret K Kp) :=
  fVC_sound (args := [a0, a1]) nice_le follows_mixed Try.func14 (by kernel_rfl) (Eq.mp (vc14_eq _ _ _ _ _ _) h)

/-- pub-bracken/laws.listTo -/
def vc15 (S : Sig) (a0 : Value) (w : World) (K : Value → World → Prop) (Kp : KP) : Prop :=
  S.op (.blt Builtin.len [33] 3 [a0]) w (fun v7 w =>
  Lp fun (I3 : Value → Value → World → Prop) (μ3 : Value → Value → World → Nat) => I3 (Value.slice none 0 0) (Value.int IntKind.i64 0) w ∧
  ∀ (wl3 : World) (junk : Nat → Value) (s3_out : Value) (s8_ : Value), I3 s3_out s8_ wl3 →
    S.op (.bin BinOp.lss 3 false false s8_ v7) wl3 (fun v9 w =>
    Br v9 (
      S.op (.indexAddr 33 a0 s8_) w (fun v10 w =>
      S.op (.load 59 v10) w (fun v11 w =>
      S.op (.alloc 59) w (fun v5_s w =>
      S.op (.store 59 v5_s v11) w (fun _ w =>
      S.op (.load 59 v5_s) w (fun v13 w =>
      S.op (.buildSlice 27 1 [(0, v13)]) w (fun v14 w =>
      S.op (.blt Builtin.append [27, 27] 27 [s3_out, v14]) w (fun v15 w =>
      S.op (.bin BinOp.add 3 false true s8_ (Value.int IntKind.i64 1)) w (fun v16 w =>
      I3 v15 v16 w ∧ μ3 v15 v16 w < μ3 s3_out s8_ wl3) Kp) Kp) Kp) Kp) Kp) Kp) Kp) Kp) (
      K s3_out w)) Kp) Kp
theorem vc15_eq (S : Sig) (a0 : Value) (w : World) (K : Value → World → Prop) (Kp : KP) : vc15 S a0 w K Kp = fVC S [(3, [3, 8])] [] Try.f15 [a0] w K Kp := by kernel_rfl
theorem vc15_calls {a0 : Value} {w : World} {K : Value → World → Prop} {Kp : KP} (h : vc15 (nice Try.prog) a0 w K Kp) : Calls Try.prog 15 #[a0] w (ret K Kp) :=
  fVC_sound (args := [a0]) nice_le follows_mixed Try.func15 (by kernel_rfl) (Eq.mp (vc15_eq _ _ _ _ _) h)

/-- slices.Equal[[]bool,bool] -/
def vc16 (S : Sig) (a0 a1 : Value) (w : World) (K : Value → World → Prop) (Kp : KP) : Prop :=
  S.op (.blt Builtin.len [36] 3 [a0]) w (fun v7 w =>
  S.op (.blt Builtin.len [36] 3 [a1]) w (fun v9 w =>
  S.op (.bin BinOp.neq 3 false false v7 v9) w (fun v10 w =>
  Br v10 (
    K (Value.bool false) w) (
    S.op (.blt Builtin.len [36] 3 [a0]) w (fun v12 w =>
    Lp fun (I4 : Value → World → Prop) (μ4 : Value → World → Nat) => I4 (Value.int IntKind.i64 0) w ∧
    ∀ (wl4 : World) (junk : Nat → Value) (s13_ : Value), I4 s13_ wl4 →
      S.op (.bin BinOp.lss 3 false false s13_ v12) wl4 (fun v14 w =>
      Br v14 (
        S.pur (.indexAddr 36 a0 s13_) (fun v18 =>
        S.ld (.load 4 v18) w.drew (fun v19 =>
        S.pur (.indexAddr 36 a1 s13_) (fun v22 =>
        S.ld (.load 4 v22) w.drew (fun v23 =>
        S.pur (.bin BinOp.neq 4 false false v19 v23) (fun v24 =>
        Br v24 (
          K (Value.bool false) w.drew) (
          S.op (.bin BinOp.add 3 false true s13_ (Value.int IntKind.i64 1)) w.drew (fun v25 w =>
          I4 v25 w ∧ μ4 v25 w < μ4 s13_ wl4) Kp))))))) (
        K (Value.bool true) w)) Kp) Kp)) Kp) Kp) Kp
theorem vc16_eq (S : Sig) (a0 a1 : Value) (w : World) (K : Value → World → Prop) (Kp : KP) : vc16 S a0 a1 w K Kp = fVC S [(4, [13])] [] Try.f16 [a0, a1] w K Kp := by kernel_rfl
theorem vc16_calls {a0 a1 : Value} {w : World} {K : Value → World → Prop} {Kp : KP} (h : vc16 (nice Try.prog) a0 a1 w K Kp) : Calls Try.prog 16 #[a0, a1] w (ret K Kp) :=
  fVC_sound (args := [a0, a1]) nice_le follows_mixed Try.func16 (by kernel_rfl) (Eq.mp (vc16_eq _ _ _ _ _ _) h)

/-- pub-bracken/impl.ListIterate -/
def vc17 (S : Sig) (a0 a1 a2 a3 : Value) (w : World) (K : Value → World → Prop) (Kp : KP) : Prop :=
  S.call (.fn 25) [a0, a1] w (fun v19 w =>
  S.op (.extract v19 0) w (fun v20 w =>
  S.op (.extract v19 1) w (fun v21 w =>
  S.op (.bin BinOp.lss 3 false true a2 (Value.int IntKind.i64 0)) w (fun v23 w =>
  Br v23 (
    K (Value.tuple #[(Value.bool false), (Value.slice none 0 0)]) w) (
    S.op (.blt Builtin.len [64] 3 [v20]) w (fun v27 w =>
    S.op (.bin BinOp.geq 3 false false a2 v27) w (fun v28 w =>
    Br v28 (
      K (Value.tuple #[(Value.bool false), (Value.slice none 0 0)]) w) (
      S.op (.indexAddr 64 v20 a2) w (fun v32 w =>
      S.op (.load 67 v32) w (fun v33 w =>
      S.call (.fn 27) [v33] w (fun v34 w =>
      S.op (.alloc 69) w (fun v12_it w =>
      S.op (.store 69 v12_it v34) w (fun _ w =>
      S.op (.load 69 v12_it) w (fun v35 w =>
      S.call (.fn 28) [v35] w (fun v36 w =>
      S.op (.blt Builtin.len [44] 3 [a3]) w (fun v38 w =>
      Lp fun (I7 : Value → Value → World → Prop) (μ7 : Value → Value → World → Nat) => I7 (Value.slice none 0 0) (Value.int IntKind.i64 0) w ∧
      ∀ (wl7 : World) (junk : Nat → Value) (s9_seen : Value) (s39_ : Value), I7 s9_seen s39_ wl7 →
        S.op (.bin BinOp.lss 3 false false s39_ v38) wl7 (fun v40 w =>
        Br v40 (
          S.op (.indexAddr 44 a3 s39_) w (fun v41 w =>
          S.op (.load 43 v41) w (fun v42 w =>
          S.op (.alloc 43) w (fun v14_m w =>
          S.op (.store 43 v14_m v42) w (fun _ w =>
          S.op (.alloc 49) w (fun v15_s w =>
          S.op (.mkFunc (Fn.func 30) [] [v14_m, v12_it, v15_s]) w (fun v43 w =>
          S.call (.fn 29) [v43] w (fun v44 w =>
          S.op (.fieldAddr 49 v15_s 2) w (fun v45 w =>
          S.op (.store 4 v45 v44) w (fun _ w =>
          S.op (.load 69 v12_it) w (fun v46 w =>
          S.call (.fn 28) [v46] w (fun v47 w =>
          S.op (.fieldAddr 49 v15_s 3) w (fun v48 w =>
          S.op (.store 4 v48 v47) w (fun _ w =>
          S.op (.load 49 v15_s) w (fun v50 w =>
          S.op (.buildSlice 45 1 [(0, v50)]) w (fun v51 w =>
          S.op (.blt Builtin.append [45, 45] 45 [s9_seen, v51]) w (fun v52 w =>
          S.op (.bin BinOp.add 3 false true s39_ (Value.int IntKind.i64 1)) w (fun v53 w =>
          I7 v52 v53 w ∧ μ7 v52 v53 w < μ7 s9_seen s39_ wl7) Kp) Kp) Kp) Kp) Kp) Kp) Kp) Kp) Kp) Kp) Kp) Kp) Kp) Kp) Kp) Kp) Kp) (
          K (Value.tuple #[v36, s9_seen]) w)) Kp) Kp) Kp) Kp) Kp) Kp) Kp) Kp) Kp)) Kp) Kp)) Kp) Kp) Kp) Kp
theorem vc17_eq (S : Sig) (a0 a1 a2 a3 : Value) (w : World) (K : Value → World → Prop) (Kp : KP) : vc17 S a0 a1 a2 a3 w K Kp = fVC S [(7, [9, 39])] [] Try.f17 [a0, a1, a2, a3] w K Kp := by kernel_rfl
theorem vc17_calls {a0 a1 a2 a3 : Value} {w : World} {K : Value → World → Prop} {Kp : KP} (h : vc17 (nice Try.prog) a0 a1 a2 a3 w K Kp) : Calls Try.prog 17 #[a0, a1, a2, a3] w (ret K Kp) :=
  fVC_sound (args := [a0, a1, a2, a3]) nice_le follows_mixed Try.func17 (by kernel_rfl) (Eq.mp (vc17_eq _ _ _ _ _ _ _ _) h)

/-- pub-bracken/spec.ListWalk -/
def vc18 (S : Sig) (a0 a1 : Value) (w : World) (K : Value → World → Prop) (Kp : KP) : Prop :=
  S.op (.box 22 a0) w (fun v2_l w =>
  S.op (.alloc 3) w (fun v6_at w =>
  S.op (.store 3 v6_at (Value.int IntKind.i64 0)) w (fun _ w =>
  S.op (.mkFunc (Fn.func 36) [] [v6_at, v2_l]) w (fun v11 w =>
  S.op (.blt Builtin.len [50] 3 [a1]) w (fun v13 w =>
  Lp fun (I4 : Value → Value → World → Prop) (μ4 : Value → Value → World → Nat) => I4 (Value.slice none 0 0) (Value.int IntKind.i64 0) w ∧
  ∀ (wl4 : World) (junk : Nat → Value) (s5_seen : Value) (s14_ : Value), I4 s5_seen s14_ wl4 →
    S.op (.bin BinOp.lss 3 false false s14_ v13) wl4 (fun v15 w =>
    Br v15 (
      S.op (.indexAddr 50 a1 s14_) w (fun v16 w =>
      S.op (.load 51 v16) w (fun v17 w =>
      S.op (.alloc 51) w (fun v9_m w =>
      S.op (.store 51 v9_m v17) w (fun _ w =>
      S.op (.build 56 []) w (fun v18 w =>
      S.op (.alloc 56) w (fun v10_x w =>
      S.op (.store 56 v10_x v18) w (fun _ w =>
      Jn fun (J28 : World → Prop) =>
      (S.op (.fieldAddr 51 v9_m 0) w (fun v19 w =>
        S.op (.load 5 v19) w (fun v20 w =>
        Jn fun (J10 : Value → World → Prop) =>
        (S.op (.bin BinOp.eql 5 false true v20 (Value.int IntKind.u8 0)) w (fun v22 w =>
          Br v22 (
            J10 v22 w) (
            S.op (.bin BinOp.eql 5 false true v20 (Value.int IntKind.u8 1)) w (fun v23 w =>
            J10 v23 w) Kp)) Kp) ∧
        (∀ (w : World) (junk : Nat → Value) (j21_ : Value), J10 j21_ w →
          Br j21_ (
            S.op (.fieldAddr 56 v10_x 0) w (fun v24 w =>
            S.op (.store 3 v24 (Value.int IntKind.i64 (-1))) w (fun _ w =>
            S.call (.val v11) [] w (fun v26 w =>
            S.op (.un UnOp.not v26) w (fun v27 w =>
            Br v27 (
              S.ld (.load 3 v6_at) w.drew (fun v28 =>
              S.ld (.load 22 v2_l) w.drew (fun v29 =>
              S.ld (.load 3 v6_at) w.drew (fun v30 =>
              S.pur (.indexAddr 22 v29 v30) (fun v31 =>
              S.ld (.load 2 v31) w.drew (fun v32 =>
              S.pur (.fieldAddr 56 v10_x 0) (fun v33 =>
              S.op (.store 3 v33 v28) w.drew (fun _ w =>
              S.same (.load 2 v31) v32 w ∧
              S.same (.load 3 v6_at) v30 w ∧
              S.same (.load 22 v2_l) v29 w ∧
              S.pur (.fieldAddr 56 v10_x 1) (fun v34 =>
              S.op (.store 2 v34 v32) w (fun _ w =>
              Jn fun (J16 : World → Prop) =>
              (S.op (.fieldAddr 51 v9_m 0) w (fun v35 w =>
                S.op (.load 5 v35) w (fun v36 w =>
                S.op (.bin BinOp.eql 5 false true v36 (Value.int IntKind.u8 0)) w (fun v37 w =>
                Br v37 (
                  S.op (.load 3 v6_at) w (fun v38 w =>
                  S.op (.bin BinOp.add 3 false true v38 (Value.int IntKind.i64 1)) w (fun v39 w =>
                  S.op (.store 3 v6_at v39) w (fun _ w =>
                  J16 w) Kp) Kp) Kp) (
                  S.op (.load 3 v6_at) w (fun v40 w =>
                  S.op (.bin BinOp.sub 3 false true v40 (Value.int IntKind.i64 1)) w (fun v41 w =>
                  S.op (.store 3 v6_at v41) w (fun _ w =>
                  J16 w) Kp) Kp) Kp)) Kp) Kp) Kp) ∧
              (∀ (w : World) (junk : Nat → Value), J16 w →
                S.call (.val v11) [] w (fun v43 w =>
                Br v43 (
                  S.op (.store 3 v6_at (Value.int IntKind.i64 (-1))) w (fun _ w =>
                  J28 w) Kp) (
                  J28 w)) Kp)) Kp)) Kp))))))) (
              J28 w)) Kp) Kp) Kp) Kp) (
            S.op (.bin BinOp.eql 5 false true v20 (Value.int IntKind.u8 2)) w (fun v45 w =>
            Br v45 (
              S.op (.load 22 v2_l) w (fun v46 w =>
              S.op (.blt Builtin.len [22] 3 [v46]) w (fun v47 w =>
              S.op (.bin BinOp.gtr 3 false true v47 (Value.int IntKind.i64 0)) w (fun v48 w =>
              Br v48 (
                S.op (.store 3 v6_at (Value.int IntKind.i64 0)) w (fun _ w =>
                J28 w) Kp) (
                J28 w)) Kp) Kp) Kp) (
              S.op (.bin BinOp.eql 5 false true v20 (Value.int IntKind.u8 3)) w (fun v50 w =>
              Br v50 (
                S.op (.load 22 v2_l) w (fun v51 w =>
                S.op (.blt Builtin.len [22] 3 [v51]) w (fun v52 w =>
                S.op (.bin BinOp.gtr 3 false true v52 (Value.int IntKind.i64 0)) w (fun v53 w =>
                Br v53 (
                  S.op (.load 22 v2_l) w (fun v54 w =>
                  S.op (.blt Builtin.len [22] 3 [v54]) w (fun v55 w =>
                  S.op (.bin BinOp.sub 3 false true v55 (Value.int IntKind.i64 1)) w (fun v56 w =>
                  S.op (.store 3 v6_at v56) w (fun _ w =>
                  J28 w) Kp) Kp) Kp) Kp) (
                  J28 w)) Kp) Kp) Kp) (
                S.op (.bin BinOp.eql 5 false true v20 (Value.int IntKind.u8 4)) w (fun v58 w =>
                Br v58 (
                  S.op (.fieldAddr 51 v9_m 1) w (fun v59 w =>
                  S.op (.load 3 v59) w (fun v60 w =>
                  S.op (.bin BinOp.lss 3 false true v60 (Value.int IntKind.i64 0)) w (fun v61 w =>
                  Br v61 (
                    S.op (.fieldAddr 56 v10_x 2) w (fun v69 w =>
                    S.op (.store 4 v69 (Value.bool true)) w (fun _ w =>
                    J28 w) Kp) Kp) (
                    S.op (.fieldAddr 51 v9_m 1) w (fun v63 w =>
                    S.op (.load 3 v63) w (fun v64 w =>
                    S.op (.load 22 v2_l) w (fun v65 w =>
                    S.op (.blt Builtin.len [22] 3 [v65]) w (fun v66 w =>
                    S.op (.bin BinOp.geq 3 false false v64 v66) w (fun v67 w =>
                    Br v67 (
                      S.op (.fieldAddr 56 v10_x 2) w (fun v69 w =>
                      S.op (.store 4 v69 (Value.bool true)) w (fun _ w =>
                      J28 w) Kp) Kp) (
                      S.op (.fieldAddr 51 v9_m 1) w (fun v70 w =>
                      S.op (.load 3 v70) w (fun v71 w =>
                      S.op (.store 3 v6_at v71) w (fun _ w =>
                      J28 w) Kp) Kp) Kp)) Kp) Kp) Kp) Kp) Kp)) Kp) Kp) Kp) (
                  J28 w)) Kp)) Kp)) Kp))) Kp) Kp) ∧
      (∀ (w : World) (junk : Nat → Value), J28 w →
        S.call (.val v11) [] w (fun v73 w =>
        S.op (.fieldAddr 56 v10_x 3) w (fun v74 w =>
        S.op (.store 4 v74 v73) w (fun _ w =>
        S.op (.load 56 v10_x) w (fun v76 w =>
        S.op (.buildSlice 52 1 [(0, v76)]) w (fun v77 w =>
        S.op (.blt Builtin.append [52, 52] 52 [s5_seen, v77]) w (fun v78 w =>
        S.op (.bin BinOp.add 3 false true s14_ (Value.int IntKind.i64 1)) w (fun v79 w =>
        I4 v78 v79 w ∧ μ4 v78 v79 w < μ4 s5_seen s14_ wl4) Kp) Kp) Kp) Kp) Kp) Kp) Kp)) Kp) Kp) Kp) Kp) Kp) Kp) Kp) (
      S.op (.load 22 v2_l) w (fun v80 w =>
      S.op (.blt Builtin.len [22] 3 [v80]) w (fun v81 w =>
      S.op (.bin BinOp.eql 3 false true v81 (Value.int IntKind.i64 0)) w (fun v82 w =>
      K (Value.tuple #[v82, s5_seen]) w) Kp) Kp) Kp)) Kp) Kp) Kp) Kp) Kp) Kp
theorem vc18_eq (S : Sig) (a0 a1 : Value) (w : World) (K : Value → World → Prop) (Kp : KP) : vc18 S a0 a1 w K Kp = fVC S [(4, [5, 14])] [(28, []), (10, [21]), (16, [])] Try.f18 [a0, a1] w K Kp := by kernel_rfl
theorem vc18_calls {a0 a1 : Value} {w : World} {K : Value → World → Prop} {Kp : KP} (h : vc18 (nice Try.prog) a0 a1 w K Kp) : Calls Try.prog 18 #[a0, a1] w (ret K Kp) :=
  fVC_sound (args := [a0, a1]) nice_le follows_mixed Try.func18 (by kernel_rfl) (Eq.mp (vc18_eq _ _ _ _ _ _) h)

/-- pub-bracken/laws.listMoves -/
def vc19 (S : Sig) (a0 : Value) (w : World) (K : Value → World → Prop) (Kp : KP) : Prop :=
  S.op (.blt Builtin.len [50] 3 [a0]) w (fun v7 w =>
  Lp fun (I3 : Value → Value → World → Prop) (μ3 : Value → Value → World → Nat) => I3 (Value.slice none 0 0) (Value.int IntKind.i64 0) w ∧
  ∀ (wl3 : World) (junk : Nat → Value) (s3_out : Value) (s8_ : Value), I3 s3_out s8_ wl3 →
    S.op (.bin BinOp.lss 3 false false s8_ v7) wl3 (fun v9 w =>
    Br v9 (
      S.op (.indexAddr 50 a0 s8_) w (fun v10 w =>
      S.op (.load 51 v10) w (fun v11 w =>
      S.op (.alloc 51) w (fun v5_m w =>
      S.op (.store 51 v5_m v11) w (fun _ w =>
      S.op (.load 51 v5_m) w (fun v13 w =>
      S.op (.buildSlice 44 1 [(0, v13)]) w (fun v14 w =>
      S.op (.blt Builtin.append [44, 44] 44 [s3_out, v14]) w (fun v15 w =>
      S.op (.bin BinOp.add 3 false true s8_ (Value.int IntKind.i64 1)) w (fun v16 w =>
      I3 v15 v16 w ∧ μ3 v15 v16 w < μ3 s3_out s8_ wl3) Kp) Kp) Kp) Kp) Kp) Kp) Kp) Kp) (
      K s3_out w)) Kp) Kp
theorem vc19_eq (S : Sig) (a0 : Value) (w : World) (K : Value → World → Prop) (Kp : KP) : vc19 S a0 w K Kp = fVC S [(3, [3, 8])] [] Try.f19 [a0] w K Kp := by kernel_rfl
theorem vc19_calls {a0 : Value} {w : World} {K : Value → World → Prop} {Kp : KP} (h : vc19 (nice Try.prog) a0 w K Kp) : Calls Try.prog 19 #[a0] w (ret K Kp) :=
  fVC_sound (args := [a0]) nice_le follows_mixed Try.func19 (by kernel_rfl) (Eq.mp (vc19_eq _ _ _ _ _) h)

/-- slices.Clone[[]pub-bracken/spec.ListStep,pub-bracken/spec.ListStep] -/
def vc20 (S : Sig) (a0 : Value) (w : World) (K : Value → World → Prop) (Kp : KP) : Prop :=
  S.op (.bin BinOp.eql 33 false true a0 (Value.slice none 0 0)) w (fun v4 w =>
  Br v4 (
    K (Value.slice none 0 0) w) (
    S.op (.buildSlice 33 0 []) w (fun v5 w =>
    S.op (.blt Builtin.append [33, 33] 33 [v5, a0]) w (fun v7 w =>
    K v7 w) Kp) Kp)) Kp
theorem vc20_eq (S : Sig) (a0 : Value) (w : World) (K : Value → World → Prop) (Kp : KP) : vc20 S a0 w K Kp = fVC S [] [] Try.f20 [a0] w K Kp := by kernel_rfl
theorem vc20_calls {a0 : Value} {w : World} {K : Value → World → Prop} {Kp : KP} (h : vc20 (nice Try.prog) a0 w K Kp) : Calls Try.prog 20 #[a0] w (ret K Kp) :=
  fVC_sound (args := [a0]) nice_le follows_mixed Try.func20 (by kernel_rfl) (Eq.mp (vc20_eq _ _ _ _ _) h)

/-- pub-bracken/impl.ListBuild -/
def vc21 (S : Sig) (a0 a1 : Value) (w : World) (K : Value → World → Prop) (Kp : KP) : Prop :=
  S.call (.fn 37) [] w (fun v17 w =>
  S.op (.alloc 75) w (fun v8_b w =>
  S.op (.store 75 v8_b v17) w (fun _ w =>
  S.op (.blt Builtin.len [22] 3 [a0]) w (fun v19 w =>
  Lp fun (I3 : Value → World → Prop) (μ3 : Value → World → Nat) => I3 (Value.int IntKind.i64 0) w ∧
  ∀ (wl3 : World) (junk : Nat → Value) (s20_ : Value), I3 s20_ wl3 →
    S.op (.bin BinOp.lss 3 false false s20_ v19) wl3 (fun v21 w =>
    Br v21 (
      S.op (.indexAddr 22 a0 s20_) w (fun v22 w =>
      S.op (.load 2 v22) w (fun v23 w =>
      S.op (.load 75 v8_b) w (fun v24 w =>
      S.call (.fn 38) [v24, v23] w (fun v26 w =>
      S.op (.bin BinOp.add 3 false true s20_ (Value.int IntKind.i64 1)) w (fun v27 w =>
      I3 v27 w ∧ μ3 v27 w < μ3 s20_ wl3) Kp) Kp) Kp) Kp) Kp) (
      S.op (.blt Builtin.len [27] 3 [a1]) w (fun v29 w =>
      Lp fun (I8 : Value → Value → World → Prop) (μ8 : Value → Value → World → Nat) => I8 (Value.slice none 0 0) (Value.int IntKind.i64 0) w ∧
      ∀ (wl8 : World) (junk : Nat → Value) (s7_panicked : Value) (s30_ : Value), I8 s7_panicked s30_ wl8 →
        S.op (.bin BinOp.lss 3 false false s30_ v29) wl8 (fun v31 w =>
        Br v31 (
          S.op (.indexAddr 27 a1 s30_) w (fun v32 w =>
          S.op (.load 26 v32) w (fun v33 w =>
          S.op (.alloc 26) w (fun v12_s w =>
          S.op (.store 26 v12_s v33) w (fun _ w =>
          S.op (.mkFunc (Fn.func 39) [] [v12_s, v8_b]) w (fun v35 w =>
          S.call (.fn 29) [v35] w (fun v36 w =>
          S.op (.buildSlice 36 1 [(0, v36)]) w (fun v37 w =>
          S.op (.blt Builtin.append [36, 36] 36 [s7_panicked, v37]) w (fun v38 w =>
          S.op (.bin BinOp.add 3 false true s30_ (Value.int IntKind.i64 1)) w (fun v39 w =>
          I8 v38 v39 w ∧ μ8 v38 v39 w < μ8 s7_panicked s30_ wl8) Kp) Kp) Kp) Kp) Kp) Kp) Kp) Kp) Kp) (
          Lp fun (I13 : Value → Value → World → Prop) (μ13 : Value → Value → World → Nat) => I13 (Value.slice none 0 0) (Value.int IntKind.i64 0) w ∧
          ∀ (wl13 : World) (junk : Nat → Value) (s4_what : Value) (s13_i : Value), I13 s4_what s13_i wl13 →
            S.op (.load 75 v8_b) wl13 (fun v41 w =>
            S.call (.fn 44) [v41] w (fun v42 w =>
            S.op (.bin BinOp.lss 3 false false s13_i v42) w (fun v43 w =>
            Br v43 (
              S.op (.load 75 v8_b) w (fun v47 w =>
              S.call (.fn 45) [v47, s13_i] w (fun v49 w =>
              S.op (.buildSlice 22 1 [(0, v49)]) w (fun v50 w =>
              S.op (.blt Builtin.append [22, 22] 22 [s4_what, v50]) w (fun v51 w =>
              S.op (.bin BinOp.add 3 false true s13_i (Value.int IntKind.i64 1)) w (fun v45 w =>
              I13 v51 v45 w ∧ μ13 v51 v45 w < μ13 s4_what s13_i wl13) Kp) Kp) Kp) Kp) Kp) (
              S.op (.load 75 v8_b) w (fun v52 w =>
              S.call (.fn 46) [v52] w (fun v53 w =>
              Lp fun (I17 : Value → World → Prop) (μ17 : Value → World → Nat) => I17 (Value.slice none 0 0) w ∧
              ∀ (wl17 : World) (junk : Nat → Value) (s6_walked : Value), I17 s6_walked wl17 →
                S.call (.fn 28) [v53] wl17 (fun v55 w =>
                S.op (.un UnOp.not v55) w (fun v56 w =>
                Br v56 (
                  S.call (.fn 31) [v53] w (fun v59 w =>
                  S.op (.extract v59 0) w (fun v60 w =>
                  S.op (.extract v59 1) w (fun v61 w =>
                  S.op (.buildSlice 22 1 [(0, v61)]) w (fun v64 w =>
                  S.op (.blt Builtin.append [22, 22] 22 [s6_walked, v64]) w (fun v65 w =>
                  I17 v65 w ∧ μ17 v65 w < μ17 s6_walked wl17) Kp) Kp) Kp) Kp) Kp) (
                  S.op (.load 75 v8_b) w (fun v67 w =>
                  S.call (.fn 47) [v67] w (fun v68 w =>
                  S.call (.fn 26) [v68] w (fun v69 w =>
                  K (Value.tuple #[s4_what, v69, s6_walked, s7_panicked]) w) Kp) Kp) Kp)) Kp) Kp) Kp) Kp)) Kp) Kp) Kp)) Kp) Kp)) Kp) Kp) Kp) Kp) Kp
theorem vc21_eq (S : Sig) (a0 a1 : Value) (w : World) (K : Value → World → Prop) (Kp : KP) : vc21 S a0 a1 w K Kp = fVC S [(3, [20]), (8, [7, 30]), (13, [4, 13]), (17, [6])] [] Try.f21 [a0, a1] w K Kp := by kernel_rfl
theorem vc21_calls {a0 a1 : Value} {w : World} {K : Value → World → Prop} {Kp : KP} (h : vc21 (nice Try.prog) a0 a1 w K Kp) : Calls Try.prog 21 #[a0, a1] w (ret K Kp) :=
  fVC_sound (args := [a0, a1]) nice_le follows_mixed Try.func21 (by kernel_rfl) (Eq.mp (vc21_eq _ _ _ _ _ _) h)

/-- slices.Contains[[]bool,bool] -/
def vc22 (S : Sig) (a0 a1 : Value) (w : World) (K : Value → World → Prop) (Kp : KP) : Prop :=
  S.call (.fn 48) [a0, a1] w (fun v7 w =>
  S.op (.bin BinOp.geq 3 false true v7 (Value.int IntKind.i64 0)) w (fun v8 w =>
  K v8 w) Kp) Kp
theorem vc22_eq (S : Sig) (a0 a1 : Value) (w : World) (K : Value → World → Prop) (Kp : KP) : vc22 S a0 a1 w K Kp = fVC S [] [] Try.f22 [a0, a1] w K Kp := by kernel_rfl
theorem vc22_calls {a0 a1 : Value} {w : World} {K : Value → World → Prop} {Kp : KP} (h : vc22 (nice Try.prog) a0 a1 w K Kp) : Calls Try.prog 22 #[a0, a1] w (ret K Kp) :=
  fVC_sound (args := [a0, a1]) nice_le follows_mixed Try.func22 (by kernel_rfl) (Eq.mp (vc22_eq _ _ _ _ _ _) h)

/-- pub-bracken/spec.ListFits -/
def vc23 (S : Sig) (a0 a1 : Value) (w : World) (K : Value → World → Prop) (Kp : KP) : Prop :=
  S.op (.blt Builtin.len [22] 3 [a0]) w (fun v10 w =>
  S.op (.bin BinOp.gtr 3 false true v10 (Value.int IntKind.i64 6000)) w (fun v11 w =>
  Br v11 (
    K (Value.bool false) w) (
    S.op (.blt Builtin.len [22] 3 [a0]) w (fun v13 w =>
    S.op (.buildSlice 85 1 [(0, v13)]) w (fun v14 w =>
    S.op (.blt Builtin.len [33] 3 [a1]) w (fun v16 w =>
    Lp fun (I5 : Value → Value → World → Prop) (μ5 : Value → Value → World → Nat) => I5 v14 (Value.int IntKind.i64 0) w ∧
    ∀ (wl5 : World) (junk : Nat → Value) (s5_sizes : Value) (s17_ : Value), I5 s5_sizes s17_ wl5 →
      S.op (.bin BinOp.lss 3 false false s17_ v16) wl5 (fun v18 w =>
      Br v18 (
        S.op (.indexAddr 33 a1 s17_) w (fun v19 w =>
        S.op (.load 59 v19) w (fun v20 w =>
        S.op (.alloc 59) w (fun v7_s w =>
        S.op (.store 59 v7_s v20) w (fun _ w =>
        S.op (.fieldAddr 59 v7_s 0) w (fun v21 w =>
        S.op (.load 5 v21) w (fun v22 w =>
        S.op (.bin BinOp.gtr 5 false true v22 (Value.int IntKind.u8 5)) w (fun v23 w =>
        Br v23 (
          K (Value.bool false) w) (
          S.op (.fieldAddr 59 v7_s 1) w (fun v25 w =>
          S.op (.load 3 v25) w (fun v26 w =>
          S.op (.bin BinOp.lss 3 false true v26 (Value.int IntKind.i64 0)) w (fun v27 w =>
          Br v27 (
            K (Value.bool false) w) (
            S.op (.fieldAddr 59 v7_s 1) w (fun v30 w =>
            S.op (.load 3 v30) w (fun v31 w =>
            S.op (.blt Builtin.len [85] 3 [s5_sizes]) w (fun v33 w =>
            S.op (.bin BinOp.geq 3 false false v31 v33) w (fun v34 w =>
            Br v34 (
              K (Value.bool false) w) (
              S.op (.fieldAddr 59 v7_s 1) w (fun v37 w =>
              S.op (.load 3 v37) w (fun v38 w =>
              S.op (.indexAddr 85 s5_sizes v38) w (fun v39 w =>
              S.op (.load 3 v39) w (fun v40 w =>
              Jn fun (J22 : Value → World → Prop) =>
              (S.op (.fieldAddr 59 v7_s 0) w (fun v41 w =>
                S.op (.load 5 v41) w (fun v42 w =>
                Jn fun (J13 : Value → World → Prop) =>
                (S.op (.bin BinOp.eql 5 false true v42 (Value.int IntKind.u8 0)) w (fun v44 w =>
                  Br v44 (
                    J13 v44 w) (
                    S.op (.bin BinOp.eql 5 false true v42 (Value.int IntKind.u8 1)) w (fun v45 w =>
                    J13 v45 w) Kp)) Kp) ∧
                (∀ (w : World) (junk : Nat → Value) (j43_ : Value), J13 j43_ w →
                  Br j43_ (
                    S.op (.bin BinOp.add 3 false true v40 (Value.int IntKind.i64 1)) w (fun v47 w =>
                    J22 v47 w) Kp) (
                    Jn fun (J16 : Value → World → Prop) =>
                    (S.op (.bin BinOp.eql 5 false true v42 (Value.int IntKind.u8 4)) w (fun v49 w =>
                      Br v49 (
                        J16 v49 w) (
                        S.op (.bin BinOp.eql 5 false true v42 (Value.int IntKind.u8 5)) w (fun v50 w =>
                        J16 v50 w) Kp)) Kp) ∧
                    (∀ (w : World) (junk : Nat → Value) (j48_ : Value), J16 j48_ w →
                      Br j48_ (
                        S.op (.fieldAddr 59 v7_s 2) w (fun v51 w =>
                        S.op (.load 3 v51) w (fun v52 w =>
                        S.op (.bin BinOp.lss 3 false true v52 (Value.int IntKind.i64 0)) w (fun v53 w =>
                        Br v53 (
                          K (Value.bool false) w) (
                          S.op (.fieldAddr 59 v7_s 2) w (fun v55 w =>
                          S.op (.load 3 v55) w (fun v56 w =>
                          S.op (.bin BinOp.gtr 3 false true v56 (Value.int IntKind.i64 6000)) w (fun v57 w =>
                          Br v57 (
                            K (Value.bool false) w) (
                            S.op (.fieldAddr 59 v7_s 2) w (fun v60 w =>
                            S.op (.load 3 v60) w (fun v61 w =>
                            S.op (.bin BinOp.add 3 false false v40 v61) w (fun v62 w =>
                            J22 v62 w) Kp) Kp) Kp)) Kp) Kp) Kp)) Kp) Kp) Kp) (
                        S.op (.bin BinOp.eql 5 false true v42 (Value.int IntKind.u8 3)) w (fun v64 w =>
                        Br v64 (
                          S.op (.fieldAddr 59 v7_s 2) w (fun v65 w =>
                          S.op (.load 3 v65) w (fun v66 w =>
                          S.op (.bin BinOp.geq 3 false true v66 (Value.int IntKind.i64 0)) w (fun v67 w =>
                          Br v67 (
                            S.op (.fieldAddr 59 v7_s 2) w (fun v69 w =>
                            S.op (.load 3 v69) w (fun v70 w =>
                            S.op (.fieldAddr 59 v7_s 3) w (fun v71 w =>
                            S.op (.load 3 v71) w (fun v72 w =>
                            S.op (.bin BinOp.leq 3 false false v70 v72) w (fun v73 w =>
                            Br v73 (
                              S.op (.fieldAddr 59 v7_s 3) w (fun v76 w =>
                              S.op (.load 3 v76) w (fun v77 w =>
                              S.op (.bin BinOp.leq 3 false false v77 v40) w (fun v79 w =>
                              Br v79 (
                                S.op (.fieldAddr 59 v7_s 3) w (fun v81 w =>
                                S.op (.load 3 v81) w (fun v82 w =>
                                S.op (.fieldAddr 59 v7_s 2) w (fun v83 w =>
                                S.op (.load 3 v83) w (fun v84 w =>
                                S.op (.bin BinOp.sub 3 false false v82 v84) w (fun v85 w =>
                                J22 v85 w) Kp) Kp) Kp) Kp) Kp) (
                                J22 v40 w)) Kp) Kp) Kp) (
                              J22 v40 w)) Kp) Kp) Kp) Kp) Kp) (
                            J22 v40 w)) Kp) Kp) Kp) (
                          J22 v40 w)) Kp))))) Kp) Kp) ∧
              (∀ (w : World) (junk : Nat → Value) (j8_n : Value), J22 j8_n w →
                S.op (.bin BinOp.gtr 3 false true j8_n (Value.int IntKind.i64 6000)) w (fun v87 w =>
                Br v87 (
                  K (Value.bool false) w) (
                  S.op (.buildSlice 85 1 [(0, j8_n)]) w (fun v90 w =>
                  S.op (.blt Builtin.append [85, 85] 85 [s5_sizes, v90]) w (fun v91 w =>
                  S.op (.bin BinOp.add 3 false true s17_ (Value.int IntKind.i64 1)) w (fun v92 w =>
                  I5 v91 v92 w ∧ μ5 v91 v92 w < μ5 s5_sizes s17_ wl5) Kp) Kp) Kp)) Kp)) Kp) Kp) Kp) Kp)) Kp) Kp) Kp) Kp)) Kp) Kp) Kp)) Kp) Kp) Kp) Kp) Kp) Kp) Kp) (
        K (Value.bool true) w)) Kp) Kp) Kp) Kp)) Kp) Kp
theorem vc23_eq (S : Sig) (a0 a1 : Value) (w : World) (K : Value → World → Prop) (Kp : KP) : vc23 S a0 a1 w K Kp = fVC S [(5, [5, 17])] [(22, [8]), (13, [43]), (16, [48])] Try.f23 [a0, a1] w K Kp := by kernel_rfl
theorem vc23_calls {a0 a1 : Value} {w : World} {K : Value → World → Prop} {Kp : KP} (h : vc23 (nice Try.prog) a0 a1 w K Kp) : Calls Try.prog 23 #[a0, a1] w (ret K Kp) :=
  fVC_sound (args := [a0, a1]) nice_le follows_mixed Try.func23 (by kernel_rfl) (Eq.mp (vc23_eq _ _ _ _ _ _) h)

/-- pub-bracken/spec.ListAfter -/
def vc24 (S : Sig) (a0 a1 : Value) (w : World) (K : Value → World → Prop) (Kp : KP) : Prop :=
  S.op (.box 59 a1) w (fun v3_s w =>
  S.op (.fieldAddr 59 v3_s 0) w (fun v8 w =>
  S.op (.load 5 v8) w (fun v9 w =>
  S.op (.bin BinOp.eql 5 false true v9 (Value.int IntKind.u8 0)) w (fun v11 w =>
  Br v11 (
    S.pur (.fieldAddr 59 v3_s 4) (fun v14 =>
    S.ld (.load 2 v14) w.drew (fun v15 =>
    (S.call (.fn 49) [a0] w.drew (fun v13 w =>
      S.same (.load 2 v14) v15 w ∧
      S.op (.buildSlice 22 1 [(0, v15)]) w (fun v16 w =>
      S.op (.blt Builtin.append [22, 22] 22 [v13, v16]) w (fun v17 w =>
      K (Value.tuple #[v17, (Value.bool true)]) w) Kp) Kp) Kp) ∧ (S.op (.buildSlice 22 1 [(0, v15)]) w.drew (fun v16 w =>
      S.call (.fn 49) [a0] w (fun v13 w =>
      S.op (.blt Builtin.append [22, 22] 22 [v13, v16]) w (fun v17 w =>
      K (Value.tuple #[v17, (Value.bool true)]) w) Kp) Kp) Kp)))) (
    S.op (.bin BinOp.eql 5 false true v9 (Value.int IntKind.u8 1)) w (fun v19 w =>
    Br v19 (
      S.op (.fieldAddr 59 v3_s 4) w (fun v20 w =>
      S.op (.load 2 v20) w (fun v21 w =>
      S.op (.buildSlice 22 1 [(0, v21)]) w (fun v22 w =>
      S.op (.blt Builtin.append [22, 22] 22 [v22, a0]) w (fun v24 w =>
      K (Value.tuple #[v24, (Value.bool true)]) w) Kp) Kp) Kp) Kp) (
      S.op (.bin BinOp.eql 5 false true v9 (Value.int IntKind.u8 2)) w (fun v26 w =>
      Br v26 (
        S.op (.fieldAddr 59 v3_s 2) w (fun v27 w =>
        S.op (.load 3 v27) w (fun v28 w =>
        S.op (.bin BinOp.lss 3 false true v28 (Value.int IntKind.i64 0)) w (fun v29 w =>
        Br v29 (
          K (Value.tuple #[a0, (Value.bool false)]) w) (
          S.op (.fieldAddr 59 v3_s 2) w (fun v31 w =>
          S.op (.load 3 v31) w (fun v32 w =>
          S.op (.blt Builtin.len [22] 3 [a0]) w (fun v34 w =>
          S.op (.bin BinOp.geq 3 false false v32 v34) w (fun v35 w =>
          Br v35 (
            K (Value.tuple #[a0, (Value.bool false)]) w) (
            S.call (.fn 49) [a0] w (fun v39 w =>
            S.op (.fieldAddr 59 v3_s 2) w (fun v41 w =>
            S.op (.load 3 v41) w (fun v42 w =>
            S.op (.fieldAddr 59 v3_s 4) w (fun v43 w =>
            S.op (.load 2 v43) w (fun v44 w =>
            S.op (.indexAddr 22 v39 v42) w (fun v45 w =>
            S.op (.store 2 v45 v44) w (fun _ w =>
            K (Value.tuple #[v39, (Value.bool true)]) w) Kp) Kp) Kp) Kp) Kp) Kp) Kp)) Kp) Kp) Kp) Kp)) Kp) Kp) Kp) (
        S.op (.bin BinOp.eql 5 false true v9 (Value.int IntKind.u8 3)) w (fun v48 w =>
        Br v48 (
          S.op (.fieldAddr 59 v3_s 2) w (fun v49 w =>
          S.op (.load 3 v49) w (fun v50 w =>
          S.op (.bin BinOp.lss 3 false true v50 (Value.int IntKind.i64 0)) w (fun v51 w =>
          Br v51 (
            K (Value.tuple #[a0, (Value.bool false)]) w) (
            S.op (.fieldAddr 59 v3_s 3) w (fun v53 w =>
            S.op (.load 3 v53) w (fun v54 w =>
            S.op (.bin BinOp.lss 3 false true v54 (Value.int IntKind.i64 0)) w (fun v55 w =>
            Br v55 (
              K (Value.tuple #[a0, (Value.bool false)]) w) (
              S.op (.fieldAddr 59 v3_s 2) w (fun v58 w =>
              S.op (.load 3 v58) w (fun v59 w =>
              S.op (.fieldAddr 59 v3_s 3) w (fun v60 w =>
              S.op (.load 3 v60) w (fun v61 w =>
              S.op (.bin BinOp.gtr 3 false false v59 v61) w (fun v62 w =>
              Br v62 (
                K (Value.tuple #[a0, (Value.bool false)]) w) (
                S.op (.fieldAddr 59 v3_s 3) w (fun v65 w =>
                S.op (.load 3 v65) w (fun v66 w =>
                S.op (.blt Builtin.len [22] 3 [a0]) w (fun v68 w =>
                S.op (.bin BinOp.gtr 3 false false v66 v68) w (fun v69 w =>
                Br v69 (
                  K (Value.tuple #[a0, (Value.bool false)]) w) (
                  S.op (.fieldAddr 59 v3_s 2) w (fun v73 w =>
                  S.op (.load 3 v73) w (fun v74 w =>
                  S.op (.fieldAddr 59 v3_s 3) w (fun v75 w =>
                  S.op (.load 3 v75) w (fun v76 w =>
                  S.op (.slice 22 a0 (some v74) (some v76) none) w (fun v77 w =>
                  S.call (.fn 49) [v77] w (fun v78 w =>
                  K (Value.tuple #[v78, (Value.bool true)]) w) Kp) Kp) Kp) Kp) Kp) Kp)) Kp) Kp) Kp) Kp)) Kp) Kp) Kp) Kp) Kp)) Kp) Kp) Kp)) Kp) Kp) Kp) (
          S.op (.fieldAddr 59 v3_s 2) w (fun v79 w =>
          S.op (.load 3 v79) w (fun v80 w =>
          Lp fun (I18 : Value → Value → World → Prop) (μ18 : Value → Value → World → Nat) => I18 (Value.slice none 0 0) (Value.int IntKind.i64 0) w ∧
          ∀ (wl18 : World) (junk : Nat → Value) (s6_more : Value) (s81_ : Value), I18 s6_more s81_ wl18 →
            S.op (.bin BinOp.lss 3 false false s81_ v80) wl18 (fun v82 w =>
            Br v82 (
              S.op (.fieldAddr 59 v3_s 4) w (fun v85 w =>
              S.op (.load 2 v85) w (fun v86 w =>
              S.op (.bin BinOp.add 2 false false v86 s81_) w (fun v88 w =>
              S.op (.buildSlice 22 1 [(0, v88)]) w (fun v89 w =>
              S.op (.blt Builtin.append [22, 22] 22 [s6_more, v89]) w (fun v90 w =>
              S.op (.bin BinOp.add 3 false true s81_ (Value.int IntKind.i64 1)) w (fun v91 w =>
              I18 v90 v91 w ∧ μ18 v90 v91 w < μ18 s6_more s81_ wl18) Kp) Kp) Kp) Kp) Kp) Kp) (
              S.op (.fieldAddr 59 v3_s 0) w (fun v92 w =>
              S.op (.load 5 v92) w (fun v93 w =>
              S.op (.bin BinOp.eql 5 false true v93 (Value.int IntKind.u8 4)) w (fun v94 w =>
              Br v94 (
                S.call (.fn 49) [a0] w (fun v96 w =>
                S.op (.blt Builtin.append [22, 22] 22 [v96, s6_more]) w (fun v98 w =>
                K (Value.tuple #[v98, (Value.bool true)]) w) Kp) Kp) (
                S.call (.fn 50) [s6_more] w (fun v100 w =>
                S.op (.blt Builtin.append [22, 22] 22 [s6_more, a0]) w (fun v103 w =>
                K (Value.tuple #[v103, (Value.bool true)]) w) Kp) Kp)) Kp) Kp) Kp)) Kp) Kp) Kp)) Kp)) Kp)) Kp)) Kp) Kp) Kp) Kp
theorem vc24_eq (S : Sig) (a0 a1 : Value) (w : World) (K : Value → World → Prop) (Kp : KP) : vc24 S a0 a1 w K Kp = fVC S [(18, [6, 81])] [] Try.f24 [a0, a1] w K Kp := by kernel_rfl
theorem vc24_calls {a0 a1 : Value} {w : World} {K : Value → World → Prop} {Kp : KP} (h : vc24 (nice Try.prog) a0 a1 w K Kp) : Calls Try.prog 24 #[a0, a1] w (ret K Kp) :=
  fVC_sound (args := [a0, a1]) nice_le follows_mixed Try.func24 (by kernel_rfl) (Eq.mp (vc24_eq _ _ _ _ _ _) h)

/-- pub-bracken/impl.versionsOf -/
def vc25 (S : Sig) (a0 a1 : Value) (w : World) (K : Value → World → Prop) (Kp : KP) : Prop :=
  S.call (.fn 51) [a0] w (fun v13 w =>
  S.op (.buildSlice 64 1 [(0, v13)]) w (fun v14 w =>
  S.op (.blt Builtin.append [64, 64] 64 [(Value.slice none 0 0), v14]) w (fun v15 w =>
  S.op (.blt Builtin.len [27] 3 [a1]) w (fun v17 w =>
  Lp fun (I3 : Value → Value → Value → World → Prop) (μ3 : Value → Value → Value → World → Nat) => I3 v15 (Value.slice none 0 0) (Value.int IntKind.i64 0) w ∧
  ∀ (wl3 : World) (junk : Nat → Value) (s4_l : Value) (s5_panicked : Value) (s18_ : Value), I3 s4_l s5_panicked s18_ wl3 →
    S.op (.bin BinOp.lss 3 false false s18_ v17) wl3 (fun v19 w =>
    Br v19 (
      S.op (.indexAddr 27 a1 s18_) w (fun v20 w =>
      S.op (.load 26 v20) w (fun v21 w =>
      S.op (.alloc 26) w (fun v7_s w =>
      S.op (.store 26 v7_s v21) w (fun _ w =>
      S.call (.fn 51) [(Value.slice none 0 0)] w (fun v22 w =>
      S.op (.alloc 67) w (fun v8_x w =>
      S.op (.store 67 v8_x v22) w (fun _ w =>
      Jn fun (J12 : Value → World → Prop) =>
      (S.op (.fieldAddr 26 v7_s 1) w (fun v23 w =>
        S.op (.load 3 v23) w (fun v24 w =>
        S.op (.bin BinOp.geq 3 false true v24 (Value.int IntKind.i64 0)) w (fun v25 w =>
        Br v25 (
          S.op (.fieldAddr 26 v7_s 1) w (fun v27 w =>
          S.op (.load 3 v27) w (fun v28 w =>
          S.op (.blt Builtin.len [64] 3 [s4_l]) w (fun v30 w =>
          S.op (.bin BinOp.lss 3 false false v28 v30) w (fun v31 w =>
          Br v31 (
            S.op (.fieldAddr 26 v7_s 0) w (fun v34 w =>
            S.op (.load 5 v34) w (fun v35 w =>
            S.op (.bin BinOp.neq 5 false true v35 (Value.int IntKind.u8 4)) w (fun v36 w =>
            Br v36 (
              S.op (.fieldAddr 26 v7_s 0) w (fun v38 w =>
              S.op (.load 5 v38) w (fun v39 w =>
              S.op (.bin BinOp.neq 5 false true v39 (Value.int IntKind.u8 5)) w (fun v40 w =>
              Br v40 (
                S.op (.fieldAddr 26 v7_s 0) w (fun v54 w =>
                S.op (.load 5 v54) w (fun v55 w =>
                S.op (.bin BinOp.leq 5 false true v55 (Value.int IntKind.u8 5)) w (fun v56 w =>
                Br v56 (
                  S.op (.fieldAddr 26 v7_s 1) w (fun v59 w =>
                  S.op (.load 3 v59) w (fun v60 w =>
                  S.op (.indexAddr 64 s4_l v60) w (fun v61 w =>
                  S.op (.load 67 v61) w (fun v62 w =>
                  S.op (.alloc 67) w (fun v10_from w =>
                  S.op (.store 67 v10_from v62) w (fun _ w =>
                  S.op (.mkFunc (Fn.func 52) [] [v7_s, v10_from, v8_x]) w (fun v63 w =>
                  S.call (.fn 29) [v63] w (fun v64 w =>
                  Br v64 (
                    S.op (.load 67 v10_from) w (fun v66 w =>
                    S.op (.store 67 v8_x v66) w (fun _ w =>
                    J12 v64 w) Kp) Kp) (
                    J12 v64 w)) Kp) Kp) Kp) Kp) Kp) Kp) Kp) Kp) (
                  J12 (Value.bool false) w)) Kp) Kp) Kp) (
                S.op (.fieldAddr 26 v7_s 2) w (fun v43 w =>
                S.op (.load 3 v43) w (fun v44 w =>
                S.op (.bin BinOp.geq 3 false true v44 (Value.int IntKind.i64 0)) w (fun v45 w =>
                Br v45 (
                  S.op (.fieldAddr 26 v7_s 2) w (fun v47 w =>
                  S.op (.load 3 v47) w (fun v48 w =>
                  S.op (.bin BinOp.leq 3 false true v48 (Value.int IntKind.i64 100000)) w (fun v49 w =>
                  Br v49 (
                    S.op (.fieldAddr 26 v7_s 0) w (fun v54 w =>
                    S.op (.load 5 v54) w (fun v55 w =>
                    S.op (.bin BinOp.leq 5 false true v55 (Value.int IntKind.u8 5)) w (fun v56 w =>
                    Br v56 (
                      S.op (.fieldAddr 26 v7_s 1) w (fun v59 w =>
                      S.op (.load 3 v59) w (fun v60 w =>
                      S.op (.indexAddr 64 s4_l v60) w (fun v61 w =>
                      S.op (.load 67 v61) w (fun v62 w =>
                      S.op (.alloc 67) w (fun v10_from w =>
                      S.op (.store 67 v10_from v62) w (fun _ w =>
                      S.op (.mkFunc (Fn.func 52) [] [v7_s, v10_from, v8_x]) w (fun v63 w =>
                      S.call (.fn 29) [v63] w (fun v64 w =>
                      Br v64 (
                        S.op (.load 67 v10_from) w (fun v66 w =>
                        S.op (.store 67 v8_x v66) w (fun _ w =>
                        J12 v64 w) Kp) Kp) (
                        J12 v64 w)) Kp) Kp) Kp) Kp) Kp) Kp) Kp) Kp) (
                      J12 (Value.bool false) w)) Kp) Kp) Kp) (
                    J12 (Value.bool false) w)) Kp) Kp) Kp) (
                  J12 (Value.bool false) w)) Kp) Kp) Kp)) Kp) Kp) Kp) (
              S.op (.fieldAddr 26 v7_s 2) w (fun v43 w =>
              S.op (.load 3 v43) w (fun v44 w =>
              S.op (.bin BinOp.geq 3 false true v44 (Value.int IntKind.i64 0)) w (fun v45 w =>
              Br v45 (
                S.op (.fieldAddr 26 v7_s 2) w (fun v47 w =>
                S.op (.load 3 v47) w (fun v48 w =>
                S.op (.bin BinOp.leq 3 false true v48 (Value.int IntKind.i64 100000)) w (fun v49 w =>
                Br v49 (
                  S.op (.fieldAddr 26 v7_s 0) w (fun v54 w =>
                  S.op (.load 5 v54) w (fun v55 w =>
                  S.op (.bin BinOp.leq 5 false true v55 (Value.int IntKind.u8 5)) w (fun v56 w =>
                  Br v56 (
                    S.op (.fieldAddr 26 v7_s 1) w (fun v59 w =>
                    S.op (.load 3 v59) w (fun v60 w =>
                    S.op (.indexAddr 64 s4_l v60) w (fun v61 w =>
                    S.op (.load 67 v61) w (fun v62 w =>
                    S.op (.alloc 67) w (fun v10_from w =>
                    S.op (.store 67 v10_from v62) w (fun _ w =>
                    S.op (.mkFunc (Fn.func 52) [] [v7_s, v10_from, v8_x]) w (fun v63 w =>
                    S.call (.fn 29) [v63] w (fun v64 w =>
                    Br v64 (
                      S.op (.load 67 v10_from) w (fun v66 w =>
                      S.op (.store 67 v8_x v66) w (fun _ w =>
                      J12 v64 w) Kp) Kp) (
                      J12 v64 w)) Kp) Kp) Kp) Kp) Kp) Kp) Kp) Kp) (
                    J12 (Value.bool false) w)) Kp) Kp) Kp) (
                  J12 (Value.bool false) w)) Kp) Kp) Kp) (
                J12 (Value.bool false) w)) Kp) Kp) Kp)) Kp) Kp) Kp) (
            J12 (Value.bool false) w)) Kp) Kp) Kp) Kp) (
          J12 (Value.bool false) w)) Kp) Kp) Kp) ∧
      (∀ (w : World) (junk : Nat → Value) (j9_p : Value), J12 j9_p w →
        S.op (.load 67 v8_x) w (fun v68 w =>
        S.op (.buildSlice 64 1 [(0, v68)]) w (fun v69 w =>
        S.op (.blt Builtin.append [64, 64] 64 [s4_l, v69]) w (fun v70 w =>
        S.op (.buildSlice 36 1 [(0, j9_p)]) w (fun v73 w =>
        S.op (.blt Builtin.append [36, 36] 36 [s5_panicked, v73]) w (fun v74 w =>
        S.op (.bin BinOp.add 3 false true s18_ (Value.int IntKind.i64 1)) w (fun v75 w =>
        I3 v70 v74 v75 w ∧ μ3 v70 v74 v75 w < μ3 s4_l s5_panicked s18_ wl3) Kp) Kp) Kp) Kp) Kp) Kp)) Kp) Kp) Kp) Kp) Kp) Kp) Kp) (
      K (Value.tuple #[s4_l, s5_panicked]) w)) Kp) Kp) Kp) Kp) Kp
theorem vc25_eq (S : Sig) (a0 a1 : Value) (w : World) (K : Value → World → Prop) (Kp : KP) : vc25 S a0 a1 w K Kp = fVC S [(3, [4, 5, 18])] [(12, [9])] Try.f25 [a0, a1] w K Kp := by kernel_rfl
theorem vc25_calls {a0 a1 : Value} {w : World} {K : Value → World → Prop} {Kp : KP} (h : vc25 (nice Try.prog) a0 a1 w K Kp) : Calls Try.prog 25 #[a0, a1] w (ret K Kp) :=
  fVC_sound (args := [a0, a1]) nice_le follows_mixed Try.func25 (by kernel_rfl) (Eq.mp (vc25_eq _ _ _ _ _ _) h)

/-- pub-bracken/impl.got -/
def vc26 (S : Sig) (a0 : Value) (w : World) (K : Value → World → Prop) (Kp : KP) : Prop :=
  Lp fun (I3 : Value → Value → World → Prop) (μ3 : Value → Value → World → Nat) => I3 (Value.slice none 0 0) (Value.int IntKind.i64 0) w ∧
  ∀ (wl3 : World) (junk : Nat → Value) (s3_out : Value) (s4_i : Value), I3 s3_out s4_i wl3 →
    S.call (.fn 57) [a0] wl3 (fun v7 w =>
    S.op (.bin BinOp.lss 3 false false s4_i v7) w (fun v8 w =>
    Br v8 (
      S.call (.fn 58) [a0, s4_i] w (fun v14 w =>
      S.op (.buildSlice 22 1 [(0, v14)]) w (fun v15 w =>
      S.op (.blt Builtin.append [22, 22] 22 [s3_out, v15]) w (fun v16 w =>
      S.op (.bin BinOp.add 3 false true s4_i (Value.int IntKind.i64 1)) w (fun v10 w =>
      I3 v16 v10 w ∧ μ3 v16 v10 w < μ3 s3_out s4_i wl3) Kp) Kp) Kp) Kp) (
      K s3_out w)) Kp) Kp
theorem vc26_eq (S : Sig) (a0 : Value) (w : World) (K : Value → World → Prop) (Kp : KP) : vc26 S a0 w K Kp = fVC S [(3, [3, 4])] [] Try.f26 [a0] w K Kp := by kernel_rfl
theorem vc26_calls {a0 : Value} {w : World} {K : Value → World → Prop} {Kp : KP} (h : vc26 (nice Try.prog) a0 w K Kp) : Calls Try.prog 26 #[a0] w (ret K Kp) :=
  fVC_sound (args := [a0]) nice_le follows_mixed Try.func26 (by kernel_rfl) (Eq.mp (vc26_eq _ _ _ _ _) h)

/-- (*pub-bracken/pub/immutable.List[int64]).Iterator -/
def vc27 (S : Sig) (a0 : Value) (w : World) (K : Value → World → Prop) (Kp : KP) : Prop :=
  S.op (.build 98 [(0, a0)]) w (fun v5 w =>
  S.op (.box 98 v5) w (fun v6 w =>
  S.call (.fn 33) [v6] w (fun v8 w =>
  K v6 w) Kp) Kp) Kp
theorem vc27_eq (S : Sig) (a0 : Value) (w : World) (K : Value → World → Prop) (Kp : KP) : vc27 S a0 w K Kp = fVC S [] [] Try.f27 [a0] w K Kp := by kernel_rfl
theorem vc27_calls {a0 : Value} {w : World} {K : Value → World → Prop} {Kp : KP} (h : vc27 (nice Try.prog) a0 w K Kp) : Calls Try.prog 27 #[a0] w (ret K Kp) :=
  fVC_sound (args := [a0]) nice_le follows_mixed Try.func27 (by kernel_rfl) (Eq.mp (vc27_eq _ _ _ _ _) h)

/-- (*pub-bracken/pub/immutable.ListIterator[int64]).Done -/
def vc28 (S : Sig) (a0 : Value) (w : World) (K : Value → World → Prop) (Kp : KP) : Prop :=
  S.pur (.nilCheck a0) (fun v4 =>
  S.pur (.fieldAddr 98 v4 1) (fun v5 =>
  S.ld (.load 3 v5) w.drew (fun v6 =>
  S.pur (.bin BinOp.lss 3 false true v6 (Value.int IntKind.i64 0)) (fun v7 =>
  Br v7 (
    K (Value.bool true) w.drew) (
    S.pur (.nilCheck a0) (fun v10 =>
    S.pur (.fieldAddr 98 v10 1) (fun v11 =>
    S.ld (.load 3 v11) w.drew (fun v12 =>
    S.pur (.nilCheck a0) (fun v14 =>
    S.pur (.fieldAddr 98 v14 0) (fun v15 =>
    S.ld (.load 67 v15) w.drew (fun v16 =>
    S.call (.fn 57) [v16] w.drew (fun v17 w =>
    S.same (.load 3 v11) v12 w ∧
    S.pur (.bin BinOp.geq 3 false false v12 v17) (fun v18 =>
    K v18 w)) Kp)))))))))))
theorem vc28_eq (S : Sig) (a0 : Value) (w : World) (K : Value → World → Prop) (Kp : KP) : vc28 S a0 w K Kp = fVC S [] [] Try.f28 [a0] w K Kp := by kernel_rfl
theorem vc28_calls {a0 : Value} {w : World} {K : Value → World → Prop} {Kp : KP} (h : vc28 (nice Try.prog) a0 w K Kp) : Calls Try.prog 28 #[a0] w (ret K Kp) :=
  fVC_sound (args := [a0]) nice_le follows_mixed Try.func28 (by kernel_rfl) (Eq.mp (vc28_eq _ _ _ _ _) h)

/-- pub-bracken/impl.thrown -/
def vc29 (S : Sig) (a0 : Value) (w : World) (K : Value → World → Prop) (Kp : KP) : Prop :=
  S.op (.alloc 4) w (fun v2_is w =>
  S.op (.mkFunc (Fn.func 59) [] [v2_is]) w (fun v3 w =>
  False) Kp) Kp
theorem vc29_eq (S : Sig) (a0 : Value) (w : World) (K : Value → World → Prop) (Kp : KP) : vc29 S a0 w K Kp = fVC S [] [] Try.f29 [a0] w K Kp := by kernel_rfl
theorem vc29_calls {a0 : Value} {w : World} {K : Value → World → Prop} {Kp : KP} (h : vc29 (nice Try.prog) a0 w K Kp) : Calls Try.prog 29 #[a0] w (ret K Kp) :=
  fVC_sound (args := [a0]) nice_le follows_mixed Try.func29 (by kernel_rfl) (Eq.mp (vc29_eq _ _ _ _ _) h)

/-- pub-bracken/impl.ListIterate$1 -/
def vc30 (S : Sig) (a0 a1 a2 : Value) (w : World) (K : Value → World → Prop) (Kp : KP) : Prop :=
  S.op (.fieldAddr 43 a0 0) w (fun v3 w =>
  S.op (.load 5 v3) w (fun v4 w =>
  S.op (.bin BinOp.eql 5 false true v4 (Value.int IntKind.u8 0)) w (fun v6 w =>
  Br v6 (
    S.op (.load 69 a1) w (fun v8 w =>
    S.call (.fn 31) [v8] w (fun v9 w =>
    S.op (.extract v9 0) w (fun v10 w =>
    S.op (.extract v9 1) w (fun v11 w =>
    S.op (.fieldAddr 49 a2 0) w (fun v12 w =>
    S.op (.store 3 v12 v10) w (fun _ w =>
    S.op (.fieldAddr 49 a2 1) w (fun v13 w =>
    S.op (.store 2 v13 v11) w (fun _ w =>
    K (Value.tuple #[]) w) Kp) Kp) Kp) Kp) Kp) Kp) Kp) Kp) (
    S.op (.bin BinOp.eql 5 false true v4 (Value.int IntKind.u8 1)) w (fun v15 w =>
    Br v15 (
      S.op (.load 69 a1) w (fun v17 w =>
      S.call (.fn 32) [v17] w (fun v18 w =>
      S.op (.extract v18 0) w (fun v19 w =>
      S.op (.extract v18 1) w (fun v20 w =>
      S.op (.fieldAddr 49 a2 0) w (fun v21 w =>
      S.op (.store 3 v21 v19) w (fun _ w =>
      S.op (.fieldAddr 49 a2 1) w (fun v22 w =>
      S.op (.store 2 v22 v20) w (fun _ w =>
      K (Value.tuple #[]) w) Kp) Kp) Kp) Kp) Kp) Kp) Kp) Kp) (
      S.op (.bin BinOp.eql 5 false true v4 (Value.int IntKind.u8 2)) w (fun v24 w =>
      Br v24 (
        S.op (.load 69 a1) w (fun v25 w =>
        S.call (.fn 33) [v25] w (fun v26 w =>
        K (Value.tuple #[]) w) Kp) Kp) (
        S.op (.bin BinOp.eql 5 false true v4 (Value.int IntKind.u8 3)) w (fun v28 w =>
        Br v28 (
          S.op (.load 69 a1) w (fun v29 w =>
          S.call (.fn 34) [v29] w (fun v30 w =>
          K (Value.tuple #[]) w) Kp) Kp) (
          S.op (.bin BinOp.eql 5 false true v4 (Value.int IntKind.u8 4)) w (fun v32 w =>
          Br v32 (
            S.op (.load 69 a1) w (fun v33 w =>
            S.op (.fieldAddr 43 a0 1) w (fun v34 w =>
            S.op (.load 3 v34) w (fun v35 w =>
            S.call (.fn 35) [v33, v35] w (fun v36 w =>
            K (Value.tuple #[]) w) Kp) Kp) Kp) Kp) (
            K (Value.tuple #[]) w)) Kp)) Kp)) Kp)) Kp)) Kp) Kp) Kp
theorem vc30_eq (S : Sig) (a0 a1 a2 : Value) (w : World) (K : Value → World → Prop) (Kp : KP) : vc30 S a0 a1 a2 w K Kp = fVC S [] [] Try.f30 [a0, a1, a2] w K Kp := by kernel_rfl
theorem vc30_calls {a0 a1 a2 : Value} {w : World} {K : Value → World → Prop} {Kp : KP} (h : vc30 (nice Try.prog) a0 a1 a2 w K Kp) : Calls Try.prog 30 #[a0, a1, a2] w (ret K Kp) :=
  fVC_sound (args := [a0, a1, a2]) nice_le follows_mixed Try.func30 (by kernel_rfl) (Eq.mp (vc30_eq _ _ _ _ _ _ _) h)

/-- (*pub-bracken/pub/immutable.ListIterator[int64]).Next -/
def vc31 (S : Sig) (a0 : Value) (w : World) (K : Value → World → Prop) (Kp : KP) : Prop :=
  S.call (.fn 28) [a0] w (fun v7 w =>
  Br v7 (
    K (Value.tuple #[(Value.int IntKind.i64 (-1)), (Value.int IntKind.i64 0)]) w) (
    S.pur (.nilCheck a0) (fun v11 =>
    S.pur (.fieldAddr 98 v11 3) (fun v12 =>
    S.ld (.load 3 v12) w.drew (fun v13 =>
    S.pur (.nilCheck a0) (fun v14 =>
    S.pur (.fieldAddr 98 v14 2) (fun v15 =>
    S.pur (.indexAddr 96 v15 v13) (fun v16 =>
    S.pur (.nilCheck a0) (fun v18 =>
    S.pur (.fieldAddr 98 v18 1) (fun v19 =>
    S.ld (.load 3 v19) w.drew.drew (fun v20 =>
    S.pur (.nilCheck v16) (fun v22 =>
    S.pur (.fieldAddr 95 v22 0) (fun v23 =>
    S.ld (.load 93 v23) w.drew.drew (fun v24 =>
    S.pur (.tassert v24 93 104 false) (fun v25 =>
    S.pur (.nilCheck v16) (fun v27 =>
    S.pur (.fieldAddr 95 v27 1) (fun v28 =>
    S.ld (.load 3 v28) w.drew.drew (fun v29 =>
    S.pur (.nilCheck v25) (fun v30 =>
    S.pur (.fieldAddr 103 v30 0) (fun v31 =>
    S.pur (.indexAddr 100 v31 v29) (fun v32 =>
    S.ld (.load 2 v32) w.drew.drew (fun v33 =>
    S.same (.load 2 v32) v33 w.drew.drew ∧
    S.same (.load 3 v28) v29 w.drew.drew ∧
    S.same (.load 93 v23) v24 w.drew.drew ∧
    S.op (.nilCheck a0) w.drew.drew (fun v35 w =>
    S.op (.fieldAddr 98 v35 1) w (fun v36 w =>
    S.op (.load 3 v36) w (fun v37 w =>
    S.op (.bin BinOp.add 3 false true v37 (Value.int IntKind.i64 1)) w (fun v38 w =>
    S.op (.nilCheck a0) w (fun v39 w =>
    S.op (.fieldAddr 98 v39 1) w (fun v40 w =>
    S.op (.store 3 v40 v38) w (fun _ w =>
    S.call (.fn 28) [a0] w (fun v42 w =>
    Br v42 (
      K (Value.tuple #[v20, v33]) w) (
      Lp fun (I9 : World → Prop) (μ9 : World → Nat) => I9 w ∧
      ∀ (wl9 : World) (junk : Nat → Value), I9 wl9 →
        S.pur (.nilCheck a0) (fun v46 =>
        S.pur (.fieldAddr 98 v46 3) (fun v47 =>
        S.ld (.load 3 v47) wl9.drew (fun v48 =>
        S.pur (.bin BinOp.gtr 3 false true v48 (Value.int IntKind.i64 0)) (fun v49 =>
        Br v49 (
          S.pur (.nilCheck a0) (fun v53 =>
          S.pur (.fieldAddr 98 v53 3) (fun v54 =>
          S.ld (.load 3 v54) wl9.drew (fun v55 =>
          S.pur (.nilCheck a0) (fun v56 =>
          S.pur (.fieldAddr 98 v56 2) (fun v57 =>
          S.pur (.indexAddr 96 v57 v55) (fun v58 =>
          S.pur (.fieldAddr 95 v58 1) (fun v59 =>
          S.ld (.load 3 v59) wl9.drew (fun v60 =>
          S.pur (.bin BinOp.geq 3 false true v60 (Value.int IntKind.i64 31)) (fun v61 =>
          Br v61 (
            S.op (.nilCheck a0) wl9.drew (fun v64 w =>
            S.op (.fieldAddr 98 v64 3) w (fun v65 w =>
            S.op (.load 3 v65) w (fun v66 w =>
            S.op (.bin BinOp.sub 3 false true v66 (Value.int IntKind.i64 1)) w (fun v67 w =>
            S.op (.nilCheck a0) w (fun v68 w =>
            S.op (.fieldAddr 98 v68 3) w (fun v69 w =>
            S.op (.store 3 v69 v67) w (fun _ w =>
            I9 w ∧ μ9 w < μ9 wl9) Kp) Kp) Kp) Kp) Kp) Kp) Kp) (
            S.op (.nilCheck a0) wl9.drew (fun v72 w =>
            S.op (.fieldAddr 98 v72 1) w (fun v73 w =>
            S.op (.load 3 v73) w (fun v74 w =>
            S.call (.fn 60) [a0, v74] w (fun v75 w =>
            K (Value.tuple #[v20, v33]) w) Kp) Kp) Kp) Kp))))))))))) (
          S.op (.nilCheck a0) wl9.drew (fun v72 w =>
          S.op (.fieldAddr 98 v72 1) w (fun v73 w =>
          S.op (.load 3 v73) w (fun v74 w =>
          S.call (.fn 60) [a0, v74] w (fun v75 w =>
          K (Value.tuple #[v20, v33]) w) Kp) Kp) Kp) Kp))))))) Kp) Kp) Kp) Kp) Kp) Kp) Kp) Kp)))))))))))))))))))))) Kp
theorem vc31_eq (S : Sig) (a0 : Value) (w : World) (K : Value → World → Prop) (Kp : KP) : vc31 S a0 w K Kp = fVC S [(9, [])] [] Try.f31 [a0] w K Kp := by kernel_rfl
theorem vc31_calls {a0 : Value} {w : World} {K : Value → World → Prop} {Kp : KP} (h : vc31 (nice Try.prog) a0 w K Kp) : Calls Try.prog 31 #[a0] w (ret K Kp) :=
  fVC_sound (args := [a0]) nice_le follows_mixed Try.func31 (by kernel_rfl) (Eq.mp (vc31_eq _ _ _ _ _) h)

/-- (*pub-bracken/pub/immutable.ListIterator[int64]).Prev -/
def vc32 (S : Sig) (a0 : Value) (w : World) (K : Value → World → Prop) (Kp : KP) : Prop :=
  S.call (.fn 28) [a0] w (fun v7 w =>
  Br v7 (
    K (Value.tuple #[(Value.int IntKind.i64 (-1)), (Value.int IntKind.i64 0)]) w) (
    S.pur (.nilCheck a0) (fun v11 =>
    S.pur (.fieldAddr 98 v11 3) (fun v12 =>
    S.ld (.load 3 v12) w.drew (fun v13 =>
    S.pur (.nilCheck a0) (fun v14 =>
    S.pur (.fieldAddr 98 v14 2) (fun v15 =>
    S.pur (.indexAddr 96 v15 v13) (fun v16 =>
    S.pur (.nilCheck a0) (fun v18 =>
    S.pur (.fieldAddr 98 v18 1) (fun v19 =>
    S.ld (.load 3 v19) w.drew.drew (fun v20 =>
    S.pur (.nilCheck v16) (fun v22 =>
    S.pur (.fieldAddr 95 v22 0) (fun v23 =>
    S.ld (.load 93 v23) w.drew.drew (fun v24 =>
    S.pur (.tassert v24 93 104 false) (fun v25 =>
    S.pur (.nilCheck v16) (fun v27 =>
    S.pur (.fieldAddr 95 v27 1) (fun v28 =>
    S.ld (.load 3 v28) w.drew.drew (fun v29 =>
    S.pur (.nilCheck v25) (fun v30 =>
    S.pur (.fieldAddr 103 v30 0) (fun v31 =>
    S.pur (.indexAddr 100 v31 v29) (fun v32 =>
    S.ld (.load 2 v32) w.drew.drew (fun v33 =>
    S.same (.load 2 v32) v33 w.drew.drew ∧
    S.same (.load 3 v28) v29 w.drew.drew ∧
    S.same (.load 93 v23) v24 w.drew.drew ∧
    S.op (.nilCheck a0) w.drew.drew (fun v35 w =>
    S.op (.fieldAddr 98 v35 1) w (fun v36 w =>
    S.op (.load 3 v36) w (fun v37 w =>
    S.op (.bin BinOp.sub 3 false true v37 (Value.int IntKind.i64 1)) w (fun v38 w =>
    S.op (.nilCheck a0) w (fun v39 w =>
    S.op (.fieldAddr 98 v39 1) w (fun v40 w =>
    S.op (.store 3 v40 v38) w (fun _ w =>
    S.call (.fn 28) [a0] w (fun v42 w =>
    Br v42 (
      K (Value.tuple #[v20, v33]) w) (
      Lp fun (I9 : World → Prop) (μ9 : World → Nat) => I9 w ∧
      ∀ (wl9 : World) (junk : Nat → Value), I9 wl9 →
        S.pur (.nilCheck a0) (fun v46 =>
        S.pur (.fieldAddr 98 v46 3) (fun v47 =>
        S.ld (.load 3 v47) wl9.drew (fun v48 =>
        S.pur (.bin BinOp.gtr 3 false true v48 (Value.int IntKind.i64 0)) (fun v49 =>
        Br v49 (
          S.pur (.nilCheck a0) (fun v53 =>
          S.pur (.fieldAddr 98 v53 3) (fun v54 =>
          S.ld (.load 3 v54) wl9.drew (fun v55 =>
          S.pur (.nilCheck a0) (fun v56 =>
          S.pur (.fieldAddr 98 v56 2) (fun v57 =>
          S.pur (.indexAddr 96 v57 v55) (fun v58 =>
          S.pur (.fieldAddr 95 v58 1) (fun v59 =>
          S.ld (.load 3 v59) wl9.drew (fun v60 =>
          S.pur (.bin BinOp.eql 3 false true v60 (Value.int IntKind.i64 0)) (fun v61 =>
          Br v61 (
            S.op (.nilCheck a0) wl9.drew (fun v64 w =>
            S.op (.fieldAddr 98 v64 3) w (fun v65 w =>
            S.op (.load 3 v65) w (fun v66 w =>
            S.op (.bin BinOp.sub 3 false true v66 (Value.int IntKind.i64 1)) w (fun v67 w =>
            S.op (.nilCheck a0) w (fun v68 w =>
            S.op (.fieldAddr 98 v68 3) w (fun v69 w =>
            S.op (.store 3 v69 v67) w (fun _ w =>
            I9 w ∧ μ9 w < μ9 wl9) Kp) Kp) Kp) Kp) Kp) Kp) Kp) (
            S.op (.nilCheck a0) wl9.drew (fun v72 w =>
            S.op (.fieldAddr 98 v72 1) w (fun v73 w =>
            S.op (.load 3 v73) w (fun v74 w =>
            S.call (.fn 60) [a0, v74] w (fun v75 w =>
            K (Value.tuple #[v20, v33]) w) Kp) Kp) Kp) Kp))))))))))) (
          S.op (.nilCheck a0) wl9.drew (fun v72 w =>
          S.op (.fieldAddr 98 v72 1) w (fun v73 w =>
          S.op (.load 3 v73) w (fun v74 w =>
          S.call (.fn 60) [a0, v74] w (fun v75 w =>
          K (Value.tuple #[v20, v33]) w) Kp) Kp) Kp) Kp))))))) Kp) Kp) Kp) Kp) Kp) Kp) Kp) Kp)))))))))))))))))))))) Kp
theorem vc32_eq (S : Sig) (a0 : Value) (w : World) (K : Value → World → Prop) (Kp : KP) : vc32 S a0 w K Kp = fVC S [(9, [])] [] Try.f32 [a0] w K Kp := by kernel_rfl
theorem vc32_calls {a0 : Value} {w : World} {K : Value → World → Prop} {Kp : KP} (h : vc32 (nice Try.prog) a0 w K Kp) : Calls Try.prog 32 #[a0] w (ret K Kp) :=
  fVC_sound (args := [a0]) nice_le follows_mixed Try.func32 (by kernel_rfl) (Eq.mp (vc32_eq _ _ _ _ _) h)

/-- (*pub-bracken/pub/immutable.ListIterator[int64]).First -/
def vc33 (S : Sig) (a0 : Value) (w : World) (K : Value → World → Prop) (Kp : KP) : Prop :=
  S.op (.nilCheck a0) w (fun v3 w =>
  S.op (.fieldAddr 98 v3 0) w (fun v4 w =>
  S.op (.load 67 v4) w (fun v5 w =>
  S.call (.fn 57) [v5] w (fun v6 w =>
  S.op (.bin BinOp.neq 3 false true v6 (Value.int IntKind.i64 0)) w (fun v7 w =>
  Br v7 (
    S.call (.fn 35) [a0, (Value.int IntKind.i64 0)] w (fun v9 w =>
    K (Value.tuple #[]) w) Kp) (
    K (Value.tuple #[]) w)) Kp) Kp) Kp) Kp) Kp
theorem vc33_eq (S : Sig) (a0 : Value) (w : World) (K : Value → World → Prop) (Kp : KP) : vc33 S a0 w K Kp = fVC S [] [] Try.f33 [a0] w K Kp := by kernel_rfl
theorem vc33_calls {a0 : Value} {w : World} {K : Value → World → Prop} {Kp : KP} (h : vc33 (nice Try.prog) a0 w K Kp) : Calls Try.prog 33 #[a0] w (ret K Kp) :=
  fVC_sound (args := [a0]) nice_le follows_mixed Try.func33 (by kernel_rfl) (Eq.mp (vc33_eq _ _ _ _ _) h)

/-- (*pub-bracken/pub/immutable.ListIterator[int64]).Last -/
def vc34 (S : Sig) (a0 : Value) (w : World) (K : Value → World → Prop) (Kp : KP) : Prop :=
  S.op (.nilCheck a0) w (fun v4 w =>
  S.op (.fieldAddr 98 v4 0) w (fun v5 w =>
  S.op (.load 67 v5) w (fun v6 w =>
  S.call (.fn 57) [v6] w (fun v7 w =>
  S.op (.bin BinOp.neq 3 false true v7 (Value.int IntKind.i64 0)) w (fun v9 w =>
  Br v9 (
    S.op (.bin BinOp.sub 3 false true v7 (Value.int IntKind.i64 1)) w (fun v12 w =>
    S.call (.fn 35) [a0, v12] w (fun v13 w =>
    K (Value.tuple #[]) w) Kp) Kp) (
    K (Value.tuple #[]) w)) Kp) Kp) Kp) Kp) Kp
theorem vc34_eq (S : Sig) (a0 : Value) (w : World) (K : Value → World → Prop) (Kp : KP) : vc34 S a0 w K Kp = fVC S [] [] Try.f34 [a0] w K Kp := by kernel_rfl
theorem vc34_calls {a0 : Value} {w : World} {K : Value → World → Prop} {Kp : KP} (h : vc34 (nice Try.prog) a0 w K Kp) : Calls Try.prog 34 #[a0] w (ret K Kp) :=
  fVC_sound (args := [a0]) nice_le follows_mixed Try.func34 (by kernel_rfl) (Eq.mp (vc34_eq _ _ _ _ _) h)

/-- (*pub-bracken/pub/immutable.ListIterator[int64]).Seek -/
def vc35 (S : Sig) (a0 a1 : Value) (w : World) (K : Value → World → Prop) (Kp : KP) : Prop :=
  S.op (.bin BinOp.lss 3 false true a1 (Value.int IntKind.i64 0)) w (fun v5 w =>
  Br v5 (
    S.op (.mkIface 9 (Value.string { data := #[105, 109, 109, 117, 116, 97, 98, 108, 101, 46, 76, 105, 115, 116, 73, 116, 101, 114, 97, 116, 111, 114, 46, 83, 101, 101, 107, 58, 32, 105, 110, 100, 101, 120, 32, 37, 100, 32, 111, 117, 116, 32, 111, 102, 32, 98, 111, 117, 110, 100, 115] })) w (fun v15 w =>
    S.op (.panic v15) w (fun _ w =>
    S.op (.nilCheck a0) w (fun v18 w =>
    S.op (.fieldAddr 98 v18 1) w (fun v19 w =>
    S.op (.store 3 v19 a1) w (fun _ w =>
    S.pur (.nilCheck a0) (fun v22 =>
    S.pur (.fieldAddr 98 v22 0) (fun v23 =>
    S.ld (.load 67 v23) w.drew (fun v24 =>
    S.pur (.nilCheck v24) (fun v25 =>
    S.pur (.fieldAddr 106 v25 0) (fun v26 =>
    S.ld (.load 93 v26) w.drew (fun v27 =>
    S.pur (.build 95 [(0, v27)]) (fun v28 =>
    S.pur (.nilCheck a0) (fun v29 =>
    S.pur (.fieldAddr 98 v29 2) (fun v30 =>
    S.pur (.indexAddr 96 v30 (Value.int IntKind.i64 0)) (fun v31 =>
    S.op (.store 95 v31 v28) w.drew (fun _ w =>
    S.op (.nilCheck a0) w (fun v33 w =>
    S.op (.fieldAddr 98 v33 3) w (fun v34 w =>
    S.op (.store 3 v34 (Value.int IntKind.i64 0)) w (fun _ w =>
    S.call (.fn 60) [a0, a1] w (fun v37 w =>
    K (Value.tuple #[]) w) Kp) Kp) Kp) Kp) Kp))))))))))) Kp) Kp) Kp) Kp) Kp) (
    S.op (.nilCheck a0) w (fun v9 w =>
    S.op (.fieldAddr 98 v9 0) w (fun v10 w =>
    S.op (.load 67 v10) w (fun v11 w =>
    S.call (.fn 57) [v11] w (fun v12 w =>
    S.op (.bin BinOp.geq 3 false false a1 v12) w (fun v13 w =>
    Br v13 (
      S.op (.mkIface 9 (Value.string { data := #[105, 109, 109, 117, 116, 97, 98, 108, 101, 46, 76, 105, 115, 116, 73, 116, 101, 114, 97, 116, 111, 114, 46, 83, 101, 101, 107, 58, 32, 105, 110, 100, 101, 120, 32, 37, 100, 32, 111, 117, 116, 32, 111, 102, 32, 98, 111, 117, 110, 100, 115] })) w (fun v15 w =>
      S.op (.panic v15) w (fun _ w =>
      S.op (.nilCheck a0) w (fun v18 w =>
      S.op (.fieldAddr 98 v18 1) w (fun v19 w =>
      S.op (.store 3 v19 a1) w (fun _ w =>
      S.pur (.nilCheck a0) (fun v22 =>
      S.pur (.fieldAddr 98 v22 0) (fun v23 =>
      S.ld (.load 67 v23) w.drew (fun v24 =>
      S.pur (.nilCheck v24) (fun v25 =>
      S.pur (.fieldAddr 106 v25 0) (fun v26 =>
      S.ld (.load 93 v26) w.drew (fun v27 =>
      S.pur (.build 95 [(0, v27)]) (fun v28 =>
      S.pur (.nilCheck a0) (fun v29 =>
      S.pur (.fieldAddr 98 v29 2) (fun v30 =>
      S.pur (.indexAddr 96 v30 (Value.int IntKind.i64 0)) (fun v31 =>
      S.op (.store 95 v31 v28) w.drew (fun _ w =>
      S.op (.nilCheck a0) w (fun v33 w =>
      S.op (.fieldAddr 98 v33 3) w (fun v34 w =>
      S.op (.store 3 v34 (Value.int IntKind.i64 0)) w (fun _ w =>
      S.call (.fn 60) [a0, a1] w (fun v37 w =>
      K (Value.tuple #[]) w) Kp) Kp) Kp) Kp) Kp))))))))))) Kp) Kp) Kp) Kp) Kp) (
      S.op (.nilCheck a0) w (fun v18 w =>
      S.op (.fieldAddr 98 v18 1) w (fun v19 w =>
      S.op (.store 3 v19 a1) w (fun _ w =>
      S.pur (.nilCheck a0) (fun v22 =>
      S.pur (.fieldAddr 98 v22 0) (fun v23 =>
      S.ld (.load 67 v23) w.drew (fun v24 =>
      S.pur (.nilCheck v24) (fun v25 =>
      S.pur (.fieldAddr 106 v25 0) (fun v26 =>
      S.ld (.load 93 v26) w.drew (fun v27 =>
      S.pur (.build 95 [(0, v27)]) (fun v28 =>
      S.pur (.nilCheck a0) (fun v29 =>
      S.pur (.fieldAddr 98 v29 2) (fun v30 =>
      S.pur (.indexAddr 96 v30 (Value.int IntKind.i64 0)) (fun v31 =>
      S.op (.store 95 v31 v28) w.drew (fun _ w =>
      S.op (.nilCheck a0) w (fun v33 w =>
      S.op (.fieldAddr 98 v33 3) w (fun v34 w =>
      S.op (.store 3 v34 (Value.int IntKind.i64 0)) w (fun _ w =>
      S.call (.fn 60) [a0, a1] w (fun v37 w =>
      K (Value.tuple #[]) w) Kp) Kp) Kp) Kp) Kp))))))))))) Kp) Kp) Kp)) Kp) Kp) Kp) Kp) Kp)) Kp
theorem vc35_eq (S : Sig) (a0 a1 : Value) (w : World) (K : Value → World → Prop) (Kp : KP) : vc35 S a0 a1 w K Kp = fVC S [] [] Try.f35 [a0, a1] w K Kp := by kernel_rfl
theorem vc35_calls {a0 a1 : Value} {w : World} {K : Value → World → Prop} {Kp : KP} (h : vc35 (nice Try.prog) a0 a1 w K Kp) : Calls Try.prog 35 #[a0, a1] w (ret K Kp) :=
  fVC_sound (args := [a0, a1]) nice_le follows_mixed Try.func35 (by kernel_rfl) (Eq.mp (vc35_eq _ _ _ _ _ _) h)

/-- pub-bracken/spec.ListWalk$1 -/
def vc36 (S : Sig) (a0 a1 : Value) (w : World) (K : Value → World → Prop) (Kp : KP) : Prop :=
  S.op (.load 3 a0) w (fun v3 w =>
  S.op (.bin BinOp.lss 3 false true v3 (Value.int IntKind.i64 0)) w (fun v4 w =>
  Br v4 (
    K (Value.bool true) w) (
    S.op (.load 3 a0) w (fun v6 w =>
    S.op (.load 22 a1) w (fun v7 w =>
    S.op (.blt Builtin.len [22] 3 [v7]) w (fun v8 w =>
    S.op (.bin BinOp.geq 3 false false v6 v8) w (fun v9 w =>
    K v9 w) Kp) Kp) Kp) Kp)) Kp) Kp
theorem vc36_eq (S : Sig) (a0 a1 : Value) (w : World) (K : Value → World → Prop) (Kp : KP) : vc36 S a0 a1 w K Kp = fVC S [] [] Try.f36 [a0, a1] w K Kp := by kernel_rfl
theorem vc36_calls {a0 a1 : Value} {w : World} {K : Value → World → Prop} {Kp : KP} (h : vc36 (nice Try.prog) a0 a1 w K Kp) : Calls Try.prog 36 #[a0, a1] w (ret K Kp) :=
  fVC_sound (args := [a0, a1]) nice_le follows_mixed Try.func36 (by kernel_rfl) (Eq.mp (vc36_eq _ _ _ _ _ _) h)

/-- pub-bracken/pub/immutable.NewListBuilder[int64] -/
def vc37 (S : Sig) (w : World) (K : Value → World → Prop) (Kp : KP) : Prop :=
  S.call (.fn 51) [(Value.slice none 0 0)] w (fun v1 w =>
  S.op (.build 108 [(0, v1)]) w (fun v2 w =>
  S.op (.box 108 v2) w (fun v3 w =>
  K v3 w) Kp) Kp) Kp
theorem vc37_eq (S : Sig) (w : World) (K : Value → World → Prop) (Kp : KP) : vc37 S  w K Kp = fVC S [] [] Try.f37 [] w K Kp := by kernel_rfl
theorem vc37_calls {w : World} {K : Value → World → Prop} {Kp : KP} (h : vc37 (nice Try.prog)  w K Kp) : Calls Try.prog 37 #[] w (ret K Kp) :=
  fVC_sound (args := []) nice_le follows_mixed Try.func37 (by kernel_rfl) (Eq.mp (vc37_eq _  _ _ _) h)

/-- (*pub-bracken/pub/immutable.ListBuilder[int64]).Append -/
def vc38 (S : Sig) (a0 a1 : Value) (w : World) (K : Value → World → Prop) (Kp : KP) : Prop :=
  S.op (.nilCheck a0) w (fun v5 w =>
  S.op (.fieldAddr 108 v5 0) w (fun v6 w =>
  S.op (.load 67 v6) w (fun v7 w =>
  S.op (.bin BinOp.neq 67 false true v7 (Value.pointer none)) w (fun v8 w =>
  S.call (.fn 61) [v8, (Value.string { data := #[105, 109, 109, 117, 116, 97, 98, 108, 101, 46, 76, 105, 115, 116, 66, 117, 105, 108, 100, 101, 114, 58, 32, 98, 117, 105, 108, 100, 101, 114, 32, 105, 110, 118, 97, 108, 105, 100, 32, 97, 102, 116, 101, 114, 32, 76, 105, 115, 116, 40, 41, 32, 105, 110, 118, 111, 99, 97, 116, 105, 111, 110] })] w (fun v9 w =>
  S.op (.nilCheck a0) w (fun v12 w =>
  S.op (.fieldAddr 108 v12 0) w (fun v13 w =>
  S.op (.load 67 v13) w (fun v14 w =>
  S.call (.fn 62) [v14, a1, (Value.bool true)] w (fun v16 w =>
  S.op (.nilCheck a0) w (fun v17 w =>
  S.op (.fieldAddr 108 v17 0) w (fun v18 w =>
  S.op (.store 67 v18 v16) w (fun _ w =>
  K (Value.tuple #[]) w) Kp) Kp) Kp) Kp) Kp) Kp) Kp) Kp) Kp) Kp) Kp) Kp
theorem vc38_eq (S : Sig) (a0 a1 : Value) (w : World) (K : Value → World → Prop) (Kp : KP) : vc38 S a0 a1 w K Kp = fVC S [] [] Try.f38 [a0, a1] w K Kp := by kernel_rfl
theorem vc38_calls {a0 a1 : Value} {w : World} {K : Value → World → Prop} {Kp : KP} (h : vc38 (nice Try.prog) a0 a1 w K Kp) : Calls Try.prog 38 #[a0, a1] w (ret K Kp) :=
  fVC_sound (args := [a0, a1]) nice_le follows_mixed Try.func38 (by kernel_rfl) (Eq.mp (vc38_eq _ _ _ _ _ _) h)

/-- pub-bracken/impl.ListBuild$1 -/
def vc39 (S : Sig) (a0 a1 : Value) (w : World) (K : Value → World → Prop) (Kp : KP) : Prop :=
  S.op (.fieldAddr 26 a0 0) w (fun v4 w =>
  S.op (.load 5 v4) w (fun v5 w =>
  S.op (.bin BinOp.eql 5 false true v5 (Value.int IntKind.u8 0)) w (fun v7 w =>
  Br v7 (
    S.op (.load 75 a1) w (fun v8 w =>
    S.op (.fieldAddr 26 a0 4) w (fun v9 w =>
    S.op (.load 2 v9) w (fun v10 w =>
    S.call (.fn 38) [v8, v10] w (fun v11 w =>
    K (Value.tuple #[]) w) Kp) Kp) Kp) Kp) (
    S.op (.bin BinOp.eql 5 false true v5 (Value.int IntKind.u8 1)) w (fun v13 w =>
    Br v13 (
      S.op (.load 75 a1) w (fun v14 w =>
      S.op (.fieldAddr 26 a0 4) w (fun v15 w =>
      S.op (.load 2 v15) w (fun v16 w =>
      S.call (.fn 40) [v14, v16] w (fun v17 w =>
      K (Value.tuple #[]) w) Kp) Kp) Kp) Kp) (
      S.op (.bin BinOp.eql 5 false true v5 (Value.int IntKind.u8 2)) w (fun v19 w =>
      Br v19 (
        S.op (.load 75 a1) w (fun v20 w =>
        S.op (.fieldAddr 26 a0 2) w (fun v21 w =>
        S.op (.load 3 v21) w (fun v22 w =>
        S.op (.fieldAddr 26 a0 4) w (fun v23 w =>
        S.op (.load 2 v23) w (fun v24 w =>
        S.call (.fn 41) [v20, v22, v24] w (fun v25 w =>
        K (Value.tuple #[]) w) Kp) Kp) Kp) Kp) Kp) Kp) (
        S.op (.bin BinOp.eql 5 false true v5 (Value.int IntKind.u8 3)) w (fun v27 w =>
        Br v27 (
          S.op (.load 75 a1) w (fun v28 w =>
          S.op (.fieldAddr 26 a0 2) w (fun v29 w =>
          S.op (.load 3 v29) w (fun v30 w =>
          S.op (.fieldAddr 26 a0 3) w (fun v31 w =>
          S.op (.load 3 v31) w (fun v32 w =>
          S.call (.fn 42) [v28, v30, v32] w (fun v33 w =>
          K (Value.tuple #[]) w) Kp) Kp) Kp) Kp) Kp) Kp) (
          S.op (.bin BinOp.eql 5 false true v5 (Value.int IntKind.u8 4)) w (fun v35 w =>
          Br v35 (
            Lp fun (I11 : Value → World → Prop) (μ11 : Value → World → Nat) => I11 (Value.int IntKind.i64 0) w ∧
            ∀ (wl11 : World) (junk : Nat → Value) (s2_i : Value), I11 s2_i wl11 →
              S.op (.fieldAddr 26 a0 2) wl11 (fun v37 w =>
              S.op (.load 3 v37) w (fun v38 w =>
              S.call (.fn 43) [v38] w (fun v39 w =>
              S.op (.bin BinOp.lss 3 false false s2_i v39) w (fun v40 w =>
              Br v40 (
                S.op (.load 75 a1) w (fun v43 w =>
                S.op (.fieldAddr 26 a0 4) w (fun v44 w =>
                S.op (.load 2 v44) w (fun v45 w =>
                S.op (.bin BinOp.add 2 false false v45 s2_i) w (fun v47 w =>
                S.call (.fn 38) [v43, v47] w (fun v48 w =>
                S.op (.bin BinOp.add 3 false true s2_i (Value.int IntKind.i64 1)) w (fun v42 w =>
                I11 v42 w ∧ μ11 v42 w < μ11 s2_i wl11) Kp) Kp) Kp) Kp) Kp) Kp) (
                K (Value.tuple #[]) w)) Kp) Kp) Kp) Kp) (
            S.op (.bin BinOp.eql 5 false true v5 (Value.int IntKind.u8 5)) w (fun v50 w =>
            Br v50 (
              Lp fun (I16 : Value → World → Prop) (μ16 : Value → World → Nat) => I16 (Value.int IntKind.i64 0) w ∧
              ∀ (wl16 : World) (junk : Nat → Value) (s3_i : Value), I16 s3_i wl16 →
                S.op (.fieldAddr 26 a0 2) wl16 (fun v52 w =>
                S.op (.load 3 v52) w (fun v53 w =>
                S.call (.fn 43) [v53] w (fun v54 w =>
                S.op (.bin BinOp.lss 3 false false s3_i v54) w (fun v55 w =>
                Br v55 (
                  S.op (.load 75 a1) w (fun v58 w =>
                  S.op (.fieldAddr 26 a0 4) w (fun v59 w =>
                  S.op (.load 2 v59) w (fun v60 w =>
                  S.op (.bin BinOp.add 2 false false v60 s3_i) w (fun v62 w =>
                  S.call (.fn 40) [v58, v62] w (fun v63 w =>
                  S.op (.bin BinOp.add 3 false true s3_i (Value.int IntKind.i64 1)) w (fun v57 w =>
                  I16 v57 w ∧ μ16 v57 w < μ16 s3_i wl16) Kp) Kp) Kp) Kp) Kp) Kp) (
                  K (Value.tuple #[]) w)) Kp) Kp) Kp) Kp) (
              K (Value.tuple #[]) w)) Kp)) Kp)) Kp)) Kp)) Kp)) Kp) Kp) Kp
theorem vc39_eq (S : Sig) (a0 a1 : Value) (w : World) (K : Value → World → Prop) (Kp : KP) : vc39 S a0 a1 w K Kp = fVC S [(11, [2]), (16, [3])] [] Try.f39 [a0, a1] w K Kp := by kernel_rfl
theorem vc39_calls {a0 a1 : Value} {w : World} {K : Value → World → Prop} {Kp : KP} (h : vc39 (nice Try.prog) a0 a1 w K Kp) : Calls Try.prog 39 #[a0, a1] w (ret K Kp) :=
  fVC_sound (args := [a0, a1]) nice_le follows_mixed Try.func39 (by kernel_rfl) (Eq.mp (vc39_eq _ _ _ _ _ _) h)

/-- (*pub-bracken/pub/immutable.ListBuilder[int64]).Prepend -/
def vc40 (S : Sig) (a0 a1 : Value) (w : World) (K : Value → World → Prop) (Kp : KP) : Prop :=
  S.op (.nilCheck a0) w (fun v5 w =>
  S.op (.fieldAddr 108 v5 0) w (fun v6 w =>
  S.op (.load 67 v6) w (fun v7 w =>
  S.op (.bin BinOp.neq 67 false true v7 (Value.pointer none)) w (fun v8 w =>
  S.call (.fn 61) [v8, (Value.string { data := #[105, 109, 109, 117, 116, 97, 98, 108, 101, 46, 76, 105, 115, 116, 66, 117, 105, 108, 100, 101, 114, 58, 32, 98, 117, 105, 108, 100, 101, 114, 32, 105, 110, 118, 97, 108, 105, 100, 32, 97, 102, 116, 101, 114, 32, 76, 105, 115, 116, 40, 41, 32, 105, 110, 118, 111, 99, 97, 116, 105, 111, 110] })] w (fun v9 w =>
  S.op (.nilCheck a0) w (fun v12 w =>
  S.op (.fieldAddr 108 v12 0) w (fun v13 w =>
  S.op (.load 67 v13) w (fun v14 w =>
  S.call (.fn 63) [v14, a1, (Value.bool true)] w (fun v16 w =>
  S.op (.nilCheck a0) w (fun v17 w =>
  S.op (.fieldAddr 108 v17 0) w (fun v18 w =>
  S.op (.store 67 v18 v16) w (fun _ w =>
  K (Value.tuple #[]) w) Kp) Kp) Kp) Kp) Kp) Kp) Kp) Kp) Kp) Kp) Kp) Kp
theorem vc40_eq (S : Sig) (a0 a1 : Value) (w : World) (K : Value → World → Prop) (Kp : KP) : vc40 S a0 a1 w K Kp = fVC S [] [] Try.f40 [a0, a1] w K Kp := by kernel_rfl
theorem vc40_calls {a0 a1 : Value} {w : World} {K : Value → World → Prop} {Kp : KP} (h : vc40 (nice Try.prog) a0 a1 w K Kp) : Calls Try.prog 40 #[a0, a1] w (ret K Kp) :=
  fVC_sound (args := [a0, a1]) nice_le follows_mixed Try.func40 (by kernel_rfl) (Eq.mp (vc40_eq _ _ _ _ _ _) h)

/-- (*pub-bracken/pub/immutable.ListBuilder[int64]).Set -/
def vc41 (S : Sig) (a0 a1 a2 : Value) (w : World) (K : Value → World → Prop) (Kp : KP) : Prop :=
  S.op (.nilCheck a0) w (fun v7 w =>
  S.op (.fieldAddr 108 v7 0) w (fun v8 w =>
  S.op (.load 67 v8) w (fun v9 w =>
  S.op (.bin BinOp.neq 67 false true v9 (Value.pointer none)) w (fun v10 w =>
  S.call (.fn 61) [v10, (Value.string { data := #[105, 109, 109, 117, 116, 97, 98, 108, 101, 46, 76, 105, 115, 116, 66, 117, 105, 108, 100, 101, 114, 58, 32, 98, 117, 105, 108, 100, 101, 114, 32, 105, 110, 118, 97, 108, 105, 100, 32, 97, 102, 116, 101, 114, 32, 76, 105, 115, 116, 40, 41, 32, 105, 110, 118, 111, 99, 97, 116, 105, 111, 110] })] w (fun v11 w =>
  S.op (.nilCheck a0) w (fun v14 w =>
  S.op (.fieldAddr 108 v14 0) w (fun v15 w =>
  S.op (.load 67 v15) w (fun v16 w =>
  S.call (.fn 64) [v16, a1, a2, (Value.bool true)] w (fun v19 w =>
  S.op (.nilCheck a0) w (fun v20 w =>
  S.op (.fieldAddr 108 v20 0) w (fun v21 w =>
  S.op (.store 67 v21 v19) w (fun _ w =>
  K (Value.tuple #[]) w) Kp) Kp) Kp) Kp) Kp) Kp) Kp) Kp) Kp) Kp) Kp) Kp
theorem vc41_eq (S : Sig) (a0 a1 a2 : Value) (w : World) (K : Value → World → Prop) (Kp : KP) : vc41 S a0 a1 a2 w K Kp = fVC S [] [] Try.f41 [a0, a1, a2] w K Kp := by kernel_rfl
theorem vc41_calls {a0 a1 a2 : Value} {w : World} {K : Value → World → Prop} {Kp : KP} (h : vc41 (nice Try.prog) a0 a1 a2 w K Kp) : Calls Try.prog 41 #[a0, a1, a2] w (ret K Kp) :=
  fVC_sound (args := [a0, a1, a2]) nice_le follows_mixed Try.func41 (by kernel_rfl) (Eq.mp (vc41_eq _ _ _ _ _ _ _) h)

/-- (*pub-bracken/pub/immutable.ListBuilder[int64]).Slice -/
def vc42 (S : Sig) (a0 a1 a2 : Value) (w : World) (K : Value → World → Prop) (Kp : KP) : Prop :=
  S.op (.nilCheck a0) w (fun v7 w =>
  S.op (.fieldAddr 108 v7 0) w (fun v8 w =>
  S.op (.load 67 v8) w (fun v9 w =>
  S.op (.bin BinOp.neq 67 false true v9 (Value.pointer none)) w (fun v10 w =>
  S.call (.fn 61) [v10, (Value.string { data := #[105, 109, 109, 117, 116, 97, 98, 108, 101, 46, 76, 105, 115, 116, 66, 117, 105, 108, 100, 101, 114, 58, 32, 98, 117, 105, 108, 100, 101, 114, 32, 105, 110, 118, 97, 108, 105, 100, 32, 97, 102, 116, 101, 114, 32, 76, 105, 115, 116, 40, 41, 32, 105, 110, 118, 111, 99, 97, 116, 105, 111, 110] })] w (fun v11 w =>
  S.op (.nilCheck a0) w (fun v14 w =>
  S.op (.fieldAddr 108 v14 0) w (fun v15 w =>
  S.op (.load 67 v15) w (fun v16 w =>
  S.call (.fn 65) [v16, a1, a2, (Value.bool true)] w (fun v19 w =>
  S.op (.nilCheck a0) w (fun v20 w =>
  S.op (.fieldAddr 108 v20 0) w (fun v21 w =>
  S.op (.store 67 v21 v19) w (fun _ w =>
  K (Value.tuple #[]) w) Kp) Kp) Kp) Kp) Kp) Kp) Kp) Kp) Kp) Kp) Kp) Kp
theorem vc42_eq (S : Sig) (a0 a1 a2 : Value) (w : World) (K : Value → World → Prop) (Kp : KP) : vc42 S a0 a1 a2 w K Kp = fVC S [] [] Try.f42 [a0, a1, a2] w K Kp := by kernel_rfl
theorem vc42_calls {a0 a1 a2 : Value} {w : World} {K : Value → World → Prop} {Kp : KP} (h : vc42 (nice Try.prog) a0 a1 a2 w K Kp) : Calls Try.prog 42 #[a0, a1, a2] w (ret K Kp) :=
  fVC_sound (args := [a0, a1, a2]) nice_le follows_mixed Try.func42 (by kernel_rfl) (Eq.mp (vc42_eq _ _ _ _ _ _ _) h)

/-- pub-bracken/impl.counted -/
def vc43 (S : Sig) (a0 : Value) (w : World) (K : Value → World → Prop) (Kp : KP) : Prop :=
  S.op (.bin BinOp.gtr 3 false true a0 (Value.int IntKind.i64 100000)) w (fun v4 w =>
  Br v4 (
    K (Value.int IntKind.i64 0) w) (
    K a0 w)) Kp
theorem vc43_eq (S : Sig) (a0 : Value) (w : World) (K : Value → World → Prop) (Kp : KP) : vc43 S a0 w K Kp = fVC S [] [] Try.f43 [a0] w K Kp := by kernel_rfl
theorem vc43_calls {a0 : Value} {w : World} {K : Value → World → Prop} {Kp : KP} (h : vc43 (nice Try.prog) a0 w K Kp) : Calls Try.prog 43 #[a0] w (ret K Kp) :=
  fVC_sound (args := [a0]) nice_le follows_mixed Try.func43 (by kernel_rfl) (Eq.mp (vc43_eq _ _ _ _ _) h)

/-- (*pub-bracken/pub/immutable.ListBuilder[int64]).Len -/
def vc44 (S : Sig) (a0 : Value) (w : World) (K : Value → World → Prop) (Kp : KP) : Prop :=
  S.op (.nilCheck a0) w (fun v4 w =>
  S.op (.fieldAddr 108 v4 0) w (fun v5 w =>
  S.op (.load 67 v5) w (fun v6 w =>
  S.op (.bin BinOp.neq 67 false true v6 (Value.pointer none)) w (fun v7 w =>
  S.call (.fn 61) [v7, (Value.string { data := #[105, 109, 109, 117, 116, 97, 98, 108, 101, 46, 76, 105, 115, 116, 66, 117, 105, 108, 100, 101, 114, 58, 32, 98, 117, 105, 108, 100, 101, 114, 32, 105, 110, 118, 97, 108, 105, 100, 32, 97, 102, 116, 101, 114, 32, 76, 105, 115, 116, 40, 41, 32, 105, 110, 118, 111, 99, 97, 116, 105, 111, 110] })] w (fun v8 w =>
  S.op (.nilCheck a0) w (fun v10 w =>
  S.op (.fieldAddr 108 v10 0) w (fun v11 w =>
  S.op (.load 67 v11) w (fun v12 w =>
  S.call (.fn 57) [v12] w (fun v13 w =>
  K v13 w) Kp) Kp) Kp) Kp) Kp) Kp) Kp) Kp) Kp
theorem vc44_eq (S : Sig) (a0 : Value) (w : World) (K : Value → World → Prop) (Kp : KP) : vc44 S a0 w K Kp = fVC S [] [] Try.f44 [a0] w K Kp := by kernel_rfl
theorem vc44_calls {a0 : Value} {w : World} {K : Value → World → Prop} {Kp : KP} (h : vc44 (nice Try.prog) a0 w K Kp) : Calls Try.prog 44 #[a0] w (ret K Kp) :=
  fVC_sound (args := [a0]) nice_le follows_mixed Try.func44 (by kernel_rfl) (Eq.mp (vc44_eq _ _ _ _ _) h)

/-- (*pub-bracken/pub/immutable.ListBuilder[int64]).Get -/
def vc45 (S : Sig) (a0 a1 : Value) (w : World) (K : Value → World → Prop) (Kp : KP) : Prop :=
  S.op (.nilCheck a0) w (fun v6 w =>
  S.op (.fieldAddr 108 v6 0) w (fun v7 w =>
  S.op (.load 67 v7) w (fun v8 w =>
  S.op (.bin BinOp.neq 67 false true v8 (Value.pointer none)) w (fun v9 w =>
  S.call (.fn 61) [v9, (Value.string { data := #[105, 109, 109, 117, 116, 97, 98, 108, 101, 46, 76, 105, 115, 116, 66, 117, 105, 108, 100, 101, 114, 58, 32, 98, 117, 105, 108, 100, 101, 114, 32, 105, 110, 118, 97, 108, 105, 100, 32, 97, 102, 116, 101, 114, 32, 76, 105, 115, 116, 40, 41, 32, 105, 110, 118, 111, 99, 97, 116, 105, 111, 110] })] w (fun v10 w =>
  S.op (.nilCheck a0) w (fun v12 w =>
  S.op (.fieldAddr 108 v12 0) w (fun v13 w =>
  S.op (.load 67 v13) w (fun v14 w =>
  S.call (.fn 58) [v14, a1] w (fun v16 w =>
  K v16 w) Kp) Kp) Kp) Kp) Kp) Kp) Kp) Kp) Kp
theorem vc45_eq (S : Sig) (a0 a1 : Value) (w : World) (K : Value → World → Prop) (Kp : KP) : vc45 S a0 a1 w K Kp = fVC S [] [] Try.f45 [a0, a1] w K Kp := by kernel_rfl
theorem vc45_calls {a0 a1 : Value} {w : World} {K : Value → World → Prop} {Kp : KP} (h : vc45 (nice Try.prog) a0 a1 w K Kp) : Calls Try.prog 45 #[a0, a1] w (ret K Kp) :=
  fVC_sound (args := [a0, a1]) nice_le follows_mixed Try.func45 (by kernel_rfl) (Eq.mp (vc45_eq _ _ _ _ _ _) h)

/-- (*pub-bracken/pub/immutable.ListBuilder[int64]).Iterator -/
def vc46 (S : Sig) (a0 : Value) (w : World) (K : Value → World → Prop) (Kp : KP) : Prop :=
  S.op (.nilCheck a0) w (fun v4 w =>
  S.op (.fieldAddr 108 v4 0) w (fun v5 w =>
  S.op (.load 67 v5) w (fun v6 w =>
  S.op (.bin BinOp.neq 67 false true v6 (Value.pointer none)) w (fun v7 w =>
  S.call (.fn 61) [v7, (Value.string { data := #[105, 109, 109, 117, 116, 97, 98, 108, 101, 46, 76, 105, 115, 116, 66, 117, 105, 108, 100, 101, 114, 58, 32, 98, 117, 105, 108, 100, 101, 114, 32, 105, 110, 118, 97, 108, 105, 100, 32, 97, 102, 116, 101, 114, 32, 76, 105, 115, 116, 40, 41, 32, 105, 110, 118, 111, 99, 97, 116, 105, 111, 110] })] w (fun v8 w =>
  S.op (.nilCheck a0) w (fun v10 w =>
  S.op (.fieldAddr 108 v10 0) w (fun v11 w =>
  S.op (.load 67 v11) w (fun v12 w =>
  S.call (.fn 27) [v12] w (fun v13 w =>
  K v13 w) Kp) Kp) Kp) Kp) Kp) Kp) Kp) Kp) Kp
theorem vc46_eq (S : Sig) (a0 : Value) (w : World) (K : Value → World → Prop) (Kp : KP) : vc46 S a0 w K Kp = fVC S [] [] Try.f46 [a0] w K Kp := by kernel_rfl
theorem vc46_calls {a0 : Value} {w : World} {K : Value → World → Prop} {Kp : KP} (h : vc46 (nice Try.prog) a0 w K Kp) : Calls Try.prog 46 #[a0] w (ret K Kp) :=
  fVC_sound (args := [a0]) nice_le follows_mixed Try.func46 (by kernel_rfl) (Eq.mp (vc46_eq _ _ _ _ _) h)

/-- (*pub-bracken/pub/immutable.ListBuilder[int64]).List -/
def vc47 (S : Sig) (a0 : Value) (w : World) (K : Value → World → Prop) (Kp : KP) : Prop :=
  S.op (.nilCheck a0) w (fun v5 w =>
  S.op (.fieldAddr 108 v5 0) w (fun v6 w =>
  S.op (.load 67 v6) w (fun v7 w =>
  S.op (.bin BinOp.neq 67 false true v7 (Value.pointer none)) w (fun v8 w =>
  S.call (.fn 61) [v8, (Value.string { data := #[105, 109, 109, 117, 116, 97, 98, 108, 101, 46, 76, 105, 115, 116, 66, 117, 105, 108, 100, 101, 114, 46, 76, 105, 115, 116, 40, 41, 58, 32, 100, 117, 112, 108, 105, 99, 97, 116, 101, 32, 99, 97, 108, 108, 32, 116, 111, 32, 102, 101, 116, 99, 104, 32, 108, 105, 115, 116] })] w (fun v9 w =>
  S.op (.nilCheck a0) w (fun v11 w =>
  S.op (.fieldAddr 108 v11 0) w (fun v12 w =>
  S.op (.load 67 v12) w (fun v13 w =>
  S.op (.nilCheck a0) w (fun v15 w =>
  S.op (.fieldAddr 108 v15 0) w (fun v16 w =>
  S.op (.store 67 v16 (Value.pointer none)) w (fun _ w =>
  K v13 w) Kp) Kp) Kp) Kp) Kp) Kp) Kp) Kp) Kp) Kp) Kp
theorem vc47_eq (S : Sig) (a0 : Value) (w : World) (K : Value → World → Prop) (Kp : KP) : vc47 S a0 w K Kp = fVC S [] [] Try.f47 [a0] w K Kp := by kernel_rfl
theorem vc47_calls {a0 : Value} {w : World} {K : Value → World → Prop} {Kp : KP} (h : vc47 (nice Try.prog) a0 w K Kp) : Calls Try.prog 47 #[a0] w (ret K Kp) :=
  fVC_sound (args := [a0]) nice_le follows_mixed Try.func47 (by kernel_rfl) (Eq.mp (vc47_eq _ _ _ _ _) h)

/-- slices.Index[[]bool,bool] -/
def vc48 (S : Sig) (a0 a1 : Value) (w : World) (K : Value → World → Prop) (Kp : KP) : Prop :=
  S.op (.blt Builtin.len [36] 3 [a0]) w (fun v7 w =>
  Lp fun (I2 : Value → World → Prop) (μ2 : Value → World → Nat) => I2 (Value.int IntKind.i64 0) w ∧
  ∀ (wl2 : World) (junk : Nat → Value) (s8_ : Value), I2 s8_ wl2 →
    S.op (.bin BinOp.lss 3 false false s8_ v7) wl2 (fun v9 w =>
    Br v9 (
      S.op (.indexAddr 36 a0 s8_) w (fun v14 w =>
      S.op (.load 4 v14) w (fun v15 w =>
      S.op (.bin BinOp.eql 4 false false a1 v15) w (fun v16 w =>
      Br v16 (
        K s8_ w) (
        S.op (.bin BinOp.add 3 false true s8_ (Value.int IntKind.i64 1)) w (fun v18 w =>
        I2 v18 w ∧ μ2 v18 w < μ2 s8_ wl2) Kp)) Kp) Kp) Kp) (
      K (Value.int IntKind.i64 (-1)) w)) Kp) Kp
theorem vc48_eq (S : Sig) (a0 a1 : Value) (w : World) (K : Value → World → Prop) (Kp : KP) : vc48 S a0 a1 w K Kp = fVC S [(2, [8])] [] Try.f48 [a0, a1] w K Kp := by kernel_rfl
theorem vc48_calls {a0 a1 : Value} {w : World} {K : Value → World → Prop} {Kp : KP} (h : vc48 (nice Try.prog) a0 a1 w K Kp) : Calls Try.prog 48 #[a0, a1] w (ret K Kp) :=
  fVC_sound (args := [a0, a1]) nice_le follows_mixed Try.func48 (by kernel_rfl) (Eq.mp (vc48_eq _ _ _ _ _ _) h)

/-- slices.Clone[[]int64,int64] -/
def vc49 (S : Sig) (a0 : Value) (w : World) (K : Value → World → Prop) (Kp : KP) : Prop :=
  S.op (.bin BinOp.eql 22 false true a0 (Value.slice none 0 0)) w (fun v4 w =>
  Br v4 (
    K (Value.slice none 0 0) w) (
    S.op (.buildSlice 22 0 []) w (fun v5 w =>
    S.op (.blt Builtin.append [22, 22] 22 [v5, a0]) w (fun v7 w =>
    K v7 w) Kp) Kp)) Kp
theorem vc49_eq (S : Sig) (a0 : Value) (w : World) (K : Value → World → Prop) (Kp : KP) : vc49 S a0 w K Kp = fVC S [] [] Try.f49 [a0] w K Kp := by kernel_rfl
theorem vc49_calls {a0 : Value} {w : World} {K : Value → World → Prop} {Kp : KP} (h : vc49 (nice Try.prog) a0 w K Kp) : Calls Try.prog 49 #[a0] w (ret K Kp) :=
  fVC_sound (args := [a0]) nice_le follows_mixed Try.func49 (by kernel_rfl) (Eq.mp (vc49_eq _ _ _ _ _) h)

/-- slices.Reverse[[]int64,int64] -/
def vc50 (S : Sig) (a0 : Value) (w : World) (K : Value → World → Prop) (Kp : KP) : Prop :=
  S.op (.blt Builtin.len [22] 3 [a0]) w (fun v5 w =>
  S.op (.bin BinOp.sub 3 false true v5 (Value.int IntKind.i64 1)) w (fun v6 w =>
  Lp fun (I1 : Value → Value → World → Prop) (μ1 : Value → Value → World → Nat) => I1 (Value.int IntKind.i64 0) v6 w ∧
  ∀ (wl1 : World) (junk : Nat → Value) (s2_i : Value) (s3_j : Value), I1 s2_i s3_j wl1 →
    S.op (.bin BinOp.lss 3 false false s2_i s3_j) wl1 (fun v9 w =>
    Br v9 (
      S.pur (.indexAddr 22 a0 s3_j) (fun v20 =>
      S.ld (.load 2 v20) w.drew (fun v21 =>
      S.pur (.indexAddr 22 a0 s2_i) (fun v24 =>
      S.ld (.load 2 v24) w.drew (fun v25 =>
      S.pur (.indexAddr 22 a0 s2_i) (fun v26 =>
      S.op (.store 2 v26 v21) w.drew (fun _ w =>
      S.pur (.indexAddr 22 a0 s3_j) (fun v27 =>
      S.op (.store 2 v27 v25) w (fun _ w =>
      S.op (.bin BinOp.add 3 false true s2_i (Value.int IntKind.i64 1)) w (fun v11 w =>
      S.op (.bin BinOp.sub 3 false true s3_j (Value.int IntKind.i64 1)) w (fun v13 w =>
      I1 v11 v13 w ∧ μ1 v11 v13 w < μ1 s2_i s3_j wl1) Kp) Kp) Kp)) Kp)))))) (
      K (Value.tuple #[]) w)) Kp) Kp) Kp
theorem vc50_eq (S : Sig) (a0 : Value) (w : World) (K : Value → World → Prop) (Kp : KP) : vc50 S a0 w K Kp = fVC S [(1, [2, 3])] [] Try.f50 [a0] w K Kp := by kernel_rfl
theorem vc50_calls {a0 : Value} {w : World} {K : Value → World → Prop} {Kp : KP} (h : vc50 (nice Try.prog) a0 w K Kp) : Calls Try.prog 50 #[a0] w (ret K Kp) :=
  fVC_sound (args := [a0]) nice_le follows_mixed Try.func50 (by kernel_rfl) (Eq.mp (vc50_eq _ _ _ _ _) h)

/-- pub-bracken/pub/immutable.NewList[int64] -/
def vc51 (S : Sig) (a0 : Value) (w : World) (K : Value → World → Prop) (Kp : KP) : Prop :=
  S.op (.build 103 []) w (fun v6 w =>
  S.op (.box 103 v6) w (fun v7 w =>
  S.op (.mkIface 104 v7) w (fun v8 w =>
  S.op (.build 106 [(0, v8)]) w (fun v9 w =>
  S.op (.box 106 v9) w (fun v10 w =>
  S.op (.blt Builtin.len [22] 3 [a0]) w (fun v12 w =>
  Lp fun (I3 : Value → World → Prop) (μ3 : Value → World → Nat) => I3 (Value.int IntKind.i64 0) w ∧
  ∀ (wl3 : World) (junk : Nat → Value) (s13_ : Value), I3 s13_ wl3 →
    S.op (.bin BinOp.lss 3 false false s13_ v12) wl3 (fun v14 w =>
    Br v14 (
      S.op (.indexAddr 22 a0 s13_) w (fun v15 w =>
      S.op (.load 2 v15) w (fun v16 w =>
      S.call (.fn 62) [v10, v16, (Value.bool true)] w (fun v19 w =>
      S.op (.bin BinOp.add 3 false true s13_ (Value.int IntKind.i64 1)) w (fun v20 w =>
      I3 v20 w ∧ μ3 v20 w < μ3 s13_ wl3) Kp) Kp) Kp) Kp) (
      K v10 w)) Kp) Kp) Kp) Kp) Kp) Kp) Kp
theorem vc51_eq (S : Sig) (a0 : Value) (w : World) (K : Value → World → Prop) (Kp : KP) : vc51 S a0 w K Kp = fVC S [(3, [13])] [] Try.f51 [a0] w K Kp := by kernel_rfl
theorem vc51_calls {a0 : Value} {w : World} {K : Value → World → Prop} {Kp : KP} (h : vc51 (nice Try.prog) a0 w K Kp) : Calls Try.prog 51 #[a0] w (ret K Kp) :=
  fVC_sound (args := [a0]) nice_le follows_mixed Try.func51 (by kernel_rfl) (Eq.mp (vc51_eq _ _ _ _ _) h)

/-- pub-bracken/impl.versionsOf$1 -/
def vc52 (S : Sig) (a0 a1 a2 : Value) (w : World) (K : Value → World → Prop) (Kp : KP) : Prop :=
  S.op (.fieldAddr 26 a0 0) w (fun v5 w =>
  S.op (.load 5 v5) w (fun v6 w =>
  S.op (.bin BinOp.eql 5 false true v6 (Value.int IntKind.u8 0)) w (fun v8 w =>
  Br v8 (
    S.op (.load 67 a1) w (fun v9 w =>
    S.op (.fieldAddr 26 a0 4) w (fun v10 w =>
    S.op (.load 2 v10) w (fun v11 w =>
    S.call (.fn 53) [v9, v11] w (fun v12 w =>
    S.op (.store 67 a2 v12) w (fun _ w =>
    K (Value.tuple #[]) w) Kp) Kp) Kp) Kp) Kp) (
    S.op (.bin BinOp.eql 5 false true v6 (Value.int IntKind.u8 1)) w (fun v14 w =>
    Br v14 (
      S.op (.load 67 a1) w (fun v15 w =>
      S.op (.fieldAddr 26 a0 4) w (fun v16 w =>
      S.op (.load 2 v16) w (fun v17 w =>
      S.call (.fn 54) [v15, v17] w (fun v18 w =>
      S.op (.store 67 a2 v18) w (fun _ w =>
      K (Value.tuple #[]) w) Kp) Kp) Kp) Kp) Kp) (
      S.op (.bin BinOp.eql 5 false true v6 (Value.int IntKind.u8 2)) w (fun v20 w =>
      Br v20 (
        S.op (.load 67 a1) w (fun v21 w =>
        S.op (.fieldAddr 26 a0 2) w (fun v22 w =>
        S.op (.load 3 v22) w (fun v23 w =>
        S.op (.fieldAddr 26 a0 4) w (fun v24 w =>
        S.op (.load 2 v24) w (fun v25 w =>
        S.call (.fn 55) [v21, v23, v25] w (fun v26 w =>
        S.op (.store 67 a2 v26) w (fun _ w =>
        K (Value.tuple #[]) w) Kp) Kp) Kp) Kp) Kp) Kp) Kp) (
        S.op (.bin BinOp.eql 5 false true v6 (Value.int IntKind.u8 3)) w (fun v28 w =>
        Br v28 (
          S.op (.load 67 a1) w (fun v29 w =>
          S.op (.fieldAddr 26 a0 2) w (fun v30 w =>
          S.op (.load 3 v30) w (fun v31 w =>
          S.op (.fieldAddr 26 a0 3) w (fun v32 w =>
          S.op (.load 3 v32) w (fun v33 w =>
          S.call (.fn 56) [v29, v31, v33] w (fun v34 w =>
          S.op (.store 67 a2 v34) w (fun _ w =>
          K (Value.tuple #[]) w) Kp) Kp) Kp) Kp) Kp) Kp) Kp) (
          S.op (.bin BinOp.eql 5 false true v6 (Value.int IntKind.u8 4)) w (fun v36 w =>
          Br v36 (
            S.op (.load 67 a1) w (fun v37 w =>
            S.op (.store 67 a2 v37) w (fun _ w =>
            Lp fun (I12 : Value → World → Prop) (μ12 : Value → World → Nat) => I12 (Value.int IntKind.i64 0) w ∧
            ∀ (wl12 : World) (junk : Nat → Value) (s3_i : Value), I12 s3_i wl12 →
              S.op (.fieldAddr 26 a0 2) wl12 (fun v39 w =>
              S.op (.load 3 v39) w (fun v40 w =>
              S.op (.bin BinOp.lss 3 false false s3_i v40) w (fun v41 w =>
              Br v41 (
                S.op (.load 67 a2) w (fun v44 w =>
                S.op (.fieldAddr 26 a0 4) w (fun v45 w =>
                S.op (.load 2 v45) w (fun v46 w =>
                S.op (.bin BinOp.add 2 false false v46 s3_i) w (fun v48 w =>
                S.call (.fn 53) [v44, v48] w (fun v49 w =>
                S.op (.store 67 a2 v49) w (fun _ w =>
                S.op (.bin BinOp.add 3 false true s3_i (Value.int IntKind.i64 1)) w (fun v43 w =>
                I12 v43 w ∧ μ12 v43 w < μ12 s3_i wl12) Kp) Kp) Kp) Kp) Kp) Kp) Kp) (
                K (Value.tuple #[]) w)) Kp) Kp) Kp) Kp) Kp) (
            S.op (.bin BinOp.eql 5 false true v6 (Value.int IntKind.u8 5)) w (fun v51 w =>
            Br v51 (
              S.op (.load 67 a1) w (fun v52 w =>
              S.op (.store 67 a2 v52) w (fun _ w =>
              Lp fun (I18 : Value → World → Prop) (μ18 : Value → World → Nat) => I18 (Value.int IntKind.i64 0) w ∧
              ∀ (wl18 : World) (junk : Nat → Value) (s4_i : Value), I18 s4_i wl18 →
                S.op (.fieldAddr 26 a0 2) wl18 (fun v54 w =>
                S.op (.load 3 v54) w (fun v55 w =>
                S.op (.bin BinOp.lss 3 false false s4_i v55) w (fun v56 w =>
                Br v56 (
                  S.op (.load 67 a2) w (fun v59 w =>
                  S.op (.fieldAddr 26 a0 4) w (fun v60 w =>
                  S.op (.load 2 v60) w (fun v61 w =>
                  S.op (.bin BinOp.add 2 false false v61 s4_i) w (fun v63 w =>
                  S.call (.fn 54) [v59, v63] w (fun v64 w =>
                  S.op (.store 67 a2 v64) w (fun _ w =>
                  S.op (.bin BinOp.add 3 false true s4_i (Value.int IntKind.i64 1)) w (fun v58 w =>
                  I18 v58 w ∧ μ18 v58 w < μ18 s4_i wl18) Kp) Kp) Kp) Kp) Kp) Kp) Kp) (
                  K (Value.tuple #[]) w)) Kp) Kp) Kp) Kp) Kp) (
              K (Value.tuple #[]) w)) Kp)) Kp)) Kp)) Kp)) Kp)) Kp) Kp) Kp
theorem vc52_eq (S : Sig) (a0 a1 a2 : Value) (w : World) (K : Value → World → Prop) (Kp : KP) : vc52 S a0 a1 a2 w K Kp = fVC S [(12, [3]), (18, [4])] [] Try.f52 [a0, a1, a2] w K Kp := by kernel_rfl
theorem vc52_calls {a0 a1 a2 : Value} {w : World} {K : Value → World → Prop} {Kp : KP} (h : vc52 (nice Try.prog) a0 a1 a2 w K Kp) : Calls Try.prog 52 #[a0, a1, a2] w (ret K Kp) :=
  fVC_sound (args := [a0, a1, a2]) nice_le follows_mixed Try.func52 (by kernel_rfl) (Eq.mp (vc52_eq _ _ _ _ _ _ _) h)

/-- (*pub-bracken/pub/immutable.List[int64]).Append -/
def vc53 (S : Sig) (a0 a1 : Value) (w : World) (K : Value → World → Prop) (Kp : KP) : Prop :=
  S.call (.fn 62) [a0, a1, (Value.bool false)] w (fun v7 w =>
  K v7 w) Kp
theorem vc53_eq (S : Sig) (a0 a1 : Value) (w : World) (K : Value → World → Prop) (Kp : KP) : vc53 S a0 a1 w K Kp = fVC S [] [] Try.f53 [a0, a1] w K Kp := by kernel_rfl
theorem vc53_calls {a0 a1 : Value} {w : World} {K : Value → World → Prop} {Kp : KP} (h : vc53 (nice Try.prog) a0 a1 w K Kp) : Calls Try.prog 53 #[a0, a1] w (ret K Kp) :=
  fVC_sound (args := [a0, a1]) nice_le follows_mixed Try.func53 (by kernel_rfl) (Eq.mp (vc53_eq _ _ _ _ _ _) h)

/-- (*pub-bracken/pub/immutable.List[int64]).Prepend -/
def vc54 (S : Sig) (a0 a1 : Value) (w : World) (K : Value → World → Prop) (Kp : KP) : Prop :=
  S.call (.fn 63) [a0, a1, (Value.bool false)] w (fun v7 w =>
  K v7 w) Kp
theorem vc54_eq (S : Sig) (a0 a1 : Value) (w : World) (K : Value → World → Prop) (Kp : KP) : vc54 S a0 a1 w K Kp = fVC S [] [] Try.f54 [a0, a1] w K Kp := by kernel_rfl
theorem vc54_calls {a0 a1 : Value} {w : World} {K : Value → World → Prop} {Kp : KP} (h : vc54 (nice Try.prog) a0 a1 w K Kp) : Calls Try.prog 54 #[a0, a1] w (ret K Kp) :=
  fVC_sound (args := [a0, a1]) nice_le follows_mixed Try.func54 (by kernel_rfl) (Eq.mp (vc54_eq _ _ _ _ _ _) h)

/-- (*pub-bracken/pub/immutable.List[int64]).Set -/
def vc55 (S : Sig) (a0 a1 a2 : Value) (w : World) (K : Value → World → Prop) (Kp : KP) : Prop :=
  S.call (.fn 64) [a0, a1, a2, (Value.bool false)] w (fun v10 w =>
  K v10 w) Kp
theorem vc55_eq (S : Sig) (a0 a1 a2 : Value) (w : World) (K : Value → World → Prop) (Kp : KP) : vc55 S a0 a1 a2 w K Kp = fVC S [] [] Try.f55 [a0, a1, a2] w K Kp := by kernel_rfl
theorem vc55_calls {a0 a1 a2 : Value} {w : World} {K : Value → World → Prop} {Kp : KP} (h : vc55 (nice Try.prog) a0 a1 a2 w K Kp) : Calls Try.prog 55 #[a0, a1, a2] w (ret K Kp) :=
  fVC_sound (args := [a0, a1, a2]) nice_le follows_mixed Try.func55 (by kernel_rfl) (Eq.mp (vc55_eq _ _ _ _ _ _ _) h)

/-- (*pub-bracken/pub/immutable.List[int64]).Slice -/
def vc56 (S : Sig) (a0 a1 a2 : Value) (w : World) (K : Value → World → Prop) (Kp : KP) : Prop :=
  S.call (.fn 65) [a0, a1, a2, (Value.bool false)] w (fun v10 w =>
  K v10 w) Kp
theorem vc56_eq (S : Sig) (a0 a1 a2 : Value) (w : World) (K : Value → World → Prop) (Kp : KP) : vc56 S a0 a1 a2 w K Kp = fVC S [] [] Try.f56 [a0, a1, a2] w K Kp := by kernel_rfl
theorem vc56_calls {a0 a1 a2 : Value} {w : World} {K : Value → World → Prop} {Kp : KP} (h : vc56 (nice Try.prog) a0 a1 a2 w K Kp) : Calls Try.prog 56 #[a0, a1, a2] w (ret K Kp) :=
  fVC_sound (args := [a0, a1, a2]) nice_le follows_mixed Try.func56 (by kernel_rfl) (Eq.mp (vc56_eq _ _ _ _ _ _ _) h)

/-- (*pub-bracken/pub/immutable.List[int64]).Len -/
def vc57 (S : Sig) (a0 : Value) (w : World) (K : Value → World → Prop) (Kp : KP) : Prop :=
  S.op (.nilCheck a0) w (fun v4 w =>
  S.op (.fieldAddr 106 v4 2) w (fun v5 w =>
  S.op (.load 3 v5) w (fun v6 w =>
  K v6 w) Kp) Kp) Kp
theorem vc57_eq (S : Sig) (a0 : Value) (w : World) (K : Value → World → Prop) (Kp : KP) : vc57 S a0 w K Kp = fVC S [] [] Try.f57 [a0] w K Kp := by kernel_rfl
theorem vc57_calls {a0 : Value} {w : World} {K : Value → World → Prop} {Kp : KP} (h : vc57 (nice Try.prog) a0 w K Kp) : Calls Try.prog 57 #[a0] w (ret K Kp) :=
  fVC_sound (args := [a0]) nice_le follows_mixed Try.func57 (by kernel_rfl) (Eq.mp (vc57_eq _ _ _ _ _) h)

/-- (*pub-bracken/pub/immutable.List[int64]).Get -/
def vc58 (S : Sig) (a0 a1 : Value) (w : World) (K : Value → World → Prop) (Kp : KP) : Prop :=
  S.op (.bin BinOp.lss 3 false true a1 (Value.int IntKind.i64 0)) w (fun v6 w =>
  Br v6 (
    S.op (.mkIface 9 (Value.string { data := #[105, 109, 109, 117, 116, 97, 98, 108, 101, 46, 76, 105, 115, 116, 46, 71, 101, 116, 58, 32, 105, 110, 100, 101, 120, 32, 37, 100, 32, 111, 117, 116, 32, 111, 102, 32, 98, 111, 117, 110, 100, 115] })) w (fun v15 w =>
    S.op (.panic v15) w (fun _ w =>
    S.pur (.nilCheck a0) (fun v17 =>
    S.pur (.fieldAddr 106 v17 0) (fun v18 =>
    S.ld (.load 93 v18) w.drew (fun v19 =>
    S.pur (.nilCheck a0) (fun v21 =>
    S.pur (.fieldAddr 106 v21 1) (fun v22 =>
    S.ld (.load 3 v22) w.drew (fun v23 =>
    S.pur (.bin BinOp.add 3 false false v23 a1) (fun v25 =>
    S.pur (.nilCheck v19) (fun v26 =>
    S.call (.inv v19 "pub-bracken/pub/immutable.get") [v25] w.drew (fun v28 w =>
    K v28 w) Kp))))))))) Kp) Kp) (
    S.op (.nilCheck a0) w (fun v10 w =>
    S.op (.fieldAddr 106 v10 2) w (fun v11 w =>
    S.op (.load 3 v11) w (fun v12 w =>
    S.op (.bin BinOp.geq 3 false false a1 v12) w (fun v13 w =>
    Br v13 (
      S.op (.mkIface 9 (Value.string { data := #[105, 109, 109, 117, 116, 97, 98, 108, 101, 46, 76, 105, 115, 116, 46, 71, 101, 116, 58, 32, 105, 110, 100, 101, 120, 32, 37, 100, 32, 111, 117, 116, 32, 111, 102, 32, 98, 111, 117, 110, 100, 115] })) w (fun v15 w =>
      S.op (.panic v15) w (fun _ w =>
      S.pur (.nilCheck a0) (fun v17 =>
      S.pur (.fieldAddr 106 v17 0) (fun v18 =>
      S.ld (.load 93 v18) w.drew (fun v19 =>
      S.pur (.nilCheck a0) (fun v21 =>
      S.pur (.fieldAddr 106 v21 1) (fun v22 =>
      S.ld (.load 3 v22) w.drew (fun v23 =>
      S.pur (.bin BinOp.add 3 false false v23 a1) (fun v25 =>
      S.pur (.nilCheck v19) (fun v26 =>
      S.call (.inv v19 "pub-bracken/pub/immutable.get") [v25] w.drew (fun v28 w =>
      K v28 w) Kp))))))))) Kp) Kp) (
      S.pur (.nilCheck a0) (fun v17 =>
      S.pur (.fieldAddr 106 v17 0) (fun v18 =>
      S.ld (.load 93 v18) w.drew (fun v19 =>
      S.pur (.nilCheck a0) (fun v21 =>
      S.pur (.fieldAddr 106 v21 1) (fun v22 =>
      S.ld (.load 3 v22) w.drew (fun v23 =>
      S.pur (.bin BinOp.add 3 false false v23 a1) (fun v25 =>
      S.pur (.nilCheck v19) (fun v26 =>
      S.call (.inv v19 "pub-bracken/pub/immutable.get") [v25] w.drew (fun v28 w =>
      K v28 w) Kp)))))))))) Kp) Kp) Kp) Kp)) Kp
theorem vc58_eq (S : Sig) (a0 a1 : Value) (w : World) (K : Value → World → Prop) (Kp : KP) : vc58 S a0 a1 w K Kp = fVC S [] [] Try.f58 [a0, a1] w K Kp := by kernel_rfl
theorem vc58_calls {a0 a1 : Value} {w : World} {K : Value → World → Prop} {Kp : KP} (h : vc58 (nice Try.prog) a0 a1 w K Kp) : Calls Try.prog 58 #[a0, a1] w (ret K Kp) :=
  fVC_sound (args := [a0, a1]) nice_le follows_mixed Try.func58 (by kernel_rfl) (Eq.mp (vc58_eq _ _ _ _ _ _) h)

/-- pub-bracken/impl.thrown$1 -/
def vc59 (S : Sig) (a0 : Value) (w : World) (K : Value → World → Prop) (Kp : KP) : Prop :=
  S.op (.blt Builtin.recover [] 20 []) w (fun v1 w =>
  S.op (.bin BinOp.neq 20 false true v1 Value.nilIface) w (fun v2 w =>
  S.op (.store 4 a0 v2) w (fun _ w =>
  K (Value.tuple #[]) w) Kp) Kp) Kp
theorem vc59_eq (S : Sig) (a0 : Value) (w : World) (K : Value → World → Prop) (Kp : KP) : vc59 S a0 w K Kp = fVC S [] [] Try.f59 [a0] w K Kp := by kernel_rfl
theorem vc59_calls {a0 : Value} {w : World} {K : Value → World → Prop} {Kp : KP} (h : vc59 (nice Try.prog) a0 w K Kp) : Calls Try.prog 59 #[a0] w (ret K Kp) :=
  fVC_sound (args := [a0]) nice_le follows_mixed Try.func59 (by kernel_rfl) (Eq.mp (vc59_eq _ _ _ _ _) h)

/-- (*pub-bracken/pub/immutable.ListIterator[int64]).seek -/
def vc60 (S : Sig) (a0 a1 : Value) (w : World) (K : Value → World → Prop) (Kp : KP) : Prop :=
  Lp fun (I0 : World → Prop) (μ0 : World → Nat) => I0 w ∧
  ∀ (wl0 : World) (junk : Nat → Value), I0 wl0 →
    S.pur (.nilCheck a0) (fun v10 =>
    S.pur (.fieldAddr 98 v10 3) (fun v11 =>
    S.ld (.load 3 v11) wl0.drew (fun v12 =>
    S.pur (.nilCheck a0) (fun v13 =>
    S.pur (.fieldAddr 98 v13 2) (fun v14 =>
    S.pur (.indexAddr 96 v14 v12) (fun v15 =>
    S.pur (.nilCheck a0) (fun v18 =>
    S.pur (.fieldAddr 98 v18 0) (fun v19 =>
    S.ld (.load 67 v19) wl0.drew.drew (fun v20 =>
    S.pur (.nilCheck v20) (fun v21 =>
    S.pur (.fieldAddr 106 v21 1) (fun v22 =>
    S.ld (.load 3 v22) wl0.drew.drew (fun v23 =>
    S.pur (.bin BinOp.add 3 false false v23 a1) (fun v25 =>
    S.pur (.nilCheck v15) (fun v27 =>
    S.pur (.fieldAddr 95 v27 0) (fun v28 =>
    S.ld (.load 93 v28) wl0.drew.drew (fun v29 =>
    S.call (.inv v29 "pub-bracken/pub/immutable.depth") [] wl0.drew.drew (fun v30 w =>
    S.same (.load 3 v22) v23 w ∧
    S.same (.load 67 v19) v20 w ∧
    S.pur (.bin BinOp.mul 113 false true v30 (Value.int IntKind.u64 5)) (fun v31 =>
    S.pur (.bin BinOp.shr 3 false false v25 v31) (fun v32 =>
    S.pur (.bin BinOp.and 3 false true v32 (Value.int IntKind.i64 31)) (fun v33 =>
    S.pur (.nilCheck v15) (fun v34 =>
    S.pur (.fieldAddr 95 v34 1) (fun v35 =>
    S.op (.store 3 v35 v33) w (fun _ w =>
    S.op (.nilCheck v15) w (fun v37 w =>
    S.op (.fieldAddr 95 v37 0) w (fun v38 w =>
    S.op (.load 93 v38) w (fun v39 w =>
    S.op (.tassert v39 93 115 true) w (fun v40 w =>
    S.op (.extract v40 1) w (fun v41 w =>
    S.op (.extract v40 0) w (fun v42 w =>
    Br v41 (
      S.pur (.nilCheck v15) (fun v45 =>
      S.pur (.fieldAddr 95 v45 1) (fun v46 =>
      S.ld (.load 3 v46) w.drew (fun v47 =>
      S.pur (.nilCheck v42) (fun v48 =>
      S.pur (.fieldAddr 118 v48 1) (fun v49 =>
      S.pur (.indexAddr 116 v49 v47) (fun v50 =>
      S.ld (.load 93 v50) w.drew (fun v51 =>
      S.pur (.nilCheck a0) (fun v54 =>
      S.pur (.fieldAddr 98 v54 3) (fun v55 =>
      S.ld (.load 3 v55) w.drew.drew (fun v56 =>
      S.pur (.bin BinOp.add 3 false true v56 (Value.int IntKind.i64 1)) (fun v57 =>
      S.pur (.build 95 [(0, v51)]) (fun v59 =>
      S.pur (.nilCheck a0) (fun v60 =>
      S.pur (.fieldAddr 98 v60 2) (fun v61 =>
      S.pur (.indexAddr 96 v61 v57) (fun v62 =>
      S.op (.store 95 v62 v59) w.drew.drew (fun _ w =>
      S.op (.nilCheck a0) w (fun v64 w =>
      S.op (.fieldAddr 98 v64 3) w (fun v65 w =>
      S.op (.load 3 v65) w (fun v66 w =>
      S.op (.bin BinOp.add 3 false true v66 (Value.int IntKind.i64 1)) w (fun v67 w =>
      S.op (.nilCheck a0) w (fun v68 w =>
      S.op (.fieldAddr 98 v68 3) w (fun v69 w =>
      S.op (.store 3 v69 v67) w (fun _ w =>
      I0 w ∧ μ0 w < μ0 wl0) Kp) Kp) Kp) Kp) Kp) Kp) Kp) Kp)))))))))))))))) (
      S.op (.tassert v39 93 104 true) w (fun v70 w =>
      S.op (.extract v70 1) w (fun v71 w =>
      S.op (.extract v70 0) w (fun v72 w =>
      Br v71 (
        K (Value.tuple #[]) w) (
        I0 w ∧ μ0 w < μ0 wl0)) Kp) Kp) Kp)) Kp) Kp) Kp) Kp) Kp) Kp) Kp)))))) Kp))))))))))))))))
theorem vc60_eq (S : Sig) (a0 a1 : Value) (w : World) (K : Value → World → Prop) (Kp : KP) : vc60 S a0 a1 w K Kp = fVC S [(0, [])] [] Try.f60 [a0, a1] w K Kp := by kernel_rfl
theorem vc60_calls {a0 a1 : Value} {w : World} {K : Value → World → Prop} {Kp : KP} (h : vc60 (nice Try.prog) a0 a1 w K Kp) : Calls Try.prog 60 #[a0, a1] w (ret K Kp) :=
  fVC_sound (args := [a0, a1]) nice_le follows_mixed Try.func60 (by kernel_rfl) (Eq.mp (vc60_eq _ _ _ _ _ _) h)

/-- pub-bracken/pub/immutable.assert -/
def vc61 (S : Sig) (a0 a1 : Value) (w : World) (K : Value → World → Prop) (Kp : KP) : Prop :=
  S.op (.un UnOp.not a0) w (fun v5 w =>
  Br v5 (
    S.op (.mkIface 9 a1) w (fun v7 w =>
    S.op (.panic v7) w (fun _ w =>
    K (Value.tuple #[]) w) Kp) Kp) (
    K (Value.tuple #[]) w)) Kp
theorem vc61_eq (S : Sig) (a0 a1 : Value) (w : World) (K : Value → World → Prop) (Kp : KP) : vc61 S a0 a1 w K Kp = fVC S [] [] Try.f61 [a0, a1] w K Kp := by kernel_rfl
theorem vc61_calls {a0 a1 : Value} {w : World} {K : Value → World → Prop} {Kp : KP} (h : vc61 (nice Try.prog) a0 a1 w K Kp) : Calls Try.prog 61 #[a0, a1] w (ret K Kp) :=
  fVC_sound (args := [a0, a1]) nice_le follows_mixed Try.func61 (by kernel_rfl) (Eq.mp (vc61_eq _ _ _ _ _ _) h)

/-- (*pub-bracken/pub/immutable.List[int64]).append -/
def vc62 (S : Sig) (a0 a1 a2 : Value) (w : World) (K : Value → World → Prop) (Kp : KP) : Prop :=
  Jn fun (J4 : Value → World → Prop) =>
  (S.op (.un UnOp.not a2) w (fun v11 w =>
    Br v11 (
      S.call (.fn 66) [a0] w (fun v13 w =>
      J4 v13 w) Kp) (
      J4 a0 w)) Kp) ∧
  (∀ (w : World) (junk : Nat → Value) (j7_other : Value), J4 j7_other w →
    Jn fun (J8 : World → Prop) =>
    (S.pur (.nilCheck j7_other) (fun v15 =>
      S.pur (.fieldAddr 106 v15 2) (fun v16 =>
      S.ld (.load 3 v16) w.drew (fun v17 =>
      S.pur (.nilCheck j7_other) (fun v19 =>
      S.pur (.fieldAddr 106 v19 1) (fun v20 =>
      S.ld (.load 3 v20) w.drew (fun v21 =>
      S.pur (.bin BinOp.add 3 false false v17 v21) (fun v22 =>
      S.call (.fn 67) [a0] w.drew (fun v24 w =>
      S.same (.load 3 v20) v21 w ∧
      S.same (.load 3 v16) v17 w ∧
      S.pur (.bin BinOp.geq 3 false false v22 v24) (fun v25 =>
      Br v25 (
        S.op (.nilCheck j7_other) w (fun v27 w =>
        S.op (.fieldAddr 106 v27 0) w (fun v28 w =>
        S.op (.load 93 v28) w (fun v29 w =>
        S.call (.inv v29 "pub-bracken/pub/immutable.depth") [] w (fun v30 w =>
        S.op (.bin BinOp.add 113 false true v30 (Value.int IntKind.u64 1)) w (fun v31 w =>
        S.op (.build 118 [(0, v31)]) w (fun v32 w =>
        S.op (.box 118 v32) w (fun v33 w =>
        S.pur (.nilCheck j7_other) (fun v36 =>
        S.pur (.fieldAddr 106 v36 0) (fun v37 =>
        S.ld (.load 93 v37) w.drew (fun v38 =>
        S.pur (.nilCheck v33) (fun v39 =>
        S.pur (.fieldAddr 118 v39 1) (fun v40 =>
        S.pur (.indexAddr 116 v40 (Value.int IntKind.i64 0)) (fun v41 =>
        S.op (.store 93 v41 v38) w.drew (fun _ w =>
        S.op (.mkIface 115 v33) w (fun v44 w =>
        S.op (.nilCheck j7_other) w (fun v45 w =>
        S.op (.fieldAddr 106 v45 0) w (fun v46 w =>
        S.op (.store 93 v46 v44) w (fun _ w =>
        J8 w) Kp) Kp) Kp) Kp) Kp))))))) Kp) Kp) Kp) Kp) Kp) Kp) Kp) (
        J8 w))) Kp)))))))) ∧
    (∀ (w : World) (junk : Nat → Value), J8 w →
      S.op (.nilCheck j7_other) w (fun v48 w =>
      S.op (.fieldAddr 106 v48 2) w (fun v49 w =>
      S.op (.load 3 v49) w (fun v50 w =>
      S.op (.bin BinOp.add 3 false true v50 (Value.int IntKind.i64 1)) w (fun v51 w =>
      S.op (.nilCheck j7_other) w (fun v52 w =>
      S.op (.fieldAddr 106 v52 2) w (fun v53 w =>
      S.op (.store 3 v53 v51) w (fun _ w =>
      S.pur (.nilCheck j7_other) (fun v56 =>
      S.pur (.fieldAddr 106 v56 0) (fun v57 =>
      S.ld (.load 93 v57) w.drew (fun v58 =>
      S.pur (.nilCheck j7_other) (fun v60 =>
      S.pur (.fieldAddr 106 v60 1) (fun v61 =>
      S.ld (.load 3 v61) w.drew (fun v62 =>
      S.pur (.nilCheck j7_other) (fun v64 =>
      S.pur (.fieldAddr 106 v64 2) (fun v65 =>
      S.ld (.load 3 v65) w.drew (fun v66 =>
      S.pur (.bin BinOp.add 3 false false v62 v66) (fun v67 =>
      S.pur (.bin BinOp.sub 3 false true v67 (Value.int IntKind.i64 1)) (fun v68 =>
      S.pur (.nilCheck v58) (fun v71 =>
      S.call (.inv v58 "pub-bracken/pub/immutable.set") [v68, a1, a2] w.drew (fun v73 w =>
      S.pur (.nilCheck j7_other) (fun v74 =>
      S.pur (.fieldAddr 106 v74 0) (fun v75 =>
      S.op (.store 93 v75 v73) w (fun _ w =>
      K j7_other w) Kp))) Kp))))))))))))) Kp) Kp) Kp) Kp) Kp) Kp) Kp))
theorem vc62_eq (S : Sig) (a0 a1 a2 : Value) (w : World) (K : Value → World → Prop) (Kp : KP) : vc62 S a0 a1 a2 w K Kp = fVC S [] [(4, [7]), (8, [])] Try.f62 [a0, a1, a2] w K Kp := by kernel_rfl
theorem vc62_calls {a0 a1 a2 : Value} {w : World} {K : Value → World → Prop} {Kp : KP} (h : vc62 (nice Try.prog) a0 a1 a2 w K Kp) : Calls Try.prog 62 #[a0, a1, a2] w (ret K Kp) :=
  fVC_sound (args := [a0, a1, a2]) nice_le follows_mixed Try.func62 (by kernel_rfl) (Eq.mp (vc62_eq _ _ _ _ _ _ _) h)

/-- (*pub-bracken/pub/immutable.List[int64]).prepend -/
def vc63 (S : Sig) (a0 a1 a2 : Value) (w : World) (K : Value → World → Prop) (Kp : KP) : Prop :=
  Jn fun (J4 : Value → World → Prop) =>
  (S.op (.un UnOp.not a2) w (fun v11 w =>
    Br v11 (
      S.call (.fn 66) [a0] w (fun v13 w =>
      J4 v13 w) Kp) (
      J4 a0 w)) Kp) ∧
  (∀ (w : World) (junk : Nat → Value) (j7_other : Value), J4 j7_other w →
    Jn fun (J9 : World → Prop) =>
    (S.op (.nilCheck j7_other) w (fun v15 w =>
      S.op (.fieldAddr 106 v15 1) w (fun v16 w =>
      S.op (.load 3 v16) w (fun v17 w =>
      S.op (.bin BinOp.eql 3 false true v17 (Value.int IntKind.i64 0)) w (fun v18 w =>
      Br v18 (
        S.op (.nilCheck j7_other) w (fun v20 w =>
        S.op (.fieldAddr 106 v20 0) w (fun v21 w =>
        S.op (.load 93 v21) w (fun v22 w =>
        S.call (.inv v22 "pub-bracken/pub/immutable.depth") [] w (fun v23 w =>
        S.op (.bin BinOp.add 113 false true v23 (Value.int IntKind.u64 1)) w (fun v24 w =>
        S.op (.build 118 [(0, v24)]) w (fun v25 w =>
        S.op (.box 118 v25) w (fun v26 w =>
        S.pur (.nilCheck j7_other) (fun v29 =>
        S.pur (.fieldAddr 106 v29 0) (fun v30 =>
        S.ld (.load 93 v30) w.drew (fun v31 =>
        S.pur (.nilCheck v26) (fun v32 =>
        S.pur (.fieldAddr 118 v32 1) (fun v33 =>
        S.pur (.indexAddr 116 v33 (Value.int IntKind.i64 31)) (fun v34 =>
        S.op (.store 93 v34 v31) w.drew (fun _ w =>
        S.op (.mkIface 115 v26) w (fun v37 w =>
        S.op (.nilCheck j7_other) w (fun v38 w =>
        S.op (.fieldAddr 106 v38 0) w (fun v39 w =>
        S.op (.store 93 v39 v37) w (fun _ w =>
        S.pur (.nilCheck j7_other) (fun v41 =>
        S.pur (.fieldAddr 106 v41 1) (fun v42 =>
        S.ld (.load 3 v42) w.drew (fun v43 =>
        S.pur (.nilCheck j7_other) (fun v45 =>
        S.pur (.fieldAddr 106 v45 0) (fun v46 =>
        S.ld (.load 93 v46) w.drew (fun v47 =>
        S.call (.inv v47 "pub-bracken/pub/immutable.depth") [] w.drew (fun v48 w =>
        S.same (.load 3 v42) v43 w ∧
        S.pur (.bin BinOp.mul 113 false true v48 (Value.int IntKind.u64 5)) (fun v49 =>
        S.pur (.bin BinOp.shl 3 true false (Value.int IntKind.i64 31) v49) (fun v50 =>
        S.pur (.bin BinOp.add 3 false false v43 v50) (fun v51 =>
        S.pur (.nilCheck j7_other) (fun v52 =>
        S.pur (.fieldAddr 106 v52 1) (fun v53 =>
        S.op (.store 3 v53 v51) w (fun _ w =>
        J9 w) Kp)))))) Kp))))))) Kp) Kp) Kp) Kp) Kp))))))) Kp) Kp) Kp) Kp) Kp) Kp) Kp) (
        J9 w)) Kp) Kp) Kp) Kp) ∧
    (∀ (w : World) (junk : Nat → Value), J9 w →
      S.op (.nilCheck j7_other) w (fun v55 w =>
      S.op (.fieldAddr 106 v55 2) w (fun v56 w =>
      S.op (.load 3 v56) w (fun v57 w =>
      S.op (.bin BinOp.add 3 false true v57 (Value.int IntKind.i64 1)) w (fun v58 w =>
      S.op (.nilCheck j7_other) w (fun v59 w =>
      S.op (.fieldAddr 106 v59 2) w (fun v60 w =>
      S.op (.store 3 v60 v58) w (fun _ w =>
      S.op (.nilCheck j7_other) w (fun v62 w =>
      S.op (.fieldAddr 106 v62 1) w (fun v63 w =>
      S.op (.load 3 v63) w (fun v64 w =>
      S.op (.bin BinOp.sub 3 false true v64 (Value.int IntKind.i64 1)) w (fun v65 w =>
      S.op (.nilCheck j7_other) w (fun v66 w =>
      S.op (.fieldAddr 106 v66 1) w (fun v67 w =>
      S.op (.store 3 v67 v65) w (fun _ w =>
      S.pur (.nilCheck j7_other) (fun v70 =>
      S.pur (.fieldAddr 106 v70 0) (fun v71 =>
      S.ld (.load 93 v71) w.drew (fun v72 =>
      S.pur (.nilCheck j7_other) (fun v74 =>
      S.pur (.fieldAddr 106 v74 1) (fun v75 =>
      S.ld (.load 3 v75) w.drew (fun v76 =>
      S.pur (.nilCheck v72) (fun v79 =>
      S.call (.inv v72 "pub-bracken/pub/immutable.set") [v76, a1, a2] w.drew (fun v81 w =>
      S.pur (.nilCheck j7_other) (fun v82 =>
      S.pur (.fieldAddr 106 v82 0) (fun v83 =>
      S.op (.store 93 v83 v81) w (fun _ w =>
      K j7_other w) Kp))) Kp)))))))) Kp) Kp) Kp) Kp) Kp) Kp) Kp) Kp) Kp) Kp) Kp) Kp) Kp) Kp))
theorem vc63_eq (S : Sig) (a0 a1 a2 : Value) (w : World) (K : Value → World → Prop) (Kp : KP) : vc63 S a0 a1 a2 w K Kp = fVC S [] [(4, [7]), (9, [])] Try.f63 [a0, a1, a2] w K Kp := by kernel_rfl
theorem vc63_calls {a0 a1 a2 : Value} {w : World} {K : Value → World → Prop} {Kp : KP} (h : vc63 (nice Try.prog) a0 a1 a2 w K Kp) : Calls Try.prog 63 #[a0, a1, a2] w (ret K Kp) :=
  fVC_sound (args := [a0, a1, a2]) nice_le follows_mixed Try.func63 (by kernel_rfl) (Eq.mp (vc63_eq _ _ _ _ _ _ _) h)

/-- (*pub-bracken/pub/immutable.List[int64]).set -/
def vc64 (S : Sig) (a0 a1 a2 a3 : Value) (w : World) (K : Value → World → Prop) (Kp : KP) : Prop :=
  S.op (.bin BinOp.lss 3 false true a1 (Value.int IntKind.i64 0)) w (fun v11 w =>
  Br v11 (
    S.op (.mkIface 9 (Value.string { data := #[105, 109, 109, 117, 116, 97, 98, 108, 101, 46, 76, 105, 115, 116, 46, 83, 101, 116, 58, 32, 105, 110, 100, 101, 120, 32, 37, 100, 32, 111, 117, 116, 32, 111, 102, 32, 98, 111, 117, 110, 100, 115] })) w (fun v20 w =>
    S.op (.panic v20) w (fun _ w =>
    S.op (.un UnOp.not a3) w (fun v23 w =>
    Br v23 (
      S.call (.fn 66) [a0] w (fun v25 w =>
      S.pur (.nilCheck v25) (fun v28 =>
      S.pur (.fieldAddr 106 v28 0) (fun v29 =>
      S.ld (.load 93 v29) w.drew (fun v30 =>
      S.pur (.nilCheck a0) (fun v32 =>
      S.pur (.fieldAddr 106 v32 1) (fun v33 =>
      S.ld (.load 3 v33) w.drew (fun v34 =>
      S.pur (.bin BinOp.add 3 false false v34 a1) (fun v36 =>
      S.pur (.nilCheck v30) (fun v39 =>
      S.call (.inv v30 "pub-bracken/pub/immutable.set") [v36, a2, a3] w.drew (fun v41 w =>
      S.pur (.nilCheck v25) (fun v42 =>
      S.pur (.fieldAddr 106 v42 0) (fun v43 =>
      S.op (.store 93 v43 v41) w (fun _ w =>
      K v25 w) Kp))) Kp))))))))) Kp) (
      S.pur (.nilCheck a0) (fun v28 =>
      S.pur (.fieldAddr 106 v28 0) (fun v29 =>
      S.ld (.load 93 v29) w.drew (fun v30 =>
      S.pur (.nilCheck a0) (fun v32 =>
      S.pur (.fieldAddr 106 v32 1) (fun v33 =>
      S.ld (.load 3 v33) w.drew (fun v34 =>
      S.pur (.bin BinOp.add 3 false false v34 a1) (fun v36 =>
      S.pur (.nilCheck v30) (fun v39 =>
      S.call (.inv v30 "pub-bracken/pub/immutable.set") [v36, a2, a3] w.drew (fun v41 w =>
      S.pur (.nilCheck a0) (fun v42 =>
      S.pur (.fieldAddr 106 v42 0) (fun v43 =>
      S.op (.store 93 v43 v41) w (fun _ w =>
      K a0 w) Kp))) Kp)))))))))) Kp) Kp) Kp) (
    S.op (.nilCheck a0) w (fun v15 w =>
    S.op (.fieldAddr 106 v15 2) w (fun v16 w =>
    S.op (.load 3 v16) w (fun v17 w =>
    S.op (.bin BinOp.geq 3 false false a1 v17) w (fun v18 w =>
    Br v18 (
      S.op (.mkIface 9 (Value.string { data := #[105, 109, 109, 117, 116, 97, 98, 108, 101, 46, 76, 105, 115, 116, 46, 83, 101, 116, 58, 32, 105, 110, 100, 101, 120, 32, 37, 100, 32, 111, 117, 116, 32, 111, 102, 32, 98, 111, 117, 110, 100, 115] })) w (fun v20 w =>
      S.op (.panic v20) w (fun _ w =>
      S.op (.un UnOp.not a3) w (fun v23 w =>
      Br v23 (
        S.call (.fn 66) [a0] w (fun v25 w =>
        S.pur (.nilCheck v25) (fun v28 =>
        S.pur (.fieldAddr 106 v28 0) (fun v29 =>
        S.ld (.load 93 v29) w.drew (fun v30 =>
        S.pur (.nilCheck a0) (fun v32 =>
        S.pur (.fieldAddr 106 v32 1) (fun v33 =>
        S.ld (.load 3 v33) w.drew (fun v34 =>
        S.pur (.bin BinOp.add 3 false false v34 a1) (fun v36 =>
        S.pur (.nilCheck v30) (fun v39 =>
        S.call (.inv v30 "pub-bracken/pub/immutable.set") [v36, a2, a3] w.drew (fun v41 w =>
        S.pur (.nilCheck v25) (fun v42 =>
        S.pur (.fieldAddr 106 v42 0) (fun v43 =>
        S.op (.store 93 v43 v41) w (fun _ w =>
        K v25 w) Kp))) Kp))))))))) Kp) (
        S.pur (.nilCheck a0) (fun v28 =>
        S.pur (.fieldAddr 106 v28 0) (fun v29 =>
        S.ld (.load 93 v29) w.drew (fun v30 =>
        S.pur (.nilCheck a0) (fun v32 =>
        S.pur (.fieldAddr 106 v32 1) (fun v33 =>
        S.ld (.load 3 v33) w.drew (fun v34 =>
        S.pur (.bin BinOp.add 3 false false v34 a1) (fun v36 =>
        S.pur (.nilCheck v30) (fun v39 =>
        S.call (.inv v30 "pub-bracken/pub/immutable.set") [v36, a2, a3] w.drew (fun v41 w =>
        S.pur (.nilCheck a0) (fun v42 =>
        S.pur (.fieldAddr 106 v42 0) (fun v43 =>
        S.op (.store 93 v43 v41) w (fun _ w =>
        K a0 w) Kp))) Kp)))))))))) Kp) Kp) Kp) (
      S.op (.un UnOp.not a3) w (fun v23 w =>
      Br v23 (
        S.call (.fn 66) [a0] w (fun v25 w =>
        S.pur (.nilCheck v25) (fun v28 =>
        S.pur (.fieldAddr 106 v28 0) (fun v29 =>
        S.ld (.load 93 v29) w.drew (fun v30 =>
        S.pur (.nilCheck a0) (fun v32 =>
        S.pur (.fieldAddr 106 v32 1) (fun v33 =>
        S.ld (.load 3 v33) w.drew (fun v34 =>
        S.pur (.bin BinOp.add 3 false false v34 a1) (fun v36 =>
        S.pur (.nilCheck v30) (fun v39 =>
        S.call (.inv v30 "pub-bracken/pub/immutable.set") [v36, a2, a3] w.drew (fun v41 w =>
        S.pur (.nilCheck v25) (fun v42 =>
        S.pur (.fieldAddr 106 v42 0) (fun v43 =>
        S.op (.store 93 v43 v41) w (fun _ w =>
        K v25 w) Kp))) Kp))))))))) Kp) (
        S.pur (.nilCheck a0) (fun v28 =>
        S.pur (.fieldAddr 106 v28 0) (fun v29 =>
        S.ld (.load 93 v29) w.drew (fun v30 =>
        S.pur (.nilCheck a0) (fun v32 =>
        S.pur (.fieldAddr 106 v32 1) (fun v33 =>
        S.ld (.load 3 v33) w.drew (fun v34 =>
        S.pur (.bin BinOp.add 3 false false v34 a1) (fun v36 =>
        S.pur (.nilCheck v30) (fun v39 =>
        S.call (.inv v30 "pub-bracken/pub/immutable.set") [v36, a2, a3] w.drew (fun v41 w =>
        S.pur (.nilCheck a0) (fun v42 =>
        S.pur (.fieldAddr 106 v42 0) (fun v43 =>
        S.op (.store 93 v43 v41) w (fun _ w =>
        K a0 w) Kp))) Kp)))))))))) Kp)) Kp) Kp) Kp) Kp)) Kp
theorem vc64_eq (S : Sig) (a0 a1 a2 a3 : Value) (w : World) (K : Value → World → Prop) (Kp : KP) : vc64 S a0 a1 a2 a3 w K Kp = fVC S [] [] Try.f64 [a0, a1, a2, a3] w K Kp := by kernel_rfl
theorem vc64_calls {a0 a1 a2 a3 : Value} {w : World} {K : Value → World → Prop} {Kp : KP} (h : vc64 (nice Try.prog) a0 a1 a2 a3 w K Kp) : Calls Try.prog 64 #[a0, a1, a2, a3] w (ret K Kp) :=
  fVC_sound (args := [a0, a1, a2, a3]) nice_le follows_mixed Try.func64 (by kernel_rfl) (Eq.mp (vc64_eq _ _ _ _ _ _ _ _) h)

/-- (*pub-bracken/pub/immutable.List[int64]).slice -/
def vc65 (S : Sig) (a0 a1 a2 a3 : Value) (w : World) (K : Value → World → Prop) (Kp : KP) : Prop :=
  Jn fun (J7 : World → Prop) =>
  (S.op (.bin BinOp.lss 3 false true a1 (Value.int IntKind.i64 0)) w (fun v13 w =>
    Br v13 (
      S.op (.mkIface 9 (Value.string { data := #[105, 109, 109, 117, 116, 97, 98, 108, 101, 46, 76, 105, 115, 116, 46, 83, 108, 105, 99, 101, 58, 32, 115, 116, 97, 114, 116, 32, 105, 110, 100, 101, 120, 32, 37, 100, 32, 111, 117, 116, 32, 111, 102, 32, 98, 111, 117, 110, 100, 115] })) w (fun v22 w =>
      S.op (.panic v22) w (fun _ w =>
      J7 w) Kp) Kp) (
      S.op (.nilCheck a0) w (fun v17 w =>
      S.op (.fieldAddr 106 v17 2) w (fun v18 w =>
      S.op (.load 3 v18) w (fun v19 w =>
      S.op (.bin BinOp.gtr 3 false false a1 v19) w (fun v20 w =>
      Br v20 (
        S.op (.mkIface 9 (Value.string { data := #[105, 109, 109, 117, 116, 97, 98, 108, 101, 46, 76, 105, 115, 116, 46, 83, 108, 105, 99, 101, 58, 32, 115, 116, 97, 114, 116, 32, 105, 110, 100, 101, 120, 32, 37, 100, 32, 111, 117, 116, 32, 111, 102, 32, 98, 111, 117, 110, 100, 115] })) w (fun v22 w =>
        S.op (.panic v22) w (fun _ w =>
        J7 w) Kp) Kp) (
        S.op (.bin BinOp.lss 3 false true a2 (Value.int IntKind.i64 0)) w (fun v24 w =>
        Br v24 (
          S.op (.mkIface 9 (Value.string { data := #[105, 109, 109, 117, 116, 97, 98, 108, 101, 46, 76, 105, 115, 116, 46, 83, 108, 105, 99, 101, 58, 32, 101, 110, 100, 32, 105, 110, 100, 101, 120, 32, 37, 100, 32, 111, 117, 116, 32, 111, 102, 32, 98, 111, 117, 110, 100, 115] })) w (fun v33 w =>
          S.op (.panic v33) w (fun _ w =>
          J7 w) Kp) Kp) (
          S.op (.nilCheck a0) w (fun v28 w =>
          S.op (.fieldAddr 106 v28 2) w (fun v29 w =>
          S.op (.load 3 v29) w (fun v30 w =>
          S.op (.bin BinOp.gtr 3 false false a2 v30) w (fun v31 w =>
          Br v31 (
            S.op (.mkIface 9 (Value.string { data := #[105, 109, 109, 117, 116, 97, 98, 108, 101, 46, 76, 105, 115, 116, 46, 83, 108, 105, 99, 101, 58, 32, 101, 110, 100, 32, 105, 110, 100, 101, 120, 32, 37, 100, 32, 111, 117, 116, 32, 111, 102, 32, 98, 111, 117, 110, 100, 115] })) w (fun v33 w =>
            S.op (.panic v33) w (fun _ w =>
            J7 w) Kp) Kp) (
            S.op (.bin BinOp.gtr 3 false false a1 a2) w (fun v36 w =>
            Br v36 (
              S.op (.mkIface 9 (Value.string { data := #[105, 109, 109, 117, 116, 97, 98, 108, 101, 46, 76, 105, 115, 116, 46, 83, 108, 105, 99, 101, 58, 32, 105, 110, 118, 97, 108, 105, 100, 32, 115, 108, 105, 99, 101, 32, 105, 110, 100, 101, 120, 58, 32, 91, 37, 100, 58, 37, 100, 93] })) w (fun v37 w =>
              S.op (.panic v37) w (fun _ w =>
              J7 w) Kp) Kp) (
              J7 w)) Kp)) Kp) Kp) Kp) Kp)) Kp)) Kp) Kp) Kp) Kp)) Kp) ∧
  (∀ (w : World) (junk : Nat → Value), J7 w →
    Jn fun (J9 : World → Prop) =>
    (S.op (.bin BinOp.eql 3 false true a1 (Value.int IntKind.i64 0)) w (fun v39 w =>
      Br v39 (
        S.op (.nilCheck a0) w (fun v43 w =>
        S.op (.fieldAddr 106 v43 2) w (fun v44 w =>
        S.op (.load 3 v44) w (fun v45 w =>
        S.op (.bin BinOp.eql 3 false false a2 v45) w (fun v46 w =>
        Br v46 (
          K a0 w) (
          J9 w)) Kp) Kp) Kp) Kp) (
        J9 w)) Kp) ∧
    (∀ (w : World) (junk : Nat → Value), J9 w →
      Jn fun (J12 : Value → World → Prop) =>
      (S.op (.un UnOp.not a3) w (fun v51 w =>
        Br v51 (
          S.call (.fn 66) [a0] w (fun v53 w =>
          J12 v53 w) Kp) (
          J12 a0 w)) Kp) ∧
      (∀ (w : World) (junk : Nat → Value) (j9_other : Value), J12 j9_other w →
        S.op (.nilCheck a0) w (fun v56 w =>
        S.op (.fieldAddr 106 v56 1) w (fun v57 w =>
        S.op (.load 3 v57) w (fun v58 w =>
        S.op (.bin BinOp.add 3 false false v58 a1) w (fun v60 w =>
        S.op (.nilCheck j9_other) w (fun v61 w =>
        S.op (.fieldAddr 106 v61 1) w (fun v62 w =>
        S.op (.store 3 v62 v60) w (fun _ w =>
        S.op (.bin BinOp.sub 3 false false a2 a1) w (fun v66 w =>
        S.op (.nilCheck j9_other) w (fun v67 w =>
        S.op (.fieldAddr 106 v67 2) w (fun v68 w =>
        S.op (.store 3 v68 v66) w (fun _ w =>
        Jn fun (J20 : World → Prop) =>
        (Lp fun (I14 : World → Prop) (μ14 : World → Nat) => I14 w ∧
          ∀ (wl14 : World) (junk : Nat → Value), I14 wl14 →
            S.op (.nilCheck j9_other) wl14 (fun v70 w =>
            S.op (.fieldAddr 106 v70 0) w (fun v71 w =>
            S.op (.load 93 v71) w (fun v72 w =>
            S.call (.inv v72 "pub-bracken/pub/immutable.depth") [] w (fun v73 w =>
            S.op (.bin BinOp.gtr 113 false true v73 (Value.int IntKind.u64 1)) w (fun v74 w =>
            Br v74 (
              S.pur (.nilCheck j9_other) (fun v76 =>
              S.pur (.fieldAddr 106 v76 1) (fun v77 =>
              S.ld (.load 3 v77) w.drew (fun v78 =>
              S.pur (.nilCheck j9_other) (fun v80 =>
              S.pur (.fieldAddr 106 v80 0) (fun v81 =>
              S.ld (.load 93 v81) w.drew (fun v82 =>
              S.call (.inv v82 "pub-bracken/pub/immutable.depth") [] w.drew (fun v83 w =>
              S.same (.load 3 v77) v78 w ∧
              S.pur (.bin BinOp.mul 113 false true v83 (Value.int IntKind.u64 5)) (fun v84 =>
              S.pur (.bin BinOp.shr 3 false false v78 v84) (fun v85 =>
              S.pur (.bin BinOp.and 3 false true v85 (Value.int IntKind.i64 31)) (fun v86 =>
              S.pur (.nilCheck j9_other) (fun v88 =>
              S.pur (.fieldAddr 106 v88 1) (fun v89 =>
              S.ld (.load 3 v89) w.drew (fun v90 =>
              S.pur (.nilCheck j9_other) (fun v92 =>
              S.pur (.fieldAddr 106 v92 2) (fun v93 =>
              S.ld (.load 3 v93) w.drew (fun v94 =>
              S.pur (.bin BinOp.add 3 false false v90 v94) (fun v95 =>
              S.pur (.bin BinOp.sub 3 false true v95 (Value.int IntKind.i64 1)) (fun v96 =>
              S.pur (.nilCheck j9_other) (fun v98 =>
              S.pur (.fieldAddr 106 v98 0) (fun v99 =>
              S.ld (.load 93 v99) w.drew (fun v100 =>
              S.call (.inv v100 "pub-bracken/pub/immutable.depth") [] w.drew (fun v101 w =>
              S.same (.load 3 v93) v94 w ∧
              S.same (.load 3 v89) v90 w ∧
              S.pur (.bin BinOp.mul 113 false true v101 (Value.int IntKind.u64 5)) (fun v102 =>
              S.pur (.bin BinOp.shr 3 false false v96 v102) (fun v103 =>
              S.pur (.bin BinOp.and 3 false true v103 (Value.int IntKind.i64 31)) (fun v104 =>
              S.op (.bin BinOp.neq 3 false false v86 v104) w (fun v107 w =>
              Br v107 (
                J20 w) (
                S.pur (.nilCheck j9_other) (fun v109 =>
                S.pur (.fieldAddr 106 v109 1) (fun v110 =>
                S.ld (.load 3 v110) w.drew (fun v111 =>
                S.pur (.nilCheck j9_other) (fun v114 =>
                S.pur (.fieldAddr 106 v114 0) (fun v115 =>
                S.ld (.load 93 v115) w.drew (fun v116 =>
                S.call (.inv v116 "pub-bracken/pub/immutable.depth") [] w.drew (fun v117 w =>
                S.same (.load 3 v110) v111 w ∧
                S.pur (.bin BinOp.mul 113 false true v117 (Value.int IntKind.u64 5)) (fun v118 =>
                S.pur (.bin BinOp.shl 3 false false v86 v118) (fun v119 =>
                S.pur (.bin BinOp.sub 3 false false v111 v119) (fun v120 =>
                S.pur (.nilCheck j9_other) (fun v121 =>
                S.pur (.fieldAddr 106 v121 1) (fun v122 =>
                S.op (.store 3 v122 v120) w (fun _ w =>
                S.op (.nilCheck j9_other) w (fun v125 w =>
                S.op (.fieldAddr 106 v125 0) w (fun v126 w =>
                S.op (.load 93 v126) w (fun v127 w =>
                S.op (.tassert v127 93 115 false) w (fun v128 w =>
                S.op (.nilCheck v128) w (fun v130 w =>
                S.op (.fieldAddr 118 v130 1) w (fun v131 w =>
                S.op (.indexAddr 116 v131 v86) w (fun v132 w =>
                S.op (.load 93 v132) w (fun v133 w =>
                S.op (.nilCheck j9_other) w (fun v134 w =>
                S.op (.fieldAddr 106 v134 0) w (fun v135 w =>
                S.op (.store 93 v135 v133) w (fun _ w =>
                I14 w ∧ μ14 w < μ14 wl14) Kp) Kp) Kp) Kp) Kp) Kp) Kp) Kp) Kp) Kp) Kp) Kp)))))) Kp)))))))) Kp)))) Kp))))))))))))))) Kp))))))) (
              J20 w)) Kp) Kp) Kp) Kp) Kp) ∧
        (∀ (w : World) (junk : Nat → Value), J20 w →
          S.pur (.nilCheck j9_other) (fun v138 =>
          S.pur (.fieldAddr 106 v138 0) (fun v139 =>
          S.ld (.load 93 v139) w.drew (fun v140 =>
          S.pur (.nilCheck j9_other) (fun v142 =>
          S.pur (.fieldAddr 106 v142 1) (fun v143 =>
          S.ld (.load 3 v143) w.drew (fun v144 =>
          S.pur (.nilCheck v140) (fun v146 =>
          S.call (.inv v140 "pub-bracken/pub/immutable.deleteBefore") [v144, a3] w.drew (fun v148 w =>
          S.pur (.nilCheck j9_other) (fun v149 =>
          S.pur (.fieldAddr 106 v149 0) (fun v150 =>
          S.op (.store 93 v150 v148) w (fun _ w =>
          S.pur (.nilCheck j9_other) (fun v153 =>
          S.pur (.fieldAddr 106 v153 0) (fun v154 =>
          S.ld (.load 93 v154) w.drew (fun v155 =>
          S.pur (.nilCheck j9_other) (fun v157 =>
          S.pur (.fieldAddr 106 v157 1) (fun v158 =>
          S.ld (.load 3 v158) w.drew (fun v159 =>
          S.pur (.nilCheck j9_other) (fun v161 =>
          S.pur (.fieldAddr 106 v161 2) (fun v162 =>
          S.ld (.load 3 v162) w.drew (fun v163 =>
          S.pur (.bin BinOp.add 3 false false v159 v163) (fun v164 =>
          S.pur (.bin BinOp.sub 3 false true v164 (Value.int IntKind.i64 1)) (fun v165 =>
          S.pur (.nilCheck v155) (fun v167 =>
          S.call (.inv v155 "pub-bracken/pub/immutable.deleteAfter") [v165, a3] w.drew (fun v169 w =>
          S.pur (.nilCheck j9_other) (fun v170 =>
          S.pur (.fieldAddr 106 v170 0) (fun v171 =>
          S.op (.store 93 v171 v169) w (fun _ w =>
          K j9_other w) Kp))) Kp))))))))))))) Kp))) Kp))))))))) Kp) Kp) Kp) Kp) Kp) Kp) Kp) Kp) Kp) Kp) Kp)))
theorem vc65_eq (S : Sig) (a0 a1 a2 a3 : Value) (w : World) (K : Value → World → Prop) (Kp : KP) : vc65 S a0 a1 a2 a3 w K Kp = fVC S [(14, [])] [(7, []), (9, []), (12, [9]), (20, [])] Try.f65 [a0, a1, a2, a3] w K Kp := by kernel_rfl
theorem vc65_calls {a0 a1 a2 a3 : Value} {w : World} {K : Value → World → Prop} {Kp : KP} (h : vc65 (nice Try.prog) a0 a1 a2 a3 w K Kp) : Calls Try.prog 65 #[a0, a1, a2, a3] w (ret K Kp) :=
  fVC_sound (args := [a0, a1, a2, a3]) nice_le follows_mixed Try.func65 (by kernel_rfl) (Eq.mp (vc65_eq _ _ _ _ _ _ _ _) h)

/-- (*pub-bracken/pub/immutable.List[int64]).clone -/
def vc66 (S : Sig) (a0 : Value) (w : World) (K : Value → World → Prop) (Kp : KP) : Prop :=
  S.op (.nilCheck a0) w (fun v5 w =>
  S.op (.load 106 v5) w (fun v6 w =>
  S.op (.alloc 106) w (fun v3_other w =>
  S.op (.store 106 v3_other v6) w (fun _ w =>
  K v3_other w) Kp) Kp) Kp) Kp
theorem vc66_eq (S : Sig) (a0 : Value) (w : World) (K : Value → World → Prop) (Kp : KP) : vc66 S a0 w K Kp = fVC S [] [] Try.f66 [a0] w K Kp := by kernel_rfl
theorem vc66_calls {a0 : Value} {w : World} {K : Value → World → Prop} {Kp : KP} (h : vc66 (nice Try.prog) a0 w K Kp) : Calls Try.prog 66 #[a0] w (ret K Kp) :=
  fVC_sound (args := [a0]) nice_le follows_mixed Try.func66 (by kernel_rfl) (Eq.mp (vc66_eq _ _ _ _ _) h)

/-- (*pub-bracken/pub/immutable.List[int64]).cap -/
def vc67 (S : Sig) (a0 : Value) (w : World) (K : Value → World → Prop) (Kp : KP) : Prop :=
  S.op (.nilCheck a0) w (fun v4 w =>
  S.op (.fieldAddr 106 v4 0) w (fun v5 w =>
  S.op (.load 93 v5) w (fun v6 w =>
  S.call (.inv v6 "pub-bracken/pub/immutable.depth") [] w (fun v7 w =>
  S.op (.bin BinOp.mul 113 false true v7 (Value.int IntKind.u64 5)) w (fun v8 w =>
  S.op (.bin BinOp.shl 3 true false (Value.int IntKind.i64 1) v8) w (fun v9 w =>
  K v9 w) Kp) Kp) Kp) Kp) Kp) Kp
theorem vc67_eq (S : Sig) (a0 : Value) (w : World) (K : Value → World → Prop) (Kp : KP) : vc67 S a0 w K Kp = fVC S [] [] Try.f67 [a0] w K Kp := by kernel_rfl
theorem vc67_calls {a0 : Value} {w : World} {K : Value → World → Prop} {Kp : KP} (h : vc67 (nice Try.prog) a0 w K Kp) : Calls Try.prog 67 #[a0] w (ret K Kp) :=
  fVC_sound (args := [a0]) nice_le follows_mixed Try.func67 (by kernel_rfl) (Eq.mp (vc67_eq _ _ _ _ _) h)

/-- (*pub-bracken/pub/immutable.listLeafNode[int64]).containsAfter -/
def vc83 (S : Sig) (a0 a1 : Value) (w : World) (K : Value → World → Prop) (Kp : KP) : Prop :=
  S.op (.bin BinOp.and 3 false true a1 (Value.int IntKind.i64 31)) w (fun v8 w =>
  S.op (.nilCheck a0) w (fun v10 w =>
  S.op (.fieldAddr 103 v10 1) w (fun v11 w =>
  S.op (.load 101 v11) w (fun v12 w =>
  S.call (.fn 90) [v12] w (fun v13 w =>
  S.op (.bin BinOp.sub 3 true false (Value.int IntKind.i64 31) v13) w (fun v14 w =>
  S.op (.bin BinOp.gtr 3 false false v14 v8) w (fun v17 w =>
  K v17 w) Kp) Kp) Kp) Kp) Kp) Kp) Kp
theorem vc83_eq (S : Sig) (a0 a1 : Value) (w : World) (K : Value → World → Prop) (Kp : KP) : vc83 S a0 a1 w K Kp = fVC S [] [] Try.f83 [a0, a1] w K Kp := by kernel_rfl
theorem vc83_calls {a0 a1 : Value} {w : World} {K : Value → World → Prop} {Kp : KP} (h : vc83 (nice Try.prog) a0 a1 w K Kp) : Calls Try.prog 83 #[a0, a1] w (ret K Kp) :=
  fVC_sound (args := [a0, a1]) nice_le follows_mixed Try.func83 (by kernel_rfl) (Eq.mp (vc83_eq _ _ _ _ _ _) h)

/-- (*pub-bracken/pub/immutable.listLeafNode[int64]).containsBefore -/
def vc84 (S : Sig) (a0 a1 : Value) (w : World) (K : Value → World → Prop) (Kp : KP) : Prop :=
  S.op (.bin BinOp.and 3 false true a1 (Value.int IntKind.i64 31)) w (fun v7 w =>
  S.op (.nilCheck a0) w (fun v9 w =>
  S.op (.fieldAddr 103 v9 1) w (fun v10 w =>
  S.op (.load 101 v10) w (fun v11 w =>
  S.call (.fn 91) [v11] w (fun v12 w =>
  S.op (.bin BinOp.lss 3 false false v12 v7) w (fun v14 w =>
  K v14 w) Kp) Kp) Kp) Kp) Kp) Kp
theorem vc84_eq (S : Sig) (a0 a1 : Value) (w : World) (K : Value → World → Prop) (Kp : KP) : vc84 S a0 a1 w K Kp = fVC S [] [] Try.f84 [a0, a1] w K Kp := by kernel_rfl
theorem vc84_calls {a0 a1 : Value} {w : World} {K : Value → World → Prop} {Kp : KP} (h : vc84 (nice Try.prog) a0 a1 w K Kp) : Calls Try.prog 84 #[a0, a1] w (ret K Kp) :=
  fVC_sound (args := [a0, a1]) nice_le follows_mixed Try.func84 (by kernel_rfl) (Eq.mp (vc84_eq _ _ _ _ _ _) h)

/-- (*pub-bracken/pub/immutable.listLeafNode[int64]).deleteAfter -/
def vc85 (S : Sig) (a0 a1 a2 : Value) (w : World) (K : Value → World → Prop) (Kp : KP) : Prop :=
  S.call (.fn 83) [a0, a1] w (fun v13 w =>
  S.op (.un UnOp.not v13) w (fun v14 w =>
  Br v14 (
    S.op (.mkIface 104 a0) w (fun v16 w =>
    K v16 w) Kp) (
    S.op (.bin BinOp.and 3 false true a1 (Value.int IntKind.i64 31)) w (fun v18 w =>
    Br a2 (
      S.op (.bin BinOp.add 3 false true v18 (Value.int IntKind.i64 1)) w (fun v22 w =>
      Lp fun (I9 : Value → World → Prop) (μ9 : Value → World → Nat) => I9 v22 w ∧
      ∀ (wl9 : World) (junk : Nat → Value) (s10_i : Value), I9 s10_i wl9 →
        S.op (.bin BinOp.lss 3 false true s10_i (Value.int IntKind.i64 32)) wl9 (fun v24 w =>
        Br v24 (
          S.op (.nilCheck a0) w (fun v30 w =>
          S.op (.fieldAddr 103 v30 0) w (fun v31 w =>
          S.op (.indexAddr 100 v31 s10_i) w (fun v32 w =>
          S.op (.store 2 v32 (Value.int IntKind.i64 0)) w (fun _ w =>
          S.op (.bin BinOp.add 3 false true s10_i (Value.int IntKind.i64 1)) w (fun v26 w =>
          I9 v26 w ∧ μ9 v26 w < μ9 s10_i wl9) Kp) Kp) Kp) Kp) Kp) (
          S.pur (.nilCheck a0) (fun v55 =>
          S.pur (.fieldAddr 103 v55 1) (fun v56 =>
          S.ld (.load 101 v56) w.drew (fun v57 =>
          S.pur (.bin BinOp.add 3 false true v18 (Value.int IntKind.i64 1)) (fun v59 =>
          S.pur (.bin BinOp.shl 101 true false (Value.int IntKind.u32 1) v59) (fun v60 =>
          S.pur (.bin BinOp.sub 101 false true v60 (Value.int IntKind.u32 1)) (fun v61 =>
          S.pur (.bin BinOp.and 101 false false v57 v61) (fun v62 =>
          S.pur (.nilCheck a0) (fun v63 =>
          S.pur (.fieldAddr 103 v63 1) (fun v64 =>
          S.op (.store 101 v64 v62) w.drew (fun _ w =>
          S.op (.mkIface 104 a0) w (fun v66 w =>
          K v66 w) Kp) Kp))))))))))) Kp) Kp) (
      S.op (.nilCheck a0) w (fun v34 w =>
      S.op (.fieldAddr 103 v34 1) w (fun v35 w =>
      S.op (.load 101 v35) w (fun v36 w =>
      S.op (.build 103 [(1, v36)]) w (fun v37 w =>
      S.op (.box 103 v37) w (fun v38 w =>
      S.pur (.nilCheck v38) (fun v40 =>
      S.pur (.fieldAddr 103 v40 0) (fun v41 =>
      S.pur (.bin BinOp.add 3 false true v18 (Value.int IntKind.i64 1)) (fun v43 =>
      S.pur (.slice 100 v41 none (some v43) none) (fun v44 =>
      S.pur (.slice 22 v44 none none none) (fun v45 =>
      S.pur (.nilCheck a0) (fun v47 =>
      S.pur (.fieldAddr 103 v47 0) (fun v48 =>
      S.pur (.bin BinOp.add 3 false true v18 (Value.int IntKind.i64 1)) (fun v50 =>
      S.pur (.slice 100 v48 none (some v50) none) (fun v51 =>
      S.pur (.slice 22 v51 none none none) (fun v52 =>
      S.op (.blt Builtin.copy [22, 22] 3 [v45, v52]) w.drew (fun v53 w =>
      S.pur (.nilCheck v38) (fun v55 =>
      S.pur (.fieldAddr 103 v55 1) (fun v56 =>
      S.ld (.load 101 v56) w.drew (fun v57 =>
      S.pur (.bin BinOp.add 3 false true v18 (Value.int IntKind.i64 1)) (fun v59 =>
      S.pur (.bin BinOp.shl 101 true false (Value.int IntKind.u32 1) v59) (fun v60 =>
      S.pur (.bin BinOp.sub 101 false true v60 (Value.int IntKind.u32 1)) (fun v61 =>
      S.pur (.bin BinOp.and 101 false false v57 v61) (fun v62 =>
      S.pur (.nilCheck v38) (fun v63 =>
      S.pur (.fieldAddr 103 v63 1) (fun v64 =>
      S.op (.store 101 v64 v62) w.drew (fun _ w =>
      S.op (.mkIface 104 v38) w (fun v66 w =>
      K v66 w) Kp) Kp)))))))))) Kp))))))))))) Kp) Kp) Kp) Kp) Kp)) Kp)) Kp) Kp
theorem vc85_eq (S : Sig) (a0 a1 a2 : Value) (w : World) (K : Value → World → Prop) (Kp : KP) : vc85 S a0 a1 a2 w K Kp = fVC S [(9, [10])] [] Try.f85 [a0, a1, a2] w K Kp := by kernel_rfl
theorem vc85_calls {a0 a1 a2 : Value} {w : World} {K : Value → World → Prop} {Kp : KP} (h : vc85 (nice Try.prog) a0 a1 a2 w K Kp) : Calls Try.prog 85 #[a0, a1, a2] w (ret K Kp) :=
  fVC_sound (args := [a0, a1, a2]) nice_le follows_mixed Try.func85 (by kernel_rfl) (Eq.mp (vc85_eq _ _ _ _ _ _ _) h)

/-- (*pub-bracken/pub/immutable.listLeafNode[int64]).deleteBefore -/
def vc86 (S : Sig) (a0 a1 a2 : Value) (w : World) (K : Value → World → Prop) (Kp : KP) : Prop :=
  S.call (.fn 84) [a0, a1] w (fun v13 w =>
  S.op (.un UnOp.not v13) w (fun v14 w =>
  Br v14 (
    S.op (.mkIface 104 a0) w (fun v16 w =>
    K v16 w) Kp) (
    S.op (.bin BinOp.and 3 false true a1 (Value.int IntKind.i64 31)) w (fun v18 w =>
    Br a2 (
      Lp fun (I9 : Value → World → Prop) (μ9 : Value → World → Nat) => I9 (Value.int IntKind.i64 0) w ∧
      ∀ (wl9 : World) (junk : Nat → Value) (s10_i : Value), I9 s10_i wl9 →
        S.op (.bin BinOp.lss 3 false false s10_i v18) wl9 (fun v23 w =>
        Br v23 (
          S.op (.nilCheck a0) w (fun v29 w =>
          S.op (.fieldAddr 103 v29 0) w (fun v30 w =>
          S.op (.indexAddr 100 v30 s10_i) w (fun v31 w =>
          S.op (.store 2 v31 (Value.int IntKind.i64 0)) w (fun _ w =>
          S.op (.bin BinOp.add 3 false true s10_i (Value.int IntKind.i64 1)) w (fun v25 w =>
          I9 v25 w ∧ μ9 v25 w < μ9 s10_i wl9) Kp) Kp) Kp) Kp) Kp) (
          S.pur (.nilCheck a0) (fun v52 =>
          S.pur (.fieldAddr 103 v52 1) (fun v53 =>
          S.ld (.load 101 v53) w.drew (fun v54 =>
          S.pur (.bin BinOp.shl 101 true false (Value.int IntKind.u32 1) v18) (fun v56 =>
          S.pur (.bin BinOp.sub 101 false true v56 (Value.int IntKind.u32 1)) (fun v57 =>
          S.pur (.un UnOp.xor v57) (fun v58 =>
          S.pur (.bin BinOp.and 101 false false v54 v58) (fun v59 =>
          S.pur (.nilCheck a0) (fun v60 =>
          S.pur (.fieldAddr 103 v60 1) (fun v61 =>
          S.op (.store 101 v61 v59) w.drew (fun _ w =>
          S.op (.mkIface 104 a0) w (fun v63 w =>
          K v63 w) Kp) Kp))))))))))) Kp) (
      S.op (.nilCheck a0) w (fun v33 w =>
      S.op (.fieldAddr 103 v33 1) w (fun v34 w =>
      S.op (.load 101 v34) w (fun v35 w =>
      S.op (.build 103 [(1, v35)]) w (fun v36 w =>
      S.op (.box 103 v36) w (fun v37 w =>
      S.pur (.nilCheck v37) (fun v39 =>
      S.pur (.fieldAddr 103 v39 0) (fun v40 =>
      S.pur (.slice 100 v40 (some v18) none none) (fun v42 =>
      S.pur (.slice 22 v42 none none none) (fun v43 =>
      S.pur (.nilCheck a0) (fun v45 =>
      S.pur (.fieldAddr 103 v45 0) (fun v46 =>
      S.pur (.slice 100 v46 (some v18) none none) (fun v48 =>
      S.pur (.slice 22 v48 none none none) (fun v49 =>
      S.op (.blt Builtin.copy [22, 22] 3 [v43, v49]) w.drew (fun v50 w =>
      S.pur (.nilCheck v37) (fun v52 =>
      S.pur (.fieldAddr 103 v52 1) (fun v53 =>
      S.ld (.load 101 v53) w.drew (fun v54 =>
      S.pur (.bin BinOp.shl 101 true false (Value.int IntKind.u32 1) v18) (fun v56 =>
      S.pur (.bin BinOp.sub 101 false true v56 (Value.int IntKind.u32 1)) (fun v57 =>
      S.pur (.un UnOp.xor v57) (fun v58 =>
      S.pur (.bin BinOp.and 101 false false v54 v58) (fun v59 =>
      S.pur (.nilCheck v37) (fun v60 =>
      S.pur (.fieldAddr 103 v60 1) (fun v61 =>
      S.op (.store 101 v61 v59) w.drew (fun _ w =>
      S.op (.mkIface 104 v37) w (fun v63 w =>
      K v63 w) Kp) Kp)))))))))) Kp))))))))) Kp) Kp) Kp) Kp) Kp)) Kp)) Kp) Kp
theorem vc86_eq (S : Sig) (a0 a1 a2 : Value) (w : World) (K : Value → World → Prop) (Kp : KP) : vc86 S a0 a1 a2 w K Kp = fVC S [(9, [10])] [] Try.f86 [a0, a1, a2] w K Kp := by kernel_rfl
theorem vc86_calls {a0 a1 a2 : Value} {w : World} {K : Value → World → Prop} {Kp : KP} (h : vc86 (nice Try.prog) a0 a1 a2 w K Kp) : Calls Try.prog 86 #[a0, a1, a2] w (ret K Kp) :=
  fVC_sound (args := [a0, a1, a2]) nice_le follows_mixed Try.func86 (by kernel_rfl) (Eq.mp (vc86_eq _ _ _ _ _ _ _) h)

/-- (*pub-bracken/pub/immutable.listLeafNode[int64]).depth -/
def vc87 (S : Sig) (a0 : Value) (w : World) (K : Value → World → Prop) (Kp : KP) : Prop :=
  K (Value.int IntKind.u64 0) w
theorem vc87_eq (S : Sig) (a0 : Value) (w : World) (K : Value → World → Prop) (Kp : KP) : vc87 S a0 w K Kp = fVC S [] [] Try.f87 [a0] w K Kp := by kernel_rfl
theorem vc87_calls {a0 : Value} {w : World} {K : Value → World → Prop} {Kp : KP} (h : vc87 (nice Try.prog) a0 w K Kp) : Calls Try.prog 87 #[a0] w (ret K Kp) :=
  fVC_sound (args := [a0]) nice_le follows_mixed Try.func87 (by kernel_rfl) (Eq.mp (vc87_eq _ _ _ _ _) h)

/-- (*pub-bracken/pub/immutable.listLeafNode[int64]).get -/
def vc88 (S : Sig) (a0 a1 : Value) (w : World) (K : Value → World → Prop) (Kp : KP) : Prop :=
  S.op (.bin BinOp.and 3 false true a1 (Value.int IntKind.i64 31)) w (fun v7 w =>
  S.op (.nilCheck a0) w (fun v8 w =>
  S.op (.fieldAddr 103 v8 0) w (fun v9 w =>
  S.op (.indexAddr 100 v9 v7) w (fun v10 w =>
  S.op (.load 2 v10) w (fun v11 w =>
  K v11 w) Kp) Kp) Kp) Kp) Kp
theorem vc88_eq (S : Sig) (a0 a1 : Value) (w : World) (K : Value → World → Prop) (Kp : KP) : vc88 S a0 a1 w K Kp = fVC S [] [] Try.f88 [a0, a1] w K Kp := by kernel_rfl
theorem vc88_calls {a0 a1 : Value} {w : World} {K : Value → World → Prop} {Kp : KP} (h : vc88 (nice Try.prog) a0 a1 w K Kp) : Calls Try.prog 88 #[a0, a1] w (ret K Kp) :=
  fVC_sound (args := [a0, a1]) nice_le follows_mixed Try.func88 (by kernel_rfl) (Eq.mp (vc88_eq _ _ _ _ _ _) h)

/-- (*pub-bracken/pub/immutable.listLeafNode[int64]).set -/
def vc89 (S : Sig) (a0 a1 a2 a3 : Value) (w : World) (K : Value → World → Prop) (Kp : KP) : Prop :=
  S.op (.bin BinOp.and 3 false true a1 (Value.int IntKind.i64 31)) w (fun v13 w =>
  Br a3 (
    S.op (.nilCheck a0) w (fun v22 w =>
    S.op (.fieldAddr 103 v22 0) w (fun v23 w =>
    S.op (.indexAddr 100 v23 v13) w (fun v24 w =>
    S.op (.store 2 v24 a2) w (fun _ w =>
    S.pur (.nilCheck a0) (fun v26 =>
    S.pur (.fieldAddr 103 v26 1) (fun v27 =>
    S.ld (.load 101 v27) w.drew (fun v28 =>
    S.pur (.bin BinOp.shl 101 true false (Value.int IntKind.u32 1) v13) (fun v30 =>
    S.pur (.bin BinOp.or 101 false false v28 v30) (fun v31 =>
    S.pur (.nilCheck a0) (fun v32 =>
    S.pur (.fieldAddr 103 v32 1) (fun v33 =>
    S.op (.store 101 v33 v31) w.drew (fun _ w =>
    S.op (.mkIface 104 a0) w (fun v35 w =>
    K v35 w) Kp) Kp)))))))) Kp) Kp) Kp) Kp) (
    S.op (.nilCheck a0) w (fun v17 w =>
    S.op (.load 103 v17) w (fun v18 w =>
    S.op (.alloc 103) w (fun v11_tmp w =>
    S.op (.store 103 v11_tmp v18) w (fun _ w =>
    S.op (.nilCheck v11_tmp) w (fun v22 w =>
    S.op (.fieldAddr 103 v22 0) w (fun v23 w =>
    S.op (.indexAddr 100 v23 v13) w (fun v24 w =>
    S.op (.store 2 v24 a2) w (fun _ w =>
    S.pur (.nilCheck v11_tmp) (fun v26 =>
    S.pur (.fieldAddr 103 v26 1) (fun v27 =>
    S.ld (.load 101 v27) w.drew (fun v28 =>
    S.pur (.bin BinOp.shl 101 true false (Value.int IntKind.u32 1) v13) (fun v30 =>
    S.pur (.bin BinOp.or 101 false false v28 v30) (fun v31 =>
    S.pur (.nilCheck v11_tmp) (fun v32 =>
    S.pur (.fieldAddr 103 v32 1) (fun v33 =>
    S.op (.store 101 v33 v31) w.drew (fun _ w =>
    S.op (.mkIface 104 v11_tmp) w (fun v35 w =>
    K v35 w) Kp) Kp)))))))) Kp) Kp) Kp) Kp) Kp) Kp) Kp) Kp)) Kp
theorem vc89_eq (S : Sig) (a0 a1 a2 a3 : Value) (w : World) (K : Value → World → Prop) (Kp : KP) : vc89 S a0 a1 a2 a3 w K Kp = fVC S [] [] Try.f89 [a0, a1, a2, a3] w K Kp := by kernel_rfl
theorem vc89_calls {a0 a1 a2 a3 : Value} {w : World} {K : Value → World → Prop} {Kp : KP} (h : vc89 (nice Try.prog) a0 a1 a2 a3 w K Kp) : Calls Try.prog 89 #[a0, a1, a2, a3] w (ret K Kp) :=
  fVC_sound (args := [a0, a1, a2, a3]) nice_le follows_mixed Try.func89 (by kernel_rfl) (Eq.mp (vc89_eq _ _ _ _ _ _ _ _) h)

/-- math/bits.LeadingZeros32 -/
def vc90 (S : Sig) (a0 : Value) (w : World) (K : Value → World → Prop) (Kp : KP) : Prop :=
  S.call (.fn 92) [a0] w (fun v4 w =>
  S.op (.bin BinOp.sub 3 true false (Value.int IntKind.i64 32) v4) w (fun v5 w =>
  K v5 w) Kp) Kp
theorem vc90_eq (S : Sig) (a0 : Value) (w : World) (K : Value → World → Prop) (Kp : KP) : vc90 S a0 w K Kp = fVC S [] [] Try.f90 [a0] w K Kp := by kernel_rfl
theorem vc90_calls {a0 : Value} {w : World} {K : Value → World → Prop} {Kp : KP} (h : vc90 (nice Try.prog) a0 w K Kp) : Calls Try.prog 90 #[a0] w (ret K Kp) :=
  fVC_sound (args := [a0]) nice_le follows_mixed Try.func90 (by kernel_rfl) (Eq.mp (vc90_eq _ _ _ _ _) h)

/-- math/bits.TrailingZeros32 -/
def vc91 (S : Sig) (a0 : Value) (w : World) (K : Value → World → Prop) (Kp : KP) : Prop :=
  S.op (.bin BinOp.eql 101 false true a0 (Value.int IntKind.u32 0)) w (fun v4 w =>
  Br v4 (
    K (Value.int IntKind.i64 32) w) (
    S.op (.un UnOp.neg a0) w (fun v7 w =>
    S.op (.bin BinOp.and 101 false false a0 v7) w (fun v8 w =>
    S.op (.bin BinOp.mul 101 false true v8 (Value.int IntKind.u32 125613361)) w (fun v9 w =>
    S.op (.bin BinOp.shr 101 false true v9 (Value.int IntKind.u64 27)) w (fun v10 w =>
    S.op (.indexAddr 137 (Value.pointer (some ⟨0, 0, none⟩)) v10) w (fun v11 w =>
    S.op (.load 5 v11) w (fun v12 w =>
    S.op (.conv 5 3 v12) w (fun v13 w =>
    K v13 w) Kp) Kp) Kp) Kp) Kp) Kp) Kp)) Kp
theorem vc91_eq (S : Sig) (a0 : Value) (w : World) (K : Value → World → Prop) (Kp : KP) : vc91 S a0 w K Kp = fVC S [] [] Try.f91 [a0] w K Kp := by kernel_rfl
theorem vc91_calls {a0 : Value} {w : World} {K : Value → World → Prop} {Kp : KP} (h : vc91 (nice Try.prog) a0 w K Kp) : Calls Try.prog 91 #[a0] w (ret K Kp) :=
  fVC_sound (args := [a0]) nice_le follows_mixed Try.func91 (by kernel_rfl) (Eq.mp (vc91_eq _ _ _ _ _) h)

/-- math/bits.Len32 -/
def vc92 (S : Sig) (a0 : Value) (w : World) (K : Value → World → Prop) (Kp : KP) : Prop :=
  S.op (.bin BinOp.geq 101 false true a0 (Value.int IntKind.u32 65536)) w (fun v4 w =>
  Br v4 (
    S.op (.bin BinOp.shr 101 false true a0 (Value.int IntKind.u64 16)) w (fun v6 w =>
    S.op (.bin BinOp.geq 101 false true v6 (Value.int IntKind.u32 256)) w (fun v8 w =>
    Br v8 (
      S.op (.bin BinOp.shr 101 false true v6 (Value.int IntKind.u64 8)) w (fun v10 w =>
      S.op (.bin BinOp.add 3 false true (Value.int IntKind.i64 16) (Value.int IntKind.i64 8)) w (fun v12 w =>
      S.op (.conv 101 5 v10) w (fun v15 w =>
      S.op (.index 9 (Value.string { data := #[0, 1, 2, 2, 3, 3, 3, 3, 4, 4, 4, 4, 4, 4, 4, 4, 5, 5, 5, 5, 5, 5, 5, 5, 5, 5, 5, 5, 5, 5, 5, 5, 6, 6, 6, 6, 6, 6, 6, 6, 6, 6, 6, 6, 6, 6, 6, 6, 6, 6, 6, 6, 6, 6, 6, 6, 6, 6, 6, 6, 6, 6, 6, 6, 7, 7, 7, 7, 7, 7, 7, 7, 7, 7, 7, 7, 7, 7, 7, 7, 7, 7, 7, 7, 7, 7, 7, 7, 7, 7, 7, 7, 7, 7, 7, 7, 7, 7, 7, 7, 7, 7, 7, 7, 7, 7, 7, 7, 7, 7, 7, 7, 7, 7, 7, 7, 7, 7, 7, 7, 7, 7, 7, 7, 7, 7, 7, 7, 8, 8, 8, 8, 8, 8, 8, 8, 8, 8, 8, 8, 8, 8, 8, 8, 8, 8, 8, 8, 8, 8, 8, 8, 8, 8, 8, 8, 8, 8, 8, 8, 8, 8, 8, 8, 8, 8, 8, 8, 8, 8, 8, 8, 8, 8, 8, 8, 8, 8, 8, 8, 8, 8, 8, 8, 8, 8, 8, 8, 8, 8, 8, 8, 8, 8, 8, 8, 8, 8, 8, 8, 8, 8, 8, 8, 8, 8, 8, 8, 8, 8, 8, 8, 8, 8, 8, 8, 8, 8, 8, 8, 8, 8, 8, 8, 8, 8, 8, 8, 8, 8, 8, 8, 8, 8, 8, 8, 8, 8, 8, 8, 8, 8, 8, 8, 8, 8, 8, 8, 8, 8, 8, 8, 8, 8, 8, 8] }) v15) w (fun v16 w =>
      S.op (.conv 5 3 v16) w (fun v17 w =>
      S.op (.bin BinOp.add 3 false false v12 v17) w (fun v18 w =>
      K v18 w) Kp) Kp) Kp) Kp) Kp) Kp) (
      S.op (.conv 101 5 v6) w (fun v15 w =>
      S.op (.index 9 (Value.string { data := #[0, 1, 2, 2, 3, 3, 3, 3, 4, 4, 4, 4, 4, 4, 4, 4, 5, 5, 5, 5, 5, 5, 5, 5, 5, 5, 5, 5, 5, 5, 5, 5, 6, 6, 6, 6, 6, 6, 6, 6, 6, 6, 6, 6, 6, 6, 6, 6, 6, 6, 6, 6, 6, 6, 6, 6, 6, 6, 6, 6, 6, 6, 6, 6, 7, 7, 7, 7, 7, 7, 7, 7, 7, 7, 7, 7, 7, 7, 7, 7, 7, 7, 7, 7, 7, 7, 7, 7, 7, 7, 7, 7, 7, 7, 7, 7, 7, 7, 7, 7, 7, 7, 7, 7, 7, 7, 7, 7, 7, 7, 7, 7, 7, 7, 7, 7, 7, 7, 7, 7, 7, 7, 7, 7, 7, 7, 7, 7, 8, 8, 8, 8, 8, 8, 8, 8, 8, 8, 8, 8, 8, 8, 8, 8, 8, 8, 8, 8, 8, 8, 8, 8, 8, 8, 8, 8, 8, 8, 8, 8, 8, 8, 8, 8, 8, 8, 8, 8, 8, 8, 8, 8, 8, 8, 8, 8, 8, 8, 8, 8, 8, 8, 8, 8, 8, 8, 8, 8, 8, 8, 8, 8, 8, 8, 8, 8, 8, 8, 8, 8, 8, 8, 8, 8, 8, 8, 8, 8, 8, 8, 8, 8, 8, 8, 8, 8, 8, 8, 8, 8, 8, 8, 8, 8, 8, 8, 8, 8, 8, 8, 8, 8, 8, 8, 8, 8, 8, 8, 8, 8, 8, 8, 8, 8, 8, 8, 8, 8, 8, 8, 8, 8, 8, 8, 8, 8] }) v15) w (fun v16 w =>
      S.op (.conv 5 3 v16) w (fun v17 w =>
      S.op (.bin BinOp.add 3 false false (Value.int IntKind.i64 16) v17) w (fun v18 w =>
      K v18 w) Kp) Kp) Kp) Kp)) Kp) Kp) (
    S.op (.bin BinOp.geq 101 false true a0 (Value.int IntKind.u32 256)) w (fun v8 w =>
    Br v8 (
      S.op (.bin BinOp.shr 101 false true a0 (Value.int IntKind.u64 8)) w (fun v10 w =>
      S.op (.bin BinOp.add 3 false true (Value.int IntKind.i64 0) (Value.int IntKind.i64 8)) w (fun v12 w =>
      S.op (.conv 101 5 v10) w (fun v15 w =>
      S.op (.index 9 (Value.string { data := #[0, 1, 2, 2, 3, 3, 3, 3, 4, 4, 4, 4, 4, 4, 4, 4, 5, 5, 5, 5, 5, 5, 5, 5, 5, 5, 5, 5, 5, 5, 5, 5, 6, 6, 6, 6, 6, 6, 6, 6, 6, 6, 6, 6, 6, 6, 6, 6, 6, 6, 6, 6, 6, 6, 6, 6, 6, 6, 6, 6, 6, 6, 6, 6, 7, 7, 7, 7, 7, 7, 7, 7, 7, 7, 7, 7, 7, 7, 7, 7, 7, 7, 7, 7, 7, 7, 7, 7, 7, 7, 7, 7, 7, 7, 7, 7, 7, 7, 7, 7, 7, 7, 7, 7, 7, 7, 7, 7, 7, 7, 7, 7, 7, 7, 7, 7, 7, 7, 7, 7, 7, 7, 7, 7, 7, 7, 7, 7, 8, 8, 8, 8, 8, 8, 8, 8, 8, 8, 8, 8, 8, 8, 8, 8, 8, 8, 8, 8, 8, 8, 8, 8, 8, 8, 8, 8, 8, 8, 8, 8, 8, 8, 8, 8, 8, 8, 8, 8, 8, 8, 8, 8, 8, 8, 8, 8, 8, 8, 8, 8, 8, 8, 8, 8, 8, 8, 8, 8, 8, 8, 8, 8, 8, 8, 8, 8, 8, 8, 8, 8, 8, 8, 8, 8, 8, 8, 8, 8, 8, 8, 8, 8, 8, 8, 8, 8, 8, 8, 8, 8, 8, 8, 8, 8, 8, 8, 8, 8, 8, 8, 8, 8, 8, 8, 8, 8, 8, 8, 8, 8, 8, 8, 8, 8, 8, 8, 8, 8, 8, 8, 8, 8, 8, 8, 8, 8] }) v15) w (fun v16 w =>
      S.op (.conv 5 3 v16) w (fun v17 w =>
      S.op (.bin BinOp.add 3 false false v12 v17) w (fun v18 w =>
      K v18 w) Kp) Kp) Kp) Kp) Kp) Kp) (
      S.op (.conv 101 5 a0) w (fun v15 w =>
      S.op (.index 9 (Value.string { data := #[0, 1, 2, 2, 3, 3, 3, 3, 4, 4, 4, 4, 4, 4, 4, 4, 5, 5, 5, 5, 5, 5, 5, 5, 5, 5, 5, 5, 5, 5, 5, 5, 6, 6, 6, 6, 6, 6, 6, 6, 6, 6, 6, 6, 6, 6, 6, 6, 6, 6, 6, 6, 6, 6, 6, 6, 6, 6, 6, 6, 6, 6, 6, 6, 7, 7, 7, 7, 7, 7, 7, 7, 7, 7, 7, 7, 7, 7, 7, 7, 7, 7, 7, 7, 7, 7, 7, 7, 7, 7, 7, 7, 7, 7, 7, 7, 7, 7, 7, 7, 7, 7, 7, 7, 7, 7, 7, 7, 7, 7, 7, 7, 7, 7, 7, 7, 7, 7, 7, 7, 7, 7, 7, 7, 7, 7, 7, 7, 8, 8, 8, 8, 8, 8, 8, 8, 8, 8, 8, 8, 8, 8, 8, 8, 8, 8, 8, 8, 8, 8, 8, 8, 8, 8, 8, 8, 8, 8, 8, 8, 8, 8, 8, 8, 8, 8, 8, 8, 8, 8, 8, 8, 8, 8, 8, 8, 8, 8, 8, 8, 8, 8, 8, 8, 8, 8, 8, 8, 8, 8, 8, 8, 8, 8, 8, 8, 8, 8, 8, 8, 8, 8, 8, 8, 8, 8, 8, 8, 8, 8, 8, 8, 8, 8, 8, 8, 8, 8, 8, 8, 8, 8, 8, 8, 8, 8, 8, 8, 8, 8, 8, 8, 8, 8, 8, 8, 8, 8, 8, 8, 8, 8, 8, 8, 8, 8, 8, 8, 8, 8, 8, 8, 8, 8, 8, 8] }) v15) w (fun v16 w =>
      S.op (.conv 5 3 v16) w (fun v17 w =>
      S.op (.bin BinOp.add 3 false false (Value.int IntKind.i64 0) v17) w (fun v18 w =>
      K v18 w) Kp) Kp) Kp) Kp)) Kp)) Kp
theorem vc92_eq (S : Sig) (a0 : Value) (w : World) (K : Value → World → Prop) (Kp : KP) : vc92 S a0 w K Kp = fVC S [] [] Try.f92 [a0] w K Kp := by kernel_rfl
theorem vc92_calls {a0 : Value} {w : World} {K : Value → World → Prop} {Kp : KP} (h : vc92 (nice Try.prog) a0 w K Kp) : Calls Try.prog 92 #[a0] w (ret K Kp) :=
  fVC_sound (args := [a0]) nice_le follows_mixed Try.func92 (by kernel_rfl) (Eq.mp (vc92_eq _ _ _ _ _) h)

/-- (*pub-bracken/pub/immutable.listBranchNode[int64]).containsAfter -/
def vc93 (S : Sig) (a0 a1 : Value) (w : World) (K : Value → World → Prop) (Kp : KP) : Prop :=
  S.op (.nilCheck a0) w (fun v9 w =>
  S.op (.fieldAddr 118 v9 0) w (fun v10 w =>
  S.op (.load 113 v10) w (fun v11 w =>
  S.op (.bin BinOp.mul 113 false true v11 (Value.int IntKind.u64 5)) w (fun v12 w =>
  S.op (.bin BinOp.shr 3 false false a1 v12) w (fun v13 w =>
  S.op (.bin BinOp.and 3 false true v13 (Value.int IntKind.i64 31)) w (fun v14 w =>
  S.op (.bin BinOp.add 3 false true v14 (Value.int IntKind.i64 1)) w (fun v16 w =>
  Lp fun (I3 : Value → World → Prop) (μ3 : Value → World → Nat) => I3 v16 w ∧
  ∀ (wl3 : World) (junk : Nat → Value) (s6_i : Value), I3 s6_i wl3 →
    S.op (.bin BinOp.lss 3 false true s6_i (Value.int IntKind.i64 32)) wl3 (fun v18 w =>
    Br v18 (
      S.op (.nilCheck a0) w (fun v23 w =>
      S.op (.fieldAddr 118 v23 1) w (fun v24 w =>
      S.op (.indexAddr 116 v24 s6_i) w (fun v25 w =>
      S.op (.load 93 v25) w (fun v26 w =>
      S.op (.bin BinOp.neq 93 false true v26 Value.nilIface) w (fun v27 w =>
      Br v27 (
        K (Value.bool true) w) (
        S.op (.bin BinOp.add 3 false true s6_i (Value.int IntKind.i64 1)) w (fun v20 w =>
        I3 v20 w ∧ μ3 v20 w < μ3 s6_i wl3) Kp)) Kp) Kp) Kp) Kp) Kp) (
      S.op (.nilCheck a0) w (fun v30 w =>
      S.op (.fieldAddr 118 v30 1) w (fun v31 w =>
      S.op (.indexAddr 116 v31 v14) w (fun v32 w =>
      S.op (.load 93 v32) w (fun v33 w =>
      S.op (.bin BinOp.neq 93 false true v33 Value.nilIface) w (fun v34 w =>
      Br v34 (
        S.op (.nilCheck a0) w (fun v38 w =>
        S.op (.fieldAddr 118 v38 1) w (fun v39 w =>
        S.op (.indexAddr 116 v39 v14) w (fun v40 w =>
        S.op (.load 93 v40) w (fun v41 w =>
        S.call (.inv v41 "pub-bracken/pub/immutable.containsAfter") [a1] w (fun v43 w =>
        Br v43 (
          K (Value.bool true) w) (
          K (Value.bool false) w)) Kp) Kp) Kp) Kp) Kp) (
        K (Value.bool false) w)) Kp) Kp) Kp) Kp) Kp)) Kp) Kp) Kp) Kp) Kp) Kp) Kp) Kp
theorem vc93_eq (S : Sig) (a0 a1 : Value) (w : World) (K : Value → World → Prop) (Kp : KP) : vc93 S a0 a1 w K Kp = fVC S [(3, [6])] [] Try.f93 [a0, a1] w K Kp := by kernel_rfl
theorem vc93_calls {a0 a1 : Value} {w : World} {K : Value → World → Prop} {Kp : KP} (h : vc93 (nice Try.prog) a0 a1 w K Kp) : Calls Try.prog 93 #[a0, a1] w (ret K Kp) :=
  fVC_sound (args := [a0, a1]) nice_le follows_mixed Try.func93 (by kernel_rfl) (Eq.mp (vc93_eq _ _ _ _ _ _) h)

/-- (*pub-bracken/pub/immutable.listBranchNode[int64]).containsBefore -/
def vc94 (S : Sig) (a0 a1 : Value) (w : World) (K : Value → World → Prop) (Kp : KP) : Prop :=
  S.op (.nilCheck a0) w (fun v9 w =>
  S.op (.fieldAddr 118 v9 0) w (fun v10 w =>
  S.op (.load 113 v10) w (fun v11 w =>
  S.op (.bin BinOp.mul 113 false true v11 (Value.int IntKind.u64 5)) w (fun v12 w =>
  S.op (.bin BinOp.shr 3 false false a1 v12) w (fun v13 w =>
  S.op (.bin BinOp.and 3 false true v13 (Value.int IntKind.i64 31)) w (fun v14 w =>
  Lp fun (I3 : Value → World → Prop) (μ3 : Value → World → Nat) => I3 (Value.int IntKind.i64 0) w ∧
  ∀ (wl3 : World) (junk : Nat → Value) (s6_i : Value), I3 s6_i wl3 →
    S.op (.bin BinOp.lss 3 false false s6_i v14) wl3 (fun v17 w =>
    Br v17 (
      S.op (.nilCheck a0) w (fun v22 w =>
      S.op (.fieldAddr 118 v22 1) w (fun v23 w =>
      S.op (.indexAddr 116 v23 s6_i) w (fun v24 w =>
      S.op (.load 93 v24) w (fun v25 w =>
      S.op (.bin BinOp.neq 93 false true v25 Value.nilIface) w (fun v26 w =>
      Br v26 (
        K (Value.bool true) w) (
        S.op (.bin BinOp.add 3 false true s6_i (Value.int IntKind.i64 1)) w (fun v19 w =>
        I3 v19 w ∧ μ3 v19 w < μ3 s6_i wl3) Kp)) Kp) Kp) Kp) Kp) Kp) (
      S.op (.nilCheck a0) w (fun v29 w =>
      S.op (.fieldAddr 118 v29 1) w (fun v30 w =>
      S.op (.indexAddr 116 v30 v14) w (fun v31 w =>
      S.op (.load 93 v31) w (fun v32 w =>
      S.op (.bin BinOp.neq 93 false true v32 Value.nilIface) w (fun v33 w =>
      Br v33 (
        S.op (.nilCheck a0) w (fun v37 w =>
        S.op (.fieldAddr 118 v37 1) w (fun v38 w =>
        S.op (.indexAddr 116 v38 v14) w (fun v39 w =>
        S.op (.load 93 v39) w (fun v40 w =>
        S.call (.inv v40 "pub-bracken/pub/immutable.containsBefore") [a1] w (fun v42 w =>
        Br v42 (
          K (Value.bool true) w) (
          K (Value.bool false) w)) Kp) Kp) Kp) Kp) Kp) (
        K (Value.bool false) w)) Kp) Kp) Kp) Kp) Kp)) Kp) Kp) Kp) Kp) Kp) Kp) Kp
theorem vc94_eq (S : Sig) (a0 a1 : Value) (w : World) (K : Value → World → Prop) (Kp : KP) : vc94 S a0 a1 w K Kp = fVC S [(3, [6])] [] Try.f94 [a0, a1] w K Kp := by kernel_rfl
theorem vc94_calls {a0 a1 : Value} {w : World} {K : Value → World → Prop} {Kp : KP} (h : vc94 (nice Try.prog) a0 a1 w K Kp) : Calls Try.prog 94 #[a0, a1] w (ret K Kp) :=
  fVC_sound (args := [a0, a1]) nice_le follows_mixed Try.func94 (by kernel_rfl) (Eq.mp (vc94_eq _ _ _ _ _ _) h)

/-- (*pub-bracken/pub/immutable.listBranchNode[int64]).deleteAfter -/
def vc95 (S : Sig) (a0 a1 a2 : Value) (w : World) (K : Value → World → Prop) (Kp : KP) : Prop :=
  S.call (.fn 93) [a0, a1] w (fun v12 w =>
  S.op (.un UnOp.not v12) w (fun v13 w =>
  Br v13 (
    S.op (.mkIface 115 a0) w (fun v15 w =>
    K v15 w) Kp) (
    S.op (.nilCheck a0) w (fun v18 w =>
    S.op (.fieldAddr 118 v18 0) w (fun v19 w =>
    S.op (.load 113 v19) w (fun v20 w =>
    S.op (.bin BinOp.mul 113 false true v20 (Value.int IntKind.u64 5)) w (fun v21 w =>
    S.op (.bin BinOp.shr 3 false false a1 v21) w (fun v22 w =>
    S.op (.bin BinOp.and 3 false true v22 (Value.int IntKind.i64 31)) w (fun v23 w =>
    Br a2 (
      S.op (.bin BinOp.add 3 false true v23 (Value.int IntKind.i64 1)) w (fun v27 w =>
      Lp fun (I8 : Value → World → Prop) (μ8 : Value → World → Nat) => I8 v27 w ∧
      ∀ (wl8 : World) (junk : Nat → Value) (s9_i : Value), I8 s9_i wl8 →
        S.op (.bin BinOp.lss 3 false true s9_i (Value.int IntKind.i64 32)) wl8 (fun v29 w =>
        Br v29 (
          S.op (.nilCheck a0) w (fun v34 w =>
          S.op (.fieldAddr 118 v34 1) w (fun v35 w =>
          S.op (.indexAddr 116 v35 s9_i) w (fun v36 w =>
          S.op (.store 93 v36 Value.nilIface) w (fun _ w =>
          S.op (.bin BinOp.add 3 false true s9_i (Value.int IntKind.i64 1)) w (fun v31 w =>
          I8 v31 w ∧ μ8 v31 w < μ8 s9_i wl8) Kp) Kp) Kp) Kp) Kp) (
          S.op (.nilCheck a0) w (fun v58 w =>
          S.op (.fieldAddr 118 v58 1) w (fun v59 w =>
          S.op (.indexAddr 116 v59 v23) w (fun v60 w =>
          S.op (.load 93 v60) w (fun v61 w =>
          S.op (.bin BinOp.neq 93 false true v61 Value.nilIface) w (fun v62 w =>
          Br v62 (
            S.pur (.nilCheck a0) (fun v67 =>
            S.pur (.fieldAddr 118 v67 1) (fun v68 =>
            S.pur (.indexAddr 116 v68 v23) (fun v69 =>
            S.ld (.load 93 v69) w.drew (fun v70 =>
            S.pur (.nilCheck a0) (fun v74 =>
            S.pur (.fieldAddr 118 v74 1) (fun v75 =>
            S.call (.inv v70 "pub-bracken/pub/immutable.deleteAfter") [a1, a2] w.drew (fun v73 w =>
            S.pur (.indexAddr 116 v75 v23) (fun v76 =>
            S.op (.store 93 v76 v73) w (fun _ w =>
            S.op (.mkIface 115 a0) w (fun v78 w =>
            K v78 w) Kp) Kp)) Kp))))))) (
            S.op (.mkIface 115 a0) w (fun v78 w =>
            K v78 w) Kp)) Kp) Kp) Kp) Kp) Kp)) Kp) Kp) (
      S.op (.nilCheck a0) w (fun v38 w =>
      S.op (.fieldAddr 118 v38 0) w (fun v39 w =>
      S.op (.load 113 v39) w (fun v40 w =>
      S.op (.build 118 [(0, v40)]) w (fun v41 w =>
      S.op (.box 118 v41) w (fun v42 w =>
      S.pur (.nilCheck v42) (fun v44 =>
      S.pur (.fieldAddr 118 v44 1) (fun v45 =>
      S.pur (.bin BinOp.add 3 false true v23 (Value.int IntKind.i64 1)) (fun v47 =>
      S.pur (.slice 116 v45 none (some v47) none) (fun v48 =>
      S.pur (.nilCheck a0) (fun v50 =>
      S.pur (.fieldAddr 118 v50 1) (fun v51 =>
      S.pur (.bin BinOp.add 3 false true v23 (Value.int IntKind.i64 1)) (fun v53 =>
      S.pur (.slice 116 v51 none (some v53) none) (fun v54 =>
      S.op (.blt Builtin.copy [138, 138] 3 [v48, v54]) w.drew (fun v55 w =>
      S.op (.nilCheck v42) w (fun v58 w =>
      S.op (.fieldAddr 118 v58 1) w (fun v59 w =>
      S.op (.indexAddr 116 v59 v23) w (fun v60 w =>
      S.op (.load 93 v60) w (fun v61 w =>
      S.op (.bin BinOp.neq 93 false true v61 Value.nilIface) w (fun v62 w =>
      Br v62 (
        S.pur (.nilCheck v42) (fun v67 =>
        S.pur (.fieldAddr 118 v67 1) (fun v68 =>
        S.pur (.indexAddr 116 v68 v23) (fun v69 =>
        S.ld (.load 93 v69) w.drew (fun v70 =>
        S.pur (.nilCheck v42) (fun v74 =>
        S.pur (.fieldAddr 118 v74 1) (fun v75 =>
        S.call (.inv v70 "pub-bracken/pub/immutable.deleteAfter") [a1, a2] w.drew (fun v73 w =>
        S.pur (.indexAddr 116 v75 v23) (fun v76 =>
        S.op (.store 93 v76 v73) w (fun _ w =>
        S.op (.mkIface 115 v42) w (fun v78 w =>
        K v78 w) Kp) Kp)) Kp))))))) (
        S.op (.mkIface 115 v42) w (fun v78 w =>
        K v78 w) Kp)) Kp) Kp) Kp) Kp) Kp) Kp))))))))) Kp) Kp) Kp) Kp) Kp)) Kp) Kp) Kp) Kp) Kp) Kp)) Kp) Kp
theorem vc95_eq (S : Sig) (a0 a1 a2 : Value) (w : World) (K : Value → World → Prop) (Kp : KP) : vc95 S a0 a1 a2 w K Kp = fVC S [(8, [9])] [] Try.f95 [a0, a1, a2] w K Kp := by kernel_rfl
theorem vc95_calls {a0 a1 a2 : Value} {w : World} {K : Value → World → Prop} {Kp : KP} (h : vc95 (nice Try.prog) a0 a1 a2 w K Kp) : Calls Try.prog 95 #[a0, a1, a2] w (ret K Kp) :=
  fVC_sound (args := [a0, a1, a2]) nice_le follows_mixed Try.func95 (by kernel_rfl) (Eq.mp (vc95_eq _ _ _ _ _ _ _) h)

/-- (*pub-bracken/pub/immutable.listBranchNode[int64]).deleteBefore -/
def vc96 (S : Sig) (a0 a1 a2 : Value) (w : World) (K : Value → World → Prop) (Kp : KP) : Prop :=
  S.call (.fn 94) [a0, a1] w (fun v12 w =>
  S.op (.un UnOp.not v12) w (fun v13 w =>
  Br v13 (
    S.op (.mkIface 115 a0) w (fun v15 w =>
    K v15 w) Kp) (
    S.op (.nilCheck a0) w (fun v18 w =>
    S.op (.fieldAddr 118 v18 0) w (fun v19 w =>
    S.op (.load 113 v19) w (fun v20 w =>
    S.op (.bin BinOp.mul 113 false true v20 (Value.int IntKind.u64 5)) w (fun v21 w =>
    S.op (.bin BinOp.shr 3 false false a1 v21) w (fun v22 w =>
    S.op (.bin BinOp.and 3 false true v22 (Value.int IntKind.i64 31)) w (fun v23 w =>
    Br a2 (
      Lp fun (I8 : Value → World → Prop) (μ8 : Value → World → Nat) => I8 (Value.int IntKind.i64 0) w ∧
      ∀ (wl8 : World) (junk : Nat → Value) (s9_i : Value), I8 s9_i wl8 →
        S.op (.bin BinOp.lss 3 false false s9_i v23) wl8 (fun v28 w =>
        Br v28 (
          S.op (.nilCheck a0) w (fun v33 w =>
          S.op (.fieldAddr 118 v33 1) w (fun v34 w =>
          S.op (.indexAddr 116 v34 s9_i) w (fun v35 w =>
          S.op (.store 93 v35 Value.nilIface) w (fun _ w =>
          S.op (.bin BinOp.add 3 false true s9_i (Value.int IntKind.i64 1)) w (fun v30 w =>
          I8 v30 w ∧ μ8 v30 w < μ8 s9_i wl8) Kp) Kp) Kp) Kp) Kp) (
          S.op (.nilCheck a0) w (fun v57 w =>
          S.op (.fieldAddr 118 v57 1) w (fun v58 w =>
          S.op (.indexAddr 116 v58 v23) w (fun v59 w =>
          S.op (.load 93 v59) w (fun v60 w =>
          S.op (.bin BinOp.neq 93 false true v60 Value.nilIface) w (fun v61 w =>
          Br v61 (
            S.pur (.nilCheck a0) (fun v66 =>
            S.pur (.fieldAddr 118 v66 1) (fun v67 =>
            S.pur (.indexAddr 116 v67 v23) (fun v68 =>
            S.ld (.load 93 v68) w.drew (fun v69 =>
            S.pur (.nilCheck a0) (fun v73 =>
            S.pur (.fieldAddr 118 v73 1) (fun v74 =>
            S.call (.inv v69 "pub-bracken/pub/immutable.deleteBefore") [a1, a2] w.drew (fun v72 w =>
            S.pur (.indexAddr 116 v74 v23) (fun v75 =>
            S.op (.store 93 v75 v72) w (fun _ w =>
            S.op (.mkIface 115 a0) w (fun v77 w =>
            K v77 w) Kp) Kp)) Kp))))))) (
            S.op (.mkIface 115 a0) w (fun v77 w =>
            K v77 w) Kp)) Kp) Kp) Kp) Kp) Kp)) Kp) (
      S.op (.nilCheck a0) w (fun v37 w =>
      S.op (.fieldAddr 118 v37 0) w (fun v38 w =>
      S.op (.load 113 v38) w (fun v39 w =>
      S.op (.build 118 [(0, v39)]) w (fun v40 w =>
      S.op (.box 118 v40) w (fun v41 w =>
      S.pur (.nilCheck v41) (fun v43 =>
      S.pur (.fieldAddr 118 v43 1) (fun v44 =>
      S.pur (.slice 116 v44 (some v23) none none) (fun v46 =>
      S.pur (.slice 138 v46 none none none) (fun v47 =>
      S.pur (.nilCheck a0) (fun v49 =>
      S.pur (.fieldAddr 118 v49 1) (fun v50 =>
      S.pur (.slice 116 v50 (some v23) none none) (fun v52 =>
      S.pur (.slice 138 v52 none none none) (fun v53 =>
      S.op (.blt Builtin.copy [138, 138] 3 [v47, v53]) w.drew (fun v54 w =>
      S.op (.nilCheck v41) w (fun v57 w =>
      S.op (.fieldAddr 118 v57 1) w (fun v58 w =>
      S.op (.indexAddr 116 v58 v23) w (fun v59 w =>
      S.op (.load 93 v59) w (fun v60 w =>
      S.op (.bin BinOp.neq 93 false true v60 Value.nilIface) w (fun v61 w =>
      Br v61 (
        S.pur (.nilCheck v41) (fun v66 =>
        S.pur (.fieldAddr 118 v66 1) (fun v67 =>
        S.pur (.indexAddr 116 v67 v23) (fun v68 =>
        S.ld (.load 93 v68) w.drew (fun v69 =>
        S.pur (.nilCheck v41) (fun v73 =>
        S.pur (.fieldAddr 118 v73 1) (fun v74 =>
        S.call (.inv v69 "pub-bracken/pub/immutable.deleteBefore") [a1, a2] w.drew (fun v72 w =>
        S.pur (.indexAddr 116 v74 v23) (fun v75 =>
        S.op (.store 93 v75 v72) w (fun _ w =>
        S.op (.mkIface 115 v41) w (fun v77 w =>
        K v77 w) Kp) Kp)) Kp))))))) (
        S.op (.mkIface 115 v41) w (fun v77 w =>
        K v77 w) Kp)) Kp) Kp) Kp) Kp) Kp) Kp))))))))) Kp) Kp) Kp) Kp) Kp)) Kp) Kp) Kp) Kp) Kp) Kp)) Kp) Kp
theorem vc96_eq (S : Sig) (a0 a1 a2 : Value) (w : World) (K : Value → World → Prop) (Kp : KP) : vc96 S a0 a1 a2 w K Kp = fVC S [(8, [9])] [] Try.f96 [a0, a1, a2] w K Kp := by kernel_rfl
theorem vc96_calls {a0 a1 a2 : Value} {w : World} {K : Value → World → Prop} {Kp : KP} (h : vc96 (nice Try.prog) a0 a1 a2 w K Kp) : Calls Try.prog 96 #[a0, a1, a2] w (ret K Kp) :=
  fVC_sound (args := [a0, a1, a2]) nice_le follows_mixed Try.func96 (by kernel_rfl) (Eq.mp (vc96_eq _ _ _ _ _ _ _) h)

/-- (*pub-bracken/pub/immutable.listBranchNode[int64]).depth -/
def vc97 (S : Sig) (a0 : Value) (w : World) (K : Value → World → Prop) (Kp : KP) : Prop :=
  S.op (.nilCheck a0) w (fun v4 w =>
  S.op (.fieldAddr 118 v4 0) w (fun v5 w =>
  S.op (.load 113 v5) w (fun v6 w =>
  K v6 w) Kp) Kp) Kp
theorem vc97_eq (S : Sig) (a0 : Value) (w : World) (K : Value → World → Prop) (Kp : KP) : vc97 S a0 w K Kp = fVC S [] [] Try.f97 [a0] w K Kp := by kernel_rfl
theorem vc97_calls {a0 : Value} {w : World} {K : Value → World → Prop} {Kp : KP} (h : vc97 (nice Try.prog) a0 w K Kp) : Calls Try.prog 97 #[a0] w (ret K Kp) :=
  fVC_sound (args := [a0]) nice_le follows_mixed Try.func97 (by kernel_rfl) (Eq.mp (vc97_eq _ _ _ _ _) h)

/-- (*pub-bracken/pub/immutable.listBranchNode[int64]).get -/
def vc98 (S : Sig) (a0 a1 : Value) (w : World) (K : Value → World → Prop) (Kp : KP) : Prop :=
  S.op (.nilCheck a0) w (fun v8 w =>
  S.op (.fieldAddr 118 v8 0) w (fun v9 w =>
  S.op (.load 113 v9) w (fun v10 w =>
  S.op (.bin BinOp.mul 113 false true v10 (Value.int IntKind.u64 5)) w (fun v11 w =>
  S.op (.bin BinOp.shr 3 false false a1 v11) w (fun v12 w =>
  S.op (.bin BinOp.and 3 false true v12 (Value.int IntKind.i64 31)) w (fun v13 w =>
  S.op (.nilCheck a0) w (fun v16 w =>
  S.op (.fieldAddr 118 v16 1) w (fun v17 w =>
  S.op (.indexAddr 116 v17 v13) w (fun v18 w =>
  S.op (.load 93 v18) w (fun v19 w =>
  S.call (.inv v19 "pub-bracken/pub/immutable.get") [a1] w (fun v21 w =>
  K v21 w) Kp) Kp) Kp) Kp) Kp) Kp) Kp) Kp) Kp) Kp) Kp
theorem vc98_eq (S : Sig) (a0 a1 : Value) (w : World) (K : Value → World → Prop) (Kp : KP) : vc98 S a0 a1 w K Kp = fVC S [] [] Try.f98 [a0, a1] w K Kp := by kernel_rfl
theorem vc98_calls {a0 a1 : Value} {w : World} {K : Value → World → Prop} {Kp : KP} (h : vc98 (nice Try.prog) a0 a1 w K Kp) : Calls Try.prog 98 #[a0, a1] w (ret K Kp) :=
  fVC_sound (args := [a0, a1]) nice_le follows_mixed Try.func98 (by kernel_rfl) (Eq.mp (vc98_eq _ _ _ _ _ _) h)

/-- (*pub-bracken/pub/immutable.listBranchNode[int64]).set -/
def vc99 (S : Sig) (a0 a1 a2 a3 : Value) (w : World) (K : Value → World → Prop) (Kp : KP) : Prop :=
  S.op (.nilCheck a0) w (fun v15 w =>
  S.op (.fieldAddr 118 v15 0) w (fun v16 w =>
  S.op (.load 113 v16) w (fun v17 w =>
  S.op (.bin BinOp.mul 113 false true v17 (Value.int IntKind.u64 5)) w (fun v18 w =>
  S.op (.bin BinOp.shr 3 false false a1 v18) w (fun v19 w =>
  S.op (.bin BinOp.and 3 false true v19 (Value.int IntKind.i64 31)) w (fun v20 w =>
  S.op (.nilCheck a0) w (fun v23 w =>
  S.op (.fieldAddr 118 v23 1) w (fun v24 w =>
  S.op (.indexAddr 116 v24 v20) w (fun v25 w =>
  S.op (.load 93 v25) w (fun v26 w =>
  S.op (.bin BinOp.eql 93 false true v26 Value.nilIface) w (fun v28 w =>
  Br v28 (
    S.call (.fn 97) [a0] w (fun v30 w =>
    S.op (.bin BinOp.sub 113 false true v30 (Value.int IntKind.u64 1)) w (fun v31 w =>
    S.call (.fn 100) [v31] w (fun v32 w =>
    Br a3 (
      S.pur (.nilCheck a0) (fun v45 =>
      S.pur (.fieldAddr 118 v45 1) (fun v46 =>
      S.call (.inv v32 "pub-bracken/pub/immutable.set") [a1, a2, a3] w.drew (fun v44 w =>
      S.pur (.indexAddr 116 v46 v20) (fun v47 =>
      S.op (.store 93 v47 v44) w (fun _ w =>
      S.op (.mkIface 115 a0) w (fun v49 w =>
      K v49 w) Kp) Kp)) Kp))) (
      S.op (.nilCheck a0) w (fun v36 w =>
      S.op (.load 118 v36) w (fun v37 w =>
      S.op (.alloc 118) w (fun v12_tmp w =>
      S.op (.store 118 v12_tmp v37) w (fun _ w =>
      S.pur (.nilCheck v12_tmp) (fun v45 =>
      S.pur (.fieldAddr 118 v45 1) (fun v46 =>
      S.call (.inv v32 "pub-bracken/pub/immutable.set") [a1, a2, a3] w.drew (fun v44 w =>
      S.pur (.indexAddr 116 v46 v20) (fun v47 =>
      S.op (.store 93 v47 v44) w (fun _ w =>
      S.op (.mkIface 115 v12_tmp) w (fun v49 w =>
      K v49 w) Kp) Kp)) Kp))) Kp) Kp) Kp) Kp)) Kp) Kp) Kp) (
    Br a3 (
      S.pur (.nilCheck a0) (fun v45 =>
      S.pur (.fieldAddr 118 v45 1) (fun v46 =>
      S.call (.inv v26 "pub-bracken/pub/immutable.set") [a1, a2, a3] w.drew (fun v44 w =>
      S.pur (.indexAddr 116 v46 v20) (fun v47 =>
      S.op (.store 93 v47 v44) w (fun _ w =>
      S.op (.mkIface 115 a0) w (fun v49 w =>
      K v49 w) Kp) Kp)) Kp))) (
      S.op (.nilCheck a0) w (fun v36 w =>
      S.op (.load 118 v36) w (fun v37 w =>
      S.op (.alloc 118) w (fun v12_tmp w =>
      S.op (.store 118 v12_tmp v37) w (fun _ w =>
      S.pur (.nilCheck v12_tmp) (fun v45 =>
      S.pur (.fieldAddr 118 v45 1) (fun v46 =>
      S.call (.inv v26 "pub-bracken/pub/immutable.set") [a1, a2, a3] w.drew (fun v44 w =>
      S.pur (.indexAddr 116 v46 v20) (fun v47 =>
      S.op (.store 93 v47 v44) w (fun _ w =>
      S.op (.mkIface 115 v12_tmp) w (fun v49 w =>
      K v49 w) Kp) Kp)) Kp))) Kp) Kp) Kp) Kp))) Kp) Kp) Kp) Kp) Kp) Kp) Kp) Kp) Kp) Kp) Kp
theorem vc99_eq (S : Sig) (a0 a1 a2 a3 : Value) (w : World) (K : Value → World → Prop) (Kp : KP) : vc99 S a0 a1 a2 a3 w K Kp = fVC S [] [] Try.f99 [a0, a1, a2, a3] w K Kp := by kernel_rfl
theorem vc99_calls {a0 a1 a2 a3 : Value} {w : World} {K : Value → World → Prop} {Kp : KP} (h : vc99 (nice Try.prog) a0 a1 a2 a3 w K Kp) : Calls Try.prog 99 #[a0, a1, a2, a3] w (ret K Kp) :=
  fVC_sound (args := [a0, a1, a2, a3]) nice_le follows_mixed Try.func99 (by kernel_rfl) (Eq.mp (vc99_eq _ _ _ _ _ _ _ _) h)

/-- pub-bracken/pub/immutable.newListNode[int64] -/
def vc100 (S : Sig) (a0 : Value) (w : World) (K : Value → World → Prop) (Kp : KP) : Prop :=
  S.op (.bin BinOp.eql 113 false true a0 (Value.int IntKind.u64 0)) w (fun v4 w =>
  Br v4 (
    S.op (.build 103 []) w (fun v5 w =>
    S.op (.box 103 v5) w (fun v6 w =>
    S.op (.mkIface 104 v6) w (fun v7 w =>
    K v7 w) Kp) Kp) Kp) (
    S.op (.build 118 [(0, a0)]) w (fun v9 w =>
    S.op (.box 118 v9) w (fun v10 w =>
    S.op (.mkIface 115 v10) w (fun v11 w =>
    K v11 w) Kp) Kp) Kp)) Kp
theorem vc100_eq (S : Sig) (a0 : Value) (w : World) (K : Value → World → Prop) (Kp : KP) : vc100 S a0 w K Kp = fVC S [] [] Try.f100 [a0] w K Kp := by kernel_rfl
theorem vc100_calls {a0 : Value} {w : World} {K : Value → World → Prop} {Kp : KP} (h : vc100 (nice Try.prog) a0 w K Kp) : Calls Try.prog 100 #[a0] w (ret K Kp) :=
  fVC_sound (args := [a0]) nice_le follows_mixed Try.func100 (by kernel_rfl) (Eq.mp (vc100_eq _ _ _ _ _) h)

/-- gosem.cut.vars -/
def vc102 (S : Sig) (w : World) (K : Value → World → Prop) (Kp : KP) : Prop :=
  S.op (.build 137 [(0, (Value.int IntKind.u8 0)), (1, (Value.int IntKind.u8 1)), (2, (Value.int IntKind.u8 28)), (3, (Value.int IntKind.u8 2)), (4, (Value.int IntKind.u8 29)), (5, (Value.int IntKind.u8 14)), (6, (Value.int IntKind.u8 24)), (7, (Value.int IntKind.u8 3)), (8, (Value.int IntKind.u8 30)), (9, (Value.int IntKind.u8 22)), (10, (Value.int IntKind.u8 20)), (11, (Value.int IntKind.u8 15)), (12, (Value.int IntKind.u8 25)), (13, (Value.int IntKind.u8 17)), (14, (Value.int IntKind.u8 4)), (15, (Value.int IntKind.u8 8)), (16, (Value.int IntKind.u8 31)), (17, (Value.int IntKind.u8 27)), (18, (Value.int IntKind.u8 13)), (19, (Value.int IntKind.u8 23)), (20, (Value.int IntKind.u8 21)), (21, (Value.int IntKind.u8 19)), (22, (Value.int IntKind.u8 16)), (23, (Value.int IntKind.u8 7)), (24, (Value.int IntKind.u8 26)), (25, (Value.int IntKind.u8 12)), (26, (Value.int IntKind.u8 18)), (27, (Value.int IntKind.u8 6)), (28, (Value.int IntKind.u8 11)), (29, (Value.int IntKind.u8 5)), (30, (Value.int IntKind.u8 10)), (31, (Value.int IntKind.u8 9))]) w (fun v0 w =>
  S.op (.store 137 (Value.pointer (some ⟨0, 0, none⟩)) v0) w (fun _ w =>
  K (Value.tuple #[]) w) Kp) Kp
theorem vc102_eq (S : Sig) (w : World) (K : Value → World → Prop) (Kp : KP) : vc102 S  w K Kp = fVC S [] [] Try.f102 [] w K Kp := by kernel_rfl
theorem vc102_calls {w : World} {K : Value → World → Prop} {Kp : KP} (h : vc102 (nice Try.prog)  w K Kp) : Calls Try.prog 102 #[] w (ret K Kp) :=
  fVC_sound (args := []) nice_le follows_mixed Try.func102 (by kernel_rfl) (Eq.mp (vc102_eq _  _ _ _) h)

end Go.Proofs.Ytjlaclgikmmmlaa
