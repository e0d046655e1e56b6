import Derived.Test.YtbghmbbhkoniiaaT0
import Derived.Laws.StructEq
import Derived.Test.YtbghmbbhkoniiaaT1
import Derived.Test.YtbghmbbhkoniiaaT3
import Derived.Test.YtbghmbbhkoniiaaT2
section
/- A region's operations one at a time, for functions whose conditions are too large to print whole. -/
set_option linter.unusedSimpArgs false
set_option linter.unusedVariables false
namespace Go.Vc
variable {S : Sig} {all rest : List Oper} {o : Oper} {e : Env} {k : Known} {w : World} {K : KE} {Kp : KP}
def plain : Op → Bool
  | .move _ | .assign _ | .pick .. => false
  | _ => true
theorem ops_op {x : VOp} (hg : o.guard = none) (hp : plain o.op = true) (hx : toV (evalE e) o.type o.op = some x)
    (h : S.op x w (fun v w' => opsVC S all rest (put e o.dst v) (putK k o.dst none) w' K Kp) Kp) : opsVC S all (o :: rest) e k w K Kp := by
  simp only [opsVC, hg]
  unfold opVC
  split
  · rename_i h1; rw [h1] at hp; cases hp
  · rename_i h1; rw [h1] at hp; cases hp
  · rename_i h1; rw [h1] at hp; cases hp
  · rw [hx]; exact h
theorem ops_pick {c x y : Operand} {b : Bool} (hg : o.guard = none) (hp : o.op = .pick c x y) (hk : kn k c = none) (hb : evalE e c = .bool b)
    (h : opsVC S all rest (put e o.dst (evalE e (bif b then x else y))) (putK k o.dst (kn k (bif b then x else y))) w K Kp) : opsVC S all (o :: rest) e k w K Kp := by
  simp only [opsVC, hg]
  unfold opVC
  rw [hp]
  simp only [hk]
  refine ⟨b, hb, fun ht => ?_, fun hf => ?_⟩
  · subst ht; exact h
  · subst hf; exact h
theorem ops_move {x : Operand} (hg : o.guard = none) (hp : o.op = .move x ∨ o.op = .assign x) (h : opsVC S all rest (put e o.dst (evalE e x)) (putK k o.dst (kn k x)) w K Kp) : opsVC S all (o :: rest) e k w K Kp := by
  simp only [opsVC, hg]
  unfold opVC
  rcases hp with h1 | h1 <;> rw [h1] <;> exact h
theorem ite_no {c : Prop} [Decidable c] {A B : Prop} (hc : ¬ c) (h : B) : if c then A else B := by rw [if_neg hc]; exact h
theorem ite_yes {c : Prop} [Decidable c] {A B : Prop} (hc : c) (h : A) : if c then A else B := by rw [if_pos hc]; exact h
theorem ops_end {Q : QE} (h : K e k w) : opsVC S all [] e k w (thenQ K Q .normal) Kp := h
end Go.Vc
namespace Go.Vc
variable {S : Sig} {e : Env} {k : Known} {w : World} {Q : QE} {Kp : KP} {a b : Code}
theorem fVC_of {fn : Func} {c : Code} {args : List Value} {K : Value → World → Prop} (h : fn.body = some c)
    (hc : codeVC S [] [] c (nthD args) (fun _ => none) w (fun ex e _ w => match ex with
      | .normal => resVC S fn.results.toList e w K
      | .ret => resVC S fn.results.toList e w K
      | _ => False) Kp) : fVC S [] [] fn args w K Kp := by
  unfold fVC
  rw [h]; exact hc
theorem code_seq (h : codeVC S [] [] a e k w (thenQ (fun e k w => codeVC S [] [] b e k w Q Kp) Q) Kp) : codeVC S [] [] (.seq a b) e k w Q Kp := by
  unfold codeVC
  have : (firstRegion b).bind (lk · []) = none := by cases firstRegion b <;> rfl
  rw [this]; exact h
theorem code_region {id : Nat} {ops : Array Oper} (h : opsVC S ops.toList ops.toList e k w (Q .normal) Kp) : codeVC S [] [] (.region id ops false) e k w Q Kp := by
  unfold codeVC; exact h
theorem code_block {id : Nat} (h : codeVC S [] [] a e k w (blockQ id Q) Kp) : codeVC S [] [] (.block id a) e k w Q Kp := by
  unfold codeVC; exact h
theorem code_cond {c : Operand} {t : Bool} (hb : evalE e c = .bool t) (hk : kn k c = none ∨ kn k c = some (some t)) (h : codeVC S [] [] (bif t then a else b) e k w Q Kp) : codeVC S [] [] (.cond c a b) e k w Q Kp := by
  unfold codeVC
  rcases hk with hk | hk
  · rw [hk]
    refine ⟨t, hb, fun ht => ?_, fun hf => ?_⟩
    · subst ht; exact h
    · subst hf; exact h
  · rw [hk]
    cases t <;> exact h
theorem code_ret (h : Q .ret e k w) : codeVC S [] [] .ret e k w Q Kp := h
end Go.Vc
end
section
/- Two values of an interface that are compared. -/
set_option linter.unusedSimpArgs false
set_option linter.unusedVariables false
namespace Go.Vc
variable {P : Program} {w : World} {K : Value → World → Prop} {Kp : KP} {t u : TypeId}
theorem op_eql_ifaces {xc yc : Bool} {x y : Value} {b : Bool} {ms : Array (String × TypeId)} {i : TypeInfo} (ht : P.underlying t = some (.interface ms)) (hi : P.info? u = some i) (hc : i.comparable = true)
    (he : ∀ w, (Op.equalIn 9999 u x y).run P w = .ok b w) (hK : K (.bool b) w) : (nice P).op (.bin .eql t xc yc (.iface u x) (.iface u y)) w K Kp := by
  show outOf P (VOp.bin .eql t xc yc (.iface u x) (.iface u y)).sem w K Kp
  refine out_ok (v := .bool b) (w' := w) ?_ hK
  have h1 : ∀ w, (Op.equal t (.iface u x) (.iface u y)).run P w = .ok b w := fun w => by
    unfold Op.equal Op.maxDepth
    rw [Op.equalIn]
    simp only [Sem.run_bind, run_und ht, Result.andThen_ok, ne_eq, not_true_eq_false, if_false, typeInfo, program, Sem.run, hi]
    simp [hc, he]
  have h2 : ∀ w, (eqGuard .eql t (opd xc) (opd yc) (.iface u x) (.iface u y)).run P w = .ok () w := fun w => by
    simp [eqGuard]
  simp [VOp.sem, h2, binOp, h1]
theorem eql_int {k : IntKind} {a b : Int} (hu : P.underlying u = some (.int k)) (w : World) : (Op.equalIn 9999 u (.int k a) (.int k b)).run P w = .ok (decide (a = b)) w := by
  rw [run_equalIn_int (k' := k) (h := hu)]
  by_cases h : a = b <;> simp [h]
theorem toList_inj {a b : ByteArray} : a.toList = b.toList ↔ a = b := by
  rw [ByteArray.toList_eq, ByteArray.toList_eq]
  constructor
  · intro h
    have : a.data = b.data := Array.toList_inj.1 h
    cases a; cases b; simp_all
  · rintro rfl; rfl
theorem eql_str {a b : ByteArray} (hu : P.underlying u = some .string) (w : World) : (Op.equalIn 9999 u (.string a) (.string b)).run P w = .ok (decide (a = b)) w := by
  rw [run_equalIn_string (h := hu)]
  congr 1
  by_cases h : a = b
  · subst h; simp
  · rw [decide_eq_false h]
    exact beq_eq_false_iff_ne.2 fun e => h (toList_inj.1 e)
end Go.Vc
end
section
set_option linter.unusedVariables false
set_option maxRecDepth 100000
namespace Go.Proofs.Ytbghmbbhkoniiaa
open Go.Vc Go.Proofs
private theorem follows_MVcL : Try.prog.follows .mixedOrders = true := by kernel_rfl

def vc13 (S : Sig) (w : World) (K : Value → World → Prop) (Kp : KP) : Prop :=
 S.op (.build 24 []) w (fun v2 w =>
 S.op (.build 35 [(0, (.int .u8 0)), (2, (.int .i64 1)), (3, (.int .i64 5))]) w (fun v3 w =>
 S.op (.build 35 [(0, (.int .u8 0)), (1, (.int .i64 1)), (2, (.int .i64 2)), (3, (.int .i64 6))]) w (fun v4 w =>
 S.op (.build 35 [(0, (.int .u8 1)), (1, (.int .i64 2)), (2, (.int .i64 1))]) w (fun v5 w =>
 S.op (.buildSlice 32 3 [(0, v3), (1, v4), (2, v5)]) w (fun v6 w =>
 S.call (.fn 16) [v2, v6] w (fun v7 w =>
 S.op (.blt .len [36] 3 [v7]) w (fun v9 w =>
 S.op (.bin .eql 3 false true v9 (.int .i64 4)) w (fun v10 w =>
 Br v10 (
 S.op (.indexAddr 36 v7 (.int .i64 2)) w (fun v13 w =>
 S.op (.fieldAddr 41 v13 0) w (fun v14 w =>
 S.op (.load 3 v14) w (fun v15 w =>
 S.op (.bin .eql 3 false true v15 (.int .i64 2)) w (fun v16 w =>
 Br v16 (
 S.op (.indexAddr 36 v7 (.int .i64 3)) w (fun v20 w =>
 S.op (.fieldAddr 41 v20 0) w (fun v21 w =>
 S.op (.load 3 v21) w (fun v22 w =>
 S.op (.bin .eql 3 false true v22 (.int .i64 1)) w (fun v23 w =>
 Br v23 (
 S.op (.indexAddr 36 v7 (.int .i64 3)) w (fun v27 w =>
 S.op (.fieldAddr 41 v27 1) w (fun v28 w =>
 S.op (.load 39 v28) w (fun v29 w =>
 S.op (.build 46 [(0, (.int .i64 2)), (1, (.int .i64 6))]) w (fun v30 w =>
 S.op (.buildSlice 39 1 [(0, v30)]) w (fun v31 w =>
 S.call (.fn 27) [v29, v31] w (fun v32 w =>
 K v32 w) Kp) Kp) Kp) Kp) Kp) Kp) (
 K (.bool false) w)) Kp) Kp) Kp) Kp) (
 K (.bool false) w)) Kp) Kp) Kp) Kp) (
 K (.bool false) w)) Kp) Kp) Kp) Kp) Kp) Kp) Kp) Kp
theorem vc13_eq (S : Sig) (w : World) (K : Value → World → Prop) (Kp : KP) : vc13 S  w K Kp = fVC S [] [] Try.f13 [] w K Kp := by kernel_rfl
theorem vc13_calls {w : World} {K : Value → World → Prop} {Kp : KP} (h : vc13 (nice Try.prog)  w K Kp) : Calls Try.prog 13 #[] w (ret K Kp) :=
 fVC_sound (args := []) nice_le follows_MVcL Try.func13 (by kernel_rfl) (Eq.mp (vc13_eq _  _ _ _) h)

def vc16 (S : Sig) (a0 a1 : Value) (w : World) (K : Value → World → Prop) (Kp : KP) : Prop :=
 S.op (.box 24 a0) w (fun v2_h w =>
 S.op (.load 24 v2_h) w (fun v8 w =>
 S.call (.fn 34) [v8, a1] w (fun v10 w =>
 S.op (.blt .len [88] 3 [v10]) w (fun v11 w =>
 Lp fun (I3 : Value → Value → World → Prop) (μ3 : Value → Value → World → Nat) => I3 (.slice none 0 0) (.int .i64 0) w ∧
 ∀ (wl3 : World) (junk : Nat → Value) (s5_out : Value) (s12_ : Value), I3 s5_out s12_ wl3 →
 S.op (.bin .lss 3 false false s12_ v11) wl3 (fun v13 w =>
 Br v13 (
 S.op (.indexAddr 88 v10 s12_) w (fun v14 w =>
 S.op (.load 90 v14) w (fun v15 w =>
 S.call (.fn 36) [v15] w (fun v18 w =>
 S.call (.fn 37) [v15] w (fun v20 w =>
 S.call (.fn 35) [v18, v20] w (fun v21 w =>
 S.op (.buildSlice 36 1 [(0, v21)]) w (fun v22 w =>
 S.op (.blt .append [36, 36] 36 [s5_out, v22]) w (fun v23 w =>
 S.op (.bin .add 3 false true s12_ (.int .i64 1)) w (fun v24 w =>
 I3 v23 v24 w ∧ μ3 v23 v24 w < μ3 s5_out s12_ wl3) Kp) Kp) Kp) Kp) Kp) Kp) Kp) Kp) (
 K s5_out w)) Kp) Kp) Kp) Kp) Kp
theorem vc16_eq (S : Sig) (a0 a1 : Value) (w : World) (K : Value → World → Prop) (Kp : KP) : vc16 S a0 a1 w K Kp = fVC S [(3, [5, 12])] [] Try.f16 [a0, a1] w K Kp := by kernel_rfl
theorem vc16_calls {a0 a1 : Value} {w : World} {K : Value → World → Prop} {Kp : KP} (h : vc16 (nice Try.prog) a0 a1 w K Kp) : Calls Try.prog 16 #[a0, a1] w (ret K Kp) :=
 fVC_sound (args := [a0, a1]) nice_le follows_MVcL Try.func16 (by kernel_rfl) (Eq.mp (vc16_eq _ _ _ _ _ _) h)

def vc27 (S : Sig) (a0 a1 : Value) (w : World) (K : Value → World → Prop) (Kp : KP) : Prop :=
 S.op (.blt .len [39] 3 [a0]) w (fun v7 w =>
 S.op (.blt .len [39] 3 [a1]) w (fun v9 w =>
 S.op (.bin .neq 3 false false v7 v9) w (fun v10 w =>
 Br v10 (
 K (.bool false) w) (
 S.op (.blt .len [39] 3 [a0]) w (fun v12 w =>
 Lp fun (I4 : Value → World → Prop) (μ4 : Value → World → Nat) => I4 (.int .i64 0) w ∧
 ∀ (wl4 : World) (junk : Nat → Value) (s13_ : Value), I4 s13_ wl4 →
 S.op (.bin .lss 3 false false s13_ v12) wl4 (fun v14 w =>
 Br v14 (
 S.pur (.indexAddr 39 a0 s13_) (fun v18 =>
 S.ld (.load 46 v18) w.drew (fun v19 =>
 S.pur (.indexAddr 39 a1 s13_) (fun v22 =>
 S.ld (.load 46 v22) w.drew (fun v23 =>
 S.pur (.bin .neq 46 false false v19 v23) (fun v24 =>
 Br v24 (
 K (.bool false) w.drew) (
 S.op (.bin .add 3 false true s13_ (.int .i64 1)) w.drew (fun v25 w =>
 I4 v25 w ∧ μ4 v25 w < μ4 s13_ wl4) Kp))))))) (
 K (.bool true) w)) Kp) Kp)) Kp) Kp) Kp
theorem vc27_eq (S : Sig) (a0 a1 : Value) (w : World) (K : Value → World → Prop) (Kp : KP) : vc27 S a0 a1 w K Kp = fVC S [(4, [13])] [] Try.f27 [a0, a1] w K Kp := by kernel_rfl
theorem vc27_calls {a0 a1 : Value} {w : World} {K : Value → World → Prop} {Kp : KP} (h : vc27 (nice Try.prog) a0 a1 w K Kp) : Calls Try.prog 27 #[a0, a1] w (ret K Kp) :=
 fVC_sound (args := [a0, a1]) nice_le follows_MVcL Try.func27 (by kernel_rfl) (Eq.mp (vc27_eq _ _ _ _ _ _) h)

def vc34 (S : Sig) (a0 a1 : Value) (w : World) (K : Value → World → Prop) (Kp : KP) : Prop :=
 S.op (.box 24 a0) w (fun v2_h w =>
 S.op (.load 24 v2_h) w (fun v12 w =>
 S.call (.fn 41) [v12] w (fun v13 w =>
 S.call (.fn 66) [v13] w (fun v14 w =>
 S.op (.buildSlice 88 1 [(0, v14)]) w (fun v15 w =>
 S.op (.blt .len [32] 3 [a1]) w (fun v17 w =>
 Lp fun (I3 : Value → Value → World → Prop) (μ3 : Value → Value → World → Nat) => I3 v15 (.int .i64 0) w ∧
 ∀ (wl3 : World) (junk : Nat → Value) (s5_l : Value) (s18_ : Value), I3 s5_l s18_ wl3 →
 S.op (.bin .lss 3 false false s18_ v17) wl3 (fun v19 w =>
 Br v19 (
 S.op (.indexAddr 32 a1 s18_) w (fun v20 w =>
 S.op (.load 35 v20) w (fun v21 w =>
 S.op (.alloc 35) w (fun v7_s w =>
 S.op (.store 35 v7_s v21) w (fun _ w =>
 S.op (.load 24 v2_h) w (fun v22 w =>
 S.call (.fn 41) [v22] w (fun v23 w =>
 S.call (.fn 66) [v23] w (fun v24 w =>
 Jn fun (J25 : Value → World → Prop) =>
 (S.op (.load 35 v7_s) w (fun v25 w =>
 S.op (.blt .len [88] 3 [s5_l]) w (fun v27 w =>
 S.call (.fn 67) [v25, v27] w (fun v28 w =>
 Br v28 (
 S.op (.fieldAddr 35 v7_s 1) w (fun v30 w =>
 S.op (.load 3 v30) w (fun v31 w =>
 S.op (.indexAddr 88 s5_l v31) w (fun v32 w =>
 S.op (.load 90 v32) w (fun v33 w =>
 S.op (.fieldAddr 35 v7_s 0) w (fun v34 w =>
 S.op (.load 5 v34) w (fun v35 w =>
 S.op (.bin .eql 5 false true v35 (.int .u8 0)) w (fun v37 w =>
 Br v37 (
 S.op (.fieldAddr 35 v7_s 2) w (fun v39 w =>
 S.op (.load 2 v39) w (fun v40 w =>
 S.op (.fieldAddr 35 v7_s 3) w (fun v41 w =>
 S.op (.load 2 v41) w (fun v42 w =>
 S.call (.fn 68) [v33, v40, v42] w (fun v43 w =>
 J25 v43 w) Kp) Kp) Kp) Kp) Kp) (
 S.op (.bin .eql 5 false true v35 (.int .u8 1)) w (fun v45 w =>
 Br v45 (
 S.op (.fieldAddr 35 v7_s 2) w (fun v47 w =>
 S.op (.load 2 v47) w (fun v48 w =>
 S.call (.fn 69) [v33, v48] w (fun v49 w =>
 J25 v49 w) Kp) Kp) Kp) (
 S.op (.bin .eql 5 false true v35 (.int .u8 2)) w (fun v51 w =>
 Br v51 (
 Lp fun (I16 : Value → Value → World → Prop) (μ16 : Value → Value → World → Nat) => I16 v33 (.int .i64 0) w ∧
 ∀ (wl16 : World) (junk : Nat → Value) (s8_m : Value) (s10_i : Value), I16 s8_m s10_i wl16 →
 S.op (.fieldAddr 35 v7_s 4) wl16 (fun v54 w =>
 S.op (.load 3 v54) w (fun v55 w =>
 S.op (.bin .lss 3 false false s10_i v55) w (fun v56 w =>
 Br v56 (
 S.op (.fieldAddr 35 v7_s 2) w (fun v60 w =>
 S.op (.load 2 v60) w (fun v61 w =>
 S.op (.fieldAddr 35 v7_s 3) w (fun v63 w =>
 S.op (.load 2 v63) w (fun v64 w =>
 S.op (.bin .mul 2 false false s10_i v64) w (fun v65 w =>
 S.op (.bin .add 2 false false v61 v65) w (fun v66 w =>
 S.call (.fn 68) [s8_m, v66, s10_i] w (fun v68 w =>
 S.op (.bin .add 3 false true s10_i (.int .i64 1)) w (fun v58 w =>
 I16 v68 v58 w ∧ μ16 v68 v58 w < μ16 s8_m s10_i wl16) Kp) Kp) Kp) Kp) Kp) Kp) Kp) Kp) (
 J25 s8_m w)) Kp) Kp) Kp) (
 S.op (.bin .eql 5 false true v35 (.int .u8 3)) w (fun v70 w =>
 Br v70 (
 Lp fun (I22 : Value → Value → World → Prop) (μ22 : Value → Value → World → Nat) => I22 v33 (.int .i64 0) w ∧
 ∀ (wl22 : World) (junk : Nat → Value) (s8_m : Value) (s11_i : Value), I22 s8_m s11_i wl22 →
 S.op (.fieldAddr 35 v7_s 4) wl22 (fun v73 w =>
 S.op (.load 3 v73) w (fun v74 w =>
 S.op (.bin .lss 3 false false s11_i v74) w (fun v75 w =>
 Br v75 (
 S.op (.fieldAddr 35 v7_s 2) w (fun v79 w =>
 S.op (.load 2 v79) w (fun v80 w =>
 S.op (.fieldAddr 35 v7_s 3) w (fun v82 w =>
 S.op (.load 2 v82) w (fun v83 w =>
 S.op (.bin .mul 2 false false s11_i v83) w (fun v84 w =>
 S.op (.bin .add 2 false false v80 v84) w (fun v85 w =>
 S.call (.fn 69) [s8_m, v85] w (fun v86 w =>
 S.op (.bin .add 3 false true s11_i (.int .i64 1)) w (fun v77 w =>
 I22 v86 v77 w ∧ μ22 v86 v77 w < μ22 s8_m s11_i wl22) Kp) Kp) Kp) Kp) Kp) Kp) Kp) Kp) (
 J25 s8_m w)) Kp) Kp) Kp) (
 J25 v24 w)) Kp)) Kp)) Kp)) Kp) Kp) Kp) Kp) Kp) Kp) Kp) (
 J25 v24 w)) Kp) Kp) Kp) ∧
 (∀ (w : World) (junk : Nat → Value) (j8_m : Value), J25 j8_m w →
 S.op (.buildSlice 88 1 [(0, j8_m)]) w (fun v89 w =>
 S.op (.blt .append [88, 88] 88 [s5_l, v89]) w (fun v90 w =>
 S.op (.bin .add 3 false true s18_ (.int .i64 1)) w (fun v91 w =>
 I3 v90 v91 w ∧ μ3 v90 v91 w < μ3 s5_l s18_ wl3) Kp) Kp) Kp)) Kp) Kp) Kp) Kp) Kp) Kp) Kp) (
 K s5_l w)) Kp) Kp) Kp) Kp) Kp) Kp) Kp
theorem vc34_eq (S : Sig) (a0 a1 : Value) (w : World) (K : Value → World → Prop) (Kp : KP) : vc34 S a0 a1 w K Kp = fVC S [(3, [5, 18]), (16, [8, 10]), (22, [8, 11])] [(25, [8])] Try.f34 [a0, a1] w K Kp := by kernel_rfl
theorem vc34_calls {a0 a1 : Value} {w : World} {K : Value → World → Prop} {Kp : KP} (h : vc34 (nice Try.prog) a0 a1 w K Kp) : Calls Try.prog 34 #[a0, a1] w (ret K Kp) :=
 fVC_sound (args := [a0, a1]) nice_le follows_MVcL Try.func34 (by kernel_rfl) (Eq.mp (vc34_eq _ _ _ _ _ _) h)

def vc35 (S : Sig) (a0 a1 : Value) (w : World) (K : Value → World → Prop) (Kp : KP) : Prop :=
 S.op (.alloc 41) w (fun v4 w =>
 S.op (.build 41 [(0, a0)]) w (fun v10 w =>
 S.op (.alloc 41) w (fun v5_out w =>
 S.op (.store 41 v5_out v10) w (fun _ w =>
 Lp fun (I2 : World → Prop) (μ2 : World → Nat) => I2 w ∧
 ∀ (wl2 : World) (junk : Nat → Value), I2 wl2 →
 S.call (.fn 42) [a1] wl2 (fun v12 w =>
 S.op (.un .not v12) w (fun v13 w =>
 Br v13 (
 S.call (.fn 44) [a1] w (fun v16 w =>
 S.op (.extract v16 0) w (fun v17 w =>
 S.op (.extract v16 1) w (fun v18 w =>
 S.op (.extract v16 2) w (fun v19 w =>
 S.op (.fieldAddr 41 v5_out 1) w (fun v20 w =>
 S.op (.load 39 v20) w (fun v21 w =>
 S.op (.build 46 [(0, v17), (1, v18)]) w (fun v24 w =>
 S.op (.buildSlice 39 1 [(0, v24)]) w (fun v25 w =>
 S.op (.blt .append [39, 39] 39 [v21, v25]) w (fun v26 w =>
 S.op (.fieldAddr 41 v5_out 1) w (fun v27 w =>
 S.op (.store 39 v27 v26) w (fun _ w =>
 I2 w ∧ μ2 w < μ2 wl2) Kp) Kp) Kp) Kp) Kp) Kp) Kp) Kp) Kp) Kp) Kp) (
 S.op (.load 41 v5_out) w (fun v28 w =>
 S.op (.store 41 v4 v28) w (fun _ w =>
 S.ld (.load 41 v4) w (fun r0 =>
 K r0 w)) Kp) Kp)) Kp) Kp) Kp) Kp) Kp) Kp
theorem vc35_eq (S : Sig) (a0 a1 : Value) (w : World) (K : Value → World → Prop) (Kp : KP) : vc35 S a0 a1 w K Kp = fVC S [(2, [])] [] Try.f35 [a0, a1] w K Kp := by kernel_rfl
theorem vc35_calls {a0 a1 : Value} {w : World} {K : Value → World → Prop} {Kp : KP} (h : vc35 (nice Try.prog) a0 a1 w K Kp) : Calls Try.prog 35 #[a0, a1] w (ret K Kp) :=
 fVC_sound (args := [a0, a1]) nice_le follows_MVcL Try.func35 (by kernel_rfl) (Eq.mp (vc35_eq _ _ _ _ _ _) h)

def vc41 (S : Sig) (a0 : Value) (w : World) (K : Value → World → Prop) (Kp : KP) : Prop :=
 S.op (.box 24 a0) w (fun v1_h w =>
 S.op (.fieldAddr 24 v1_h 0) w (fun v3 w =>
 S.op (.load 22 v3) w (fun v4 w =>
 S.op (.bin .eql 22 false true v4 (.int .u32 0)) w (fun v5 w =>
 Br v5 (
 K .nilIface w) (
 S.op (.load 24 v1_h) w (fun v6 w =>
 S.op (.build 143 [(0, v6)]) w (fun v7 w =>
 S.op (.mkIface 143 v7) w (fun v8 w =>
 K v8 w) Kp) Kp) Kp)) Kp) Kp) Kp) Kp
theorem vc41_eq (S : Sig) (a0 : Value) (w : World) (K : Value → World → Prop) (Kp : KP) : vc41 S a0 w K Kp = fVC S [] [] Try.f41 [a0] w K Kp := by kernel_rfl
theorem vc41_calls {a0 : Value} {w : World} {K : Value → World → Prop} {Kp : KP} (h : vc41 (nice Try.prog) a0 w K Kp) : Calls Try.prog 41 #[a0] w (ret K Kp) :=
 fVC_sound (args := [a0]) nice_le follows_MVcL Try.func41 (by kernel_rfl) (Eq.mp (vc41_eq _ _ _ _ _) h)

def vc67 (S : Sig) (a0 a1 : Value) (w : World) (K : Value → World → Prop) (Kp : KP) : Prop :=
 S.op (.box 35 a0) w (fun v2_s w =>
 S.op (.fieldAddr 35 v2_s 1) w (fun v5 w =>
 S.op (.load 3 v5) w (fun v6 w =>
 S.op (.bin .geq 3 false true v6 (.int .i64 0)) w (fun v7 w =>
 Br v7 (
 S.op (.fieldAddr 35 v2_s 1) w (fun v9 w =>
 S.op (.load 3 v9) w (fun v10 w =>
 S.op (.bin .lss 3 false false v10 a1) w (fun v12 w =>
 Br v12 (
 S.op (.fieldAddr 35 v2_s 0) w (fun v15 w =>
 S.op (.load 5 v15) w (fun v16 w =>
 S.op (.bin .leq 5 false true v16 (.int .u8 3)) w (fun v17 w =>
 Br v17 (
 S.op (.fieldAddr 35 v2_s 0) w (fun v20 w =>
 S.op (.load 5 v20) w (fun v21 w =>
 S.op (.bin .lss 5 false true v21 (.int .u8 2)) w (fun v22 w =>
 Br v22 (
 K (.bool true) w) (
 S.op (.fieldAddr 35 v2_s 4) w (fun v24 w =>
 S.op (.load 3 v24) w (fun v25 w =>
 S.op (.bin .geq 3 false true v25 (.int .i64 0)) w (fun v26 w =>
 Br v26 (
 S.op (.fieldAddr 35 v2_s 4) w (fun v28 w =>
 S.op (.load 3 v28) w (fun v29 w =>
 S.op (.bin .leq 3 false true v29 (.int .i64 100000)) w (fun v30 w =>
 K v30 w) Kp) Kp) Kp) (
 K (.bool false) w)) Kp) Kp) Kp)) Kp) Kp) Kp) (
 K (.bool false) w)) Kp) Kp) Kp) (
 K (.bool false) w)) Kp) Kp) Kp) (
 K (.bool false) w)) Kp) Kp) Kp) Kp
theorem vc67_eq (S : Sig) (a0 a1 : Value) (w : World) (K : Value → World → Prop) (Kp : KP) : vc67 S a0 a1 w K Kp = fVC S [] [] Try.f67 [a0, a1] w K Kp := by kernel_rfl
theorem vc67_calls {a0 a1 : Value} {w : World} {K : Value → World → Prop} {Kp : KP} (h : vc67 (nice Try.prog) a0 a1 w K Kp) : Calls Try.prog 67 #[a0, a1] w (ret K Kp) :=
 fVC_sound (args := [a0, a1]) nice_le follows_MVcL Try.func67 (by kernel_rfl) (Eq.mp (vc67_eq _ _ _ _ _ _) h)

def vc114 (S : Sig) (a0 a1 a2 : Value) (w : World) (K : Value → World → Prop) (Kp : KP) : Prop :=
 S.op (.box 143 a0) w (fun v3_d w =>
 S.op (.bin .eql 2 false false a1 a2) w (fun v9 w =>
 K v9 w) Kp) Kp
theorem vc114_eq (S : Sig) (a0 a1 a2 : Value) (w : World) (K : Value → World → Prop) (Kp : KP) : vc114 S a0 a1 a2 w K Kp = fVC S [] [] Try.f114 [a0, a1, a2] w K Kp := by kernel_rfl
theorem vc114_calls {a0 a1 a2 : Value} {w : World} {K : Value → World → Prop} {Kp : KP} (h : vc114 (nice Try.prog) a0 a1 a2 w K Kp) : Calls Try.prog 114 #[a0, a1, a2] w (ret K Kp) :=
 fVC_sound (args := [a0, a1, a2]) nice_le follows_MVcL Try.func114 (by kernel_rfl) (Eq.mp (vc114_eq _ _ _ _ _ _ _) h)

def vc115 (S : Sig) (a0 a1 : Value) (w : World) (K : Value → World → Prop) (Kp : KP) : Prop :=
 S.op (.box 143 a0) w (fun v2_d w =>
 S.pur (.conv 2 22 a1) (fun v6 =>
 S.pur (.fieldAddr 143 v2_d 0) (fun v7 =>
 S.pur (.fieldAddr 24 v7 1) (fun v8 =>
 S.ld (.load 22 v8) w.drew (fun v9 =>
 S.pur (.bin .mul 22 false false v6 v9) (fun v10 =>
 S.pur (.fieldAddr 143 v2_d 0) (fun v11 =>
 S.pur (.fieldAddr 24 v11 0) (fun v12 =>
 S.ld (.load 22 v12) w.drew (fun v13 =>
 S.pur (.bin .rem 22 false false v10 v13) (fun v14 =>
 S.pur (.fieldAddr 143 v2_d 0) (fun v15 =>
 S.pur (.fieldAddr 24 v15 2) (fun v16 =>
 S.ld (.load 5 v16) w.drew (fun v17 =>
 S.pur (.bin .shl 22 false false v14 v17) (fun v18 =>
 K v18 w.drew)))))))))))))) Kp
theorem vc115_eq (S : Sig) (a0 a1 : Value) (w : World) (K : Value → World → Prop) (Kp : KP) : vc115 S a0 a1 w K Kp = fVC S [] [] Try.f115 [a0, a1] w K Kp := by kernel_rfl
theorem vc115_calls {a0 a1 : Value} {w : World} {K : Value → World → Prop} {Kp : KP} (h : vc115 (nice Try.prog) a0 a1 w K Kp) : Calls Try.prog 115 #[a0, a1] w (ret K Kp) :=
 fVC_sound (args := [a0, a1]) nice_le follows_MVcL Try.func115 (by kernel_rfl) (Eq.mp (vc115_eq _ _ _ _ _ _) h)

def vc162 (S : Sig) (a0 a1 : Value) (w : World) (K : Value → World → Prop) (Kp : KP) : Prop :=
 S.op (.mkIface 2 a1) w (fun v18 w =>
 S.op (.tassert v18 20 3 true) w (fun v19 w =>
 S.op (.extract v19 1) w (fun v20 w =>
 S.op (.extract v19 0) w (fun v21 w =>
 Br v20 (
 S.op (.conv 3 234 v21) w (fun v23 w =>
 S.call (.fn 163) [v23] w (fun v24 w =>
 K v24 w) Kp) Kp) (
 S.op (.tassert v18 20 231 true) w (fun v25 w =>
 S.op (.extract v25 1) w (fun v26 w =>
 S.op (.extract v25 0) w (fun v27 w =>
 Br v26 (
 S.op (.conv 231 234 v27) w (fun v29 w =>
 S.call (.fn 163) [v29] w (fun v30 w =>
 K v30 w) Kp) Kp) (
 S.op (.tassert v18 20 232 true) w (fun v31 w =>
 S.op (.extract v31 1) w (fun v32 w =>
 S.op (.extract v31 0) w (fun v33 w =>
 Br v32 (
 S.op (.conv 232 234 v33) w (fun v35 w =>
 S.call (.fn 163) [v35] w (fun v36 w =>
 K v36 w) Kp) Kp) (
 S.op (.tassert v18 20 21 true) w (fun v37 w =>
 S.op (.extract v37 1) w (fun v38 w =>
 S.op (.extract v37 0) w (fun v39 w =>
 Br v38 (
 S.op (.conv 21 234 v39) w (fun v41 w =>
 S.call (.fn 163) [v41] w (fun v42 w =>
 K v42 w) Kp) Kp) (
 S.op (.tassert v18 20 2 true) w (fun v43 w =>
 S.op (.extract v43 1) w (fun v44 w =>
 S.op (.extract v43 0) w (fun v45 w =>
 Br v44 (
 S.op (.conv 2 234 v45) w (fun v47 w =>
 S.call (.fn 163) [v47] w (fun v48 w =>
 K v48 w) Kp) Kp) (
 S.op (.tassert v18 20 187 true) w (fun v49 w =>
 S.op (.extract v49 1) w (fun v50 w =>
 S.op (.extract v49 0) w (fun v51 w =>
 Br v50 (
 S.call (.fn 163) [v51] w (fun v53 w =>
 K v53 w) Kp) (
 S.op (.tassert v18 20 5 true) w (fun v54 w =>
 S.op (.extract v54 1) w (fun v55 w =>
 S.op (.extract v54 0) w (fun v56 w =>
 Br v55 (
 S.op (.conv 5 234 v56) w (fun v58 w =>
 S.call (.fn 163) [v58] w (fun v59 w =>
 K v59 w) Kp) Kp) (
 S.op (.tassert v18 20 233 true) w (fun v60 w =>
 S.op (.extract v60 1) w (fun v61 w =>
 S.op (.extract v60 0) w (fun v62 w =>
 Br v61 (
 S.op (.conv 233 234 v62) w (fun v64 w =>
 S.call (.fn 163) [v64] w (fun v65 w =>
 K v65 w) Kp) Kp) (
 S.op (.tassert v18 20 22 true) w (fun v66 w =>
 S.op (.extract v66 1) w (fun v67 w =>
 S.op (.extract v66 0) w (fun v68 w =>
 Br v67 (
 S.op (.conv 22 234 v68) w (fun v70 w =>
 S.call (.fn 163) [v70] w (fun v71 w =>
 K v71 w) Kp) Kp) (
 S.op (.tassert v18 20 234 true) w (fun v72 w =>
 S.op (.extract v72 1) w (fun v73 w =>
 S.op (.extract v72 0) w (fun v74 w =>
 Br v73 (
 S.call (.fn 163) [v74] w (fun v76 w =>
 K v76 w) Kp) (
 S.op (.tassert v18 20 12 true) w (fun v77 w =>
 S.op (.extract v77 1) w (fun v78 w =>
 S.op (.extract v77 0) w (fun v79 w =>
 Br v78 (
 S.call (.fn 163) [v79] w (fun v81 w =>
 K v81 w) Kp) (
 S.op (.tassert v18 20 9 true) w (fun v82 w =>
 S.op (.extract v82 1) w (fun v83 w =>
 S.op (.extract v82 0) w (fun v84 w =>
 Br v83 (
 S.call (.fn 164) [v84] w (fun v86 w =>
 K v86 w) Kp) (
 S.op (.mkIface 9 (.string { data := #[105, 109, 109, 117, 116, 97, 98, 108, 101, 46, 100, 101, 102, 97, 117, 108, 116, 72, 97, 115, 104, 101, 114, 46, 72, 97, 115, 104, 58, 32, 109, 117, 115, 116, 32, 115, 101, 116, 32, 99, 111, 109, 112, 97, 114, 101, 114, 32, 102, 111, 114, 32, 37, 84, 32, 116, 121, 112, 101] })) w (fun v87 w =>
 S.op (.panic v87) w (fun _ w =>
 K (.int .u32 0) w) Kp) Kp)) Kp) Kp) Kp)) Kp) Kp) Kp)) Kp) Kp) Kp)) Kp) Kp) Kp)) Kp) Kp) Kp)) Kp) Kp) Kp)) Kp) Kp) Kp)) Kp) Kp) Kp)) Kp) Kp) Kp)) Kp) Kp) Kp)) Kp) Kp) Kp)) Kp) Kp) Kp) Kp
theorem vc162_eq (S : Sig) (a0 a1 : Value) (w : World) (K : Value → World → Prop) (Kp : KP) : vc162 S a0 a1 w K Kp = fVC S [] [] Try.f162 [a0, a1] w K Kp := by kernel_rfl
theorem vc162_calls {a0 a1 : Value} {w : World} {K : Value → World → Prop} {Kp : KP} (h : vc162 (nice Try.prog) a0 a1 w K Kp) : Calls Try.prog 162 #[a0, a1] w (ret K Kp) :=
 fVC_sound (args := [a0, a1]) nice_le follows_MVcL Try.func162 (by kernel_rfl) (Eq.mp (vc162_eq _ _ _ _ _ _) h)

end Go.Proofs.Ytbghmbbhkoniiaa
end
section
/- The hasher that is chosen for a map without one. -/
set_option maxRecDepth 100000
set_option maxHeartbeats 1000000
set_option linter.unusedSimpArgs false
set_option linter.unusedVariables false
set_option linter.unusedSectionVars false
namespace Go.Proofs.Ytbghmbbhkoniiaa.T
open Go.Vc Go.Proofs Go.Proofs.Ytbghmbbhkoniiaa Go.Vc.Nd
variable {w w' : World} {K : Value → World → Prop} {Kp : KP} {k : Ky}

theorem wrap_u32_nat {x : Int} : 0 ≤ IntKind.u32.wrap x ∧ IntKind.u32.wrap x < 4294967296 := by rw [IntKind.wrap_u32]; omega
def hstr (s : ByteArray) : Nat → Int
  | 0 => 0
  | n + 1 => IntKind.u32.wrap (IntKind.u32.wrap (31 * hstr s n) + IntKind.u32.wrap (((s[n]?).getD 0).toNat : Int))
theorem hstr_nat (s : ByteArray) (n : Nat) : 0 ≤ hstr s n ∧ hstr s n < 4294967296 := by
  cases n with
  | zero => exact ⟨by simp [hstr], by simp [hstr]⟩
  | succ n => exact wrap_u32_nat
def defHash (k : Ky) : Nat := (hstr k.1 k.1.size).toNat
theorem hashS_ok {k : ByteArray} (hs : k.size < 2 ^ 62) (hK : K (.int .u32 (hstr k k.size)) w) : Calls Try.prog 164 #[.string k] w (ret K Kp) := by
  refine vc164_calls ?_
  simp only [vc164]
  obtain ⟨I, hI⟩ : ∃ I : Value → Value → World → Prop, ∀ s t wl, I s t wl ↔ ∃ j : Nat, s = .int .u32 (hstr k j) ∧ t = .int .i64 (j : Int) ∧ j ≤ k.size ∧ wl = w := ⟨_, fun _ _ _ => Iff.rfl⟩
  refine Lp.intro I (fun _ t _ => k.size - natOf t) ⟨(hI _ _ _).2 ⟨0, rfl, rfl, by omega, rfl⟩, ?_⟩
  intro wl _ s t hst
  obtain ⟨j, rfl, rfl, hj, rfl⟩ := (hI _ _ _).1 hst
  simp [-getElem?_pos, -Array.getElem?_eq_getElem, -Int.natCast_add, add_spot, and_assoc, Br_dec, -op_box]
  refine ⟨fun hlt => ⟨by omega, ?_, ?_⟩, fun hge => ?_⟩
  · rw [wrap_i64_small (by omega) (by omega)]
    exact (hI _ _ _).2 ⟨j + 1, rfl, by simp, by omega, rfl⟩
  · rw [wrap_i64_small (by omega) (by omega)]
    simp only [natOf]; omega
  · have : j = k.size := by omega
    subst this
    exact hK
def defV (d : Nat) : Value := .iface 237 (ptr d)
theorem hash_eql {w : World} {K : Value → World → Prop} {Kp : KP} {a b : Ky} (hK : K (.bool (decide (a = b))) w) : (nice Try.prog).op (.bin .eql 20 false false (.iface 9 (ek a)) (.iface 9 (ek b))) w K Kp :=
  op_eql_ifaces (i := (Try.prog.info? 9).getD default) Try.underlying20 (by kernel_rfl) (by kernel_rfl) (fun w => eql_str Try.underlying9 w) (by have e : decide (a = b) = decide (a.1 = b.1) := decide_eq_decide.2 Subtype.ext_iff; rw [e] at hK; exact hK)
structure IsD (hv : Value) : Prop where
  eqv : ∀ {a b : Ky} {w : World} {K : Value → World → Prop} {Kp : KP}, (∀ w', Frm (fun _ => False) w w' → K (.bool (decide (a = b))) w') → (nice Try.prog).call (.inv hv "Equal") [ek a, ek b] w K Kp
theorem defEq_ok {d : Nat} {a b : Ky} (hK : K (.bool (decide (a = b))) w) : (nice Try.prog).call (.inv (defV d) "Equal") [ek a, ek b] w K Kp := by
  simp only [defV, inv_237_165]
  refine vc165_calls ?_
  simp only [vc165]
  simp [-getElem?_pos, -Array.getElem?_eq_getElem, -Int.natCast_add, add_spot, and_assoc, Br_dec, -op_box]
  exact hash_eql hK
theorem defHash_ok {d : Nat} (hK : K (.int .u32 (defHash k)) w) : (nice Try.prog).call (.inv (defV d) "Hash") [ek k] w K Kp := by
  simp only [defV, inv_237_166]
  refine vc166_calls ?_
  simp only [vc166, ek]
  simp [-getElem?_pos, -Array.getElem?_eq_getElem, -Int.natCast_add, add_spot, and_assoc, Br_dec, -op_box]
  have hs := k.2
  refine hashS_ok (by omega) ?_
  have e : (defHash k : Int) = hstr k.1 k.1.size := by
    have := hstr_nat k.1 k.1.size
    rw [defHash]; omega
  rw [e] at hK
  exact hK
theorem defHasher_ok (d : Nat) : IsH (defV d) defHash where
  lt k := by
    have := hstr_nat k.1 k.1.size
    rw [defHash]; omega
  eqv := fun hK => defEq_ok (hK _ Frm.refl)
  hsh := fun hK => defHash_ok (hK _ Frm.refl)
  nilE := by intro K1; simp [defV, ptr]
  iface := ⟨_, _, rfl⟩
private theorem mixed : Try.prog.follows .mixedOrders = true := by kernel_rfl
set_option maxHeartbeats 4000000 in
theorem newHasher_ok (hK : ∀ d w', Frm (fun _ => False) w w' → K (defV d) w') : Calls Try.prog 87 #[ek k] w (ret K Kp) := by
  refine fVC_sound (args := [ek k]) (aL := []) (aJ := []) nice_le mixed Try.func87 (by kernel_rfl) ?_
  refine fVC_of (c := _) rfl ?_
  refine code_seq ?_
  refine code_region ?_
  refine ops_move rfl (.inr rfl) ?_
  refine ops_end ?_
  refine code_seq ?_
  refine code_seq ?_
  refine code_region ?_
  refine ops_move rfl (.inl rfl) ?_
  refine ops_op rfl rfl rfl ?_
  refine Eq.mpr (op_mki_9 (v := ek k)) ?_
  refine ops_end ?_
  refine code_block ?_
  refine code_seq ?_
  refine code_region ?_
  refine ops_op rfl rfl rfl ?_
  refine Eq.mpr (op_ta_20_3 (u := 9) (v := ek k)) ?_
  refine ite_no (by decide) ?_
  refine ops_op rfl rfl rfl ?_
  refine Eq.mpr op_ext2_1 ?_
  refine ops_op rfl rfl rfl ?_
  refine Eq.mpr op_ext2_0 ?_
  refine ops_op rfl rfl rfl ?_
  refine Eq.mpr (op_ta_20_231 (u := 9) (v := ek k)) ?_
  refine ite_no (by decide) ?_
  refine ops_op rfl rfl rfl ?_
  refine Eq.mpr op_ext2_1 ?_
  refine ops_op rfl rfl rfl ?_
  refine Eq.mpr op_ext2_0 ?_
  refine ops_op rfl rfl rfl ?_
  refine Eq.mpr (op_ta_20_232 (u := 9) (v := ek k)) ?_
  refine ite_no (by decide) ?_
  refine ops_op rfl rfl rfl ?_
  refine Eq.mpr op_ext2_1 ?_
  refine ops_op rfl rfl rfl ?_
  refine Eq.mpr op_ext2_0 ?_
  refine ops_op rfl rfl rfl ?_
  refine Eq.mpr (op_ta_20_21 (u := 9) (v := ek k)) ?_
  refine ite_no (by decide) ?_
  refine ops_op rfl rfl rfl ?_
  refine Eq.mpr op_ext2_1 ?_
  refine ops_op rfl rfl rfl ?_
  refine Eq.mpr op_ext2_0 ?_
  refine ops_op rfl rfl rfl ?_
  refine Eq.mpr (op_ta_20_2 (u := 9) (v := ek k)) ?_
  refine ite_no (by decide) ?_
  refine ops_op rfl rfl rfl ?_
  refine Eq.mpr op_ext2_1 ?_
  refine ops_op rfl rfl rfl ?_
  refine Eq.mpr op_ext2_0 ?_
  refine ops_op rfl rfl rfl ?_
  refine Eq.mpr (op_ta_20_187 (u := 9) (v := ek k)) ?_
  refine ite_no (by decide) ?_
  refine ops_op rfl rfl rfl ?_
  refine Eq.mpr op_ext2_1 ?_
  refine ops_op rfl rfl rfl ?_
  refine Eq.mpr op_ext2_0 ?_
  refine ops_op rfl rfl rfl ?_
  refine Eq.mpr (op_ta_20_5 (u := 9) (v := ek k)) ?_
  refine ite_no (by decide) ?_
  refine ops_op rfl rfl rfl ?_
  refine Eq.mpr op_ext2_1 ?_
  refine ops_op rfl rfl rfl ?_
  refine Eq.mpr op_ext2_0 ?_
  refine ops_op rfl rfl rfl ?_
  refine Eq.mpr (op_ta_20_233 (u := 9) (v := ek k)) ?_
  refine ite_no (by decide) ?_
  refine ops_op rfl rfl rfl ?_
  refine Eq.mpr op_ext2_1 ?_
  refine ops_op rfl rfl rfl ?_
  refine Eq.mpr op_ext2_0 ?_
  refine ops_op rfl rfl rfl ?_
  refine Eq.mpr (op_ta_20_22 (u := 9) (v := ek k)) ?_
  refine ite_no (by decide) ?_
  refine ops_op rfl rfl rfl ?_
  refine Eq.mpr op_ext2_1 ?_
  refine ops_op rfl rfl rfl ?_
  refine Eq.mpr op_ext2_0 ?_
  refine ops_op rfl rfl rfl ?_
  refine Eq.mpr (op_ta_20_234 (u := 9) (v := ek k)) ?_
  refine ite_no (by decide) ?_
  refine ops_op rfl rfl rfl ?_
  refine Eq.mpr op_ext2_1 ?_
  refine ops_op rfl rfl rfl ?_
  refine Eq.mpr op_ext2_0 ?_
  refine ops_op rfl rfl rfl ?_
  refine Eq.mpr (op_ta_20_12 (u := 9) (v := ek k)) ?_
  refine ite_no (by decide) ?_
  refine ops_op rfl rfl rfl ?_
  refine Eq.mpr op_ext2_1 ?_
  refine ops_op rfl rfl rfl ?_
  refine Eq.mpr op_ext2_0 ?_
  refine ops_op rfl rfl rfl ?_
  refine Eq.mpr (op_ta_20_9 (u := 9) (v := ek k)) ?_
  refine ite_yes rfl ?_
  refine ops_op rfl rfl rfl ?_
  refine Eq.mpr op_ext2_1 ?_
  refine ops_op rfl rfl rfl ?_
  refine Eq.mpr op_ext2_0 ?_
  refine ops_pick (b := false) rfl rfl rfl rfl ?_
  refine ops_pick (b := false) rfl rfl rfl rfl ?_
  refine ops_pick (b := false) rfl rfl rfl rfl ?_
  refine ops_pick (b := false) rfl rfl rfl rfl ?_
  refine ops_pick (b := false) rfl rfl rfl rfl ?_
  refine ops_pick (b := false) rfl rfl rfl rfl ?_
  refine ops_pick (b := false) rfl rfl rfl rfl ?_
  refine ops_pick (b := false) rfl rfl rfl rfl ?_
  refine ops_pick (b := false) rfl rfl rfl rfl ?_
  refine ops_pick (b := false) rfl rfl rfl rfl ?_
  refine ops_pick (b := false) rfl rfl rfl rfl ?_
  refine ops_end ?_
  refine code_cond (t := true) rfl (.inl rfl) ?_
  refine code_seq ?_
  refine code_region ?_
  refine ops_op rfl rfl rfl ?_
  refine Eq.mpr (op_build (v := .agg #[]) (by kernel_rfl)) ?_
  refine ops_op rfl rfl rfl ?_
  refine op_box_ok fun w1 k1 z1 b1 => ?_
  refine ops_op rfl rfl rfl ?_
  refine Eq.mpr (op_mki_237 (v := ptr w.heap.size)) ?_
  refine ops_move rfl (.inr rfl) ?_
  refine ops_end ?_
  refine code_ret ?_
  exact hK _ w1 k1
end Go.Proofs.Ytbghmbbhkoniiaa.T
end
section
/- A map with its hasher, chosen or to be chosen at the first key: set, delete, get, length, iterator. -/
set_option maxRecDepth 100000
set_option maxHeartbeats 1000000
set_option linter.unusedSimpArgs false
set_option linter.unusedVariables false
set_option linter.unusedSectionVars false
namespace Go.Proofs.Ytbghmbbhkoniiaa.T
open Go.Vc Go.Proofs Go.Proofs.Ytbghmbbhkoniiaa Go.Vc.Nd
variable {w w' : World} {v hv : Value} {t : Tr} {F F' : Nat → Prop} {K : Value → World → Prop} {Kp : KP} {hash : Ky → Nat} {k : Ky} {x : Vl} {l s rb : Nat} {r0 mu nl : Bool}

theorem set_first_ok {b : Nat} (hm : IsMap w b .nilIface .emp F)
    (hK : ∀ b' w' F' d, Frm (fun c => mu = true ∧ F c) w w' → IsMap w' b' (defV d) (.arr [(k, x)]) F' → (∀ c, F' c → F c ∨ w.heap.size ≤ c) → (mu = true → b' = b) → K (ptr b') w') : Calls Try.prog 74 #[ptr b, ek k, ev x, .bool mu] w (ret K Kp) := by
  obtain ⟨r, F0, h1, h2, h3, h4⟩ := hm.lt
  have heq := fun {wz : World} {K : Value → World → Prop} {Kp : KP} => eq_nil h3 (wz := wz) (K := K) (Kp := Kp)
  obtain rfl := h3.nil
  refine vc74_calls ?_
  simp [-getElem?_pos, -Array.getElem?_eq_getElem, -Int.natCast_add, add_spot, and_assoc, Br_dec, -op_box, -op_st_4, -op_st_3, -op_st_161, -op_st_176, -op_st_214, -op_st_175, -op_st_163, -op_st_159, -op_alloc_4, -op_alloc_163, -op_lit_176_1, vc74, ptr, h1]
  refine Jn.intro (fun hv' w1 => ∃ d, hv' = defV d ∧ Frm (fun _ => False) w w1) ⟨newHasher_ok fun d w1 k1 => ⟨d, rfl, k1⟩, ?_⟩
  rintro w0 _ ⟨d, rfl, k0⟩
  have h10 := k0.get h1 (fun h => h)
  have n0 := k0.size
  obtain ⟨J, hJ⟩ : ∃ J : Value → World → Prop, ∀ ov w1, J ov w1 ↔ ∃ nb, ov = ptr nb ∧ Frm (fun _ => False) w0 w1 ∧ w1.heap[nb]? = some (.cells #[.int .i64 0, .nilIface, .nilIface] 163 (0, 0)) ∧ (nb = b ∧ mu = true ∨ nb = w0.heap.size) ∧ (mu = true → nb = b) := ⟨_, fun _ _ => Iff.rfl⟩
  refine Jn.intro J ⟨fun hm => ?_, fun hm => (hJ _ _).2 ⟨b, rfl, Frm.refl, h10, .inl ⟨rfl, hm⟩, fun _ => rfl⟩, ?_⟩
  · exact clone_map_ok h10 rfl rfl rfl fun w1 k1 z1 b1 => (hJ _ _).2 ⟨_, rfl, k1, b1, .inr rfl, fun h => by rw [h] at hm; cases hm⟩
  intro w1 ov hov
  obtain ⟨nb, rfl, k1, b1, hnb, hnbm⟩ := (hJ _ _).1 hov
  clear hov hJ J
  have hb1 := k1.get h10 (fun h => h)
  have n1 := k1.size
  have l1 := lt_of_get h10
  simp [-getElem?_pos, -Array.getElem?_eq_getElem, -Int.natCast_add, add_spot, and_assoc, Br_dec, -op_box, -op_st_4, -op_st_3, -op_st_161, -op_st_176, -op_st_214, -op_st_175, -op_st_163, -op_st_159, -op_alloc_4, -op_alloc_163, -op_lit_176_1, ptr]
  refine op_store_ok (by kernel_rfl) b1 (by simp) rfl fun w2 k2 z2 b2 => ?_
  have b2 : w2.heap[nb]? = some (.cells #[.int .i64 0, .nilIface, defV d] 163 (0, 0)) := by simpa using b2
  obtain ⟨hh, hb2⟩ : ∃ hh, w2.heap[b]? = some (.cells #[.int .i64 0, .nilIface, hh] 163 (0, 0)) := by
    by_cases e : b = nb
    · exact ⟨_, by rw [e]; exact b2⟩
    · exact ⟨_, k2.get hb1 e⟩
  simp [-getElem?_pos, -Array.getElem?_eq_getElem, -Int.natCast_add, add_spot, and_assoc, Br_dec, -op_box, -op_st_4, -op_st_3, -op_st_161, -op_st_176, -op_st_214, -op_st_175, -op_st_163, -op_st_159, -op_alloc_4, -op_alloc_163, -op_lit_176_1, hb2]
  refine op_store_ok (by kernel_rfl) b2 (by simp) rfl fun w3 k3 z3 b3 => ?_
  refine op_lit_ok lit_176_1 fun w4 k4 z4 b4 => ?_
  simp [-getElem?_pos, -Array.getElem?_eq_getElem, -Int.natCast_add, add_spot, and_assoc, Br_dec, -op_box, -op_st_4, -op_st_3, -op_st_161, -op_st_176, -op_st_214, -op_st_175, -op_st_163, -op_st_159, -op_alloc_4, -op_alloc_163, -op_lit_176_1]
  refine op_box_ok fun w5 k5 z5 b5 => ?_
  simp only [cells_agg] at b5
  have bn5 := k5.get (k4.get b3 (fun h => h)) (fun h => h)
  refine op_store_ok (by kernel_rfl) bn5 (by simp) rfl fun w6 k6 z6 b6 => ?_
  have l2 := lt_of_get b2
  have hq : Rw w6 175 2 w3.heap.size 1 (ents [(k, x)]) := ((Rw.lit (w := w4) (n := 1) (by rw [ents_len]; rfl) (by decide) (by simpa [ents, ent] using b4)).frame k5 (fun h => h)).frame k6 (by omega)
  have b56 := k6.get b5 (by omega)
  have kall : Frm (fun c => mu = true ∧ F c) w w6 := (k0.to (M' := fun c => mu = true ∧ F c) fun _ h => h.elim).old (k1.fst (k2.tr (k3.tr (k4.fst (k5.fst k6))))) fun c hc => by
    have hcn : c = nb := by rcases hc with h | h | h <;> exact h
    rcases hnb with h | h
    · exact .inl ⟨h.2, by rw [hcn, h.1]; exact h2.1⟩
    · exact .inr (by omega)
  refine hK nb w6 (fun c => c = nb ∨ c = w4.heap.size ∨ c = w3.heap.size) d kall ⟨_, fun c => c = w4.heap.size ∨ c = w3.heap.size, by rw [show ((toL (Nd.arr [(k, x)])).length : Int) = 1 from rfl]; simpa [ptr] using b6, .inl rfl, ⟨w4.heap.size, w3.heap.size, 1, rfl, .inl rfl, .inr rfl, by omega, b56, by simp, hq⟩, fun c hc => ⟨.inr hc, by omega⟩⟩ (fun c hc => ?_) hnbm
  rcases hc with h | h | h
  · rcases hnb with h' | h'
    · exact .inl (by rw [h, h'.1]; exact h2.1)
    · exact .inr (by omega)
  · exact .inr (by omega)
  · exact .inr (by omega)

def Ver (w : World) (b : Nat) (hash : Ky → Nat) (nl : Bool) (t : Tr) (F : Nat → Prop) : Prop :=
  WFr hash t ∧ ∃ hv, IsMap w b hv t F ∧ (IsH hv hash ∨ nl = true ∧ hash = defHash ∧ hv = .nilIface ∧ t = .emp)
theorem Ver.keep {b : Nat} (h : Ver w b hash nl t F) (hw : ∀ c o, F c → w.heap[c]? = some o → w'.heap[c]? = some o) : Ver w' b hash nl t F := by
  obtain ⟨h1, hv, h2, h3⟩ := h
  exact ⟨h1, hv, h2.keep hw, h3⟩
theorem Ver.frame {b : Nat} {M : Nat → Prop} (h : Ver w b hash nl t F) (hf : Frm M w w') (hM : ∀ c, F c → ¬ M c) : Ver w' b hash nl t F := h.keep fun c o hc ho => hf.get ho (hM c hc)
theorem Ver.still {b : Nat} (h : Ver w b hash nl t F) (hf : Frm (fun _ => False) w w') : Ver w' b hash nl t F := h.frame hf fun _ _ h => h
theorem Ver.mono {b : Nat} (h : Ver w b hash nl t F) (hF : ∀ c, F c → F' c) : Ver w b hash nl t F' := by
  obtain ⟨h1, hv, ⟨r, F0, g1, g2, g3, g4⟩, h3⟩ := h
  exact ⟨h1, hv, ⟨r, F0, g1, hF _ g2, g3, fun c hc => ⟨hF _ (g4 c hc).1, (g4 c hc).2⟩⟩, h3⟩
theorem Ver.lt {b : Nat} (h : Ver w b hash nl t F) : Ver w b hash nl t (fun c => F c ∧ c < w.heap.size) := by
  obtain ⟨h1, hv, h2, h3⟩ := h
  exact ⟨h1, hv, h2.lt, h3⟩
theorem Ver.mem {b : Nat} (h : Ver w b hash nl t F) : F b := by obtain ⟨h1, hv, h2, h3⟩ := h; exact h2.mem
theorem ver_set_ok {b : Nat} (hdef : ∀ d, IsH (defV d) defHash) (h : Ver w b hash nl t F) (hL : (toL t).length ≤ 1000000)
    (hK : ∀ b' w' F', Frm (fun c => mu = true ∧ F c) w w' → Ver w' b' hash nl (Nd.set hash t k x) F' → (∀ c, F' c → F c ∨ w.heap.size ≤ c) → (mu = true → b' = b) → K (ptr b') w') : Calls Try.prog 74 #[ptr b, ek k, ev x, .bool mu] w (ret K Kp) := by
  obtain ⟨h1, hv, h2, h3 | ⟨hn, rfl, rfl, rfl⟩⟩ := h
  · exact set_map_ok h3 h1 hL h2 fun b' w' F' k' m' hF' hb => hK b' w' F' k' ⟨(set_spec h3.lt h1).1, hv, m', .inl h3⟩ hF' hb
  · refine set_first_ok h2 fun b' w' F' d k' m' hF' hb => hK b' w' F' k' ⟨(set_spec (hdef d).lt h1).1, defV d, m', .inl (hdef d)⟩ hF' hb
theorem ver_del_ok {b : Nat} (h : Ver w b hash nl t F) (hL : (toL t).length ≤ 1000000)
    (hK : ∀ b' w' F', Frm (fun c => mu = true ∧ F c) w w' → Ver w' b' hash nl (delT hash t k) F' → (∀ c, F' c → F c ∨ w.heap.size ≤ c) → K (ptr b') w') : Calls Try.prog 73 #[ptr b, ek k, .bool mu] w (ret K Kp) := by
  obtain ⟨h1, hv, h2, h3 | ⟨hn, rfl, rfl, rfl⟩⟩ := h
  · refine del_map_ok h3 h1 hL h2 (fun hg w' k' => ?_) fun hg b' w' F' k' m' hF' => hK b' w' F' k' ⟨(delT_spec h1).1, hv, by rw [delT, if_pos hg]; exact m', .inl h3⟩ hF'
    have e : delT hash t k = t := by rw [delT, if_neg (by rw [hg]; decide)]
    refine hK b w' F (k'.to fun _ h => h.elim) ?_ fun c hc => .inl hc
    rw [e]
    exact ⟨h1, hv, h2.keep fun c o hc ho => k'.get ho fun h => h, .inl h3⟩
  · obtain ⟨r, F0, g1, g2, g3, g4⟩ := id h2
    obtain rfl := g3.nil
    refine vc73_calls ?_
    simp [-getElem?_pos, -Array.getElem?_eq_getElem, -Int.natCast_add, add_spot, and_assoc, Br_dec, -op_box, -op_st_4, -op_st_3, -op_st_161, -op_st_176, -op_st_214, -op_st_175, -op_st_163, -op_st_159, -op_alloc_4, -op_alloc_163, -op_lit_176_1, vc73, ptr, g1]
    exact hK b w F Frm.refl ⟨h1, _, h2, .inr ⟨hn, rfl, rfl, rfl⟩⟩ fun c hc => .inl hc
theorem Set_ok {b : Nat} (hdef : ∀ d, IsH (defV d) defHash) (h : Ver w b hash nl t F) (hL : (toL t).length ≤ 1000000)
    (hK : ∀ b' w' F', Frm (fun _ => False) w w' → Ver w' b' hash nl (Nd.set hash t k x) F' → (∀ c, F' c → (F c ∨ w.heap.size ≤ c) ∧ c < w'.heap.size) → K (ptr b') w') : Calls Try.prog 48 #[ptr b, ek k, ev x] w (ret K Kp) := by
  refine vc48_calls ?_
  simp only [vc48, call_74]
  exact ver_set_ok hdef h hL fun b' w' F' k' h' hF' _ => hK b' w' _ (k'.to fun _ h => nomatch h.1) h'.lt fun c hc => ⟨hF' c hc.1, hc.2⟩
theorem Delete_ok {b : Nat} (h : Ver w b hash nl t F) (hL : (toL t).length ≤ 1000000)
    (hK : ∀ b' w' F', Frm (fun _ => False) w w' → Ver w' b' hash nl (delT hash t k) F' → (∀ c, F' c → (F c ∨ w.heap.size ≤ c) ∧ c < w'.heap.size) → K (ptr b') w') : Calls Try.prog 47 #[ptr b, ek k] w (ret K Kp) := by
  refine vc47_calls ?_
  simp only [vc47, call_73]
  exact ver_del_ok h hL fun b' w' F' k' h' hF' => hK b' w' _ (k'.to fun _ h => nomatch h.1) h'.lt fun c hc => ⟨hF' c hc.1, hc.2⟩
theorem ver_len_ok {b : Nat} (h : Ver w b hash nl t F) (hK : K (.int .i64 (toL t).length) w) : Calls Try.prog 49 #[ptr b] w (ret K Kp) := by
  obtain ⟨h1, hv, h2, h3⟩ := h
  exact len_ok h2 hK
theorem ver_iter_ok {b : Nat} (h : Ver w b hash nl t F) (hF : ∀ c, F c → c < w.heap.size)
    (hK : ∀ ib w', Frm (fun _ => False) w w' → w.heap.size ≤ ib → At w' ib b F hash (toL t) → K (ptr ib) w') : Calls Try.prog 50 #[ptr b] w (ret K Kp) := by
  obtain ⟨h1, hv, h2, h3⟩ := h
  exact iterator_ok h1 h2 hF hK
theorem ver_new_ok {h : Value} (hv : IsH h hash ∨ nl = true ∧ hash = defHash ∧ h = .nilIface) (h1 : h.oneCell' = true) (hK : ∀ w', Frm (fun _ => False) w w' → w'.heap.size = w.heap.size + 1 → Ver w' w.heap.size hash nl .emp (· = w.heap.size) → K (ptr w.heap.size) w') : Calls Try.prog 46 #[h] w (ret K Kp) := by
  refine vc46_calls ?_
  simp [-getElem?_pos, -Array.getElem?_eq_getElem, -Int.natCast_add, add_spot, and_assoc, Br_dec, -op_box, -op_st_4, -op_st_3, -op_st_161, -op_st_176, -op_st_214, -op_st_175, -op_st_163, -op_st_159, -op_alloc_4, -op_alloc_163, -op_lit_176_1, vc46, h1]
  refine op_box_ok fun w1 k1 z1 b1 => ?_
  simp only [cells_agg] at b1
  refine hK w1 k1 z1 ⟨trivial, h, ⟨.nilIface, fun _ => False, b1, rfl, rfl, fun _ h => h.elim⟩, ?_⟩
  rcases hv with hv | hv
  · exact .inl hv
  · exact .inr ⟨hv.1, hv.2.1, hv.2.2, rfl⟩
end Go.Proofs.Ytbghmbbhkoniiaa.T
end
section
/- Scripts over maps in plain words: versions as tries, and as functions from keys to values. -/
set_option linter.unusedSimpArgs false
set_option linter.unusedVariables false
set_option linter.unusedSectionVars false
namespace Go.Vc
open Nd
section
variable {α β σ : Type}
def vers (f : α → σ → α) (fro : σ → Nat) (a0 : α) (steps : List σ) : List α := steps.foldl (fun l s => l ++ [f (l[fro s]?.getD a0) s]) [a0]
variable {f : α → σ → α} {g : β → σ → β} {fro : σ → Nat} {a0 : α} {b0 : β}
theorem vers_snoc (steps : List σ) (s : σ) : vers f fro a0 (steps ++ [s]) = vers f fro a0 steps ++ [f ((vers f fro a0 steps)[fro s]?.getD a0) s] := by simp [vers]
theorem snoc_ind {P : List σ → Prop} (h0 : P []) (h1 : ∀ l s, P l → P (l ++ [s])) (l : List σ) : P l := by
  rw [← List.reverse_reverse l]
  generalize l.reverse = r
  induction r with
  | nil => exact h0
  | cons x r ih => rw [List.reverse_cons]; exact h1 _ _ ih
theorem vers_len (steps : List σ) : (vers f fro a0 steps).length = steps.length + 1 := by
  refine snoc_ind (P := fun steps => (vers f fro a0 steps).length = steps.length + 1) rfl (fun l s ih => ?_) steps
  rw [vers_snoc, List.length_append, ih]; simp
theorem vers_rel {R : α → β → Prop} (h0 : R a0 b0) (hs : ∀ a b s, R a b → R (f a s) (g b s)) (steps : List σ) : ∀ (j : Nat) a b, (vers f fro a0 steps)[j]? = some a → (vers g fro b0 steps)[j]? = some b → R a b := by
  refine snoc_ind (P := fun steps => ∀ (j : Nat) a b, (vers f fro a0 steps)[j]? = some a → (vers g fro b0 steps)[j]? = some b → R a b) ?_ (fun l s ih => ?_) steps
  · intro j a b ha hb
    cases j with
    | zero => simp [vers] at ha hb; subst ha hb; exact h0
    | succ j => simp [vers] at ha
  · intro j a b ha hb
    rw [vers_snoc] at ha hb
    have hl1 := vers_len (f := f) (fro := fro) (a0 := a0) l
    have hl2 := vers_len (f := g) (fro := fro) (a0 := b0) l
    by_cases hj : j < l.length + 1
    · rw [List.getElem?_append_left (by omega)] at ha hb
      exact ih j a b ha hb
    · have hj' : j = l.length + 1 := by
        have := (List.getElem?_eq_some_iff.1 ha).1
        simp [hl1] at this; omega
      subst hj'
      rw [List.getElem?_append_right (by omega), hl1] at ha
      rw [List.getElem?_append_right (by omega), hl2] at hb
      simp at ha hb
      subst ha hb
      refine hs _ _ _ ?_
      cases hx : (vers f fro a0 l)[fro s]? with
      | none =>
        have : (vers g fro b0 l)[fro s]? = none := by
          rw [List.getElem?_eq_none_iff] at hx ⊢; omega
        rw [this]; exact h0
      | some x =>
        have hlt := (List.getElem?_eq_some_iff.1 hx).1
        rw [List.getElem?_eq_getElem (l := vers g fro b0 l) (by omega)]
        exact ih _ _ _ hx (List.getElem?_eq_getElem (by omega))
end

structure MStep where
  kind : Nat
  fro : Int
  key : Int
  value : Int
  count : Int
def MStep.cells (s : MStep) : List Value := [.int .u8 s.kind, .int .i64 s.fro, .int .i64 s.key, .int .i64 s.value, .int .i64 s.count]
theorem mcells_len (s : MStep) : s.cells.length = 5 := rfl
def MStep.cost (s : MStep) : Nat := 1 + s.count.toNat
def MStep.ref (s : MStep) : Nat := s.fro.toNat
def kAt (k v : Int) (i : Nat) : Int := IntKind.i64.wrap (k + IntKind.i64.wrap ((i : Int) * v))

section trees
variable {κ ν : Type} [DecidableEq κ]
def mset (m : κ → Option ν) (k : κ) (v : ν) : κ → Option ν := fun j => if j = k then some v else m j
def mdel (m : κ → Option ν) (k : κ) : κ → Option ν := fun j => if j = k then none else m j
def Tells (D : List (κ × ν)) (m : κ → Option ν) : Prop := ∀ k v, (k, v) ∈ D ↔ m k = some v
def Is (hash : κ → Nat) (t : Nd κ ν) (m : κ → Option ν) : Prop := WFr hash t ∧ Tells (toL t) m
variable {hash : κ → Nat} {t : Nd κ ν} {m : κ → Option ν} {k : κ} {v : ν} {D D' : List (κ × ν)}
theorem is_emp : Is hash (.emp : Nd κ ν) (fun _ => none) := ⟨trivial, fun k v => by simp [toL]⟩
theorem is_set (hh : ∀ k, hash k < 2 ^ 32) (h : Is hash t m) : Is hash (Nd.set hash t k v) (mset m k v) := by
  have hs := set_spec (k := k) (v := v) hh h.1
  refine ⟨hs.1, fun k' v' => ?_⟩
  have h2 := hs.2
  first
    | rw [h2]
    | rw [h2.2]
  unfold mset
  by_cases hk : k' = k
  · subst hk; simp [eq_comm]
  · simp [hk, h.2 k' v']
theorem is_del (h : Is hash t m) : Is hash (delT hash t k) (mdel m k) := by
  have hs := delT_spec (k := k) h.1
  refine ⟨hs.1, fun k' v' => ?_⟩
  rw [hs.2]
  unfold mdel
  by_cases hk : k' = k
  · subst hk; simp
  · simp [hk, h.2 k' v']
theorem Is.nodup (h : Is hash t m) : ((toL t).map (·.1)).Nodup := h.1.nodup
theorem Is.get (h : Is hash t m) : getIn (hash k) k t 0 = m k := by
  cases hx : m k with
  | some x => exact (get_spec h.1).2 ((h.2 k x).2 hx)
  | none =>
    cases hy : getIn (hash k) k t 0 with
    | none => rfl
    | some y => have := (h.2 k y).1 ((get_spec h.1).1 hy); rw [hx] at this; cases this
theorem tells_upd (hn : (D.map (·.1)).Nodup) (h : Tells D m) : Tells (upd D k v) (mset m k v) := fun k' v' => by
  rw [mem_upd hn]
  unfold mset
  by_cases hk : k' = k
  · subst hk; simp [eq_comm]
  · simp [hk, h k' v']
theorem tells_wipe (hn : (D.map (·.1)).Nodup) (h : Tells D m) : Tells (wipe D k) (mdel m k) := fun k' v' => by
  unfold wipe mdel
  cases hf : find D k with
  | none =>
    by_cases hk : k' = k
    · subst hk
      simp only [if_true, reduceCtorEq, iff_false]
      intro hm
      exact find_none.1 hf _ hm rfl
    · simp [hk, h k' v']
  | some i =>
    simp only
    rw [mem_erase hn hf]
    by_cases hk : k' = k
    · subst hk; simp
    · simp [hk, h k' v']
theorem tells_look (hn : (D.map (·.1)).Nodup) (h : Tells D m) : Nd.look D k = m k := by
  cases hx : m k with
  | some x => exact (look_iff hn).2 ((h k x).2 hx)
  | none =>
    cases hy : Nd.look D k with
    | none => rfl
    | some y => have := (h k y).1 ((look_iff hn).1 hy); rw [hx] at this; cases this
theorem tells_len (hn : (D.map (·.1)).Nodup) (hn' : (D'.map (·.1)).Nodup) (h : Tells D m) (h' : Tells D' m) : D.length = D'.length :=
  len_of hn hn' fun e => by rw [h e.1 e.2, h' e.1 e.2]
theorem tells_nil : Tells ([] : List (κ × ν)) (fun _ => none) := fun k v => by simp
end trees

def setN (hash : Int → Nat) (k v : Int) (t : Nd Int Int) (n : Nat) : Nd Int Int := (List.range n).foldl (fun t i => Nd.set hash t (kAt k v i) (i : Int)) t
def delN (hash : Int → Nat) (k v : Int) (t : Nd Int Int) (n : Nat) : Nd Int Int := (List.range n).foldl (fun t i => delT hash t (kAt k v i)) t
theorem setN_succ {hash : Int → Nat} {k v : Int} {t : Nd Int Int} {n : Nat} : setN hash k v t (n + 1) = Nd.set hash (setN hash k v t n) (kAt k v n) (n : Int) := by
  unfold setN; rw [List.range_succ, List.foldl_append]; rfl
theorem delN_succ {hash : Int → Nat} {k v : Int} {t : Nd Int Int} {n : Nat} : delN hash k v t (n + 1) = delT hash (delN hash k v t n) (kAt k v n) := by
  unfold delN; rw [List.range_succ, List.foldl_append]; rfl
def trieStep (hash : Int → Nat) (t : Nd Int Int) (s : MStep) : Nd Int Int := match s.kind with
  | 0 => Nd.set hash t s.key s.value
  | 1 => delT hash t s.key
  | 2 => setN hash s.key s.value t s.count.toNat
  | _ => delN hash s.key s.value t s.count.toNat
def versT (hash : Int → Nat) (steps : List MStep) : List (Nd Int Int) := vers (trieStep hash) MStep.ref .emp steps
theorem set_len_le {hash : Int → Nat} (hh : ∀ k, hash k < 2 ^ 32) {t : Nd Int Int} (h : WFr hash t) {k v : Int} : (toL (Nd.set hash t k v)).length ≤ (toL t).length + 1 := by
  rw [set_len hh h]; split <;> omega
def mcost (steps : List MStep) : Nat := (steps.map MStep.cost).sum
theorem mcost_snoc (l : List MStep) (s : MStep) : mcost (l ++ [s]) = mcost l + s.cost := by simp [mcost]
theorem mcost_take (l : List MStep) (i : Nat) : mcost (l.take i) ≤ mcost l := by
  have : mcost l = mcost (l.take i) + mcost (l.drop i) := by
    rw [← List.take_append_drop i l, mcost, mcost, mcost, List.map_append, List.sum_append]
    simp
  omega
theorem setN_len {hash : Int → Nat} (hh : ∀ k, hash k < 2 ^ 32) {t : Nd Int Int} (h : WFr hash t) {k v : Int} : ∀ n, WFr hash (setN hash k v t n) ∧ (toL (setN hash k v t n)).length ≤ (toL t).length + n
  | 0 => ⟨h, Nat.le_refl _⟩
  | n + 1 => by
    obtain ⟨a, b⟩ := setN_len hh h (k := k) (v := v) n
    rw [setN_succ]
    exact ⟨(set_spec hh a).1, by have := set_len_le hh a (k := kAt k v n) (v := (n : Int)); omega⟩
theorem delN_len {hash : Int → Nat} {t : Nd Int Int} (h : WFr hash t) {k v : Int} : ∀ n, WFr hash (delN hash k v t n) ∧ (toL (delN hash k v t n)).length ≤ (toL t).length
  | 0 => ⟨h, Nat.le_refl _⟩
  | n + 1 => by
    obtain ⟨a, b⟩ := delN_len h (k := k) (v := v) n
    rw [delN_succ]
    exact ⟨(delT_spec a).1, Nat.le_trans (delT_len a) b⟩
theorem step_len {hash : Int → Nat} (hh : ∀ k, hash k < 2 ^ 32) {t : Nd Int Int} (h : WFr hash t) (s : MStep) : WFr hash (trieStep hash t s) ∧ (toL (trieStep hash t s)).length ≤ (toL t).length + s.cost := by
  unfold trieStep MStep.cost
  split
  · exact ⟨(set_spec hh h).1, by have := set_len_le hh h (k := s.key) (v := s.value); omega⟩
  · exact ⟨(delT_spec h).1, by have := delT_len (k := s.key) h; omega⟩
  · have := setN_len hh h (k := s.key) (v := s.value) s.count.toNat
    exact ⟨this.1, by omega⟩
  · have := delN_len h (k := s.key) (v := s.value) s.count.toNat
    exact ⟨this.1, by omega⟩
theorem vers_size {hash : Int → Nat} (hh : ∀ k, hash k < 2 ^ 32) (steps : List MStep) : ∀ (j : Nat) t, (versT hash steps)[j]? = some t → WFr hash t ∧ (toL t).length ≤ mcost steps := by
  refine snoc_ind (P := fun steps => ∀ (j : Nat) t, (versT hash steps)[j]? = some t → WFr hash t ∧ (toL t).length ≤ mcost steps) ?_ (fun l s ih => ?_) steps
  · intro j a ha
    cases j with
    | zero => simp [versT, vers] at ha; subst ha; exact ⟨trivial, by simp [toL]⟩
    | succ j => simp [versT, vers] at ha
  · intro j a ha
    rw [versT, vers_snoc] at ha
    have hl1 := vers_len (f := trieStep hash) (fro := MStep.ref) (a0 := .emp) l
    rw [mcost_snoc]
    by_cases hj : j < l.length + 1
    · rw [List.getElem?_append_left (by omega)] at ha
      have := ih j a ha
      exact ⟨this.1, by omega⟩
    · have hj' : j = l.length + 1 := by
        have := (List.getElem?_eq_some_iff.1 ha).1
        simp [hl1] at this; omega
      subst hj'
      rw [List.getElem?_append_right (by omega), hl1] at ha
      simp at ha
      subst ha
      have hx : WFr hash ((vers (trieStep hash) MStep.ref .emp l)[s.ref]?.getD .emp) ∧ (toL ((vers (trieStep hash) MStep.ref .emp l)[s.ref]?.getD .emp)).length ≤ mcost l := by
        cases hx : (vers (trieStep hash) MStep.ref .emp l)[s.ref]? with
        | none => exact ⟨trivial, by simp [toL]⟩
        | some x => exact ih _ _ hx
      have := step_len hh hx.1 s
      exact ⟨this.1, by omega⟩
def MFit (steps : List MStep) : Prop := ∀ i (h : i < steps.length), steps[i].kind ≤ 3 ∧ 0 ≤ steps[i].fro ∧ steps[i].fro ≤ i ∧ 0 ≤ steps[i].count ∧ steps[i].count ≤ 100000
end Go.Vc
namespace Go.Vc
open Nd
section
variable {κ ν : Type} [DecidableEq κ] {m : κ → Option ν} {k : κ} {v : ν}
theorem nodup_cons {D : List (κ × ν)} (h : Tells D m) (hn : (D.map (·.1)).Nodup) (hk : m k = none) : (((k, v) :: D).map (·.1)).Nodup := by
  rw [List.map_cons, List.nodup_cons]
  refine ⟨fun hm => ?_, hn⟩
  obtain ⟨e, he, hk'⟩ := List.mem_map.1 hm
  have := (h e.1 e.2).1 he
  rw [show e.1 = k from hk', hk] at this; cases this
end
end Go.Vc
end
section
/- RowsOf that a call lengthens by one element after the other, each element holding something in the heap. -/
set_option linter.unusedSimpArgs false
set_option linter.unusedVariables false
namespace Go.Vc
variable {P : Program} {w w' : World} {K : Value → World → Prop} {Kp : KP} {t e : TypeId} {s base : Nat} {l v : Value} {M : Nat → Prop}

def IsSl (w : World) (v : Value) (n : Nat) (xs : List Value) : Prop := ∃ a c, v = .slice a n c ∧ n ≤ c ∧ c ≤ maxLen ∧ Row w a xs ∧ (a = none → n = 0)
theorem IsSl.frame {n : Nat} {xs : List Value} (h : IsSl w v n xs) (hf : Frm M w w') (hM : ∀ b, v.ownBlock = some b → ¬ M b) : IsSl w' v n xs := by
  obtain ⟨a, c, rfl, hc, hm, hr, ha⟩ := h
  exact ⟨a, c, rfl, hc, hm, hr.frame hf fun p hp => hM _ (by subst hp; rfl), ha⟩
theorem IsSl.still {n : Nat} {xs : List Value} (h : IsSl w v n xs) (hf : Frm (fun _ => False) w w') : IsSl w' v n xs := h.frame hf fun _ _ h => h
theorem IsSl.one {n : Nat} {xs : List Value} (h : IsSl w v n xs) : v.oneCell' = true := by obtain ⟨a, c, rfl, _⟩ := h; rfl
theorem IsSl.nil : IsSl w (.slice none 0 0) 0 [] := ⟨none, 0, rfl, Nat.le_refl _, by simp [maxLen], .inl rfl, fun _ => rfl⟩
theorem own_sl {n : Nat} {xs : List Value} (h : w.ownsRow base e s v n xs) : IsSl w v n xs := by
  obtain ⟨h1, ⟨rfl, rfl⟩ | ⟨g, cap, cur, rfl, h3, h4, h5, h6, h7, h8⟩⟩ := id h
  · exact ⟨none, 0, rfl, by omega, by simp [maxLen], .inl (List.eq_nil_of_length_eq_zero (by simpa using h1)), fun _ => rfl⟩
  · obtain ⟨a, c, hv, hc, hr, ha, _⟩ := own_slice h
    cases hv
    exact ⟨_, _, rfl, hc, h6, hr, ha⟩

structure ElOk {α : Type} (El : World → List Value → α → (Nat → Prop) → Prop) : Prop where
  frame : ∀ {w w' : World} {u : List Value} {y : α} {G M : Nat → Prop}, El w u y G → Frm M w w' → (∀ c, G c → ¬ M c) → El w' u y G
  mono : ∀ {w : World} {u : List Value} {y : α} {G G' : Nat → Prop}, El w u y G → (∀ c, G c → G' c) → El w u y G'
structure RowsOf {α : Type} (El : World → List Value → α → (Nat → Prop) → Prop) (w : World) (base : Nat) (e : TypeId) (s : Nat) (l : Value) (ys : List α) (G : Nat → Prop) : Prop where
  row : ∃ us : List (List Value), us.length = ys.length ∧ (∀ u ∈ us, u.length = s) ∧ w.ownsRow base e s l ys.length us.flatten ∧ ∀ (j : Nat) u y, us[j]? = some u → ys[j]? = some y → El w u y G
  low : ∀ c, G c → base ≤ c ∧ c < w.heap.size
  off : ∀ b, l.ownBlock = some b → ¬ G b
variable {α : Type} {El : World → List Value → α → (Nat → Prop) → Prop} {ys : List α} {G G' : Nat → Prop} {y : α}
theorem RowsOf.frame (hE : ElOk El) (h : RowsOf El w base e s l ys G) (hf : Frm M w w') (hG : ∀ c, G c → ¬ M c) (hl : ∀ b, l.ownBlock = some b → ¬ M b) : RowsOf El w' base e s l ys G := by
  obtain ⟨⟨us, h1, h2, h3, h4⟩, h5, h6⟩ := h
  exact ⟨⟨us, h1, h2, own_frame h3 hf hl, fun j u y hu hy => hE.frame (h4 j u y hu hy) hf hG⟩, fun c hc => ⟨(h5 c hc).1, Nat.lt_of_lt_of_le (h5 c hc).2 hf.size⟩, h6⟩
theorem RowsOf.still (hE : ElOk El) (h : RowsOf El w base e s l ys G) (hf : Frm (fun _ => False) w w') : RowsOf El w' base e s l ys G := h.frame hE hf (fun _ _ h => h) fun _ _ h => h
theorem RowsOf.mono (hE : ElOk El) (h : RowsOf El w base e s l ys G) (hG : ∀ c, G c → G' c) (hlow : ∀ c, G' c → base ≤ c ∧ c < w.heap.size) (hoff : ∀ b, l.ownBlock = some b → ¬ G' b) : RowsOf El w base e s l ys G' := by
  obtain ⟨⟨us, h1, h2, h3, h4⟩, h5, h6⟩ := h
  exact ⟨⟨us, h1, h2, h3, fun j u y hu hy => hE.mono (h4 j u y hu hy) hG⟩, hlow, hoff⟩
theorem RowsOf.base_le {base' : Nat} (h : RowsOf El w base e s l ys G) (hb : base' ≤ base) : RowsOf El w base' e s l ys G := by
  obtain ⟨⟨us, h1, h2, h3, h4⟩, h5, h6⟩ := h
  exact ⟨⟨us, h1, h2, own_base h3 hb, h4⟩, fun c hc => ⟨Nat.le_trans hb (h5 c hc).1, (h5 c hc).2⟩, h6⟩
theorem rows_nil : RowsOf El w base e s (.slice none 0 0) [] (fun _ => False) := ⟨⟨[], rfl, by simp, own_nil, fun j u y hu => by simp at hu⟩, fun _ h => h.elim, fun _ _ h => h⟩
theorem RowsOf.own_lt (h : RowsOf El w base e s l ys G) : ∀ b, l.ownBlock = some b → base ≤ b ∧ b < w.heap.size := by
  obtain ⟨⟨us, h1, h2, h3, h4⟩, _⟩ := h
  exact Go.Vc.own_lt h3
theorem RowsOf.one (h : RowsOf El w base e s l ys G) : l.oneCell' = true := by
  obtain ⟨⟨us, h1, h2, h3, h4⟩, _⟩ := h
  obtain ⟨a, c, rfl, _⟩ := own_slice h3; rfl
theorem flatten_get {k : Nat} : ∀ {us : List (List Value)}, (∀ u ∈ us, u.length = k) → ∀ (i r : Nat) (hi : i < us.length), r < k → us.flatten[i * k + r]? = us[i][r]?
  | [], _, i, r, hi, _ => by simp at hi
  | u :: us, h, 0, r, hi, hr => by
    rw [List.flatten_cons, List.getElem?_append_left (by rw [h u List.mem_cons_self]; omega)]; simp
  | u :: us, h, i + 1, r, hi, hr => by
    have hi' : i < us.length := by simpa using hi
    have hu := h u List.mem_cons_self
    rw [List.flatten_cons, List.getElem?_append_right (by rw [hu, Nat.add_mul]; omega), hu, show (i + 1) * k + r - k = i * k + r from by rw [Nat.add_mul]; omega]
    exact flatten_get (fun u hu => h u (List.mem_cons_of_mem _ hu)) i r hi' hr
theorem RowsOf.slice (h : RowsOf El w base e s l ys G) : ∃ a c, l = .slice a ys.length c ∧ ys.length ≤ c ∧ c ≤ maxLen ∧ (a = none → ys.length = 0) := by
  obtain ⟨⟨us, h1, h2, h3, h4⟩, _⟩ := h
  obtain ⟨a, c, h5, h6, h7, h8, h9⟩ := own_sl h3
  exact ⟨a, c, h5, h6, h7, h9⟩
theorem RowsOf.get (h : RowsOf El w base e s l ys G) {j : Nat} (hj : j < ys.length) : ∃ u g c cs, l = .slice (some ⟨g, 0, none⟩) ys.length c ∧ w.heap[g]? = some (.cells cs e (0, 0)) ∧ u.length = s ∧
    (∀ r, r < s → cs[j * s + r]? = u[r]?) ∧ j * s + s ≤ cs.size ∧ cs.extract (j * s) (j * s + s) = u.toArray ∧ El w u ys[j] G := by
  obtain ⟨⟨us, h1, h2, h3, h4⟩, _⟩ := h
  obtain ⟨h5, ⟨_, h6⟩ | ⟨g, cap, cur, rfl, k3, k4, k5, k6, k7, k8⟩⟩ := h3
  · omega
  · have hju : j < us.length := by omega
    have hul := h2 _ (List.getElem_mem hju)
    have hjs : (j + 1) * s ≤ ys.length * s := Nat.mul_le_mul_right _ hj
    rw [Nat.add_mul, Nat.one_mul] at hjs
    have hsz : j * s + s ≤ cur.size := by rw [k7]; exact Nat.le_trans hjs (Nat.mul_le_mul_right _ k5)
    have hg : ∀ r, r < s → cur[j * s + r]? = us[j][r]? := fun r hr => by
      have := flatten_get h2 j r hju hr
      rw [← this, ← k8, List.getElem?_take, if_pos (by omega)]; simp
    refine ⟨us[j], g, cap, cur, rfl, k4, hul, hg, hsz, ?_, h4 j _ _ (by simp [hju]) (by simp [hj])⟩
    apply Array.ext_getElem?
    intro r
    rw [Array.getElem?_extract]
    by_cases hr : r < s
    · rw [if_pos (by omega), hg r hr]; simp
    · rw [if_neg (by omega), Array.getElem?_eq_none (by simp [hul]; omega)]
theorem op_push {bytes : Nat} {uv : Value} {u : List Value} {G2 : Nat → Prop} (hE : ElOk El) (ha : apOf P t = some (e, s, bytes)) (hl : sliceLit P t 1 [(0, uv)] = some (e, u.toArray)) (hu : u.length = s) (hone : ∀ x ∈ u, x.oneCell' = true)
    (hR : RowsOf El w base e s l ys G) (hy : El w u y G2) (hG2 : ∀ c, G2 c → base ≤ c ∧ c < w.heap.size) (hoff : ∀ b, l.ownBlock = some b → ¬ G2 b) (h63 : (ys.length + 1) * (bytes + 1) ≤ 140737488355328) (hbase : base ≤ w.heap.size)
    (hK : ∀ l' w', Frm (fun b => some b = l.ownBlock) w w' → RowsOf El w' base e s l' (ys ++ [y]) (fun c => G c ∨ G2 c) → (l'.ownBlock = l.ownBlock ∨ ∃ b, l'.ownBlock = some b ∧ w.heap.size ≤ b) → K l' w') :
    (nice P).op (.buildSlice t 1 [(0, uv)]) w (fun v w => (nice P).op (.blt .append [t, t] t [l, v]) w K Kp) Kp := by
  obtain ⟨i, z, ht, hi, hz, hsize, hby, hzs, hsz⟩ := apOf_spec ha
  refine op_lit_ok hl fun w1 k1 z1 b1 => ?_
  have hR1 := hR.still hE k1
  obtain ⟨⟨us, h1, h2, h3, h4⟩, h5, h6⟩ := hR1
  have hr : Row w1 (some ⟨w.heap.size, 0, none⟩) u := .inr ⟨_, 0, _, _, _, rfl, b1, fun j v hv => by simpa using hv⟩
  refine op_append (base := base) (n := ys.length) (m := 1) ha h3 hr (by rw [hu]; simp) hone (fun h => nomatch h) h63 (Nat.le_trans hbase k1.size) fun l' w' ho hf hb => ?_
  have hlow := hR.low
  have hGM : ∀ c, G c → ¬ some c = l.ownBlock := fun c hc e => h6 c e.symm hc
  have hGM2 : ∀ c, G2 c → ¬ some c = l.ownBlock := fun c hc e => hoff c e.symm hc
  have hnew : ∀ b, l'.ownBlock = some b → l.ownBlock = some b ∨ w.heap.size ≤ b := fun b hb' => by
    rcases hb with h | h
    · rw [h] at hb'; exact .inl hb'
    · rw [h] at hb'; have := Option.some.inj hb'; have := k1.size; exact .inr (by omega)
  refine hK l' w' (k1.fst hf) ⟨⟨us ++ [u], by simp [h1], fun x hx => ?_, ?_, fun j x y' hx hy' => ?_⟩, fun c hc => ?_, fun b hb' hc => ?_⟩ ?_
  · rcases List.mem_append.1 hx with hx | hx
    · exact h2 x hx
    · rw [List.mem_singleton.1 hx]; exact hu
  · simpa using ho
  · by_cases hj : j < us.length
    · rw [List.getElem?_append_left hj] at hx
      rw [List.getElem?_append_left (by omega)] at hy'
      exact hE.mono (hE.frame (h4 j x y' hx hy') hf hGM) fun c hc => .inl hc
    · have hj' : j = us.length := by
        have := (List.getElem?_eq_some_iff.1 hx).1
        simp at this; omega
      subst hj'
      rw [List.getElem?_append_right (by omega)] at hx
      rw [h1, List.getElem?_append_right (by omega)] at hy'
      simp at hx hy'
      subst hx hy'
      exact hE.mono (hE.frame (hE.frame hy k1 fun _ _ h => h) hf hGM2) fun c hc => .inr hc
  · have := hf.size; have := k1.size
    rcases hc with hc | hc
    · have := hlow c hc; omega
    · have := hG2 c hc; omega
  · rcases hnew b hb' with h | h
    · rcases hc with hc | hc
      · exact hR.off b h hc
      · exact hoff b h hc
    · rcases hc with hc | hc
      · have := hlow b hc; omega
      · have := hG2 b hc; omega
  · rcases hb with h | h
    · exact .inl h
    · exact .inr ⟨_, h, k1.size⟩
def Flat {α : Type} (f : α → List Value) : World → List Value → α → (Nat → Prop) → Prop := fun _ u y _ => u = f y
theorem flat_ok {α : Type} (f : α → List Value) : ElOk (Flat f) := ⟨fun h _ _ => h, fun h _ => h⟩
theorem RowsOf.flat {f : α → List Value} (h : RowsOf (Flat f) w base e s l ys G) : IsSl w l ys.length (ys.flatMap f) := by
  obtain ⟨⟨us, h1, h2, h3, h4⟩, _⟩ := h
  have : us = ys.map f := by
    apply List.ext_getElem?
    intro j
    by_cases hj : j < us.length
    · rw [List.getElem?_eq_getElem hj, List.getElem?_map, List.getElem?_eq_getElem (by omega)]
      have := h4 j us[j] (ys[j]'(by omega)) (List.getElem?_eq_getElem _) (List.getElem?_eq_getElem _)
      rw [this]; rfl
    · rw [List.getElem?_eq_none (by omega), List.getElem?_eq_none (by simp; omega)]
  rw [this] at h3
  have := own_sl h3
  rwa [← List.flatMap_def] at this
end Go.Vc
namespace Go.Vc
variable {P : Program} {w w' : World} {K : Value → World → Prop} {Kp : KP} {t e : TypeId} {s base : Nat} {α : Type} {El : World → List Value → α → (Nat → Prop) → Prop} {y : α}
theorem op_row1 {bytes : Nat} {uv : Value} {u : List Value} {G2 : Nat → Prop} (hE : ElOk El) (ha : apOf P t = some (e, s, bytes)) (hl : sliceLit P t 1 [(0, uv)] = some (e, u.toArray)) (hu : u.length = s)
    (hy : El w u y G2) (hG2 : ∀ c, G2 c → base ≤ c ∧ c < w.heap.size) (hbase : base ≤ w.heap.size)
    (hK : ∀ l' w', Frm (fun _ => False) w w' → RowsOf El w' base e s l' [y] G2 → l'.ownBlock = some w.heap.size → K l' w') :
    (nice P).op (.buildSlice t 1 [(0, uv)]) w K Kp := by
  refine op_lit_ok hl fun w1 k1 z1 b1 => ?_
  have hr : Rw w1 e s w.heap.size 1 u := ⟨_, b1, by simp [hu], by omega, by simp, by simp [maxLen]⟩
  have ho : w1.ownsRow base e s (.slice (some ⟨w.heap.size, 0, none⟩) 1 1) 1 u := by
    obtain ⟨h1, ⟨_, h2⟩ | ⟨g, cap, cur, h2, h3, h4⟩⟩ := hr.own (n := 1) (by rw [hu]; simp) (Nat.le_refl _)
    · omega
    · cases h2
      exact ⟨h1, .inr ⟨_, _, cur, rfl, hbase, h4⟩⟩
  refine hK _ w1 k1 ⟨⟨[u], rfl, by simpa using hu, by simpa using ho, fun j u' y' hu' hy' => ?_⟩, fun c hc => ⟨(hG2 c hc).1, Nat.lt_of_lt_of_le (hG2 c hc).2 k1.size⟩, fun b hb hc => ?_⟩ rfl
  · cases j with
    | zero =>
      simp at hu' hy'
      subst hu' hy'
      exact hE.frame hy k1 fun _ _ h => h
    | succ j => simp at hu'
  · have hb : w.heap.size = b := Option.some.inj hb
    subst hb
    exact Nat.lt_irrefl _ (hG2 _ hc).2
end Go.Vc
namespace Go.Vc
variable {P : Program} {w w' : World} {K : Value → World → Prop} {Kp : KP} {t e : TypeId} {s base : Nat} {α : Type} {f : α → List Value} {ys zs : List α} {l v2 : Value}
end Go.Vc
namespace Go.Vc
variable {P : Program} {w w' : World} {K : Value → World → Prop} {Kp : KP} {t e : TypeId} {s base : Nat} {α : Type} {f : α → List Value} {ys zs : List α} {l v2 : Value} {M : Nat → Prop} {y : α}
abbrev FRow (f : α → List Value) (w : World) (base : Nat) (e : TypeId) (s : Nat) (l : Value) (ys : List α) : Prop := RowsOf (Flat f) w base e s l ys (fun _ => False)
theorem frow_frame (h : FRow f w base e s l ys) (hf : Frm M w w') (hl : ∀ b, l.ownBlock = some b → ¬ M b) : FRow f w' base e s l ys := h.frame (flat_ok f) hf (fun _ h => h.elim) hl
theorem frow_still (h : FRow f w base e s l ys) (hf : Frm (fun _ => False) w w') : FRow f w' base e s l ys := frow_frame h hf fun _ _ h => h
theorem op_pushF {bytes : Nat} {uv : Value} (ha : apOf P t = some (e, s, bytes)) (hl : sliceLit P t 1 [(0, uv)] = some (e, (f y).toArray)) (hf : ∀ x, (f x).length = s) (hone : ∀ x, ∀ u ∈ f x, u.oneCell' = true)
    (hR : FRow f w base e s l ys) (h63 : (ys.length + 1) * (bytes + 1) ≤ 140737488355328) (hbase : base ≤ w.heap.size)
    (hK : ∀ l' w', Frm (fun b => some b = l.ownBlock) w w' → FRow f w' base e s l' (ys ++ [y]) → (l'.ownBlock = l.ownBlock ∨ ∃ b, l'.ownBlock = some b ∧ w.heap.size ≤ b) → K l' w') :
    (nice P).op (.buildSlice t 1 [(0, uv)]) w (fun v w => (nice P).op (.blt .append [t, t] t [l, v]) w K Kp) Kp :=
  op_push (flat_ok f) ha hl (hf y) (hone y) hR rfl (G2 := fun _ => False) (fun _ h => h.elim) (fun _ _ h => h) h63 hbase fun l' w' k' hR' ho => hK l' w' k' (hR'.mono (flat_ok f) (fun _ h => h.elim id id) (fun _ h => h.elim) fun _ _ h => h) ho
end Go.Vc
namespace Go.Vc
theorem Row.old {w w' : World} {M : Nat → Prop} {a : Option Addr} {vs : List Value} (h : Row w a vs) (hf : Frm M w w') (hM : ∀ b, M b → w.heap.size ≤ b) : Row w' a vs := by
  rcases h with h | ⟨b, o, cs, e, fz, h1, h2, h3⟩
  · exact .inl h
  · exact .inr ⟨b, o, cs, e, fz, h1, hf.get h2 fun hb => by have := hM b hb; have := lt_of_get h2; omega, h3⟩
end Go.Vc
end
section
/- Whole numbers and texts as keys of Go's maps; plain facts of rows of pairs. -/
set_option linter.unusedSimpArgs false
set_option linter.unusedVariables false
set_option linter.unusedSectionVars false
namespace Go.Vc
variable {P : Program}
def keyInt {t : TypeId} {k : IntKind} (h : P.underlying t = some (.int k)) : KeyEnc P t Int where
  enc := .int k
  desc := .int k
  und := h
  same a b := by
    simp only [Instr.sameNow, if_true]
    by_cases e : a = b <;> simp [e]
  bits a := by simp [Instr.sameBits]
  chk w e a := by rw [Instr.checkKey]; simp [run_und h]
theorem beq_bytes (a b : ByteArray) : (a == b) = decide (a = b) := by
  rw [beq_toListBytes]
  by_cases e : a = b
  · subst e; simp
  · rw [decide_eq_false e]
    exact beq_eq_false_iff_ne.2 fun h => e (toList_inj.1 h)
def keyStr {t : TypeId} (h : P.underlying t = some .string) : KeyEnc P t ByteArray where
  enc := .string
  desc := .string
  und := h
  same a b := by simp only [Instr.sameNow, beq_bytes]
  bits a := by simp [Instr.sameBits, beq_bytes]
  chk w e a := by rw [Instr.checkKey]; simp [run_und h]
section
variable {κ ν : Type} [DecidableEq κ]
theorem mem_erase_nd {L : List (κ × ν)} (hn : (L.map (·.1)).Nodup) {i : Nat} (hi : i < L.length) {e : κ × ν} : e ∈ L.eraseIdx i ↔ e ∈ L ∧ e.1 ≠ L[i].1 := by
  rw [List.mem_eraseIdx_iff_getElem]
  constructor
  · rintro ⟨j, hj, hne, rfl⟩
    refine ⟨List.getElem_mem hj, fun hk => hne ?_⟩
    have := List.pairwise_iff_getElem.1 hn
    rcases Nat.lt_trichotomy i j with h | h | h
    · exact (this i j (by simpa using hi) (by simpa using hj) h (by simp [hk])).elim
    · exact h.symm
    · exact (this j i (by simpa using hj) (by simpa using hi) h (by simp [hk])).elim
  · rintro ⟨h, h3⟩
    obtain ⟨j, hj, hje⟩ := List.mem_iff_getElem.1 h
    exact ⟨j, hj, fun e => h3 (by subst e; rw [← hje]), hje⟩
theorem one_of_key {D : List (κ × ν)} (hn : (D.map (·.1)).Nodup) {e e' : κ × ν} (h : e ∈ D) (h' : e' ∈ D) (hk : e.1 = e'.1) : e = e' := by
  obtain ⟨i, hi, rfl⟩ := List.mem_iff_getElem.1 h
  obtain ⟨j, hj, rfl⟩ := List.mem_iff_getElem.1 h'
  have := List.pairwise_iff_getElem.1 hn
  rcases Nat.lt_trichotomy i j with h | h | h
  · exact (this i j (by simpa using hi) (by simpa using hj) h (by simp [hk])).elim
  · subst h; rfl
  · exact (this j i (by simpa using hj) (by simpa using hi) h (by simp [hk])).elim
theorem HasMap.nodup {w : World} {ek : κ → Value} {ev : ν → Value} {b : Nat} {D : List (κ × ν)} (h : HasMap w ek ev b D) : (D.map (·.1)).Nodup := by
  obtain ⟨es, c, h⟩ := h; exact h.nodup
structure Copied (D L D2 : List (κ × ν)) : Prop where
  nd : (L.map (·.1)).Nodup
  sub : ∀ e ∈ L, e ∈ D
  done : ∀ e, e ∈ D2 ↔ e ∈ D ∧ e ∉ L
theorem Copied.start {D : List (κ × ν)} (hn : (D.map (·.1)).Nodup) : Copied D D [] := ⟨hn, fun _ h => h, fun e => by simp⟩
theorem Copied.next {D L D2 : List (κ × ν)} (hn : (D.map (·.1)).Nodup) (hn2 : (D2.map (·.1)).Nodup) (h : Copied D L D2) {i : Nat} (hi : i < L.length) : Copied D (L.eraseIdx i) (Nd.upd D2 L[i].1 L[i].2) := by
  refine ⟨h.nd.sublist ((List.eraseIdx_sublist L i).map _), fun e he => h.sub e ((mem_erase_nd h.nd hi).1 he).1, fun e => ?_⟩
  rw [Nd.mem_upd hn2, mem_erase_nd h.nd hi, h.done e]
  have hmem := h.sub _ (List.getElem_mem hi)
  constructor
  · rintro (rfl | ⟨h1, h2, h3⟩)
    · exact ⟨hmem, fun h => h.2 rfl⟩
    · exact ⟨h2, fun h => h3 h.1⟩
  · rintro ⟨h1, h2⟩
    by_cases hk : e.1 = L[i].1
    · exact .inl (one_of_key hn h1 hmem hk)
    · exact .inr ⟨hk, h1, fun hL => h2 ⟨hL, hk⟩⟩
theorem Copied.tells {D D2 : List (κ × ν)} {m : κ → Option ν} (h : Copied D [] D2) (hm : Tells D m) : Tells D2 m := fun k v => by
  rw [h.done]; simp [hm k v]
end
end Go.Vc
end
section
/- A loop that hands a slice's elements on into a row of another type. -/
set_option linter.unusedSimpArgs false
set_option linter.unusedVariables false
namespace Go.Vc
variable {P : Program} {w w' : World} {K : Value → World → Prop} {Kp : KP} {e : TypeId} {k : Nat}
theorem wrap_small64 {n : Int} (h0 : 0 ≤ n) (h1 : n < 9223372036854775808) : IntKind.i64.wrap n = n := by rw [IntKind.wrap_i64]; omega
end Go.Vc
namespace Go.Vc
section
variable {P : Program} {w : World} {K : Value → World → Prop} {K1 : Value → Prop} {Kp : KP} {a b c d e : Value}
@[simp] theorem pur_ext4_0 : (nice P).pur (.extract (.tuple #[a, b, c, d]) 0) K1 = K1 a := pur_ext rfl
@[simp] theorem pur_ext4_1 : (nice P).pur (.extract (.tuple #[a, b, c, d]) 1) K1 = K1 b := pur_ext rfl
@[simp] theorem pur_ext4_2 : (nice P).pur (.extract (.tuple #[a, b, c, d]) 2) K1 = K1 c := pur_ext rfl
@[simp] theorem pur_ext4_3 : (nice P).pur (.extract (.tuple #[a, b, c, d]) 3) K1 = K1 d := pur_ext rfl
@[simp] theorem pur_ext5_0 : (nice P).pur (.extract (.tuple #[a, b, c, d, e]) 0) K1 = K1 a := pur_ext rfl
@[simp] theorem pur_ext5_1 : (nice P).pur (.extract (.tuple #[a, b, c, d, e]) 1) K1 = K1 b := pur_ext rfl
@[simp] theorem pur_ext5_2 : (nice P).pur (.extract (.tuple #[a, b, c, d, e]) 2) K1 = K1 c := pur_ext rfl
@[simp] theorem pur_ext5_3 : (nice P).pur (.extract (.tuple #[a, b, c, d, e]) 3) K1 = K1 d := pur_ext rfl
@[simp] theorem pur_ext5_4 : (nice P).pur (.extract (.tuple #[a, b, c, d, e]) 4) K1 = K1 e := pur_ext rfl
@[simp] theorem op_ext4_0 : (nice P).op (.extract (.tuple #[a, b, c, d]) 0) w K Kp = K a w := op_ext rfl
@[simp] theorem op_ext4_1 : (nice P).op (.extract (.tuple #[a, b, c, d]) 1) w K Kp = K b w := op_ext rfl
@[simp] theorem op_ext4_2 : (nice P).op (.extract (.tuple #[a, b, c, d]) 2) w K Kp = K c w := op_ext rfl
@[simp] theorem op_ext4_3 : (nice P).op (.extract (.tuple #[a, b, c, d]) 3) w K Kp = K d w := op_ext rfl
@[simp] theorem op_ext5_0 : (nice P).op (.extract (.tuple #[a, b, c, d, e]) 0) w K Kp = K a w := op_ext rfl
@[simp] theorem op_ext5_1 : (nice P).op (.extract (.tuple #[a, b, c, d, e]) 1) w K Kp = K b w := op_ext rfl
@[simp] theorem op_ext5_2 : (nice P).op (.extract (.tuple #[a, b, c, d, e]) 2) w K Kp = K c w := op_ext rfl
@[simp] theorem op_ext5_3 : (nice P).op (.extract (.tuple #[a, b, c, d, e]) 3) w K Kp = K d w := op_ext rfl
@[simp] theorem op_ext5_4 : (nice P).op (.extract (.tuple #[a, b, c, d, e]) 4) w K Kp = K e w := op_ext rfl
end
end Go.Vc
end
section
/- Steps over maps of texts; the reference's versions. -/
set_option maxRecDepth 100000
set_option maxHeartbeats 2000000
set_option linter.unusedSimpArgs false
set_option linter.unusedVariables false
set_option linter.unusedSectionVars false
namespace Go.Proofs.Ytbghmbbhkoniiaa.T
open Go.Vc Go.Proofs Go.Proofs.Ytbghmbbhkoniiaa Go.Vc.Nd
variable {w w' : World} {v hv : Value} {t : Tr} {F F' G : Nat → Prop} {K : Value → World → Prop} {Kp : KP} {hash : Ky → Nat} {k : Ky} {x : Vl} {l s rb : Nat} {r0 mu nl : Bool}
structure TStep where
  del : Bool
  fro : Int
  key : ByteArray
  value : Int
def TStep.cells (s : TStep) : List Value := [.bool s.del, .int .i64 s.fro, .string s.key, .int .i64 s.value]
theorem tcells_len (s : TStep) : s.cells.length = 4 := rfl
theorem tcells_one (s : TStep) : ∀ u ∈ s.cells, u.oneCell' = true := fun u hu => by
  simp only [TStep.cells, List.mem_cons, List.not_mem_nil, or_false] at hu
  rcases hu with rfl | rfl | rfl | rfl <;> rfl
def TStep.kk (s : TStep) : Ky := if h : s.key.size ≤ 1000 then ⟨s.key, h⟩ else ⟨⟨#[]⟩, by decide⟩
theorem TStep.k_eq {s : TStep} (h : s.key.size ≤ 1000) : s.kk.1 = s.key := by simp [TStep.kk, h]
def TStep.ref (s : TStep) : Nat := s.fro.toNat
def trieT (hash : Ky → Nat) (t : Tr) (s : TStep) : Tr := if s.del then delT hash t s.kk else Nd.set hash t s.kk s.value
def funT (m : Ky → Option Int) (s : TStep) : Ky → Option Int := if s.del then mdel m s.kk else mset m s.kk s.value
theorem is_stepT (hh : ∀ k, hash k < 2 ^ 32) {m : Ky → Option Int} (h : Is hash t m) (s : TStep) : Is hash (trieT hash t s) (funT m s) := by
  unfold trieT funT
  split
  · exact is_del h
  · exact is_set hh h
def versTT (hash : Ky → Nat) (steps : List TStep) : List Tr := vers (trieT hash) TStep.ref .emp steps
def versTM (steps : List TStep) : List (Ky → Option Int) := vers funT TStep.ref (fun _ => none) steps
theorem is_versT (hh : ∀ k, hash k < 2 ^ 32) (steps : List TStep) (j : Nat) {m : Ky → Option Int} (ht : (versTT hash steps)[j]? = some t) (hm : (versTM steps)[j]? = some m) : Is hash t m :=
  vers_rel (R := fun t m => Is hash t m) is_emp (fun a b s h => is_stepT hh h s) steps j t m ht hm
theorem size_versT (hh : ∀ k, hash k < 2 ^ 32) (steps : List TStep) : ∀ (j : Nat) t, (versTT hash steps)[j]? = some t → WFr hash t ∧ (toL t).length ≤ steps.length := by
  refine snoc_ind (P := fun steps => ∀ (j : Nat) t, (versTT hash steps)[j]? = some t → WFr hash t ∧ (toL t).length ≤ steps.length) ?_ (fun l s ih => ?_) steps
  · intro j a ha
    cases j with
    | zero => simp [versTT, vers] at ha; subst ha; exact ⟨trivial, by simp [toL]⟩
    | succ j => simp [versTT, vers] at ha
  · intro j a ha
    rw [versTT, vers_snoc] at ha
    have hl1 := vers_len (f := trieT hash) (fro := TStep.ref) (a0 := Nd.emp) l
    rw [List.length_append]
    by_cases hj : j < l.length + 1
    · rw [List.getElem?_append_left (by omega)] at ha
      have := ih j a ha
      exact ⟨this.1, by omega⟩
    · have hj' : j = l.length + 1 := by
        have := (List.getElem?_eq_some_iff.1 ha).1
        simp [hl1] at this; omega
      subst hj'
      rw [List.getElem?_append_right (by omega), hl1] at ha
      simp at ha
      subst ha
      have h0 : WFr hash ((versTT hash l)[s.ref]?.getD .emp) ∧ (toL ((versTT hash l)[s.ref]?.getD .emp)).length ≤ l.length := by
        cases hx : (versTT hash l)[s.ref]? with
        | none => exact ⟨trivial, by simp [toL]⟩
        | some x => exact ih _ _ hx
      show WFr hash (trieT hash ((versTT hash l)[s.ref]?.getD .emp) s) ∧ (toL (trieT hash ((versTT hash l)[s.ref]?.getD .emp) s)).length ≤ l.length + 1
      generalize (versTT hash l)[s.ref]?.getD Nd.emp = a at h0 ⊢
      obtain ⟨ha, hb⟩ := h0
      unfold trieT
      split
      · refine ⟨(delT_spec ha).1, ?_⟩
        have := delT_len (k := s.kk) ha
        omega
      · refine ⟨(set_spec hh ha).1, ?_⟩
        have h1 := set_len (k := s.kk) (v := s.value) hh ha
        rw [h1]
        split <;> omega
structure TFit (steps : List TStep) : Prop where
  ok : ∀ i (h : i < steps.length), 0 ≤ steps[i].fro ∧ steps[i].fro ≤ i ∧ steps[i].key.size ≤ 1000
  most : steps.length ≤ 60
def kT : KeyEnc Try.prog 9 Ky where
  enc k := .string k.1
  desc := .string
  und := Try.underlying9
  same a b := by
    have := (keyStr (P := Try.prog) Try.underlying9).same a.1 b.1
    rw [decide_eq_decide.2 (Subtype.ext_iff (a1 := a) (a2 := b))]
    exact this
  bits a := (keyStr (P := Try.prog) Try.underlying9).bits a.1
  chk w e a := (keyStr (P := Try.prog) Try.underlying9).chk w e a.1
def ElM : World → List Value → (Ky → Option Int) → (Nat → Prop) → Prop := fun w u m G => ∃ b D, u = [.map (some b)] ∧ HasMap w kT.enc ev b D ∧ Tells D m ∧ G b
theorem elM_ok : ElOk ElM :=
  ⟨fun ⟨b, D, hu, h, ht, hG⟩ hf hM => ⟨b, D, hu, h.frame hf (hM b hG), ht, hG⟩, fun ⟨b, D, hu, h, ht, hG⟩ hG' => ⟨b, D, hu, h, ht, hG' b hG⟩⟩
theorem apMap : apOf Try.prog 55 = some (68, 1, 8) := by kernel_rfl
theorem textVersions_ok {a0 : Option Addr} {c0 : Nat} {steps : List TStep} (h0 : Row w a0 (steps.flatMap TStep.cells)) (hn : steps.length < 2 ^ 31)
    (hK0 : ∀ w', Frm (fun _ => False) w w' → K (.tuple #[.slice none 0 0, .bool false]) w')
    (hK : TFit steps → ∀ l w' G, Frm (fun _ => False) w w' → RowsOf ElM w' w.heap.size 68 1 l (versTM steps) G → K (.tuple #[l, .bool true]) w') : Calls Try.prog 21 #[.slice a0 steps.length c0] w (ret K Kp) := by
  have hE := elM_ok
  refine vc21_calls ?_
  simp only [vc21]
  refine op_mkMap ?_
  have k1 : Frm (fun _ => False) w (w.alloc (.map #[] 0)) := Frm.alloc _ _
  have hm1 : HasMap (w.alloc (.map #[] 0)) kT.enc ev w.heap.size ([] : List (Ky × Int)) := hasMap_new w _ _
  generalize hw1 : w.alloc (.map #[] 0) = w1 at *
  have n1 := k1.size
  have hmlt := hm1.lt
  refine op_row1 (base := w.heap.size) (u := [.map (some w.heap.size)]) (y := fun _ => none) (G2 := (· = w.heap.size)) hE apMap (lit_55_1 rfl) rfl ⟨_, _, rfl, hm1, tells_nil, rfl⟩ (fun c hc => by omega) n1 fun l2 w2 k2 hR2 ho2 => ?_
  obtain ⟨a2, c2, hl2, _⟩ := hR2.slice
  try simp [-getElem?_pos, -Array.getElem?_eq_getElem, -Int.natCast_add, add_spot, and_assoc, Br_dec, -op_box, -op_alloc_60, -op_st_60, -op_lit_55_1]
  obtain ⟨I, hI⟩ : ∃ I : Value → Value → World → Prop, ∀ l v wl, I l v wl ↔ ∃ (i : Nat) (G : Nat → Prop), v = .int .i64 i ∧ i ≤ steps.length ∧ (0 < i → steps.length ≤ 60) ∧ (∀ j (h : j < steps.length), j < i → 0 ≤ steps[j].fro ∧ steps[j].fro ≤ j ∧ steps[j].key.size ≤ 1000) ∧ Frm (fun _ => False) w wl ∧ RowsOf ElM wl w.heap.size 68 1 l (versTM (steps.take i)) G := ⟨_, fun _ _ _ => Iff.rfl⟩
  refine Lp.intro I (fun _ v _ => steps.length - natOf v) ⟨(hI _ _ _).2 ⟨0, _, rfl, by omega, by omega, fun j h hj => by omega, k1.no k2, hR2⟩, ?_⟩
  intro wl l v hl
  obtain ⟨i, G, rfl, hi, h60, hok, kl, hR⟩ := (hI _ _ _).1 hl
  simp only [op_lss, Br_dec]
  refine ⟨fun hlt' => ?_, fun hnl' => ?_⟩
  rotate_left
  · have : i = steps.length := by omega
    subst this
    rw [List.take_length] at hR
    exact hK ⟨fun j hj => hok j hj hj, by by_cases h : 0 < steps.length; exact h60 h; omega⟩ l wl G kl hR
  have hi' : i < steps.length := by omega
  have htk : steps.take (i + 1) = steps.take i ++ [steps[i]] := List.take_succ_eq_append_getElem hi'
  obtain ⟨bp, o, cs, e, fz, rfl, hcs, hsz, hext⟩ := (h0.frame kl (fun _ _ h => h)).part tcells_len (by decide) hi'
  generalize hst : steps[i] = s at *
  have hlow := hR.own_lt
  have nl := kl.size
  simp [-getElem?_pos, -Array.getElem?_eq_getElem, -Int.natCast_add, add_spot, and_assoc, Br_dec, -op_box, -op_alloc_60, -op_st_60, -op_lit_55_1, hcs, hsz, hext]
  refine ⟨hi', ?_⟩
  refine op_alloc_ok (z := .agg #[.bool false, .int .i64 0, .string ⟨#[]⟩, .int .i64 0]) (by kernel_rfl) fun w5 k5 z5 b5 => ?_
  simp only [cells_agg] at b5
  refine op_storeN_ok (n := 4) (by kernel_rfl) b5 rfl (by decide) (by simp [TStep.cells]) fun w6 k6 z6 b6 => ?_
  have b6 : w6.heap[wl.heap.size]? = some (.cells #[.bool s.del, .int .i64 s.fro, .string s.key, .int .i64 s.value] 60 (0, 0)) := by
    rw [ow_all (by simp [TStep.cells])] at b6; simpa [TStep.cells] using b6
  have n5 := k5.size
  have k56 : Frm (fun _ => False) wl w6 := k5.old k6 fun c hc => .inr (by omega)
  have n6 := k56.size
  have hno : K (.tuple #[.slice none 0 0, .bool false]) w6 := hK0 w6 (kl.no k56)
  simp [-getElem?_pos, -Array.getElem?_eq_getElem, -Int.natCast_add, add_spot, and_assoc, Br_dec, -op_box, -op_alloc_60, -op_st_60, -op_lit_55_1, b6]
  refine ⟨fun _ => hno, fun h1 => ⟨fun _ => hno, fun h2 => ⟨fun _ => hno, fun h3 => ⟨fun _ => hno, fun h4 => ?_⟩⟩⟩⟩
  have hkk : Value.string s.key = kT.enc s.kk := by show _ = Value.string s.kk.1; rw [TStep.k_eq (by omega)]
  rw [hkk] at b6
  refine op_mkMap ?_
  have k7 : Frm (fun _ => False) w6 (w6.alloc (.map #[] 0)) := Frm.alloc _ _
  have hm7 : HasMap (w6.alloc (.map #[] 0)) kT.enc ev w6.heap.size ([] : List (Ky × Int)) := hasMap_new w6 _ _
  have z7 : (w6.alloc (.map #[] 0)).heap.size = w6.heap.size + 1 := by simp
  generalize hw7 : w6.alloc (.map #[] 0) = w7 at *
  have b7 := k7.get b6 fun h => h
  have k07 := k56.no k7
  have hR7 := hR.still hE k07
  have hlv : (versTM (steps.take i)).length = i + 1 := by rw [versTM, vers_len, List.length_take]; omega
  obtain ⟨q, hq⟩ : ∃ q : Nat, s.fro = q := ⟨s.fro.toNat, by omega⟩
  have hq1 : q < (versTM (steps.take i)).length := by omega
  obtain ⟨u, g, c, cur, hlg, hg1, hg2, hg3, hg4, hg5, bv, D, hub, hV, htD, hGb⟩ := hR7.get hq1
  subst hlg hub
  have hg0 : cur[q]? = some (.map (some bv)) := by have := hg3 0 (by decide); simpa using this
  generalize ht : (versTM (steps.take i))[q] = m0 at htD
  have hnext : versTM (steps.take (i + 1)) = versTM (steps.take i) ++ [funT m0 s] := by
    have e1 : (vers funT TStep.ref (fun _ => none) (steps.take i))[s.ref]? = some m0 := by
      have : s.ref = q := by simp [TStep.ref, hq]
      rw [this, ← ht]; exact List.getElem?_eq_getElem hq1
    rw [htk, versTM, vers_snoc, e1]; rfl
  have hlbv := hV.lt
  have hbase := (hR.low bv hGb)
  have hpush : ∀ (wz : World) (D' : List (Ky × Int)), Frm (fun _ => False) wl wz → w7.heap.size ≤ wz.heap.size → HasMap wz kT.enc ev w6.heap.size D' → Tells D' (funT m0 s) →
      (nice Try.prog).op (.buildSlice 55 1 [(0, .map (some w6.heap.size))]) wz (fun v65 w => (nice Try.prog).op (.blt .append [55, 55] 55 [.slice (some ⟨g, 0, none⟩) (versTM (steps.take i)).length c, v65]) w (fun v66 w => I v66 (.int .i64 (IntKind.i64.wrap ((i : Int) + 1))) w ∧ steps.length - natOf (.int .i64 (IntKind.i64.wrap ((i : Int) + 1))) < steps.length - natOf (.int .i64 (i : Int))) Kp) Kp := by
    intro wz D' kz nz hmz htz
    have hml := hmz.lt
    refine op_push (u := [.map (some w6.heap.size)]) (G2 := (· = w6.heap.size)) hE apMap (lit_55_1 rfl) rfl (fun x hx => by rw [List.mem_singleton.1 hx]; rfl) (hR.still hE kz) ⟨_, D', rfl, hmz, htz, rfl⟩ (fun c hc => by omega) (fun b hb hc => by have := hlow b hb; omega) (by omega) (by have := kz.size; omega) fun l10 w10 k10 hR10 ho10 => ?_
    rw [wrap_i64_small (by omega) (by omega)]
    refine ⟨(hI _ _ _).2 ⟨i + 1, _, by simp, by omega, fun _ => by omega, fun j hj hji => ?_, (kl.no kz).old k10 fun c hc => .inr (hlow c hc.symm).1, by rw [hnext]; exact hR10⟩, ?_⟩
    · by_cases hji' : j < i
      · exact hok j hj hji'
      · have : j = i := by omega
        subst this
        rw [hst]
        exact ⟨by omega, by omega, by omega⟩
    · simp only [natOf]; omega
  simp [-getElem?_pos, -Array.getElem?_eq_getElem, -Int.natCast_add, add_spot, and_assoc, Br_dec, -op_box, -op_alloc_60, -op_st_60, -op_lit_55_1, b7, hg1, hg0]
  have hqn : s.fro.toNat = q := by omega
  refine ⟨by omega, by omega, _, by rw [hqn]; exact hg0, ?_⟩
  refine op_range Try.underlying68 hV fun w8 k8 z8 hr8 => ?_
  have k8 := k8 (M := fun _ => False)
  have hnd := hV.nodup
  obtain ⟨I3, hI3⟩ : ∃ I : World → Prop, ∀ wz, I wz ↔ ∃ (L D2 : List (Ky × Int)), Frm (fun _ => False) wl wz ∧ w8.heap.size ≤ wz.heap.size ∧ Ranging wz kT.enc ev bv D w7.heap.size L ∧ HasMap wz kT.enc ev w6.heap.size D2 ∧ Copied D L D2 ∧
      wz.heap[wl.heap.size]? = some (.cells #[.bool s.del, .int .i64 s.fro, kT.enc s.kk, .int .i64 s.value] 60 (0, 0)) := ⟨_, fun _ => Iff.rfl⟩
  obtain ⟨μ, hμ⟩ : ∃ μ : World → Nat, ∀ wz L, Ranging wz kT.enc ev bv D w7.heap.size L → μ wz = L.length := by
    refine ⟨fun wz => match wz.heap[w7.heap.size]? with
      | some (.mapIter (some m) since seen c0) => match wz.heap[m]? with
        | some (.map es clock) => (leftOf es seen).size
        | _ => 0
      | _ => 0, fun wz L hr => ?_⟩
    obtain ⟨es, clock, since, seen, c0, h1, h2, h3, h4, h5, h6⟩ := hr
    have := congrArg List.length h6
    simp only [h2, h1.heap]
    simpa using this
  refine Lp.intro I3 μ ⟨(hI3 _).2 ⟨D, [], k07.no k8, Nat.le_refl _, hr8, hm7.frame k8 fun h => h, Copied.start hnd, k8.get b7 fun h => h⟩, ?_⟩
  intro wz hz
  obtain ⟨L, D2, kz, nz, hr, hm, hcp, bz⟩ := (hI3 _).1 hz
  have hrne := hr.ne
  have hrlt := hr.lt
  refine op_next hr (fun hL => ?_) fun i2 hi2 w4 k4 z4 hr4 ht4 => ?_
  · subst hL
    have htl := hcp.tells htD
    simp [-getElem?_pos, -Array.getElem?_eq_getElem, -Int.natCast_add, add_spot, and_assoc, Br_dec, -op_box, -op_alloc_60, -op_st_60, -op_lit_55_1, bz]
    cases hd : s.del with
    | true =>
      try simp [-getElem?_pos, -Array.getElem?_eq_getElem, -Int.natCast_add, add_spot, and_assoc, Br_dec, -op_box, -op_alloc_60, -op_st_60, -op_lit_55_1, bz, hd]
      refine op_delete (E := kT) (ev := ev) (k := s.kk) Try.underlying68 hm fun w5' k5' z5' hm5' => ?_
      refine hpush w5' _ (kz.old k5' fun c hc => .inr (by omega)) (by omega) hm5' ?_
      simp only [funT, hd, if_true]
      exact tells_wipe hm.nodup htl
    | false =>
      try simp [-getElem?_pos, -Array.getElem?_eq_getElem, -Int.natCast_add, add_spot, and_assoc, Br_dec, -op_box, -op_alloc_60, -op_st_60, -op_lit_55_1, bz, hd]
      refine op_update (E := kT) (ev := ev) (k := s.kk) (v := s.value) Try.underlying68 hm fun w5' k5' z5' hm5' => ?_
      refine hpush w5' _ (kz.old k5' fun c hc => .inr (by omega)) (by omega) hm5' ?_
      simp only [funT, hd, Bool.false_eq_true, if_false]
      exact tells_upd hm.nodup htl
  · try simp [-getElem?_pos, -Array.getElem?_eq_getElem, -Int.natCast_add, add_spot, and_assoc, Br_dec, -op_box, -op_alloc_60, -op_st_60, -op_lit_55_1]
    refine op_entry ht4 ?_
    try simp [-getElem?_pos, -Array.getElem?_eq_getElem, -Int.natCast_add, add_spot, and_assoc, Br_dec, -op_box, -op_alloc_60, -op_st_60, -op_lit_55_1]
    have hm4 := hm.frame k4 (by omega)
    refine op_update (E := kT) (ev := ev) (k := L[i2].1) (v := L[i2].2) Try.underlying68 hm4 fun w5' k5' z5' hm5' => ?_
    have hr5 := hr4.frame k5' (by omega) (by omega)
    refine ⟨(hI3 _).2 ⟨_, _, (kz.old k4 fun c hc => .inr (by omega)).old k5' fun c hc => .inr (by omega), by omega, hr5, hm5', hcp.next hnd hm.nodup hi2, k5'.get (k4.get bz (by omega)) (by omega)⟩, ?_⟩
    rw [hμ _ _ hr5, hμ _ _ hr, List.length_eraseIdx_of_lt hi2]; omega
end Go.Proofs.Ytbghmbbhkoniiaa.T
end
section
/- append of a slice to a row of one's own; where the outcome lies. -/
set_option linter.unusedSimpArgs false
set_option linter.unusedVariables false
namespace Go.Vc
variable {P : Program} {w w' : World} {K : Value → World → Prop} {Kp : KP} {t e : TypeId} {s base : Nat} {α : Type} {f : α → List Value} {ys zs : List α} {l v2 : Value}
theorem op_concatF {bytes : Nat} (ha : apOf P t = some (e, s, bytes)) (hf : ∀ x, (f x).length = s) (hone : ∀ x, ∀ u ∈ f x, u.oneCell' = true) (hR : FRow f w base e s l ys) (h2 : IsSl w v2 zs.length (zs.flatMap f))
    (h63 : (ys.length + zs.length) * (bytes + 1) ≤ 140737488355328) (hbase : base ≤ w.heap.size)
    (hK : ∀ l' w', Frm (fun b => some b = l.ownBlock) w w' → FRow f w' base e s l' (ys ++ zs) → (l'.ownBlock = l.ownBlock ∨ ∃ b, l'.ownBlock = some b ∧ w.heap.size ≤ b) → K l' w') : (nice P).op (.blt .append [t, t] t [l, v2]) w K Kp := by
  obtain ⟨⟨us, h1, h3, h4, h5⟩, h6, h7⟩ := hR
  obtain ⟨a, c, rfl, hc, hm, hr, hn⟩ := h2
  refine op_append (base := base) (n := ys.length) (m := zs.length) ha h4 hr (flatMap_len hf zs) (fun u hu => by obtain ⟨x, _, hx⟩ := List.mem_flatMap.1 hu; exact hone x u hx) hn h63 hbase fun l' w' ho hfr hb => ?_
  have hus : us = ys.map f := by
    apply List.ext_getElem?
    intro j
    by_cases hj : j < us.length
    · rw [List.getElem?_eq_getElem hj, List.getElem?_map, List.getElem?_eq_getElem (by omega)]
      have := h5 j us[j] (ys[j]'(by omega)) (List.getElem?_eq_getElem _) (List.getElem?_eq_getElem _)
      rw [this]; rfl
    · rw [List.getElem?_eq_none (by omega), List.getElem?_eq_none (by simp; omega)]
  refine hK l' w' hfr ⟨⟨(ys ++ zs).map f, by simp, fun u hu => by obtain ⟨x, _, rfl⟩ := List.mem_map.1 hu; exact hf x, ?_, fun j u y hu hy => ?_⟩, fun _ h => h.elim, fun _ _ h => h⟩ ?_
  · rw [List.length_append]
    rw [hus] at ho
    have e1 : ((ys ++ zs).map f).flatten = (ys.map f).flatten ++ zs.flatMap f := by simp [List.flatMap_def]
    rw [e1]; exact ho
  · rw [List.getElem?_map, hy] at hu
    exact (Option.some.inj hu).symm
  · rcases hb with h | h
    · exact .inl h
    · exact .inr ⟨_, h, Nat.le_refl _⟩
theorem lit_sl {b : Nat} {y : α} (hb : w.heap[b]? = some (.cells (f y).toArray e (0, 0))) : IsSl w (.slice (some ⟨b, 0, none⟩) 1 1) [y].length ([y].flatMap f) :=
  ⟨_, _, rfl, Nat.le_refl _, by simp [maxLen], .inr ⟨_, 0, _, _, _, rfl, hb, fun j v hj => by simpa using hj⟩, fun h => nomatch h⟩
end Go.Vc
end
section
/- TextRun. -/
set_option maxRecDepth 100000
set_option maxHeartbeats 4000000
set_option linter.unusedSimpArgs false
set_option linter.unusedVariables false
set_option linter.unusedSectionVars false
namespace Go.Proofs.Ytbghmbbhkoniiaa.T
open Go.Vc Go.Proofs Go.Proofs.Ytbghmbbhkoniiaa Go.Vc.Nd
variable {w w' : World} {v hv : Value} {t : Tr} {F F' G : Nat → Prop} {K : Value → World → Prop} {Kp : KP} {hash : Ky → Nat} {k : Ky} {x : Vl} {l s rb : Nat} {r0 mu nl : Bool}
def ElV : World → List Value → Tr → (Nat → Prop) → Prop := fun w u t G => ∃ b, u = [ptr b] ∧ Ver w b defHash true t G
theorem elV_ok : ElOk ElV :=
  ⟨fun ⟨b, hu, h⟩ hf hM => ⟨b, hu, h.frame hf hM⟩, fun ⟨b, hu, h⟩ hG => ⟨b, hu, h.mono hG⟩⟩
theorem apM : apOf Try.prog 106 = some (104, 1, 8) := by kernel_rfl
def k1 (k : Ky) : List Value := [ek k]
def v1 (v : Int) : List Value := [.int .i64 v]
theorem k1_len (k : Ky) : (k1 k).length = 1 := rfl
theorem v1_len (k : Int) : (v1 k).length = 1 := rfl
theorem k1_one (x : Ky) : ∀ u ∈ k1 x, u.oneCell' = true := fun u hu => by rw [List.mem_singleton.1 hu]; rfl
theorem v1_one (x : Int) : ∀ u ∈ v1 x, u.oneCell' = true := fun u hu => by rw [List.mem_singleton.1 hu]; rfl
theorem apStr : apOf Try.prog 64 = some (9, 1, 16) := by kernel_rfl
theorem apInt : apOf Try.prog 65 = some (2, 1, 8) := by kernel_rfl
theorem apSeen : apOf Try.prog 62 = some (67, 3, 56) := by kernel_rfl
def ElS : World → List Value → Tr → (Nat → Prop) → Prop := fun w u t G => ∃ kv vv, u = [.int .i64 (toL t).length, kv, vv] ∧ IsSl w kv (toL t).length (((toL t).map (·.1)).flatMap k1) ∧ IsSl w vv (toL t).length (((toL t).map (·.2)).flatMap v1) ∧ ∀ b, kv.ownBlock = some b ∨ vv.ownBlock = some b → G b
theorem elS_ok : ElOk ElS :=
  ⟨fun ⟨kv, vv, hu, h1, h2, hG⟩ hf hM => ⟨kv, vv, hu, h1.frame hf fun b hb => hM b (hG b (.inl hb)), h2.frame hf fun b hb => hM b (hG b (.inr hb)), hG⟩,
   fun ⟨kv, vv, hu, h1, h2, hG⟩ hG' => ⟨kv, vv, hu, h1, h2, fun b hb => hG' b (hG b hb)⟩⟩
def lenAt (w : World) (b j : Nat) : Nat := match w.heap[b]? with
  | some (.cells cs _ _) => match cs[j]? with
    | some (.slice _ n _) => n
    | _ => 0
  | _ => 0
theorem nextV_cons {e : Ky × Vl} {L : List (Ky × Vl)} : nextV (e :: L) = .tuple #[ek e.1, ev e.2, .bool true] := rfl
theorem textRun_ok {a1 : Option Addr} {c1 : Nat} {steps : List TStep} (h1 : Row w a1 (steps.flatMap TStep.cells)) (hfit : TFit steps)
    (hK : ∀ l w' G, Frm (fun _ => False) w w' → RowsOf ElS w' w.heap.size 67 3 l (versTT defHash steps) G → K l w') : Calls Try.prog 22 #[.slice a1 steps.length c1] w (ret K Kp) := by
  have hmost := hfit.most
  have hE := elV_ok
  have hdef := defHasher_ok
  have hlt : ∀ k, defHash k < 2 ^ 32 := fun k => (defHasher_ok 0).lt k
  have hnew : ∀ {wz : World} {K : Value → World → Prop}, (∀ w', Frm (fun _ => False) wz w' → w'.heap.size = wz.heap.size + 1 → Ver w' wz.heap.size defHash true .emp (· = wz.heap.size) → K (ptr wz.heap.size) w') → Calls Try.prog 46 #[.nilIface] wz (ret K Kp) := fun h => ver_new_ok (.inr ⟨rfl, rfl, rfl⟩) rfl h
  refine vc22_calls ?_
  simp only [vc22]
  try simp [-getElem?_pos, -Array.getElem?_eq_getElem, -Int.natCast_add, add_spot, and_assoc, Br_dec, -op_box, -op_alloc_61, -op_st_61, -op_lit_106_1, -op_alloc_67, -op_st_67, -op_st_64, -op_st_65, -op_lit_64_1, -op_lit_65_1, -op_lit_62_1]
  refine hnew fun w3 k3 z3 v3 => ?_
  have n3 := k3.size
  refine op_row1 (base := w.heap.size) (u := [ptr w.heap.size]) hE apM (lit_106_1 rfl) rfl ⟨_, rfl, v3⟩ (fun c hc => by omega) (by omega) fun l4 w4 k4 hR4 ho4 => ?_
  obtain ⟨a4, c4, rfl, _⟩ := hR4.slice
  try simp [-getElem?_pos, -Array.getElem?_eq_getElem, -Int.natCast_add, add_spot, and_assoc, Br_dec, -op_box, -op_alloc_61, -op_st_61, -op_lit_106_1, -op_alloc_67, -op_st_67, -op_st_64, -op_st_65, -op_lit_64_1, -op_lit_65_1, -op_lit_62_1]
  obtain ⟨I, hI⟩ : ∃ I : Value → Value → World → Prop, ∀ l v wl, I l v wl ↔ ∃ (i : Nat) (G : Nat → Prop), v = .int .i64 i ∧ i ≤ steps.length ∧ Frm (fun _ => False) w wl ∧ RowsOf ElV wl w.heap.size 104 1 l (versTT defHash (steps.take i)) G := ⟨_, fun _ _ _ => Iff.rfl⟩
  refine Lp.intro I (fun _ v _ => steps.length - natOf v) ⟨(hI _ _ _).2 ⟨0, _, rfl, by omega, k3.no k4, hR4⟩, ?_⟩
  intro wl l v hl
  obtain ⟨i, G, rfl, hi, kl, hR⟩ := (hI _ _ _).1 hl
  have hlow := hR.own_lt
  have hlv : (versTT defHash (steps.take i)).length = i + 1 := by rw [versTT, vers_len, List.length_take]; omega
  simp only [op_lss, Br_dec]
  refine ⟨fun hlt' => ?_, fun hnl' => ?_⟩
  · have hi' : i < steps.length := by omega
    have htk : steps.take (i + 1) = steps.take i ++ [steps[i]] := List.take_succ_eq_append_getElem hi'
    obtain ⟨f1, f2, f3⟩ := hfit.ok i hi'
    obtain ⟨bp, o, cs, e, fz, rfl, hcs, hsz, hext⟩ := (h1.frame kl (fun _ _ h => h)).part tcells_len (by decide) hi'
    generalize hst : steps[i] = s at *
    try simp [-getElem?_pos, -Array.getElem?_eq_getElem, -Int.natCast_add, add_spot, and_assoc, Br_dec, -op_box, -op_alloc_61, -op_st_61, -op_lit_106_1, -op_alloc_67, -op_st_67, -op_st_64, -op_st_65, -op_lit_64_1, -op_lit_65_1, -op_lit_62_1, hcs, hsz, hext]
    refine ⟨hi', ?_⟩
    refine op_alloc_ok (z := .agg #[.bool false, .int .i64 0, .string ⟨#[]⟩, .int .i64 0]) (by kernel_rfl) fun w5 k5 z5 b5 => ?_
    simp only [cells_agg] at b5
    refine op_storeN_ok (n := 4) (by kernel_rfl) b5 rfl (by decide) (by simp [TStep.cells]) fun w6 k6 z6 b6 => ?_
    have b6 : w6.heap[wl.heap.size]? = some (.cells #[.bool s.del, .int .i64 s.fro, .string s.key, .int .i64 s.value] 61 (0, 0)) := by
      rw [ow_all (by simp [TStep.cells])] at b6; simpa [TStep.cells] using b6
    have n5 := k5.size
    have k56 : Frm (fun _ => False) wl w6 := k5.old k6 fun c hc => .inr (by omega)
    have n6 := k56.size
    have nl := kl.size
    try simp [-getElem?_pos, -Array.getElem?_eq_getElem, -Int.natCast_add, add_spot, and_assoc, Br_dec, -op_box, -op_alloc_61, -op_st_61, -op_lit_106_1, -op_alloc_67, -op_st_67, -op_st_64, -op_st_65, -op_lit_64_1, -op_lit_65_1, -op_lit_62_1]
    refine hnew fun w7 k7 z7 v7 => ?_
    have b7 := k7.get b6 fun h => h
    have hkk : Value.string s.key = ek s.kk := by show _ = Value.string s.kk.1; rw [TStep.k_eq (by omega)]
    rw [hkk] at b7
    have k07 := k56.no k7
    have n7 := k07.size
    obtain ⟨q, hq⟩ : ∃ q : Nat, s.fro = q := ⟨s.fro.toNat, by omega⟩
    have hq1 : q < (versTT defHash (steps.take i)).length := by omega
    obtain ⟨u, g, c, cur, hlg, hg1, hg2, hg3, hg4, hg5, bv, hub, hV⟩ := (hR.still hE k07).get hq1
    subst hlg hub
    have hg0 : cur[q]? = some (ptr bv) := by have := hg3 0 (by decide); simpa using this
    generalize ht : (versTT defHash (steps.take i))[q] = t0 at hV
    have hsize : (toL t0).length ≤ (steps.take i).length := (size_versT hlt (steps.take i) q t0 (by rw [List.getElem?_eq_getElem hq1, ht])).2
    have hsz60 : (toL t0).length ≤ 1000000 := by have : (steps.take i).length ≤ 60 := by rw [List.length_take]; omega
                                                 omega
    have hnext : versTT defHash (steps.take (i + 1)) = versTT defHash (steps.take i) ++ [trieT defHash t0 s] := by
      have e1 : (vers (trieT defHash) TStep.ref .emp (steps.take i))[s.ref]? = some t0 := by
        have : s.ref = q := by simp [TStep.ref, hq]
        rw [this, ← ht]; exact List.getElem?_eq_getElem hq1
      rw [htk, versTT, vers_snoc, e1]; rfl
    have hpush : ∀ (wz : World) (b' : Nat) (G2 : Nat → Prop), Frm (fun _ => False) wl wz → Ver wz b' defHash true (trieT defHash t0 s) G2 → (∀ c, G2 c → (G c ∨ wl.heap.size ≤ c) ∧ c < wz.heap.size) →
        (nice Try.prog).op (.buildSlice 106 1 [(0, ptr b')]) wz (fun v65 w => (nice Try.prog).op (.blt .append [106, 106] 106 [.slice (some ⟨g, 0, none⟩) (versTT defHash (steps.take i)).length c, v65]) w (fun v66 w => I v66 (.int .i64 (IntKind.i64.wrap ((i : Int) + 1))) w ∧ steps.length - natOf (.int .i64 (IntKind.i64.wrap ((i : Int) + 1))) < steps.length - natOf (.int .i64 (i : Int))) Kp) Kp := by
      intro wz b' G2 kz vz hG2
      refine op_push (u := [ptr b']) hE apM (lit_106_1 rfl) rfl (by simp [ptr]) (hR.still hE kz) ⟨b', rfl, vz⟩ (fun c hc => ?_) (fun b hb hc => ?_) (by omega) (by have := kz.size; omega) fun l10 w10 k10 hR10 ho10 => ?_
      · refine ⟨?_, (hG2 c hc).2⟩
        rcases (hG2 c hc).1 with h | h
        · exact (hR.low c h).1
        · omega
      · rcases (hG2 b hc).1 with h | h
        · exact hR.off b hb h
        · have := hlow b hb; omega
      · rw [wrap_i64_small (by omega) (by omega)]
        refine ⟨(hI _ _ _).2 ⟨i + 1, _, by simp, by omega, (kl.no kz).old k10 fun c hc => .inr (hlow c hc.symm).1, by rw [hnext]; exact hR10⟩, ?_⟩
        simp only [natOf]; omega
    have hqn : s.fro.toNat = q := by omega
    have hc1 : 0 ≤ s.fro := f1
    have hc2 : s.fro < ((versTT defHash (steps.take i)).length : Int) := by omega
    try simp [-getElem?_pos, -Array.getElem?_eq_getElem, -Int.natCast_add, add_spot, and_assoc, Br_dec, -op_box, -op_alloc_61, -op_st_61, -op_lit_106_1, -op_alloc_67, -op_st_67, -op_st_64, -op_st_65, -op_lit_64_1, -op_lit_65_1, -op_lit_62_1, b7, hg1, hg0, hc1, hc2, hqn]
    have kd : Frm (fun _ => False) w7 w7.drew := Frm.drew _
    have e7 : w7.drew.heap.size = w7.heap.size := rfl
    refine ⟨fun hd => ?_, fun hd => ?_⟩
    · refine Delete_ok (k := s.kk) (hV.still kd) hsz60 fun b' wz F' kz vz hz => ?_
      exact hpush wz b' F' (k07.no (Frm.dr kz)) (by simp only [trieT, hd, if_true]; exact vz) fun c hc => ⟨(hz c hc).1.imp id fun h => by omega, (hz c hc).2⟩
    · refine Set_ok (k := s.kk) (x := s.value) hdef (hV.still kd) hsz60 fun b' wz F' kz vz hz => ?_
      exact hpush wz b' F' (k07.no (Frm.dr kz)) (by simp only [trieT, hd, Bool.false_eq_true, if_false]; exact vz) fun c hc => ⟨(hz c hc).1.imp id fun h => by omega, (hz c hc).2⟩
  have : i = steps.length := by omega
  subst this
  rw [List.take_length] at hR hlv
  have hszv := size_versT hlt steps
  generalize hvs : versTT defHash steps = vs at *
  obtain ⟨a2, c2, rfl, _⟩ := hR.slice
  have nl := kl.size
  clear hI hl I hR4 k4 v3 hnew
  try simp [-getElem?_pos, -Array.getElem?_eq_getElem, -Int.natCast_add, add_spot, and_assoc, Br_dec, -op_box, -op_alloc_61, -op_st_61, -op_lit_106_1, -op_alloc_67, -op_st_67, -op_st_64, -op_st_65, -op_lit_64_1, -op_lit_65_1, -op_lit_62_1]
  obtain ⟨I, hI⟩ : ∃ I : Value → Value → World → Prop, ∀ l v wz, I l v wz ↔ ∃ (i : Nat) (G' : Nat → Prop), v = .int .i64 i ∧ i ≤ vs.length ∧ Frm (fun _ => False) wl wz ∧ RowsOf ElS wz wl.heap.size 67 3 l (vs.take i) G' := ⟨_, fun _ _ _ => Iff.rfl⟩
  refine Lp.intro I (fun _ v _ => vs.length - natOf v) ⟨(hI _ _ _).2 ⟨0, _, rfl, by omega, Frm.refl, rows_nil⟩, ?_⟩
  intro wz l v hz
  obtain ⟨i, G', rfl, hi, kz, hO⟩ := (hI _ _ _).1 hz
  have hlowO := hO.own_lt
  simp only [op_lss, Br_dec]
  refine ⟨fun hlt' => ?_, fun hnl' => ?_⟩
  rotate_left
  · have : i = vs.length := by omega
    subst this
    rw [List.take_length] at hO
    exact hK l wz G' (kl.no kz) (hO.base_le nl)
  have hi' : i < vs.length := by omega
  have htk : vs.take (i + 1) = vs.take i ++ [vs[i]] := List.take_succ_eq_append_getElem hi'
  obtain ⟨u, g, c, cur, hlg, hg1, hg2, hg3, hg4, hg5, bv, hub, hV⟩ := (hR.still hE kz).get hi'
  cases hlg
  subst hub
  have hg0 : cur[i]? = some (ptr bv) := by have := hg3 0 (by decide); simpa using this
  have hT := hszv i vs[i] (List.getElem?_eq_getElem _)
  generalize htt : vs[i] = tt at *
  have nz := kz.size
  have hGl : ∀ c, G c → c < wz.heap.size := fun c hc => by have := (hR.low c hc).2; omega
  try simp [-getElem?_pos, -Array.getElem?_eq_getElem, -Int.natCast_add, add_spot, and_assoc, Br_dec, -op_box, -op_alloc_61, -op_st_61, -op_lit_106_1, -op_alloc_67, -op_st_67, -op_st_64, -op_st_65, -op_lit_64_1, -op_lit_65_1, -op_lit_62_1, hg1, hg0]
  refine ⟨hi', ?_⟩
  refine ver_len_ok hV ?_
  try simp [-getElem?_pos, -Array.getElem?_eq_getElem, -Int.natCast_add, add_spot, and_assoc, Br_dec, -op_box, -op_alloc_61, -op_st_61, -op_lit_106_1, -op_alloc_67, -op_st_67, -op_st_64, -op_st_65, -op_lit_64_1, -op_lit_65_1, -op_lit_62_1]
  refine op_alloc_ok (z := .agg #[.int .i64 0, .slice none 0 0, .slice none 0 0]) (by kernel_rfl) fun w2 k2 z2 b2 => ?_
  simp only [cells_agg] at b2
  refine op_storeN_ok (n := 3) (by kernel_rfl) b2 rfl (by decide) (by simp) fun w3 k3' z3' b3 => ?_
  have b3 : w3.heap[wz.heap.size]? = some (.cells #[.int .i64 (toL tt).length, .slice none 0 0, .slice none 0 0] 67 (0, 0)) := by
    rw [ow_all (by simp)] at b3; simpa using b3
  have k23 : Frm (fun _ => False) wz w3 := k2.old k3' fun c hc => .inr (by omega)
  have n23 := k23.size
  try simp [-getElem?_pos, -Array.getElem?_eq_getElem, -Int.natCast_add, add_spot, and_assoc, Br_dec, -op_box, -op_alloc_61, -op_st_61, -op_lit_106_1, -op_alloc_67, -op_st_67, -op_st_64, -op_st_65, -op_lit_64_1, -op_lit_65_1, -op_lit_62_1]
  refine ver_iter_ok (hV.still k23) (fun c hc => by have := hGl c hc; omega) fun ib w4 k4 hib hA => ?_
  have hibl := hA.lt
  have n4 := k4.size
  have b4 := k4.get b3 fun h => h
  have k24 := k23.no k4
  try simp [-getElem?_pos, -Array.getElem?_eq_getElem, -Int.natCast_add, add_spot, and_assoc, Br_dec, -op_box, -op_alloc_61, -op_st_61, -op_lit_106_1, -op_alloc_67, -op_st_67, -op_st_64, -op_st_65, -op_lit_64_1, -op_lit_65_1, -op_lit_62_1]
  generalize hsb : wz.heap.size = sb at *
  obtain ⟨LL, hLL⟩ : ∃ LL, LL = toL tt := ⟨_, rfl⟩
  rw [← hLL] at b4 hA
  have hLl : LL.length ≤ 60 := by rw [hLL]; omega
  obtain ⟨I3, hI3⟩ : ∃ I3 : World → Prop, ∀ wy, I3 wy ↔ ∃ D L' kv vv, D ++ L' = LL ∧ Frm (fun c => c = ib ∨ c = sb) w4 wy ∧ At wy ib bv G defHash L' ∧ wy.heap[sb]? = some (.cells #[.int .i64 LL.length, kv, vv] 67 (0, 0)) ∧
      FRow k1 wy w4.heap.size 9 1 kv (D.map (·.1)) ∧ FRow v1 wy w4.heap.size 2 1 vv (D.map (·.2)) ∧ ∀ b, kv.ownBlock = some b → vv.ownBlock ≠ some b := ⟨_, fun _ => Iff.rfl⟩
  refine Lp.intro I3 (fun wy => LL.length - lenAt wy sb 1) ⟨(hI3 _).2 ⟨[], LL, _, _, rfl, Frm.refl, hA, b4, rows_nil, rows_nil, fun _ h => nomatch h⟩, ?_⟩
  intro wy hy
  obtain ⟨D, L', kv, vv, hDL, ky, hAy, bo, hKr, hVr, hne⟩ := (hI3 _).1 hy
  have lok' := hKr.own_lt
  have lov' := hVr.own_lt
  have ny := ky.size
  refine done_ok hAy ?_
  cases L' with
  | nil =>
    simp only [List.append_nil] at hDL
    subst hDL
    have hx : (#[Value.int .i64 (D.length : Int), kv, vv] : Array Value).extract 0 3 = #[.int .i64 D.length, kv, vv] := rfl
    try simp [-getElem?_pos, -Array.getElem?_eq_getElem, -Int.natCast_add, add_spot, and_assoc, Br_dec, -op_box, -op_alloc_61, -op_st_61, -op_lit_106_1, -op_alloc_67, -op_st_67, -op_st_64, -op_st_65, -op_lit_64_1, -op_lit_65_1, -op_lit_62_1, bo, hx]
    have kk : Frm (fun _ => False) wz wy := k24.old ky fun c hc => .inr (by omega)
    refine op_push (u := [.int .i64 D.length, kv, vv]) (y := tt) (G2 := fun c => kv.ownBlock = some c ∨ vv.ownBlock = some c) elS_ok apSeen lit_62_1 rfl (fun u hu => ?_) (hO.still elS_ok kk) ⟨kv, vv, by rw [← hLL], ?_, ?_, fun b hb => hb⟩ (fun c hc => ?_) (fun b hb hc => ?_) (by simp; omega) (by omega) fun l10 w10 k10 hR10 ho10 => ?_
    · simp only [List.mem_cons, List.not_mem_nil, or_false] at hu
      rcases hu with rfl | rfl | rfl
      · rfl
      · exact hKr.one
      · exact hVr.one
    · have := hKr.flat; rw [← hLL]; simpa using this
    · have := hVr.flat; rw [← hLL]; simpa using this
    · rcases hc with hc | hc
      · have := lok' c hc; omega
      · have := lov' c hc; omega
    · rcases hc with hc | hc
      · have := lok' b hc; have := hlowO b hb; omega
      · have := lov' b hc; have := hlowO b hb; omega
    · try simp [-getElem?_pos, -Array.getElem?_eq_getElem, -Int.natCast_add, add_spot, and_assoc, Br_dec, -op_box, -op_alloc_61, -op_st_61, -op_lit_106_1, -op_alloc_67, -op_st_67, -op_st_64, -op_st_65, -op_lit_64_1, -op_lit_65_1, -op_lit_62_1]
      rw [wrap_i64_small (by omega) (by omega)]
      refine ⟨(hI _ _ _).2 ⟨i + 1, _, by simp, by omega, (kz.no kk).old k10 fun c hc => .inr (hlowO c hc.symm).1, by rw [htk]; exact hR10⟩, ?_⟩
      simp only [natOf]; omega
  | cons e L' =>
    try simp [-getElem?_pos, -Array.getElem?_eq_getElem, -Int.natCast_add, add_spot, and_assoc, Br_dec, -op_box, -op_alloc_61, -op_st_61, -op_lit_106_1, -op_alloc_67, -op_st_67, -op_st_64, -op_st_65, -op_lit_64_1, -op_lit_65_1, -op_lit_62_1]
    have hFib : ¬ G ib := fun hc => by have := hGl _ hc; omega
    refine Next_ok hAy hFib fun w6' k6 z6 hA6 => ?_
    rw [nextV_cons]
    have hibsb : ib ≠ sb := by omega
    have b6 := k6.get bo fun h => hibsb h.symm
    have hK6 := frow_frame hKr k6 fun b hb he => by have := lok' b hb; omega
    have hV6 := frow_frame hVr k6 fun b hb he => by have := lov' b hb; omega
    have lok : ∀ b, kv.ownBlock = some b → w4.heap.size ≤ b ∧ b < w6'.heap.size := fun b hb => by have := lok' b hb; omega
    have lov : ∀ b, vv.ownBlock = some b → w4.heap.size ≤ b ∧ b < w6'.heap.size := fun b hb => by have := lov' b hb; omega
    have k46 : Frm (fun c => c = ib ∨ c = sb) w4 w6' := ky.trans k6 fun c hc _ => .inl hc
    have hlen : D.length + L'.length + 1 = LL.length := by rw [← hDL]; simp; omega
    have hl0 : lenAt wy sb 1 = D.length := by
      obtain ⟨a0, c0, rfl, _⟩ := hKr.slice
      simp [lenAt, bo]
    have hfin : ∀ (wq : World) (kv' vv' : Value), At wq ib bv G defHash L' → wq.heap[sb]? = some (.cells #[.int .i64 LL.length, kv, vv] 67 (0, 0)) → Frm (fun c => c = ib ∨ c = sb) w4 wq → FRow k1 wq w4.heap.size 9 1 kv' (D.map (·.1) ++ [e.1]) → FRow v1 wq w4.heap.size 2 1 vv' (D.map (·.2) ++ [e.2]) → (∀ b, kv'.ownBlock = some b → vv'.ownBlock ≠ some b) →
        (nice Try.prog).op (.store 64 (.pointer (some ⟨sb, 1, none⟩)) kv') wq (fun _ w => (nice Try.prog).op (.store 65 (.pointer (some ⟨sb, 2, none⟩)) vv') w (fun _ w => I3 w ∧ LL.length - lenAt w sb 1 < LL.length - lenAt wy sb 1) Kp) Kp := by
      intro wq kv' vv' hAq hbq kq hKq hVq hsep
      have lk := hKq.own_lt
      have lv := hVq.own_lt
      refine op_store_ok (by kernel_rfl) hbq (by simp) hKq.one fun wa ka za ba => ?_
      have ba : wa.heap[sb]? = some (.cells #[.int .i64 LL.length, kv', vv] 67 (0, 0)) := by simpa using ba
      refine op_store_ok (by kernel_rfl) ba (by simp) hVq.one fun wb kb zb bb => ?_
      have bb : wb.heap[sb]? = some (.cells #[.int .i64 LL.length, kv', vv'] 67 (0, 0)) := by simpa using bb
      have kab : Frm (· = sb) wq wb := ka.trans kb fun _ h _ => h
      have hmap : ∀ {β : Type} (f : Ky × Vl → β), D.map f ++ [f e] = (D ++ [e]).map f := fun f => by simp
      rw [hmap (·.1)] at hKq
      rw [hmap (·.2)] at hVq
      refine ⟨(hI3 _).2 ⟨D ++ [e], L', kv', vv', by rw [← hDL]; simp, kq.trans kab fun c hc _ => .inr hc, hAq.frame kab (fun c hc he => by have := hGl c hc; omega) hibsb, bb, frow_frame hKq kab fun b hb he => by have := lk b hb; omega, frow_frame hVq kab fun b hb he => by have := lv b hb; omega, hsep⟩, ?_⟩
      have e2 : lenAt wb sb 1 = D.length + 1 := by
        obtain ⟨a0, c0, rfl, _⟩ := hKq.slice
        simp [lenAt, bb]
      rw [e2, hl0]; omega
    have kd6 : Frm (fun _ => False) w6' w6'.drew := Frm.drew _
    have e6 : w6'.drew.heap.size = w6'.heap.size := rfl
    have A0 := hA6.frame kd6 (fun _ _ h => h) fun h => h
    have B0 := kd6.get b6 fun h => h
    have F0 := k46.old kd6 fun c hc => hc.elim
    have K0 := frow_still hK6 kd6
    have V0 := frow_still hV6 kd6
    try simp [-getElem?_pos, -Array.getElem?_eq_getElem, -Int.natCast_add, add_spot, and_assoc, Br_dec, -op_box, -op_alloc_61, -op_st_61, -op_lit_106_1, -op_alloc_67, -op_st_67, -op_st_64, -op_st_65, -op_lit_64_1, -op_lit_65_1, -op_lit_62_1, b6]
    refine ⟨?_, ?_⟩
    · refine op_lit_ok (lit_64_1 rfl) fun w_1 k_1 z_1 b_1 => ?_
      have n_1 := k_1.size
      have A_1 := A0.frame k_1 (fun _ _ h => h) fun h => h
      have B_1 := k_1.get B0 fun h => h
      have F_1 := F0.old k_1 fun c hc => hc.elim
      have K_1 := frow_still K0 k_1
      have V_1 := frow_still V0 k_1
      have LK_1 := lit_sl (f := k1) (y := e.1) b_1
      try simp [-getElem?_pos, -Array.getElem?_eq_getElem, -Int.natCast_add, add_spot, and_assoc, Br_dec, -op_box, -op_alloc_61, -op_st_61, -op_lit_106_1, -op_alloc_67, -op_st_67, -op_st_64, -op_st_65, -op_lit_64_1, -op_lit_65_1, -op_lit_62_1, B_1]
      refine ⟨?_, ?_⟩
      · refine op_concatF (f := k1) (zs := [e.1]) apStr k1_len k1_one K_1 LK_1 (by simp; omega) (by omega) fun l_2 w_2 k_2 K_2 ho_2 => ?_
        have n_2 := k_2.size
        have A_2 := A_1.frame k_2 (fun c hc he => by have := lok _ he.symm; have := hGl c hc; omega) fun he => by have := lok _ he.symm; omega
        have B_2 := k_2.get B_1 fun he => by have := lok _ he.symm; omega
        have F_2 := F_1.old k_2 fun c hc => .inr (by have := lok c hc.symm; omega)
        have V_2 := frow_frame V_1 k_2 fun b hb he => hne b he.symm hb
        have sep_2 : ∀ b, l_2.ownBlock = some b → vv.ownBlock ≠ some b := fun b hb hb2 => by
          rcases ho_2 with h | ⟨b', h, hge⟩
          · rw [h] at hb; exact hne b hb hb2
          · rw [h] at hb; cases hb; have := lov _ hb2; omega
        have lo_2 := K_2.own_lt
        try simp [-getElem?_pos, -Array.getElem?_eq_getElem, -Int.natCast_add, add_spot, and_assoc, Br_dec, -op_box, -op_alloc_61, -op_st_61, -op_lit_106_1, -op_alloc_67, -op_st_67, -op_st_64, -op_st_65, -op_lit_64_1, -op_lit_65_1, -op_lit_62_1, B_2]
        refine op_lit_ok (lit_65_1 rfl) fun w_3 k_3 z_3 b_3 => ?_
        have n_3 := k_3.size
        have A_3 := A_2.frame k_3 (fun _ _ h => h) fun h => h
        have B_3 := k_3.get B_2 fun h => h
        have F_3 := F_2.old k_3 fun c hc => hc.elim
        have K_3 := frow_still K_2 k_3
        have V_3 := frow_still V_2 k_3
        have LV_3 := lit_sl (f := v1) (y := e.2) b_3
        try simp [-getElem?_pos, -Array.getElem?_eq_getElem, -Int.natCast_add, add_spot, and_assoc, Br_dec, -op_box, -op_alloc_61, -op_st_61, -op_lit_106_1, -op_alloc_67, -op_st_67, -op_st_64, -op_st_65, -op_lit_64_1, -op_lit_65_1, -op_lit_62_1, B_3]
        refine op_concatF (f := v1) (zs := [e.2]) apInt v1_len v1_one V_3 LV_3 (by simp; omega) (by omega) fun l_4 w_4 k_4 V_4 ho_4 => ?_
        have n_4 := k_4.size
        have A_4 := A_3.frame k_4 (fun c hc he => by have := lov _ he.symm; have := hGl c hc; omega) fun he => by have := lov _ he.symm; omega
        have B_4 := k_4.get B_3 fun he => by have := lov _ he.symm; omega
        have F_4 := F_3.old k_4 fun c hc => .inr (by have := lov c hc.symm; omega)
        have K_4 := frow_frame K_3 k_4 fun b hb he => sep_2 b hb he.symm
        have sep_4 : ∀ b, l_2.ownBlock = some b → l_4.ownBlock ≠ some b := fun b hb hb2 => by
          rcases ho_4 with h | ⟨b', h, hge⟩
          · rw [h] at hb2; exact sep_2 b hb hb2
          · rw [h] at hb2; cases hb2; have := lo_2 _ hb; omega
        try simp [-getElem?_pos, -Array.getElem?_eq_getElem, -Int.natCast_add, add_spot, and_assoc, Br_dec, -op_box, -op_alloc_61, -op_st_61, -op_lit_106_1, -op_alloc_67, -op_st_67, -op_st_64, -op_st_65, -op_lit_64_1, -op_lit_65_1, -op_lit_62_1, B_4]
        exact hfin _ _ _ A_4 B_4 F_4 K_4 V_4 sep_4
      · refine op_lit_ok (lit_65_1 rfl) fun w_5 k_5 z_5 b_5 => ?_
        have n_5 := k_5.size
        have A_5 := A_1.frame k_5 (fun _ _ h => h) fun h => h
        have B_5 := k_5.get B_1 fun h => h
        have F_5 := F_1.old k_5 fun c hc => hc.elim
        have K_5 := frow_still K_1 k_5
        have V_5 := frow_still V_1 k_5
        have LK_5 := LK_1.still k_5
        have LV_5 := lit_sl (f := v1) (y := e.2) b_5
        try simp [-getElem?_pos, -Array.getElem?_eq_getElem, -Int.natCast_add, add_spot, and_assoc, Br_dec, -op_box, -op_alloc_61, -op_st_61, -op_lit_106_1, -op_alloc_67, -op_st_67, -op_st_64, -op_st_65, -op_lit_64_1, -op_lit_65_1, -op_lit_62_1, B_5]
        refine op_concatF (f := k1) (zs := [e.1]) apStr k1_len k1_one K_5 LK_5 (by simp; omega) (by omega) fun l_6 w_6 k_6 K_6 ho_6 => ?_
        have n_6 := k_6.size
        have A_6 := A_5.frame k_6 (fun c hc he => by have := lok _ he.symm; have := hGl c hc; omega) fun he => by have := lok _ he.symm; omega
        have B_6 := k_6.get B_5 fun he => by have := lok _ he.symm; omega
        have F_6 := F_5.old k_6 fun c hc => .inr (by have := lok c hc.symm; omega)
        have V_6 := frow_frame V_5 k_6 fun b hb he => hne b he.symm hb
        have LV_6 := LV_5.frame k_6 fun b hb he => by have e : w_1.heap.size = b := Option.some.inj hb; have := lok _ he.symm; omega
        have sep_6 : ∀ b, l_6.ownBlock = some b → vv.ownBlock ≠ some b := fun b hb hb2 => by
          rcases ho_6 with h | ⟨b', h, hge⟩
          · rw [h] at hb; exact hne b hb hb2
          · rw [h] at hb; cases hb; have := lov _ hb2; omega
        have lo_6 := K_6.own_lt
        try simp [-getElem?_pos, -Array.getElem?_eq_getElem, -Int.natCast_add, add_spot, and_assoc, Br_dec, -op_box, -op_alloc_61, -op_st_61, -op_lit_106_1, -op_alloc_67, -op_st_67, -op_st_64, -op_st_65, -op_lit_64_1, -op_lit_65_1, -op_lit_62_1, B_6]
        refine op_concatF (f := v1) (zs := [e.2]) apInt v1_len v1_one V_6 LV_6 (by simp; omega) (by omega) fun l_7 w_7 k_7 V_7 ho_7 => ?_
        have n_7 := k_7.size
        have A_7 := A_6.frame k_7 (fun c hc he => by have := lov _ he.symm; have := hGl c hc; omega) fun he => by have := lov _ he.symm; omega
        have B_7 := k_7.get B_6 fun he => by have := lov _ he.symm; omega
        have F_7 := F_6.old k_7 fun c hc => .inr (by have := lov c hc.symm; omega)
        have K_7 := frow_frame K_6 k_7 fun b hb he => sep_6 b hb he.symm
        have sep_7 : ∀ b, l_6.ownBlock = some b → l_7.ownBlock ≠ some b := fun b hb hb2 => by
          rcases ho_7 with h | ⟨b', h, hge⟩
          · rw [h] at hb2; exact sep_6 b hb hb2
          · rw [h] at hb2; cases hb2; have := lo_6 _ hb; omega
        try simp [-getElem?_pos, -Array.getElem?_eq_getElem, -Int.natCast_add, add_spot, and_assoc, Br_dec, -op_box, -op_alloc_61, -op_st_61, -op_lit_106_1, -op_alloc_67, -op_st_67, -op_st_64, -op_st_65, -op_lit_64_1, -op_lit_65_1, -op_lit_62_1, B_7]
        exact hfin _ _ _ A_7 B_7 F_7 K_7 V_7 sep_7
    · refine op_lit_ok (lit_65_1 rfl) fun w_8 k_8 z_8 b_8 => ?_
      have n_8 := k_8.size
      have A_8 := A0.frame k_8 (fun _ _ h => h) fun h => h
      have B_8 := k_8.get B0 fun h => h
      have F_8 := F0.old k_8 fun c hc => hc.elim
      have K_8 := frow_still K0 k_8
      have V_8 := frow_still V0 k_8
      have LV_8 := lit_sl (f := v1) (y := e.2) b_8
      try simp [-getElem?_pos, -Array.getElem?_eq_getElem, -Int.natCast_add, add_spot, and_assoc, Br_dec, -op_box, -op_alloc_61, -op_st_61, -op_lit_106_1, -op_alloc_67, -op_st_67, -op_st_64, -op_st_65, -op_lit_64_1, -op_lit_65_1, -op_lit_62_1, B_8]
      refine op_lit_ok (lit_64_1 rfl) fun w_9 k_9 z_9 b_9 => ?_
      have n_9 := k_9.size
      have A_9 := A_8.frame k_9 (fun _ _ h => h) fun h => h
      have B_9 := k_9.get B_8 fun h => h
      have F_9 := F_8.old k_9 fun c hc => hc.elim
      have K_9 := frow_still K_8 k_9
      have V_9 := frow_still V_8 k_9
      have LV_9 := LV_8.still k_9
      have LK_9 := lit_sl (f := k1) (y := e.1) b_9
      try simp [-getElem?_pos, -Array.getElem?_eq_getElem, -Int.natCast_add, add_spot, and_assoc, Br_dec, -op_box, -op_alloc_61, -op_st_61, -op_lit_106_1, -op_alloc_67, -op_st_67, -op_st_64, -op_st_65, -op_lit_64_1, -op_lit_65_1, -op_lit_62_1, B_9]
      refine op_concatF (f := k1) (zs := [e.1]) apStr k1_len k1_one K_9 LK_9 (by simp; omega) (by omega) fun l_10 w_10 k_10 K_10 ho_10 => ?_
      have n_10 := k_10.size
      have A_10 := A_9.frame k_10 (fun c hc he => by have := lok _ he.symm; have := hGl c hc; omega) fun he => by have := lok _ he.symm; omega
      have B_10 := k_10.get B_9 fun he => by have := lok _ he.symm; omega
      have F_10 := F_9.old k_10 fun c hc => .inr (by have := lok c hc.symm; omega)
      have V_10 := frow_frame V_9 k_10 fun b hb he => hne b he.symm hb
      have LV_10 := LV_9.frame k_10 fun b hb he => by have e : w6'.drew.heap.size = b := Option.some.inj hb; have := lok _ he.symm; omega
      have sep_10 : ∀ b, l_10.ownBlock = some b → vv.ownBlock ≠ some b := fun b hb hb2 => by
        rcases ho_10 with h | ⟨b', h, hge⟩
        · rw [h] at hb; exact hne b hb hb2
        · rw [h] at hb; cases hb; have := lov _ hb2; omega
      have lo_10 := K_10.own_lt
      try simp [-getElem?_pos, -Array.getElem?_eq_getElem, -Int.natCast_add, add_spot, and_assoc, Br_dec, -op_box, -op_alloc_61, -op_st_61, -op_lit_106_1, -op_alloc_67, -op_st_67, -op_st_64, -op_st_65, -op_lit_64_1, -op_lit_65_1, -op_lit_62_1, B_10]
      refine op_concatF (f := v1) (zs := [e.2]) apInt v1_len v1_one V_10 LV_10 (by simp; omega) (by omega) fun l_11 w_11 k_11 V_11 ho_11 => ?_
      have n_11 := k_11.size
      have A_11 := A_10.frame k_11 (fun c hc he => by have := lov _ he.symm; have := hGl c hc; omega) fun he => by have := lov _ he.symm; omega
      have B_11 := k_11.get B_10 fun he => by have := lov _ he.symm; omega
      have F_11 := F_10.old k_11 fun c hc => .inr (by have := lov c hc.symm; omega)
      have K_11 := frow_frame K_10 k_11 fun b hb he => sep_10 b hb he.symm
      have sep_11 : ∀ b, l_10.ownBlock = some b → l_11.ownBlock ≠ some b := fun b hb hb2 => by
        rcases ho_11 with h | ⟨b', h, hge⟩
        · rw [h] at hb2; exact sep_10 b hb hb2
        · rw [h] at hb2; cases hb2; have := lo_10 _ hb; omega
      try simp [-getElem?_pos, -Array.getElem?_eq_getElem, -Int.natCast_add, add_spot, and_assoc, Br_dec, -op_box, -op_alloc_61, -op_st_61, -op_lit_106_1, -op_alloc_67, -op_st_67, -op_st_64, -op_st_65, -op_lit_64_1, -op_lit_65_1, -op_lit_62_1, B_11]
      exact hfin _ _ _ A_11 B_11 F_11 K_11 V_11 sep_11
end Go.Proofs.Ytbghmbbhkoniiaa.T
end
section
set_option linter.unusedVariables false
set_option maxRecDepth 100000
namespace Go.Proofs.Ytbghmbbhkoniiaa
open Go.Vc Go.Proofs
private theorem follows_MVcI : Try.prog.follows .mixedOrders = true := by kernel_rfl

def vc36 (S : Sig) (a0 : Value) (w : World) (K : Value → World → Prop) (Kp : KP) : Prop :=
 S.op (.nilCheck a0) w (fun v4 w =>
 S.op (.fieldAddr 134 v4 0) w (fun v5 w =>
 S.op (.load 3 v5) w (fun v6 w =>
 K v6 w) Kp) Kp) Kp
theorem vc36_eq (S : Sig) (a0 : Value) (w : World) (K : Value → World → Prop) (Kp : KP) : vc36 S a0 w K Kp = fVC S [] [] Try.f36 [a0] w K Kp := by kernel_rfl
theorem vc36_calls {a0 : Value} {w : World} {K : Value → World → Prop} {Kp : KP} (h : vc36 (nice Try.prog) a0 w K Kp) : Calls Try.prog 36 #[a0] w (ret K Kp) :=
 fVC_sound (args := [a0]) nice_le follows_MVcI Try.func36 (by kernel_rfl) (Eq.mp (vc36_eq _ _ _ _ _) h)

def vc37 (S : Sig) (a0 : Value) (w : World) (K : Value → World → Prop) (Kp : KP) : Prop :=
 S.op (.build 139 [(0, a0)]) w (fun v5 w =>
 S.op (.box 139 v5) w (fun v6 w =>
 S.call (.fn 43) [v6] w (fun v8 w =>
 K v6 w) Kp) Kp) Kp
theorem vc37_eq (S : Sig) (a0 : Value) (w : World) (K : Value → World → Prop) (Kp : KP) : vc37 S a0 w K Kp = fVC S [] [] Try.f37 [a0] w K Kp := by kernel_rfl
theorem vc37_calls {a0 : Value} {w : World} {K : Value → World → Prop} {Kp : KP} (h : vc37 (nice Try.prog) a0 w K Kp) : Calls Try.prog 37 #[a0] w (ret K Kp) :=
 fVC_sound (args := [a0]) nice_le follows_MVcI Try.func37 (by kernel_rfl) (Eq.mp (vc37_eq _ _ _ _ _) h)

def vc42 (S : Sig) (a0 : Value) (w : World) (K : Value → World → Prop) (Kp : KP) : Prop :=
 S.op (.nilCheck a0) w (fun v4 w =>
 S.op (.fieldAddr 139 v4 2) w (fun v5 w =>
 S.op (.load 3 v5) w (fun v6 w =>
 S.op (.bin .eql 3 false true v6 (.int .i64 (-1))) w (fun v7 w =>
 K v7 w) Kp) Kp) Kp) Kp
theorem vc42_eq (S : Sig) (a0 : Value) (w : World) (K : Value → World → Prop) (Kp : KP) : vc42 S a0 w K Kp = fVC S [] [] Try.f42 [a0] w K Kp := by kernel_rfl
theorem vc42_calls {a0 : Value} {w : World} {K : Value → World → Prop} {Kp : KP} (h : vc42 (nice Try.prog) a0 w K Kp) : Calls Try.prog 42 #[a0] w (ret K Kp) :=
 fVC_sound (args := [a0]) nice_le follows_MVcI Try.func42 (by kernel_rfl) (Eq.mp (vc42_eq _ _ _ _ _) h)

def vc43 (S : Sig) (a0 : Value) (w : World) (K : Value → World → Prop) (Kp : KP) : Prop :=
 S.op (.nilCheck a0) w (fun v3 w =>
 S.op (.fieldAddr 139 v3 0) w (fun v4 w =>
 S.op (.load 90 v4) w (fun v5 w =>
 S.op (.nilCheck v5) w (fun v6 w =>
 S.op (.fieldAddr 134 v6 1) w (fun v7 w =>
 S.op (.load 132 v7) w (fun v8 w =>
 S.op (.bin .eql 132 false true v8 .nilIface) w (fun v9 w =>
 Br v9 (
 S.op (.nilCheck a0) w (fun v11 w =>
 S.op (.fieldAddr 139 v11 2) w (fun v12 w =>
 S.op (.store 3 v12 (.int .i64 (-1))) w (fun _ w =>
 K (.tuple #[]) w) Kp) Kp) Kp) (
 S.pur (.nilCheck a0) (fun v15 =>
 S.pur (.fieldAddr 139 v15 0) (fun v16 =>
 S.ld (.load 90 v16) w.drew (fun v17 =>
 S.pur (.nilCheck v17) (fun v18 =>
 S.pur (.fieldAddr 134 v18 1) (fun v19 =>
 S.ld (.load 132 v19) w.drew (fun v20 =>
 S.pur (.build 136 [(0, v20)]) (fun v21 =>
 S.pur (.nilCheck a0) (fun v22 =>
 S.pur (.fieldAddr 139 v22 1) (fun v23 =>
 S.pur (.indexAddr 137 v23 (.int .i64 0)) (fun v24 =>
 S.op (.store 136 v24 v21) w.drew (fun _ w =>
 S.op (.nilCheck a0) w (fun v26 w =>
 S.op (.fieldAddr 139 v26 2) w (fun v27 w =>
 S.op (.store 3 v27 (.int .i64 0)) w (fun _ w =>
 S.call (.fn 71) [a0] w (fun v29 w =>
 K (.tuple #[]) w) Kp) Kp) Kp) Kp) Kp)))))))))))) Kp) Kp) Kp) Kp) Kp) Kp) Kp
theorem vc43_eq (S : Sig) (a0 : Value) (w : World) (K : Value → World → Prop) (Kp : KP) : vc43 S a0 w K Kp = fVC S [] [] Try.f43 [a0] w K Kp := by kernel_rfl
theorem vc43_calls {a0 : Value} {w : World} {K : Value → World → Prop} {Kp : KP} (h : vc43 (nice Try.prog) a0 w K Kp) : Calls Try.prog 43 #[a0] w (ret K Kp) :=
 fVC_sound (args := [a0]) nice_le follows_MVcI Try.func43 (by kernel_rfl) (Eq.mp (vc43_eq _ _ _ _ _) h)

def vc44 (S : Sig) (a0 : Value) (w : World) (K : Value → World → Prop) (Kp : KP) : Prop :=
 S.call (.fn 42) [a0] w (fun v12 w =>
 Br v12 (
 K (.tuple #[(.int .i64 0), (.int .i64 0), (.bool false)]) w) (
 S.pur (.nilCheck a0) (fun v17 =>
 S.pur (.fieldAddr 139 v17 2) (fun v18 =>
 S.ld (.load 3 v18) w.drew (fun v19 =>
 S.pur (.nilCheck a0) (fun v20 =>
 S.pur (.fieldAddr 139 v20 1) (fun v21 =>
 S.pur (.indexAddr 137 v21 v19) (fun v22 =>
 S.op (.nilCheck v22) w.drew (fun v24 w =>
 S.op (.fieldAddr 136 v24 0) w (fun v25 w =>
 S.op (.load 132 v25) w (fun v26 w =>
 S.op (.tassert v26 132 145 true) w (fun v27 w =>
 S.op (.extract v27 1) w (fun v28 w =>
 S.op (.extract v27 0) w (fun v29 w =>
 Br v28 (
 S.pur (.nilCheck v29) (fun v31 =>
 S.pur (.fieldAddr 151 v31 0) (fun v32 =>
 S.ld (.load 149 v32) w.drew (fun v33 =>
 S.pur (.nilCheck v22) (fun v35 =>
 S.pur (.fieldAddr 136 v35 1) (fun v36 =>
 S.ld (.load 3 v36) w.drew (fun v37 =>
 S.pur (.indexAddr 149 v33 v37) (fun v38 =>
 S.pur (.nilCheck v38) (fun v40 =>
 S.pur (.fieldAddr 148 v40 0) (fun v41 =>
 S.ld (.load 2 v41) w.drew.drew (fun v42 =>
 S.pur (.nilCheck v38) (fun v44 =>
 S.pur (.fieldAddr 148 v44 1) (fun v45 =>
 S.ld (.load 2 v45) w.drew.drew (fun v46 =>
 S.same (.load 2 v45) v46 w.drew.drew ∧
 S.call (.fn 72) [a0] w.drew.drew (fun v79 w =>
 K (.tuple #[v42, v46, (.bool true)]) w) Kp)))))))))))))) (
 S.op (.tassert v26 132 152 true) w (fun v47 w =>
 S.op (.extract v47 1) w (fun v48 w =>
 S.op (.extract v47 0) w (fun v49 w =>
 Br v48 (
 S.pur (.nilCheck v49) (fun v51 =>
 S.pur (.fieldAddr 154 v51 1) (fun v52 =>
 S.ld (.load 2 v52) w.drew (fun v53 =>
 S.pur (.nilCheck v49) (fun v55 =>
 S.pur (.fieldAddr 154 v55 2) (fun v56 =>
 S.ld (.load 2 v56) w.drew (fun v57 =>
 S.same (.load 2 v56) v57 w.drew ∧
 S.call (.fn 72) [a0] w.drew (fun v79 w =>
 K (.tuple #[v53, v57, (.bool true)]) w) Kp))))))) (
 S.op (.tassert v26 132 155 true) w (fun v58 w =>
 S.op (.extract v58 1) w (fun v59 w =>
 S.op (.extract v58 0) w (fun v60 w =>
 Br v59 (
 S.pur (.nilCheck v60) (fun v62 =>
 S.pur (.fieldAddr 157 v62 1) (fun v63 =>
 S.ld (.load 149 v63) w.drew (fun v64 =>
 S.pur (.nilCheck v22) (fun v66 =>
 S.pur (.fieldAddr 136 v66 1) (fun v67 =>
 S.ld (.load 3 v67) w.drew (fun v68 =>
 S.pur (.indexAddr 149 v64 v68) (fun v69 =>
 S.pur (.nilCheck v69) (fun v71 =>
 S.pur (.fieldAddr 148 v71 0) (fun v72 =>
 S.ld (.load 2 v72) w.drew.drew (fun v73 =>
 S.pur (.nilCheck v69) (fun v75 =>
 S.pur (.fieldAddr 148 v75 1) (fun v76 =>
 S.ld (.load 2 v76) w.drew.drew (fun v77 =>
 S.same (.load 2 v76) v77 w.drew.drew ∧
 S.call (.fn 72) [a0] w.drew.drew (fun v79 w =>
 K (.tuple #[v73, v77, (.bool true)]) w) Kp)))))))))))))) (
 S.call (.fn 72) [a0] w (fun v79 w =>
 K (.tuple #[(.int .i64 0), (.int .i64 0), (.bool true)]) w) Kp)) Kp) Kp) Kp)) Kp) Kp) Kp)) Kp) Kp) Kp) Kp) Kp) Kp)))))))) Kp
theorem vc44_eq (S : Sig) (a0 : Value) (w : World) (K : Value → World → Prop) (Kp : KP) : vc44 S a0 w K Kp = fVC S [] [] Try.f44 [a0] w K Kp := by kernel_rfl
theorem vc44_calls {a0 : Value} {w : World} {K : Value → World → Prop} {Kp : KP} (h : vc44 (nice Try.prog) a0 w K Kp) : Calls Try.prog 44 #[a0] w (ret K Kp) :=
 fVC_sound (args := [a0]) nice_le follows_MVcI Try.func44 (by kernel_rfl) (Eq.mp (vc44_eq _ _ _ _ _) h)

def vc66 (S : Sig) (a0 : Value) (w : World) (K : Value → World → Prop) (Kp : KP) : Prop :=
 S.op (.build 134 [(2, a0)]) w (fun v4 w =>
 S.op (.box 134 v4) w (fun v5 w =>
 K v5 w) Kp) Kp
theorem vc66_eq (S : Sig) (a0 : Value) (w : World) (K : Value → World → Prop) (Kp : KP) : vc66 S a0 w K Kp = fVC S [] [] Try.f66 [a0] w K Kp := by kernel_rfl
theorem vc66_calls {a0 : Value} {w : World} {K : Value → World → Prop} {Kp : KP} (h : vc66 (nice Try.prog) a0 w K Kp) : Calls Try.prog 66 #[a0] w (ret K Kp) :=
 fVC_sound (args := [a0]) nice_le follows_MVcI Try.func66 (by kernel_rfl) (Eq.mp (vc66_eq _ _ _ _ _) h)

def vc68 (S : Sig) (a0 a1 a2 : Value) (w : World) (K : Value → World → Prop) (Kp : KP) : Prop :=
 S.call (.fn 70) [a0, a1, a2, (.bool false)] w (fun v10 w =>
 K v10 w) Kp
theorem vc68_eq (S : Sig) (a0 a1 a2 : Value) (w : World) (K : Value → World → Prop) (Kp : KP) : vc68 S a0 a1 a2 w K Kp = fVC S [] [] Try.f68 [a0, a1, a2] w K Kp := by kernel_rfl
theorem vc68_calls {a0 a1 a2 : Value} {w : World} {K : Value → World → Prop} {Kp : KP} (h : vc68 (nice Try.prog) a0 a1 a2 w K Kp) : Calls Try.prog 68 #[a0, a1, a2] w (ret K Kp) :=
 fVC_sound (args := [a0, a1, a2]) nice_le follows_MVcI Try.func68 (by kernel_rfl) (Eq.mp (vc68_eq _ _ _ _ _ _ _) h)

def vc69 (S : Sig) (a0 a1 : Value) (w : World) (K : Value → World → Prop) (Kp : KP) : Prop :=
 S.call (.fn 82) [a0, a1, (.bool false)] w (fun v7 w =>
 K v7 w) Kp
theorem vc69_eq (S : Sig) (a0 a1 : Value) (w : World) (K : Value → World → Prop) (Kp : KP) : vc69 S a0 a1 w K Kp = fVC S [] [] Try.f69 [a0, a1] w K Kp := by kernel_rfl
theorem vc69_calls {a0 a1 : Value} {w : World} {K : Value → World → Prop} {Kp : KP} (h : vc69 (nice Try.prog) a0 a1 w K Kp) : Calls Try.prog 69 #[a0, a1] w (ret K Kp) :=
 fVC_sound (args := [a0, a1]) nice_le follows_MVcI Try.func69 (by kernel_rfl) (Eq.mp (vc69_eq _ _ _ _ _ _) h)

def vc70 (S : Sig) (a0 a1 a2 a3 : Value) (w : World) (K : Value → World → Prop) (Kp : KP) : Prop :=
 S.op (.nilCheck a0) w (fun v13 w =>
 S.op (.fieldAddr 134 v13 2) w (fun v14 w =>
 S.op (.load 99 v14) w (fun v15 w =>
 Jn fun (J4 : Value → World → Prop) =>
 (S.op (.bin .eql 99 false true v15 .nilIface) w (fun v17 w =>
 Br v17 (
 S.call (.fn 84) [a1] w (fun v19 w =>
 J4 v19 w) Kp) (
 J4 v15 w)) Kp) ∧
 (∀ (w : World) (junk : Nat → Value) (j9_hasher : Value), J4 j9_hasher w →
 Jn fun (J7 : Value → World → Prop) =>
 (S.op (.un .not a3) w (fun v22 w =>
 Br v22 (
 S.call (.fn 85) [a0] w (fun v24 w =>
 J7 v24 w) Kp) (
 J7 a0 w)) Kp) ∧
 (∀ (w : World) (junk : Nat → Value) (j10_other : Value), J7 j10_other w →
 S.op (.nilCheck j10_other) w (fun v27 w =>
 S.op (.fieldAddr 134 v27 2) w (fun v28 w =>
 S.op (.store 99 v28 j9_hasher) w (fun _ w =>
 S.op (.nilCheck a0) w (fun v30 w =>
 S.op (.fieldAddr 134 v30 1) w (fun v31 w =>
 S.op (.load 132 v31) w (fun v32 w =>
 S.op (.bin .eql 132 false true v32 .nilIface) w (fun v33 w =>
 Br v33 (
 S.op (.nilCheck j10_other) w (fun v35 w =>
 S.op (.fieldAddr 134 v35 0) w (fun v36 w =>
 S.op (.store 3 v36 (.int .i64 1)) w (fun _ w =>
 S.op (.build 148 [(0, a1), (1, a2)]) w (fun v40 w =>
 S.op (.buildSlice 149 1 [(0, v40)]) w (fun v41 w =>
 S.op (.build 151 [(0, v41)]) w (fun v42 w =>
 S.op (.box 151 v42) w (fun v43 w =>
 S.op (.mkIface 145 v43) w (fun v44 w =>
 S.op (.nilCheck j10_other) w (fun v45 w =>
 S.op (.fieldAddr 134 v45 1) w (fun v46 w =>
 S.op (.store 132 v46 v44) w (fun _ w =>
 K j10_other w) Kp) Kp) Kp) Kp) Kp) Kp) Kp) Kp) Kp) Kp) Kp) (
 S.op (.alloc 4) w (fun v11_resized w =>
 S.pur (.nilCheck a0) (fun v50 =>
 S.pur (.fieldAddr 134 v50 1) (fun v51 =>
 S.ld (.load 132 v51) w.drew (fun v52 =>
 S.pur (.nilCheck v52) (fun v60 =>
 S.call (.inv j9_hasher "Hash") [a1] w.drew (fun v57 w =>
 S.same (.load 132 v51) v52 w ∧
 S.call (.inv v52 "pub-bracken/pub/immutable.set") [a1, a2, (.int .u64 0), v57, j9_hasher, a3, v11_resized] w (fun v62 w =>
 S.pur (.nilCheck j10_other) (fun v63 =>
 S.pur (.fieldAddr 134 v63 1) (fun v64 =>
 S.op (.store 132 v64 v62) w (fun _ w =>
 S.op (.load 4 v11_resized) w (fun v65 w =>
 Br v65 (
 S.op (.nilCheck j10_other) w (fun v67 w =>
 S.op (.fieldAddr 134 v67 0) w (fun v68 w =>
 S.op (.load 3 v68) w (fun v69 w =>
 S.op (.bin .add 3 false true v69 (.int .i64 1)) w (fun v70 w =>
 S.op (.nilCheck j10_other) w (fun v71 w =>
 S.op (.fieldAddr 134 v71 0) w (fun v72 w =>
 S.op (.store 3 v72 v70) w (fun _ w =>
 K j10_other w) Kp) Kp) Kp) Kp) Kp) Kp) Kp) (
 K j10_other w)) Kp) Kp))) Kp) Kp))))) Kp)) Kp) Kp) Kp) Kp) Kp) Kp) Kp))) Kp) Kp) Kp
theorem vc70_eq (S : Sig) (a0 a1 a2 a3 : Value) (w : World) (K : Value → World → Prop) (Kp : KP) : vc70 S a0 a1 a2 a3 w K Kp = fVC S [] [(4, [9]), (7, [10])] Try.f70 [a0, a1, a2, a3] w K Kp := by kernel_rfl
theorem vc70_calls {a0 a1 a2 a3 : Value} {w : World} {K : Value → World → Prop} {Kp : KP} (h : vc70 (nice Try.prog) a0 a1 a2 a3 w K Kp) : Calls Try.prog 70 #[a0, a1, a2, a3] w (ret K Kp) :=
 fVC_sound (args := [a0, a1, a2, a3]) nice_le follows_MVcI Try.func70 (by kernel_rfl) (Eq.mp (vc70_eq _ _ _ _ _ _ _ _) h)

def vc71 (S : Sig) (a0 : Value) (w : World) (K : Value → World → Prop) (Kp : KP) : Prop :=
 Lp fun (I1 : World → Prop) (μ1 : World → Nat) => I1 w ∧
 ∀ (wl1 : World) (junk : Nat → Value), I1 wl1 →
 S.pur (.nilCheck a0) (fun v16 =>
 S.pur (.fieldAddr 139 v16 2) (fun v17 =>
 S.ld (.load 3 v17) wl1.drew (fun v18 =>
 S.pur (.nilCheck a0) (fun v19 =>
 S.pur (.fieldAddr 139 v19 1) (fun v20 =>
 S.pur (.indexAddr 137 v20 v18) (fun v21 =>
 S.op (.nilCheck v21) wl1.drew (fun v23 w =>
 S.op (.fieldAddr 136 v23 0) w (fun v24 w =>
 S.op (.load 132 v24) w (fun v25 w =>
 S.op (.tassert v25 132 200 true) w (fun v29 w =>
 S.op (.extract v29 1) w (fun v30 w =>
 S.op (.extract v29 0) w (fun v31 w =>
 Br v30 (
 S.op (.nilCheck v21) w (fun v33 w =>
 S.op (.fieldAddr 136 v33 1) w (fun v34 w =>
 S.op (.store 3 v34 (.int .i64 0)) w (fun _ w =>
 S.pur (.nilCheck a0) (fun v37 =>
 S.pur (.fieldAddr 139 v37 2) (fun v38 =>
 S.ld (.load 3 v38) w.drew (fun v39 =>
 S.pur (.bin .add 3 false true v39 (.int .i64 1)) (fun v40 =>
 S.pur (.nilCheck v31) (fun v42 =>
 S.pur (.fieldAddr 203 v42 1) (fun v43 =>
 S.ld (.load 201 v43) w.drew (fun v44 =>
 S.pur (.indexAddr 201 v44 (.int .i64 0)) (fun v45 =>
 S.ld (.load 132 v45) w.drew (fun v46 =>
 S.pur (.nilCheck a0) (fun v47 =>
 S.pur (.fieldAddr 139 v47 1) (fun v48 =>
 S.pur (.indexAddr 137 v48 v40) (fun v49 =>
 S.pur (.fieldAddr 136 v49 0) (fun v50 =>
 S.op (.store 132 v50 v46) w.drew (fun _ w =>
 S.op (.nilCheck a0) w (fun v8 w =>
 S.op (.fieldAddr 139 v8 2) w (fun v9 w =>
 S.op (.load 3 v9) w (fun v10 w =>
 S.op (.bin .add 3 false true v10 (.int .i64 1)) w (fun v11 w =>
 S.op (.nilCheck a0) w (fun v12 w =>
 S.op (.fieldAddr 139 v12 2) w (fun v13 w =>
 S.op (.store 3 v13 v11) w (fun _ w =>
 I1 w ∧ μ1 w < μ1 wl1) Kp) Kp) Kp) Kp) Kp) Kp) Kp) Kp)))))))))))))) Kp) Kp) Kp) (
 S.op (.tassert v25 132 204 true) w (fun v51 w =>
 S.op (.extract v51 1) w (fun v52 w =>
 S.op (.extract v51 0) w (fun v53 w =>
 Br v52 (
 Lp fun (I12 : Value → World → Prop) (μ12 : Value → World → Nat) => I12 (.int .i64 0) w ∧
 ∀ (wl12 : World) (junk : Nat → Value) (s5_i : Value), I12 s5_i wl12 →
 S.op (.bin .lss 3 false true s5_i (.int .i64 32)) wl12 (fun v55 w =>
 Br v55 (
 S.op (.nilCheck v53) w (fun v60 w =>
 S.op (.fieldAddr 207 v60 1) w (fun v61 w =>
 S.op (.indexAddr 205 v61 s5_i) w (fun v62 w =>
 S.op (.load 132 v62) w (fun v63 w =>
 S.op (.bin .neq 132 false true v63 .nilIface) w (fun v64 w =>
 Br v64 (
 S.op (.nilCheck v21) w (fun v67 w =>
 S.op (.fieldAddr 136 v67 1) w (fun v68 w =>
 S.op (.store 3 v68 s5_i) w (fun _ w =>
 S.pur (.nilCheck a0) (fun v71 =>
 S.pur (.fieldAddr 139 v71 2) (fun v72 =>
 S.ld (.load 3 v72) w.drew (fun v73 =>
 S.pur (.bin .add 3 false true v73 (.int .i64 1)) (fun v74 =>
 S.pur (.nilCheck v53) (fun v77 =>
 S.pur (.fieldAddr 207 v77 1) (fun v78 =>
 S.pur (.indexAddr 205 v78 s5_i) (fun v79 =>
 S.ld (.load 132 v79) w.drew (fun v80 =>
 S.pur (.nilCheck a0) (fun v81 =>
 S.pur (.fieldAddr 139 v81 1) (fun v82 =>
 S.pur (.indexAddr 137 v82 v74) (fun v83 =>
 S.pur (.fieldAddr 136 v83 0) (fun v84 =>
 S.op (.store 132 v84 v80) w.drew (fun _ w =>
 S.op (.nilCheck a0) w (fun v8 w =>
 S.op (.fieldAddr 139 v8 2) w (fun v9 w =>
 S.op (.load 3 v9) w (fun v10 w =>
 S.op (.bin .add 3 false true v10 (.int .i64 1)) w (fun v11 w =>
 S.op (.nilCheck a0) w (fun v12 w =>
 S.op (.fieldAddr 139 v12 2) w (fun v13 w =>
 S.op (.store 3 v13 v11) w (fun _ w =>
 I1 w ∧ μ1 w < μ1 wl1) Kp) Kp) Kp) Kp) Kp) Kp) Kp) Kp))))))))))))) Kp) Kp) Kp) (
 S.op (.bin .add 3 false true s5_i (.int .i64 1)) w (fun v57 w =>
 I12 v57 w ∧ μ12 v57 w < μ12 s5_i wl12) Kp)) Kp) Kp) Kp) Kp) Kp) (
 S.op (.nilCheck a0) w (fun v8 w =>
 S.op (.fieldAddr 139 v8 2) w (fun v9 w =>
 S.op (.load 3 v9) w (fun v10 w =>
 S.op (.bin .add 3 false true v10 (.int .i64 1)) w (fun v11 w =>
 S.op (.nilCheck a0) w (fun v12 w =>
 S.op (.fieldAddr 139 v12 2) w (fun v13 w =>
 S.op (.store 3 v13 v11) w (fun _ w =>
 I1 w ∧ μ1 w < μ1 wl1) Kp) Kp) Kp) Kp) Kp) Kp) Kp)) Kp) (
 S.op (.nilCheck v21) w (fun v27 w =>
 S.op (.fieldAddr 136 v27 1) w (fun v28 w =>
 S.op (.store 3 v28 (.int .i64 0)) w (fun _ w =>
 K (.tuple #[]) w) Kp) Kp) Kp)) Kp) Kp) Kp)) Kp) Kp) Kp) Kp) Kp) Kp))))))
theorem vc71_eq (S : Sig) (a0 : Value) (w : World) (K : Value → World → Prop) (Kp : KP) : vc71 S a0 w K Kp = fVC S [(1, []), (12, [5])] [] Try.f71 [a0] w K Kp := by kernel_rfl
theorem vc71_calls {a0 : Value} {w : World} {K : Value → World → Prop} {Kp : KP} (h : vc71 (nice Try.prog) a0 w K Kp) : Calls Try.prog 71 #[a0] w (ret K Kp) :=
 fVC_sound (args := [a0]) nice_le follows_MVcI Try.func71 (by kernel_rfl) (Eq.mp (vc71_eq _ _ _ _ _) h)

def vc72 (S : Sig) (a0 : Value) (w : World) (K : Value → World → Prop) (Kp : KP) : Prop :=
 Lp fun (I0 : World → Prop) (μ0 : World → Nat) => I0 w ∧
 ∀ (wl0 : World) (junk : Nat → Value), I0 wl0 →
 S.op (.nilCheck a0) wl0 (fun v10 w =>
 S.op (.fieldAddr 139 v10 2) w (fun v11 w =>
 S.op (.load 3 v11) w (fun v12 w =>
 S.op (.bin .geq 3 false true v12 (.int .i64 0)) w (fun v13 w =>
 Br v13 (
 Jn fun (J1 : World → Prop) =>
 (S.pur (.nilCheck a0) (fun v23 =>
 S.pur (.fieldAddr 139 v23 2) (fun v24 =>
 S.ld (.load 3 v24) w.drew (fun v25 =>
 S.pur (.nilCheck a0) (fun v26 =>
 S.pur (.fieldAddr 139 v26 1) (fun v27 =>
 S.pur (.indexAddr 137 v27 v25) (fun v28 =>
 S.op (.nilCheck v28) w.drew (fun v30 w =>
 S.op (.fieldAddr 136 v30 0) w (fun v31 w =>
 S.op (.load 132 v31) w (fun v32 w =>
 S.op (.tassert v32 132 145 true) w (fun v33 w =>
 S.op (.extract v33 1) w (fun v34 w =>
 S.op (.extract v33 0) w (fun v35 w =>
 Br v34 (
 S.pur (.nilCheck v28) (fun v37 =>
 S.pur (.fieldAddr 136 v37 1) (fun v38 =>
 S.ld (.load 3 v38) w.drew (fun v39 =>
 S.pur (.nilCheck v35) (fun v41 =>
 S.pur (.fieldAddr 151 v41 0) (fun v42 =>
 S.ld (.load 149 v42) w.drew (fun v43 =>
 S.ld (.blt .len [149] 3 [v43]) w.drew (fun v44 =>
 S.pur (.bin .sub 3 false true v44 (.int .i64 1)) (fun v45 =>
 S.pur (.bin .lss 3 false false v39 v45) (fun v46 =>
 Br v46 (
 S.op (.nilCheck v28) w.drew (fun v48 w =>
 S.op (.fieldAddr 136 v48 1) w (fun v49 w =>
 S.op (.load 3 v49) w (fun v50 w =>
 S.op (.bin .add 3 false true v50 (.int .i64 1)) w (fun v51 w =>
 S.op (.nilCheck v28) w (fun v52 w =>
 S.op (.fieldAddr 136 v52 1) w (fun v53 w =>
 S.op (.store 3 v53 v51) w (fun _ w =>
 K (.tuple #[]) w) Kp) Kp) Kp) Kp) Kp) Kp) Kp) (
 J1 w.drew))))))))))) (
 S.op (.tassert v32 132 200 true) w (fun v54 w =>
 S.op (.extract v54 1) w (fun v55 w =>
 S.op (.extract v54 0) w (fun v56 w =>
 Br v55 (
 S.pur (.nilCheck v28) (fun v58 =>
 S.pur (.fieldAddr 136 v58 1) (fun v59 =>
 S.ld (.load 3 v59) w.drew (fun v60 =>
 S.pur (.nilCheck v56) (fun v62 =>
 S.pur (.fieldAddr 203 v62 1) (fun v63 =>
 S.ld (.load 201 v63) w.drew (fun v64 =>
 S.ld (.blt .len [201] 3 [v64]) w.drew (fun v65 =>
 S.pur (.bin .sub 3 false true v65 (.int .i64 1)) (fun v66 =>
 S.pur (.bin .lss 3 false false v60 v66) (fun v67 =>
 Br v67 (
 S.op (.nilCheck v28) w.drew (fun v69 w =>
 S.op (.fieldAddr 136 v69 1) w (fun v70 w =>
 S.op (.load 3 v70) w (fun v71 w =>
 S.op (.bin .add 3 false true v71 (.int .i64 1)) w (fun v72 w =>
 S.op (.nilCheck v28) w (fun v73 w =>
 S.op (.fieldAddr 136 v73 1) w (fun v74 w =>
 S.op (.store 3 v74 v72) w (fun _ w =>
 S.pur (.nilCheck a0) (fun v77 =>
 S.pur (.fieldAddr 139 v77 2) (fun v78 =>
 S.ld (.load 3 v78) w.drew (fun v79 =>
 S.pur (.bin .add 3 false true v79 (.int .i64 1)) (fun v80 =>
 S.pur (.nilCheck v56) (fun v82 =>
 S.pur (.fieldAddr 203 v82 1) (fun v83 =>
 S.ld (.load 201 v83) w.drew (fun v84 =>
 S.pur (.nilCheck v28) (fun v86 =>
 S.pur (.fieldAddr 136 v86 1) (fun v87 =>
 S.ld (.load 3 v87) w.drew (fun v88 =>
 S.pur (.indexAddr 201 v84 v88) (fun v89 =>
 S.ld (.load 132 v89) w.drew (fun v90 =>
 S.pur (.nilCheck a0) (fun v91 =>
 S.pur (.fieldAddr 139 v91 1) (fun v92 =>
 S.pur (.indexAddr 137 v92 v80) (fun v93 =>
 S.pur (.fieldAddr 136 v93 0) (fun v94 =>
 S.op (.store 132 v94 v90) w.drew (fun _ w =>
 S.op (.nilCheck a0) w (fun v96 w =>
 S.op (.fieldAddr 139 v96 2) w (fun v97 w =>
 S.op (.load 3 v97) w (fun v98 w =>
 S.op (.bin .add 3 false true v98 (.int .i64 1)) w (fun v99 w =>
 S.op (.nilCheck a0) w (fun v100 w =>
 S.op (.fieldAddr 139 v100 2) w (fun v101 w =>
 S.op (.store 3 v101 v99) w (fun _ w =>
 S.call (.fn 71) [a0] w (fun v103 w =>
 K (.tuple #[]) w) Kp) Kp) Kp) Kp) Kp) Kp) Kp) Kp) Kp))))))))))))))))) Kp) Kp) Kp) Kp) Kp) Kp) Kp) (
 J1 w.drew))))))))))) (
 S.op (.tassert v32 132 204 true) w (fun v104 w =>
 S.op (.extract v104 1) w (fun v105 w =>
 S.op (.extract v104 0) w (fun v106 w =>
 Br v105 (
 S.op (.nilCheck v28) w (fun v108 w =>
 S.op (.fieldAddr 136 v108 1) w (fun v109 w =>
 S.op (.load 3 v109) w (fun v110 w =>
 S.op (.bin .add 3 false true v110 (.int .i64 1)) w (fun v111 w =>
 Lp fun (I18 : Value → World → Prop) (μ18 : Value → World → Nat) => I18 v111 w ∧
 ∀ (wl18 : World) (junk : Nat → Value) (s6_i : Value), I18 s6_i wl18 →
 S.op (.bin .lss 3 false true s6_i (.int .i64 32)) wl18 (fun v113 w =>
 Br v113 (
 S.op (.nilCheck v106) w (fun v118 w =>
 S.op (.fieldAddr 207 v118 1) w (fun v119 w =>
 S.op (.indexAddr 205 v119 s6_i) w (fun v120 w =>
 S.op (.load 132 v120) w (fun v121 w =>
 S.op (.bin .neq 132 false true v121 .nilIface) w (fun v122 w =>
 Br v122 (
 S.op (.nilCheck v28) w (fun v125 w =>
 S.op (.fieldAddr 136 v125 1) w (fun v126 w =>
 S.op (.store 3 v126 s6_i) w (fun _ w =>
 S.pur (.nilCheck a0) (fun v129 =>
 S.pur (.fieldAddr 139 v129 2) (fun v130 =>
 S.ld (.load 3 v130) w.drew (fun v131 =>
 S.pur (.bin .add 3 false true v131 (.int .i64 1)) (fun v132 =>
 S.pur (.nilCheck v28) (fun v135 =>
 S.pur (.fieldAddr 136 v135 1) (fun v136 =>
 S.ld (.load 3 v136) w.drew (fun v137 =>
 S.pur (.nilCheck v106) (fun v138 =>
 S.pur (.fieldAddr 207 v138 1) (fun v139 =>
 S.pur (.indexAddr 205 v139 v137) (fun v140 =>
 S.ld (.load 132 v140) w.drew (fun v141 =>
 S.pur (.nilCheck a0) (fun v142 =>
 S.pur (.fieldAddr 139 v142 1) (fun v143 =>
 S.pur (.indexAddr 137 v143 v132) (fun v144 =>
 S.pur (.fieldAddr 136 v144 0) (fun v145 =>
 S.op (.store 132 v145 v141) w.drew (fun _ w =>
 S.op (.nilCheck a0) w (fun v147 w =>
 S.op (.fieldAddr 139 v147 2) w (fun v148 w =>
 S.op (.load 3 v148) w (fun v149 w =>
 S.op (.bin .add 3 false true v149 (.int .i64 1)) w (fun v150 w =>
 S.op (.nilCheck a0) w (fun v151 w =>
 S.op (.fieldAddr 139 v151 2) w (fun v152 w =>
 S.op (.store 3 v152 v150) w (fun _ w =>
 S.call (.fn 71) [a0] w (fun v154 w =>
 K (.tuple #[]) w) Kp) Kp) Kp) Kp) Kp) Kp) Kp) Kp) Kp)))))))))))))))) Kp) Kp) Kp) (
 S.op (.bin .add 3 false true s6_i (.int .i64 1)) w (fun v115 w =>
 I18 v115 w ∧ μ18 v115 w < μ18 s6_i wl18) Kp)) Kp) Kp) Kp) Kp) Kp) (
 J1 w)) Kp) Kp) Kp) Kp) Kp) (
 S.op (.tassert v32 132 152 true) w (fun v155 w =>
 S.op (.extract v155 1) w (fun v156 w =>
 S.op (.extract v155 0) w (fun v157 w =>
 Br v156 (
 J1 w) (
 S.op (.tassert v32 132 155 true) w (fun v158 w =>
 S.op (.extract v158 1) w (fun v159 w =>
 S.op (.extract v158 0) w (fun v160 w =>
 Br v159 (
 S.pur (.nilCheck v28) (fun v162 =>
 S.pur (.fieldAddr 136 v162 1) (fun v163 =>
 S.ld (.load 3 v163) w.drew (fun v164 =>
 S.pur (.nilCheck v160) (fun v166 =>
 S.pur (.fieldAddr 157 v166 1) (fun v167 =>
 S.ld (.load 149 v167) w.drew (fun v168 =>
 S.ld (.blt .len [149] 3 [v168]) w.drew (fun v169 =>
 S.pur (.bin .sub 3 false true v169 (.int .i64 1)) (fun v170 =>
 S.pur (.bin .lss 3 false false v164 v170) (fun v171 =>
 Br v171 (
 S.op (.nilCheck v28) w.drew (fun v173 w =>
 S.op (.fieldAddr 136 v173 1) w (fun v174 w =>
 S.op (.load 3 v174) w (fun v175 w =>
 S.op (.bin .add 3 false true v175 (.int .i64 1)) w (fun v176 w =>
 S.op (.nilCheck v28) w (fun v177 w =>
 S.op (.fieldAddr 136 v177 1) w (fun v178 w =>
 S.op (.store 3 v178 v176) w (fun _ w =>
 K (.tuple #[]) w) Kp) Kp) Kp) Kp) Kp) Kp) Kp) (
 J1 w.drew))))))))))) (
 J1 w)) Kp) Kp) Kp)) Kp) Kp) Kp)) Kp) Kp) Kp)) Kp) Kp) Kp)) Kp) Kp) Kp) Kp) Kp) Kp))))))) ∧
 (∀ (w : World) (junk : Nat → Value), J1 w →
 S.op (.nilCheck a0) w (fun v15 w =>
 S.op (.fieldAddr 139 v15 2) w (fun v16 w =>
 S.op (.load 3 v16) w (fun v17 w =>
 S.op (.bin .sub 3 false true v17 (.int .i64 1)) w (fun v18 w =>
 S.op (.nilCheck a0) w (fun v19 w =>
 S.op (.fieldAddr 139 v19 2) w (fun v20 w =>
 S.op (.store 3 v20 v18) w (fun _ w =>
 I0 w ∧ μ0 w < μ0 wl0) Kp) Kp) Kp) Kp) Kp) Kp) Kp)) (
 K (.tuple #[]) w)) Kp) Kp) Kp) Kp
theorem vc72_eq (S : Sig) (a0 : Value) (w : World) (K : Value → World → Prop) (Kp : KP) : vc72 S a0 w K Kp = fVC S [(0, []), (18, [6])] [(1, [])] Try.f72 [a0] w K Kp := by kernel_rfl
theorem vc72_calls {a0 : Value} {w : World} {K : Value → World → Prop} {Kp : KP} (h : vc72 (nice Try.prog) a0 w K Kp) : Calls Try.prog 72 #[a0] w (ret K Kp) :=
 fVC_sound (args := [a0]) nice_le follows_MVcI Try.func72 (by kernel_rfl) (Eq.mp (vc72_eq _ _ _ _ _) h)

def vc82 (S : Sig) (a0 a1 a2 : Value) (w : World) (K : Value → World → Prop) (Kp : KP) : Prop :=
 S.op (.nilCheck a0) w (fun v11 w =>
 S.op (.fieldAddr 134 v11 1) w (fun v12 w =>
 S.op (.load 132 v12) w (fun v13 w =>
 S.op (.bin .eql 132 false true v13 .nilIface) w (fun v14 w =>
 Br v14 (
 K a0 w) (
 S.op (.alloc 4) w (fun v7_resized w =>
 S.pur (.nilCheck a0) (fun v17 =>
 S.pur (.fieldAddr 134 v17 1) (fun v18 =>
 S.ld (.load 132 v18) w.drew (fun v19 =>
 S.pur (.nilCheck a0) (fun v22 =>
 S.pur (.fieldAddr 134 v22 2) (fun v23 =>
 S.ld (.load 99 v23) w.drew (fun v24 =>
 S.pur (.nilCheck a0) (fun v28 =>
 S.pur (.fieldAddr 134 v28 2) (fun v29 =>
 S.ld (.load 99 v29) w.drew (fun v30 =>
 S.pur (.nilCheck v19) (fun v32 =>
 S.call (.inv v24 "Hash") [a1] w.drew (fun v26 w =>
 S.same (.load 99 v29) v30 w ∧
 S.same (.load 132 v18) v19 w ∧
 S.call (.inv v19 "pub-bracken/pub/immutable.delete") [a1, (.int .u64 0), v26, v30, a2, v7_resized] w (fun v34 w =>
 S.op (.load 4 v7_resized) w (fun v35 w =>
 S.op (.un .not v35) w (fun v36 w =>
 Br v36 (
 K a0 w) (
 S.op (.un .not a2) w (fun v40 w =>
 Br v40 (
 S.call (.fn 85) [a0] w (fun v42 w =>
 S.op (.nilCheck a0) w (fun v45 w =>
 S.op (.fieldAddr 134 v45 0) w (fun v46 w =>
 S.op (.load 3 v46) w (fun v47 w =>
 S.op (.bin .sub 3 false true v47 (.int .i64 1)) w (fun v48 w =>
 S.op (.nilCheck v42) w (fun v49 w =>
 S.op (.fieldAddr 134 v49 0) w (fun v50 w =>
 S.op (.store 3 v50 v48) w (fun _ w =>
 S.op (.nilCheck v42) w (fun v53 w =>
 S.op (.fieldAddr 134 v53 1) w (fun v54 w =>
 S.op (.store 132 v54 v34) w (fun _ w =>
 K v42 w) Kp) Kp) Kp) Kp) Kp) Kp) Kp) Kp) Kp) Kp) Kp) (
 S.op (.nilCheck a0) w (fun v45 w =>
 S.op (.fieldAddr 134 v45 0) w (fun v46 w =>
 S.op (.load 3 v46) w (fun v47 w =>
 S.op (.bin .sub 3 false true v47 (.int .i64 1)) w (fun v48 w =>
 S.op (.nilCheck a0) w (fun v49 w =>
 S.op (.fieldAddr 134 v49 0) w (fun v50 w =>
 S.op (.store 3 v50 v48) w (fun _ w =>
 S.op (.nilCheck a0) w (fun v53 w =>
 S.op (.fieldAddr 134 v53 1) w (fun v54 w =>
 S.op (.store 132 v54 v34) w (fun _ w =>
 K a0 w) Kp) Kp) Kp) Kp) Kp) Kp) Kp) Kp) Kp) Kp)) Kp)) Kp) Kp) Kp) Kp))))))))))) Kp)) Kp) Kp) Kp) Kp
theorem vc82_eq (S : Sig) (a0 a1 a2 : Value) (w : World) (K : Value → World → Prop) (Kp : KP) : vc82 S a0 a1 a2 w K Kp = fVC S [] [] Try.f82 [a0, a1, a2] w K Kp := by kernel_rfl
theorem vc82_calls {a0 a1 a2 : Value} {w : World} {K : Value → World → Prop} {Kp : KP} (h : vc82 (nice Try.prog) a0 a1 a2 w K Kp) : Calls Try.prog 82 #[a0, a1, a2] w (ret K Kp) :=
 fVC_sound (args := [a0, a1, a2]) nice_le follows_MVcI Try.func82 (by kernel_rfl) (Eq.mp (vc82_eq _ _ _ _ _ _ _) h)

def vc85 (S : Sig) (a0 : Value) (w : World) (K : Value → World → Prop) (Kp : KP) : Prop :=
 S.op (.nilCheck a0) w (fun v5 w =>
 S.op (.load 134 v5) w (fun v6 w =>
 S.op (.alloc 134) w (fun v3_other w =>
 S.op (.store 134 v3_other v6) w (fun _ w =>
 K v3_other w) Kp) Kp) Kp) Kp
theorem vc85_eq (S : Sig) (a0 : Value) (w : World) (K : Value → World → Prop) (Kp : KP) : vc85 S a0 w K Kp = fVC S [] [] Try.f85 [a0] w K Kp := by kernel_rfl
theorem vc85_calls {a0 : Value} {w : World} {K : Value → World → Prop} {Kp : KP} (h : vc85 (nice Try.prog) a0 w K Kp) : Calls Try.prog 85 #[a0] w (ret K Kp) :=
 fVC_sound (args := [a0]) nice_le follows_MVcI Try.func85 (by kernel_rfl) (Eq.mp (vc85_eq _ _ _ _ _) h)

def vc116 (S : Sig) (a0 a1 a2 a3 a4 a5 a6 : Value) (w : World) (K : Value → World → Prop) (Kp : KP) : Prop :=
 S.call (.fn 118) [a0, a1, a4] w (fun v20 w =>
 S.op (.bin .eql 3 false true v20 (.int .i64 (-1))) w (fun v22 w =>
 Br v22 (
 S.op (.mkIface 145 a0) w (fun v24 w =>
 K v24 w) Kp) (
 S.op (.nilCheck a6) w (fun v26 w =>
 S.op (.store 4 v26 (.bool true)) w (fun _ w =>
 S.op (.nilCheck a0) w (fun v28 w =>
 S.op (.fieldAddr 151 v28 0) w (fun v29 w =>
 S.op (.load 149 v29) w (fun v30 w =>
 S.op (.blt .len [149] 3 [v30]) w (fun v31 w =>
 S.op (.bin .eql 3 false true v31 (.int .i64 1)) w (fun v32 w =>
 Br v32 (
 K .nilIface w) (
 Br a5 (
 S.pur (.nilCheck a0) (fun v35 =>
 S.pur (.fieldAddr 151 v35 0) (fun v36 =>
 S.ld (.load 149 v36) w.drew (fun v37 =>
 S.pur (.slice 149 v37 (some v20) none none) (fun v39 =>
 S.pur (.nilCheck a0) (fun v41 =>
 S.pur (.fieldAddr 151 v41 0) (fun v42 =>
 S.ld (.load 149 v42) w.drew (fun v43 =>
 S.pur (.bin .add 3 false true v20 (.int .i64 1)) (fun v45 =>
 S.pur (.slice 149 v43 (some v45) none none) (fun v46 =>
 S.op (.blt .copy [149, 149] 3 [v39, v46]) w.drew (fun v47 w =>
 S.pur (.nilCheck a0) (fun v49 =>
 S.pur (.fieldAddr 151 v49 0) (fun v50 =>
 S.ld (.load 149 v50) w.drew (fun v51 =>
 S.pur (.nilCheck a0) (fun v53 =>
 S.pur (.fieldAddr 151 v53 0) (fun v54 =>
 S.ld (.load 149 v54) w.drew (fun v55 =>
 S.ld (.blt .len [149] 3 [v55]) w.drew (fun v56 =>
 S.pur (.bin .sub 3 false true v56 (.int .i64 1)) (fun v57 =>
 S.pur (.build 148 []) (fun v58 =>
 S.pur (.indexAddr 149 v51 v57) (fun v59 =>
 S.op (.store 148 v59 v58) w.drew (fun _ w =>
 S.pur (.nilCheck a0) (fun v62 =>
 S.pur (.fieldAddr 151 v62 0) (fun v63 =>
 S.ld (.load 149 v63) w.drew (fun v64 =>
 S.pur (.nilCheck a0) (fun v66 =>
 S.pur (.fieldAddr 151 v66 0) (fun v67 =>
 S.ld (.load 149 v67) w.drew (fun v68 =>
 S.ld (.blt .len [149] 3 [v68]) w.drew (fun v69 =>
 S.pur (.bin .sub 3 false true v69 (.int .i64 1)) (fun v70 =>
 S.pur (.slice 149 v64 none (some v70) none) (fun v71 =>
 S.pur (.nilCheck a0) (fun v72 =>
 S.pur (.fieldAddr 151 v72 0) (fun v73 =>
 S.op (.store 149 v73 v71) w.drew (fun _ w =>
 S.op (.mkIface 145 a0) w (fun v75 w =>
 K v75 w) Kp) Kp)))))))))))) Kp))))))))))) Kp)))))))))) (
 S.op (.nilCheck a0) w (fun v77 w =>
 S.op (.fieldAddr 151 v77 0) w (fun v78 w =>
 S.op (.load 149 v78) w (fun v79 w =>
 S.op (.blt .len [149] 3 [v79]) w (fun v80 w =>
 S.op (.bin .sub 3 false true v80 (.int .i64 1)) w (fun v81 w =>
 S.op (.mkSlice 149 v81 v81) w (fun v82 w =>
 S.op (.build 151 [(0, v82)]) w (fun v83 w =>
 S.op (.box 151 v83) w (fun v84 w =>
 S.pur (.nilCheck v84) (fun v86 =>
 S.pur (.fieldAddr 151 v86 0) (fun v87 =>
 S.ld (.load 149 v87) w.drew (fun v88 =>
 S.pur (.slice 149 v88 none (some v20) none) (fun v90 =>
 S.pur (.nilCheck a0) (fun v92 =>
 S.pur (.fieldAddr 151 v92 0) (fun v93 =>
 S.ld (.load 149 v93) w.drew (fun v94 =>
 S.pur (.slice 149 v94 none (some v20) none) (fun v96 =>
 S.op (.blt .copy [149, 149] 3 [v90, v96]) w.drew (fun v97 w =>
 S.pur (.nilCheck v84) (fun v99 =>
 S.pur (.fieldAddr 151 v99 0) (fun v100 =>
 S.ld (.load 149 v100) w.drew (fun v101 =>
 S.pur (.slice 149 v101 (some v20) none none) (fun v103 =>
 S.pur (.nilCheck a0) (fun v105 =>
 S.pur (.fieldAddr 151 v105 0) (fun v106 =>
 S.ld (.load 149 v106) w.drew (fun v107 =>
 S.pur (.bin .add 3 false true v20 (.int .i64 1)) (fun v109 =>
 S.pur (.slice 149 v107 (some v109) none none) (fun v110 =>
 S.op (.blt .copy [149, 149] 3 [v103, v110]) w.drew (fun v111 w =>
 S.op (.mkIface 145 v84) w (fun v113 w =>
 K v113 w) Kp) Kp)))))))))) Kp))))))))) Kp) Kp) Kp) Kp) Kp) Kp) Kp) Kp))) Kp) Kp) Kp) Kp) Kp) Kp) Kp)) Kp) Kp
theorem vc116_eq (S : Sig) (a0 a1 a2 a3 a4 a5 a6 : Value) (w : World) (K : Value → World → Prop) (Kp : KP) : vc116 S a0 a1 a2 a3 a4 a5 a6 w K Kp = fVC S [] [] Try.f116 [a0, a1, a2, a3, a4, a5, a6] w K Kp := by kernel_rfl
theorem vc116_calls {a0 a1 a2 a3 a4 a5 a6 : Value} {w : World} {K : Value → World → Prop} {Kp : KP} (h : vc116 (nice Try.prog) a0 a1 a2 a3 a4 a5 a6 w K Kp) : Calls Try.prog 116 #[a0, a1, a2, a3, a4, a5, a6] w (ret K Kp) :=
 fVC_sound (args := [a0, a1, a2, a3, a4, a5, a6]) nice_le follows_MVcI Try.func116 (by kernel_rfl) (Eq.mp (vc116_eq _ _ _ _ _ _ _ _ _ _ _) h)

def vc118 (S : Sig) (a0 a1 a2 : Value) (w : World) (K : Value → World → Prop) (Kp : KP) : Prop :=
 S.op (.nilCheck a0) w (fun v9 w =>
 S.op (.fieldAddr 151 v9 0) w (fun v10 w =>
 S.op (.load 149 v10) w (fun v11 w =>
 S.op (.blt .len [149] 3 [v11]) w (fun v12 w =>
 Lp fun (I2 : Value → World → Prop) (μ2 : Value → World → Nat) => I2 (.int .i64 0) w ∧
 ∀ (wl2 : World) (junk : Nat → Value) (s13_ : Value), I2 s13_ wl2 →
 S.op (.bin .lss 3 false false s13_ v12) wl2 (fun v14 w =>
 Br v14 (
 S.pur (.nilCheck a0) (fun v18 =>
 S.pur (.fieldAddr 151 v18 0) (fun v19 =>
 S.ld (.load 149 v19) w.drew (fun v20 =>
 S.pur (.indexAddr 149 v20 s13_) (fun v22 =>
 S.pur (.fieldAddr 148 v22 0) (fun v23 =>
 S.ld (.load 2 v23) w.drew (fun v24 =>
 S.pur (.mkFunc (Fn.method "Equal") [a2] []) (fun v26 =>
 S.pur (.nilCheck v26) (fun v27 =>
 S.call (.inv a2 "Equal") [v24, a1] w.drew (fun v29 w =>
 Br v29 (
 K s13_ w) (
 S.op (.bin .add 3 false true s13_ (.int .i64 1)) w (fun v31 w =>
 I2 v31 w ∧ μ2 v31 w < μ2 s13_ wl2) Kp)) Kp))))))))) (
 K (.int .i64 (-1)) w)) Kp) Kp) Kp) Kp) Kp
theorem vc118_eq (S : Sig) (a0 a1 a2 : Value) (w : World) (K : Value → World → Prop) (Kp : KP) : vc118 S a0 a1 a2 w K Kp = fVC S [(2, [13])] [] Try.f118 [a0, a1, a2] w K Kp := by kernel_rfl
theorem vc118_calls {a0 a1 a2 : Value} {w : World} {K : Value → World → Prop} {Kp : KP} (h : vc118 (nice Try.prog) a0 a1 a2 w K Kp) : Calls Try.prog 118 #[a0, a1, a2] w (ret K Kp) :=
 fVC_sound (args := [a0, a1, a2]) nice_le follows_MVcI Try.func118 (by kernel_rfl) (Eq.mp (vc118_eq _ _ _ _ _ _ _) h)

def vc119 (S : Sig) (a0 a1 a2 a3 a4 a5 a6 a7 : Value) (w : World) (K : Value → World → Prop) (Kp : KP) : Prop :=
 S.call (.fn 118) [a0, a1, a5] w (fun v25 w =>
 Jn fun (J4 : World → Prop) =>
 (S.op (.bin .eql 3 false true v25 (.int .i64 (-1))) w (fun v27 w =>
 Br v27 (
 S.op (.nilCheck a7) w (fun v29 w =>
 S.op (.store 4 v29 (.bool true)) w (fun _ w =>
 J4 w) Kp) Kp) (
 J4 w)) Kp) ∧
 (∀ (w : World) (junk : Nat → Value), J4 w →
 Jn fun (J12 : World → Prop) =>
 (S.op (.bin .eql 3 false true v25 (.int .i64 (-1))) w (fun v31 w =>
 Br v31 (
 S.op (.nilCheck a0) w (fun v34 w =>
 S.op (.fieldAddr 151 v34 0) w (fun v35 w =>
 S.op (.load 149 v35) w (fun v36 w =>
 S.op (.blt .len [149] 3 [v36]) w (fun v37 w =>
 S.op (.bin .geq 3 false true v37 (.int .i64 8)) w (fun v38 w =>
 Br v38 (
 S.call (.inv a5 "Hash") [a1] w (fun v42 w =>
 S.call (.fn 120) [v42, a1, a2] w (fun v45 w =>
 S.op (.mkIface 152 v45) w (fun v46 w =>
 S.op (.nilCheck a0) w (fun v48 w =>
 S.op (.fieldAddr 151 v48 0) w (fun v49 w =>
 S.op (.load 149 v49) w (fun v50 w =>
 S.op (.blt .len [149] 3 [v50]) w (fun v51 w =>
 Lp fun (I7 : Value → Value → World → Prop) (μ7 : Value → Value → World → Nat) => I7 v46 (.int .i64 0) w ∧
 ∀ (wl7 : World) (junk : Nat → Value) (s18_node : Value) (s52_ : Value), I7 s18_node s52_ wl7 →
 S.op (.bin .lss 3 false false s52_ v51) wl7 (fun v53 w =>
 Br v53 (
 S.op (.indexAddr 149 v50 s52_) w (fun v54 w =>
 S.op (.load 148 v54) w (fun v55 w =>
 S.op (.alloc 148) w (fun v20_entry w =>
 S.op (.store 148 v20_entry v55) w (fun _ w =>
 S.pur (.fieldAddr 148 v20_entry 0) (fun v57 =>
 S.ld (.load 2 v57) w.drew (fun v58 =>
 S.pur (.fieldAddr 148 v20_entry 1) (fun v59 =>
 S.ld (.load 2 v59) w.drew (fun v60 =>
 S.pur (.fieldAddr 148 v20_entry 0) (fun v62 =>
 S.ld (.load 2 v62) w.drew (fun v63 =>
 S.pur (.mkFunc (Fn.method "pub-bracken/pub/immutable.set") [s18_node] []) (fun v67 =>
 S.pur (.nilCheck v67) (fun v68 =>
 S.call (.inv a5 "Hash") [v63] w.drew (fun v64 w =>
 S.same (.load 2 v59) v60 w ∧
 S.same (.load 2 v57) v58 w ∧
 S.call (.inv s18_node "pub-bracken/pub/immutable.set") [v58, v60, (.int .u64 0), v64, a5, (.bool false), a7] w (fun v70 w =>
 S.op (.bin .add 3 false true s52_ (.int .i64 1)) w (fun v71 w =>
 I7 v70 v71 w ∧ μ7 v70 v71 w < μ7 s18_node s52_ wl7) Kp) Kp) Kp))))))))) Kp) Kp) Kp) Kp) (
 K s18_node w)) Kp) Kp) Kp) Kp) Kp) Kp) Kp) Kp) (
 J12 w)) Kp) Kp) Kp) Kp) Kp) (
 J12 w)) Kp) ∧
 (∀ (w : World) (junk : Nat → Value), J12 w →
 Br a6 (
 S.op (.bin .neq 3 false true v25 (.int .i64 (-1))) w (fun v75 w =>
 Br v75 (
 S.op (.nilCheck a0) w (fun v77 w =>
 S.op (.fieldAddr 151 v77 0) w (fun v78 w =>
 S.op (.load 149 v78) w (fun v79 w =>
 S.op (.build 148 [(0, a1), (1, a2)]) w (fun v83 w =>
 S.op (.indexAddr 149 v79 v25) w (fun v84 w =>
 S.op (.store 148 v84 v83) w (fun _ w =>
 S.op (.mkIface 145 a0) w (fun v98 w =>
 K v98 w) Kp) Kp) Kp) Kp) Kp) Kp) Kp) (
 S.op (.nilCheck a0) w (fun v87 w =>
 S.op (.fieldAddr 151 v87 0) w (fun v88 w =>
 S.op (.load 149 v88) w (fun v89 w =>
 S.op (.build 148 [(0, a1), (1, a2)]) w (fun v92 w =>
 S.op (.buildSlice 149 1 [(0, v92)]) w (fun v93 w =>
 S.op (.blt .append [149, 149] 149 [v89, v93]) w (fun v94 w =>
 S.op (.nilCheck a0) w (fun v95 w =>
 S.op (.fieldAddr 151 v95 0) w (fun v96 w =>
 S.op (.store 149 v96 v94) w (fun _ w =>
 S.op (.mkIface 145 a0) w (fun v98 w =>
 K v98 w) Kp) Kp) Kp) Kp) Kp) Kp) Kp) Kp) Kp) Kp)) Kp) (
 S.op (.alloc 151) w (fun v21_other w =>
 S.op (.bin .neq 3 false true v25 (.int .i64 (-1))) w (fun v100 w =>
 Br v100 (
 S.op (.nilCheck a0) w (fun v102 w =>
 S.op (.fieldAddr 151 v102 0) w (fun v103 w =>
 S.op (.load 149 v103) w (fun v104 w =>
 S.op (.blt .len [149] 3 [v104]) w (fun v105 w =>
 S.op (.mkSlice 149 v105 v105) w (fun v106 w =>
 S.op (.fieldAddr 151 v21_other 0) w (fun v107 w =>
 S.op (.store 149 v107 v106) w (fun _ w =>
 S.pur (.fieldAddr 151 v21_other 0) (fun v108 =>
 S.ld (.load 149 v108) w.drew (fun v109 =>
 S.pur (.nilCheck a0) (fun v111 =>
 S.pur (.fieldAddr 151 v111 0) (fun v112 =>
 S.ld (.load 149 v112) w.drew (fun v113 =>
 S.op (.blt .copy [149, 149] 3 [v109, v113]) w.drew (fun v114 w =>
 S.op (.fieldAddr 151 v21_other 0) w (fun v115 w =>
 S.op (.load 149 v115) w (fun v116 w =>
 S.op (.build 148 [(0, a1), (1, a2)]) w (fun v120 w =>
 S.op (.indexAddr 149 v116 v25) w (fun v121 w =>
 S.op (.store 148 v121 v120) w (fun _ w =>
 S.op (.mkIface 145 v21_other) w (fun v147 w =>
 K v147 w) Kp) Kp) Kp) Kp) Kp) Kp) Kp)))))) Kp) Kp) Kp) Kp) Kp) Kp) Kp) (
 S.op (.nilCheck a0) w (fun v123 w =>
 S.op (.fieldAddr 151 v123 0) w (fun v124 w =>
 S.op (.load 149 v124) w (fun v125 w =>
 S.op (.blt .len [149] 3 [v125]) w (fun v126 w =>
 S.op (.bin .add 3 false true v126 (.int .i64 1)) w (fun v127 w =>
 S.op (.mkSlice 149 v127 v127) w (fun v128 w =>
 S.op (.fieldAddr 151 v21_other 0) w (fun v129 w =>
 S.op (.store 149 v129 v128) w (fun _ w =>
 S.pur (.fieldAddr 151 v21_other 0) (fun v130 =>
 S.ld (.load 149 v130) w.drew (fun v131 =>
 S.pur (.nilCheck a0) (fun v133 =>
 S.pur (.fieldAddr 151 v133 0) (fun v134 =>
 S.ld (.load 149 v134) w.drew (fun v135 =>
 S.op (.blt .copy [149, 149] 3 [v131, v135]) w.drew (fun v136 w =>
 S.op (.fieldAddr 151 v21_other 0) w (fun v137 w =>
 S.op (.load 149 v137) w (fun v138 w =>
 S.op (.fieldAddr 151 v21_other 0) w (fun v139 w =>
 S.op (.load 149 v139) w (fun v140 w =>
 S.op (.blt .len [149] 3 [v140]) w (fun v141 w =>
 S.op (.bin .sub 3 false true v141 (.int .i64 1)) w (fun v142 w =>
 S.op (.build 148 [(0, a1), (1, a2)]) w (fun v145 w =>
 S.op (.indexAddr 149 v138 v142) w (fun v146 w =>
 S.op (.store 148 v146 v145) w (fun _ w =>
 S.op (.mkIface 145 v21_other) w (fun v147 w =>
 K v147 w) Kp) Kp) Kp) Kp) Kp) Kp) Kp) Kp) Kp) Kp) Kp)))))) Kp) Kp) Kp) Kp) Kp) Kp) Kp) Kp)) Kp) Kp)))) Kp
theorem vc119_eq (S : Sig) (a0 a1 a2 a3 a4 a5 a6 a7 : Value) (w : World) (K : Value → World → Prop) (Kp : KP) : vc119 S a0 a1 a2 a3 a4 a5 a6 a7 w K Kp = fVC S [(7, [18, 52])] [(4, []), (12, [])] Try.f119 [a0, a1, a2, a3, a4, a5, a6, a7] w K Kp := by kernel_rfl
theorem vc119_calls {a0 a1 a2 a3 a4 a5 a6 a7 : Value} {w : World} {K : Value → World → Prop} {Kp : KP} (h : vc119 (nice Try.prog) a0 a1 a2 a3 a4 a5 a6 a7 w K Kp) : Calls Try.prog 119 #[a0, a1, a2, a3, a4, a5, a6, a7] w (ret K Kp) :=
 fVC_sound (args := [a0, a1, a2, a3, a4, a5, a6, a7]) nice_le follows_MVcI Try.func119 (by kernel_rfl) (Eq.mp (vc119_eq _ _ _ _ _ _ _ _ _ _ _ _) h)

def vc120 (S : Sig) (a0 a1 a2 : Value) (w : World) (K : Value → World → Prop) (Kp : KP) : Prop :=
 S.op (.build 154 [(0, a0), (1, a1), (2, a2)]) w (fun v10 w =>
 S.op (.box 154 v10) w (fun v11 w =>
 K v11 w) Kp) Kp
theorem vc120_eq (S : Sig) (a0 a1 a2 : Value) (w : World) (K : Value → World → Prop) (Kp : KP) : vc120 S a0 a1 a2 w K Kp = fVC S [] [] Try.f120 [a0, a1, a2] w K Kp := by kernel_rfl
theorem vc120_calls {a0 a1 a2 : Value} {w : World} {K : Value → World → Prop} {Kp : KP} (h : vc120 (nice Try.prog) a0 a1 a2 w K Kp) : Calls Try.prog 120 #[a0, a1, a2] w (ret K Kp) :=
 fVC_sound (args := [a0, a1, a2]) nice_le follows_MVcI Try.func120 (by kernel_rfl) (Eq.mp (vc120_eq _ _ _ _ _ _ _) h)

def vc121 (S : Sig) (a0 a1 a2 a3 a4 a5 a6 : Value) (w : World) (K : Value → World → Prop) (Kp : KP) : Prop :=
 S.pur (.nilCheck a0) (fun v17 =>
 S.pur (.fieldAddr 154 v17 1) (fun v18 =>
 S.ld (.load 2 v18) w.drew (fun v19 =>
 S.pur (.mkFunc (Fn.method "Equal") [a4] []) (fun v21 =>
 S.pur (.nilCheck v21) (fun v22 =>
 S.call (.inv a4 "Equal") [v19, a1] w.drew (fun v24 w =>
 S.pur (.un .not v24) (fun v25 =>
 Br v25 (
 S.op (.mkIface 152 a0) w (fun v27 w =>
 K v27 w) Kp) (
 S.op (.nilCheck a6) w (fun v29 w =>
 S.op (.store 4 v29 (.bool true)) w (fun _ w =>
 K .nilIface w) Kp) Kp))) Kp)))))
theorem vc121_eq (S : Sig) (a0 a1 a2 a3 a4 a5 a6 : Value) (w : World) (K : Value → World → Prop) (Kp : KP) : vc121 S a0 a1 a2 a3 a4 a5 a6 w K Kp = fVC S [] [] Try.f121 [a0, a1, a2, a3, a4, a5, a6] w K Kp := by kernel_rfl
theorem vc121_calls {a0 a1 a2 a3 a4 a5 a6 : Value} {w : World} {K : Value → World → Prop} {Kp : KP} (h : vc121 (nice Try.prog) a0 a1 a2 a3 a4 a5 a6 w K Kp) : Calls Try.prog 121 #[a0, a1, a2, a3, a4, a5, a6] w (ret K Kp) :=
 fVC_sound (args := [a0, a1, a2, a3, a4, a5, a6]) nice_le follows_MVcI Try.func121 (by kernel_rfl) (Eq.mp (vc121_eq _ _ _ _ _ _ _ _ _ _ _) h)

def vc123 (S : Sig) (a0 : Value) (w : World) (K : Value → World → Prop) (Kp : KP) : Prop :=
 S.op (.nilCheck a0) w (fun v4 w =>
 S.op (.fieldAddr 154 v4 0) w (fun v5 w =>
 S.op (.load 22 v5) w (fun v6 w =>
 K v6 w) Kp) Kp) Kp
theorem vc123_eq (S : Sig) (a0 : Value) (w : World) (K : Value → World → Prop) (Kp : KP) : vc123 S a0 w K Kp = fVC S [] [] Try.f123 [a0] w K Kp := by kernel_rfl
theorem vc123_calls {a0 : Value} {w : World} {K : Value → World → Prop} {Kp : KP} (h : vc123 (nice Try.prog) a0 w K Kp) : Calls Try.prog 123 #[a0] w (ret K Kp) :=
 fVC_sound (args := [a0]) nice_le follows_MVcI Try.func123 (by kernel_rfl) (Eq.mp (vc123_eq _ _ _ _ _) h)

def vc124 (S : Sig) (a0 a1 a2 a3 a4 a5 a6 a7 : Value) (w : World) (K : Value → World → Prop) (Kp : KP) : Prop :=
 S.pur (.nilCheck a0) (fun v19 =>
 S.pur (.fieldAddr 154 v19 1) (fun v20 =>
 S.ld (.load 2 v20) w.drew (fun v21 =>
 S.pur (.mkFunc (Fn.method "Equal") [a5] []) (fun v23 =>
 S.pur (.nilCheck v23) (fun v24 =>
 S.call (.inv a5 "Equal") [v21, a1] w.drew (fun v26 w =>
 Br v26 (
 Br a6 (
 S.op (.nilCheck a0) w (fun v30 w =>
 S.op (.fieldAddr 154 v30 2) w (fun v31 w =>
 S.op (.store 2 v31 a2) w (fun _ w =>
 S.op (.mkIface 152 a0) w (fun v33 w =>
 K v33 w) Kp) Kp) Kp) Kp) (
 S.op (.nilCheck a0) w (fun v35 w =>
 S.op (.fieldAddr 154 v35 0) w (fun v36 w =>
 S.op (.load 22 v36) w (fun v37 w =>
 S.call (.fn 120) [v37, a1, a2] w (fun v40 w =>
 S.op (.mkIface 152 v40) w (fun v41 w =>
 K v41 w) Kp) Kp) Kp) Kp) Kp)) (
 S.op (.nilCheck a7) w (fun v43 w =>
 S.op (.store 4 v43 (.bool true)) w (fun _ w =>
 S.op (.nilCheck a0) w (fun v45 w =>
 S.op (.fieldAddr 154 v45 0) w (fun v46 w =>
 S.op (.load 22 v46) w (fun v47 w =>
 S.op (.bin .neq 22 false false v47 a4) w (fun v49 w =>
 Br v49 (
 S.op (.mkIface 152 a0) w (fun v51 w =>
 S.call (.fn 125) [v51, a3, a4, a1, a2] w (fun v56 w =>
 K v56 w) Kp) Kp) (
 S.pur (.nilCheck a0) (fun v59 =>
 S.pur (.fieldAddr 154 v59 1) (fun v60 =>
 S.ld (.load 2 v60) w.drew (fun v61 =>
 S.pur (.nilCheck a0) (fun v63 =>
 S.pur (.fieldAddr 154 v63 2) (fun v64 =>
 S.ld (.load 2 v64) w.drew (fun v65 =>
 S.pur (.build 148 [(0, v61), (1, v65)]) (fun v66 =>
 S.pur (.build 148 [(0, a1), (1, a2)]) (fun v69 =>
 S.op (.buildSlice 149 2 [(0, v66), (1, v69)]) w.drew (fun v70 w =>
 S.pur (.build 157 [(0, a4), (1, v70)]) (fun v71 =>
 S.op (.box 157 v71) w (fun v72 w =>
 S.pur (.mkIface 155 v72) (fun v73 =>
 K v73 w)) Kp)) Kp)))))))))) Kp) Kp) Kp) Kp) Kp) Kp)) Kp)))))
theorem vc124_eq (S : Sig) (a0 a1 a2 a3 a4 a5 a6 a7 : Value) (w : World) (K : Value → World → Prop) (Kp : KP) : vc124 S a0 a1 a2 a3 a4 a5 a6 a7 w K Kp = fVC S [] [] Try.f124 [a0, a1, a2, a3, a4, a5, a6, a7] w K Kp := by kernel_rfl
theorem vc124_calls {a0 a1 a2 a3 a4 a5 a6 a7 : Value} {w : World} {K : Value → World → Prop} {Kp : KP} (h : vc124 (nice Try.prog) a0 a1 a2 a3 a4 a5 a6 a7 w K Kp) : Calls Try.prog 124 #[a0, a1, a2, a3, a4, a5, a6, a7] w (ret K Kp) :=
 fVC_sound (args := [a0, a1, a2, a3, a4, a5, a6, a7]) nice_le follows_MVcI Try.func124 (by kernel_rfl) (Eq.mp (vc124_eq _ _ _ _ _ _ _ _ _ _ _ _) h)

def vc125 (S : Sig) (a0 a1 a2 a3 a4 : Value) (w : World) (K : Value → World → Prop) (Kp : KP) : Prop :=
 S.call (.inv a0 "pub-bracken/pub/immutable.keyHashValue") [] w (fun v16 w =>
 S.op (.bin .shr 22 false false v16 a1) w (fun v18 w =>
 S.op (.bin .and 22 false true v18 (.int .u32 31)) w (fun v19 w =>
 S.op (.bin .shr 22 false false a2 a1) w (fun v22 w =>
 S.op (.bin .and 22 false true v22 (.int .u32 31)) w (fun v23 w =>
 S.op (.bin .shl 22 true false (.int .u32 1) v19) w (fun v25 w =>
 S.op (.bin .shl 22 true false (.int .u32 1) v23) w (fun v27 w =>
 S.op (.bin .or 22 false false v25 v27) w (fun v28 w =>
 S.op (.build 203 [(0, v28)]) w (fun v29 w =>
 S.op (.box 203 v29) w (fun v30 w =>
 S.op (.bin .eql 22 false false v19 v23) w (fun v33 w =>
 Br v33 (
 S.op (.bin .add 187 false true a1 (.int .u64 5)) w (fun v37 w =>
 S.call (.fn 125) [a0, v37, a2, a3, a4] w (fun v41 w =>
 S.op (.buildSlice 201 1 [(0, v41)]) w (fun v42 w =>
 S.op (.nilCheck v30) w (fun v43 w =>
 S.op (.fieldAddr 203 v43 1) w (fun v44 w =>
 S.op (.store 201 v44 v42) w (fun _ w =>
 S.op (.mkIface 200 v30) w (fun v67 w =>
 K v67 w) Kp) Kp) Kp) Kp) Kp) Kp) Kp) (
 S.call (.fn 120) [a2, a3, a4] w (fun v48 w =>
 S.op (.bin .lss 22 false false v19 v23) w (fun v51 w =>
 Br v51 (
 S.op (.mkIface 152 v48) w (fun v55 w =>
 S.op (.buildSlice 201 2 [(0, a0), (1, v55)]) w (fun v56 w =>
 S.op (.nilCheck v30) w (fun v57 w =>
 S.op (.fieldAddr 203 v57 1) w (fun v58 w =>
 S.op (.store 201 v58 v56) w (fun _ w =>
 S.op (.mkIface 200 v30) w (fun v67 w =>
 K v67 w) Kp) Kp) Kp) Kp) Kp) Kp) (
 S.op (.mkIface 152 v48) w (fun v61 w =>
 S.op (.buildSlice 201 2 [(0, v61), (1, a0)]) w (fun v63 w =>
 S.op (.nilCheck v30) w (fun v64 w =>
 S.op (.fieldAddr 203 v64 1) w (fun v65 w =>
 S.op (.store 201 v65 v63) w (fun _ w =>
 S.op (.mkIface 200 v30) w (fun v67 w =>
 K v67 w) Kp) Kp) Kp) Kp) Kp) Kp)) Kp) Kp)) Kp) Kp) Kp) Kp) Kp) Kp) Kp) Kp) Kp) Kp) Kp
theorem vc125_eq (S : Sig) (a0 a1 a2 a3 a4 : Value) (w : World) (K : Value → World → Prop) (Kp : KP) : vc125 S a0 a1 a2 a3 a4 w K Kp = fVC S [] [] Try.f125 [a0, a1, a2, a3, a4] w K Kp := by kernel_rfl
theorem vc125_calls {a0 a1 a2 a3 a4 : Value} {w : World} {K : Value → World → Prop} {Kp : KP} (h : vc125 (nice Try.prog) a0 a1 a2 a3 a4 w K Kp) : Calls Try.prog 125 #[a0, a1, a2, a3, a4] w (ret K Kp) :=
 fVC_sound (args := [a0, a1, a2, a3, a4]) nice_le follows_MVcI Try.func125 (by kernel_rfl) (Eq.mp (vc125_eq _ _ _ _ _ _ _ _ _) h)

def vc126 (S : Sig) (a0 a1 a2 a3 a4 a5 a6 : Value) (w : World) (K : Value → World → Prop) (Kp : KP) : Prop :=
 S.call (.fn 130) [a0, a1, a4] w (fun v20 w =>
 S.op (.bin .eql 3 false true v20 (.int .i64 (-1))) w (fun v22 w =>
 Br v22 (
 S.op (.mkIface 155 a0) w (fun v24 w =>
 K v24 w) Kp) (
 S.op (.nilCheck a6) w (fun v26 w =>
 S.op (.store 4 v26 (.bool true)) w (fun _ w =>
 S.op (.nilCheck a0) w (fun v28 w =>
 S.op (.fieldAddr 157 v28 1) w (fun v29 w =>
 S.op (.load 149 v29) w (fun v30 w =>
 S.op (.blt .len [149] 3 [v30]) w (fun v31 w =>
 S.op (.bin .eql 3 false true v31 (.int .i64 2)) w (fun v32 w =>
 Br v32 (
 S.pur (.nilCheck a0) (fun v34 =>
 S.pur (.fieldAddr 157 v34 0) (fun v35 =>
 S.ld (.load 22 v35) w.drew (fun v36 =>
 S.pur (.nilCheck a0) (fun v38 =>
 S.pur (.fieldAddr 157 v38 1) (fun v39 =>
 S.ld (.load 149 v39) w.drew (fun v40 =>
 S.pur (.bin .xor 3 false true v20 (.int .i64 1)) (fun v42 =>
 S.pur (.indexAddr 149 v40 v42) (fun v43 =>
 S.pur (.fieldAddr 148 v43 0) (fun v44 =>
 S.ld (.load 2 v44) w.drew (fun v45 =>
 S.pur (.nilCheck a0) (fun v47 =>
 S.pur (.fieldAddr 157 v47 1) (fun v48 =>
 S.ld (.load 149 v48) w.drew (fun v49 =>
 S.pur (.bin .xor 3 false true v20 (.int .i64 1)) (fun v51 =>
 S.pur (.indexAddr 149 v49 v51) (fun v52 =>
 S.pur (.fieldAddr 148 v52 1) (fun v53 =>
 S.ld (.load 2 v53) w.drew (fun v54 =>
 S.pur (.build 154 [(0, v36), (1, v45), (2, v54)]) (fun v55 =>
 S.op (.box 154 v55) w.drew (fun v56 w =>
 S.pur (.mkIface 152 v56) (fun v57 =>
 K v57 w)) Kp))))))))))))))))))) (
 Br a5 (
 S.pur (.nilCheck a0) (fun v60 =>
 S.pur (.fieldAddr 157 v60 1) (fun v61 =>
 S.ld (.load 149 v61) w.drew (fun v62 =>
 S.pur (.slice 149 v62 (some v20) none none) (fun v64 =>
 S.pur (.nilCheck a0) (fun v66 =>
 S.pur (.fieldAddr 157 v66 1) (fun v67 =>
 S.ld (.load 149 v67) w.drew (fun v68 =>
 S.pur (.bin .add 3 false true v20 (.int .i64 1)) (fun v70 =>
 S.pur (.slice 149 v68 (some v70) none none) (fun v71 =>
 S.op (.blt .copy [149, 149] 3 [v64, v71]) w.drew (fun v72 w =>
 S.pur (.nilCheck a0) (fun v74 =>
 S.pur (.fieldAddr 157 v74 1) (fun v75 =>
 S.ld (.load 149 v75) w.drew (fun v76 =>
 S.pur (.nilCheck a0) (fun v78 =>
 S.pur (.fieldAddr 157 v78 1) (fun v79 =>
 S.ld (.load 149 v79) w.drew (fun v80 =>
 S.ld (.blt .len [149] 3 [v80]) w.drew (fun v81 =>
 S.pur (.bin .sub 3 false true v81 (.int .i64 1)) (fun v82 =>
 S.pur (.build 148 []) (fun v83 =>
 S.pur (.indexAddr 149 v76 v82) (fun v84 =>
 S.op (.store 148 v84 v83) w.drew (fun _ w =>
 S.pur (.nilCheck a0) (fun v87 =>
 S.pur (.fieldAddr 157 v87 1) (fun v88 =>
 S.ld (.load 149 v88) w.drew (fun v89 =>
 S.pur (.nilCheck a0) (fun v91 =>
 S.pur (.fieldAddr 157 v91 1) (fun v92 =>
 S.ld (.load 149 v92) w.drew (fun v93 =>
 S.ld (.blt .len [149] 3 [v93]) w.drew (fun v94 =>
 S.pur (.bin .sub 3 false true v94 (.int .i64 1)) (fun v95 =>
 S.pur (.slice 149 v89 none (some v95) none) (fun v96 =>
 S.pur (.nilCheck a0) (fun v97 =>
 S.pur (.fieldAddr 157 v97 1) (fun v98 =>
 S.op (.store 149 v98 v96) w.drew (fun _ w =>
 S.op (.mkIface 155 a0) w (fun v100 w =>
 K v100 w) Kp) Kp)))))))))))) Kp))))))))))) Kp)))))))))) (
 S.pur (.nilCheck a0) (fun v102 =>
 S.pur (.fieldAddr 157 v102 0) (fun v103 =>
 S.ld (.load 22 v103) w.drew (fun v104 =>
 S.pur (.nilCheck a0) (fun v106 =>
 S.pur (.fieldAddr 157 v106 1) (fun v107 =>
 S.ld (.load 149 v107) w.drew (fun v108 =>
 S.ld (.blt .len [149] 3 [v108]) w.drew (fun v109 =>
 S.pur (.bin .sub 3 false true v109 (.int .i64 1)) (fun v110 =>
 S.op (.mkSlice 149 v110 v110) w.drew (fun v111 w =>
 S.same (.load 22 v103) v104 w ∧
 S.pur (.build 157 [(0, v104), (1, v111)]) (fun v112 =>
 S.op (.box 157 v112) w (fun v113 w =>
 S.pur (.nilCheck v113) (fun v115 =>
 S.pur (.fieldAddr 157 v115 1) (fun v116 =>
 S.ld (.load 149 v116) w.drew (fun v117 =>
 S.pur (.slice 149 v117 none (some v20) none) (fun v119 =>
 S.pur (.nilCheck a0) (fun v121 =>
 S.pur (.fieldAddr 157 v121 1) (fun v122 =>
 S.ld (.load 149 v122) w.drew (fun v123 =>
 S.pur (.slice 149 v123 none (some v20) none) (fun v125 =>
 S.op (.blt .copy [149, 149] 3 [v119, v125]) w.drew (fun v126 w =>
 S.pur (.nilCheck v113) (fun v128 =>
 S.pur (.fieldAddr 157 v128 1) (fun v129 =>
 S.ld (.load 149 v129) w.drew (fun v130 =>
 S.pur (.slice 149 v130 (some v20) none none) (fun v132 =>
 S.pur (.nilCheck a0) (fun v134 =>
 S.pur (.fieldAddr 157 v134 1) (fun v135 =>
 S.ld (.load 149 v135) w.drew (fun v136 =>
 S.pur (.bin .add 3 false true v20 (.int .i64 1)) (fun v138 =>
 S.pur (.slice 149 v136 (some v138) none none) (fun v139 =>
 S.op (.blt .copy [149, 149] 3 [v132, v139]) w.drew (fun v140 w =>
 S.op (.mkIface 155 v113) w (fun v142 w =>
 K v142 w) Kp) Kp)))))))))) Kp))))))))) Kp)) Kp))))))))))) Kp) Kp) Kp) Kp) Kp) Kp) Kp)) Kp) Kp
theorem vc126_eq (S : Sig) (a0 a1 a2 a3 a4 a5 a6 : Value) (w : World) (K : Value → World → Prop) (Kp : KP) : vc126 S a0 a1 a2 a3 a4 a5 a6 w K Kp = fVC S [] [] Try.f126 [a0, a1, a2, a3, a4, a5, a6] w K Kp := by kernel_rfl
theorem vc126_calls {a0 a1 a2 a3 a4 a5 a6 : Value} {w : World} {K : Value → World → Prop} {Kp : KP} (h : vc126 (nice Try.prog) a0 a1 a2 a3 a4 a5 a6 w K Kp) : Calls Try.prog 126 #[a0, a1, a2, a3, a4, a5, a6] w (ret K Kp) :=
 fVC_sound (args := [a0, a1, a2, a3, a4, a5, a6]) nice_le follows_MVcI Try.func126 (by kernel_rfl) (Eq.mp (vc126_eq _ _ _ _ _ _ _ _ _ _ _) h)

def vc128 (S : Sig) (a0 : Value) (w : World) (K : Value → World → Prop) (Kp : KP) : Prop :=
 S.op (.nilCheck a0) w (fun v4 w =>
 S.op (.fieldAddr 157 v4 0) w (fun v5 w =>
 S.op (.load 22 v5) w (fun v6 w =>
 K v6 w) Kp) Kp) Kp
theorem vc128_eq (S : Sig) (a0 : Value) (w : World) (K : Value → World → Prop) (Kp : KP) : vc128 S a0 w K Kp = fVC S [] [] Try.f128 [a0] w K Kp := by kernel_rfl
theorem vc128_calls {a0 : Value} {w : World} {K : Value → World → Prop} {Kp : KP} (h : vc128 (nice Try.prog) a0 w K Kp) : Calls Try.prog 128 #[a0] w (ret K Kp) :=
 fVC_sound (args := [a0]) nice_le follows_MVcI Try.func128 (by kernel_rfl) (Eq.mp (vc128_eq _ _ _ _ _) h)

def vc129 (S : Sig) (a0 a1 a2 a3 a4 a5 a6 a7 : Value) (w : World) (K : Value → World → Prop) (Kp : KP) : Prop :=
 S.op (.nilCheck a0) w (fun v21 w =>
 S.op (.fieldAddr 157 v21 0) w (fun v22 w =>
 S.op (.load 22 v22) w (fun v23 w =>
 S.op (.bin .neq 22 false false v23 a4) w (fun v25 w =>
 Br v25 (
 S.op (.nilCheck a7) w (fun v27 w =>
 S.op (.store 4 v27 (.bool true)) w (fun _ w =>
 S.op (.mkIface 155 a0) w (fun v29 w =>
 S.call (.fn 125) [v29, a3, a4, a1, a2] w (fun v34 w =>
 K v34 w) Kp) Kp) Kp) Kp) (
 Br a6 (
 S.call (.fn 130) [a0, a1, a5] w (fun v39 w =>
 S.op (.bin .eql 3 false true v39 (.int .i64 (-1))) w (fun v41 w =>
 Br v41 (
 S.op (.nilCheck a7) w (fun v43 w =>
 S.op (.store 4 v43 (.bool true)) w (fun _ w =>
 S.op (.nilCheck a0) w (fun v46 w =>
 S.op (.fieldAddr 157 v46 1) w (fun v47 w =>
 S.op (.load 149 v47) w (fun v48 w =>
 S.op (.build 148 [(0, a1), (1, a2)]) w (fun v51 w =>
 S.op (.buildSlice 149 1 [(0, v51)]) w (fun v52 w =>
 S.op (.blt .append [149, 149] 149 [v48, v52]) w (fun v53 w =>
 S.op (.nilCheck a0) w (fun v54 w =>
 S.op (.fieldAddr 157 v54 1) w (fun v55 w =>
 S.op (.store 149 v55 v53) w (fun _ w =>
 S.op (.mkIface 155 a0) w (fun v66 w =>
 K v66 w) Kp) Kp) Kp) Kp) Kp) Kp) Kp) Kp) Kp) Kp) Kp) Kp) (
 S.op (.nilCheck a0) w (fun v57 w =>
 S.op (.fieldAddr 157 v57 1) w (fun v58 w =>
 S.op (.load 149 v58) w (fun v59 w =>
 S.op (.build 148 [(0, a1), (1, a2)]) w (fun v63 w =>
 S.op (.indexAddr 149 v59 v39) w (fun v64 w =>
 S.op (.store 148 v64 v63) w (fun _ w =>
 S.op (.mkIface 155 a0) w (fun v66 w =>
 K v66 w) Kp) Kp) Kp) Kp) Kp) Kp) Kp)) Kp) Kp) (
 S.op (.nilCheck a0) w (fun v68 w =>
 S.op (.fieldAddr 157 v68 0) w (fun v69 w =>
 S.op (.load 22 v69) w (fun v70 w =>
 S.op (.build 157 [(0, v70)]) w (fun v71 w =>
 S.op (.box 157 v71) w (fun v72 w =>
 S.call (.fn 130) [a0, a1, a5] w (fun v76 w =>
 S.op (.bin .eql 3 false true v76 (.int .i64 (-1))) w (fun v78 w =>
 Br v78 (
 S.op (.nilCheck a7) w (fun v80 w =>
 S.op (.store 4 v80 (.bool true)) w (fun _ w =>
 S.op (.nilCheck a0) w (fun v83 w =>
 S.op (.fieldAddr 157 v83 1) w (fun v84 w =>
 S.op (.load 149 v84) w (fun v85 w =>
 S.op (.blt .len [149] 3 [v85]) w (fun v86 w =>
 S.op (.bin .add 3 false true v86 (.int .i64 1)) w (fun v87 w =>
 S.op (.mkSlice 149 v87 v87) w (fun v88 w =>
 S.op (.nilCheck v72) w (fun v89 w =>
 S.op (.fieldAddr 157 v89 1) w (fun v90 w =>
 S.op (.store 149 v90 v88) w (fun _ w =>
 S.pur (.nilCheck v72) (fun v92 =>
 S.pur (.fieldAddr 157 v92 1) (fun v93 =>
 S.ld (.load 149 v93) w.drew (fun v94 =>
 S.pur (.nilCheck a0) (fun v96 =>
 S.pur (.fieldAddr 157 v96 1) (fun v97 =>
 S.ld (.load 149 v97) w.drew (fun v98 =>
 S.op (.blt .copy [149, 149] 3 [v94, v98]) w.drew (fun v99 w =>
 S.pur (.nilCheck v72) (fun v101 =>
 S.pur (.fieldAddr 157 v101 1) (fun v102 =>
 S.ld (.load 149 v102) w.drew (fun v103 =>
 S.pur (.nilCheck v72) (fun v105 =>
 S.pur (.fieldAddr 157 v105 1) (fun v106 =>
 S.ld (.load 149 v106) w.drew (fun v107 =>
 S.ld (.blt .len [149] 3 [v107]) w.drew (fun v108 =>
 S.pur (.bin .sub 3 false true v108 (.int .i64 1)) (fun v109 =>
 S.pur (.build 148 [(0, a1), (1, a2)]) (fun v112 =>
 S.pur (.indexAddr 149 v103 v109) (fun v113 =>
 S.op (.store 148 v113 v112) w.drew (fun _ w =>
 S.op (.mkIface 155 v72) w (fun v142 w =>
 K v142 w) Kp) Kp))))))))))) Kp))))))) Kp) Kp) Kp) Kp) Kp) Kp) Kp) Kp) Kp) Kp) Kp) (
 S.op (.nilCheck a0) w (fun v116 w =>
 S.op (.fieldAddr 157 v116 1) w (fun v117 w =>
 S.op (.load 149 v117) w (fun v118 w =>
 S.op (.blt .len [149] 3 [v118]) w (fun v119 w =>
 S.op (.mkSlice 149 v119 v119) w (fun v120 w =>
 S.op (.nilCheck v72) w (fun v121 w =>
 S.op (.fieldAddr 157 v121 1) w (fun v122 w =>
 S.op (.store 149 v122 v120) w (fun _ w =>
 S.pur (.nilCheck v72) (fun v124 =>
 S.pur (.fieldAddr 157 v124 1) (fun v125 =>
 S.ld (.load 149 v125) w.drew (fun v126 =>
 S.pur (.nilCheck a0) (fun v128 =>
 S.pur (.fieldAddr 157 v128 1) (fun v129 =>
 S.ld (.load 149 v129) w.drew (fun v130 =>
 S.op (.blt .copy [149, 149] 3 [v126, v130]) w.drew (fun v131 w =>
 S.op (.nilCheck v72) w (fun v133 w =>
 S.op (.fieldAddr 157 v133 1) w (fun v134 w =>
 S.op (.load 149 v134) w (fun v135 w =>
 S.op (.build 148 [(0, a1), (1, a2)]) w (fun v139 w =>
 S.op (.indexAddr 149 v135 v76) w (fun v140 w =>
 S.op (.store 148 v140 v139) w (fun _ w =>
 S.op (.mkIface 155 v72) w (fun v142 w =>
 K v142 w) Kp) Kp) Kp) Kp) Kp) Kp) Kp) Kp))))))) Kp) Kp) Kp) Kp) Kp) Kp) Kp) Kp)) Kp) Kp) Kp) Kp) Kp) Kp) Kp))) Kp) Kp) Kp) Kp
theorem vc129_eq (S : Sig) (a0 a1 a2 a3 a4 a5 a6 a7 : Value) (w : World) (K : Value → World → Prop) (Kp : KP) : vc129 S a0 a1 a2 a3 a4 a5 a6 a7 w K Kp = fVC S [] [] Try.f129 [a0, a1, a2, a3, a4, a5, a6, a7] w K Kp := by kernel_rfl
theorem vc129_calls {a0 a1 a2 a3 a4 a5 a6 a7 : Value} {w : World} {K : Value → World → Prop} {Kp : KP} (h : vc129 (nice Try.prog) a0 a1 a2 a3 a4 a5 a6 a7 w K Kp) : Calls Try.prog 129 #[a0, a1, a2, a3, a4, a5, a6, a7] w (ret K Kp) :=
 fVC_sound (args := [a0, a1, a2, a3, a4, a5, a6, a7]) nice_le follows_MVcI Try.func129 (by kernel_rfl) (Eq.mp (vc129_eq _ _ _ _ _ _ _ _ _ _ _ _) h)

def vc130 (S : Sig) (a0 a1 a2 : Value) (w : World) (K : Value → World → Prop) (Kp : KP) : Prop :=
 S.op (.nilCheck a0) w (fun v9 w =>
 S.op (.fieldAddr 157 v9 1) w (fun v10 w =>
 S.op (.load 149 v10) w (fun v11 w =>
 S.op (.blt .len [149] 3 [v11]) w (fun v12 w =>
 Lp fun (I2 : Value → World → Prop) (μ2 : Value → World → Nat) => I2 (.int .i64 0) w ∧
 ∀ (wl2 : World) (junk : Nat → Value) (s13_ : Value), I2 s13_ wl2 →
 S.op (.bin .lss 3 false false s13_ v12) wl2 (fun v14 w =>
 Br v14 (
 S.pur (.nilCheck a0) (fun v18 =>
 S.pur (.fieldAddr 157 v18 1) (fun v19 =>
 S.ld (.load 149 v19) w.drew (fun v20 =>
 S.pur (.indexAddr 149 v20 s13_) (fun v22 =>
 S.pur (.fieldAddr 148 v22 0) (fun v23 =>
 S.ld (.load 2 v23) w.drew (fun v24 =>
 S.pur (.mkFunc (Fn.method "Equal") [a2] []) (fun v26 =>
 S.pur (.nilCheck v26) (fun v27 =>
 S.call (.inv a2 "Equal") [v24, a1] w.drew (fun v29 w =>
 Br v29 (
 K s13_ w) (
 S.op (.bin .add 3 false true s13_ (.int .i64 1)) w (fun v31 w =>
 I2 v31 w ∧ μ2 v31 w < μ2 s13_ wl2) Kp)) Kp))))))))) (
 K (.int .i64 (-1)) w)) Kp) Kp) Kp) Kp) Kp
theorem vc130_eq (S : Sig) (a0 a1 a2 : Value) (w : World) (K : Value → World → Prop) (Kp : KP) : vc130 S a0 a1 a2 w K Kp = fVC S [(2, [13])] [] Try.f130 [a0, a1, a2] w K Kp := by kernel_rfl
theorem vc130_calls {a0 a1 a2 : Value} {w : World} {K : Value → World → Prop} {Kp : KP} (h : vc130 (nice Try.prog) a0 a1 a2 w K Kp) : Calls Try.prog 130 #[a0, a1, a2] w (ret K Kp) :=
 fVC_sound (args := [a0, a1, a2]) nice_le follows_MVcI Try.func130 (by kernel_rfl) (Eq.mp (vc130_eq _ _ _ _ _ _ _) h)

def vc146 (S : Sig) (a0 a1 a2 a3 a4 a5 a6 : Value) (w : World) (K : Value → World → Prop) (Kp : KP) : Prop :=
 S.op (.bin .shr 22 false false a3 a2) w (fun v23 w =>
 S.op (.bin .and 22 false true v23 (.int .u32 31)) w (fun v24 w =>
 S.op (.bin .shl 22 true false (.int .u32 1) v24) w (fun v25 w =>
 S.op (.nilCheck a0) w (fun v27 w =>
 S.op (.fieldAddr 203 v27 0) w (fun v28 w =>
 S.op (.load 22 v28) w (fun v29 w =>
 S.op (.bin .and 22 false false v29 v25) w (fun v31 w =>
 S.op (.bin .eql 22 false true v31 (.int .u32 0)) w (fun v32 w =>
 Br v32 (
 S.op (.mkIface 200 a0) w (fun v34 w =>
 K v34 w) Kp) (
 S.op (.nilCheck a0) w (fun v36 w =>
 S.op (.fieldAddr 203 v36 0) w (fun v37 w =>
 S.op (.load 22 v37) w (fun v38 w =>
 S.op (.bin .sub 22 false true v25 (.int .u32 1)) w (fun v40 w =>
 S.op (.bin .and 22 false false v38 v40) w (fun v41 w =>
 S.call (.fn 149) [v41] w (fun v42 w =>
 S.op (.nilCheck a0) w (fun v44 w =>
 S.op (.fieldAddr 203 v44 1) w (fun v45 w =>
 S.op (.load 201 v45) w (fun v46 w =>
 S.op (.indexAddr 201 v46 v42) w (fun v48 w =>
 S.op (.load 132 v48) w (fun v49 w =>
 S.op (.bin .add 187 false true a2 (.int .u64 5)) w (fun v53 w =>
 S.call (.inv v49 "pub-bracken/pub/immutable.delete") [a1, v53, a3, a4, a5, a6] w (fun v58 w =>
 S.op (.nilCheck a6) w (fun v60 w =>
 S.op (.load 4 v60) w (fun v61 w =>
 S.op (.un .not v61) w (fun v62 w =>
 Br v62 (
 S.op (.mkIface 200 a0) w (fun v64 w =>
 K v64 w) Kp) (
 S.op (.bin .eql 132 false true v58 .nilIface) w (fun v66 w =>
 Br v66 (
 S.op (.nilCheck a0) w (fun v68 w =>
 S.op (.fieldAddr 203 v68 1) w (fun v69 w =>
 S.op (.load 201 v69) w (fun v70 w =>
 S.op (.blt .len [201] 3 [v70]) w (fun v71 w =>
 S.op (.bin .eql 3 false true v71 (.int .i64 1)) w (fun v72 w =>
 Br v72 (
 K .nilIface w) (
 Br a5 (
 S.op (.nilCheck a0) w (fun v75 w =>
 S.op (.fieldAddr 203 v75 0) w (fun v76 w =>
 S.op (.load 22 v76) w (fun v77 w =>
 S.op (.bin .xor 22 false false v77 v25) w (fun v79 w =>
 S.op (.nilCheck a0) w (fun v80 w =>
 S.op (.fieldAddr 203 v80 0) w (fun v81 w =>
 S.op (.store 22 v81 v79) w (fun _ w =>
 S.pur (.nilCheck a0) (fun v83 =>
 S.pur (.fieldAddr 203 v83 1) (fun v84 =>
 S.ld (.load 201 v84) w.drew (fun v85 =>
 S.pur (.slice 201 v85 (some v42) none none) (fun v87 =>
 S.pur (.nilCheck a0) (fun v89 =>
 S.pur (.fieldAddr 203 v89 1) (fun v90 =>
 S.ld (.load 201 v90) w.drew (fun v91 =>
 S.pur (.bin .add 3 false true v42 (.int .i64 1)) (fun v93 =>
 S.pur (.slice 201 v91 (some v93) none none) (fun v94 =>
 S.op (.blt .copy [201, 201] 3 [v87, v94]) w.drew (fun v95 w =>
 S.pur (.nilCheck a0) (fun v97 =>
 S.pur (.fieldAddr 203 v97 1) (fun v98 =>
 S.ld (.load 201 v98) w.drew (fun v99 =>
 S.pur (.nilCheck a0) (fun v101 =>
 S.pur (.fieldAddr 203 v101 1) (fun v102 =>
 S.ld (.load 201 v102) w.drew (fun v103 =>
 S.ld (.blt .len [201] 3 [v103]) w.drew (fun v104 =>
 S.pur (.bin .sub 3 false true v104 (.int .i64 1)) (fun v105 =>
 S.pur (.indexAddr 201 v99 v105) (fun v106 =>
 S.op (.store 132 v106 .nilIface) w.drew (fun _ w =>
 S.pur (.nilCheck a0) (fun v109 =>
 S.pur (.fieldAddr 203 v109 1) (fun v110 =>
 S.ld (.load 201 v110) w.drew (fun v111 =>
 S.pur (.nilCheck a0) (fun v113 =>
 S.pur (.fieldAddr 203 v113 1) (fun v114 =>
 S.ld (.load 201 v114) w.drew (fun v115 =>
 S.ld (.blt .len [201] 3 [v115]) w.drew (fun v116 =>
 S.pur (.bin .sub 3 false true v116 (.int .i64 1)) (fun v117 =>
 S.pur (.slice 201 v111 none (some v117) none) (fun v118 =>
 S.pur (.nilCheck a0) (fun v119 =>
 S.pur (.fieldAddr 203 v119 1) (fun v120 =>
 S.op (.store 201 v120 v118) w.drew (fun _ w =>
 S.op (.mkIface 200 a0) w (fun v122 w =>
 K v122 w) Kp) Kp)))))))))))) Kp)))))))))) Kp)))))))))) Kp) Kp) Kp) Kp) Kp) Kp) Kp) (
 S.pur (.nilCheck a0) (fun v124 =>
 S.pur (.fieldAddr 203 v124 0) (fun v125 =>
 S.ld (.load 22 v125) w.drew (fun v126 =>
 S.pur (.bin .xor 22 false false v126 v25) (fun v128 =>
 S.pur (.nilCheck a0) (fun v130 =>
 S.pur (.fieldAddr 203 v130 1) (fun v131 =>
 S.ld (.load 201 v131) w.drew (fun v132 =>
 S.ld (.blt .len [201] 3 [v132]) w.drew (fun v133 =>
 S.pur (.bin .sub 3 false true v133 (.int .i64 1)) (fun v134 =>
 S.op (.mkSlice 201 v134 v134) w.drew (fun v135 w =>
 S.same (.load 22 v125) v126 w ∧
 S.pur (.build 203 [(0, v128), (1, v135)]) (fun v136 =>
 S.op (.box 203 v136) w (fun v137 w =>
 S.pur (.nilCheck v137) (fun v139 =>
 S.pur (.fieldAddr 203 v139 1) (fun v140 =>
 S.ld (.load 201 v140) w.drew (fun v141 =>
 S.pur (.slice 201 v141 none (some v42) none) (fun v143 =>
 S.pur (.nilCheck a0) (fun v145 =>
 S.pur (.fieldAddr 203 v145 1) (fun v146 =>
 S.ld (.load 201 v146) w.drew (fun v147 =>
 S.pur (.slice 201 v147 none (some v42) none) (fun v149 =>
 S.op (.blt .copy [201, 201] 3 [v143, v149]) w.drew (fun v150 w =>
 S.pur (.nilCheck v137) (fun v152 =>
 S.pur (.fieldAddr 203 v152 1) (fun v153 =>
 S.ld (.load 201 v153) w.drew (fun v154 =>
 S.pur (.slice 201 v154 (some v42) none none) (fun v156 =>
 S.pur (.nilCheck a0) (fun v158 =>
 S.pur (.fieldAddr 203 v158 1) (fun v159 =>
 S.ld (.load 201 v159) w.drew (fun v160 =>
 S.pur (.bin .add 3 false true v42 (.int .i64 1)) (fun v162 =>
 S.pur (.slice 201 v160 (some v162) none none) (fun v163 =>
 S.op (.blt .copy [201, 201] 3 [v156, v163]) w.drew (fun v164 w =>
 S.op (.mkIface 200 v137) w (fun v166 w =>
 K v166 w) Kp) Kp)))))))))) Kp))))))))) Kp)) Kp)))))))))))) Kp) Kp) Kp) Kp) Kp) (
 S.op (.un .not a5) w (fun v169 w =>
 Br v169 (
 S.pur (.nilCheck a0) (fun v171 =>
 S.pur (.fieldAddr 203 v171 0) (fun v172 =>
 S.ld (.load 22 v172) w.drew (fun v173 =>
 S.pur (.nilCheck a0) (fun v175 =>
 S.pur (.fieldAddr 203 v175 1) (fun v176 =>
 S.ld (.load 201 v176) w.drew (fun v177 =>
 S.ld (.blt .len [201] 3 [v177]) w.drew (fun v178 =>
 S.op (.mkSlice 201 v178 v178) w.drew (fun v179 w =>
 S.same (.load 22 v172) v173 w ∧
 S.pur (.build 203 [(0, v173), (1, v179)]) (fun v180 =>
 S.op (.box 203 v180) w (fun v181 w =>
 S.pur (.nilCheck v181) (fun v183 =>
 S.pur (.fieldAddr 203 v183 1) (fun v184 =>
 S.ld (.load 201 v184) w.drew (fun v185 =>
 S.pur (.nilCheck a0) (fun v187 =>
 S.pur (.fieldAddr 203 v187 1) (fun v188 =>
 S.ld (.load 201 v188) w.drew (fun v189 =>
 S.op (.blt .copy [201, 201] 3 [v185, v189]) w.drew (fun v190 w =>
 S.op (.nilCheck v181) w (fun v192 w =>
 S.op (.fieldAddr 203 v192 1) w (fun v193 w =>
 S.op (.load 201 v193) w (fun v194 w =>
 S.op (.indexAddr 201 v194 v42) w (fun v197 w =>
 S.op (.store 132 v197 v58) w (fun _ w =>
 S.op (.mkIface 200 v181) w (fun v199 w =>
 K v199 w) Kp) Kp) Kp) Kp) Kp) Kp) Kp))))))) Kp)) Kp)))))))) (
 S.op (.nilCheck a0) w (fun v192 w =>
 S.op (.fieldAddr 203 v192 1) w (fun v193 w =>
 S.op (.load 201 v193) w (fun v194 w =>
 S.op (.indexAddr 201 v194 v42) w (fun v197 w =>
 S.op (.store 132 v197 v58) w (fun _ w =>
 S.op (.mkIface 200 a0) w (fun v199 w =>
 K v199 w) Kp) Kp) Kp) Kp) Kp) Kp)) Kp)) Kp)) Kp) Kp) Kp) Kp) Kp) Kp) Kp) Kp) Kp) Kp) Kp) Kp) Kp) Kp) Kp) Kp)) Kp) Kp) Kp) Kp) Kp) Kp) Kp) Kp
theorem vc146_eq (S : Sig) (a0 a1 a2 a3 a4 a5 a6 : Value) (w : World) (K : Value → World → Prop) (Kp : KP) : vc146 S a0 a1 a2 a3 a4 a5 a6 w K Kp = fVC S [] [] Try.f146 [a0, a1, a2, a3, a4, a5, a6] w K Kp := by kernel_rfl
theorem vc146_calls {a0 a1 a2 a3 a4 a5 a6 : Value} {w : World} {K : Value → World → Prop} {Kp : KP} (h : vc146 (nice Try.prog) a0 a1 a2 a3 a4 a5 a6 w K Kp) : Calls Try.prog 146 #[a0, a1, a2, a3, a4, a5, a6] w (ret K Kp) :=
 fVC_sound (args := [a0, a1, a2, a3, a4, a5, a6]) nice_le follows_MVcI Try.func146 (by kernel_rfl) (Eq.mp (vc146_eq _ _ _ _ _ _ _ _ _ _ _) h)

def vc148 (S : Sig) (a0 a1 a2 a3 a4 a5 a6 a7 : Value) (w : World) (K : Value → World → Prop) (Kp : KP) : Prop :=
 S.op (.bin .shr 22 false false a4 a3) w (fun v27 w =>
 S.op (.bin .and 22 false true v27 (.int .u32 31)) w (fun v28 w =>
 S.op (.bin .shl 22 true false (.int .u32 1) v28) w (fun v30 w =>
 S.op (.nilCheck a0) w (fun v32 w =>
 S.op (.fieldAddr 203 v32 0) w (fun v33 w =>
 S.op (.load 22 v33) w (fun v34 w =>
 S.op (.bin .and 22 false false v34 v30) w (fun v36 w =>
 S.op (.bin .neq 22 false true v36 (.int .u32 0)) w (fun v37 w =>
 Jn fun (J6 : World → Prop) =>
 (S.op (.un .not v37) w (fun v39 w =>
 Br v39 (
 S.op (.nilCheck a7) w (fun v41 w =>
 S.op (.store 4 v41 (.bool true)) w (fun _ w =>
 J6 w) Kp) Kp) (
 J6 w)) Kp) ∧
 (∀ (w : World) (junk : Nat → Value), J6 w →
 S.op (.nilCheck a0) w (fun v43 w =>
 S.op (.fieldAddr 203 v43 0) w (fun v44 w =>
 S.op (.load 22 v44) w (fun v45 w =>
 S.op (.bin .sub 22 false true v30 (.int .u32 1)) w (fun v47 w =>
 S.op (.bin .and 22 false false v45 v47) w (fun v48 w =>
 S.call (.fn 149) [v48] w (fun v49 w =>
 Jn fun (J11 : Value → World → Prop) =>
 (Br v37 (
 S.op (.nilCheck a0) w (fun v52 w =>
 S.op (.fieldAddr 203 v52 1) w (fun v53 w =>
 S.op (.load 201 v53) w (fun v54 w =>
 S.op (.indexAddr 201 v54 v49) w (fun v56 w =>
 S.op (.load 132 v56) w (fun v57 w =>
 S.op (.bin .add 187 false true a3 (.int .u64 5)) w (fun v61 w =>
 S.call (.inv v57 "pub-bracken/pub/immutable.set") [a1, a2, v61, a4, a5, a6, a7] w (fun v66 w =>
 J11 v66 w) Kp) Kp) Kp) Kp) Kp) Kp) Kp) (
 S.call (.fn 120) [a4, a1, a2] w (fun v70 w =>
 S.op (.mkIface 152 v70) w (fun v71 w =>
 J11 v71 w) Kp) Kp)) ∧
 (∀ (w : World) (junk : Nat → Value) (j21_newNode : Value), J11 j21_newNode w →
 Jn fun (J22 : World → Prop) =>
 (S.op (.un .not v37) w (fun v73 w =>
 Br v73 (
 S.op (.nilCheck a0) w (fun v76 w =>
 S.op (.fieldAddr 203 v76 1) w (fun v77 w =>
 S.op (.load 201 v77) w (fun v78 w =>
 S.op (.blt .len [201] 3 [v78]) w (fun v79 w =>
 S.op (.bin .gtr 3 false true v79 (.int .i64 16)) w (fun v80 w =>
 Br v80 (
 S.op (.alloc 207) w (fun v22_other w =>
 Lp fun (I14 : Value → World → Prop) (μ14 : Value → World → Nat) => I14 (.int .u64 0) w ∧
 ∀ (wl14 : World) (junk : Nat → Value) (s23_i : Value), I14 s23_i wl14 →
 S.op (.bin .lss 187 false true s23_i (.int .u64 32)) wl14 (fun v83 w =>
 Br v83 (
 S.op (.nilCheck a0) w (fun v87 w =>
 S.op (.fieldAddr 203 v87 0) w (fun v88 w =>
 S.op (.load 22 v88) w (fun v89 w =>
 S.op (.bin .shl 22 true false (.int .u32 1) s23_i) w (fun v91 w =>
 S.op (.bin .and 22 false false v89 v91) w (fun v92 w =>
 S.op (.bin .neq 22 false true v92 (.int .u32 0)) w (fun v93 w =>
 Br v93 (
 S.pur (.nilCheck a0) (fun v96 =>
 S.pur (.fieldAddr 203 v96 1) (fun v97 =>
 S.ld (.load 201 v97) w.drew (fun v98 =>
 S.pur (.fieldAddr 207 v22_other 0) (fun v99 =>
 S.ld (.load 187 v99) w.drew (fun v100 =>
 S.pur (.indexAddr 201 v98 v100) (fun v101 =>
 S.ld (.load 132 v101) w.drew (fun v102 =>
 S.pur (.fieldAddr 207 v22_other 1) (fun v103 =>
 S.pur (.indexAddr 205 v103 s23_i) (fun v104 =>
 S.op (.store 132 v104 v102) w.drew (fun _ w =>
 S.op (.fieldAddr 207 v22_other 0) w (fun v105 w =>
 S.op (.load 187 v105) w (fun v106 w =>
 S.op (.bin .add 187 false true v106 (.int .u64 1)) w (fun v107 w =>
 S.op (.fieldAddr 207 v22_other 0) w (fun v108 w =>
 S.op (.store 187 v108 v107) w (fun _ w =>
 S.op (.bin .add 187 false true s23_i (.int .u64 1)) w (fun v85 w =>
 I14 v85 w ∧ μ14 v85 w < μ14 s23_i wl14) Kp) Kp) Kp) Kp) Kp) Kp) Kp)))))))))) (
 S.op (.bin .add 187 false true s23_i (.int .u64 1)) w (fun v85 w =>
 I14 v85 w ∧ μ14 v85 w < μ14 s23_i wl14) Kp)) Kp) Kp) Kp) Kp) Kp) Kp) (
 S.op (.fieldAddr 207 v22_other 1) w (fun v111 w =>
 S.op (.indexAddr 205 v111 v28) w (fun v112 w =>
 S.op (.store 132 v112 j21_newNode) w (fun _ w =>
 S.op (.fieldAddr 207 v22_other 0) w (fun v113 w =>
 S.op (.load 187 v113) w (fun v114 w =>
 S.op (.bin .add 187 false true v114 (.int .u64 1)) w (fun v115 w =>
 S.op (.fieldAddr 207 v22_other 0) w (fun v116 w =>
 S.op (.store 187 v116 v115) w (fun _ w =>
 S.op (.mkIface 204 v22_other) w (fun v117 w =>
 K v117 w) Kp) Kp) Kp) Kp) Kp) Kp) Kp) Kp) Kp)) Kp) Kp) (
 J22 w)) Kp) Kp) Kp) Kp) Kp) (
 J22 w)) Kp) ∧
 (∀ (w : World) (junk : Nat → Value), J22 w →
 Br a6 (
 Br v37 (
 S.op (.nilCheck a0) w (fun v121 w =>
 S.op (.fieldAddr 203 v121 1) w (fun v122 w =>
 S.op (.load 201 v122) w (fun v123 w =>
 S.op (.indexAddr 201 v123 v49) w (fun v126 w =>
 S.op (.store 132 v126 j21_newNode) w (fun _ w =>
 S.op (.mkIface 200 a0) w (fun v166 w =>
 K v166 w) Kp) Kp) Kp) Kp) Kp) Kp) (
 S.op (.nilCheck a0) w (fun v128 w =>
 S.op (.fieldAddr 203 v128 0) w (fun v129 w =>
 S.op (.load 22 v129) w (fun v130 w =>
 S.op (.bin .or 22 false false v130 v30) w (fun v132 w =>
 S.op (.nilCheck a0) w (fun v133 w =>
 S.op (.fieldAddr 203 v133 0) w (fun v134 w =>
 S.op (.store 22 v134 v132) w (fun _ w =>
 S.op (.nilCheck a0) w (fun v137 w =>
 S.op (.fieldAddr 203 v137 1) w (fun v138 w =>
 S.op (.load 201 v138) w (fun v139 w =>
 S.op (.buildSlice 201 1 [(0, .nilIface)]) w (fun v140 w =>
 S.op (.blt .append [201, 201] 201 [v139, v140]) w (fun v141 w =>
 S.op (.nilCheck a0) w (fun v142 w =>
 S.op (.fieldAddr 203 v142 1) w (fun v143 w =>
 S.op (.store 201 v143 v141) w (fun _ w =>
 S.pur (.nilCheck a0) (fun v145 =>
 S.pur (.fieldAddr 203 v145 1) (fun v146 =>
 S.ld (.load 201 v146) w.drew (fun v147 =>
 S.pur (.bin .add 3 false true v49 (.int .i64 1)) (fun v149 =>
 S.pur (.slice 201 v147 (some v149) none none) (fun v150 =>
 S.pur (.nilCheck a0) (fun v152 =>
 S.pur (.fieldAddr 203 v152 1) (fun v153 =>
 S.ld (.load 201 v153) w.drew (fun v154 =>
 S.pur (.slice 201 v154 (some v49) none none) (fun v156 =>
 S.op (.blt .copy [201, 201] 3 [v150, v156]) w.drew (fun v157 w =>
 S.op (.nilCheck a0) w (fun v159 w =>
 S.op (.fieldAddr 203 v159 1) w (fun v160 w =>
 S.op (.load 201 v160) w (fun v161 w =>
 S.op (.indexAddr 201 v161 v49) w (fun v164 w =>
 S.op (.store 132 v164 j21_newNode) w (fun _ w =>
 S.op (.mkIface 200 a0) w (fun v166 w =>
 K v166 w) Kp) Kp) Kp) Kp) Kp) Kp) Kp)))))))))) Kp) Kp) Kp) Kp) Kp) Kp) Kp) Kp) Kp) Kp) Kp) Kp) Kp) Kp) Kp)) (
 S.op (.nilCheck a0) w (fun v168 w =>
 S.op (.fieldAddr 203 v168 0) w (fun v169 w =>
 S.op (.load 22 v169) w (fun v170 w =>
 S.op (.bin .or 22 false false v170 v30) w (fun v172 w =>
 S.op (.build 203 [(0, v172)]) w (fun v173 w =>
 S.op (.box 203 v173) w (fun v174 w =>
 Br v37 (
 S.op (.nilCheck a0) w (fun v178 w =>
 S.op (.fieldAddr 203 v178 1) w (fun v179 w =>
 S.op (.load 201 v179) w (fun v180 w =>
 S.op (.blt .len [201] 3 [v180]) w (fun v181 w =>
 S.op (.mkSlice 201 v181 v181) w (fun v182 w =>
 S.op (.nilCheck v174) w (fun v183 w =>
 S.op (.fieldAddr 203 v183 1) w (fun v184 w =>
 S.op (.store 201 v184 v182) w (fun _ w =>
 S.pur (.nilCheck v174) (fun v186 =>
 S.pur (.fieldAddr 203 v186 1) (fun v187 =>
 S.ld (.load 201 v187) w.drew (fun v188 =>
 S.pur (.nilCheck a0) (fun v190 =>
 S.pur (.fieldAddr 203 v190 1) (fun v191 =>
 S.ld (.load 201 v191) w.drew (fun v192 =>
 S.op (.blt .copy [201, 201] 3 [v188, v192]) w.drew (fun v193 w =>
 S.op (.nilCheck v174) w (fun v195 w =>
 S.op (.fieldAddr 203 v195 1) w (fun v196 w =>
 S.op (.load 201 v196) w (fun v197 w =>
 S.op (.indexAddr 201 v197 v49) w (fun v200 w =>
 S.op (.store 132 v200 j21_newNode) w (fun _ w =>
 S.op (.mkIface 200 v174) w (fun v244 w =>
 K v244 w) Kp) Kp) Kp) Kp) Kp) Kp) Kp))))))) Kp) Kp) Kp) Kp) Kp) Kp) Kp) Kp) (
 S.op (.nilCheck a0) w (fun v203 w =>
 S.op (.fieldAddr 203 v203 1) w (fun v204 w =>
 S.op (.load 201 v204) w (fun v205 w =>
 S.op (.blt .len [201] 3 [v205]) w (fun v206 w =>
 S.op (.bin .add 3 false true v206 (.int .i64 1)) w (fun v207 w =>
 S.op (.mkSlice 201 v207 v207) w (fun v208 w =>
 S.op (.nilCheck v174) w (fun v209 w =>
 S.op (.fieldAddr 203 v209 1) w (fun v210 w =>
 S.op (.store 201 v210 v208) w (fun _ w =>
 S.pur (.nilCheck v174) (fun v212 =>
 S.pur (.fieldAddr 203 v212 1) (fun v213 =>
 S.ld (.load 201 v213) w.drew (fun v214 =>
 S.pur (.nilCheck a0) (fun v216 =>
 S.pur (.fieldAddr 203 v216 1) (fun v217 =>
 S.ld (.load 201 v217) w.drew (fun v218 =>
 S.pur (.slice 201 v218 none (some v49) none) (fun v220 =>
 S.op (.blt .copy [201, 201] 3 [v214, v220]) w.drew (fun v221 w =>
 S.op (.nilCheck v174) w (fun v223 w =>
 S.op (.fieldAddr 203 v223 1) w (fun v224 w =>
 S.op (.load 201 v224) w (fun v225 w =>
 S.op (.indexAddr 201 v225 v49) w (fun v228 w =>
 S.op (.store 132 v228 j21_newNode) w (fun _ w =>
 S.pur (.nilCheck v174) (fun v230 =>
 S.pur (.fieldAddr 203 v230 1) (fun v231 =>
 S.ld (.load 201 v231) w.drew (fun v232 =>
 S.pur (.bin .add 3 false true v49 (.int .i64 1)) (fun v234 =>
 S.pur (.slice 201 v232 (some v234) none none) (fun v235 =>
 S.pur (.nilCheck a0) (fun v237 =>
 S.pur (.fieldAddr 203 v237 1) (fun v238 =>
 S.ld (.load 201 v238) w.drew (fun v239 =>
 S.pur (.slice 201 v239 (some v49) none none) (fun v241 =>
 S.op (.blt .copy [201, 201] 3 [v235, v241]) w.drew (fun v242 w =>
 S.op (.mkIface 200 v174) w (fun v244 w =>
 K v244 w) Kp) Kp)))))))))) Kp) Kp) Kp) Kp) Kp) Kp)))))))) Kp) Kp) Kp) Kp) Kp) Kp) Kp) Kp) Kp)) Kp) Kp) Kp) Kp) Kp) Kp)))) Kp) Kp) Kp) Kp) Kp) Kp)) Kp) Kp) Kp) Kp) Kp) Kp) Kp) Kp
theorem vc148_eq (S : Sig) (a0 a1 a2 a3 a4 a5 a6 a7 : Value) (w : World) (K : Value → World → Prop) (Kp : KP) : vc148 S a0 a1 a2 a3 a4 a5 a6 a7 w K Kp = fVC S [(14, [23])] [(6, []), (11, [21]), (22, [])] Try.f148 [a0, a1, a2, a3, a4, a5, a6, a7] w K Kp := by kernel_rfl
theorem vc148_calls {a0 a1 a2 a3 a4 a5 a6 a7 : Value} {w : World} {K : Value → World → Prop} {Kp : KP} (h : vc148 (nice Try.prog) a0 a1 a2 a3 a4 a5 a6 a7 w K Kp) : Calls Try.prog 148 #[a0, a1, a2, a3, a4, a5, a6, a7] w (ret K Kp) :=
 fVC_sound (args := [a0, a1, a2, a3, a4, a5, a6, a7]) nice_le follows_MVcI Try.func148 (by kernel_rfl) (Eq.mp (vc148_eq _ _ _ _ _ _ _ _ _ _ _ _) h)

def vc150 (S : Sig) (a0 : Value) (w : World) (K : Value → World → Prop) (Kp : KP) : Prop :=
 S.op (.nilCheck a0) w (fun v5 w =>
 S.op (.load 207 v5) w (fun v6 w =>
 S.op (.alloc 207) w (fun v3_other w =>
 S.op (.store 207 v3_other v6) w (fun _ w =>
 K v3_other w) Kp) Kp) Kp) Kp
theorem vc150_eq (S : Sig) (a0 : Value) (w : World) (K : Value → World → Prop) (Kp : KP) : vc150 S a0 w K Kp = fVC S [] [] Try.f150 [a0] w K Kp := by kernel_rfl
theorem vc150_calls {a0 : Value} {w : World} {K : Value → World → Prop} {Kp : KP} (h : vc150 (nice Try.prog) a0 w K Kp) : Calls Try.prog 150 #[a0] w (ret K Kp) :=
 fVC_sound (args := [a0]) nice_le follows_MVcI Try.func150 (by kernel_rfl) (Eq.mp (vc150_eq _ _ _ _ _) h)

def vc151 (S : Sig) (a0 a1 a2 a3 a4 a5 a6 : Value) (w : World) (K : Value → World → Prop) (Kp : KP) : Prop :=
 S.op (.bin .shr 22 false false a3 a2) w (fun v24 w =>
 S.op (.bin .and 22 false true v24 (.int .u32 31)) w (fun v25 w =>
 S.op (.nilCheck a0) w (fun v28 w =>
 S.op (.fieldAddr 207 v28 1) w (fun v29 w =>
 S.op (.indexAddr 205 v29 v25) w (fun v30 w =>
 S.op (.load 132 v30) w (fun v31 w =>
 S.op (.bin .eql 132 false true v31 .nilIface) w (fun v33 w =>
 Br v33 (
 S.op (.mkIface 204 a0) w (fun v35 w =>
 K v35 w) Kp) (
 S.op (.bin .add 187 false true a2 (.int .u64 5)) w (fun v39 w =>
 S.call (.inv v31 "pub-bracken/pub/immutable.delete") [a1, v39, a3, a4, a5, a6] w (fun v44 w =>
 S.op (.nilCheck a6) w (fun v46 w =>
 S.op (.load 4 v46) w (fun v47 w =>
 S.op (.un .not v47) w (fun v48 w =>
 Br v48 (
 S.op (.mkIface 204 a0) w (fun v50 w =>
 K v50 w) Kp) (
 Jn fun (J18 : World → Prop) =>
 (S.op (.bin .eql 132 false true v44 .nilIface) w (fun v52 w =>
 Br v52 (
 S.op (.nilCheck a0) w (fun v55 w =>
 S.op (.fieldAddr 207 v55 0) w (fun v56 w =>
 S.op (.load 187 v56) w (fun v57 w =>
 S.op (.bin .leq 187 false true v57 (.int .u64 16)) w (fun v58 w =>
 Br v58 (
 S.op (.nilCheck a0) w (fun v61 w =>
 S.op (.fieldAddr 207 v61 0) w (fun v62 w =>
 S.op (.load 187 v62) w (fun v63 w =>
 S.op (.bin .sub 187 false true v63 (.int .u64 1)) w (fun v64 w =>
 S.op (.mkSlice 201 (.int .i64 0) v64) w (fun v65 w =>
 S.op (.build 203 [(1, v65)]) w (fun v66 w =>
 S.op (.box 203 v66) w (fun v67 w =>
 S.op (.nilCheck a0) w (fun v69 w =>
 S.op (.fieldAddr 207 v69 1) w (fun v70 w =>
 S.op (.load 205 v70) w (fun v71 w =>
 Lp fun (I11 : Value → World → Prop) (μ11 : Value → World → Nat) => I11 (.int .i64 0) w ∧
 ∀ (wl11 : World) (junk : Nat → Value) (s72_ : Value), I11 s72_ wl11 →
 S.op (.bin .lss 3 false true s72_ (.int .i64 32)) wl11 (fun v73 w =>
 Br v73 (
 S.op (.index 205 v71 s72_) w (fun v75 w =>
 S.op (.bin .neq 132 false true v75 .nilIface) w (fun v77 w =>
 Br v77 (
 S.op (.conv 3 22 s72_) w (fun v80 w =>
 S.op (.bin .neq 22 false false v80 v25) w (fun v82 w =>
 Br v82 (
 S.op (.nilCheck v67) w (fun v85 w =>
 S.op (.fieldAddr 203 v85 0) w (fun v86 w =>
 S.op (.load 22 v86) w (fun v87 w =>
 S.op (.conv 3 187 s72_) w (fun v89 w =>
 S.op (.bin .shl 22 true false (.int .u32 1) v89) w (fun v90 w =>
 S.op (.bin .or 22 false false v87 v90) w (fun v91 w =>
 S.op (.nilCheck v67) w (fun v92 w =>
 S.op (.fieldAddr 203 v92 0) w (fun v93 w =>
 S.op (.store 22 v93 v91) w (fun _ w =>
 S.op (.nilCheck v67) w (fun v96 w =>
 S.op (.fieldAddr 203 v96 1) w (fun v97 w =>
 S.op (.load 201 v97) w (fun v98 w =>
 S.op (.buildSlice 201 1 [(0, v75)]) w (fun v100 w =>
 S.op (.blt .append [201, 201] 201 [v98, v100]) w (fun v101 w =>
 S.op (.nilCheck v67) w (fun v102 w =>
 S.op (.fieldAddr 203 v102 1) w (fun v103 w =>
 S.op (.store 201 v103 v101) w (fun _ w =>
 S.op (.bin .add 3 false true s72_ (.int .i64 1)) w (fun v104 w =>
 I11 v104 w ∧ μ11 v104 w < μ11 s72_ wl11) Kp) Kp) Kp) Kp) Kp) Kp) Kp) Kp) Kp) Kp) Kp) Kp) Kp) Kp) Kp) Kp) Kp) Kp) (
 S.op (.bin .add 3 false true s72_ (.int .i64 1)) w (fun v104 w =>
 I11 v104 w ∧ μ11 v104 w < μ11 s72_ wl11) Kp)) Kp) Kp) (
 S.op (.bin .add 3 false true s72_ (.int .i64 1)) w (fun v104 w =>
 I11 v104 w ∧ μ11 v104 w < μ11 s72_ wl11) Kp)) Kp) Kp) (
 S.op (.mkIface 200 v67) w (fun v106 w =>
 K v106 w) Kp)) Kp) Kp) Kp) Kp) Kp) Kp) Kp) Kp) Kp) Kp) Kp) (
 J18 w)) Kp) Kp) Kp) Kp) (
 J18 w)) Kp) ∧
 (∀ (w : World) (junk : Nat → Value), J18 w →
 S.op (.un .not a5) w (fun v109 w =>
 Br v109 (
 S.call (.fn 150) [a0] w (fun v111 w =>
 S.op (.nilCheck v111) w (fun v115 w =>
 S.op (.fieldAddr 207 v115 1) w (fun v116 w =>
 S.op (.indexAddr 205 v116 v25) w (fun v117 w =>
 S.op (.store 132 v117 v44) w (fun _ w =>
 S.op (.bin .eql 132 false true v44 .nilIface) w (fun v119 w =>
 Br v119 (
 S.op (.nilCheck v111) w (fun v121 w =>
 S.op (.fieldAddr 207 v121 0) w (fun v122 w =>
 S.op (.load 187 v122) w (fun v123 w =>
 S.op (.bin .sub 187 false true v123 (.int .u64 1)) w (fun v124 w =>
 S.op (.nilCheck v111) w (fun v125 w =>
 S.op (.fieldAddr 207 v125 0) w (fun v126 w =>
 S.op (.store 187 v126 v124) w (fun _ w =>
 S.op (.mkIface 204 v111) w (fun v128 w =>
 K v128 w) Kp) Kp) Kp) Kp) Kp) Kp) Kp) Kp) (
 S.op (.mkIface 204 v111) w (fun v128 w =>
 K v128 w) Kp)) Kp) Kp) Kp) Kp) Kp) Kp) (
 S.op (.nilCheck a0) w (fun v115 w =>
 S.op (.fieldAddr 207 v115 1) w (fun v116 w =>
 S.op (.indexAddr 205 v116 v25) w (fun v117 w =>
 S.op (.store 132 v117 v44) w (fun _ w =>
 S.op (.bin .eql 132 false true v44 .nilIface) w (fun v119 w =>
 Br v119 (
 S.op (.nilCheck a0) w (fun v121 w =>
 S.op (.fieldAddr 207 v121 0) w (fun v122 w =>
 S.op (.load 187 v122) w (fun v123 w =>
 S.op (.bin .sub 187 false true v123 (.int .u64 1)) w (fun v124 w =>
 S.op (.nilCheck a0) w (fun v125 w =>
 S.op (.fieldAddr 207 v125 0) w (fun v126 w =>
 S.op (.store 187 v126 v124) w (fun _ w =>
 S.op (.mkIface 204 a0) w (fun v128 w =>
 K v128 w) Kp) Kp) Kp) Kp) Kp) Kp) Kp) Kp) (
 S.op (.mkIface 204 a0) w (fun v128 w =>
 K v128 w) Kp)) Kp) Kp) Kp) Kp) Kp)) Kp))) Kp) Kp) Kp) Kp) Kp)) Kp) Kp) Kp) Kp) Kp) Kp) Kp
theorem vc151_eq (S : Sig) (a0 a1 a2 a3 a4 a5 a6 : Value) (w : World) (K : Value → World → Prop) (Kp : KP) : vc151 S a0 a1 a2 a3 a4 a5 a6 w K Kp = fVC S [(11, [72])] [(18, [])] Try.f151 [a0, a1, a2, a3, a4, a5, a6] w K Kp := by kernel_rfl
theorem vc151_calls {a0 a1 a2 a3 a4 a5 a6 : Value} {w : World} {K : Value → World → Prop} {Kp : KP} (h : vc151 (nice Try.prog) a0 a1 a2 a3 a4 a5 a6 w K Kp) : Calls Try.prog 151 #[a0, a1, a2, a3, a4, a5, a6] w (ret K Kp) :=
 fVC_sound (args := [a0, a1, a2, a3, a4, a5, a6]) nice_le follows_MVcI Try.func151 (by kernel_rfl) (Eq.mp (vc151_eq _ _ _ _ _ _ _ _ _ _ _) h)

def vc153 (S : Sig) (a0 a1 a2 a3 a4 a5 a6 a7 : Value) (w : World) (K : Value → World → Prop) (Kp : KP) : Prop :=
 S.op (.bin .shr 22 false false a4 a3) w (fun v23 w =>
 S.op (.bin .and 22 false true v23 (.int .u32 31)) w (fun v24 w =>
 S.op (.nilCheck a0) w (fun v27 w =>
 S.op (.fieldAddr 207 v27 1) w (fun v28 w =>
 S.op (.indexAddr 205 v28 v24) w (fun v29 w =>
 S.op (.load 132 v29) w (fun v30 w =>
 Jn fun (J8 : Value → World → Prop) =>
 (S.op (.bin .eql 132 false true v30 .nilIface) w (fun v32 w =>
 Br v32 (
 S.op (.nilCheck a7) w (fun v34 w =>
 S.op (.store 4 v34 (.bool true)) w (fun _ w =>
 S.call (.fn 120) [a4, a1, a2] w (fun v38 w =>
 S.op (.mkIface 152 v38) w (fun v39 w =>
 J8 v39 w) Kp) Kp) Kp) Kp) (
 S.op (.bin .add 187 false true a3 (.int .u64 5)) w (fun v44 w =>
 S.call (.inv v30 "pub-bracken/pub/immutable.set") [a1, a2, v44, a4, a5, a6, a7] w (fun v49 w =>
 J8 v49 w) Kp) Kp)) Kp) ∧
 (∀ (w : World) (junk : Nat → Value) (j19_newNode : Value), J8 j19_newNode w →
 Jn fun (J11 : Value → World → Prop) =>
 (S.op (.un .not a6) w (fun v52 w =>
 Br v52 (
 S.call (.fn 150) [a0] w (fun v54 w =>
 J11 v54 w) Kp) (
 J11 a0 w)) Kp) ∧
 (∀ (w : World) (junk : Nat → Value) (j20_other : Value), J11 j20_other w →
 S.op (.bin .eql 132 false true v30 .nilIface) w (fun v56 w =>
 Br v56 (
 S.op (.nilCheck j20_other) w (fun v58 w =>
 S.op (.fieldAddr 207 v58 0) w (fun v59 w =>
 S.op (.load 187 v59) w (fun v60 w =>
 S.op (.bin .add 187 false true v60 (.int .u64 1)) w (fun v61 w =>
 S.op (.nilCheck j20_other) w (fun v62 w =>
 S.op (.fieldAddr 207 v62 0) w (fun v63 w =>
 S.op (.store 187 v63 v61) w (fun _ w =>
 S.op (.nilCheck j20_other) w (fun v67 w =>
 S.op (.fieldAddr 207 v67 1) w (fun v68 w =>
 S.op (.indexAddr 205 v68 v24) w (fun v69 w =>
 S.op (.store 132 v69 j19_newNode) w (fun _ w =>
 S.op (.mkIface 204 j20_other) w (fun v71 w =>
 K v71 w) Kp) Kp) Kp) Kp) Kp) Kp) Kp) Kp) Kp) Kp) Kp) Kp) (
 S.op (.nilCheck j20_other) w (fun v67 w =>
 S.op (.fieldAddr 207 v67 1) w (fun v68 w =>
 S.op (.indexAddr 205 v68 v24) w (fun v69 w =>
 S.op (.store 132 v69 j19_newNode) w (fun _ w =>
 S.op (.mkIface 204 j20_other) w (fun v71 w =>
 K v71 w) Kp) Kp) Kp) Kp) Kp)) Kp))) Kp) Kp) Kp) Kp) Kp) Kp
theorem vc153_eq (S : Sig) (a0 a1 a2 a3 a4 a5 a6 a7 : Value) (w : World) (K : Value → World → Prop) (Kp : KP) : vc153 S a0 a1 a2 a3 a4 a5 a6 a7 w K Kp = fVC S [] [(8, [19]), (11, [20])] Try.f153 [a0, a1, a2, a3, a4, a5, a6, a7] w K Kp := by kernel_rfl
theorem vc153_calls {a0 a1 a2 a3 a4 a5 a6 a7 : Value} {w : World} {K : Value → World → Prop} {Kp : KP} (h : vc153 (nice Try.prog) a0 a1 a2 a3 a4 a5 a6 a7 w K Kp) : Calls Try.prog 153 #[a0, a1, a2, a3, a4, a5, a6, a7] w (ret K Kp) :=
 fVC_sound (args := [a0, a1, a2, a3, a4, a5, a6, a7]) nice_le follows_MVcI Try.func153 (by kernel_rfl) (Eq.mp (vc153_eq _ _ _ _ _ _ _ _ _ _ _ _) h)

def vc161 (S : Sig) (a0 a1 a2 : Value) (w : World) (K : Value → World → Prop) (Kp : KP) : Prop :=
 S.op (.mkIface 2 a1) w (fun v8 w =>
 S.op (.mkIface 2 a2) w (fun v10 w =>
 S.op (.bin .eql 20 false false v8 v10) w (fun v11 w =>
 K v11 w) Kp) Kp) Kp
theorem vc161_eq (S : Sig) (a0 a1 a2 : Value) (w : World) (K : Value → World → Prop) (Kp : KP) : vc161 S a0 a1 a2 w K Kp = fVC S [] [] Try.f161 [a0, a1, a2] w K Kp := by kernel_rfl
theorem vc161_calls {a0 a1 a2 : Value} {w : World} {K : Value → World → Prop} {Kp : KP} (h : vc161 (nice Try.prog) a0 a1 a2 w K Kp) : Calls Try.prog 161 #[a0, a1, a2] w (ret K Kp) :=
 fVC_sound (args := [a0, a1, a2]) nice_le follows_MVcI Try.func161 (by kernel_rfl) (Eq.mp (vc161_eq _ _ _ _ _ _ _) h)

def vc163 (S : Sig) (a0 : Value) (w : World) (K : Value → World → Prop) (Kp : KP) : Prop :=
 Lp fun (I2 : Value → Value → World → Prop) (μ2 : Value → Value → World → Nat) => I2 a0 a0 w ∧
 ∀ (wl2 : World) (junk : Nat → Value) (s0_value : Value) (s3_hash : Value), I2 s0_value s3_hash wl2 →
 S.op (.bin .gtr 234 false true s0_value (.int .u64 4294967295)) wl2 (fun v6 w =>
 Br v6 (
 S.op (.bin .quo 234 false true s0_value (.int .u64 4294967295)) w (fun v8 w =>
 S.op (.bin .xor 234 false false s3_hash v8) w (fun v11 w =>
 I2 v8 v11 w ∧ μ2 v8 v11 w < μ2 s0_value s3_hash wl2) Kp) Kp) (
 S.op (.conv 234 22 s3_hash) w (fun v13 w =>
 K v13 w) Kp)) Kp
theorem vc163_eq (S : Sig) (a0 : Value) (w : World) (K : Value → World → Prop) (Kp : KP) : vc163 S a0 w K Kp = fVC S [(2, [0, 3])] [] Try.f163 [a0] w K Kp := by kernel_rfl
theorem vc163_calls {a0 : Value} {w : World} {K : Value → World → Prop} {Kp : KP} (h : vc163 (nice Try.prog) a0 w K Kp) : Calls Try.prog 163 #[a0] w (ret K Kp) :=
 fVC_sound (args := [a0]) nice_le follows_MVcI Try.func163 (by kernel_rfl) (Eq.mp (vc163_eq _ _ _ _ _) h)

end Go.Proofs.Ytbghmbbhkoniiaa
end
section
/- The nodes of a map's trie in the heap; what looking a key up in them does. -/
set_option maxRecDepth 100000
set_option linter.unusedSimpArgs false
set_option linter.unusedVariables false
set_option linter.unusedSectionVars false
namespace Go.Proofs.Ytbghmbbhkoniiaa.I
open Go.Vc Go.Proofs Go.Proofs.Ytbghmbbhkoniiaa Go.Vc.Nd

abbrev Ky := Int
abbrev Vl := Int
def ek (k : Ky) : Value := .int .i64 k
def ev (v : Vl) : Value := .int .i64 v
def zv : Value := .int .i64 0
abbrev Tr := Nd Ky Vl
def ent (e : Ky × Vl) : List Value := [ek e.1, ev e.2]
theorem ent_len (e : Ky × Vl) : (ent e).length = 2 := rfl
theorem one_ek (k : Ky) : (ek k).oneCell' = true := rfl
theorem one_ev (v : Vl) : (ev v).oneCell' = true := rfl
def ents (es : List (Ky × Vl)) : List Value := es.flatMap ent
theorem ents_len (es : List (Ky × Vl)) : (ents es).length = es.length * 2 := flatMap_len ent_len es
theorem ents_get {es : List (Ky × Vl)} {i r : Nat} (hi : i < es.length) (hr : r < 2) : (ents es)[i * 2 + r]? = (ent es[i])[r]? := flatMap_get ent_len es i r hi hr
theorem ents_one {es : List (Ky × Vl)} : ∀ u ∈ ents es, u.oneCell' = true := fun u hu => by
  obtain ⟨e, _, he⟩ := List.mem_flatMap.1 hu
  simp only [ent, List.mem_cons, List.not_mem_nil, or_false] at he
  rcases he with rfl | rfl <;> rfl
def ptr (b : Nat) : Value := .pointer (some ⟨b, 0, none⟩)

@[simp] theorem op_ent (a : Ky) (c : Vl) {w : World} {K : Value → World → Prop} {Kp : KP} : (nice Try.prog).op (.build 148 [(0, ek a), (1, ev c)]) w K Kp = K (.agg #[ek a, ev c]) w := op_build_148_0_1 (one_ek a) (one_ev c)
@[simp] theorem pur_ent (a : Ky) (c : Vl) {K1 : Value → Prop} : (nice Try.prog).pur (.build 148 [(0, ek a), (1, ev c)]) K1 = K1 (.agg #[ek a, ev c]) := pur_build_148_0_1 (one_ek a) (one_ev c)

@[simp] theorem pur_valB (a : Ky) (c : Vl) {h : Nat} {K1 : Value → Prop} : (nice Try.prog).pur (.build 154 [(0, .int .u32 h), (1, ek a), (2, ev c)]) K1 = K1 (.agg #[.int .u32 h, ek a, ev c]) := pur_build_154_0_1_2 one_int (one_ek a) (one_ev c)
theorem apE : apOf Try.prog 149 = some (148, 2, 16) := by kernel_rfl
theorem apN : apOf Try.prog 201 = some (132, 1, 16) := by kernel_rfl

structure IsH (hv : Value) (hash : Ky → Nat) : Prop where
  lt : ∀ k, hash k < 2 ^ 32
  eqv : ∀ {a b : Ky} {w : World} {K : Value → World → Prop} {Kp : KP}, (∀ w', Frm (fun _ => False) w w' → K (.bool (decide (a = b))) w') → (nice Try.prog).call (.inv hv "Equal") [ek a, ek b] w K Kp
  hsh : ∀ {k : Ky} {w : World} {K : Value → World → Prop} {Kp : KP}, (∀ w', Frm (fun _ => False) w w' → K (.int .u32 (hash k)) w') → (nice Try.prog).call (.inv hv "Hash") [ek k] w K Kp
  nilE : ∀ {K1 : Value → Prop}, (nice Try.prog).pur (.nilCheck (.func (.method "Equal") #[hv] #[])) K1 = K1 (.func (.method "Equal") #[hv] #[])
  iface : ∃ t p, hv = .iface t p

def Rep (w : World) : Tr → Value → (Nat → Prop) → Prop
  | .emp, v, F => v = .nilIface
  | .arr es, v, F => ∃ b g cap, v = .iface 145 (ptr b) ∧ F b ∧ F g ∧ g ≠ b ∧ w.heap[b]? = some (.cells #[.slice (some ⟨g, 0, none⟩) es.length cap] 151 (0, 0)) ∧ es.length ≤ cap ∧ Rw w 148 2 g cap (ents es)
  | .val h k x, v, F => ∃ b, v = .iface 152 (ptr b) ∧ F b ∧ w.heap[b]? = some (.cells #[.int .u32 h, ek k, ev x] 154 (0, 0))
  | .col h es, v, F => ∃ b g cap, v = .iface 155 (ptr b) ∧ F b ∧ F g ∧ g ≠ b ∧ w.heap[b]? = some (.cells #[.int .u32 h, .slice (some ⟨g, 0, none⟩) es.length cap] 157 (0, 0)) ∧ es.length ≤ cap ∧ Rw w 148 2 g cap (ents es)
  | .br false f, v, F => ∃ b g cap, ∃ vs : Nat → Value, ∃ Fs : Nat → Nat → Prop, v = .iface 200 (ptr b) ∧ F b ∧ F g ∧ g ≠ b ∧ w.heap[b]? = some (.cells #[.int .u32 (bm f), .slice (some ⟨g, 0, none⟩) (cnt f) cap] 203 (0, 0)) ∧ cnt f ≤ cap ∧ Rw w 132 1 g cap (kids f vs) ∧
      (∀ i, i < 32 → Rep w (f i) (vs i) (Fs i)) ∧ ∀ i, i < 32 → ∀ c, Fs i c → F c ∧ c ≠ b ∧ c ≠ g ∧ ∀ k, k < 32 → k ≠ i → ¬ Fs k c
  | .br true f, v, F => ∃ b cs, ∃ vs : Nat → Value, ∃ Fs : Nat → Nat → Prop, v = .iface 204 (ptr b) ∧ F b ∧ w.heap[b]? = some (.cells cs 207 (0, 0)) ∧ cs.size = 33 ∧ cs[0]? = some (.int .u64 (cnt f)) ∧ (∀ i, i < 32 → cs[i + 1]? = some (vs i)) ∧
      (∀ i, i < 32 → Rep w (f i) (vs i) (Fs i)) ∧ ∀ i, i < 32 → ∀ c, Fs i c → F c ∧ c ≠ b ∧ ∀ k, k < 32 → k ≠ i → ¬ Fs k c

variable {w w' : World} {v hv : Value} {t : Tr} {F F' : Nat → Prop} {K : Value → World → Prop} {Kp : KP} {hash : Ky → Nat} {k : Ky} {x : Vl} {l : Nat}
theorem Rep.mono : ∀ {t : Tr} {v : Value} {F F' : Nat → Prop}, Rep w t v F → (∀ b, F b → F' b) → (∀ b o, F b → w.heap[b]? = some o → w'.heap[b]? = some o) → Rep w' t v F'
  | .emp, v, F, F', h, hF, hw => h
  | .arr es, v, F, F', h, hF, hw => by
    obtain ⟨b, g, cap, h1, h2, h3, h4, h5, h6, h7⟩ := h
    exact ⟨b, g, cap, h1, hF _ h2, hF _ h3, h4, hw _ _ h2 h5, h6, h7.keep fun o => hw _ _ h3⟩
  | .val h' k x, v, F, F', h, hF, hw => by
    obtain ⟨b, h1, h2, h3⟩ := h
    exact ⟨b, h1, hF _ h2, hw _ _ h2 h3⟩
  | .col h' es, v, F, F', h, hF, hw => by
    obtain ⟨b, g, cap, h1, h2, h3, h4, h5, h6, h7⟩ := h
    exact ⟨b, g, cap, h1, hF _ h2, hF _ h3, h4, hw _ _ h2 h5, h6, h7.keep fun o => hw _ _ h3⟩
  | .br false f, v, F, F', h, hF, hw => by
    obtain ⟨b, g, cap, vs, Fs, h1, h2, h3, h4, h5, h6, h7, h8, h9⟩ := h
    exact ⟨b, g, cap, vs, Fs, h1, hF _ h2, hF _ h3, h4, hw _ _ h2 h5, h6, h7.keep fun o => hw _ _ h3, fun i hi => (h8 i hi).mono (fun _ h => h) fun c o hc => hw c o (h9 i hi c hc).1,
      fun i hi c hc => ⟨hF _ (h9 i hi c hc).1, (h9 i hi c hc).2⟩⟩
  | .br true f, v, F, F', h, hF, hw => by
    obtain ⟨b, cs, vs, Fs, h1, h2, h3, h4, h5, h6, h7, h8⟩ := h
    exact ⟨b, cs, vs, Fs, h1, hF _ h2, hw _ _ h2 h3, h4, h5, h6, fun i hi => (h7 i hi).mono (fun _ h => h) fun c o hc => hw c o (h8 i hi c hc).1,
      fun i hi c hc => ⟨hF _ (h8 i hi c hc).1, (h8 i hi c hc).2⟩⟩
theorem Rep.frame {M : Nat → Prop} (h : Rep w t v F) (hf : Frm M w w') (hM : ∀ b, F b → ¬ M b) : Rep w' t v F :=
  h.mono (fun _ h => h) fun b o hb ho => hf.get ho (hM b hb)
theorem Rep.still (h : Rep w t v F) (hf : Frm (fun _ => False) w w') : Rep w' t v F := h.frame hf fun _ _ h => h
theorem Rep.lt : ∀ {t : Tr} {v : Value} {F : Nat → Prop}, Rep w t v F → Rep w t v (fun b => F b ∧ b < w.heap.size)
  | .emp, v, F, h => h
  | .arr es, v, F, h => by
    obtain ⟨b, g, cap, h1, h2, h3, h4, h5, h6, h7⟩ := h
    exact ⟨b, g, cap, h1, ⟨h2, lt_of_get h5⟩, ⟨h3, h7.lt⟩, h4, h5, h6, h7⟩
  | .val h' k x, v, F, h => by
    obtain ⟨b, h1, h2, h3⟩ := h
    exact ⟨b, h1, ⟨h2, lt_of_get h3⟩, h3⟩
  | .col h' es, v, F, h => by
    obtain ⟨b, g, cap, h1, h2, h3, h4, h5, h6, h7⟩ := h
    exact ⟨b, g, cap, h1, ⟨h2, lt_of_get h5⟩, ⟨h3, h7.lt⟩, h4, h5, h6, h7⟩
  | .br false f, v, F, h => by
    obtain ⟨b, g, cap, vs, Fs, h1, h2, h3, h4, h5, h6, h7, h8, h9⟩ := h
    exact ⟨b, g, cap, vs, fun i c => Fs i c ∧ c < w.heap.size, h1, ⟨h2, lt_of_get h5⟩, ⟨h3, h7.lt⟩, h4, h5, h6, h7, fun i hi => (h8 i hi).lt,
      fun i hi c hc => ⟨⟨(h9 i hi c hc.1).1, hc.2⟩, (h9 i hi c hc.1).2.1, (h9 i hi c hc.1).2.2.1, fun k hk hne h => (h9 i hi c hc.1).2.2.2 k hk hne h.1⟩⟩
  | .br true f, v, F, h => by
    obtain ⟨b, cs, vs, Fs, h1, h2, h3, h4, h5, h6, h7, h8⟩ := h
    exact ⟨b, cs, vs, fun i c => Fs i c ∧ c < w.heap.size, h1, ⟨h2, lt_of_get h3⟩, h3, h4, h5, h6, fun i hi => (h7 i hi).lt,
      fun i hi c hc => ⟨⟨(h8 i hi c hc.1).1, hc.2⟩, (h8 i hi c hc.1).2.1, fun k hk hne h => (h8 i hi c hc.1).2.2 k hk hne h.1⟩⟩
theorem Rep.iface (h : Rep w t v F) (ht : t ≠ .emp) : ∃ u b, v = .iface u (ptr b) := by
  cases t with
  | emp => exact absurd rfl ht
  | arr es => obtain ⟨b, g, cap, h1, _⟩ := h; exact ⟨_, _, h1⟩
  | val h' k x => obtain ⟨b, h1, _⟩ := h; exact ⟨_, _, h1⟩
  | col h' es => obtain ⟨b, g, cap, h1, _⟩ := h; exact ⟨_, _, h1⟩
  | br hs f => cases hs with
    | true => obtain ⟨b, cs, vs, Fs, h1, _⟩ := h; exact ⟨_, _, h1⟩
    | false => obtain ⟨b, g, cap, vs, Fs, h1, _⟩ := h; exact ⟨_, _, h1⟩
theorem Rep.nil (h : Rep w .emp v F) : v = .nilIface := h
theorem Rep.one (h : Rep w t v F) : v.oneCell' = true := by
  by_cases ht : t = .emp
  · subst ht; rw [h.nil]; rfl
  · obtain ⟨u, b, rfl⟩ := h.iface ht; rfl
theorem find_at {es : List (Ky × Vl)} {j : Nat} (hj : j < es.length) (h1 : ∀ i (hi : i < j), es[i].1 ≠ k) (h2 : es[j].1 = k) : find es k = some j := by
  rw [find, List.findIdx?_eq_some_iff_getElem]
  exact ⟨hj, by simpa using h2, fun i hi => by simpa using h1 i hi⟩
def idxV (o : Option Nat) : Value := match o with
  | some i => .int .i64 i
  | none => .int .i64 (-1)
theorem key_cell {g cap : Nat} {es : List (Ky × Vl)} (h : Rw w 148 2 g cap (ents es)) : ∃ cur, w.heap[g]? = some (.cells cur 148 (0, 0)) ∧ ∀ j (hj : j < es.length), cur[j * 2]? = some (ek es[j].1) ∧ cur[j * 2 + 1]? = if 1 < 2 then some (ev es[j].2) else cur[j * 2 + 1]? := by
  obtain ⟨cur, h1, h2, h3⟩ := h.cells
  refine ⟨cur, h1, fun j hj => ⟨?_, ?_⟩⟩
  · rw [h3 _ (by rw [ents_len]; omega)]
    have := ents_get (r := 0) hj (by decide)
    rw [Nat.add_zero] at this
    rw [this]; rfl
  · split
    · rw [h3 _ (by rw [ents_len]; omega), ents_get hj (by assumption)]; rfl
    · rfl
theorem wrap_i64_small {n : Int} (h0 : 0 ≤ n) (h1 : n < 9223372036854775808) : IntKind.i64.wrap n = n := by rw [IntKind.wrap_i64]; omega
def natOf : Value → Nat
  | .int _ j => j.toNat
  | _ => 0
theorem indexA_ok {b g cap : Nat} {es : List (Ky × Vl)} (hH : IsH hv hash) (hb : w.heap[b]? = some (.cells #[.slice (some ⟨g, 0, none⟩) es.length cap] 151 (0, 0))) (hg : Rw w 148 2 g cap (ents es)) (h6 : es.length ≤ cap)
    (hK : ∀ w', Frm (fun _ => False) w w' → K (idxV (find es k)) w') : Calls Try.prog 118 #[ptr b, ek k, hv] w (ret K Kp) := by
  have hc := hg.cap_le h6
  refine vc118_calls ?_
  simp [-getElem?_pos, -Array.getElem?_eq_getElem, vc118, ptr, add_spot, hb, and_assoc]
  obtain ⟨I, hI⟩ : ∃ I : Value → World → Prop, ∀ s wl, I s wl ↔ ∃ j : Nat, s = Value.int .i64 j ∧ j ≤ es.length ∧ Frm (fun _ => False) w wl ∧ ∀ i (_ : i < j) (hi : i < es.length), es[i].1 ≠ k := ⟨_, fun _ _ => Iff.rfl⟩
  refine Lp.intro I (fun s _ => es.length - natOf s) ⟨(hI _ _).2 ⟨0, rfl, by omega, Frm.refl, fun i hi => by omega⟩, ?_⟩
  intro wl s hs
  obtain ⟨j, rfl, hj, hf, hno⟩ := (hI _ _).1 hs
  simp only [op_lss, Br_dec]
  refine ⟨fun hlt => ?_, fun hge => ?_⟩
  · have hlt' : j < es.length := by omega
    have hb' := hf.get hb (fun h => h)
    obtain ⟨cur, hcur, hk⟩ := key_cell (hg.frame hf fun h => h)
    have hk' := (hk j hlt').1
    simp [-getElem?_pos, -Array.getElem?_eq_getElem, ptr, add_spot, hb', hcur, hk', hH.nilE, and_assoc]
    refine ⟨by omega, hH.eqv fun w' hf' => ?_⟩
    simp only [Br_dec]
    refine ⟨fun he => ?_, fun hne => ?_⟩
    · have := hK w' (Frm.no hf (Frm.dr hf'))
      rw [find_at hlt' (fun i hi => hno i hi (by omega)) he] at this
      exact this
    · rw [wrap_i64_small (by omega) (by omega)]
      refine ⟨(hI _ _).2 ⟨j + 1, by simp, by omega, Frm.no hf (Frm.dr hf'), fun i hi hi' => ?_⟩, ?_⟩
      · by_cases e : i = j
        · subst e; exact hne
        · exact hno i (by omega) hi'
      · simp only [natOf]; omega
  · have := hK wl hf
    rw [show find es k = none from Nd.find_none.2 fun e he => by obtain ⟨i, hi, rfl⟩ := List.mem_iff_getElem.1 he; exact hno i (by omega) hi] at this
    exact this
end Go.Proofs.Ytbghmbbhkoniiaa.I
end
section
/- Looking a key up in a node. -/
set_option maxRecDepth 100000
set_option linter.unusedSimpArgs false
set_option linter.unusedVariables false
set_option linter.unusedSectionVars false
namespace Go.Proofs.Ytbghmbbhkoniiaa.I
open Go.Vc Go.Proofs Go.Proofs.Ytbghmbbhkoniiaa Go.Vc.Nd
variable {w w' : World} {v hv : Value} {t : Tr} {F F' : Nat → Prop} {K : Value → World → Prop} {Kp : KP} {hash : Ky → Nat} {k : Ky} {x : Vl} {l : Nat}

theorem indexC_ok {b g cap : Nat} {hx : Value} {es : List (Ky × Vl)} (hH : IsH hv hash) (hb : w.heap[b]? = some (.cells #[hx, .slice (some ⟨g, 0, none⟩) es.length cap] 157 (0, 0))) (hg : Rw w 148 2 g cap (ents es)) (h6 : es.length ≤ cap)
    (hK : ∀ w', Frm (fun _ => False) w w' → K (idxV (find es k)) w') : Calls Try.prog 130 #[ptr b, ek k, hv] w (ret K Kp) := by
  have hc := hg.cap_le h6
  refine vc130_calls ?_
  simp [-getElem?_pos, -Array.getElem?_eq_getElem, vc130, ptr, add_spot, hb, and_assoc]
  obtain ⟨I, hI⟩ : ∃ I : Value → World → Prop, ∀ s wl, I s wl ↔ ∃ j : Nat, s = Value.int .i64 j ∧ j ≤ es.length ∧ Frm (fun _ => False) w wl ∧ ∀ i (_ : i < j) (hi : i < es.length), es[i].1 ≠ k := ⟨_, fun _ _ => Iff.rfl⟩
  refine Lp.intro I (fun s _ => es.length - natOf s) ⟨(hI _ _).2 ⟨0, rfl, by omega, Frm.refl, fun i hi => by omega⟩, ?_⟩
  intro wl s hs
  obtain ⟨j, rfl, hj, hf, hno⟩ := (hI _ _).1 hs
  simp only [op_lss, Br_dec]
  refine ⟨fun hlt => ?_, fun hge => ?_⟩
  · have hlt' : j < es.length := by omega
    have hb' := hf.get hb (fun h => h)
    obtain ⟨cur, hcur, hk⟩ := key_cell (hg.frame hf fun h => h)
    have hk' := (hk j hlt').1
    simp [-getElem?_pos, -Array.getElem?_eq_getElem, ptr, add_spot, hb', hcur, hk', hH.nilE, and_assoc]
    refine ⟨by omega, hH.eqv fun w' hf' => ?_⟩
    simp only [Br_dec]
    refine ⟨fun he => ?_, fun hne => ?_⟩
    · have := hK w' (Frm.no hf (Frm.dr hf'))
      rw [find_at hlt' (fun i hi => hno i hi (by omega)) he] at this
      exact this
    · rw [wrap_i64_small (by omega) (by omega)]
      refine ⟨(hI _ _).2 ⟨j + 1, by simp, by omega, Frm.no hf (Frm.dr hf'), fun i hi hi' => ?_⟩, ?_⟩
      · by_cases e : i = j
        · subst e; exact hne
        · exact hno i (by omega) hi'
      · simp only [natOf]; omega
  · have := hK wl hf
    rw [show find es k = none from Nd.find_none.2 fun e he => by obtain ⟨i, hi, rfl⟩ := List.mem_iff_getElem.1 he; exact hno i (by omega) hi] at this
    exact this

theorem pop_ok {x : Nat} (hx : x < 2 ^ 32) (hK : ∀ w', Frm (fun _ => False) w w' → K (.int .i64 (pop 32 x)) w') : Calls Try.prog 149 #[.int .u32 x] w (ret K Kp) := by
  refine vc149_calls ?_
  delta vc149
  generalize hs : (ByteArray.mk _) = s
  have hz : s.size = 256 := by rw [← hs]; rfl
  have ht : ∀ j, j < 256 → ((s[j]?).getD 0).toNat = pop 8 j := by
    have h : (List.range 256).all (fun j => ((s[j]?).getD 0).toNat == pop 8 j) = true := by rw [← hs]; kernel_rfl
    intro j hj
    have := List.all_eq_true.1 h j (List.mem_range.2 hj)
    simpa using this
  clear hs
  have e24 : (2 : Int) ^ min (Int.toNat 24) IntKind.u32.bits = 2 ^ 24 := rfl
  have e16 : (2 : Int) ^ min (Int.toNat 16) IntKind.u32.bits = 2 ^ 16 := rfl
  have e8 : (2 : Int) ^ min (Int.toNat 8) IntKind.u32.bits = 2 ^ 8 := rfl
  have f24 := fdiv_pow x 24
  have f16 := fdiv_pow x 16
  have f8 := fdiv_pow x 8
  have a16 := and255 (a := x / 2 ^ 16) (by omega)
  have a8 := and255 (a := x / 2 ^ 8) (by omega)
  have a0 := and255 (a := x) hx
  simp only [pur_shr, pur_and, pur_index_9, pur_add, pur_conv_5_3, e24, e16, e8, f24, f16, f8, a16, a8, a0, hz, Int.toNat_natCast]
  have p := pop_bytes x hx
  have l1 := pop_le 8 (x / 2 ^ 24)
  have l2 := pop_le 8 (x / 2 ^ 16 % 256)
  have l3 := pop_le 8 (x / 2 ^ 8 % 256)
  have l4 := pop_le 8 (x % 256)
  have t1 := ht (x / 2 ^ 24) (by omega)
  have t2 := ht (x / 2 ^ 16 % 256) (by omega)
  have t3 := ht (x / 2 ^ 8 % 256) (by omega)
  have t4 := ht (x % 256) (by omega)
  rw [t1, t2, t3, t4]
  refine ⟨by omega, by omega, by omega, by omega, by omega, by omega, by omega, ?_⟩
  have := hK w.drew (Frm.drew _)
  rw [p] at this
  simp only [IntKind.wrap_u8, IntKind.wrap_i64]
  refine (congrArg (fun z : Int => K (Value.int .i64 z) w.drew) ?_).mpr this
  omega

theorem look_find {es : List (Ky × Vl)} : Nd.look es k = (find es k).bind fun i => es[i]?.map (·.2) := by
  induction es with
  | nil => rfl
  | cons e es ih =>
    by_cases h : e.1 = k
    · simp [Nd.look, find, h, List.findIdx?_cons]
    · simp only [Nd.look, find, List.find?_cons, List.findIdx?_cons, decide_eq_false h] at ih ⊢
      rw [ih]
      cases List.findIdx? (fun e => decide (e.1 = k)) es <;> simp
theorem kid_cell {g cap : Nat} {f : Nat → Tr} {vs : Nat → Value} (h : Rw w 132 1 g cap (kids f vs)) : ∃ cur, w.heap[g]? = some (.cells cur 132 (0, 0)) ∧ ∀ i, i < 32 → f i ≠ .emp → cur[rk f i]? = some (vs i) := by
  obtain ⟨cur, h1, h2, h3⟩ := h.cells
  refine ⟨cur, h1, fun i hi hf => ?_⟩
  have hg := kids_get (vs := vs) hi hf
  rw [h3 _ (by rw [kids_len, cnt_rk]; exact rk_lt hi hf), hg]
end Go.Proofs.Ytbghmbbhkoniiaa.I
end
