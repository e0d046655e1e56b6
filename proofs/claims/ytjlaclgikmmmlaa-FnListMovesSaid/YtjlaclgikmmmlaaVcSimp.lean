/- The rewriting rules of the conditions of single operations. -/
import Derived.Test.YtjlaclgikmmmlaaVcMem
namespace Go.Vc
variable {P : Program} {w : World} {K : Value → World → Prop} {Kp : KP} {K1 : Value → Prop}

theorem op_of {x : VOp} {c : Prop} {v : Value} (h : pv P x = some (c, v)) : (nice P).op x w K Kp = (c ∧ K v w) := by
  simp only [nice, niceOp, h]
theorem pur_of {x : VOp} {c : Prop} {v : Value} (h : pv P x = some (c, v)) : (nice P).pur x K1 = (c ∧ K1 v) := by
  simp only [nice, nicePur, h]
theorem op_of' {x : VOp} {v : Value} (h : pv P x = some (True, v)) : (nice P).op x w K Kp = K v w := by rw [op_of h, true_and]
theorem pur_of' {x : VOp} {v : Value} (h : pv P x = some (True, v)) : (nice P).pur x K1 = K1 v := by rw [pur_of h, true_and]

section
variable {a b : Int} {k : IntKind} {t : TypeId} {xc yc : Bool} {p : Addr} {v : Value}
@[simp] theorem op_nil_ptr : (nice P).op (.nilCheck (.pointer (some p))) w K Kp = K (.pointer (some p)) w := op_of' rfl
@[simp] theorem pur_nil_ptr : (nice P).pur (.nilCheck (.pointer (some p))) K1 = K1 (.pointer (some p)) := pur_of' rfl
@[simp] theorem op_nil_iface : (nice P).op (.nilCheck (.iface t v)) w K Kp = K (.iface t v) w := op_of' rfl
@[simp] theorem pur_nil_iface : (nice P).pur (.nilCheck (.iface t v)) K1 = K1 (.iface t v) := pur_of' rfl
@[simp] theorem op_nil_func {f : FuncId} {x y : Array Value} : (nice P).op (.nilCheck (.func (.func f) x y)) w K Kp = K (.func (.func f) x y) w := op_of' rfl
@[simp] theorem pur_nil_func {f : FuncId} {x y : Array Value} : (nice P).pur (.nilCheck (.func (.func f) x y)) K1 = K1 (.func (.func f) x y) := pur_of' rfl

theorem binV_int {op : BinOp} (h1 : op ≠ .shl) (h2 : op ≠ .shr) : binV P op t xc yc (.int k a) (.int k b) = intV op k a b := by
  cases op <;> simp_all [binV]
theorem op_int {op : BinOp} (h1 : op ≠ .shl) (h2 : op ≠ .shr) {v : Value} (h : intV op k a b = some (True, v)) : (nice P).op (.bin op t xc yc (.int k a) (.int k b)) w K Kp = K v w :=
  op_of' (by simp only [pv]; rw [binV_int h1 h2, h])
theorem pur_int {op : BinOp} (h1 : op ≠ .shl) (h2 : op ≠ .shr) {v : Value} (h : intV op k a b = some (True, v)) : (nice P).pur (.bin op t xc yc (.int k a) (.int k b)) K1 = K1 v :=
  pur_of' (by simp only [pv]; rw [binV_int h1 h2, h])
@[simp] theorem op_add : (nice P).op (.bin .add t xc yc (.int k a) (.int k b)) w K Kp = K (.int k (k.wrap (a + b))) w := op_int (by simp) (by simp) rfl
@[simp] theorem op_sub : (nice P).op (.bin .sub t xc yc (.int k a) (.int k b)) w K Kp = K (.int k (k.wrap (a - b))) w := op_int (by simp) (by simp) rfl
@[simp] theorem op_mul : (nice P).op (.bin .mul t xc yc (.int k a) (.int k b)) w K Kp = K (.int k (k.wrap (a * b))) w := op_int (by simp) (by simp) rfl
@[simp] theorem op_and : (nice P).op (.bin .and t xc yc (.int k a) (.int k b)) w K Kp = K (.int k (bitsV .and k a b)) w := op_int (by simp) (by simp) rfl
@[simp] theorem op_or : (nice P).op (.bin .or t xc yc (.int k a) (.int k b)) w K Kp = K (.int k (bitsV .or k a b)) w := op_int (by simp) (by simp) rfl
@[simp] theorem op_xor : (nice P).op (.bin .xor t xc yc (.int k a) (.int k b)) w K Kp = K (.int k (bitsV .xor k a b)) w := op_int (by simp) (by simp) rfl
@[simp] theorem op_andNot : (nice P).op (.bin .andNot t xc yc (.int k a) (.int k b)) w K Kp = K (.int k (bitsV .andNot k a b)) w := op_int (by simp) (by simp) rfl
@[simp] theorem op_eql : (nice P).op (.bin .eql t xc yc (.int k a) (.int k b)) w K Kp = K (.bool (decide (a = b))) w := op_int (by simp) (by simp) rfl
@[simp] theorem op_neq : (nice P).op (.bin .neq t xc yc (.int k a) (.int k b)) w K Kp = K (.bool (!decide (a = b))) w := op_int (by simp) (by simp) rfl
@[simp] theorem op_lss : (nice P).op (.bin .lss t xc yc (.int k a) (.int k b)) w K Kp = K (.bool (decide (a < b))) w := op_int (by simp) (by simp) rfl
@[simp] theorem op_leq : (nice P).op (.bin .leq t xc yc (.int k a) (.int k b)) w K Kp = K (.bool (decide (a ≤ b))) w := op_int (by simp) (by simp) rfl
@[simp] theorem op_gtr : (nice P).op (.bin .gtr t xc yc (.int k a) (.int k b)) w K Kp = K (.bool (decide (b < a))) w := op_int (by simp) (by simp) rfl
@[simp] theorem op_geq : (nice P).op (.bin .geq t xc yc (.int k a) (.int k b)) w K Kp = K (.bool (decide (b ≤ a))) w := op_int (by simp) (by simp) rfl
@[simp] theorem pur_add : (nice P).pur (.bin .add t xc yc (.int k a) (.int k b)) K1 = K1 (.int k (k.wrap (a + b))) := pur_int (by simp) (by simp) rfl
@[simp] theorem pur_sub : (nice P).pur (.bin .sub t xc yc (.int k a) (.int k b)) K1 = K1 (.int k (k.wrap (a - b))) := pur_int (by simp) (by simp) rfl
@[simp] theorem pur_mul : (nice P).pur (.bin .mul t xc yc (.int k a) (.int k b)) K1 = K1 (.int k (k.wrap (a * b))) := pur_int (by simp) (by simp) rfl
@[simp] theorem pur_and : (nice P).pur (.bin .and t xc yc (.int k a) (.int k b)) K1 = K1 (.int k (bitsV .and k a b)) := pur_int (by simp) (by simp) rfl
@[simp] theorem pur_or : (nice P).pur (.bin .or t xc yc (.int k a) (.int k b)) K1 = K1 (.int k (bitsV .or k a b)) := pur_int (by simp) (by simp) rfl
@[simp] theorem pur_xor : (nice P).pur (.bin .xor t xc yc (.int k a) (.int k b)) K1 = K1 (.int k (bitsV .xor k a b)) := pur_int (by simp) (by simp) rfl
@[simp] theorem pur_eql : (nice P).pur (.bin .eql t xc yc (.int k a) (.int k b)) K1 = K1 (.bool (decide (a = b))) := pur_int (by simp) (by simp) rfl
@[simp] theorem pur_neq : (nice P).pur (.bin .neq t xc yc (.int k a) (.int k b)) K1 = K1 (.bool (!decide (a = b))) := pur_int (by simp) (by simp) rfl
@[simp] theorem pur_lss : (nice P).pur (.bin .lss t xc yc (.int k a) (.int k b)) K1 = K1 (.bool (decide (a < b))) := pur_int (by simp) (by simp) rfl
@[simp] theorem pur_leq : (nice P).pur (.bin .leq t xc yc (.int k a) (.int k b)) K1 = K1 (.bool (decide (a ≤ b))) := pur_int (by simp) (by simp) rfl
@[simp] theorem pur_gtr : (nice P).pur (.bin .gtr t xc yc (.int k a) (.int k b)) K1 = K1 (.bool (decide (b < a))) := pur_int (by simp) (by simp) rfl
@[simp] theorem pur_geq : (nice P).pur (.bin .geq t xc yc (.int k a) (.int k b)) K1 = K1 (.bool (decide (b ≤ a))) := pur_int (by simp) (by simp) rfl
@[simp] theorem op_shl {k' : IntKind} : (nice P).op (.bin .shl t xc yc (.int k a) (.int k' b)) w K Kp = (0 ≤ b ∧ K (.int k (k.wrap (a * 2 ^ min b.toNat k.bits))) w) := op_of rfl
@[simp] theorem op_shr {k' : IntKind} : (nice P).op (.bin .shr t xc yc (.int k a) (.int k' b)) w K Kp = (0 ≤ b ∧ K (.int k (a.fdiv (2 ^ min b.toNat k.bits))) w) := op_of rfl
@[simp] theorem pur_shl {k' : IntKind} : (nice P).pur (.bin .shl t xc yc (.int k a) (.int k' b)) K1 = (0 ≤ b ∧ K1 (.int k (k.wrap (a * 2 ^ min b.toNat k.bits)))) := pur_of rfl
@[simp] theorem pur_shr {k' : IntKind} : (nice P).pur (.bin .shr t xc yc (.int k a) (.int k' b)) K1 = (0 ≤ b ∧ K1 (.int k (a.fdiv (2 ^ min b.toNat k.bits)))) := pur_of rfl
@[simp] theorem op_quo : (nice P).op (.bin .quo t xc yc (.int k a) (.int k b)) w K Kp = (b ≠ 0 ∧ K (.int k (k.wrap (a.tdiv b))) w) := op_of (by simp only [pv]; rw [binV_int (by simp) (by simp)]; rfl)
@[simp] theorem op_rem : (nice P).op (.bin .rem t xc yc (.int k a) (.int k b)) w K Kp = (b ≠ 0 ∧ K (.int k (a.tmod b)) w) := op_of (by simp only [pv]; rw [binV_int (by simp) (by simp)]; rfl)
@[simp] theorem pur_quo : (nice P).pur (.bin .quo t xc yc (.int k a) (.int k b)) K1 = (b ≠ 0 ∧ K1 (.int k (k.wrap (a.tdiv b)))) := pur_of (by simp only [pv]; rw [binV_int (by simp) (by simp)]; rfl)
@[simp] theorem pur_rem : (nice P).pur (.bin .rem t xc yc (.int k a) (.int k b)) K1 = (b ≠ 0 ∧ K1 (.int k (a.tmod b))) := pur_of (by simp only [pv]; rw [binV_int (by simp) (by simp)]; rfl)
@[simp] theorem op_not {c : Bool} : (nice P).op (.un .not (.bool c)) w K Kp = K (.bool (!c)) w := op_of' rfl
@[simp] theorem pur_not {c : Bool} : (nice P).pur (.un .not (.bool c)) K1 = K1 (.bool (!c)) := pur_of' rfl
@[simp] theorem op_compl : (nice P).op (.un .xor (.int k a)) w K Kp = K (.int k (bitsV .xor k (if k.signed then -1 else k.max) a)) w := op_of' rfl
@[simp] theorem pur_compl : (nice P).pur (.un .xor (.int k a)) K1 = K1 (.int k (bitsV .xor k (if k.signed then -1 else k.max) a)) := pur_of' rfl
@[simp] theorem op_neg : (nice P).op (.un .neg (.int k a)) w K Kp = K (.int k (k.wrap (0 - a))) w := op_of' rfl
@[simp] theorem pur_neg : (nice P).pur (.un .neg (.int k a)) K1 = K1 (.int k (k.wrap (0 - a))) := pur_of' rfl
@[simp] theorem op_mkFunc {fn : Fn} {x y : List Value} : (nice P).op (.mkFunc fn x y) w K Kp = K (.func fn x.toArray y.toArray) w := op_of' rfl
@[simp] theorem pur_mkFunc {fn : Fn} {x y : List Value} : (nice P).pur (.mkFunc fn x y) K1 = K1 (.func fn x.toArray y.toArray) := pur_of' rfl
@[simp] theorem op_box : (nice P).op (.box t v) w K Kp = K (.pointer (some ⟨w.heap.size, 0, none⟩)) (w.alloc (.cells v.cells t)) := rfl
@[simp] theorem op_panic : (nice P).op (.panic (.iface t v)) w K Kp = Kp [{ v := .iface t v, recovered := false }] w := rfl
@[simp] theorem op_ext {vs : Array Value} {i : Nat} {u : Value} (h : vs[i]? = some u) : (nice P).op (.extract (.tuple vs) i) w K Kp = K u w := op_of' (by simp [pv, h])
@[simp] theorem pur_ext {vs : Array Value} {i : Nat} {u : Value} (h : vs[i]? = some u) : (nice P).pur (.extract (.tuple vs) i) K1 = K1 u := pur_of' (by simp [pv, h])
end
/-- Two results. -/
@[simp] theorem op_ext2_0 {u v : Value} : (nice P).op (.extract (.tuple #[u, v]) 0) w K Kp = K u w := op_ext rfl
@[simp] theorem op_ext2_1 {u v : Value} : (nice P).op (.extract (.tuple #[u, v]) 1) w K Kp = K v w := op_ext rfl
@[simp] theorem pur_ext2_0 {u v : Value} : (nice P).pur (.extract (.tuple #[u, v]) 0) K1 = K1 u := pur_ext rfl
@[simp] theorem pur_ext2_1 {u v : Value} : (nice P).pur (.extract (.tuple #[u, v]) 1) K1 = K1 v := pur_ext rfl
@[simp] theorem op_ext3_0 {u v x : Value} : (nice P).op (.extract (.tuple #[u, v, x]) 0) w K Kp = K u w := op_ext rfl
@[simp] theorem op_ext3_1 {u v x : Value} : (nice P).op (.extract (.tuple #[u, v, x]) 1) w K Kp = K v w := op_ext rfl
@[simp] theorem op_ext3_2 {u v x : Value} : (nice P).op (.extract (.tuple #[u, v, x]) 2) w K Kp = K x w := op_ext rfl
@[simp] theorem pur_ext3_0 {u v x : Value} : (nice P).pur (.extract (.tuple #[u, v, x]) 0) K1 = K1 u := pur_ext rfl
@[simp] theorem pur_ext3_1 {u v x : Value} : (nice P).pur (.extract (.tuple #[u, v, x]) 1) K1 = K1 v := pur_ext rfl
@[simp] theorem pur_ext3_2 {u v x : Value} : (nice P).pur (.extract (.tuple #[u, v, x]) 2) K1 = K1 x := pur_ext rfl

/-! ### with a fact of the tables: a seat's own rules are instances of these -/
section
variable {t t' : TypeId} {p : Addr} {v : Value}
theorem op_fa {f o : Nat} {k : LdK} (h : fieldOff P t f = some (o, k)) : (nice P).op (.fieldAddr t (.pointer (some p)) f) w K Kp = K (.pointer (some (p.add o))) w := op_of' (by simp [pv, h])
theorem pur_fa {f o : Nat} {k : LdK} (h : fieldOff P t f = some (o, k)) : (nice P).pur (.fieldAddr t (.pointer (some p)) f) K1 = K1 (.pointer (some (p.add o))) := pur_of' (by simp [pv, h])
theorem op_field {f o : Nat} {cs : Array Value} (h : fieldOff P t f = some (o, .one)) : (nice P).op (.field t (.agg cs) f) w K Kp = ∃ v, cs[o]? = some v ∧ K v w := by
  cases hc : cs[o]? with
  | some v => rw [op_of' (v := v) (by simp [pv, h, partV, hc])]; simp
  | none =>
    obtain ⟨fs, fd, s, hu, hf, hs, hk, hoff⟩ := field_spec h
    have hn : pv P (.field t (.agg cs) f) = none := by simp [pv, h, partV, hc]
    obtain ⟨_, ha⟩ := ldk_one hk
    simp only [nice, niceOp, hn, memOp]
    simp [outOf, VOp.sem, Instr.field, run_und hu, hf, asAgg, hoff, part, ha, hc, stuck]
theorem op_field_agg {f o n : Nat} {cs : Array Value} (h : fieldOff P t f = some (o, .agg n)) : (nice P).op (.field t (.agg cs) f) w K Kp = K (.agg (cs.extract o (o + n))) w := op_of' (by simp [pv, h, partV])
theorem pur_field {f o : Nat} {cs : Array Value} {u : Value} (h : fieldOff P t f = some (o, .one)) (hc : cs[o]? = some u) : (nice P).pur (.field t (.agg cs) f) K1 = K1 u := pur_of' (by simp [pv, h, partV, hc])
theorem op_ix_arr {n s : Nat} {k : IntKind} {j : Int} (h : arrOf P t = some (n, s)) : (nice P).op (.indexAddr t (.pointer (some p)) (.int k j)) w K Kp = ((0 ≤ j ∧ j < (n : Int)) ∧ K (.pointer (some (p.add (j.toNat * s)))) w) := op_of (by simp [pv, h])
theorem pur_ix_arr {n s : Nat} {k : IntKind} {j : Int} (h : arrOf P t = some (n, s)) : (nice P).pur (.indexAddr t (.pointer (some p)) (.int k j)) K1 = ((0 ≤ j ∧ j < (n : Int)) ∧ K1 (.pointer (some (p.add (j.toNat * s))))) := pur_of (by simp [pv, h])
theorem op_ix_slice {e : TypeId} {s len cap : Nat} {k : IntKind} {j : Int} (h : sliceOf P t = some (e, s)) : (nice P).op (.indexAddr t (.slice (some p) len cap) (.int k j)) w K Kp = ((0 ≤ j ∧ j < (len : Int)) ∧ K (.pointer (some (p.add (j.toNat * s)))) w) := op_of (by simp [pv, h])
theorem pur_ix_slice {e : TypeId} {s len cap : Nat} {k : IntKind} {j : Int} (h : sliceOf P t = some (e, s)) : (nice P).pur (.indexAddr t (.slice (some p) len cap) (.int k j)) K1 = ((0 ≤ j ∧ j < (len : Int)) ∧ K1 (.pointer (some (p.add (j.toNat * s))))) := pur_of (by simp [pv, h])
theorem op_ix_str {s : ByteArray} {k : IntKind} {j : Int} (h : kd P t = .string) : (nice P).op (.index t (.string s) (.int k j)) w K Kp = ((0 ≤ j ∧ j < (s.size : Int)) ∧ K (.int .u8 (((s[j.toNat]?).getD 0).toNat : Int)) w) := op_of (by simp [pv, h])
theorem pur_ix_str {s : ByteArray} {k : IntKind} {j : Int} (h : kd P t = .string) : (nice P).pur (.index t (.string s) (.int k j)) K1 = ((0 ≤ j ∧ j < (s.size : Int)) ∧ K1 (.int .u8 (((s[j.toNat]?).getD 0).toNat : Int))) := pur_of (by simp [pv, h])
theorem op_conv {k k' : IntKind} {n : Int} {d : TypeId} (h : kd P d = .int k) (hs : hasT P t = true) : (nice P).op (.conv t d (.int k' n)) w K Kp = K (.int k (k.wrap n)) w := op_of' (by simp [pv, h, hs])
theorem pur_conv {k k' : IntKind} {n : Int} {d : TypeId} (h : kd P d = .int k) (hs : hasT P t = true) : (nice P).pur (.conv t d (.int k' n)) K1 = K1 (.int k (k.wrap n)) := pur_of' (by simp [pv, h, hs])
theorem op_mkIface (hs : hasT P t = true) (h : (match kd P t with | .iface => true | _ => false) = false) : (nice P).op (.mkIface t v) w K Kp = K (.iface t v) w := op_of' (by
  simp only [pv]; cases hk : kd P t <;> simp_all)
theorem pur_mkIface (hs : hasT P t = true) (h : (match kd P t with | .iface => true | _ => false) = false) : (nice P).pur (.mkIface t v) K1 = K1 (.iface t v) := pur_of' (by
  simp only [pv]; cases hk : kd P t <;> simp_all)
theorem op_len_slice {a : Option Addr} {n c : Nat} {ty : TypeId} (h : kd P t = .slice) : (nice P).op (.blt .len [t] ty [.slice a n c]) w K Kp = K (.int .i64 n) w := op_of' (by simp [pv, h])
theorem pur_len_slice {a : Option Addr} {n c : Nat} {ty : TypeId} (h : kd P t = .slice) : (nice P).pur (.blt .len [t] ty [.slice a n c]) K1 = K1 (.int .i64 n) := pur_of' (by simp [pv, h])
theorem op_len_str {s : ByteArray} {ty : TypeId} (h : kd P t = .string) : (nice P).op (.blt .len [t] ty [.string s]) w K Kp = K (.int .i64 s.size) w := op_of' (by simp [pv, h])
theorem pur_len_str {s : ByteArray} {ty : TypeId} (h : kd P t = .string) : (nice P).pur (.blt .len [t] ty [.string s]) K1 = K1 (.int .i64 s.size) := pur_of' (by simp [pv, h])
theorem op_cap_slice {a : Option Addr} {n c : Nat} {ty : TypeId} (h : kd P t = .slice) : (nice P).op (.blt .cap [t] ty [.slice a n c]) w K Kp = K (.int .i64 c) w := op_of' (by simp [pv, h])
theorem pur_cap_slice {a : Option Addr} {n c : Nat} {ty : TypeId} (h : kd P t = .slice) : (nice P).pur (.blt .cap [t] ty [.slice a n c]) K1 = K1 (.int .i64 c) := pur_of' (by simp [pv, h])
theorem op_tassert_yes {xt : TypeId} (h : hasT P t = true) (hk : (match kd P t with | .iface => true | _ => false) = false) : (nice P).op (.tassert (.iface t v) xt t false) w K Kp = K v w := op_of' (by
  simp only [pv]; cases hk' : kd P t <;> simp_all)
theorem pur_tassert_yes {xt : TypeId} (h : hasT P t = true) (hk : (match kd P t with | .iface => true | _ => false) = false) : (nice P).pur (.tassert (.iface t v) xt t false) K1 = K1 v := pur_of' (by
  simp only [pv]; cases hk' : kd P t <;> simp_all)
theorem op_tassert_ok {u xt : TypeId} {z : Value} (h : hasT P t = true) (hk : (match kd P t with | .iface => true | _ => false) = false) (hz : zeroOf P t = some z) :
    (nice P).op (.tassert (.iface u v) xt t true) w K Kp = if u = t then K (.tuple #[v, .bool true]) w else K (.tuple #[z, .bool false]) w := by
  by_cases hu : u = t
  · rw [if_pos hu]; exact op_of' (by simp only [pv]; cases hk' : kd P t <;> simp_all)
  · rw [if_neg hu]; exact op_of' (by simp only [pv]; cases hk' : kd P t <;> simp_all)
theorem op_tassert_ok_nil {xt : TypeId} {z : Value} (h : hasT P t = true) (hk : (match kd P t with | .iface => true | _ => false) = false) (hz : zeroOf P t = some z) :
    (nice P).op (.tassert .nilIface xt t true) w K Kp = K (.tuple #[z, .bool false]) w := op_of' (by simp only [pv]; cases hk' : kd P t <;> simp_all)
theorem op_eq_iface {op : BinOp} {xc yc : Bool} {b : Bool} {u : TypeId} (h : kd P t = .iface) (hb : eqV op false = some (True, .bool b)) : (nice P).op (.bin op t xc yc (.iface u v) .nilIface) w K Kp = K (.bool b) w := op_of' (by simp [pv, binV, h, hb])
theorem op_eq_niface {op : BinOp} {xc : Bool} {b : Bool} (h : kd P t = .iface) (hb : eqV op true = some (True, .bool b)) : (nice P).op (.bin op t xc true .nilIface .nilIface) w K Kp = K (.bool b) w := op_of' (by simp [pv, binV, h, hb])
theorem pur_eq_iface {op : BinOp} {xc yc : Bool} {b : Bool} {u : TypeId} (h : kd P t = .iface) (hb : eqV op false = some (True, .bool b)) : (nice P).pur (.bin op t xc yc (.iface u v) .nilIface) K1 = K1 (.bool b) := pur_of' (by simp [pv, binV, h, hb])
theorem pur_eq_niface {op : BinOp} {xc : Bool} {b : Bool} (h : kd P t = .iface) (hb : eqV op true = some (True, .bool b)) : (nice P).pur (.bin op t xc true .nilIface .nilIface) K1 = K1 (.bool b) := pur_of' (by simp [pv, binV, h, hb])
theorem op_eq_ptr {op : BinOp} {xc yc : Bool} {b : Bool} {a : Option Addr} (h : kd P t = .pointer) (hb : eqV op a.isNone = some (True, .bool b)) : (nice P).op (.bin op t xc yc (.pointer a) (.pointer none)) w K Kp = K (.bool b) w := op_of' (by simp [pv, binV, h, hb])
theorem pur_eq_ptr {op : BinOp} {xc yc : Bool} {b : Bool} {a : Option Addr} (h : kd P t = .pointer) (hb : eqV op a.isNone = some (True, .bool b)) : (nice P).pur (.bin op t xc yc (.pointer a) (.pointer none)) K1 = K1 (.bool b) := pur_of' (by simp [pv, binV, h, hb])
theorem op_eq_slice {op : BinOp} {xc yc : Bool} {b : Bool} {a : Option Addr} {n c n' c' : Nat} (h : kd P t = .slice) (hb : eqV op a.isNone = some (True, .bool b)) : (nice P).op (.bin op t xc yc (.slice a n c) (.slice none n' c')) w K Kp = K (.bool b) w := op_of' (by simp [pv, binV, h, hb])
theorem op_eq_bool {op : BinOp} {xc yc : Bool} {b x y : Bool} (h : kd P t = .bool) (hb : eqV op (x == y) = some (True, .bool b)) : (nice P).op (.bin op t xc yc (.bool x) (.bool y)) w K Kp = K (.bool b) w := op_of' (by simp [pv, binV, h, hb])
theorem pur_eq_bool {op : BinOp} {xc yc : Bool} {b x y : Bool} (h : kd P t = .bool) (hb : eqV op (x == y) = some (True, .bool b)) : (nice P).pur (.bin op t xc yc (.bool x) (.bool y)) K1 = K1 (.bool b) := pur_of' (by simp [pv, binV, h, hb])

theorem op_ld (h : ldk P t = some .one) : (nice P).op (.load t (.pointer (some p))) w K Kp = ∃ cs e fz, w.heap[p.block]? = some (.cells cs e fz) ∧ p.spot = none ∧ ∃ v, cs[p.off]? = some v ∧ K v w := by
  simp only [nice, niceOp, pv, memOp, loadN, h]
theorem ld_ld (h : ldk P t = some .one) : (nice P).ld (.load t (.pointer (some p))) w K1 = ∃ cs e fz, w.heap[p.block]? = some (.cells cs e fz) ∧ p.spot = none ∧ ∃ v, cs[p.off]? = some v ∧ K1 v := by
  simp only [nice, niceLd, loadN, h]
theorem same_ld (h : ldk P t = some .one) : (nice P).same (.load t (.pointer (some p))) v w = ∃ cs e fz, w.heap[p.block]? = some (.cells cs e fz) ∧ p.spot = none ∧ cs[p.off]? = some v := by
  simp [nice, niceSame, loadN, h]
theorem op_ldn {n : Nat} (h : ldk P t = some (.agg n)) : (nice P).op (.load t (.pointer (some p))) w K Kp = ∃ cs e fz, w.heap[p.block]? = some (.cells cs e fz) ∧ p.spot = none ∧ p.off + n ≤ cs.size ∧ K (.agg (cs.extract p.off (p.off + n))) w := by
  simp only [nice, niceOp, pv, memOp, loadN, h]
theorem ld_ldn {n : Nat} (h : ldk P t = some (.agg n)) : (nice P).ld (.load t (.pointer (some p))) w K1 = ∃ cs e fz, w.heap[p.block]? = some (.cells cs e fz) ∧ p.spot = none ∧ p.off + n ≤ cs.size ∧ K1 (.agg (cs.extract p.off (p.off + n))) := by
  simp only [nice, niceLd, loadN, h]
theorem same_ldn {n : Nat} (h : ldk P t = some (.agg n)) : (nice P).same (.load t (.pointer (some p))) v w = ∃ cs e fz, w.heap[p.block]? = some (.cells cs e fz) ∧ p.spot = none ∧ p.off + n ≤ cs.size ∧ .agg (cs.extract p.off (p.off + n)) = v := by
  simp [nice, niceSame, loadN, h]
theorem op_st (h : ldk P t = some .one) : (nice P).op (.store t (.pointer (some p)) v) w K Kp =
    ∃ cs e, w.heap[p.block]? = some (.cells cs e (0, 0)) ∧ p.spot = none ∧ p.off < cs.size ∧ v.oneCell' = true ∧ K undef (w.upd p.block (.cells (cs.setIfInBounds p.off v) e (0, 0))) := by
  simp only [nice, niceOp, pv, memOp, storeN, h]
theorem op_stn {n : Nat} {vs : Array Value} (h : ldk P t = some (.agg n)) : (nice P).op (.store t (.pointer (some p)) (.agg vs)) w K Kp =
    (vs.size = n ∧ (∀ u ∈ vs.toList, u.oneCell' = true) ∧ ∃ cs e, w.heap[p.block]? = some (.cells cs e (0, 0)) ∧ p.spot = none ∧ p.off + n ≤ cs.size ∧ K undef (w.upd p.block (.cells (ow cs p.off vs.toList) e (0, 0)))) := by
  simp [nice, niceOp, pv, memOp, storeN, h]
theorem op_alloc {z : Value} (h : zeroOf P t = some z) : (nice P).op (.alloc t) w K Kp = K (.pointer (some ⟨w.heap.size, 0, none⟩)) (w.alloc (.cells z.cells t)) := by
  simp only [nice, niceOp, pv, memOp, h]
theorem op_build {ps : List (Nat × Value)} {v : Value} (h : buildV P t ps = some v) : (nice P).op (.build t ps) w K Kp = K v w := by
  simp only [nice, niceOp, pv, memOp, h]
theorem pur_build {ps : List (Nat × Value)} {v : Value} (h : buildV P t ps = some v) : (nice P).pur (.build t ps) K1 = K1 v := by
  simp only [nice, nicePur, pv, h]
theorem op_lit {e : TypeId} {n : Nat} {ps : List (Nat × Value)} {cs : Array Value} (h : sliceLit P t n ps = some (e, cs)) : (nice P).op (.buildSlice t n ps) w K Kp = K (.slice (some ⟨w.heap.size, 0, none⟩) n n) (w.alloc (.cells cs e)) := by
  simp only [nice, niceOp, pv, memOp, h]
end

/-! ### calls -/
def callFn (P : Program) (f : FuncId) : Bool := match P.funcs[f]? with
  | some fn => fn.body.isSome && fn.name != "runtime.NumGoroutine"
  | none => false
theorem callFunc_run {f : FuncId} (h : callFn P f = true) (args : Array Value) (w : World) : (callFunc f args).run P w = .ok (.enter f args) w := by
  unfold callFn at h
  cases hf : P.funcs[f]? with
  | none => rw [hf] at h; cases h
  | some fn =>
    rw [hf] at h
    simp only [Bool.and_eq_true, bne_iff_ne, ne_eq] at h
    cases hb : fn.body with
    | none => rw [hb] at h; simp at h
    | some c => simp [callFunc, program, Sem.run, hf, h.2, hb]
theorem call_fn {f : FuncId} {args : List Value} (h : callFn P f = true) : (nice P).call (.fn f) args w K Kp = Calls P f args.toArray w (ret K Kp) := by
  simp [nice, callOut, VCallee.deferred, Deferred.ofValue, invoke, callFunc_run h]
theorem call_val {f : FuncId} {args : List Value} {x y : Array Value} (h : callFn P f = true) : (nice P).call (.val (.func (.func f) x y)) args w K Kp = Calls P f (x ++ args.toArray ++ y) w (ret K Kp) := by
  simp [nice, callOut, VCallee.deferred, Deferred.ofValue, invoke, callFunc_run h]
theorem call_inv {t : TypeId} {v : Value} {name : String} {f : FuncId} {args : List Value} (hm : ∀ w, (method (P.types.size + Made.depth) t v name).run P w = .ok (f, v) w) (h : callFn P f = true) :
    (nice P).call (.inv (.iface t v) name) args w K Kp = Calls P f (v :: args).toArray w (ret K Kp) := by
  have h0 : (#[Value.iface t v] ++ args.toArray)[0]? = some (.iface t v) := by simp
  have h1 : (#[Value.iface t v] ++ args.toArray).extract 1 (#[Value.iface t v] ++ args.toArray).size = args.toArray := by simp
  have h2 : #[v] ++ args.toArray = (v :: args).toArray := by simp
  simp only [nice, callOut, VCallee.deferred, Sem.run_bind, Sem.run_pure, Result.andThen_ok, invoke, h0, h1, callMethod, program, Sem.run, hm, callFunc_run h, h2]
/-- What a call yields, where it does not panic. -/
theorem calls_of {f : FuncId} {args : Array Value} {R : Ending → World → Prop} (h : Calls P f args w R) (hr : ∀ e w', R e w' → ret K Kp e w') : Calls P f args w (ret K Kp) := h.mono hr
@[simp] theorem ret_ret {v : Value} : ret K Kp (.returned v) w = K v w := rfl
@[simp] theorem ret_pan {ch : List PanicEntry} : ret K Kp (.panicked ch) w = Kp ch w := rfl

/-! ### branches, joins and loops, in a form that the simplifier leaves whole -/
def Br (v : Value) (A B : Prop) : Prop := ∃ b : Bool, v = .bool b ∧ (b = true → A) ∧ (b = false → B)
def Jn {α : Type} (f : α → Prop) : Prop := ∃ J, f J
def Lp {α β : Type} (f : α → β → Prop) : Prop := ∃ I μ, f I μ
theorem Jn.intro {α : Type} {f : α → Prop} (J : α) (h : f J) : Jn f := ⟨J, h⟩
theorem Lp.intro {α β : Type} {f : α → β → Prop} (I : α) (μ : β) (h : f I μ) : Lp f := ⟨I, μ, h⟩
section
variable {A B : Prop}
@[simp] theorem Br_bool {b : Bool} : Br (.bool b) A B = ((b = true → A) ∧ (b = false → B)) := by simp [Br]
theorem Br_dec {p : Prop} [Decidable p] : Br (.bool (decide p)) A B = ((p → A) ∧ (¬ p → B)) := by simp [Br]
end
end Go.Vc
