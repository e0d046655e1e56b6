import Derived.Test.YtbghmbbhkoniiaaT1
import Derived.Test.YtbghmbbhkoniiaaT0
section
/- A seat's own rewriting rules of single operations, printed by program out of its types and functions. -/
set_option maxRecDepth 100000
set_option linter.unusedSimpArgs false
namespace Go.Proofs.Ytbghmbbhkoniiaa
open Go.Vc Go.Proofs
variable {w : World} {K : Value → World → Prop} {Kp : KP} {K1 : Value → Prop}
@[simp] theorem call_20 {args : List Value} : (nice Try.prog).call (.fn 20) args w K Kp = Calls Try.prog 20 args.toArray w (ret K Kp) := call_fn (by kernel_rfl)
@[simp] theorem call_21 {args : List Value} : (nice Try.prog).call (.fn 21) args w K Kp = Calls Try.prog 21 args.toArray w (ret K Kp) := call_fn (by kernel_rfl)
@[simp] theorem op_len_53 {a : Option Addr} {n c ty : Nat} : (nice Try.prog).op (.blt .len [53] ty [.slice a n c]) w K Kp = K (.int .i64 n) w := op_len_slice (by kernel_rfl)
@[simp] theorem pur_len_53 {a : Option Addr} {n c ty : Nat} : (nice Try.prog).pur (.blt .len [53] ty [.slice a n c]) K1 = K1 (.int .i64 n) := pur_len_slice (by kernel_rfl)
@[simp] theorem ld_len_53 {a : Option Addr} {n c ty : Nat} : (nice Try.prog).ld (.blt .len [53] ty [.slice a n c]) w K1 = K1 (.int .i64 n) := ld_len_slice (by kernel_rfl)
@[simp] theorem same_len_53 {a : Option Addr} {n c ty : Nat} {u : Value} : (nice Try.prog).same (.blt .len [53] ty [.slice a n c]) u w = (.int .i64 n = u) := same_len_slice (by kernel_rfl)
@[simp] theorem op_ix_53 {p : Addr} {len cap : Nat} {k : IntKind} {j : Int} : (nice Try.prog).op (.indexAddr 53 (.slice (some p) len cap) (.int k j)) w K Kp = ((0 ≤ j ∧ j < (len : Int)) ∧ K (.pointer (some (p.add (j.toNat * 4)))) w) := op_ix_slice (e := 60) (by kernel_rfl)
@[simp] theorem pur_ix_53 {p : Addr} {len cap : Nat} {k : IntKind} {j : Int} : (nice Try.prog).pur (.indexAddr 53 (.slice (some p) len cap) (.int k j)) K1 = ((0 ≤ j ∧ j < (len : Int)) ∧ K1 (.pointer (some (p.add (j.toNat * 4))))) := pur_ix_slice (e := 60) (by kernel_rfl)
@[simp] theorem op_ld_60 {p : Addr} : (nice Try.prog).op (.load 60 (.pointer (some p))) w K Kp = ∃ cs e fz, w.heap[p.block]? = some (.cells cs e fz) ∧ p.spot = none ∧ p.off + 4 ≤ cs.size ∧ K (.agg (cs.extract p.off (p.off + 4))) w := op_ldn (by kernel_rfl)
@[simp] theorem ld_ld_60 {p : Addr} : (nice Try.prog).ld (.load 60 (.pointer (some p))) w K1 = ∃ cs e fz, w.heap[p.block]? = some (.cells cs e fz) ∧ p.spot = none ∧ p.off + 4 ≤ cs.size ∧ K1 (.agg (cs.extract p.off (p.off + 4))) := ld_ldn (by kernel_rfl)
@[simp] theorem same_ld_60 {p : Addr} {v : Value} : (nice Try.prog).same (.load 60 (.pointer (some p))) v w = ∃ cs e fz, w.heap[p.block]? = some (.cells cs e fz) ∧ p.spot = none ∧ p.off + 4 ≤ cs.size ∧ .agg (cs.extract p.off (p.off + 4)) = v := same_ldn (by kernel_rfl)
@[simp] theorem op_st_60 {p : Addr} {vs : Array Value} : (nice Try.prog).op (.store 60 (.pointer (some p)) (.agg vs)) w K Kp = (vs.size = 4 ∧ (∀ u ∈ vs.toList, u.oneCell' = true) ∧ ∃ cs e, w.heap[p.block]? = some (.cells cs e (0, 0)) ∧ p.spot = none ∧ p.off + 4 ≤ cs.size ∧ K undef (w.upd p.block (.cells (ow cs p.off vs.toList) e (0, 0)))) := op_stn (by kernel_rfl)
@[simp] theorem op_alloc_60 : (nice Try.prog).op (.alloc 60) w K Kp = K (.pointer (some ⟨w.heap.size, 0, none⟩)) (w.alloc (.cells #[Value.bool false, Value.int IntKind.i64 0, Value.string ByteArray.empty, Value.int IntKind.i64 0] 60)) := op_alloc (z := (.agg #[(Value.bool false), (Value.int IntKind.i64 0), (Value.string ByteArray.empty), (Value.int IntKind.i64 0)])) (by kernel_rfl)
theorem lit_58_1 {y0_0 y0_1 y0_2 y0_3 : Value} : sliceLit Try.prog 58 1 [(0, .agg #[y0_0, y0_1, y0_2, y0_3])] = some (61, #[y0_0, y0_1, y0_2, y0_3]) := by
  have e : sliceLit Try.prog 58 1 [(0, .agg #[y0_0, y0_1, y0_2, y0_3])] = (Instr.fill (fun i => some (i * 4, 4)) (#[Value.bool false, Value.int IntKind.i64 0, Value.string ByteArray.empty, Value.int IntKind.i64 0]) [(0, .agg #[y0_0, y0_1, y0_2, y0_3])]).map fun cs => (61, cs) := by kernel_rfl
  rw [e]; simp [Instr.fill, Value.cells]
@[simp] theorem op_lit_58_1 {y0_0 y0_1 y0_2 y0_3 : Value} : (nice Try.prog).op (.buildSlice 58 1 [(0, .agg #[y0_0, y0_1, y0_2, y0_3])]) w K Kp = K (.slice (some ⟨w.heap.size, 0, none⟩) 1 1) (w.alloc (.cells #[y0_0, y0_1, y0_2, y0_3] 61)) := op_lit (lit_58_1)
@[simp] theorem call_22 {args : List Value} : (nice Try.prog).call (.fn 22) args w K Kp = Calls Try.prog 22 args.toArray w (ret K Kp) := call_fn (by kernel_rfl)
@[simp] theorem op_len_62 {a : Option Addr} {n c ty : Nat} : (nice Try.prog).op (.blt .len [62] ty [.slice a n c]) w K Kp = K (.int .i64 n) w := op_len_slice (by kernel_rfl)
@[simp] theorem pur_len_62 {a : Option Addr} {n c ty : Nat} : (nice Try.prog).pur (.blt .len [62] ty [.slice a n c]) K1 = K1 (.int .i64 n) := pur_len_slice (by kernel_rfl)
@[simp] theorem ld_len_62 {a : Option Addr} {n c ty : Nat} : (nice Try.prog).ld (.blt .len [62] ty [.slice a n c]) w K1 = K1 (.int .i64 n) := ld_len_slice (by kernel_rfl)
@[simp] theorem same_len_62 {a : Option Addr} {n c ty : Nat} {u : Value} : (nice Try.prog).same (.blt .len [62] ty [.slice a n c]) u w = (.int .i64 n = u) := same_len_slice (by kernel_rfl)
@[simp] theorem op_len_55 {a : Option Addr} {n c ty : Nat} : (nice Try.prog).op (.blt .len [55] ty [.slice a n c]) w K Kp = K (.int .i64 n) w := op_len_slice (by kernel_rfl)
@[simp] theorem pur_len_55 {a : Option Addr} {n c ty : Nat} : (nice Try.prog).pur (.blt .len [55] ty [.slice a n c]) K1 = K1 (.int .i64 n) := pur_len_slice (by kernel_rfl)
@[simp] theorem ld_len_55 {a : Option Addr} {n c ty : Nat} : (nice Try.prog).ld (.blt .len [55] ty [.slice a n c]) w K1 = K1 (.int .i64 n) := ld_len_slice (by kernel_rfl)
@[simp] theorem same_len_55 {a : Option Addr} {n c ty : Nat} {u : Value} : (nice Try.prog).same (.blt .len [55] ty [.slice a n c]) u w = (.int .i64 n = u) := same_len_slice (by kernel_rfl)
@[simp] theorem op_ix_62 {p : Addr} {len cap : Nat} {k : IntKind} {j : Int} : (nice Try.prog).op (.indexAddr 62 (.slice (some p) len cap) (.int k j)) w K Kp = ((0 ≤ j ∧ j < (len : Int)) ∧ K (.pointer (some (p.add (j.toNat * 3)))) w) := op_ix_slice (e := 67) (by kernel_rfl)
@[simp] theorem pur_ix_62 {p : Addr} {len cap : Nat} {k : IntKind} {j : Int} : (nice Try.prog).pur (.indexAddr 62 (.slice (some p) len cap) (.int k j)) K1 = ((0 ≤ j ∧ j < (len : Int)) ∧ K1 (.pointer (some (p.add (j.toNat * 3))))) := pur_ix_slice (e := 67) (by kernel_rfl)
@[simp] theorem op_ld_67 {p : Addr} : (nice Try.prog).op (.load 67 (.pointer (some p))) w K Kp = ∃ cs e fz, w.heap[p.block]? = some (.cells cs e fz) ∧ p.spot = none ∧ p.off + 3 ≤ cs.size ∧ K (.agg (cs.extract p.off (p.off + 3))) w := op_ldn (by kernel_rfl)
@[simp] theorem ld_ld_67 {p : Addr} : (nice Try.prog).ld (.load 67 (.pointer (some p))) w K1 = ∃ cs e fz, w.heap[p.block]? = some (.cells cs e fz) ∧ p.spot = none ∧ p.off + 3 ≤ cs.size ∧ K1 (.agg (cs.extract p.off (p.off + 3))) := ld_ldn (by kernel_rfl)
@[simp] theorem same_ld_67 {p : Addr} {v : Value} : (nice Try.prog).same (.load 67 (.pointer (some p))) v w = ∃ cs e fz, w.heap[p.block]? = some (.cells cs e fz) ∧ p.spot = none ∧ p.off + 3 ≤ cs.size ∧ .agg (cs.extract p.off (p.off + 3)) = v := same_ldn (by kernel_rfl)
@[simp] theorem op_st_67 {p : Addr} {vs : Array Value} : (nice Try.prog).op (.store 67 (.pointer (some p)) (.agg vs)) w K Kp = (vs.size = 3 ∧ (∀ u ∈ vs.toList, u.oneCell' = true) ∧ ∃ cs e, w.heap[p.block]? = some (.cells cs e (0, 0)) ∧ p.spot = none ∧ p.off + 3 ≤ cs.size ∧ K undef (w.upd p.block (.cells (ow cs p.off vs.toList) e (0, 0)))) := op_stn (by kernel_rfl)
@[simp] theorem op_alloc_67 : (nice Try.prog).op (.alloc 67) w K Kp = K (.pointer (some ⟨w.heap.size, 0, none⟩)) (w.alloc (.cells #[Value.int IntKind.i64 0, Value.slice none 0 0, Value.slice none 0 0] 67)) := op_alloc (z := (.agg #[(Value.int IntKind.i64 0), (Value.slice none 0 0), (Value.slice none 0 0)])) (by kernel_rfl)
@[simp] theorem op_fa_67_0 {p : Addr} : (nice Try.prog).op (.fieldAddr 67 (.pointer (some p)) 0) w K Kp = K (.pointer (some (p.add 0))) w := op_fa (k := .one) (by kernel_rfl)
@[simp] theorem pur_fa_67_0 {p : Addr} : (nice Try.prog).pur (.fieldAddr 67 (.pointer (some p)) 0) K1 = K1 (.pointer (some (p.add 0))) := pur_fa (k := .one) (by kernel_rfl)
@[simp] theorem op_ix_55 {p : Addr} {len cap : Nat} {k : IntKind} {j : Int} : (nice Try.prog).op (.indexAddr 55 (.slice (some p) len cap) (.int k j)) w K Kp = ((0 ≤ j ∧ j < (len : Int)) ∧ K (.pointer (some (p.add (j.toNat * 1)))) w) := op_ix_slice (e := 68) (by kernel_rfl)
@[simp] theorem pur_ix_55 {p : Addr} {len cap : Nat} {k : IntKind} {j : Int} : (nice Try.prog).pur (.indexAddr 55 (.slice (some p) len cap) (.int k j)) K1 = ((0 ≤ j ∧ j < (len : Int)) ∧ K1 (.pointer (some (p.add (j.toNat * 1))))) := pur_ix_slice (e := 68) (by kernel_rfl)
@[simp] theorem op_ld_68 {p : Addr} : (nice Try.prog).op (.load 68 (.pointer (some p))) w K Kp = ∃ cs e fz, w.heap[p.block]? = some (.cells cs e fz) ∧ p.spot = none ∧ ∃ v, cs[p.off]? = some v ∧ K v w := op_ld (by kernel_rfl)
@[simp] theorem ld_ld_68 {p : Addr} : (nice Try.prog).ld (.load 68 (.pointer (some p))) w K1 = ∃ cs e fz, w.heap[p.block]? = some (.cells cs e fz) ∧ p.spot = none ∧ ∃ v, cs[p.off]? = some v ∧ K1 v := ld_ld (by kernel_rfl)
@[simp] theorem same_ld_68 {p : Addr} {v : Value} : (nice Try.prog).same (.load 68 (.pointer (some p))) v w = ∃ cs e fz, w.heap[p.block]? = some (.cells cs e fz) ∧ p.spot = none ∧ cs[p.off]? = some v := same_ld (by kernel_rfl)
@[simp] theorem op_fa_67_1 {p : Addr} : (nice Try.prog).op (.fieldAddr 67 (.pointer (some p)) 1) w K Kp = K (.pointer (some (p.add 1))) w := op_fa (k := .one) (by kernel_rfl)
@[simp] theorem pur_fa_67_1 {p : Addr} : (nice Try.prog).pur (.fieldAddr 67 (.pointer (some p)) 1) K1 = K1 (.pointer (some (p.add 1))) := pur_fa (k := .one) (by kernel_rfl)
@[simp] theorem op_ld_64 {p : Addr} : (nice Try.prog).op (.load 64 (.pointer (some p))) w K Kp = ∃ cs e fz, w.heap[p.block]? = some (.cells cs e fz) ∧ p.spot = none ∧ ∃ v, cs[p.off]? = some v ∧ K v w := op_ld (by kernel_rfl)
@[simp] theorem ld_ld_64 {p : Addr} : (nice Try.prog).ld (.load 64 (.pointer (some p))) w K1 = ∃ cs e fz, w.heap[p.block]? = some (.cells cs e fz) ∧ p.spot = none ∧ ∃ v, cs[p.off]? = some v ∧ K1 v := ld_ld (by kernel_rfl)
@[simp] theorem same_ld_64 {p : Addr} {v : Value} : (nice Try.prog).same (.load 64 (.pointer (some p))) v w = ∃ cs e fz, w.heap[p.block]? = some (.cells cs e fz) ∧ p.spot = none ∧ cs[p.off]? = some v := same_ld (by kernel_rfl)
@[simp] theorem op_st_64 {p : Addr} {v : Value} : (nice Try.prog).op (.store 64 (.pointer (some p)) v) w K Kp = ∃ cs e, w.heap[p.block]? = some (.cells cs e (0, 0)) ∧ p.spot = none ∧ p.off < cs.size ∧ v.oneCell' = true ∧ K undef (w.upd p.block (.cells (cs.setIfInBounds p.off v) e (0, 0))) := op_st (by kernel_rfl)
@[simp] theorem op_len_64 {a : Option Addr} {n c ty : Nat} : (nice Try.prog).op (.blt .len [64] ty [.slice a n c]) w K Kp = K (.int .i64 n) w := op_len_slice (by kernel_rfl)
@[simp] theorem pur_len_64 {a : Option Addr} {n c ty : Nat} : (nice Try.prog).pur (.blt .len [64] ty [.slice a n c]) K1 = K1 (.int .i64 n) := pur_len_slice (by kernel_rfl)
@[simp] theorem ld_len_64 {a : Option Addr} {n c ty : Nat} : (nice Try.prog).ld (.blt .len [64] ty [.slice a n c]) w K1 = K1 (.int .i64 n) := ld_len_slice (by kernel_rfl)
@[simp] theorem same_len_64 {a : Option Addr} {n c ty : Nat} {u : Value} : (nice Try.prog).same (.blt .len [64] ty [.slice a n c]) u w = (.int .i64 n = u) := same_len_slice (by kernel_rfl)
@[simp] theorem op_fa_67_2 {p : Addr} : (nice Try.prog).op (.fieldAddr 67 (.pointer (some p)) 2) w K Kp = K (.pointer (some (p.add 2))) w := op_fa (k := .one) (by kernel_rfl)
@[simp] theorem pur_fa_67_2 {p : Addr} : (nice Try.prog).pur (.fieldAddr 67 (.pointer (some p)) 2) K1 = K1 (.pointer (some (p.add 2))) := pur_fa (k := .one) (by kernel_rfl)
@[simp] theorem op_ld_65 {p : Addr} : (nice Try.prog).op (.load 65 (.pointer (some p))) w K Kp = ∃ cs e fz, w.heap[p.block]? = some (.cells cs e fz) ∧ p.spot = none ∧ ∃ v, cs[p.off]? = some v ∧ K v w := op_ld (by kernel_rfl)
@[simp] theorem ld_ld_65 {p : Addr} : (nice Try.prog).ld (.load 65 (.pointer (some p))) w K1 = ∃ cs e fz, w.heap[p.block]? = some (.cells cs e fz) ∧ p.spot = none ∧ ∃ v, cs[p.off]? = some v ∧ K1 v := ld_ld (by kernel_rfl)
@[simp] theorem same_ld_65 {p : Addr} {v : Value} : (nice Try.prog).same (.load 65 (.pointer (some p))) v w = ∃ cs e fz, w.heap[p.block]? = some (.cells cs e fz) ∧ p.spot = none ∧ cs[p.off]? = some v := same_ld (by kernel_rfl)
@[simp] theorem op_st_65 {p : Addr} {v : Value} : (nice Try.prog).op (.store 65 (.pointer (some p)) v) w K Kp = ∃ cs e, w.heap[p.block]? = some (.cells cs e (0, 0)) ∧ p.spot = none ∧ p.off < cs.size ∧ v.oneCell' = true ∧ K undef (w.upd p.block (.cells (cs.setIfInBounds p.off v) e (0, 0))) := op_st (by kernel_rfl)
@[simp] theorem op_ix_64 {p : Addr} {len cap : Nat} {k : IntKind} {j : Int} : (nice Try.prog).op (.indexAddr 64 (.slice (some p) len cap) (.int k j)) w K Kp = ((0 ≤ j ∧ j < (len : Int)) ∧ K (.pointer (some (p.add (j.toNat * 1)))) w) := op_ix_slice (e := 9) (by kernel_rfl)
@[simp] theorem pur_ix_64 {p : Addr} {len cap : Nat} {k : IntKind} {j : Int} : (nice Try.prog).pur (.indexAddr 64 (.slice (some p) len cap) (.int k j)) K1 = ((0 ≤ j ∧ j < (len : Int)) ∧ K1 (.pointer (some (p.add (j.toNat * 1))))) := pur_ix_slice (e := 9) (by kernel_rfl)
@[simp] theorem op_ld_9 {p : Addr} : (nice Try.prog).op (.load 9 (.pointer (some p))) w K Kp = ∃ cs e fz, w.heap[p.block]? = some (.cells cs e fz) ∧ p.spot = none ∧ ∃ v, cs[p.off]? = some v ∧ K v w := op_ld (by kernel_rfl)
@[simp] theorem ld_ld_9 {p : Addr} : (nice Try.prog).ld (.load 9 (.pointer (some p))) w K1 = ∃ cs e fz, w.heap[p.block]? = some (.cells cs e fz) ∧ p.spot = none ∧ ∃ v, cs[p.off]? = some v ∧ K1 v := ld_ld (by kernel_rfl)
@[simp] theorem same_ld_9 {p : Addr} {v : Value} : (nice Try.prog).same (.load 9 (.pointer (some p))) v w = ∃ cs e fz, w.heap[p.block]? = some (.cells cs e fz) ∧ p.spot = none ∧ cs[p.off]? = some v := same_ld (by kernel_rfl)
@[simp] theorem call_45 {args : List Value} : (nice Try.prog).call (.fn 45) args w K Kp = Calls Try.prog 45 args.toArray w (ret K Kp) := call_fn (by kernel_rfl)
theorem lit_55_1 {x0 : Value} (h0 : x0.oneCell' = true) : sliceLit Try.prog 55 1 [(0, x0)] = some (68, #[x0]) := by
  have e : sliceLit Try.prog 55 1 [(0, x0)] = (Instr.fill (fun i => some (i * 1, 1)) (#[Value.map none]) [(0, x0)]).map fun cs => (68, cs) := by kernel_rfl
  rw [e]; simp [Instr.fill, cells_of_one h0]
@[simp] theorem op_lit_55_1 {x0 : Value} (h0 : x0.oneCell' = true) : (nice Try.prog).op (.buildSlice 55 1 [(0, x0)]) w K Kp = K (.slice (some ⟨w.heap.size, 0, none⟩) 1 1) (w.alloc (.cells #[x0] 68)) := op_lit (lit_55_1 h0)
@[simp] theorem op_fa_60_1 {p : Addr} : (nice Try.prog).op (.fieldAddr 60 (.pointer (some p)) 1) w K Kp = K (.pointer (some (p.add 1))) w := op_fa (k := .one) (by kernel_rfl)
@[simp] theorem pur_fa_60_1 {p : Addr} : (nice Try.prog).pur (.fieldAddr 60 (.pointer (some p)) 1) K1 = K1 (.pointer (some (p.add 1))) := pur_fa (k := .one) (by kernel_rfl)
@[simp] theorem op_fa_60_2 {p : Addr} : (nice Try.prog).op (.fieldAddr 60 (.pointer (some p)) 2) w K Kp = K (.pointer (some (p.add 2))) w := op_fa (k := .one) (by kernel_rfl)
@[simp] theorem pur_fa_60_2 {p : Addr} : (nice Try.prog).pur (.fieldAddr 60 (.pointer (some p)) 2) K1 = K1 (.pointer (some (p.add 2))) := pur_fa (k := .one) (by kernel_rfl)
@[simp] theorem op_len_9 {s : ByteArray} {ty : Nat} : (nice Try.prog).op (.blt .len [9] ty [.string s]) w K Kp = K (.int .i64 s.size) w := op_len_str (by kernel_rfl)
@[simp] theorem pur_len_9 {s : ByteArray} {ty : Nat} : (nice Try.prog).pur (.blt .len [9] ty [.string s]) K1 = K1 (.int .i64 s.size) := pur_len_str (by kernel_rfl)
@[simp] theorem ld_len_9 {s : ByteArray} {ty : Nat} : (nice Try.prog).ld (.blt .len [9] ty [.string s]) w K1 = K1 (.int .i64 s.size) := ld_len_str (by kernel_rfl)
@[simp] theorem same_len_9 {s : ByteArray} {ty : Nat} {u : Value} : (nice Try.prog).same (.blt .len [9] ty [.string s]) u w = (.int .i64 s.size = u) := same_len_str (by kernel_rfl)
@[simp] theorem op_fa_60_0 {p : Addr} : (nice Try.prog).op (.fieldAddr 60 (.pointer (some p)) 0) w K Kp = K (.pointer (some (p.add 0))) w := op_fa (k := .one) (by kernel_rfl)
@[simp] theorem pur_fa_60_0 {p : Addr} : (nice Try.prog).pur (.fieldAddr 60 (.pointer (some p)) 0) K1 = K1 (.pointer (some (p.add 0))) := pur_fa (k := .one) (by kernel_rfl)
@[simp] theorem op_fa_60_3 {p : Addr} : (nice Try.prog).op (.fieldAddr 60 (.pointer (some p)) 3) w K Kp = K (.pointer (some (p.add 3))) w := op_fa (k := .one) (by kernel_rfl)
@[simp] theorem pur_fa_60_3 {p : Addr} : (nice Try.prog).pur (.fieldAddr 60 (.pointer (some p)) 3) K1 = K1 (.pointer (some (p.add 3))) := pur_fa (k := .one) (by kernel_rfl)
@[simp] theorem call_46 {args : List Value} : (nice Try.prog).call (.fn 46) args w K Kp = Calls Try.prog 46 args.toArray w (ret K Kp) := call_fn (by kernel_rfl)
theorem lit_106_1 {x0 : Value} (h0 : x0.oneCell' = true) : sliceLit Try.prog 106 1 [(0, x0)] = some (104, #[x0]) := by
  have e : sliceLit Try.prog 106 1 [(0, x0)] = (Instr.fill (fun i => some (i * 1, 1)) (#[Value.pointer none]) [(0, x0)]).map fun cs => (104, cs) := by kernel_rfl
  rw [e]; simp [Instr.fill, cells_of_one h0]
@[simp] theorem op_lit_106_1 {x0 : Value} (h0 : x0.oneCell' = true) : (nice Try.prog).op (.buildSlice 106 1 [(0, x0)]) w K Kp = K (.slice (some ⟨w.heap.size, 0, none⟩) 1 1) (w.alloc (.cells #[x0] 104)) := op_lit (lit_106_1 h0)
@[simp] theorem op_len_58 {a : Option Addr} {n c ty : Nat} : (nice Try.prog).op (.blt .len [58] ty [.slice a n c]) w K Kp = K (.int .i64 n) w := op_len_slice (by kernel_rfl)
@[simp] theorem pur_len_58 {a : Option Addr} {n c ty : Nat} : (nice Try.prog).pur (.blt .len [58] ty [.slice a n c]) K1 = K1 (.int .i64 n) := pur_len_slice (by kernel_rfl)
@[simp] theorem ld_len_58 {a : Option Addr} {n c ty : Nat} : (nice Try.prog).ld (.blt .len [58] ty [.slice a n c]) w K1 = K1 (.int .i64 n) := ld_len_slice (by kernel_rfl)
@[simp] theorem same_len_58 {a : Option Addr} {n c ty : Nat} {u : Value} : (nice Try.prog).same (.blt .len [58] ty [.slice a n c]) u w = (.int .i64 n = u) := same_len_slice (by kernel_rfl)
@[simp] theorem op_ix_58 {p : Addr} {len cap : Nat} {k : IntKind} {j : Int} : (nice Try.prog).op (.indexAddr 58 (.slice (some p) len cap) (.int k j)) w K Kp = ((0 ≤ j ∧ j < (len : Int)) ∧ K (.pointer (some (p.add (j.toNat * 4)))) w) := op_ix_slice (e := 61) (by kernel_rfl)
@[simp] theorem pur_ix_58 {p : Addr} {len cap : Nat} {k : IntKind} {j : Int} : (nice Try.prog).pur (.indexAddr 58 (.slice (some p) len cap) (.int k j)) K1 = ((0 ≤ j ∧ j < (len : Int)) ∧ K1 (.pointer (some (p.add (j.toNat * 4))))) := pur_ix_slice (e := 61) (by kernel_rfl)
@[simp] theorem op_ld_61 {p : Addr} : (nice Try.prog).op (.load 61 (.pointer (some p))) w K Kp = ∃ cs e fz, w.heap[p.block]? = some (.cells cs e fz) ∧ p.spot = none ∧ p.off + 4 ≤ cs.size ∧ K (.agg (cs.extract p.off (p.off + 4))) w := op_ldn (by kernel_rfl)
@[simp] theorem ld_ld_61 {p : Addr} : (nice Try.prog).ld (.load 61 (.pointer (some p))) w K1 = ∃ cs e fz, w.heap[p.block]? = some (.cells cs e fz) ∧ p.spot = none ∧ p.off + 4 ≤ cs.size ∧ K1 (.agg (cs.extract p.off (p.off + 4))) := ld_ldn (by kernel_rfl)
@[simp] theorem same_ld_61 {p : Addr} {v : Value} : (nice Try.prog).same (.load 61 (.pointer (some p))) v w = ∃ cs e fz, w.heap[p.block]? = some (.cells cs e fz) ∧ p.spot = none ∧ p.off + 4 ≤ cs.size ∧ .agg (cs.extract p.off (p.off + 4)) = v := same_ldn (by kernel_rfl)
@[simp] theorem op_st_61 {p : Addr} {vs : Array Value} : (nice Try.prog).op (.store 61 (.pointer (some p)) (.agg vs)) w K Kp = (vs.size = 4 ∧ (∀ u ∈ vs.toList, u.oneCell' = true) ∧ ∃ cs e, w.heap[p.block]? = some (.cells cs e (0, 0)) ∧ p.spot = none ∧ p.off + 4 ≤ cs.size ∧ K undef (w.upd p.block (.cells (ow cs p.off vs.toList) e (0, 0)))) := op_stn (by kernel_rfl)
@[simp] theorem op_alloc_61 : (nice Try.prog).op (.alloc 61) w K Kp = K (.pointer (some ⟨w.heap.size, 0, none⟩)) (w.alloc (.cells #[Value.bool false, Value.int IntKind.i64 0, Value.string ByteArray.empty, Value.int IntKind.i64 0] 61)) := op_alloc (z := (.agg #[(Value.bool false), (Value.int IntKind.i64 0), (Value.string ByteArray.empty), (Value.int IntKind.i64 0)])) (by kernel_rfl)
@[simp] theorem op_fa_61_1 {p : Addr} : (nice Try.prog).op (.fieldAddr 61 (.pointer (some p)) 1) w K Kp = K (.pointer (some (p.add 1))) w := op_fa (k := .one) (by kernel_rfl)
@[simp] theorem pur_fa_61_1 {p : Addr} : (nice Try.prog).pur (.fieldAddr 61 (.pointer (some p)) 1) K1 = K1 (.pointer (some (p.add 1))) := pur_fa (k := .one) (by kernel_rfl)
@[simp] theorem op_len_106 {a : Option Addr} {n c ty : Nat} : (nice Try.prog).op (.blt .len [106] ty [.slice a n c]) w K Kp = K (.int .i64 n) w := op_len_slice (by kernel_rfl)
@[simp] theorem pur_len_106 {a : Option Addr} {n c ty : Nat} : (nice Try.prog).pur (.blt .len [106] ty [.slice a n c]) K1 = K1 (.int .i64 n) := pur_len_slice (by kernel_rfl)
@[simp] theorem ld_len_106 {a : Option Addr} {n c ty : Nat} : (nice Try.prog).ld (.blt .len [106] ty [.slice a n c]) w K1 = K1 (.int .i64 n) := ld_len_slice (by kernel_rfl)
@[simp] theorem same_len_106 {a : Option Addr} {n c ty : Nat} {u : Value} : (nice Try.prog).same (.blt .len [106] ty [.slice a n c]) u w = (.int .i64 n = u) := same_len_slice (by kernel_rfl)
@[simp] theorem op_fa_61_0 {p : Addr} : (nice Try.prog).op (.fieldAddr 61 (.pointer (some p)) 0) w K Kp = K (.pointer (some (p.add 0))) w := op_fa (k := .one) (by kernel_rfl)
@[simp] theorem pur_fa_61_0 {p : Addr} : (nice Try.prog).pur (.fieldAddr 61 (.pointer (some p)) 0) K1 = K1 (.pointer (some (p.add 0))) := pur_fa (k := .one) (by kernel_rfl)
@[simp] theorem op_ix_106 {p : Addr} {len cap : Nat} {k : IntKind} {j : Int} : (nice Try.prog).op (.indexAddr 106 (.slice (some p) len cap) (.int k j)) w K Kp = ((0 ≤ j ∧ j < (len : Int)) ∧ K (.pointer (some (p.add (j.toNat * 1)))) w) := op_ix_slice (e := 104) (by kernel_rfl)
@[simp] theorem pur_ix_106 {p : Addr} {len cap : Nat} {k : IntKind} {j : Int} : (nice Try.prog).pur (.indexAddr 106 (.slice (some p) len cap) (.int k j)) K1 = ((0 ≤ j ∧ j < (len : Int)) ∧ K1 (.pointer (some (p.add (j.toNat * 1))))) := pur_ix_slice (e := 104) (by kernel_rfl)
@[simp] theorem op_ld_104 {p : Addr} : (nice Try.prog).op (.load 104 (.pointer (some p))) w K Kp = ∃ cs e fz, w.heap[p.block]? = some (.cells cs e fz) ∧ p.spot = none ∧ ∃ v, cs[p.off]? = some v ∧ K v w := op_ld (by kernel_rfl)
@[simp] theorem ld_ld_104 {p : Addr} : (nice Try.prog).ld (.load 104 (.pointer (some p))) w K1 = ∃ cs e fz, w.heap[p.block]? = some (.cells cs e fz) ∧ p.spot = none ∧ ∃ v, cs[p.off]? = some v ∧ K1 v := ld_ld (by kernel_rfl)
@[simp] theorem same_ld_104 {p : Addr} {v : Value} : (nice Try.prog).same (.load 104 (.pointer (some p))) v w = ∃ cs e fz, w.heap[p.block]? = some (.cells cs e fz) ∧ p.spot = none ∧ cs[p.off]? = some v := same_ld (by kernel_rfl)
@[simp] theorem op_fa_61_2 {p : Addr} : (nice Try.prog).op (.fieldAddr 61 (.pointer (some p)) 2) w K Kp = K (.pointer (some (p.add 2))) w := op_fa (k := .one) (by kernel_rfl)
@[simp] theorem pur_fa_61_2 {p : Addr} : (nice Try.prog).pur (.fieldAddr 61 (.pointer (some p)) 2) K1 = K1 (.pointer (some (p.add 2))) := pur_fa (k := .one) (by kernel_rfl)
@[simp] theorem call_47 {args : List Value} : (nice Try.prog).call (.fn 47) args w K Kp = Calls Try.prog 47 args.toArray w (ret K Kp) := call_fn (by kernel_rfl)
@[simp] theorem op_fa_61_3 {p : Addr} : (nice Try.prog).op (.fieldAddr 61 (.pointer (some p)) 3) w K Kp = K (.pointer (some (p.add 3))) w := op_fa (k := .one) (by kernel_rfl)
@[simp] theorem pur_fa_61_3 {p : Addr} : (nice Try.prog).pur (.fieldAddr 61 (.pointer (some p)) 3) K1 = K1 (.pointer (some (p.add 3))) := pur_fa (k := .one) (by kernel_rfl)
@[simp] theorem call_48 {args : List Value} : (nice Try.prog).call (.fn 48) args w K Kp = Calls Try.prog 48 args.toArray w (ret K Kp) := call_fn (by kernel_rfl)
@[simp] theorem call_49 {args : List Value} : (nice Try.prog).call (.fn 49) args w K Kp = Calls Try.prog 49 args.toArray w (ret K Kp) := call_fn (by kernel_rfl)
theorem build_67_0 {x0 : Value} (h0 : x0.oneCell' = true) : buildV Try.prog 67 [(0, x0)] = some (.agg (#[x0, Value.slice none 0 0, Value.slice none 0 0])) := by
  have e : buildV Try.prog 67 [(0, x0)] = (Instr.fill ((#[(0, 1), (1, 1), (2, 1)] : Array (Nat × Nat))[·]?) (#[Value.int IntKind.i64 0, Value.slice none 0 0, Value.slice none 0 0]) [(0, x0)]).map .agg := by kernel_rfl
  rw [e]; simp [Instr.fill, cells_of_one h0]
@[simp] theorem op_build_67_0 {x0 : Value} (h0 : x0.oneCell' = true) : (nice Try.prog).op (.build 67 [(0, x0)]) w K Kp = K (.agg (#[x0, Value.slice none 0 0, Value.slice none 0 0])) w := op_build (build_67_0 h0)
@[simp] theorem pur_build_67_0 {x0 : Value} (h0 : x0.oneCell' = true) : (nice Try.prog).pur (.build 67 [(0, x0)]) K1 = K1 (.agg (#[x0, Value.slice none 0 0, Value.slice none 0 0])) := pur_build (build_67_0 h0)
@[simp] theorem call_50 {args : List Value} : (nice Try.prog).call (.fn 50) args w K Kp = Calls Try.prog 50 args.toArray w (ret K Kp) := call_fn (by kernel_rfl)
@[simp] theorem call_51 {args : List Value} : (nice Try.prog).call (.fn 51) args w K Kp = Calls Try.prog 51 args.toArray w (ret K Kp) := call_fn (by kernel_rfl)
@[simp] theorem call_52 {args : List Value} : (nice Try.prog).call (.fn 52) args w K Kp = Calls Try.prog 52 args.toArray w (ret K Kp) := call_fn (by kernel_rfl)
theorem lit_64_1 {x0 : Value} (h0 : x0.oneCell' = true) : sliceLit Try.prog 64 1 [(0, x0)] = some (9, #[x0]) := by
  have e : sliceLit Try.prog 64 1 [(0, x0)] = (Instr.fill (fun i => some (i * 1, 1)) (#[Value.string ByteArray.empty]) [(0, x0)]).map fun cs => (9, cs) := by kernel_rfl
  rw [e]; simp [Instr.fill, cells_of_one h0]
@[simp] theorem op_lit_64_1 {x0 : Value} (h0 : x0.oneCell' = true) : (nice Try.prog).op (.buildSlice 64 1 [(0, x0)]) w K Kp = K (.slice (some ⟨w.heap.size, 0, none⟩) 1 1) (w.alloc (.cells #[x0] 9)) := op_lit (lit_64_1 h0)
theorem lit_62_1 {y0_0 y0_1 y0_2 : Value} : sliceLit Try.prog 62 1 [(0, .agg #[y0_0, y0_1, y0_2])] = some (67, #[y0_0, y0_1, y0_2]) := by
  have e : sliceLit Try.prog 62 1 [(0, .agg #[y0_0, y0_1, y0_2])] = (Instr.fill (fun i => some (i * 3, 3)) (#[Value.int IntKind.i64 0, Value.slice none 0 0, Value.slice none 0 0]) [(0, .agg #[y0_0, y0_1, y0_2])]).map fun cs => (67, cs) := by kernel_rfl
  rw [e]; simp [Instr.fill, Value.cells]
@[simp] theorem op_lit_62_1 {y0_0 y0_1 y0_2 : Value} : (nice Try.prog).op (.buildSlice 62 1 [(0, .agg #[y0_0, y0_1, y0_2])]) w K Kp = K (.slice (some ⟨w.heap.size, 0, none⟩) 1 1) (w.alloc (.cells #[y0_0, y0_1, y0_2] 67)) := op_lit (lit_62_1)
theorem build_163_2 {x2 : Value} (h2 : x2.oneCell' = true) : buildV Try.prog 163 [(2, x2)] = some (.agg (#[Value.int IntKind.i64 0, Value.nilIface, x2])) := by
  have e : buildV Try.prog 163 [(2, x2)] = (Instr.fill ((#[(0, 1), (1, 1), (2, 1)] : Array (Nat × Nat))[·]?) (#[Value.int IntKind.i64 0, Value.nilIface, Value.nilIface]) [(2, x2)]).map .agg := by kernel_rfl
  rw [e]; simp [Instr.fill, cells_of_one h2]
@[simp] theorem op_build_163_2 {x2 : Value} (h2 : x2.oneCell' = true) : (nice Try.prog).op (.build 163 [(2, x2)]) w K Kp = K (.agg (#[Value.int IntKind.i64 0, Value.nilIface, x2])) w := op_build (build_163_2 h2)
@[simp] theorem pur_build_163_2 {x2 : Value} (h2 : x2.oneCell' = true) : (nice Try.prog).pur (.build 163 [(2, x2)]) K1 = K1 (.agg (#[Value.int IntKind.i64 0, Value.nilIface, x2])) := pur_build (build_163_2 h2)
@[simp] theorem call_73 {args : List Value} : (nice Try.prog).call (.fn 73) args w K Kp = Calls Try.prog 73 args.toArray w (ret K Kp) := call_fn (by kernel_rfl)
@[simp] theorem call_74 {args : List Value} : (nice Try.prog).call (.fn 74) args w K Kp = Calls Try.prog 74 args.toArray w (ret K Kp) := call_fn (by kernel_rfl)
@[simp] theorem op_fa_163_0 {p : Addr} : (nice Try.prog).op (.fieldAddr 163 (.pointer (some p)) 0) w K Kp = K (.pointer (some (p.add 0))) w := op_fa (k := .one) (by kernel_rfl)
@[simp] theorem pur_fa_163_0 {p : Addr} : (nice Try.prog).pur (.fieldAddr 163 (.pointer (some p)) 0) K1 = K1 (.pointer (some (p.add 0))) := pur_fa (k := .one) (by kernel_rfl)
def zero_170 : Array Value := #[Value.pointer none, Value.nilIface, Value.int IntKind.i64 0, Value.nilIface, Value.int IntKind.i64 0, Value.nilIface, Value.int IntKind.i64 0, Value.nilIface, Value.int IntKind.i64 0, Value.nilIface, Value.int IntKind.i64 0, Value.nilIface, Value.int IntKind.i64 0, Value.nilIface, Value.int IntKind.i64 0, Value.nilIface, Value.int IntKind.i64 0, Value.nilIface, Value.int IntKind.i64 0, Value.nilIface, Value.int IntKind.i64 0, Value.nilIface, Value.int IntKind.i64 0, Value.nilIface, Value.int IntKind.i64 0, Value.nilIface, Value.int IntKind.i64 0, Value.nilIface, Value.int IntKind.i64 0, Value.nilIface, Value.int IntKind.i64 0, Value.nilIface, Value.int IntKind.i64 0, Value.nilIface, Value.int IntKind.i64 0, Value.nilIface, Value.int IntKind.i64 0, Value.nilIface, Value.int IntKind.i64 0, Value.nilIface, Value.int IntKind.i64 0, Value.nilIface, Value.int IntKind.i64 0, Value.nilIface, Value.int IntKind.i64 0, Value.nilIface, Value.int IntKind.i64 0, Value.nilIface, Value.int IntKind.i64 0, Value.nilIface, Value.int IntKind.i64 0, Value.nilIface, Value.int IntKind.i64 0, Value.nilIface, Value.int IntKind.i64 0, Value.nilIface, Value.int IntKind.i64 0, Value.nilIface, Value.int IntKind.i64 0, Value.nilIface, Value.int IntKind.i64 0, Value.nilIface, Value.int IntKind.i64 0, Value.nilIface, Value.int IntKind.i64 0, Value.int IntKind.i64 0]
theorem build_170_0 {x0 : Value} (h0 : x0.oneCell' = true) : buildV Try.prog 170 [(0, x0)] = some (.agg ((zero_170).setIfInBounds 0 x0)) := by
  have e : buildV Try.prog 170 [(0, x0)] = (Instr.fill ((#[(0, 1), (1, 64), (65, 1)] : Array (Nat × Nat))[·]?) (zero_170) [(0, x0)]).map .agg := by kernel_rfl
  rw [e]; simp [Instr.fill, cells_of_one h0, zero_170]
@[simp] theorem op_build_170_0 {x0 : Value} (h0 : x0.oneCell' = true) : (nice Try.prog).op (.build 170 [(0, x0)]) w K Kp = K (.agg ((zero_170).setIfInBounds 0 x0)) w := op_build (build_170_0 h0)
@[simp] theorem pur_build_170_0 {x0 : Value} (h0 : x0.oneCell' = true) : (nice Try.prog).pur (.build 170 [(0, x0)]) K1 = K1 (.agg ((zero_170).setIfInBounds 0 x0)) := pur_build (build_170_0 h0)
@[simp] theorem call_75 {args : List Value} : (nice Try.prog).call (.fn 75) args w K Kp = Calls Try.prog 75 args.toArray w (ret K Kp) := call_fn (by kernel_rfl)
@[simp] theorem op_fa_170_2 {p : Addr} : (nice Try.prog).op (.fieldAddr 170 (.pointer (some p)) 2) w K Kp = K (.pointer (some (p.add 65))) w := op_fa (k := .one) (by kernel_rfl)
@[simp] theorem pur_fa_170_2 {p : Addr} : (nice Try.prog).pur (.fieldAddr 170 (.pointer (some p)) 2) K1 = K1 (.pointer (some (p.add 65))) := pur_fa (k := .one) (by kernel_rfl)
@[simp] theorem op_fa_170_1 {p : Addr} : (nice Try.prog).op (.fieldAddr 170 (.pointer (some p)) 1) w K Kp = K (.pointer (some (p.add 1))) w := op_fa (k := (.agg 64)) (by kernel_rfl)
@[simp] theorem pur_fa_170_1 {p : Addr} : (nice Try.prog).pur (.fieldAddr 170 (.pointer (some p)) 1) K1 = K1 (.pointer (some (p.add 1))) := pur_fa (k := (.agg 64)) (by kernel_rfl)
@[simp] theorem op_ix_168 {p : Addr} {k : IntKind} {j : Int} : (nice Try.prog).op (.indexAddr 168 (.pointer (some p)) (.int k j)) w K Kp = ((0 ≤ j ∧ j < 32) ∧ K (.pointer (some (p.add (j.toNat * 2)))) w) := op_ix_arr (by kernel_rfl)
@[simp] theorem pur_ix_168 {p : Addr} {k : IntKind} {j : Int} : (nice Try.prog).pur (.indexAddr 168 (.pointer (some p)) (.int k j)) K1 = ((0 ≤ j ∧ j < 32) ∧ K1 (.pointer (some (p.add (j.toNat * 2))))) := pur_ix_arr (by kernel_rfl)
@[simp] theorem op_fa_167_0 {p : Addr} : (nice Try.prog).op (.fieldAddr 167 (.pointer (some p)) 0) w K Kp = K (.pointer (some (p.add 0))) w := op_fa (k := .one) (by kernel_rfl)
@[simp] theorem pur_fa_167_0 {p : Addr} : (nice Try.prog).pur (.fieldAddr 167 (.pointer (some p)) 0) K1 = K1 (.pointer (some (p.add 0))) := pur_fa (k := .one) (by kernel_rfl)
@[simp] theorem op_ld_161 {p : Addr} : (nice Try.prog).op (.load 161 (.pointer (some p))) w K Kp = ∃ cs e fz, w.heap[p.block]? = some (.cells cs e fz) ∧ p.spot = none ∧ ∃ v, cs[p.off]? = some v ∧ K v w := op_ld (by kernel_rfl)
@[simp] theorem ld_ld_161 {p : Addr} : (nice Try.prog).ld (.load 161 (.pointer (some p))) w K1 = ∃ cs e fz, w.heap[p.block]? = some (.cells cs e fz) ∧ p.spot = none ∧ ∃ v, cs[p.off]? = some v ∧ K1 v := ld_ld (by kernel_rfl)
@[simp] theorem same_ld_161 {p : Addr} {v : Value} : (nice Try.prog).same (.load 161 (.pointer (some p))) v w = ∃ cs e fz, w.heap[p.block]? = some (.cells cs e fz) ∧ p.spot = none ∧ cs[p.off]? = some v := same_ld (by kernel_rfl)
@[simp] theorem op_st_161 {p : Addr} {v : Value} : (nice Try.prog).op (.store 161 (.pointer (some p)) v) w K Kp = ∃ cs e, w.heap[p.block]? = some (.cells cs e (0, 0)) ∧ p.spot = none ∧ p.off < cs.size ∧ v.oneCell' = true ∧ K undef (w.upd p.block (.cells (cs.setIfInBounds p.off v) e (0, 0))) := op_st (by kernel_rfl)
@[simp] theorem op_ta_161_172 {u : TypeId} {v : Value} : (nice Try.prog).op (.tassert (.iface u v) 161 172 true) w K Kp = if u = 172 then K (.tuple #[v, .bool true]) w else K (.tuple #[(Value.pointer none), .bool false]) w := op_tassert_ok (by kernel_rfl) (by kernel_rfl) (by kernel_rfl)
@[simp] theorem op_tan_161_172 : (nice Try.prog).op (.tassert .nilIface 161 172 true) w K Kp = K (.tuple #[(Value.pointer none), .bool false]) w := op_tassert_ok_nil (by kernel_rfl) (by kernel_rfl) (by kernel_rfl)
@[simp] theorem op_fa_178_0 {p : Addr} : (nice Try.prog).op (.fieldAddr 178 (.pointer (some p)) 0) w K Kp = K (.pointer (some (p.add 0))) w := op_fa (k := .one) (by kernel_rfl)
@[simp] theorem pur_fa_178_0 {p : Addr} : (nice Try.prog).pur (.fieldAddr 178 (.pointer (some p)) 0) K1 = K1 (.pointer (some (p.add 0))) := pur_fa (k := .one) (by kernel_rfl)
@[simp] theorem op_ld_176 {p : Addr} : (nice Try.prog).op (.load 176 (.pointer (some p))) w K Kp = ∃ cs e fz, w.heap[p.block]? = some (.cells cs e fz) ∧ p.spot = none ∧ ∃ v, cs[p.off]? = some v ∧ K v w := op_ld (by kernel_rfl)
@[simp] theorem ld_ld_176 {p : Addr} : (nice Try.prog).ld (.load 176 (.pointer (some p))) w K1 = ∃ cs e fz, w.heap[p.block]? = some (.cells cs e fz) ∧ p.spot = none ∧ ∃ v, cs[p.off]? = some v ∧ K1 v := ld_ld (by kernel_rfl)
@[simp] theorem same_ld_176 {p : Addr} {v : Value} : (nice Try.prog).same (.load 176 (.pointer (some p))) v w = ∃ cs e fz, w.heap[p.block]? = some (.cells cs e fz) ∧ p.spot = none ∧ cs[p.off]? = some v := same_ld (by kernel_rfl)
@[simp] theorem op_st_176 {p : Addr} {v : Value} : (nice Try.prog).op (.store 176 (.pointer (some p)) v) w K Kp = ∃ cs e, w.heap[p.block]? = some (.cells cs e (0, 0)) ∧ p.spot = none ∧ p.off < cs.size ∧ v.oneCell' = true ∧ K undef (w.upd p.block (.cells (cs.setIfInBounds p.off v) e (0, 0))) := op_st (by kernel_rfl)
@[simp] theorem op_fa_167_1 {p : Addr} : (nice Try.prog).op (.fieldAddr 167 (.pointer (some p)) 1) w K Kp = K (.pointer (some (p.add 1))) w := op_fa (k := .one) (by kernel_rfl)
@[simp] theorem pur_fa_167_1 {p : Addr} : (nice Try.prog).pur (.fieldAddr 167 (.pointer (some p)) 1) K1 = K1 (.pointer (some (p.add 1))) := pur_fa (k := .one) (by kernel_rfl)
@[simp] theorem op_ix_176 {p : Addr} {len cap : Nat} {k : IntKind} {j : Int} : (nice Try.prog).op (.indexAddr 176 (.slice (some p) len cap) (.int k j)) w K Kp = ((0 ≤ j ∧ j < (len : Int)) ∧ K (.pointer (some (p.add (j.toNat * 2)))) w) := op_ix_slice (e := 175) (by kernel_rfl)
@[simp] theorem pur_ix_176 {p : Addr} {len cap : Nat} {k : IntKind} {j : Int} : (nice Try.prog).pur (.indexAddr 176 (.slice (some p) len cap) (.int k j)) K1 = ((0 ≤ j ∧ j < (len : Int)) ∧ K1 (.pointer (some (p.add (j.toNat * 2))))) := pur_ix_slice (e := 175) (by kernel_rfl)
@[simp] theorem op_fa_175_0 {p : Addr} : (nice Try.prog).op (.fieldAddr 175 (.pointer (some p)) 0) w K Kp = K (.pointer (some (p.add 0))) w := op_fa (k := .one) (by kernel_rfl)
@[simp] theorem pur_fa_175_0 {p : Addr} : (nice Try.prog).pur (.fieldAddr 175 (.pointer (some p)) 0) K1 = K1 (.pointer (some (p.add 0))) := pur_fa (k := .one) (by kernel_rfl)
@[simp] theorem op_fa_175_1 {p : Addr} : (nice Try.prog).op (.fieldAddr 175 (.pointer (some p)) 1) w K Kp = K (.pointer (some (p.add 1))) w := op_fa (k := .one) (by kernel_rfl)
@[simp] theorem pur_fa_175_1 {p : Addr} : (nice Try.prog).pur (.fieldAddr 175 (.pointer (some p)) 1) K1 = K1 (.pointer (some (p.add 1))) := pur_fa (k := .one) (by kernel_rfl)
@[simp] theorem op_ta_161_179 {u : TypeId} {v : Value} : (nice Try.prog).op (.tassert (.iface u v) 161 179 true) w K Kp = if u = 179 then K (.tuple #[v, .bool true]) w else K (.tuple #[(Value.pointer none), .bool false]) w := op_tassert_ok (by kernel_rfl) (by kernel_rfl) (by kernel_rfl)
@[simp] theorem op_tan_161_179 : (nice Try.prog).op (.tassert .nilIface 161 179 true) w K Kp = K (.tuple #[(Value.pointer none), .bool false]) w := op_tassert_ok_nil (by kernel_rfl) (by kernel_rfl) (by kernel_rfl)
@[simp] theorem op_fa_181_1 {p : Addr} : (nice Try.prog).op (.fieldAddr 181 (.pointer (some p)) 1) w K Kp = K (.pointer (some (p.add 1))) w := op_fa (k := .one) (by kernel_rfl)
@[simp] theorem pur_fa_181_1 {p : Addr} : (nice Try.prog).pur (.fieldAddr 181 (.pointer (some p)) 1) K1 = K1 (.pointer (some (p.add 1))) := pur_fa (k := .one) (by kernel_rfl)
@[simp] theorem op_fa_181_2 {p : Addr} : (nice Try.prog).op (.fieldAddr 181 (.pointer (some p)) 2) w K Kp = K (.pointer (some (p.add 2))) w := op_fa (k := .one) (by kernel_rfl)
@[simp] theorem pur_fa_181_2 {p : Addr} : (nice Try.prog).pur (.fieldAddr 181 (.pointer (some p)) 2) K1 = K1 (.pointer (some (p.add 2))) := pur_fa (k := .one) (by kernel_rfl)
@[simp] theorem op_ta_161_182 {u : TypeId} {v : Value} : (nice Try.prog).op (.tassert (.iface u v) 161 182 true) w K Kp = if u = 182 then K (.tuple #[v, .bool true]) w else K (.tuple #[(Value.pointer none), .bool false]) w := op_tassert_ok (by kernel_rfl) (by kernel_rfl) (by kernel_rfl)
@[simp] theorem op_tan_161_182 : (nice Try.prog).op (.tassert .nilIface 161 182 true) w K Kp = K (.tuple #[(Value.pointer none), .bool false]) w := op_tassert_ok_nil (by kernel_rfl) (by kernel_rfl) (by kernel_rfl)
@[simp] theorem op_fa_184_1 {p : Addr} : (nice Try.prog).op (.fieldAddr 184 (.pointer (some p)) 1) w K Kp = K (.pointer (some (p.add 1))) w := op_fa (k := .one) (by kernel_rfl)
@[simp] theorem pur_fa_184_1 {p : Addr} : (nice Try.prog).pur (.fieldAddr 184 (.pointer (some p)) 1) K1 = K1 (.pointer (some (p.add 1))) := pur_fa (k := .one) (by kernel_rfl)
@[simp] theorem call_76 {args : List Value} : (nice Try.prog).call (.fn 76) args w K Kp = Calls Try.prog 76 args.toArray w (ret K Kp) := call_fn (by kernel_rfl)
@[simp] theorem op_fa_163_1 {p : Addr} : (nice Try.prog).op (.fieldAddr 163 (.pointer (some p)) 1) w K Kp = K (.pointer (some (p.add 1))) w := op_fa (k := .one) (by kernel_rfl)
@[simp] theorem pur_fa_163_1 {p : Addr} : (nice Try.prog).pur (.fieldAddr 163 (.pointer (some p)) 1) K1 = K1 (.pointer (some (p.add 1))) := pur_fa (k := .one) (by kernel_rfl)
@[simp] theorem op_eql_161_y {xc yc : Bool} {u : TypeId} {v : Value} : (nice Try.prog).op (.bin BinOp.eql 161 xc yc (.iface u v) .nilIface) w K Kp = K (.bool false) w := op_eq_iface (by kernel_rfl) rfl
@[simp] theorem op_eql_161_n {xc : Bool} : (nice Try.prog).op (.bin BinOp.eql 161 xc true .nilIface .nilIface) w K Kp = K (.bool true) w := op_eq_niface (by kernel_rfl) rfl
@[simp] theorem pur_eql_161_y {xc yc : Bool} {u : TypeId} {v : Value} : (nice Try.prog).pur (.bin BinOp.eql 161 xc yc (.iface u v) .nilIface) K1 = K1 (.bool false) := pur_eq_iface (by kernel_rfl) rfl
@[simp] theorem pur_eql_161_n {xc : Bool} : (nice Try.prog).pur (.bin BinOp.eql 161 xc true .nilIface .nilIface) K1 = K1 (.bool true) := pur_eq_niface (by kernel_rfl) rfl
@[simp] theorem op_fa_163_2 {p : Addr} : (nice Try.prog).op (.fieldAddr 163 (.pointer (some p)) 2) w K Kp = K (.pointer (some (p.add 2))) w := op_fa (k := .one) (by kernel_rfl)
@[simp] theorem pur_fa_163_2 {p : Addr} : (nice Try.prog).pur (.fieldAddr 163 (.pointer (some p)) 2) K1 = K1 (.pointer (some (p.add 2))) := pur_fa (k := .one) (by kernel_rfl)
@[simp] theorem op_ld_159 {p : Addr} : (nice Try.prog).op (.load 159 (.pointer (some p))) w K Kp = ∃ cs e fz, w.heap[p.block]? = some (.cells cs e fz) ∧ p.spot = none ∧ ∃ v, cs[p.off]? = some v ∧ K v w := op_ld (by kernel_rfl)
@[simp] theorem ld_ld_159 {p : Addr} : (nice Try.prog).ld (.load 159 (.pointer (some p))) w K1 = ∃ cs e fz, w.heap[p.block]? = some (.cells cs e fz) ∧ p.spot = none ∧ ∃ v, cs[p.off]? = some v ∧ K1 v := ld_ld (by kernel_rfl)
@[simp] theorem same_ld_159 {p : Addr} {v : Value} : (nice Try.prog).same (.load 159 (.pointer (some p))) v w = ∃ cs e fz, w.heap[p.block]? = some (.cells cs e fz) ∧ p.spot = none ∧ cs[p.off]? = some v := same_ld (by kernel_rfl)
@[simp] theorem op_st_159 {p : Addr} {v : Value} : (nice Try.prog).op (.store 159 (.pointer (some p)) v) w K Kp = ∃ cs e, w.heap[p.block]? = some (.cells cs e (0, 0)) ∧ p.spot = none ∧ p.off < cs.size ∧ v.oneCell' = true ∧ K undef (w.upd p.block (.cells (cs.setIfInBounds p.off v) e (0, 0))) := op_st (by kernel_rfl)
@[simp] theorem call_86 {args : List Value} : (nice Try.prog).call (.fn 86) args w K Kp = Calls Try.prog 86 args.toArray w (ret K Kp) := call_fn (by kernel_rfl)
@[simp] theorem op_eql_159_y {xc yc : Bool} {u : TypeId} {v : Value} : (nice Try.prog).op (.bin BinOp.eql 159 xc yc (.iface u v) .nilIface) w K Kp = K (.bool false) w := op_eq_iface (by kernel_rfl) rfl
@[simp] theorem op_eql_159_n {xc : Bool} : (nice Try.prog).op (.bin BinOp.eql 159 xc true .nilIface .nilIface) w K Kp = K (.bool true) w := op_eq_niface (by kernel_rfl) rfl
@[simp] theorem pur_eql_159_y {xc yc : Bool} {u : TypeId} {v : Value} : (nice Try.prog).pur (.bin BinOp.eql 159 xc yc (.iface u v) .nilIface) K1 = K1 (.bool false) := pur_eq_iface (by kernel_rfl) rfl
@[simp] theorem pur_eql_159_n {xc : Bool} : (nice Try.prog).pur (.bin BinOp.eql 159 xc true .nilIface .nilIface) K1 = K1 (.bool true) := pur_eq_niface (by kernel_rfl) rfl
@[simp] theorem call_87 {args : List Value} : (nice Try.prog).call (.fn 87) args w K Kp = Calls Try.prog 87 args.toArray w (ret K Kp) := call_fn (by kernel_rfl)
theorem build_175_0_1 {x0 : Value} {x1 : Value} (h0 : x0.oneCell' = true) (h1 : x1.oneCell' = true) : buildV Try.prog 175 [(0, x0), (1, x1)] = some (.agg (#[x0, x1])) := by
  have e : buildV Try.prog 175 [(0, x0), (1, x1)] = (Instr.fill ((#[(0, 1), (1, 1)] : Array (Nat × Nat))[·]?) (#[Value.string ByteArray.empty, Value.int IntKind.i64 0]) [(0, x0), (1, x1)]).map .agg := by kernel_rfl
  rw [e]; simp [Instr.fill, cells_of_one h0, cells_of_one h1]
@[simp] theorem op_build_175_0_1 {x0 : Value} {x1 : Value} (h0 : x0.oneCell' = true) (h1 : x1.oneCell' = true) : (nice Try.prog).op (.build 175 [(0, x0), (1, x1)]) w K Kp = K (.agg (#[x0, x1])) w := op_build (build_175_0_1 h0 h1)
@[simp] theorem pur_build_175_0_1 {x0 : Value} {x1 : Value} (h0 : x0.oneCell' = true) (h1 : x1.oneCell' = true) : (nice Try.prog).pur (.build 175 [(0, x0), (1, x1)]) K1 = K1 (.agg (#[x0, x1])) := pur_build (build_175_0_1 h0 h1)
theorem lit_176_1 {y0_0 y0_1 : Value} : sliceLit Try.prog 176 1 [(0, .agg #[y0_0, y0_1])] = some (175, #[y0_0, y0_1]) := by
  have e : sliceLit Try.prog 176 1 [(0, .agg #[y0_0, y0_1])] = (Instr.fill (fun i => some (i * 2, 2)) (#[Value.string ByteArray.empty, Value.int IntKind.i64 0]) [(0, .agg #[y0_0, y0_1])]).map fun cs => (175, cs) := by kernel_rfl
  rw [e]; simp [Instr.fill, Value.cells]
@[simp] theorem op_lit_176_1 {y0_0 y0_1 : Value} : (nice Try.prog).op (.buildSlice 176 1 [(0, .agg #[y0_0, y0_1])]) w K Kp = K (.slice (some ⟨w.heap.size, 0, none⟩) 1 1) (w.alloc (.cells #[y0_0, y0_1] 175)) := op_lit (lit_176_1)
theorem build_178_0 {x0 : Value} (h0 : x0.oneCell' = true) : buildV Try.prog 178 [(0, x0)] = some (.agg (#[x0])) := by
  have e : buildV Try.prog 178 [(0, x0)] = (Instr.fill ((#[(0, 1)] : Array (Nat × Nat))[·]?) (#[Value.slice none 0 0]) [(0, x0)]).map .agg := by kernel_rfl
  rw [e]; simp [Instr.fill, cells_of_one h0]
@[simp] theorem op_build_178_0 {x0 : Value} (h0 : x0.oneCell' = true) : (nice Try.prog).op (.build 178 [(0, x0)]) w K Kp = K (.agg (#[x0])) w := op_build (build_178_0 h0)
@[simp] theorem pur_build_178_0 {x0 : Value} (h0 : x0.oneCell' = true) : (nice Try.prog).pur (.build 178 [(0, x0)]) K1 = K1 (.agg (#[x0])) := pur_build (build_178_0 h0)
@[simp] theorem op_mki_172 {v : Value} : (nice Try.prog).op (.mkIface 172 v) w K Kp = K (.iface 172 v) w := op_mkIface (by kernel_rfl) (by kernel_rfl)
@[simp] theorem pur_mki_172 {v : Value} : (nice Try.prog).pur (.mkIface 172 v) K1 = K1 (.iface 172 v) := pur_mkIface (by kernel_rfl) (by kernel_rfl)
@[simp] theorem op_fa_170_0 {p : Addr} : (nice Try.prog).op (.fieldAddr 170 (.pointer (some p)) 0) w K Kp = K (.pointer (some (p.add 0))) w := op_fa (k := .one) (by kernel_rfl)
@[simp] theorem pur_fa_170_0 {p : Addr} : (nice Try.prog).pur (.fieldAddr 170 (.pointer (some p)) 0) K1 = K1 (.pointer (some (p.add 0))) := pur_fa (k := .one) (by kernel_rfl)
theorem build_167_0 {x0 : Value} (h0 : x0.oneCell' = true) : buildV Try.prog 167 [(0, x0)] = some (.agg (#[x0, Value.int IntKind.i64 0])) := by
  have e : buildV Try.prog 167 [(0, x0)] = (Instr.fill ((#[(0, 1), (1, 1)] : Array (Nat × Nat))[·]?) (#[Value.nilIface, Value.int IntKind.i64 0]) [(0, x0)]).map .agg := by kernel_rfl
  rw [e]; simp [Instr.fill, cells_of_one h0]
@[simp] theorem op_build_167_0 {x0 : Value} (h0 : x0.oneCell' = true) : (nice Try.prog).op (.build 167 [(0, x0)]) w K Kp = K (.agg (#[x0, Value.int IntKind.i64 0])) w := op_build (build_167_0 h0)
@[simp] theorem pur_build_167_0 {x0 : Value} (h0 : x0.oneCell' = true) : (nice Try.prog).pur (.build 167 [(0, x0)]) K1 = K1 (.agg (#[x0, Value.int IntKind.i64 0])) := pur_build (build_167_0 h0)
@[simp] theorem op_st_167 {p : Addr} {vs : Array Value} : (nice Try.prog).op (.store 167 (.pointer (some p)) (.agg vs)) w K Kp = (vs.size = 2 ∧ (∀ u ∈ vs.toList, u.oneCell' = true) ∧ ∃ cs e, w.heap[p.block]? = some (.cells cs e (0, 0)) ∧ p.spot = none ∧ p.off + 2 ≤ cs.size ∧ K undef (w.upd p.block (.cells (ow cs p.off vs.toList) e (0, 0)))) := op_stn (by kernel_rfl)
@[simp] theorem call_88 {args : List Value} : (nice Try.prog).call (.fn 88) args w K Kp = Calls Try.prog 88 args.toArray w (ret K Kp) := call_fn (by kernel_rfl)
@[simp] theorem op_len_176 {a : Option Addr} {n c ty : Nat} : (nice Try.prog).op (.blt .len [176] ty [.slice a n c]) w K Kp = K (.int .i64 n) w := op_len_slice (by kernel_rfl)
@[simp] theorem pur_len_176 {a : Option Addr} {n c ty : Nat} : (nice Try.prog).pur (.blt .len [176] ty [.slice a n c]) K1 = K1 (.int .i64 n) := pur_len_slice (by kernel_rfl)
@[simp] theorem ld_len_176 {a : Option Addr} {n c ty : Nat} : (nice Try.prog).ld (.blt .len [176] ty [.slice a n c]) w K1 = K1 (.int .i64 n) := ld_len_slice (by kernel_rfl)
@[simp] theorem same_len_176 {a : Option Addr} {n c ty : Nat} {u : Value} : (nice Try.prog).same (.blt .len [176] ty [.slice a n c]) u w = (.int .i64 n = u) := same_len_slice (by kernel_rfl)
@[simp] theorem op_ta_161_213 {u : TypeId} {v : Value} : (nice Try.prog).op (.tassert (.iface u v) 161 213 true) w K Kp = if u = 213 then K (.tuple #[v, .bool true]) w else K (.tuple #[(Value.pointer none), .bool false]) w := op_tassert_ok (by kernel_rfl) (by kernel_rfl) (by kernel_rfl)
@[simp] theorem op_tan_161_213 : (nice Try.prog).op (.tassert .nilIface 161 213 true) w K Kp = K (.tuple #[(Value.pointer none), .bool false]) w := op_tassert_ok_nil (by kernel_rfl) (by kernel_rfl) (by kernel_rfl)
@[simp] theorem op_fa_216_1 {p : Addr} : (nice Try.prog).op (.fieldAddr 216 (.pointer (some p)) 1) w K Kp = K (.pointer (some (p.add 1))) w := op_fa (k := .one) (by kernel_rfl)
@[simp] theorem pur_fa_216_1 {p : Addr} : (nice Try.prog).pur (.fieldAddr 216 (.pointer (some p)) 1) K1 = K1 (.pointer (some (p.add 1))) := pur_fa (k := .one) (by kernel_rfl)
@[simp] theorem op_ld_214 {p : Addr} : (nice Try.prog).op (.load 214 (.pointer (some p))) w K Kp = ∃ cs e fz, w.heap[p.block]? = some (.cells cs e fz) ∧ p.spot = none ∧ ∃ v, cs[p.off]? = some v ∧ K v w := op_ld (by kernel_rfl)
@[simp] theorem ld_ld_214 {p : Addr} : (nice Try.prog).ld (.load 214 (.pointer (some p))) w K1 = ∃ cs e fz, w.heap[p.block]? = some (.cells cs e fz) ∧ p.spot = none ∧ ∃ v, cs[p.off]? = some v ∧ K1 v := ld_ld (by kernel_rfl)
@[simp] theorem same_ld_214 {p : Addr} {v : Value} : (nice Try.prog).same (.load 214 (.pointer (some p))) v w = ∃ cs e fz, w.heap[p.block]? = some (.cells cs e fz) ∧ p.spot = none ∧ cs[p.off]? = some v := same_ld (by kernel_rfl)
@[simp] theorem op_st_214 {p : Addr} {v : Value} : (nice Try.prog).op (.store 214 (.pointer (some p)) v) w K Kp = ∃ cs e, w.heap[p.block]? = some (.cells cs e (0, 0)) ∧ p.spot = none ∧ p.off < cs.size ∧ v.oneCell' = true ∧ K undef (w.upd p.block (.cells (cs.setIfInBounds p.off v) e (0, 0))) := op_st (by kernel_rfl)
@[simp] theorem op_len_214 {a : Option Addr} {n c ty : Nat} : (nice Try.prog).op (.blt .len [214] ty [.slice a n c]) w K Kp = K (.int .i64 n) w := op_len_slice (by kernel_rfl)
@[simp] theorem pur_len_214 {a : Option Addr} {n c ty : Nat} : (nice Try.prog).pur (.blt .len [214] ty [.slice a n c]) K1 = K1 (.int .i64 n) := pur_len_slice (by kernel_rfl)
@[simp] theorem ld_len_214 {a : Option Addr} {n c ty : Nat} : (nice Try.prog).ld (.blt .len [214] ty [.slice a n c]) w K1 = K1 (.int .i64 n) := ld_len_slice (by kernel_rfl)
@[simp] theorem same_len_214 {a : Option Addr} {n c ty : Nat} {u : Value} : (nice Try.prog).same (.blt .len [214] ty [.slice a n c]) u w = (.int .i64 n = u) := same_len_slice (by kernel_rfl)
@[simp] theorem op_ix_214 {p : Addr} {len cap : Nat} {k : IntKind} {j : Int} : (nice Try.prog).op (.indexAddr 214 (.slice (some p) len cap) (.int k j)) w K Kp = ((0 ≤ j ∧ j < (len : Int)) ∧ K (.pointer (some (p.add (j.toNat * 1)))) w) := op_ix_slice (e := 161) (by kernel_rfl)
@[simp] theorem pur_ix_214 {p : Addr} {len cap : Nat} {k : IntKind} {j : Int} : (nice Try.prog).pur (.indexAddr 214 (.slice (some p) len cap) (.int k j)) K1 = ((0 ≤ j ∧ j < (len : Int)) ∧ K1 (.pointer (some (p.add (j.toNat * 1))))) := pur_ix_slice (e := 161) (by kernel_rfl)
@[simp] theorem op_ta_161_217 {u : TypeId} {v : Value} : (nice Try.prog).op (.tassert (.iface u v) 161 217 true) w K Kp = if u = 217 then K (.tuple #[v, .bool true]) w else K (.tuple #[(Value.pointer none), .bool false]) w := op_tassert_ok (by kernel_rfl) (by kernel_rfl) (by kernel_rfl)
@[simp] theorem op_tan_161_217 : (nice Try.prog).op (.tassert .nilIface 161 217 true) w K Kp = K (.tuple #[(Value.pointer none), .bool false]) w := op_tassert_ok_nil (by kernel_rfl) (by kernel_rfl) (by kernel_rfl)
@[simp] theorem op_fa_220_1 {p : Addr} : (nice Try.prog).op (.fieldAddr 220 (.pointer (some p)) 1) w K Kp = K (.pointer (some (p.add 1))) w := op_fa (k := (.agg 32)) (by kernel_rfl)
@[simp] theorem pur_fa_220_1 {p : Addr} : (nice Try.prog).pur (.fieldAddr 220 (.pointer (some p)) 1) K1 = K1 (.pointer (some (p.add 1))) := pur_fa (k := (.agg 32)) (by kernel_rfl)
@[simp] theorem op_ix_218 {p : Addr} {k : IntKind} {j : Int} : (nice Try.prog).op (.indexAddr 218 (.pointer (some p)) (.int k j)) w K Kp = ((0 ≤ j ∧ j < 32) ∧ K (.pointer (some (p.add (j.toNat * 1)))) w) := op_ix_arr (by kernel_rfl)
@[simp] theorem pur_ix_218 {p : Addr} {k : IntKind} {j : Int} : (nice Try.prog).pur (.indexAddr 218 (.pointer (some p)) (.int k j)) K1 = ((0 ≤ j ∧ j < 32) ∧ K1 (.pointer (some (p.add (j.toNat * 1))))) := pur_ix_arr (by kernel_rfl)
@[simp] theorem op_neq_161_y {xc yc : Bool} {u : TypeId} {v : Value} : (nice Try.prog).op (.bin BinOp.neq 161 xc yc (.iface u v) .nilIface) w K Kp = K (.bool true) w := op_eq_iface (by kernel_rfl) rfl
@[simp] theorem op_neq_161_n {xc : Bool} : (nice Try.prog).op (.bin BinOp.neq 161 xc true .nilIface .nilIface) w K Kp = K (.bool false) w := op_eq_niface (by kernel_rfl) rfl
@[simp] theorem pur_neq_161_y {xc yc : Bool} {u : TypeId} {v : Value} : (nice Try.prog).pur (.bin BinOp.neq 161 xc yc (.iface u v) .nilIface) K1 = K1 (.bool true) := pur_eq_iface (by kernel_rfl) rfl
@[simp] theorem pur_neq_161_n {xc : Bool} : (nice Try.prog).pur (.bin BinOp.neq 161 xc true .nilIface .nilIface) K1 = K1 (.bool false) := pur_eq_niface (by kernel_rfl) rfl
@[simp] theorem op_ld_163 {p : Addr} : (nice Try.prog).op (.load 163 (.pointer (some p))) w K Kp = ∃ cs e fz, w.heap[p.block]? = some (.cells cs e fz) ∧ p.spot = none ∧ p.off + 3 ≤ cs.size ∧ K (.agg (cs.extract p.off (p.off + 3))) w := op_ldn (by kernel_rfl)
@[simp] theorem ld_ld_163 {p : Addr} : (nice Try.prog).ld (.load 163 (.pointer (some p))) w K1 = ∃ cs e fz, w.heap[p.block]? = some (.cells cs e fz) ∧ p.spot = none ∧ p.off + 3 ≤ cs.size ∧ K1 (.agg (cs.extract p.off (p.off + 3))) := ld_ldn (by kernel_rfl)
@[simp] theorem same_ld_163 {p : Addr} {v : Value} : (nice Try.prog).same (.load 163 (.pointer (some p))) v w = ∃ cs e fz, w.heap[p.block]? = some (.cells cs e fz) ∧ p.spot = none ∧ p.off + 3 ≤ cs.size ∧ .agg (cs.extract p.off (p.off + 3)) = v := same_ldn (by kernel_rfl)
@[simp] theorem op_st_163 {p : Addr} {vs : Array Value} : (nice Try.prog).op (.store 163 (.pointer (some p)) (.agg vs)) w K Kp = (vs.size = 3 ∧ (∀ u ∈ vs.toList, u.oneCell' = true) ∧ ∃ cs e, w.heap[p.block]? = some (.cells cs e (0, 0)) ∧ p.spot = none ∧ p.off + 3 ≤ cs.size ∧ K undef (w.upd p.block (.cells (ow cs p.off vs.toList) e (0, 0)))) := op_stn (by kernel_rfl)
@[simp] theorem op_alloc_163 : (nice Try.prog).op (.alloc 163) w K Kp = K (.pointer (some ⟨w.heap.size, 0, none⟩)) (w.alloc (.cells #[Value.int IntKind.i64 0, Value.nilIface, Value.nilIface] 163)) := op_alloc (z := (.agg #[(Value.int IntKind.i64 0), (Value.nilIface), (Value.nilIface)])) (by kernel_rfl)
@[simp] theorem call_133 {args : List Value} : (nice Try.prog).call (.fn 133) args w K Kp = Calls Try.prog 133 args.toArray w (ret K Kp) := call_fn (by kernel_rfl)
@[simp] theorem op_cutlo_176 {len cap b o : Nat} {k : IntKind} {x : Int} : (nice Try.prog).op (.slice 176 (.slice (some ⟨b, o, none⟩) len cap) (some (.int k x)) none none) w K Kp = ((0 ≤ x ∧ x ≤ (len : Int) ∧ (len : Int) ≤ (cap : Int)) ∧ K (.slice (some (if cap = x.toNat then ⟨b, o, none⟩ else ⟨b, o + x.toNat * 2, none⟩)) (len - x.toNat) (cap - x.toNat)) w) := op_cut_lo (e := 175) (by kernel_rfl)
@[simp] theorem op_cuthi_176 {len cap b o : Nat} {k : IntKind} {x : Int} : (nice Try.prog).op (.slice 176 (.slice (some ⟨b, o, none⟩) len cap) none (some (.int k x)) none) w K Kp = ((0 ≤ x ∧ x ≤ (cap : Int)) ∧ K (.slice (some ⟨b, o, none⟩) x.toNat cap) w) := op_cut_hi (s := 2) (e := 175) (by kernel_rfl)
@[simp] theorem pur_cutlo_176 {len cap b o : Nat} {k : IntKind} {x : Int} : (nice Try.prog).pur (.slice 176 (.slice (some ⟨b, o, none⟩) len cap) (some (.int k x)) none none) K1 = ((0 ≤ x ∧ x ≤ (len : Int) ∧ (len : Int) ≤ (cap : Int)) ∧ K1 (.slice (some (if cap = x.toNat then ⟨b, o, none⟩ else ⟨b, o + x.toNat * 2, none⟩)) (len - x.toNat) (cap - x.toNat))) := pur_cut_lo (e := 175) (by kernel_rfl)
@[simp] theorem pur_cuthi_176 {len cap b o : Nat} {k : IntKind} {x : Int} : (nice Try.prog).pur (.slice 176 (.slice (some ⟨b, o, none⟩) len cap) none (some (.int k x)) none) K1 = ((0 ≤ x ∧ x ≤ (cap : Int)) ∧ K1 (.slice (some ⟨b, o, none⟩) x.toNat cap)) := pur_cut_hi (s := 2) (e := 175) (by kernel_rfl)
theorem build_175_  : buildV Try.prog 175 [] = some (.agg (#[Value.string ByteArray.empty, Value.int IntKind.i64 0])) := by
  have e : buildV Try.prog 175 [] = (Instr.fill ((#[(0, 1), (1, 1)] : Array (Nat × Nat))[·]?) (#[Value.string ByteArray.empty, Value.int IntKind.i64 0]) []).map .agg := by kernel_rfl
  rw [e]; simp [Instr.fill]
@[simp] theorem op_build_175_  : (nice Try.prog).op (.build 175 []) w K Kp = K (.agg (#[Value.string ByteArray.empty, Value.int IntKind.i64 0])) w := op_build (build_175_)
@[simp] theorem pur_build_175_  : (nice Try.prog).pur (.build 175 []) K1 = K1 (.agg (#[Value.string ByteArray.empty, Value.int IntKind.i64 0])) := pur_build (build_175_)
@[simp] theorem op_ld_175 {p : Addr} : (nice Try.prog).op (.load 175 (.pointer (some p))) w K Kp = ∃ cs e fz, w.heap[p.block]? = some (.cells cs e fz) ∧ p.spot = none ∧ p.off + 2 ≤ cs.size ∧ K (.agg (cs.extract p.off (p.off + 2))) w := op_ldn (by kernel_rfl)
@[simp] theorem ld_ld_175 {p : Addr} : (nice Try.prog).ld (.load 175 (.pointer (some p))) w K1 = ∃ cs e fz, w.heap[p.block]? = some (.cells cs e fz) ∧ p.spot = none ∧ p.off + 2 ≤ cs.size ∧ K1 (.agg (cs.extract p.off (p.off + 2))) := ld_ldn (by kernel_rfl)
@[simp] theorem same_ld_175 {p : Addr} {v : Value} : (nice Try.prog).same (.load 175 (.pointer (some p))) v w = ∃ cs e fz, w.heap[p.block]? = some (.cells cs e fz) ∧ p.spot = none ∧ p.off + 2 ≤ cs.size ∧ .agg (cs.extract p.off (p.off + 2)) = v := same_ldn (by kernel_rfl)
@[simp] theorem op_st_175 {p : Addr} {vs : Array Value} : (nice Try.prog).op (.store 175 (.pointer (some p)) (.agg vs)) w K Kp = (vs.size = 2 ∧ (∀ u ∈ vs.toList, u.oneCell' = true) ∧ ∃ cs e, w.heap[p.block]? = some (.cells cs e (0, 0)) ∧ p.spot = none ∧ p.off + 2 ≤ cs.size ∧ K undef (w.upd p.block (.cells (ow cs p.off vs.toList) e (0, 0)))) := op_stn (by kernel_rfl)
@[simp] theorem call_135 {args : List Value} : (nice Try.prog).call (.fn 135) args w K Kp = Calls Try.prog 135 args.toArray w (ret K Kp) := call_fn (by kernel_rfl)
@[simp] theorem op_mki_179 {v : Value} : (nice Try.prog).op (.mkIface 179 v) w K Kp = K (.iface 179 v) w := op_mkIface (by kernel_rfl) (by kernel_rfl)
@[simp] theorem pur_mki_179 {v : Value} : (nice Try.prog).pur (.mkIface 179 v) K1 = K1 (.iface 179 v) := pur_mkIface (by kernel_rfl) (by kernel_rfl)
@[simp] theorem op_alloc_175 : (nice Try.prog).op (.alloc 175) w K Kp = K (.pointer (some ⟨w.heap.size, 0, none⟩)) (w.alloc (.cells #[Value.string ByteArray.empty, Value.int IntKind.i64 0] 175)) := op_alloc (z := (.agg #[(Value.string ByteArray.empty), (Value.int IntKind.i64 0)])) (by kernel_rfl)
@[simp] theorem op_alloc_178 : (nice Try.prog).op (.alloc 178) w K Kp = K (.pointer (some ⟨w.heap.size, 0, none⟩)) (w.alloc (.cells #[Value.slice none 0 0] 178)) := op_alloc (z := (.agg #[(Value.slice none 0 0)])) (by kernel_rfl)
theorem build_181_0_1_2 {x0 : Value} {x1 : Value} {x2 : Value} (h0 : x0.oneCell' = true) (h1 : x1.oneCell' = true) (h2 : x2.oneCell' = true) : buildV Try.prog 181 [(0, x0), (1, x1), (2, x2)] = some (.agg (#[x0, x1, x2])) := by
  have e : buildV Try.prog 181 [(0, x0), (1, x1), (2, x2)] = (Instr.fill ((#[(0, 1), (1, 1), (2, 1)] : Array (Nat × Nat))[·]?) (#[Value.int IntKind.u32 0, Value.string ByteArray.empty, Value.int IntKind.i64 0]) [(0, x0), (1, x1), (2, x2)]).map .agg := by kernel_rfl
  rw [e]; simp [Instr.fill, cells_of_one h0, cells_of_one h1, cells_of_one h2]
@[simp] theorem op_build_181_0_1_2 {x0 : Value} {x1 : Value} {x2 : Value} (h0 : x0.oneCell' = true) (h1 : x1.oneCell' = true) (h2 : x2.oneCell' = true) : (nice Try.prog).op (.build 181 [(0, x0), (1, x1), (2, x2)]) w K Kp = K (.agg (#[x0, x1, x2])) w := op_build (build_181_0_1_2 h0 h1 h2)
@[simp] theorem pur_build_181_0_1_2 {x0 : Value} {x1 : Value} {x2 : Value} (h0 : x0.oneCell' = true) (h1 : x1.oneCell' = true) (h2 : x2.oneCell' = true) : (nice Try.prog).pur (.build 181 [(0, x0), (1, x1), (2, x2)]) K1 = K1 (.agg (#[x0, x1, x2])) := pur_build (build_181_0_1_2 h0 h1 h2)
@[simp] theorem op_fa_181_0 {p : Addr} : (nice Try.prog).op (.fieldAddr 181 (.pointer (some p)) 0) w K Kp = K (.pointer (some (p.add 0))) w := op_fa (k := .one) (by kernel_rfl)
@[simp] theorem pur_fa_181_0 {p : Addr} : (nice Try.prog).pur (.fieldAddr 181 (.pointer (some p)) 0) K1 = K1 (.pointer (some (p.add 0))) := pur_fa (k := .one) (by kernel_rfl)
@[simp] theorem call_140 {args : List Value} : (nice Try.prog).call (.fn 140) args w K Kp = Calls Try.prog 140 args.toArray w (ret K Kp) := call_fn (by kernel_rfl)
theorem lit_176_2 {y0_0 y0_1 y1_0 y1_1 : Value} : sliceLit Try.prog 176 2 [(0, .agg #[y0_0, y0_1]), (1, .agg #[y1_0, y1_1])] = some (175, #[y0_0, y0_1, y1_0, y1_1]) := by
  have e : sliceLit Try.prog 176 2 [(0, .agg #[y0_0, y0_1]), (1, .agg #[y1_0, y1_1])] = (Instr.fill (fun i => some (i * 2, 2)) (#[Value.string ByteArray.empty, Value.int IntKind.i64 0, Value.string ByteArray.empty, Value.int IntKind.i64 0]) [(0, .agg #[y0_0, y0_1]), (1, .agg #[y1_0, y1_1])]).map fun cs => (175, cs) := by kernel_rfl
  rw [e]; simp [Instr.fill, Value.cells]
@[simp] theorem op_lit_176_2 {y0_0 y0_1 y1_0 y1_1 : Value} : (nice Try.prog).op (.buildSlice 176 2 [(0, .agg #[y0_0, y0_1]), (1, .agg #[y1_0, y1_1])]) w K Kp = K (.slice (some ⟨w.heap.size, 0, none⟩) 2 2) (w.alloc (.cells #[y0_0, y0_1, y1_0, y1_1] 175)) := op_lit (lit_176_2)
theorem build_184_0_1 {x0 : Value} {x1 : Value} (h0 : x0.oneCell' = true) (h1 : x1.oneCell' = true) : buildV Try.prog 184 [(0, x0), (1, x1)] = some (.agg (#[x0, x1])) := by
  have e : buildV Try.prog 184 [(0, x0), (1, x1)] = (Instr.fill ((#[(0, 1), (1, 1)] : Array (Nat × Nat))[·]?) (#[Value.int IntKind.u32 0, Value.slice none 0 0]) [(0, x0), (1, x1)]).map .agg := by kernel_rfl
  rw [e]; simp [Instr.fill, cells_of_one h0, cells_of_one h1]
@[simp] theorem op_build_184_0_1 {x0 : Value} {x1 : Value} (h0 : x0.oneCell' = true) (h1 : x1.oneCell' = true) : (nice Try.prog).op (.build 184 [(0, x0), (1, x1)]) w K Kp = K (.agg (#[x0, x1])) w := op_build (build_184_0_1 h0 h1)
@[simp] theorem pur_build_184_0_1 {x0 : Value} {x1 : Value} (h0 : x0.oneCell' = true) (h1 : x1.oneCell' = true) : (nice Try.prog).pur (.build 184 [(0, x0), (1, x1)]) K1 = K1 (.agg (#[x0, x1])) := pur_build (build_184_0_1 h0 h1)
@[simp] theorem op_mki_182 {v : Value} : (nice Try.prog).op (.mkIface 182 v) w K Kp = K (.iface 182 v) w := op_mkIface (by kernel_rfl) (by kernel_rfl)
@[simp] theorem pur_mki_182 {v : Value} : (nice Try.prog).pur (.mkIface 182 v) K1 = K1 (.iface 182 v) := pur_mkIface (by kernel_rfl) (by kernel_rfl)
theorem build_216_0 {x0 : Value} (h0 : x0.oneCell' = true) : buildV Try.prog 216 [(0, x0)] = some (.agg (#[x0, Value.slice none 0 0])) := by
  have e : buildV Try.prog 216 [(0, x0)] = (Instr.fill ((#[(0, 1), (1, 1)] : Array (Nat × Nat))[·]?) (#[Value.int IntKind.u32 0, Value.slice none 0 0]) [(0, x0)]).map .agg := by kernel_rfl
  rw [e]; simp [Instr.fill, cells_of_one h0]
@[simp] theorem op_build_216_0 {x0 : Value} (h0 : x0.oneCell' = true) : (nice Try.prog).op (.build 216 [(0, x0)]) w K Kp = K (.agg (#[x0, Value.slice none 0 0])) w := op_build (build_216_0 h0)
@[simp] theorem pur_build_216_0 {x0 : Value} (h0 : x0.oneCell' = true) : (nice Try.prog).pur (.build 216 [(0, x0)]) K1 = K1 (.agg (#[x0, Value.slice none 0 0])) := pur_build (build_216_0 h0)
theorem lit_214_1 {x0 : Value} (h0 : x0.oneCell' = true) : sliceLit Try.prog 214 1 [(0, x0)] = some (161, #[x0]) := by
  have e : sliceLit Try.prog 214 1 [(0, x0)] = (Instr.fill (fun i => some (i * 1, 1)) (#[Value.nilIface]) [(0, x0)]).map fun cs => (161, cs) := by kernel_rfl
  rw [e]; simp [Instr.fill, cells_of_one h0]
@[simp] theorem op_lit_214_1 {x0 : Value} (h0 : x0.oneCell' = true) : (nice Try.prog).op (.buildSlice 214 1 [(0, x0)]) w K Kp = K (.slice (some ⟨w.heap.size, 0, none⟩) 1 1) (w.alloc (.cells #[x0] 161)) := op_lit (lit_214_1 h0)
theorem lit_214_2 {x0 x1 : Value} (h0 : x0.oneCell' = true) (h1 : x1.oneCell' = true) : sliceLit Try.prog 214 2 [(0, x0), (1, x1)] = some (161, #[x0, x1]) := by
  have e : sliceLit Try.prog 214 2 [(0, x0), (1, x1)] = (Instr.fill (fun i => some (i * 1, 1)) (#[Value.nilIface, Value.nilIface]) [(0, x0), (1, x1)]).map fun cs => (161, cs) := by kernel_rfl
  rw [e]; simp [Instr.fill, cells_of_one h0, cells_of_one h1]
@[simp] theorem op_lit_214_2 {x0 x1 : Value} (h0 : x0.oneCell' = true) (h1 : x1.oneCell' = true) : (nice Try.prog).op (.buildSlice 214 2 [(0, x0), (1, x1)]) w K Kp = K (.slice (some ⟨w.heap.size, 0, none⟩) 2 2) (w.alloc (.cells #[x0, x1] 161)) := op_lit (lit_214_2 h0 h1)
@[simp] theorem op_mki_213 {v : Value} : (nice Try.prog).op (.mkIface 213 v) w K Kp = K (.iface 213 v) w := op_mkIface (by kernel_rfl) (by kernel_rfl)
@[simp] theorem pur_mki_213 {v : Value} : (nice Try.prog).pur (.mkIface 213 v) K1 = K1 (.iface 213 v) := pur_mkIface (by kernel_rfl) (by kernel_rfl)
@[simp] theorem call_143 {args : List Value} : (nice Try.prog).call (.fn 143) args w K Kp = Calls Try.prog 143 args.toArray w (ret K Kp) := call_fn (by kernel_rfl)
@[simp] theorem op_fa_184_0 {p : Addr} : (nice Try.prog).op (.fieldAddr 184 (.pointer (some p)) 0) w K Kp = K (.pointer (some (p.add 0))) w := op_fa (k := .one) (by kernel_rfl)
@[simp] theorem pur_fa_184_0 {p : Addr} : (nice Try.prog).pur (.fieldAddr 184 (.pointer (some p)) 0) K1 = K1 (.pointer (some (p.add 0))) := pur_fa (k := .one) (by kernel_rfl)
theorem build_184_0 {x0 : Value} (h0 : x0.oneCell' = true) : buildV Try.prog 184 [(0, x0)] = some (.agg (#[x0, Value.slice none 0 0])) := by
  have e : buildV Try.prog 184 [(0, x0)] = (Instr.fill ((#[(0, 1), (1, 1)] : Array (Nat × Nat))[·]?) (#[Value.int IntKind.u32 0, Value.slice none 0 0]) [(0, x0)]).map .agg := by kernel_rfl
  rw [e]; simp [Instr.fill, cells_of_one h0]
@[simp] theorem op_build_184_0 {x0 : Value} (h0 : x0.oneCell' = true) : (nice Try.prog).op (.build 184 [(0, x0)]) w K Kp = K (.agg (#[x0, Value.slice none 0 0])) w := op_build (build_184_0 h0)
@[simp] theorem pur_build_184_0 {x0 : Value} (h0 : x0.oneCell' = true) : (nice Try.prog).pur (.build 184 [(0, x0)]) K1 = K1 (.agg (#[x0, Value.slice none 0 0])) := pur_build (build_184_0 h0)
@[simp] theorem op_fa_216_0 {p : Addr} : (nice Try.prog).op (.fieldAddr 216 (.pointer (some p)) 0) w K Kp = K (.pointer (some (p.add 0))) w := op_fa (k := .one) (by kernel_rfl)
@[simp] theorem pur_fa_216_0 {p : Addr} : (nice Try.prog).pur (.fieldAddr 216 (.pointer (some p)) 0) K1 = K1 (.pointer (some (p.add 0))) := pur_fa (k := .one) (by kernel_rfl)
@[simp] theorem op_cutlo_214 {len cap b o : Nat} {k : IntKind} {x : Int} : (nice Try.prog).op (.slice 214 (.slice (some ⟨b, o, none⟩) len cap) (some (.int k x)) none none) w K Kp = ((0 ≤ x ∧ x ≤ (len : Int) ∧ (len : Int) ≤ (cap : Int)) ∧ K (.slice (some (if cap = x.toNat then ⟨b, o, none⟩ else ⟨b, o + x.toNat * 1, none⟩)) (len - x.toNat) (cap - x.toNat)) w) := op_cut_lo (e := 161) (by kernel_rfl)
@[simp] theorem op_cuthi_214 {len cap b o : Nat} {k : IntKind} {x : Int} : (nice Try.prog).op (.slice 214 (.slice (some ⟨b, o, none⟩) len cap) none (some (.int k x)) none) w K Kp = ((0 ≤ x ∧ x ≤ (cap : Int)) ∧ K (.slice (some ⟨b, o, none⟩) x.toNat cap) w) := op_cut_hi (s := 1) (e := 161) (by kernel_rfl)
@[simp] theorem pur_cutlo_214 {len cap b o : Nat} {k : IntKind} {x : Int} : (nice Try.prog).pur (.slice 214 (.slice (some ⟨b, o, none⟩) len cap) (some (.int k x)) none none) K1 = ((0 ≤ x ∧ x ≤ (len : Int) ∧ (len : Int) ≤ (cap : Int)) ∧ K1 (.slice (some (if cap = x.toNat then ⟨b, o, none⟩ else ⟨b, o + x.toNat * 1, none⟩)) (len - x.toNat) (cap - x.toNat))) := pur_cut_lo (e := 161) (by kernel_rfl)
@[simp] theorem pur_cuthi_214 {len cap b o : Nat} {k : IntKind} {x : Int} : (nice Try.prog).pur (.slice 214 (.slice (some ⟨b, o, none⟩) len cap) none (some (.int k x)) none) K1 = ((0 ≤ x ∧ x ≤ (cap : Int)) ∧ K1 (.slice (some ⟨b, o, none⟩) x.toNat cap)) := pur_cut_hi (s := 1) (e := 161) (by kernel_rfl)
theorem build_216_0_1 {x0 : Value} {x1 : Value} (h0 : x0.oneCell' = true) (h1 : x1.oneCell' = true) : buildV Try.prog 216 [(0, x0), (1, x1)] = some (.agg (#[x0, x1])) := by
  have e : buildV Try.prog 216 [(0, x0), (1, x1)] = (Instr.fill ((#[(0, 1), (1, 1)] : Array (Nat × Nat))[·]?) (#[Value.int IntKind.u32 0, Value.slice none 0 0]) [(0, x0), (1, x1)]).map .agg := by kernel_rfl
  rw [e]; simp [Instr.fill, cells_of_one h0, cells_of_one h1]
@[simp] theorem op_build_216_0_1 {x0 : Value} {x1 : Value} (h0 : x0.oneCell' = true) (h1 : x1.oneCell' = true) : (nice Try.prog).op (.build 216 [(0, x0), (1, x1)]) w K Kp = K (.agg (#[x0, x1])) w := op_build (build_216_0_1 h0 h1)
@[simp] theorem pur_build_216_0_1 {x0 : Value} {x1 : Value} (h0 : x0.oneCell' = true) (h1 : x1.oneCell' = true) : (nice Try.prog).pur (.build 216 [(0, x0), (1, x1)]) K1 = K1 (.agg (#[x0, x1])) := pur_build (build_216_0_1 h0 h1)
def zero_220 : Array Value := #[Value.int IntKind.u64 0, Value.nilIface, Value.nilIface, Value.nilIface, Value.nilIface, Value.nilIface, Value.nilIface, Value.nilIface, Value.nilIface, Value.nilIface, Value.nilIface, Value.nilIface, Value.nilIface, Value.nilIface, Value.nilIface, Value.nilIface, Value.nilIface, Value.nilIface, Value.nilIface, Value.nilIface, Value.nilIface, Value.nilIface, Value.nilIface, Value.nilIface, Value.nilIface, Value.nilIface, Value.nilIface, Value.nilIface, Value.nilIface, Value.nilIface, Value.nilIface, Value.nilIface, Value.nilIface]
@[simp] theorem op_alloc_220 : (nice Try.prog).op (.alloc 220) w K Kp = K (.pointer (some ⟨w.heap.size, 0, none⟩)) (w.alloc (.cells zero_220 220)) := op_alloc (z := .agg zero_220) (by kernel_rfl)
@[simp] theorem op_fa_220_0 {p : Addr} : (nice Try.prog).op (.fieldAddr 220 (.pointer (some p)) 0) w K Kp = K (.pointer (some (p.add 0))) w := op_fa (k := .one) (by kernel_rfl)
@[simp] theorem pur_fa_220_0 {p : Addr} : (nice Try.prog).pur (.fieldAddr 220 (.pointer (some p)) 0) K1 = K1 (.pointer (some (p.add 0))) := pur_fa (k := .one) (by kernel_rfl)
@[simp] theorem op_mki_217 {v : Value} : (nice Try.prog).op (.mkIface 217 v) w K Kp = K (.iface 217 v) w := op_mkIface (by kernel_rfl) (by kernel_rfl)
@[simp] theorem pur_mki_217 {v : Value} : (nice Try.prog).pur (.mkIface 217 v) K1 = K1 (.iface 217 v) := pur_mkIface (by kernel_rfl) (by kernel_rfl)
@[simp] theorem op_ld_220 {p : Addr} : (nice Try.prog).op (.load 220 (.pointer (some p))) w K Kp = ∃ cs e fz, w.heap[p.block]? = some (.cells cs e fz) ∧ p.spot = none ∧ p.off + 33 ≤ cs.size ∧ K (.agg (cs.extract p.off (p.off + 33))) w := op_ldn (by kernel_rfl)
@[simp] theorem ld_ld_220 {p : Addr} : (nice Try.prog).ld (.load 220 (.pointer (some p))) w K1 = ∃ cs e fz, w.heap[p.block]? = some (.cells cs e fz) ∧ p.spot = none ∧ p.off + 33 ≤ cs.size ∧ K1 (.agg (cs.extract p.off (p.off + 33))) := ld_ldn (by kernel_rfl)
@[simp] theorem same_ld_220 {p : Addr} {v : Value} : (nice Try.prog).same (.load 220 (.pointer (some p))) v w = ∃ cs e fz, w.heap[p.block]? = some (.cells cs e fz) ∧ p.spot = none ∧ p.off + 33 ≤ cs.size ∧ .agg (cs.extract p.off (p.off + 33)) = v := same_ldn (by kernel_rfl)
@[simp] theorem op_st_220 {p : Addr} {vs : Array Value} : (nice Try.prog).op (.store 220 (.pointer (some p)) (.agg vs)) w K Kp = (vs.size = 33 ∧ (∀ u ∈ vs.toList, u.oneCell' = true) ∧ ∃ cs e, w.heap[p.block]? = some (.cells cs e (0, 0)) ∧ p.spot = none ∧ p.off + 33 ≤ cs.size ∧ K undef (w.upd p.block (.cells (ow cs p.off vs.toList) e (0, 0)))) := op_stn (by kernel_rfl)
theorem build_216_1 {x1 : Value} (h1 : x1.oneCell' = true) : buildV Try.prog 216 [(1, x1)] = some (.agg (#[Value.int IntKind.u32 0, x1])) := by
  have e : buildV Try.prog 216 [(1, x1)] = (Instr.fill ((#[(0, 1), (1, 1)] : Array (Nat × Nat))[·]?) (#[Value.int IntKind.u32 0, Value.slice none 0 0]) [(1, x1)]).map .agg := by kernel_rfl
  rw [e]; simp [Instr.fill, cells_of_one h1]
@[simp] theorem op_build_216_1 {x1 : Value} (h1 : x1.oneCell' = true) : (nice Try.prog).op (.build 216 [(1, x1)]) w K Kp = K (.agg (#[Value.int IntKind.u32 0, x1])) w := op_build (build_216_1 h1)
@[simp] theorem pur_build_216_1 {x1 : Value} (h1 : x1.oneCell' = true) : (nice Try.prog).pur (.build 216 [(1, x1)]) K1 = K1 (.agg (#[Value.int IntKind.u32 0, x1])) := pur_build (build_216_1 h1)
@[simp] theorem op_ld_218 {p : Addr} : (nice Try.prog).op (.load 218 (.pointer (some p))) w K Kp = ∃ cs e fz, w.heap[p.block]? = some (.cells cs e fz) ∧ p.spot = none ∧ p.off + 32 ≤ cs.size ∧ K (.agg (cs.extract p.off (p.off + 32))) w := op_ldn (by kernel_rfl)
@[simp] theorem ld_ld_218 {p : Addr} : (nice Try.prog).ld (.load 218 (.pointer (some p))) w K1 = ∃ cs e fz, w.heap[p.block]? = some (.cells cs e fz) ∧ p.spot = none ∧ p.off + 32 ≤ cs.size ∧ K1 (.agg (cs.extract p.off (p.off + 32))) := ld_ldn (by kernel_rfl)
@[simp] theorem same_ld_218 {p : Addr} {v : Value} : (nice Try.prog).same (.load 218 (.pointer (some p))) v w = ∃ cs e fz, w.heap[p.block]? = some (.cells cs e fz) ∧ p.spot = none ∧ p.off + 32 ≤ cs.size ∧ .agg (cs.extract p.off (p.off + 32)) = v := same_ldn (by kernel_rfl)
@[simp] theorem call_157 {args : List Value} : (nice Try.prog).call (.fn 157) args w K Kp = Calls Try.prog 157 args.toArray w (ret K Kp) := call_fn (by kernel_rfl)
@[simp] theorem op_conv_5_22 {k : IntKind} {n : Int} : (nice Try.prog).op (.conv 5 22 (.int k n)) w K Kp = K (.int .u32 (IntKind.u32.wrap n)) w := op_conv (by kernel_rfl) (by kernel_rfl)
@[simp] theorem pur_conv_5_22 {k : IntKind} {n : Int} : (nice Try.prog).pur (.conv 5 22 (.int k n)) K1 = K1 (.int .u32 (IntKind.u32.wrap n)) := pur_conv (by kernel_rfl) (by kernel_rfl)
@[simp] theorem op_mki_237 {v : Value} : (nice Try.prog).op (.mkIface 237 v) w K Kp = K (.iface 237 v) w := op_mkIface (by kernel_rfl) (by kernel_rfl)
end Go.Proofs.Ytbghmbbhkoniiaa
end
section
set_option linter.unusedVariables false
set_option maxRecDepth 100000
namespace Go.Proofs.Ytbghmbbhkoniiaa
open Go.Vc Go.Proofs
private theorem follows_MVcT : Try.prog.follows .mixedOrders = true := by kernel_rfl

def vc7 (S : Sig) (a0 : Value) (w : World) (K : Value → World → Prop) (Kp : KP) : Prop :=
 S.call (.fn 20) [a0] w (fun v17 w =>
 S.op (.un .not v17) w (fun v18 w =>
 Br v18 (
 K (.bool true) w) (
 S.call (.fn 21) [a0] w (fun v21 w =>
 S.op (.extract v21 0) w (fun v22 w =>
 S.op (.extract v21 1) w (fun v23 w =>
 S.op (.un .not v23) w (fun v25 w =>
 Br v25 (
 S.call (.fn 13) [] w (fun v26 w =>
 K v26 w) Kp) (
 S.op (.blt .len [53] 3 [a0]) w (fun v28 w =>
 Lp fun (I8 : Value → Value → World → Prop) (μ8 : Value → Value → World → Nat) => I8 (.slice none 0 0) (.int .i64 0) w ∧
 ∀ (wl8 : World) (junk : Nat → Value) (s5_l : Value) (s29_ : Value), I8 s5_l s29_ wl8 →
 S.op (.bin .lss 3 false false s29_ v28) wl8 (fun v30 w =>
 Br v30 (
 S.op (.indexAddr 53 a0 s29_) w (fun v31 w =>
 S.op (.load 60 v31) w (fun v32 w =>
 S.op (.alloc 60) w (fun v7_s w =>
 S.op (.store 60 v7_s v32) w (fun _ w =>
 S.op (.load 60 v7_s) w (fun v34 w =>
 S.op (.buildSlice 58 1 [(0, v34)]) w (fun v35 w =>
 S.op (.blt .append [58, 58] 58 [s5_l, v35]) w (fun v36 w =>
 S.op (.bin .add 3 false true s29_ (.int .i64 1)) w (fun v37 w =>
 I8 v36 v37 w ∧ μ8 v36 v37 w < μ8 s5_l s29_ wl8) Kp) Kp) Kp) Kp) Kp) Kp) Kp) Kp) (
 S.call (.fn 22) [s5_l] w (fun v39 w =>
 S.op (.blt .len [62] 3 [v39]) w (fun v41 w =>
 S.op (.blt .len [55] 3 [v22]) w (fun v43 w =>
 S.op (.bin .neq 3 false false v41 v43) w (fun v44 w =>
 Br v44 (
 K (.bool false) w) (
 S.op (.blt .len [62] 3 [v39]) w (fun v46 w =>
 Lp fun (I16 : Value → World → Prop) (μ16 : Value → World → Nat) => I16 (.int .i64 0) w ∧
 ∀ (wl16 : World) (junk : Nat → Value) (s47_ : Value), I16 s47_ wl16 →
 S.op (.bin .lss 3 false false s47_ v46) wl16 (fun v48 w =>
 Br v48 (
 S.op (.indexAddr 62 v39 s47_) w (fun v50 w =>
 S.op (.load 67 v50) w (fun v51 w =>
 S.op (.alloc 67) w (fun v10_x w =>
 S.op (.store 67 v10_x v51) w (fun _ w =>
 S.pur (.fieldAddr 67 v10_x 0) (fun v52 =>
 S.ld (.load 3 v52) w.drew (fun v53 =>
 S.pur (.indexAddr 55 v22 s47_) (fun v56 =>
 S.ld (.load 68 v56) w.drew (fun v57 =>
 S.ld (.blt .len [68] 3 [v57]) w.drew (fun v58 =>
 S.pur (.bin .neq 3 false false v53 v58) (fun v59 =>
 Br v59 (
 K (.bool false) w.drew) (
 S.pur (.fieldAddr 67 v10_x 1) (fun v61 =>
 S.ld (.load 64 v61) w.drew (fun v62 =>
 S.ld (.blt .len [64] 3 [v62]) w.drew (fun v63 =>
 S.pur (.fieldAddr 67 v10_x 0) (fun v64 =>
 S.ld (.load 3 v64) w.drew (fun v65 =>
 S.pur (.bin .neq 3 false false v63 v65) (fun v66 =>
 Br v66 (
 K (.bool false) w.drew) (
 S.pur (.fieldAddr 67 v10_x 2) (fun v69 =>
 S.ld (.load 65 v69) w.drew (fun v70 =>
 S.ld (.blt .len [65] 3 [v70]) w.drew (fun v71 =>
 S.pur (.fieldAddr 67 v10_x 0) (fun v72 =>
 S.ld (.load 3 v72) w.drew (fun v73 =>
 S.pur (.bin .neq 3 false false v71 v73) (fun v74 =>
 Br v74 (
 K (.bool false) w.drew) (
 S.op (.mkMap 69 none) w.drew (fun v76 w =>
 S.op (.fieldAddr 67 v10_x 1) w (fun v77 w =>
 S.op (.load 64 v77) w (fun v78 w =>
 S.op (.blt .len [64] 3 [v78]) w (fun v79 w =>
 Lp fun (I22 : Value → World → Prop) (μ22 : Value → World → Nat) => I22 (.int .i64 0) w ∧
 ∀ (wl22 : World) (junk : Nat → Value) (s80_ : Value), I22 s80_ wl22 →
 S.op (.bin .lss 3 false false s80_ v79) wl22 (fun v81 w =>
 Br v81 (
 S.op (.indexAddr 64 v78 s80_) w (fun v83 w =>
 S.op (.load 9 v83) w (fun v84 w =>
 S.op (.indexAddr 55 v22 s47_) w (fun v88 w =>
 S.op (.load 68 v88) w (fun v89 w =>
 S.op (.lookup 68 v89 v84 true) w (fun v91 w =>
 S.op (.extract v91 0) w (fun v92 w =>
 S.op (.extract v91 1) w (fun v93 w =>
 S.op (.un .not v93) w (fun v95 w =>
 Br v95 (
 K (.bool false) w) (
 S.op (.lookup 69 v76 v84 false) w (fun v99 w =>
 Br v99 (
 K (.bool false) w) (
 S.op (.fieldAddr 67 v10_x 2) w (fun v103 w =>
 S.op (.load 65 v103) w (fun v104 w =>
 S.op (.indexAddr 65 v104 s80_) w (fun v106 w =>
 S.op (.load 2 v106) w (fun v107 w =>
 S.op (.bin .neq 2 false false v92 v107) w (fun v108 w =>
 Br v108 (
 K (.bool false) w) (
 S.op (.mapUpdate 69 v76 v84 (.bool true)) w (fun _ w =>
 S.op (.bin .add 3 false true s80_ (.int .i64 1)) w (fun v112 w =>
 I22 v112 w ∧ μ22 v112 w < μ22 s80_ wl22) Kp) Kp)) Kp) Kp) Kp) Kp) Kp)) Kp)) Kp) Kp) Kp) Kp) Kp) Kp) Kp) Kp) (
 S.op (.bin .add 3 false true s47_ (.int .i64 1)) w (fun v113 w =>
 I16 v113 w ∧ μ16 v113 w < μ16 s47_ wl16) Kp)) Kp) Kp) Kp) Kp) Kp)))))))))))))))))))))) Kp) Kp) Kp) Kp) (
 S.call (.fn 13) [] w (fun v114 w =>
 K v114 w) Kp)) Kp) Kp)) Kp) Kp) Kp) Kp)) Kp) Kp)) Kp) Kp) Kp) Kp)) Kp) Kp
theorem vc7_eq (S : Sig) (a0 : Value) (w : World) (K : Value → World → Prop) (Kp : KP) : vc7 S a0 w K Kp = fVC S [(8, [5, 29]), (16, [47]), (22, [80])] [] Try.f7 [a0] w K Kp := by kernel_rfl
theorem vc7_calls {a0 : Value} {w : World} {K : Value → World → Prop} {Kp : KP} (h : vc7 (nice Try.prog) a0 w K Kp) : Calls Try.prog 7 #[a0] w (ret K Kp) :=
 fVC_sound (args := [a0]) nice_le follows_MVcT Try.func7 (by kernel_rfl) (Eq.mp (vc7_eq _ _ _ _ _) h)

def vc20 (S : Sig) (a0 : Value) (w : World) (K : Value → World → Prop) (Kp : KP) : Prop :=
 S.op (.blt .len [53] 3 [a0]) w (fun v6 w =>
 S.op (.bin .gtr 3 false true v6 (.int .i64 2147483647)) w (fun v7 w =>
 Br v7 (
 K (.bool false) w) (
 S.op (.blt .len [53] 3 [a0]) w (fun v9 w =>
 Lp fun (I4 : Value → World → Prop) (μ4 : Value → World → Nat) => I4 (.int .i64 0) w ∧
 ∀ (wl4 : World) (junk : Nat → Value) (s10_ : Value), I4 s10_ wl4 →
 S.op (.bin .lss 3 false false s10_ v9) wl4 (fun v11 w =>
 Br v11 (
 S.op (.indexAddr 53 a0 s10_) w (fun v12 w =>
 S.op (.load 60 v12) w (fun v13 w =>
 S.op (.alloc 60) w (fun v4_v w =>
 S.op (.store 60 v4_v v13) w (fun _ w =>
 S.op (.load 60 v4_v) w (fun v14 w =>
 S.call (.fn 45) [v14] w (fun v15 w =>
 S.op (.un .not v15) w (fun v16 w =>
 Br v16 (
 K (.bool false) w) (
 S.op (.bin .add 3 false true s10_ (.int .i64 1)) w (fun v17 w =>
 I4 v17 w ∧ μ4 v17 w < μ4 s10_ wl4) Kp)) Kp) Kp) Kp) Kp) Kp) Kp) Kp) (
 K (.bool true) w)) Kp) Kp)) Kp) Kp
theorem vc20_eq (S : Sig) (a0 : Value) (w : World) (K : Value → World → Prop) (Kp : KP) : vc20 S a0 w K Kp = fVC S [(4, [10])] [] Try.f20 [a0] w K Kp := by kernel_rfl
theorem vc20_calls {a0 : Value} {w : World} {K : Value → World → Prop} {Kp : KP} (h : vc20 (nice Try.prog) a0 w K Kp) : Calls Try.prog 20 #[a0] w (ret K Kp) :=
 fVC_sound (args := [a0]) nice_le follows_MVcT Try.func20 (by kernel_rfl) (Eq.mp (vc20_eq _ _ _ _ _) h)

def vc21 (S : Sig) (a0 : Value) (w : World) (K : Value → World → Prop) (Kp : KP) : Prop :=
 S.op (.mkMap 68 none) w (fun v9 w =>
 S.op (.buildSlice 55 1 [(0, v9)]) w (fun v10 w =>
 S.op (.blt .len [53] 3 [a0]) w (fun v12 w =>
 Lp fun (I3 : Value → Value → World → Prop) (μ3 : Value → Value → World → Nat) => I3 v10 (.int .i64 0) w ∧
 ∀ (wl3 : World) (junk : Nat → Value) (s2_out : Value) (s13_ : Value), I3 s2_out s13_ wl3 →
 S.op (.bin .lss 3 false false s13_ v12) wl3 (fun v14 w =>
 Br v14 (
 S.op (.indexAddr 53 a0 s13_) w (fun v16 w =>
 S.op (.load 60 v16) w (fun v17 w =>
 S.op (.alloc 60) w (fun v5_s w =>
 S.op (.store 60 v5_s v17) w (fun _ w =>
 S.op (.fieldAddr 60 v5_s 1) w (fun v18 w =>
 S.op (.load 3 v18) w (fun v19 w =>
 S.op (.bin .lss 3 false true v19 (.int .i64 0)) w (fun v20 w =>
 Br v20 (
 K (.tuple #[(.slice none 0 0), (.bool false)]) w) (
 S.op (.fieldAddr 60 v5_s 1) w (fun v22 w =>
 S.op (.load 3 v22) w (fun v23 w =>
 S.op (.bin .gtr 3 false false v23 s13_) w (fun v25 w =>
 Br v25 (
 K (.tuple #[(.slice none 0 0), (.bool false)]) w) (
 S.op (.fieldAddr 60 v5_s 2) w (fun v28 w =>
 S.op (.load 9 v28) w (fun v29 w =>
 S.op (.blt .len [9] 3 [v29]) w (fun v30 w =>
 S.op (.bin .gtr 3 false true v30 (.int .i64 1000)) w (fun v31 w =>
 Br v31 (
 K (.tuple #[(.slice none 0 0), (.bool false)]) w) (
 S.op (.blt .len [53] 3 [a0]) w (fun v35 w =>
 S.op (.bin .gtr 3 false true v35 (.int .i64 60)) w (fun v36 w =>
 Br v36 (
 K (.tuple #[(.slice none 0 0), (.bool false)]) w) (
 S.op (.mkMap 68 none) w (fun v38 w =>
 S.op (.fieldAddr 60 v5_s 1) w (fun v40 w =>
 S.op (.load 3 v40) w (fun v41 w =>
 S.op (.indexAddr 55 s2_out v41) w (fun v42 w =>
 S.op (.load 68 v42) w (fun v43 w =>
 S.op (.range 68 v43) w (fun v44 w =>
 Lp fun (I9 : World → Prop) (μ9 : World → Nat) => I9 w ∧
 ∀ (wl9 : World) (junk : Nat → Value), I9 wl9 →
 S.op (.next v44 false 0) wl9 (fun v45 w =>
 S.op (.extract v45 0) w (fun v46 w =>
 Br v46 (
 S.op (.entry v44) w (fun v47 w =>
 S.op (.extract v47 0) w (fun v48 w =>
 S.op (.extract v47 1) w (fun v49 w =>
 S.op (.mapUpdate 68 v38 v48 v49) w (fun _ w =>
 I9 w ∧ μ9 w < μ9 wl9) Kp) Kp) Kp) Kp) (
 S.op (.fieldAddr 60 v5_s 0) w (fun v53 w =>
 S.op (.load 4 v53) w (fun v54 w =>
 Br v54 (
 S.op (.fieldAddr 60 v5_s 2) w (fun v56 w =>
 S.op (.load 9 v56) w (fun v57 w =>
 S.op (.blt .delete [68, 9] 0 [v38, v57]) w (fun _ w =>
 S.op (.buildSlice 55 1 [(0, v38)]) w (fun v65 w =>
 S.op (.blt .append [55, 55] 55 [s2_out, v65]) w (fun v66 w =>
 S.op (.bin .add 3 false true s13_ (.int .i64 1)) w (fun v67 w =>
 I3 v66 v67 w ∧ μ3 v66 v67 w < μ3 s2_out s13_ wl3) Kp) Kp) Kp) Kp) Kp) Kp) (
 S.op (.fieldAddr 60 v5_s 2) w (fun v59 w =>
 S.op (.load 9 v59) w (fun v60 w =>
 S.op (.fieldAddr 60 v5_s 3) w (fun v61 w =>
 S.op (.load 2 v61) w (fun v62 w =>
 S.op (.mapUpdate 68 v38 v60 v62) w (fun _ w =>
 S.op (.buildSlice 55 1 [(0, v38)]) w (fun v65 w =>
 S.op (.blt .append [55, 55] 55 [s2_out, v65]) w (fun v66 w =>
 S.op (.bin .add 3 false true s13_ (.int .i64 1)) w (fun v67 w =>
 I3 v66 v67 w ∧ μ3 v66 v67 w < μ3 s2_out s13_ wl3) Kp) Kp) Kp) Kp) Kp) Kp) Kp) Kp)) Kp) Kp)) Kp) Kp) Kp) Kp) Kp) Kp) Kp) Kp)) Kp) Kp)) Kp) Kp) Kp) Kp)) Kp) Kp) Kp)) Kp) Kp) Kp) Kp) Kp) Kp) Kp) (
 K (.tuple #[s2_out, (.bool true)]) w)) Kp) Kp) Kp) Kp
theorem vc21_eq (S : Sig) (a0 : Value) (w : World) (K : Value → World → Prop) (Kp : KP) : vc21 S a0 w K Kp = fVC S [(3, [2, 13]), (9, [])] [] Try.f21 [a0] w K Kp := by kernel_rfl
theorem vc21_calls {a0 : Value} {w : World} {K : Value → World → Prop} {Kp : KP} (h : vc21 (nice Try.prog) a0 w K Kp) : Calls Try.prog 21 #[a0] w (ret K Kp) :=
 fVC_sound (args := [a0]) nice_le follows_MVcT Try.func21 (by kernel_rfl) (Eq.mp (vc21_eq _ _ _ _ _) h)

def vc22 (S : Sig) (a0 : Value) (w : World) (K : Value → World → Prop) (Kp : KP) : Prop :=
 S.call (.fn 46) [.nilIface] w (fun v15 w =>
 S.op (.buildSlice 106 1 [(0, v15)]) w (fun v16 w =>
 S.op (.blt .len [58] 3 [a0]) w (fun v18 w =>
 Lp fun (I3 : Value → Value → World → Prop) (μ3 : Value → Value → World → Nat) => I3 v16 (.int .i64 0) w ∧
 ∀ (wl3 : World) (junk : Nat → Value) (s3_l : Value) (s19_ : Value), I3 s3_l s19_ wl3 →
 S.op (.bin .lss 3 false false s19_ v18) wl3 (fun v20 w =>
 Br v20 (
 S.op (.indexAddr 58 a0 s19_) w (fun v21 w =>
 S.op (.load 61 v21) w (fun v22 w =>
 S.op (.alloc 61) w (fun v5_s w =>
 S.op (.store 61 v5_s v22) w (fun _ w =>
 S.call (.fn 46) [.nilIface] w (fun v23 w =>
 S.op (.fieldAddr 61 v5_s 1) w (fun v24 w =>
 S.op (.load 3 v24) w (fun v25 w =>
 S.op (.bin .geq 3 false true v25 (.int .i64 0)) w (fun v26 w =>
 Br v26 (
 S.op (.fieldAddr 61 v5_s 1) w (fun v28 w =>
 S.op (.load 3 v28) w (fun v29 w =>
 S.op (.blt .len [106] 3 [s3_l]) w (fun v31 w =>
 S.op (.bin .lss 3 false false v29 v31) w (fun v32 w =>
 Br v32 (
 S.op (.fieldAddr 61 v5_s 0) w (fun v34 w =>
 S.op (.load 4 v34) w (fun v35 w =>
 Br v35 (
 S.pur (.fieldAddr 61 v5_s 1) (fun v37 =>
 S.ld (.load 3 v37) w.drew (fun v38 =>
 S.pur (.indexAddr 106 s3_l v38) (fun v39 =>
 S.ld (.load 104 v39) w.drew (fun v40 =>
 S.pur (.fieldAddr 61 v5_s 2) (fun v41 =>
 S.ld (.load 9 v41) w.drew (fun v42 =>
 S.call (.fn 47) [v40, v42] w.drew (fun v43 w =>
 S.op (.buildSlice 106 1 [(0, v43)]) w (fun v56 w =>
 S.op (.blt .append [106, 106] 106 [s3_l, v56]) w (fun v57 w =>
 S.op (.bin .add 3 false true s19_ (.int .i64 1)) w (fun v58 w =>
 I3 v57 v58 w ∧ μ3 v57 v58 w < μ3 s3_l s19_ wl3) Kp) Kp) Kp) Kp))))))) (
 S.pur (.fieldAddr 61 v5_s 1) (fun v45 =>
 S.ld (.load 3 v45) w.drew (fun v46 =>
 S.pur (.indexAddr 106 s3_l v46) (fun v47 =>
 S.ld (.load 104 v47) w.drew (fun v48 =>
 S.pur (.fieldAddr 61 v5_s 2) (fun v49 =>
 S.ld (.load 9 v49) w.drew (fun v50 =>
 S.pur (.fieldAddr 61 v5_s 3) (fun v51 =>
 S.ld (.load 2 v51) w.drew (fun v52 =>
 S.call (.fn 48) [v48, v50, v52] w.drew (fun v53 w =>
 S.op (.buildSlice 106 1 [(0, v53)]) w (fun v56 w =>
 S.op (.blt .append [106, 106] 106 [s3_l, v56]) w (fun v57 w =>
 S.op (.bin .add 3 false true s19_ (.int .i64 1)) w (fun v58 w =>
 I3 v57 v58 w ∧ μ3 v57 v58 w < μ3 s3_l s19_ wl3) Kp) Kp) Kp) Kp)))))))))) Kp) Kp) (
 S.op (.buildSlice 106 1 [(0, v23)]) w (fun v56 w =>
 S.op (.blt .append [106, 106] 106 [s3_l, v56]) w (fun v57 w =>
 S.op (.bin .add 3 false true s19_ (.int .i64 1)) w (fun v58 w =>
 I3 v57 v58 w ∧ μ3 v57 v58 w < μ3 s3_l s19_ wl3) Kp) Kp) Kp)) Kp) Kp) Kp) Kp) (
 S.op (.buildSlice 106 1 [(0, v23)]) w (fun v56 w =>
 S.op (.blt .append [106, 106] 106 [s3_l, v56]) w (fun v57 w =>
 S.op (.bin .add 3 false true s19_ (.int .i64 1)) w (fun v58 w =>
 I3 v57 v58 w ∧ μ3 v57 v58 w < μ3 s3_l s19_ wl3) Kp) Kp) Kp)) Kp) Kp) Kp) Kp) Kp) Kp) Kp) Kp) (
 S.op (.blt .len [106] 3 [s3_l]) w (fun v60 w =>
 Lp fun (I14 : Value → Value → World → Prop) (μ14 : Value → Value → World → Nat) => I14 (.slice none 0 0) (.int .i64 0) w ∧
 ∀ (wl14 : World) (junk : Nat → Value) (s7_out : Value) (s61_ : Value), I14 s7_out s61_ wl14 →
 S.op (.bin .lss 3 false false s61_ v60) wl14 (fun v62 w =>
 Br v62 (
 S.op (.indexAddr 106 s3_l s61_) w (fun v63 w =>
 S.op (.load 104 v63) w (fun v64 w =>
 S.call (.fn 49) [v64] w (fun v66 w =>
 S.op (.build 67 [(0, v66)]) w (fun v67 w =>
 S.op (.alloc 67) w (fun v10_x w =>
 S.op (.store 67 v10_x v67) w (fun _ w =>
 S.call (.fn 50) [v64] w (fun v69 w =>
 Lp fun (I18 : World → Prop) (μ18 : World → Nat) => I18 w ∧
 ∀ (wl18 : World) (junk : Nat → Value), I18 wl18 →
 S.call (.fn 51) [v69] wl18 (fun v71 w =>
 S.op (.un .not v71) w (fun v72 w =>
 Br v72 (
 S.call (.fn 52) [v69] w (fun v75 w =>
 S.op (.extract v75 0) w (fun v76 w =>
 S.op (.extract v75 1) w (fun v77 w =>
 S.op (.extract v75 2) w (fun v78 w =>
 S.pur (.fieldAddr 67 v10_x 1) (fun v79 =>
 S.ld (.load 64 v79) w.drew (fun v80 =>
 S.pur (.fieldAddr 67 v10_x 2) (fun v84 =>
 S.ld (.load 65 v84) w.drew (fun v85 =>
 (S.op (.buildSlice 64 1 [(0, v76)]) w.drew (fun v82 w =>
 S.same (.load 65 v84) v85 w ∧
 S.same (.load 64 v79) v80 w ∧
 (S.op (.blt .append [64, 64] 64 [v80, v82]) w (fun v83 w =>
 S.same (.load 65 v84) v85 w ∧
 S.pur (.fieldAddr 67 v10_x 1) (fun v89 =>
 S.op (.buildSlice 65 1 [(0, v77)]) w (fun v87 w =>
 S.same (.load 65 v84) v85 w ∧
 S.op (.blt .append [65, 65] 65 [v85, v87]) w (fun v88 w =>
 S.op (.store 64 v89 v83) w (fun _ w =>
 S.pur (.fieldAddr 67 v10_x 2) (fun v90 =>
 S.op (.store 65 v90 v88) w (fun _ w =>
 I18 w ∧ μ18 w < μ18 wl18) Kp)) Kp) Kp) Kp)) Kp) ∧ (S.op (.buildSlice 65 1 [(0, v77)]) w (fun v87 w =>
 S.same (.load 65 v84) v85 w ∧
 S.same (.load 64 v79) v80 w ∧
 S.op (.blt .append [64, 64] 64 [v80, v82]) w (fun v83 w =>
 S.same (.load 65 v84) v85 w ∧
 S.pur (.fieldAddr 67 v10_x 1) (fun v89 =>
 S.op (.blt .append [65, 65] 65 [v85, v87]) w (fun v88 w =>
 S.op (.store 64 v89 v83) w (fun _ w =>
 S.pur (.fieldAddr 67 v10_x 2) (fun v90 =>
 S.op (.store 65 v90 v88) w (fun _ w =>
 I18 w ∧ μ18 w < μ18 wl18) Kp)) Kp) Kp)) Kp) Kp)) Kp) ∧ (S.op (.buildSlice 65 1 [(0, v77)]) w.drew (fun v87 w =>
 S.same (.load 65 v84) v85 w ∧
 S.same (.load 64 v79) v80 w ∧
 S.op (.buildSlice 64 1 [(0, v76)]) w (fun v82 w =>
 S.same (.load 65 v84) v85 w ∧
 S.same (.load 64 v79) v80 w ∧
 S.op (.blt .append [64, 64] 64 [v80, v82]) w (fun v83 w =>
 S.same (.load 65 v84) v85 w ∧
 S.pur (.fieldAddr 67 v10_x 1) (fun v89 =>
 S.op (.blt .append [65, 65] 65 [v85, v87]) w (fun v88 w =>
 S.op (.store 64 v89 v83) w (fun _ w =>
 S.pur (.fieldAddr 67 v10_x 2) (fun v90 =>
 S.op (.store 65 v90 v88) w (fun _ w =>
 I18 w ∧ μ18 w < μ18 wl18) Kp)) Kp) Kp)) Kp) Kp) Kp)))))) Kp) Kp) Kp) Kp) (
 S.op (.load 67 v10_x) w (fun v92 w =>
 S.op (.buildSlice 62 1 [(0, v92)]) w (fun v93 w =>
 S.op (.blt .append [62, 62] 62 [s7_out, v93]) w (fun v94 w =>
 S.op (.bin .add 3 false true s61_ (.int .i64 1)) w (fun v95 w =>
 I14 v94 v95 w ∧ μ14 v94 v95 w < μ14 s7_out s61_ wl14) Kp) Kp) Kp) Kp)) Kp) Kp) Kp) Kp) Kp) Kp) Kp) Kp) Kp) (
 K s7_out w)) Kp) Kp)) Kp) Kp) Kp) Kp
theorem vc22_eq (S : Sig) (a0 : Value) (w : World) (K : Value → World → Prop) (Kp : KP) : vc22 S a0 w K Kp = fVC S [(3, [3, 19]), (14, [7, 61]), (18, [])] [] Try.f22 [a0] w K Kp := by kernel_rfl
theorem vc22_calls {a0 : Value} {w : World} {K : Value → World → Prop} {Kp : KP} (h : vc22 (nice Try.prog) a0 w K Kp) : Calls Try.prog 22 #[a0] w (ret K Kp) :=
 fVC_sound (args := [a0]) nice_le follows_MVcT Try.func22 (by kernel_rfl) (Eq.mp (vc22_eq _ _ _ _ _) h)

def vc45 (S : Sig) (a0 : Value) (w : World) (K : Value → World → Prop) (Kp : KP) : Prop :=
 S.op (.box 60 a0) w (fun v1_x w =>
 S.op (.fieldAddr 60 v1_x 2) w (fun v3 w =>
 S.op (.load 9 v3) w (fun v4 w =>
 S.op (.blt .len [9] 3 [v4]) w (fun v5 w =>
 S.op (.bin .gtr 3 false true v5 (.int .i64 2147483647)) w (fun v6 w =>
 Br v6 (
 K (.bool false) w) (
 K (.bool true) w)) Kp) Kp) Kp) Kp) Kp
theorem vc45_eq (S : Sig) (a0 : Value) (w : World) (K : Value → World → Prop) (Kp : KP) : vc45 S a0 w K Kp = fVC S [] [] Try.f45 [a0] w K Kp := by kernel_rfl
theorem vc45_calls {a0 : Value} {w : World} {K : Value → World → Prop} {Kp : KP} (h : vc45 (nice Try.prog) a0 w K Kp) : Calls Try.prog 45 #[a0] w (ret K Kp) :=
 fVC_sound (args := [a0]) nice_le follows_MVcT Try.func45 (by kernel_rfl) (Eq.mp (vc45_eq _ _ _ _ _) h)

def vc46 (S : Sig) (a0 : Value) (w : World) (K : Value → World → Prop) (Kp : KP) : Prop :=
 S.op (.build 163 [(2, a0)]) w (fun v4 w =>
 S.op (.box 163 v4) w (fun v5 w =>
 K v5 w) Kp) Kp
theorem vc46_eq (S : Sig) (a0 : Value) (w : World) (K : Value → World → Prop) (Kp : KP) : vc46 S a0 w K Kp = fVC S [] [] Try.f46 [a0] w K Kp := by kernel_rfl
theorem vc46_calls {a0 : Value} {w : World} {K : Value → World → Prop} {Kp : KP} (h : vc46 (nice Try.prog) a0 w K Kp) : Calls Try.prog 46 #[a0] w (ret K Kp) :=
 fVC_sound (args := [a0]) nice_le follows_MVcT Try.func46 (by kernel_rfl) (Eq.mp (vc46_eq _ _ _ _ _) h)

def vc47 (S : Sig) (a0 a1 : Value) (w : World) (K : Value → World → Prop) (Kp : KP) : Prop :=
 S.call (.fn 73) [a0, a1, (.bool false)] w (fun v7 w =>
 K v7 w) Kp
theorem vc47_eq (S : Sig) (a0 a1 : Value) (w : World) (K : Value → World → Prop) (Kp : KP) : vc47 S a0 a1 w K Kp = fVC S [] [] Try.f47 [a0, a1] w K Kp := by kernel_rfl
theorem vc47_calls {a0 a1 : Value} {w : World} {K : Value → World → Prop} {Kp : KP} (h : vc47 (nice Try.prog) a0 a1 w K Kp) : Calls Try.prog 47 #[a0, a1] w (ret K Kp) :=
 fVC_sound (args := [a0, a1]) nice_le follows_MVcT Try.func47 (by kernel_rfl) (Eq.mp (vc47_eq _ _ _ _ _ _) h)

def vc48 (S : Sig) (a0 a1 a2 : Value) (w : World) (K : Value → World → Prop) (Kp : KP) : Prop :=
 S.call (.fn 74) [a0, a1, a2, (.bool false)] w (fun v10 w =>
 K v10 w) Kp
theorem vc48_eq (S : Sig) (a0 a1 a2 : Value) (w : World) (K : Value → World → Prop) (Kp : KP) : vc48 S a0 a1 a2 w K Kp = fVC S [] [] Try.f48 [a0, a1, a2] w K Kp := by kernel_rfl
theorem vc48_calls {a0 a1 a2 : Value} {w : World} {K : Value → World → Prop} {Kp : KP} (h : vc48 (nice Try.prog) a0 a1 a2 w K Kp) : Calls Try.prog 48 #[a0, a1, a2] w (ret K Kp) :=
 fVC_sound (args := [a0, a1, a2]) nice_le follows_MVcT Try.func48 (by kernel_rfl) (Eq.mp (vc48_eq _ _ _ _ _ _ _) h)

def vc49 (S : Sig) (a0 : Value) (w : World) (K : Value → World → Prop) (Kp : KP) : Prop :=
 S.op (.nilCheck a0) w (fun v4 w =>
 S.op (.fieldAddr 163 v4 0) w (fun v5 w =>
 S.op (.load 3 v5) w (fun v6 w =>
 K v6 w) Kp) Kp) Kp
theorem vc49_eq (S : Sig) (a0 : Value) (w : World) (K : Value → World → Prop) (Kp : KP) : vc49 S a0 w K Kp = fVC S [] [] Try.f49 [a0] w K Kp := by kernel_rfl
theorem vc49_calls {a0 : Value} {w : World} {K : Value → World → Prop} {Kp : KP} (h : vc49 (nice Try.prog) a0 w K Kp) : Calls Try.prog 49 #[a0] w (ret K Kp) :=
 fVC_sound (args := [a0]) nice_le follows_MVcT Try.func49 (by kernel_rfl) (Eq.mp (vc49_eq _ _ _ _ _) h)

def vc50 (S : Sig) (a0 : Value) (w : World) (K : Value → World → Prop) (Kp : KP) : Prop :=
 S.op (.build 170 [(0, a0)]) w (fun v5 w =>
 S.op (.box 170 v5) w (fun v6 w =>
 S.call (.fn 75) [v6] w (fun v8 w =>
 K v6 w) Kp) Kp) Kp
theorem vc50_eq (S : Sig) (a0 : Value) (w : World) (K : Value → World → Prop) (Kp : KP) : vc50 S a0 w K Kp = fVC S [] [] Try.f50 [a0] w K Kp := by kernel_rfl
theorem vc50_calls {a0 : Value} {w : World} {K : Value → World → Prop} {Kp : KP} (h : vc50 (nice Try.prog) a0 w K Kp) : Calls Try.prog 50 #[a0] w (ret K Kp) :=
 fVC_sound (args := [a0]) nice_le follows_MVcT Try.func50 (by kernel_rfl) (Eq.mp (vc50_eq _ _ _ _ _) h)

def vc51 (S : Sig) (a0 : Value) (w : World) (K : Value → World → Prop) (Kp : KP) : Prop :=
 S.op (.nilCheck a0) w (fun v4 w =>
 S.op (.fieldAddr 170 v4 2) w (fun v5 w =>
 S.op (.load 3 v5) w (fun v6 w =>
 S.op (.bin .eql 3 false true v6 (.int .i64 (-1))) w (fun v7 w =>
 K v7 w) Kp) Kp) Kp) Kp
theorem vc51_eq (S : Sig) (a0 : Value) (w : World) (K : Value → World → Prop) (Kp : KP) : vc51 S a0 w K Kp = fVC S [] [] Try.f51 [a0] w K Kp := by kernel_rfl
theorem vc51_calls {a0 : Value} {w : World} {K : Value → World → Prop} {Kp : KP} (h : vc51 (nice Try.prog) a0 w K Kp) : Calls Try.prog 51 #[a0] w (ret K Kp) :=
 fVC_sound (args := [a0]) nice_le follows_MVcT Try.func51 (by kernel_rfl) (Eq.mp (vc51_eq _ _ _ _ _) h)

def vc52 (S : Sig) (a0 : Value) (w : World) (K : Value → World → Prop) (Kp : KP) : Prop :=
 S.call (.fn 51) [a0] w (fun v12 w =>
 Br v12 (
 K (.tuple #[(.string { data := #[] }), (.int .i64 0), (.bool false)]) w) (
 S.pur (.nilCheck a0) (fun v17 =>
 S.pur (.fieldAddr 170 v17 2) (fun v18 =>
 S.ld (.load 3 v18) w.drew (fun v19 =>
 S.pur (.nilCheck a0) (fun v20 =>
 S.pur (.fieldAddr 170 v20 1) (fun v21 =>
 S.pur (.indexAddr 168 v21 v19) (fun v22 =>
 S.op (.nilCheck v22) w.drew (fun v24 w =>
 S.op (.fieldAddr 167 v24 0) w (fun v25 w =>
 S.op (.load 161 v25) w (fun v26 w =>
 S.op (.tassert v26 161 172 true) w (fun v27 w =>
 S.op (.extract v27 1) w (fun v28 w =>
 S.op (.extract v27 0) w (fun v29 w =>
 Br v28 (
 S.pur (.nilCheck v29) (fun v31 =>
 S.pur (.fieldAddr 178 v31 0) (fun v32 =>
 S.ld (.load 176 v32) w.drew (fun v33 =>
 S.pur (.nilCheck v22) (fun v35 =>
 S.pur (.fieldAddr 167 v35 1) (fun v36 =>
 S.ld (.load 3 v36) w.drew (fun v37 =>
 S.pur (.indexAddr 176 v33 v37) (fun v38 =>
 S.pur (.nilCheck v38) (fun v40 =>
 S.pur (.fieldAddr 175 v40 0) (fun v41 =>
 S.ld (.load 9 v41) w.drew.drew (fun v42 =>
 S.pur (.nilCheck v38) (fun v44 =>
 S.pur (.fieldAddr 175 v44 1) (fun v45 =>
 S.ld (.load 2 v45) w.drew.drew (fun v46 =>
 S.same (.load 2 v45) v46 w.drew.drew ∧
 S.call (.fn 76) [a0] w.drew.drew (fun v79 w =>
 K (.tuple #[v42, v46, (.bool true)]) w) Kp)))))))))))))) (
 S.op (.tassert v26 161 179 true) w (fun v47 w =>
 S.op (.extract v47 1) w (fun v48 w =>
 S.op (.extract v47 0) w (fun v49 w =>
 Br v48 (
 S.pur (.nilCheck v49) (fun v51 =>
 S.pur (.fieldAddr 181 v51 1) (fun v52 =>
 S.ld (.load 9 v52) w.drew (fun v53 =>
 S.pur (.nilCheck v49) (fun v55 =>
 S.pur (.fieldAddr 181 v55 2) (fun v56 =>
 S.ld (.load 2 v56) w.drew (fun v57 =>
 S.same (.load 2 v56) v57 w.drew ∧
 S.call (.fn 76) [a0] w.drew (fun v79 w =>
 K (.tuple #[v53, v57, (.bool true)]) w) Kp))))))) (
 S.op (.tassert v26 161 182 true) w (fun v58 w =>
 S.op (.extract v58 1) w (fun v59 w =>
 S.op (.extract v58 0) w (fun v60 w =>
 Br v59 (
 S.pur (.nilCheck v60) (fun v62 =>
 S.pur (.fieldAddr 184 v62 1) (fun v63 =>
 S.ld (.load 176 v63) w.drew (fun v64 =>
 S.pur (.nilCheck v22) (fun v66 =>
 S.pur (.fieldAddr 167 v66 1) (fun v67 =>
 S.ld (.load 3 v67) w.drew (fun v68 =>
 S.pur (.indexAddr 176 v64 v68) (fun v69 =>
 S.pur (.nilCheck v69) (fun v71 =>
 S.pur (.fieldAddr 175 v71 0) (fun v72 =>
 S.ld (.load 9 v72) w.drew.drew (fun v73 =>
 S.pur (.nilCheck v69) (fun v75 =>
 S.pur (.fieldAddr 175 v75 1) (fun v76 =>
 S.ld (.load 2 v76) w.drew.drew (fun v77 =>
 S.same (.load 2 v76) v77 w.drew.drew ∧
 S.call (.fn 76) [a0] w.drew.drew (fun v79 w =>
 K (.tuple #[v73, v77, (.bool true)]) w) Kp)))))))))))))) (
 S.call (.fn 76) [a0] w (fun v79 w =>
 K (.tuple #[(.string { data := #[] }), (.int .i64 0), (.bool true)]) w) Kp)) Kp) Kp) Kp)) Kp) Kp) Kp)) Kp) Kp) Kp) Kp) Kp) Kp)))))))) Kp
theorem vc52_eq (S : Sig) (a0 : Value) (w : World) (K : Value → World → Prop) (Kp : KP) : vc52 S a0 w K Kp = fVC S [] [] Try.f52 [a0] w K Kp := by kernel_rfl
theorem vc52_calls {a0 : Value} {w : World} {K : Value → World → Prop} {Kp : KP} (h : vc52 (nice Try.prog) a0 w K Kp) : Calls Try.prog 52 #[a0] w (ret K Kp) :=
 fVC_sound (args := [a0]) nice_le follows_MVcT Try.func52 (by kernel_rfl) (Eq.mp (vc52_eq _ _ _ _ _) h)

def vc73 (S : Sig) (a0 a1 a2 : Value) (w : World) (K : Value → World → Prop) (Kp : KP) : Prop :=
 S.op (.nilCheck a0) w (fun v11 w =>
 S.op (.fieldAddr 163 v11 1) w (fun v12 w =>
 S.op (.load 161 v12) w (fun v13 w =>
 S.op (.bin .eql 161 false true v13 .nilIface) w (fun v14 w =>
 Br v14 (
 K a0 w) (
 S.op (.alloc 4) w (fun v7_resized w =>
 S.pur (.nilCheck a0) (fun v17 =>
 S.pur (.fieldAddr 163 v17 1) (fun v18 =>
 S.ld (.load 161 v18) w.drew (fun v19 =>
 S.pur (.nilCheck a0) (fun v22 =>
 S.pur (.fieldAddr 163 v22 2) (fun v23 =>
 S.ld (.load 159 v23) w.drew (fun v24 =>
 S.pur (.nilCheck a0) (fun v28 =>
 S.pur (.fieldAddr 163 v28 2) (fun v29 =>
 S.ld (.load 159 v29) w.drew (fun v30 =>
 S.pur (.nilCheck v19) (fun v32 =>
 S.call (.inv v24 "Hash") [a1] w.drew (fun v26 w =>
 S.same (.load 159 v29) v30 w ∧
 S.same (.load 161 v18) v19 w ∧
 S.call (.inv v19 "pub-bracken/pub/immutable.delete") [a1, (.int .u64 0), v26, v30, a2, v7_resized] w (fun v34 w =>
 S.op (.load 4 v7_resized) w (fun v35 w =>
 S.op (.un .not v35) w (fun v36 w =>
 Br v36 (
 K a0 w) (
 S.op (.un .not a2) w (fun v40 w =>
 Br v40 (
 S.call (.fn 86) [a0] w (fun v42 w =>
 S.op (.nilCheck a0) w (fun v45 w =>
 S.op (.fieldAddr 163 v45 0) w (fun v46 w =>
 S.op (.load 3 v46) w (fun v47 w =>
 S.op (.bin .sub 3 false true v47 (.int .i64 1)) w (fun v48 w =>
 S.op (.nilCheck v42) w (fun v49 w =>
 S.op (.fieldAddr 163 v49 0) w (fun v50 w =>
 S.op (.store 3 v50 v48) w (fun _ w =>
 S.op (.nilCheck v42) w (fun v53 w =>
 S.op (.fieldAddr 163 v53 1) w (fun v54 w =>
 S.op (.store 161 v54 v34) w (fun _ w =>
 K v42 w) Kp) Kp) Kp) Kp) Kp) Kp) Kp) Kp) Kp) Kp) Kp) (
 S.op (.nilCheck a0) w (fun v45 w =>
 S.op (.fieldAddr 163 v45 0) w (fun v46 w =>
 S.op (.load 3 v46) w (fun v47 w =>
 S.op (.bin .sub 3 false true v47 (.int .i64 1)) w (fun v48 w =>
 S.op (.nilCheck a0) w (fun v49 w =>
 S.op (.fieldAddr 163 v49 0) w (fun v50 w =>
 S.op (.store 3 v50 v48) w (fun _ w =>
 S.op (.nilCheck a0) w (fun v53 w =>
 S.op (.fieldAddr 163 v53 1) w (fun v54 w =>
 S.op (.store 161 v54 v34) w (fun _ w =>
 K a0 w) Kp) Kp) Kp) Kp) Kp) Kp) Kp) Kp) Kp) Kp)) Kp)) Kp) Kp) Kp) Kp))))))))))) Kp)) Kp) Kp) Kp) Kp
theorem vc73_eq (S : Sig) (a0 a1 a2 : Value) (w : World) (K : Value → World → Prop) (Kp : KP) : vc73 S a0 a1 a2 w K Kp = fVC S [] [] Try.f73 [a0, a1, a2] w K Kp := by kernel_rfl
theorem vc73_calls {a0 a1 a2 : Value} {w : World} {K : Value → World → Prop} {Kp : KP} (h : vc73 (nice Try.prog) a0 a1 a2 w K Kp) : Calls Try.prog 73 #[a0, a1, a2] w (ret K Kp) :=
 fVC_sound (args := [a0, a1, a2]) nice_le follows_MVcT Try.func73 (by kernel_rfl) (Eq.mp (vc73_eq _ _ _ _ _ _ _) h)

def vc74 (S : Sig) (a0 a1 a2 a3 : Value) (w : World) (K : Value → World → Prop) (Kp : KP) : Prop :=
 S.op (.nilCheck a0) w (fun v13 w =>
 S.op (.fieldAddr 163 v13 2) w (fun v14 w =>
 S.op (.load 159 v14) w (fun v15 w =>
 Jn fun (J4 : Value → World → Prop) =>
 (S.op (.bin .eql 159 false true v15 .nilIface) w (fun v17 w =>
 Br v17 (
 S.call (.fn 87) [a1] w (fun v19 w =>
 J4 v19 w) Kp) (
 J4 v15 w)) Kp) ∧
 (∀ (w : World) (junk : Nat → Value) (j9_hasher : Value), J4 j9_hasher w →
 Jn fun (J7 : Value → World → Prop) =>
 (S.op (.un .not a3) w (fun v22 w =>
 Br v22 (
 S.call (.fn 86) [a0] w (fun v24 w =>
 J7 v24 w) Kp) (
 J7 a0 w)) Kp) ∧
 (∀ (w : World) (junk : Nat → Value) (j10_other : Value), J7 j10_other w →
 S.op (.nilCheck j10_other) w (fun v27 w =>
 S.op (.fieldAddr 163 v27 2) w (fun v28 w =>
 S.op (.store 159 v28 j9_hasher) w (fun _ w =>
 S.op (.nilCheck a0) w (fun v30 w =>
 S.op (.fieldAddr 163 v30 1) w (fun v31 w =>
 S.op (.load 161 v31) w (fun v32 w =>
 S.op (.bin .eql 161 false true v32 .nilIface) w (fun v33 w =>
 Br v33 (
 S.op (.nilCheck j10_other) w (fun v35 w =>
 S.op (.fieldAddr 163 v35 0) w (fun v36 w =>
 S.op (.store 3 v36 (.int .i64 1)) w (fun _ w =>
 S.op (.build 175 [(0, a1), (1, a2)]) w (fun v40 w =>
 S.op (.buildSlice 176 1 [(0, v40)]) w (fun v41 w =>
 S.op (.build 178 [(0, v41)]) w (fun v42 w =>
 S.op (.box 178 v42) w (fun v43 w =>
 S.op (.mkIface 172 v43) w (fun v44 w =>
 S.op (.nilCheck j10_other) w (fun v45 w =>
 S.op (.fieldAddr 163 v45 1) w (fun v46 w =>
 S.op (.store 161 v46 v44) w (fun _ w =>
 K j10_other w) Kp) Kp) Kp) Kp) Kp) Kp) Kp) Kp) Kp) Kp) Kp) (
 S.op (.alloc 4) w (fun v11_resized w =>
 S.pur (.nilCheck a0) (fun v50 =>
 S.pur (.fieldAddr 163 v50 1) (fun v51 =>
 S.ld (.load 161 v51) w.drew (fun v52 =>
 S.pur (.nilCheck v52) (fun v60 =>
 S.call (.inv j9_hasher "Hash") [a1] w.drew (fun v57 w =>
 S.same (.load 161 v51) v52 w ∧
 S.call (.inv v52 "pub-bracken/pub/immutable.set") [a1, a2, (.int .u64 0), v57, j9_hasher, a3, v11_resized] w (fun v62 w =>
 S.pur (.nilCheck j10_other) (fun v63 =>
 S.pur (.fieldAddr 163 v63 1) (fun v64 =>
 S.op (.store 161 v64 v62) w (fun _ w =>
 S.op (.load 4 v11_resized) w (fun v65 w =>
 Br v65 (
 S.op (.nilCheck j10_other) w (fun v67 w =>
 S.op (.fieldAddr 163 v67 0) w (fun v68 w =>
 S.op (.load 3 v68) w (fun v69 w =>
 S.op (.bin .add 3 false true v69 (.int .i64 1)) w (fun v70 w =>
 S.op (.nilCheck j10_other) w (fun v71 w =>
 S.op (.fieldAddr 163 v71 0) w (fun v72 w =>
 S.op (.store 3 v72 v70) w (fun _ w =>
 K j10_other w) Kp) Kp) Kp) Kp) Kp) Kp) Kp) (
 K j10_other w)) Kp) Kp))) Kp) Kp))))) Kp)) Kp) Kp) Kp) Kp) Kp) Kp) Kp))) Kp) Kp) Kp
theorem vc74_eq (S : Sig) (a0 a1 a2 a3 : Value) (w : World) (K : Value → World → Prop) (Kp : KP) : vc74 S a0 a1 a2 a3 w K Kp = fVC S [] [(4, [9]), (7, [10])] Try.f74 [a0, a1, a2, a3] w K Kp := by kernel_rfl
theorem vc74_calls {a0 a1 a2 a3 : Value} {w : World} {K : Value → World → Prop} {Kp : KP} (h : vc74 (nice Try.prog) a0 a1 a2 a3 w K Kp) : Calls Try.prog 74 #[a0, a1, a2, a3] w (ret K Kp) :=
 fVC_sound (args := [a0, a1, a2, a3]) nice_le follows_MVcT Try.func74 (by kernel_rfl) (Eq.mp (vc74_eq _ _ _ _ _ _ _ _) h)

def vc75 (S : Sig) (a0 : Value) (w : World) (K : Value → World → Prop) (Kp : KP) : Prop :=
 S.op (.nilCheck a0) w (fun v3 w =>
 S.op (.fieldAddr 170 v3 0) w (fun v4 w =>
 S.op (.load 104 v4) w (fun v5 w =>
 S.op (.nilCheck v5) w (fun v6 w =>
 S.op (.fieldAddr 163 v6 1) w (fun v7 w =>
 S.op (.load 161 v7) w (fun v8 w =>
 S.op (.bin .eql 161 false true v8 .nilIface) w (fun v9 w =>
 Br v9 (
 S.op (.nilCheck a0) w (fun v11 w =>
 S.op (.fieldAddr 170 v11 2) w (fun v12 w =>
 S.op (.store 3 v12 (.int .i64 (-1))) w (fun _ w =>
 K (.tuple #[]) w) Kp) Kp) Kp) (
 S.pur (.nilCheck a0) (fun v15 =>
 S.pur (.fieldAddr 170 v15 0) (fun v16 =>
 S.ld (.load 104 v16) w.drew (fun v17 =>
 S.pur (.nilCheck v17) (fun v18 =>
 S.pur (.fieldAddr 163 v18 1) (fun v19 =>
 S.ld (.load 161 v19) w.drew (fun v20 =>
 S.pur (.build 167 [(0, v20)]) (fun v21 =>
 S.pur (.nilCheck a0) (fun v22 =>
 S.pur (.fieldAddr 170 v22 1) (fun v23 =>
 S.pur (.indexAddr 168 v23 (.int .i64 0)) (fun v24 =>
 S.op (.store 167 v24 v21) w.drew (fun _ w =>
 S.op (.nilCheck a0) w (fun v26 w =>
 S.op (.fieldAddr 170 v26 2) w (fun v27 w =>
 S.op (.store 3 v27 (.int .i64 0)) w (fun _ w =>
 S.call (.fn 88) [a0] w (fun v29 w =>
 K (.tuple #[]) w) Kp) Kp) Kp) Kp) Kp)))))))))))) Kp) Kp) Kp) Kp) Kp) Kp) Kp
theorem vc75_eq (S : Sig) (a0 : Value) (w : World) (K : Value → World → Prop) (Kp : KP) : vc75 S a0 w K Kp = fVC S [] [] Try.f75 [a0] w K Kp := by kernel_rfl
theorem vc75_calls {a0 : Value} {w : World} {K : Value → World → Prop} {Kp : KP} (h : vc75 (nice Try.prog) a0 w K Kp) : Calls Try.prog 75 #[a0] w (ret K Kp) :=
 fVC_sound (args := [a0]) nice_le follows_MVcT Try.func75 (by kernel_rfl) (Eq.mp (vc75_eq _ _ _ _ _) h)

def vc76 (S : Sig) (a0 : Value) (w : World) (K : Value → World → Prop) (Kp : KP) : Prop :=
 Lp fun (I0 : World → Prop) (μ0 : World → Nat) => I0 w ∧
 ∀ (wl0 : World) (junk : Nat → Value), I0 wl0 →
 S.op (.nilCheck a0) wl0 (fun v10 w =>
 S.op (.fieldAddr 170 v10 2) w (fun v11 w =>
 S.op (.load 3 v11) w (fun v12 w =>
 S.op (.bin .geq 3 false true v12 (.int .i64 0)) w (fun v13 w =>
 Br v13 (
 Jn fun (J1 : World → Prop) =>
 (S.pur (.nilCheck a0) (fun v23 =>
 S.pur (.fieldAddr 170 v23 2) (fun v24 =>
 S.ld (.load 3 v24) w.drew (fun v25 =>
 S.pur (.nilCheck a0) (fun v26 =>
 S.pur (.fieldAddr 170 v26 1) (fun v27 =>
 S.pur (.indexAddr 168 v27 v25) (fun v28 =>
 S.op (.nilCheck v28) w.drew (fun v30 w =>
 S.op (.fieldAddr 167 v30 0) w (fun v31 w =>
 S.op (.load 161 v31) w (fun v32 w =>
 S.op (.tassert v32 161 172 true) w (fun v33 w =>
 S.op (.extract v33 1) w (fun v34 w =>
 S.op (.extract v33 0) w (fun v35 w =>
 Br v34 (
 S.pur (.nilCheck v28) (fun v37 =>
 S.pur (.fieldAddr 167 v37 1) (fun v38 =>
 S.ld (.load 3 v38) w.drew (fun v39 =>
 S.pur (.nilCheck v35) (fun v41 =>
 S.pur (.fieldAddr 178 v41 0) (fun v42 =>
 S.ld (.load 176 v42) w.drew (fun v43 =>
 S.ld (.blt .len [176] 3 [v43]) w.drew (fun v44 =>
 S.pur (.bin .sub 3 false true v44 (.int .i64 1)) (fun v45 =>
 S.pur (.bin .lss 3 false false v39 v45) (fun v46 =>
 Br v46 (
 S.op (.nilCheck v28) w.drew (fun v48 w =>
 S.op (.fieldAddr 167 v48 1) w (fun v49 w =>
 S.op (.load 3 v49) w (fun v50 w =>
 S.op (.bin .add 3 false true v50 (.int .i64 1)) w (fun v51 w =>
 S.op (.nilCheck v28) w (fun v52 w =>
 S.op (.fieldAddr 167 v52 1) w (fun v53 w =>
 S.op (.store 3 v53 v51) w (fun _ w =>
 K (.tuple #[]) w) Kp) Kp) Kp) Kp) Kp) Kp) Kp) (
 J1 w.drew))))))))))) (
 S.op (.tassert v32 161 213 true) w (fun v54 w =>
 S.op (.extract v54 1) w (fun v55 w =>
 S.op (.extract v54 0) w (fun v56 w =>
 Br v55 (
 S.pur (.nilCheck v28) (fun v58 =>
 S.pur (.fieldAddr 167 v58 1) (fun v59 =>
 S.ld (.load 3 v59) w.drew (fun v60 =>
 S.pur (.nilCheck v56) (fun v62 =>
 S.pur (.fieldAddr 216 v62 1) (fun v63 =>
 S.ld (.load 214 v63) w.drew (fun v64 =>
 S.ld (.blt .len [214] 3 [v64]) w.drew (fun v65 =>
 S.pur (.bin .sub 3 false true v65 (.int .i64 1)) (fun v66 =>
 S.pur (.bin .lss 3 false false v60 v66) (fun v67 =>
 Br v67 (
 S.op (.nilCheck v28) w.drew (fun v69 w =>
 S.op (.fieldAddr 167 v69 1) w (fun v70 w =>
 S.op (.load 3 v70) w (fun v71 w =>
 S.op (.bin .add 3 false true v71 (.int .i64 1)) w (fun v72 w =>
 S.op (.nilCheck v28) w (fun v73 w =>
 S.op (.fieldAddr 167 v73 1) w (fun v74 w =>
 S.op (.store 3 v74 v72) w (fun _ w =>
 S.pur (.nilCheck a0) (fun v77 =>
 S.pur (.fieldAddr 170 v77 2) (fun v78 =>
 S.ld (.load 3 v78) w.drew (fun v79 =>
 S.pur (.bin .add 3 false true v79 (.int .i64 1)) (fun v80 =>
 S.pur (.nilCheck v56) (fun v82 =>
 S.pur (.fieldAddr 216 v82 1) (fun v83 =>
 S.ld (.load 214 v83) w.drew (fun v84 =>
 S.pur (.nilCheck v28) (fun v86 =>
 S.pur (.fieldAddr 167 v86 1) (fun v87 =>
 S.ld (.load 3 v87) w.drew (fun v88 =>
 S.pur (.indexAddr 214 v84 v88) (fun v89 =>
 S.ld (.load 161 v89) w.drew (fun v90 =>
 S.pur (.nilCheck a0) (fun v91 =>
 S.pur (.fieldAddr 170 v91 1) (fun v92 =>
 S.pur (.indexAddr 168 v92 v80) (fun v93 =>
 S.pur (.fieldAddr 167 v93 0) (fun v94 =>
 S.op (.store 161 v94 v90) w.drew (fun _ w =>
 S.op (.nilCheck a0) w (fun v96 w =>
 S.op (.fieldAddr 170 v96 2) w (fun v97 w =>
 S.op (.load 3 v97) w (fun v98 w =>
 S.op (.bin .add 3 false true v98 (.int .i64 1)) w (fun v99 w =>
 S.op (.nilCheck a0) w (fun v100 w =>
 S.op (.fieldAddr 170 v100 2) w (fun v101 w =>
 S.op (.store 3 v101 v99) w (fun _ w =>
 S.call (.fn 88) [a0] w (fun v103 w =>
 K (.tuple #[]) w) Kp) Kp) Kp) Kp) Kp) Kp) Kp) Kp) Kp))))))))))))))))) Kp) Kp) Kp) Kp) Kp) Kp) Kp) (
 J1 w.drew))))))))))) (
 S.op (.tassert v32 161 217 true) w (fun v104 w =>
 S.op (.extract v104 1) w (fun v105 w =>
 S.op (.extract v104 0) w (fun v106 w =>
 Br v105 (
 S.op (.nilCheck v28) w (fun v108 w =>
 S.op (.fieldAddr 167 v108 1) w (fun v109 w =>
 S.op (.load 3 v109) w (fun v110 w =>
 S.op (.bin .add 3 false true v110 (.int .i64 1)) w (fun v111 w =>
 Lp fun (I18 : Value → World → Prop) (μ18 : Value → World → Nat) => I18 v111 w ∧
 ∀ (wl18 : World) (junk : Nat → Value) (s6_i : Value), I18 s6_i wl18 →
 S.op (.bin .lss 3 false true s6_i (.int .i64 32)) wl18 (fun v113 w =>
 Br v113 (
 S.op (.nilCheck v106) w (fun v118 w =>
 S.op (.fieldAddr 220 v118 1) w (fun v119 w =>
 S.op (.indexAddr 218 v119 s6_i) w (fun v120 w =>
 S.op (.load 161 v120) w (fun v121 w =>
 S.op (.bin .neq 161 false true v121 .nilIface) w (fun v122 w =>
 Br v122 (
 S.op (.nilCheck v28) w (fun v125 w =>
 S.op (.fieldAddr 167 v125 1) w (fun v126 w =>
 S.op (.store 3 v126 s6_i) w (fun _ w =>
 S.pur (.nilCheck a0) (fun v129 =>
 S.pur (.fieldAddr 170 v129 2) (fun v130 =>
 S.ld (.load 3 v130) w.drew (fun v131 =>
 S.pur (.bin .add 3 false true v131 (.int .i64 1)) (fun v132 =>
 S.pur (.nilCheck v28) (fun v135 =>
 S.pur (.fieldAddr 167 v135 1) (fun v136 =>
 S.ld (.load 3 v136) w.drew (fun v137 =>
 S.pur (.nilCheck v106) (fun v138 =>
 S.pur (.fieldAddr 220 v138 1) (fun v139 =>
 S.pur (.indexAddr 218 v139 v137) (fun v140 =>
 S.ld (.load 161 v140) w.drew (fun v141 =>
 S.pur (.nilCheck a0) (fun v142 =>
 S.pur (.fieldAddr 170 v142 1) (fun v143 =>
 S.pur (.indexAddr 168 v143 v132) (fun v144 =>
 S.pur (.fieldAddr 167 v144 0) (fun v145 =>
 S.op (.store 161 v145 v141) w.drew (fun _ w =>
 S.op (.nilCheck a0) w (fun v147 w =>
 S.op (.fieldAddr 170 v147 2) w (fun v148 w =>
 S.op (.load 3 v148) w (fun v149 w =>
 S.op (.bin .add 3 false true v149 (.int .i64 1)) w (fun v150 w =>
 S.op (.nilCheck a0) w (fun v151 w =>
 S.op (.fieldAddr 170 v151 2) w (fun v152 w =>
 S.op (.store 3 v152 v150) w (fun _ w =>
 S.call (.fn 88) [a0] w (fun v154 w =>
 K (.tuple #[]) w) Kp) Kp) Kp) Kp) Kp) Kp) Kp) Kp) Kp)))))))))))))))) Kp) Kp) Kp) (
 S.op (.bin .add 3 false true s6_i (.int .i64 1)) w (fun v115 w =>
 I18 v115 w ∧ μ18 v115 w < μ18 s6_i wl18) Kp)) Kp) Kp) Kp) Kp) Kp) (
 J1 w)) Kp) Kp) Kp) Kp) Kp) (
 S.op (.tassert v32 161 179 true) w (fun v155 w =>
 S.op (.extract v155 1) w (fun v156 w =>
 S.op (.extract v155 0) w (fun v157 w =>
 Br v156 (
 J1 w) (
 S.op (.tassert v32 161 182 true) w (fun v158 w =>
 S.op (.extract v158 1) w (fun v159 w =>
 S.op (.extract v158 0) w (fun v160 w =>
 Br v159 (
 S.pur (.nilCheck v28) (fun v162 =>
 S.pur (.fieldAddr 167 v162 1) (fun v163 =>
 S.ld (.load 3 v163) w.drew (fun v164 =>
 S.pur (.nilCheck v160) (fun v166 =>
 S.pur (.fieldAddr 184 v166 1) (fun v167 =>
 S.ld (.load 176 v167) w.drew (fun v168 =>
 S.ld (.blt .len [176] 3 [v168]) w.drew (fun v169 =>
 S.pur (.bin .sub 3 false true v169 (.int .i64 1)) (fun v170 =>
 S.pur (.bin .lss 3 false false v164 v170) (fun v171 =>
 Br v171 (
 S.op (.nilCheck v28) w.drew (fun v173 w =>
 S.op (.fieldAddr 167 v173 1) w (fun v174 w =>
 S.op (.load 3 v174) w (fun v175 w =>
 S.op (.bin .add 3 false true v175 (.int .i64 1)) w (fun v176 w =>
 S.op (.nilCheck v28) w (fun v177 w =>
 S.op (.fieldAddr 167 v177 1) w (fun v178 w =>
 S.op (.store 3 v178 v176) w (fun _ w =>
 K (.tuple #[]) w) Kp) Kp) Kp) Kp) Kp) Kp) Kp) (
 J1 w.drew))))))))))) (
 J1 w)) Kp) Kp) Kp)) Kp) Kp) Kp)) Kp) Kp) Kp)) Kp) Kp) Kp)) Kp) Kp) Kp) Kp) Kp) Kp))))))) ∧
 (∀ (w : World) (junk : Nat → Value), J1 w →
 S.op (.nilCheck a0) w (fun v15 w =>
 S.op (.fieldAddr 170 v15 2) w (fun v16 w =>
 S.op (.load 3 v16) w (fun v17 w =>
 S.op (.bin .sub 3 false true v17 (.int .i64 1)) w (fun v18 w =>
 S.op (.nilCheck a0) w (fun v19 w =>
 S.op (.fieldAddr 170 v19 2) w (fun v20 w =>
 S.op (.store 3 v20 v18) w (fun _ w =>
 I0 w ∧ μ0 w < μ0 wl0) Kp) Kp) Kp) Kp) Kp) Kp) Kp)) (
 K (.tuple #[]) w)) Kp) Kp) Kp) Kp
theorem vc76_eq (S : Sig) (a0 : Value) (w : World) (K : Value → World → Prop) (Kp : KP) : vc76 S a0 w K Kp = fVC S [(0, []), (18, [6])] [(1, [])] Try.f76 [a0] w K Kp := by kernel_rfl
theorem vc76_calls {a0 : Value} {w : World} {K : Value → World → Prop} {Kp : KP} (h : vc76 (nice Try.prog) a0 w K Kp) : Calls Try.prog 76 #[a0] w (ret K Kp) :=
 fVC_sound (args := [a0]) nice_le follows_MVcT Try.func76 (by kernel_rfl) (Eq.mp (vc76_eq _ _ _ _ _) h)

def vc86 (S : Sig) (a0 : Value) (w : World) (K : Value → World → Prop) (Kp : KP) : Prop :=
 S.op (.nilCheck a0) w (fun v5 w =>
 S.op (.load 163 v5) w (fun v6 w =>
 S.op (.alloc 163) w (fun v3_other w =>
 S.op (.store 163 v3_other v6) w (fun _ w =>
 K v3_other w) Kp) Kp) Kp) Kp
theorem vc86_eq (S : Sig) (a0 : Value) (w : World) (K : Value → World → Prop) (Kp : KP) : vc86 S a0 w K Kp = fVC S [] [] Try.f86 [a0] w K Kp := by kernel_rfl
theorem vc86_calls {a0 : Value} {w : World} {K : Value → World → Prop} {Kp : KP} (h : vc86 (nice Try.prog) a0 w K Kp) : Calls Try.prog 86 #[a0] w (ret K Kp) :=
 fVC_sound (args := [a0]) nice_le follows_MVcT Try.func86 (by kernel_rfl) (Eq.mp (vc86_eq _ _ _ _ _) h)

def vc88 (S : Sig) (a0 : Value) (w : World) (K : Value → World → Prop) (Kp : KP) : Prop :=
 Lp fun (I1 : World → Prop) (μ1 : World → Nat) => I1 w ∧
 ∀ (wl1 : World) (junk : Nat → Value), I1 wl1 →
 S.pur (.nilCheck a0) (fun v16 =>
 S.pur (.fieldAddr 170 v16 2) (fun v17 =>
 S.ld (.load 3 v17) wl1.drew (fun v18 =>
 S.pur (.nilCheck a0) (fun v19 =>
 S.pur (.fieldAddr 170 v19 1) (fun v20 =>
 S.pur (.indexAddr 168 v20 v18) (fun v21 =>
 S.op (.nilCheck v21) wl1.drew (fun v23 w =>
 S.op (.fieldAddr 167 v23 0) w (fun v24 w =>
 S.op (.load 161 v24) w (fun v25 w =>
 S.op (.tassert v25 161 213 true) w (fun v29 w =>
 S.op (.extract v29 1) w (fun v30 w =>
 S.op (.extract v29 0) w (fun v31 w =>
 Br v30 (
 S.op (.nilCheck v21) w (fun v33 w =>
 S.op (.fieldAddr 167 v33 1) w (fun v34 w =>
 S.op (.store 3 v34 (.int .i64 0)) w (fun _ w =>
 S.pur (.nilCheck a0) (fun v37 =>
 S.pur (.fieldAddr 170 v37 2) (fun v38 =>
 S.ld (.load 3 v38) w.drew (fun v39 =>
 S.pur (.bin .add 3 false true v39 (.int .i64 1)) (fun v40 =>
 S.pur (.nilCheck v31) (fun v42 =>
 S.pur (.fieldAddr 216 v42 1) (fun v43 =>
 S.ld (.load 214 v43) w.drew (fun v44 =>
 S.pur (.indexAddr 214 v44 (.int .i64 0)) (fun v45 =>
 S.ld (.load 161 v45) w.drew (fun v46 =>
 S.pur (.nilCheck a0) (fun v47 =>
 S.pur (.fieldAddr 170 v47 1) (fun v48 =>
 S.pur (.indexAddr 168 v48 v40) (fun v49 =>
 S.pur (.fieldAddr 167 v49 0) (fun v50 =>
 S.op (.store 161 v50 v46) w.drew (fun _ w =>
 S.op (.nilCheck a0) w (fun v8 w =>
 S.op (.fieldAddr 170 v8 2) w (fun v9 w =>
 S.op (.load 3 v9) w (fun v10 w =>
 S.op (.bin .add 3 false true v10 (.int .i64 1)) w (fun v11 w =>
 S.op (.nilCheck a0) w (fun v12 w =>
 S.op (.fieldAddr 170 v12 2) w (fun v13 w =>
 S.op (.store 3 v13 v11) w (fun _ w =>
 I1 w ∧ μ1 w < μ1 wl1) Kp) Kp) Kp) Kp) Kp) Kp) Kp) Kp)))))))))))))) Kp) Kp) Kp) (
 S.op (.tassert v25 161 217 true) w (fun v51 w =>
 S.op (.extract v51 1) w (fun v52 w =>
 S.op (.extract v51 0) w (fun v53 w =>
 Br v52 (
 Lp fun (I12 : Value → World → Prop) (μ12 : Value → World → Nat) => I12 (.int .i64 0) w ∧
 ∀ (wl12 : World) (junk : Nat → Value) (s5_i : Value), I12 s5_i wl12 →
 S.op (.bin .lss 3 false true s5_i (.int .i64 32)) wl12 (fun v55 w =>
 Br v55 (
 S.op (.nilCheck v53) w (fun v60 w =>
 S.op (.fieldAddr 220 v60 1) w (fun v61 w =>
 S.op (.indexAddr 218 v61 s5_i) w (fun v62 w =>
 S.op (.load 161 v62) w (fun v63 w =>
 S.op (.bin .neq 161 false true v63 .nilIface) w (fun v64 w =>
 Br v64 (
 S.op (.nilCheck v21) w (fun v67 w =>
 S.op (.fieldAddr 167 v67 1) w (fun v68 w =>
 S.op (.store 3 v68 s5_i) w (fun _ w =>
 S.pur (.nilCheck a0) (fun v71 =>
 S.pur (.fieldAddr 170 v71 2) (fun v72 =>
 S.ld (.load 3 v72) w.drew (fun v73 =>
 S.pur (.bin .add 3 false true v73 (.int .i64 1)) (fun v74 =>
 S.pur (.nilCheck v53) (fun v77 =>
 S.pur (.fieldAddr 220 v77 1) (fun v78 =>
 S.pur (.indexAddr 218 v78 s5_i) (fun v79 =>
 S.ld (.load 161 v79) w.drew (fun v80 =>
 S.pur (.nilCheck a0) (fun v81 =>
 S.pur (.fieldAddr 170 v81 1) (fun v82 =>
 S.pur (.indexAddr 168 v82 v74) (fun v83 =>
 S.pur (.fieldAddr 167 v83 0) (fun v84 =>
 S.op (.store 161 v84 v80) w.drew (fun _ w =>
 S.op (.nilCheck a0) w (fun v8 w =>
 S.op (.fieldAddr 170 v8 2) w (fun v9 w =>
 S.op (.load 3 v9) w (fun v10 w =>
 S.op (.bin .add 3 false true v10 (.int .i64 1)) w (fun v11 w =>
 S.op (.nilCheck a0) w (fun v12 w =>
 S.op (.fieldAddr 170 v12 2) w (fun v13 w =>
 S.op (.store 3 v13 v11) w (fun _ w =>
 I1 w ∧ μ1 w < μ1 wl1) Kp) Kp) Kp) Kp) Kp) Kp) Kp) Kp))))))))))))) Kp) Kp) Kp) (
 S.op (.bin .add 3 false true s5_i (.int .i64 1)) w (fun v57 w =>
 I12 v57 w ∧ μ12 v57 w < μ12 s5_i wl12) Kp)) Kp) Kp) Kp) Kp) Kp) (
 S.op (.nilCheck a0) w (fun v8 w =>
 S.op (.fieldAddr 170 v8 2) w (fun v9 w =>
 S.op (.load 3 v9) w (fun v10 w =>
 S.op (.bin .add 3 false true v10 (.int .i64 1)) w (fun v11 w =>
 S.op (.nilCheck a0) w (fun v12 w =>
 S.op (.fieldAddr 170 v12 2) w (fun v13 w =>
 S.op (.store 3 v13 v11) w (fun _ w =>
 I1 w ∧ μ1 w < μ1 wl1) Kp) Kp) Kp) Kp) Kp) Kp) Kp)) Kp) (
 S.op (.nilCheck v21) w (fun v27 w =>
 S.op (.fieldAddr 167 v27 1) w (fun v28 w =>
 S.op (.store 3 v28 (.int .i64 0)) w (fun _ w =>
 K (.tuple #[]) w) Kp) Kp) Kp)) Kp) Kp) Kp)) Kp) Kp) Kp) Kp) Kp) Kp))))))
theorem vc88_eq (S : Sig) (a0 : Value) (w : World) (K : Value → World → Prop) (Kp : KP) : vc88 S a0 w K Kp = fVC S [(1, []), (12, [5])] [] Try.f88 [a0] w K Kp := by kernel_rfl
theorem vc88_calls {a0 : Value} {w : World} {K : Value → World → Prop} {Kp : KP} (h : vc88 (nice Try.prog) a0 w K Kp) : Calls Try.prog 88 #[a0] w (ret K Kp) :=
 fVC_sound (args := [a0]) nice_le follows_MVcT Try.func88 (by kernel_rfl) (Eq.mp (vc88_eq _ _ _ _ _) h)

def vc131 (S : Sig) (a0 a1 a2 a3 a4 a5 a6 : Value) (w : World) (K : Value → World → Prop) (Kp : KP) : Prop :=
 S.call (.fn 133) [a0, a1, a4] w (fun v20 w =>
 S.op (.bin .eql 3 false true v20 (.int .i64 (-1))) w (fun v22 w =>
 Br v22 (
 S.op (.mkIface 172 a0) w (fun v24 w =>
 K v24 w) Kp) (
 S.op (.nilCheck a6) w (fun v26 w =>
 S.op (.store 4 v26 (.bool true)) w (fun _ w =>
 S.op (.nilCheck a0) w (fun v28 w =>
 S.op (.fieldAddr 178 v28 0) w (fun v29 w =>
 S.op (.load 176 v29) w (fun v30 w =>
 S.op (.blt .len [176] 3 [v30]) w (fun v31 w =>
 S.op (.bin .eql 3 false true v31 (.int .i64 1)) w (fun v32 w =>
 Br v32 (
 K .nilIface w) (
 Br a5 (
 S.pur (.nilCheck a0) (fun v35 =>
 S.pur (.fieldAddr 178 v35 0) (fun v36 =>
 S.ld (.load 176 v36) w.drew (fun v37 =>
 S.pur (.slice 176 v37 (some v20) none none) (fun v39 =>
 S.pur (.nilCheck a0) (fun v41 =>
 S.pur (.fieldAddr 178 v41 0) (fun v42 =>
 S.ld (.load 176 v42) w.drew (fun v43 =>
 S.pur (.bin .add 3 false true v20 (.int .i64 1)) (fun v45 =>
 S.pur (.slice 176 v43 (some v45) none none) (fun v46 =>
 S.op (.blt .copy [176, 176] 3 [v39, v46]) w.drew (fun v47 w =>
 S.pur (.nilCheck a0) (fun v49 =>
 S.pur (.fieldAddr 178 v49 0) (fun v50 =>
 S.ld (.load 176 v50) w.drew (fun v51 =>
 S.pur (.nilCheck a0) (fun v53 =>
 S.pur (.fieldAddr 178 v53 0) (fun v54 =>
 S.ld (.load 176 v54) w.drew (fun v55 =>
 S.ld (.blt .len [176] 3 [v55]) w.drew (fun v56 =>
 S.pur (.bin .sub 3 false true v56 (.int .i64 1)) (fun v57 =>
 S.pur (.build 175 []) (fun v58 =>
 S.pur (.indexAddr 176 v51 v57) (fun v59 =>
 S.op (.store 175 v59 v58) w.drew (fun _ w =>
 S.pur (.nilCheck a0) (fun v62 =>
 S.pur (.fieldAddr 178 v62 0) (fun v63 =>
 S.ld (.load 176 v63) w.drew (fun v64 =>
 S.pur (.nilCheck a0) (fun v66 =>
 S.pur (.fieldAddr 178 v66 0) (fun v67 =>
 S.ld (.load 176 v67) w.drew (fun v68 =>
 S.ld (.blt .len [176] 3 [v68]) w.drew (fun v69 =>
 S.pur (.bin .sub 3 false true v69 (.int .i64 1)) (fun v70 =>
 S.pur (.slice 176 v64 none (some v70) none) (fun v71 =>
 S.pur (.nilCheck a0) (fun v72 =>
 S.pur (.fieldAddr 178 v72 0) (fun v73 =>
 S.op (.store 176 v73 v71) w.drew (fun _ w =>
 S.op (.mkIface 172 a0) w (fun v75 w =>
 K v75 w) Kp) Kp)))))))))))) Kp))))))))))) Kp)))))))))) (
 S.op (.nilCheck a0) w (fun v77 w =>
 S.op (.fieldAddr 178 v77 0) w (fun v78 w =>
 S.op (.load 176 v78) w (fun v79 w =>
 S.op (.blt .len [176] 3 [v79]) w (fun v80 w =>
 S.op (.bin .sub 3 false true v80 (.int .i64 1)) w (fun v81 w =>
 S.op (.mkSlice 176 v81 v81) w (fun v82 w =>
 S.op (.build 178 [(0, v82)]) w (fun v83 w =>
 S.op (.box 178 v83) w (fun v84 w =>
 S.pur (.nilCheck v84) (fun v86 =>
 S.pur (.fieldAddr 178 v86 0) (fun v87 =>
 S.ld (.load 176 v87) w.drew (fun v88 =>
 S.pur (.slice 176 v88 none (some v20) none) (fun v90 =>
 S.pur (.nilCheck a0) (fun v92 =>
 S.pur (.fieldAddr 178 v92 0) (fun v93 =>
 S.ld (.load 176 v93) w.drew (fun v94 =>
 S.pur (.slice 176 v94 none (some v20) none) (fun v96 =>
 S.op (.blt .copy [176, 176] 3 [v90, v96]) w.drew (fun v97 w =>
 S.pur (.nilCheck v84) (fun v99 =>
 S.pur (.fieldAddr 178 v99 0) (fun v100 =>
 S.ld (.load 176 v100) w.drew (fun v101 =>
 S.pur (.slice 176 v101 (some v20) none none) (fun v103 =>
 S.pur (.nilCheck a0) (fun v105 =>
 S.pur (.fieldAddr 178 v105 0) (fun v106 =>
 S.ld (.load 176 v106) w.drew (fun v107 =>
 S.pur (.bin .add 3 false true v20 (.int .i64 1)) (fun v109 =>
 S.pur (.slice 176 v107 (some v109) none none) (fun v110 =>
 S.op (.blt .copy [176, 176] 3 [v103, v110]) w.drew (fun v111 w =>
 S.op (.mkIface 172 v84) w (fun v113 w =>
 K v113 w) Kp) Kp)))))))))) Kp))))))))) Kp) Kp) Kp) Kp) Kp) Kp) Kp) Kp))) Kp) Kp) Kp) Kp) Kp) Kp) Kp)) Kp) Kp
theorem vc131_eq (S : Sig) (a0 a1 a2 a3 a4 a5 a6 : Value) (w : World) (K : Value → World → Prop) (Kp : KP) : vc131 S a0 a1 a2 a3 a4 a5 a6 w K Kp = fVC S [] [] Try.f131 [a0, a1, a2, a3, a4, a5, a6] w K Kp := by kernel_rfl
theorem vc131_calls {a0 a1 a2 a3 a4 a5 a6 : Value} {w : World} {K : Value → World → Prop} {Kp : KP} (h : vc131 (nice Try.prog) a0 a1 a2 a3 a4 a5 a6 w K Kp) : Calls Try.prog 131 #[a0, a1, a2, a3, a4, a5, a6] w (ret K Kp) :=
 fVC_sound (args := [a0, a1, a2, a3, a4, a5, a6]) nice_le follows_MVcT Try.func131 (by kernel_rfl) (Eq.mp (vc131_eq _ _ _ _ _ _ _ _ _ _ _) h)

def vc133 (S : Sig) (a0 a1 a2 : Value) (w : World) (K : Value → World → Prop) (Kp : KP) : Prop :=
 S.op (.nilCheck a0) w (fun v9 w =>
 S.op (.fieldAddr 178 v9 0) w (fun v10 w =>
 S.op (.load 176 v10) w (fun v11 w =>
 S.op (.blt .len [176] 3 [v11]) w (fun v12 w =>
 Lp fun (I2 : Value → World → Prop) (μ2 : Value → World → Nat) => I2 (.int .i64 0) w ∧
 ∀ (wl2 : World) (junk : Nat → Value) (s13_ : Value), I2 s13_ wl2 →
 S.op (.bin .lss 3 false false s13_ v12) wl2 (fun v14 w =>
 Br v14 (
 S.pur (.nilCheck a0) (fun v18 =>
 S.pur (.fieldAddr 178 v18 0) (fun v19 =>
 S.ld (.load 176 v19) w.drew (fun v20 =>
 S.pur (.indexAddr 176 v20 s13_) (fun v22 =>
 S.pur (.fieldAddr 175 v22 0) (fun v23 =>
 S.ld (.load 9 v23) w.drew (fun v24 =>
 S.pur (.mkFunc (Fn.method "Equal") [a2] []) (fun v26 =>
 S.pur (.nilCheck v26) (fun v27 =>
 S.call (.inv a2 "Equal") [v24, a1] w.drew (fun v29 w =>
 Br v29 (
 K s13_ w) (
 S.op (.bin .add 3 false true s13_ (.int .i64 1)) w (fun v31 w =>
 I2 v31 w ∧ μ2 v31 w < μ2 s13_ wl2) Kp)) Kp))))))))) (
 K (.int .i64 (-1)) w)) Kp) Kp) Kp) Kp) Kp
theorem vc133_eq (S : Sig) (a0 a1 a2 : Value) (w : World) (K : Value → World → Prop) (Kp : KP) : vc133 S a0 a1 a2 w K Kp = fVC S [(2, [13])] [] Try.f133 [a0, a1, a2] w K Kp := by kernel_rfl
theorem vc133_calls {a0 a1 a2 : Value} {w : World} {K : Value → World → Prop} {Kp : KP} (h : vc133 (nice Try.prog) a0 a1 a2 w K Kp) : Calls Try.prog 133 #[a0, a1, a2] w (ret K Kp) :=
 fVC_sound (args := [a0, a1, a2]) nice_le follows_MVcT Try.func133 (by kernel_rfl) (Eq.mp (vc133_eq _ _ _ _ _ _ _) h)

def vc134 (S : Sig) (a0 a1 a2 a3 a4 a5 a6 a7 : Value) (w : World) (K : Value → World → Prop) (Kp : KP) : Prop :=
 S.call (.fn 133) [a0, a1, a5] w (fun v25 w =>
 Jn fun (J4 : World → Prop) =>
 (S.op (.bin .eql 3 false true v25 (.int .i64 (-1))) w (fun v27 w =>
 Br v27 (
 S.op (.nilCheck a7) w (fun v29 w =>
 S.op (.store 4 v29 (.bool true)) w (fun _ w =>
 J4 w) Kp) Kp) (
 J4 w)) Kp) ∧
 (∀ (w : World) (junk : Nat → Value), J4 w →
 Jn fun (J12 : World → Prop) =>
 (S.op (.bin .eql 3 false true v25 (.int .i64 (-1))) w (fun v31 w =>
 Br v31 (
 S.op (.nilCheck a0) w (fun v34 w =>
 S.op (.fieldAddr 178 v34 0) w (fun v35 w =>
 S.op (.load 176 v35) w (fun v36 w =>
 S.op (.blt .len [176] 3 [v36]) w (fun v37 w =>
 S.op (.bin .geq 3 false true v37 (.int .i64 8)) w (fun v38 w =>
 Br v38 (
 S.call (.inv a5 "Hash") [a1] w (fun v42 w =>
 S.call (.fn 135) [v42, a1, a2] w (fun v45 w =>
 S.op (.mkIface 179 v45) w (fun v46 w =>
 S.op (.nilCheck a0) w (fun v48 w =>
 S.op (.fieldAddr 178 v48 0) w (fun v49 w =>
 S.op (.load 176 v49) w (fun v50 w =>
 S.op (.blt .len [176] 3 [v50]) w (fun v51 w =>
 Lp fun (I7 : Value → Value → World → Prop) (μ7 : Value → Value → World → Nat) => I7 v46 (.int .i64 0) w ∧
 ∀ (wl7 : World) (junk : Nat → Value) (s18_node : Value) (s52_ : Value), I7 s18_node s52_ wl7 →
 S.op (.bin .lss 3 false false s52_ v51) wl7 (fun v53 w =>
 Br v53 (
 S.op (.indexAddr 176 v50 s52_) w (fun v54 w =>
 S.op (.load 175 v54) w (fun v55 w =>
 S.op (.alloc 175) w (fun v20_entry w =>
 S.op (.store 175 v20_entry v55) w (fun _ w =>
 S.pur (.fieldAddr 175 v20_entry 0) (fun v57 =>
 S.ld (.load 9 v57) w.drew (fun v58 =>
 S.pur (.fieldAddr 175 v20_entry 1) (fun v59 =>
 S.ld (.load 2 v59) w.drew (fun v60 =>
 S.pur (.fieldAddr 175 v20_entry 0) (fun v62 =>
 S.ld (.load 9 v62) w.drew (fun v63 =>
 S.pur (.mkFunc (Fn.method "pub-bracken/pub/immutable.set") [s18_node] []) (fun v67 =>
 S.pur (.nilCheck v67) (fun v68 =>
 S.call (.inv a5 "Hash") [v63] w.drew (fun v64 w =>
 S.same (.load 2 v59) v60 w ∧
 S.same (.load 9 v57) v58 w ∧
 S.call (.inv s18_node "pub-bracken/pub/immutable.set") [v58, v60, (.int .u64 0), v64, a5, (.bool false), a7] w (fun v70 w =>
 S.op (.bin .add 3 false true s52_ (.int .i64 1)) w (fun v71 w =>
 I7 v70 v71 w ∧ μ7 v70 v71 w < μ7 s18_node s52_ wl7) Kp) Kp) Kp))))))))) Kp) Kp) Kp) Kp) (
 K s18_node w)) Kp) Kp) Kp) Kp) Kp) Kp) Kp) Kp) (
 J12 w)) Kp) Kp) Kp) Kp) Kp) (
 J12 w)) Kp) ∧
 (∀ (w : World) (junk : Nat → Value), J12 w →
 Br a6 (
 S.op (.bin .neq 3 false true v25 (.int .i64 (-1))) w (fun v75 w =>
 Br v75 (
 S.op (.nilCheck a0) w (fun v77 w =>
 S.op (.fieldAddr 178 v77 0) w (fun v78 w =>
 S.op (.load 176 v78) w (fun v79 w =>
 S.op (.build 175 [(0, a1), (1, a2)]) w (fun v83 w =>
 S.op (.indexAddr 176 v79 v25) w (fun v84 w =>
 S.op (.store 175 v84 v83) w (fun _ w =>
 S.op (.mkIface 172 a0) w (fun v98 w =>
 K v98 w) Kp) Kp) Kp) Kp) Kp) Kp) Kp) (
 S.op (.nilCheck a0) w (fun v87 w =>
 S.op (.fieldAddr 178 v87 0) w (fun v88 w =>
 S.op (.load 176 v88) w (fun v89 w =>
 S.op (.build 175 [(0, a1), (1, a2)]) w (fun v92 w =>
 S.op (.buildSlice 176 1 [(0, v92)]) w (fun v93 w =>
 S.op (.blt .append [176, 176] 176 [v89, v93]) w (fun v94 w =>
 S.op (.nilCheck a0) w (fun v95 w =>
 S.op (.fieldAddr 178 v95 0) w (fun v96 w =>
 S.op (.store 176 v96 v94) w (fun _ w =>
 S.op (.mkIface 172 a0) w (fun v98 w =>
 K v98 w) Kp) Kp) Kp) Kp) Kp) Kp) Kp) Kp) Kp) Kp)) Kp) (
 S.op (.alloc 178) w (fun v21_other w =>
 S.op (.bin .neq 3 false true v25 (.int .i64 (-1))) w (fun v100 w =>
 Br v100 (
 S.op (.nilCheck a0) w (fun v102 w =>
 S.op (.fieldAddr 178 v102 0) w (fun v103 w =>
 S.op (.load 176 v103) w (fun v104 w =>
 S.op (.blt .len [176] 3 [v104]) w (fun v105 w =>
 S.op (.mkSlice 176 v105 v105) w (fun v106 w =>
 S.op (.fieldAddr 178 v21_other 0) w (fun v107 w =>
 S.op (.store 176 v107 v106) w (fun _ w =>
 S.pur (.fieldAddr 178 v21_other 0) (fun v108 =>
 S.ld (.load 176 v108) w.drew (fun v109 =>
 S.pur (.nilCheck a0) (fun v111 =>
 S.pur (.fieldAddr 178 v111 0) (fun v112 =>
 S.ld (.load 176 v112) w.drew (fun v113 =>
 S.op (.blt .copy [176, 176] 3 [v109, v113]) w.drew (fun v114 w =>
 S.op (.fieldAddr 178 v21_other 0) w (fun v115 w =>
 S.op (.load 176 v115) w (fun v116 w =>
 S.op (.build 175 [(0, a1), (1, a2)]) w (fun v120 w =>
 S.op (.indexAddr 176 v116 v25) w (fun v121 w =>
 S.op (.store 175 v121 v120) w (fun _ w =>
 S.op (.mkIface 172 v21_other) w (fun v147 w =>
 K v147 w) Kp) Kp) Kp) Kp) Kp) Kp) Kp)))))) Kp) Kp) Kp) Kp) Kp) Kp) Kp) (
 S.op (.nilCheck a0) w (fun v123 w =>
 S.op (.fieldAddr 178 v123 0) w (fun v124 w =>
 S.op (.load 176 v124) w (fun v125 w =>
 S.op (.blt .len [176] 3 [v125]) w (fun v126 w =>
 S.op (.bin .add 3 false true v126 (.int .i64 1)) w (fun v127 w =>
 S.op (.mkSlice 176 v127 v127) w (fun v128 w =>
 S.op (.fieldAddr 178 v21_other 0) w (fun v129 w =>
 S.op (.store 176 v129 v128) w (fun _ w =>
 S.pur (.fieldAddr 178 v21_other 0) (fun v130 =>
 S.ld (.load 176 v130) w.drew (fun v131 =>
 S.pur (.nilCheck a0) (fun v133 =>
 S.pur (.fieldAddr 178 v133 0) (fun v134 =>
 S.ld (.load 176 v134) w.drew (fun v135 =>
 S.op (.blt .copy [176, 176] 3 [v131, v135]) w.drew (fun v136 w =>
 S.op (.fieldAddr 178 v21_other 0) w (fun v137 w =>
 S.op (.load 176 v137) w (fun v138 w =>
 S.op (.fieldAddr 178 v21_other 0) w (fun v139 w =>
 S.op (.load 176 v139) w (fun v140 w =>
 S.op (.blt .len [176] 3 [v140]) w (fun v141 w =>
 S.op (.bin .sub 3 false true v141 (.int .i64 1)) w (fun v142 w =>
 S.op (.build 175 [(0, a1), (1, a2)]) w (fun v145 w =>
 S.op (.indexAddr 176 v138 v142) w (fun v146 w =>
 S.op (.store 175 v146 v145) w (fun _ w =>
 S.op (.mkIface 172 v21_other) w (fun v147 w =>
 K v147 w) Kp) Kp) Kp) Kp) Kp) Kp) Kp) Kp) Kp) Kp) Kp)))))) Kp) Kp) Kp) Kp) Kp) Kp) Kp) Kp)) Kp) Kp)))) Kp
theorem vc134_eq (S : Sig) (a0 a1 a2 a3 a4 a5 a6 a7 : Value) (w : World) (K : Value → World → Prop) (Kp : KP) : vc134 S a0 a1 a2 a3 a4 a5 a6 a7 w K Kp = fVC S [(7, [18, 52])] [(4, []), (12, [])] Try.f134 [a0, a1, a2, a3, a4, a5, a6, a7] w K Kp := by kernel_rfl
theorem vc134_calls {a0 a1 a2 a3 a4 a5 a6 a7 : Value} {w : World} {K : Value → World → Prop} {Kp : KP} (h : vc134 (nice Try.prog) a0 a1 a2 a3 a4 a5 a6 a7 w K Kp) : Calls Try.prog 134 #[a0, a1, a2, a3, a4, a5, a6, a7] w (ret K Kp) :=
 fVC_sound (args := [a0, a1, a2, a3, a4, a5, a6, a7]) nice_le follows_MVcT Try.func134 (by kernel_rfl) (Eq.mp (vc134_eq _ _ _ _ _ _ _ _ _ _ _ _) h)

def vc135 (S : Sig) (a0 a1 a2 : Value) (w : World) (K : Value → World → Prop) (Kp : KP) : Prop :=
 S.op (.build 181 [(0, a0), (1, a1), (2, a2)]) w (fun v10 w =>
 S.op (.box 181 v10) w (fun v11 w =>
 K v11 w) Kp) Kp
theorem vc135_eq (S : Sig) (a0 a1 a2 : Value) (w : World) (K : Value → World → Prop) (Kp : KP) : vc135 S a0 a1 a2 w K Kp = fVC S [] [] Try.f135 [a0, a1, a2] w K Kp := by kernel_rfl
theorem vc135_calls {a0 a1 a2 : Value} {w : World} {K : Value → World → Prop} {Kp : KP} (h : vc135 (nice Try.prog) a0 a1 a2 w K Kp) : Calls Try.prog 135 #[a0, a1, a2] w (ret K Kp) :=
 fVC_sound (args := [a0, a1, a2]) nice_le follows_MVcT Try.func135 (by kernel_rfl) (Eq.mp (vc135_eq _ _ _ _ _ _ _) h)

def vc136 (S : Sig) (a0 a1 a2 a3 a4 a5 a6 : Value) (w : World) (K : Value → World → Prop) (Kp : KP) : Prop :=
 S.pur (.nilCheck a0) (fun v17 =>
 S.pur (.fieldAddr 181 v17 1) (fun v18 =>
 S.ld (.load 9 v18) w.drew (fun v19 =>
 S.pur (.mkFunc (Fn.method "Equal") [a4] []) (fun v21 =>
 S.pur (.nilCheck v21) (fun v22 =>
 S.call (.inv a4 "Equal") [v19, a1] w.drew (fun v24 w =>
 S.pur (.un .not v24) (fun v25 =>
 Br v25 (
 S.op (.mkIface 179 a0) w (fun v27 w =>
 K v27 w) Kp) (
 S.op (.nilCheck a6) w (fun v29 w =>
 S.op (.store 4 v29 (.bool true)) w (fun _ w =>
 K .nilIface w) Kp) Kp))) Kp)))))
theorem vc136_eq (S : Sig) (a0 a1 a2 a3 a4 a5 a6 : Value) (w : World) (K : Value → World → Prop) (Kp : KP) : vc136 S a0 a1 a2 a3 a4 a5 a6 w K Kp = fVC S [] [] Try.f136 [a0, a1, a2, a3, a4, a5, a6] w K Kp := by kernel_rfl
theorem vc136_calls {a0 a1 a2 a3 a4 a5 a6 : Value} {w : World} {K : Value → World → Prop} {Kp : KP} (h : vc136 (nice Try.prog) a0 a1 a2 a3 a4 a5 a6 w K Kp) : Calls Try.prog 136 #[a0, a1, a2, a3, a4, a5, a6] w (ret K Kp) :=
 fVC_sound (args := [a0, a1, a2, a3, a4, a5, a6]) nice_le follows_MVcT Try.func136 (by kernel_rfl) (Eq.mp (vc136_eq _ _ _ _ _ _ _ _ _ _ _) h)

def vc138 (S : Sig) (a0 : Value) (w : World) (K : Value → World → Prop) (Kp : KP) : Prop :=
 S.op (.nilCheck a0) w (fun v4 w =>
 S.op (.fieldAddr 181 v4 0) w (fun v5 w =>
 S.op (.load 22 v5) w (fun v6 w =>
 K v6 w) Kp) Kp) Kp
theorem vc138_eq (S : Sig) (a0 : Value) (w : World) (K : Value → World → Prop) (Kp : KP) : vc138 S a0 w K Kp = fVC S [] [] Try.f138 [a0] w K Kp := by kernel_rfl
theorem vc138_calls {a0 : Value} {w : World} {K : Value → World → Prop} {Kp : KP} (h : vc138 (nice Try.prog) a0 w K Kp) : Calls Try.prog 138 #[a0] w (ret K Kp) :=
 fVC_sound (args := [a0]) nice_le follows_MVcT Try.func138 (by kernel_rfl) (Eq.mp (vc138_eq _ _ _ _ _) h)

def vc139 (S : Sig) (a0 a1 a2 a3 a4 a5 a6 a7 : Value) (w : World) (K : Value → World → Prop) (Kp : KP) : Prop :=
 S.pur (.nilCheck a0) (fun v19 =>
 S.pur (.fieldAddr 181 v19 1) (fun v20 =>
 S.ld (.load 9 v20) w.drew (fun v21 =>
 S.pur (.mkFunc (Fn.method "Equal") [a5] []) (fun v23 =>
 S.pur (.nilCheck v23) (fun v24 =>
 S.call (.inv a5 "Equal") [v21, a1] w.drew (fun v26 w =>
 Br v26 (
 Br a6 (
 S.op (.nilCheck a0) w (fun v30 w =>
 S.op (.fieldAddr 181 v30 2) w (fun v31 w =>
 S.op (.store 2 v31 a2) w (fun _ w =>
 S.op (.mkIface 179 a0) w (fun v33 w =>
 K v33 w) Kp) Kp) Kp) Kp) (
 S.op (.nilCheck a0) w (fun v35 w =>
 S.op (.fieldAddr 181 v35 0) w (fun v36 w =>
 S.op (.load 22 v36) w (fun v37 w =>
 S.call (.fn 135) [v37, a1, a2] w (fun v40 w =>
 S.op (.mkIface 179 v40) w (fun v41 w =>
 K v41 w) Kp) Kp) Kp) Kp) Kp)) (
 S.op (.nilCheck a7) w (fun v43 w =>
 S.op (.store 4 v43 (.bool true)) w (fun _ w =>
 S.op (.nilCheck a0) w (fun v45 w =>
 S.op (.fieldAddr 181 v45 0) w (fun v46 w =>
 S.op (.load 22 v46) w (fun v47 w =>
 S.op (.bin .neq 22 false false v47 a4) w (fun v49 w =>
 Br v49 (
 S.op (.mkIface 179 a0) w (fun v51 w =>
 S.call (.fn 140) [v51, a3, a4, a1, a2] w (fun v56 w =>
 K v56 w) Kp) Kp) (
 S.pur (.nilCheck a0) (fun v59 =>
 S.pur (.fieldAddr 181 v59 1) (fun v60 =>
 S.ld (.load 9 v60) w.drew (fun v61 =>
 S.pur (.nilCheck a0) (fun v63 =>
 S.pur (.fieldAddr 181 v63 2) (fun v64 =>
 S.ld (.load 2 v64) w.drew (fun v65 =>
 S.pur (.build 175 [(0, v61), (1, v65)]) (fun v66 =>
 S.pur (.build 175 [(0, a1), (1, a2)]) (fun v69 =>
 S.op (.buildSlice 176 2 [(0, v66), (1, v69)]) w.drew (fun v70 w =>
 S.pur (.build 184 [(0, a4), (1, v70)]) (fun v71 =>
 S.op (.box 184 v71) w (fun v72 w =>
 S.pur (.mkIface 182 v72) (fun v73 =>
 K v73 w)) Kp)) Kp)))))))))) Kp) Kp) Kp) Kp) Kp) Kp)) Kp)))))
theorem vc139_eq (S : Sig) (a0 a1 a2 a3 a4 a5 a6 a7 : Value) (w : World) (K : Value → World → Prop) (Kp : KP) : vc139 S a0 a1 a2 a3 a4 a5 a6 a7 w K Kp = fVC S [] [] Try.f139 [a0, a1, a2, a3, a4, a5, a6, a7] w K Kp := by kernel_rfl
theorem vc139_calls {a0 a1 a2 a3 a4 a5 a6 a7 : Value} {w : World} {K : Value → World → Prop} {Kp : KP} (h : vc139 (nice Try.prog) a0 a1 a2 a3 a4 a5 a6 a7 w K Kp) : Calls Try.prog 139 #[a0, a1, a2, a3, a4, a5, a6, a7] w (ret K Kp) :=
 fVC_sound (args := [a0, a1, a2, a3, a4, a5, a6, a7]) nice_le follows_MVcT Try.func139 (by kernel_rfl) (Eq.mp (vc139_eq _ _ _ _ _ _ _ _ _ _ _ _) h)

def vc140 (S : Sig) (a0 a1 a2 a3 a4 : Value) (w : World) (K : Value → World → Prop) (Kp : KP) : Prop :=
 S.call (.inv a0 "pub-bracken/pub/immutable.keyHashValue") [] w (fun v16 w =>
 S.op (.bin .shr 22 false false v16 a1) w (fun v18 w =>
 S.op (.bin .and 22 false true v18 (.int .u32 31)) w (fun v19 w =>
 S.op (.bin .shr 22 false false a2 a1) w (fun v22 w =>
 S.op (.bin .and 22 false true v22 (.int .u32 31)) w (fun v23 w =>
 S.op (.bin .shl 22 true false (.int .u32 1) v19) w (fun v25 w =>
 S.op (.bin .shl 22 true false (.int .u32 1) v23) w (fun v27 w =>
 S.op (.bin .or 22 false false v25 v27) w (fun v28 w =>
 S.op (.build 216 [(0, v28)]) w (fun v29 w =>
 S.op (.box 216 v29) w (fun v30 w =>
 S.op (.bin .eql 22 false false v19 v23) w (fun v33 w =>
 Br v33 (
 S.op (.bin .add 187 false true a1 (.int .u64 5)) w (fun v37 w =>
 S.call (.fn 140) [a0, v37, a2, a3, a4] w (fun v41 w =>
 S.op (.buildSlice 214 1 [(0, v41)]) w (fun v42 w =>
 S.op (.nilCheck v30) w (fun v43 w =>
 S.op (.fieldAddr 216 v43 1) w (fun v44 w =>
 S.op (.store 214 v44 v42) w (fun _ w =>
 S.op (.mkIface 213 v30) w (fun v67 w =>
 K v67 w) Kp) Kp) Kp) Kp) Kp) Kp) Kp) (
 S.call (.fn 135) [a2, a3, a4] w (fun v48 w =>
 S.op (.bin .lss 22 false false v19 v23) w (fun v51 w =>
 Br v51 (
 S.op (.mkIface 179 v48) w (fun v55 w =>
 S.op (.buildSlice 214 2 [(0, a0), (1, v55)]) w (fun v56 w =>
 S.op (.nilCheck v30) w (fun v57 w =>
 S.op (.fieldAddr 216 v57 1) w (fun v58 w =>
 S.op (.store 214 v58 v56) w (fun _ w =>
 S.op (.mkIface 213 v30) w (fun v67 w =>
 K v67 w) Kp) Kp) Kp) Kp) Kp) Kp) (
 S.op (.mkIface 179 v48) w (fun v61 w =>
 S.op (.buildSlice 214 2 [(0, v61), (1, a0)]) w (fun v63 w =>
 S.op (.nilCheck v30) w (fun v64 w =>
 S.op (.fieldAddr 216 v64 1) w (fun v65 w =>
 S.op (.store 214 v65 v63) w (fun _ w =>
 S.op (.mkIface 213 v30) w (fun v67 w =>
 K v67 w) Kp) Kp) Kp) Kp) Kp) Kp)) Kp) Kp)) Kp) Kp) Kp) Kp) Kp) Kp) Kp) Kp) Kp) Kp) Kp
theorem vc140_eq (S : Sig) (a0 a1 a2 a3 a4 : Value) (w : World) (K : Value → World → Prop) (Kp : KP) : vc140 S a0 a1 a2 a3 a4 w K Kp = fVC S [] [] Try.f140 [a0, a1, a2, a3, a4] w K Kp := by kernel_rfl
theorem vc140_calls {a0 a1 a2 a3 a4 : Value} {w : World} {K : Value → World → Prop} {Kp : KP} (h : vc140 (nice Try.prog) a0 a1 a2 a3 a4 w K Kp) : Calls Try.prog 140 #[a0, a1, a2, a3, a4] w (ret K Kp) :=
 fVC_sound (args := [a0, a1, a2, a3, a4]) nice_le follows_MVcT Try.func140 (by kernel_rfl) (Eq.mp (vc140_eq _ _ _ _ _ _ _ _ _) h)

def vc141 (S : Sig) (a0 a1 a2 a3 a4 a5 a6 : Value) (w : World) (K : Value → World → Prop) (Kp : KP) : Prop :=
 S.call (.fn 143) [a0, a1, a4] w (fun v20 w =>
 S.op (.bin .eql 3 false true v20 (.int .i64 (-1))) w (fun v22 w =>
 Br v22 (
 S.op (.mkIface 182 a0) w (fun v24 w =>
 K v24 w) Kp) (
 S.op (.nilCheck a6) w (fun v26 w =>
 S.op (.store 4 v26 (.bool true)) w (fun _ w =>
 S.op (.nilCheck a0) w (fun v28 w =>
 S.op (.fieldAddr 184 v28 1) w (fun v29 w =>
 S.op (.load 176 v29) w (fun v30 w =>
 S.op (.blt .len [176] 3 [v30]) w (fun v31 w =>
 S.op (.bin .eql 3 false true v31 (.int .i64 2)) w (fun v32 w =>
 Br v32 (
 S.pur (.nilCheck a0) (fun v34 =>
 S.pur (.fieldAddr 184 v34 0) (fun v35 =>
 S.ld (.load 22 v35) w.drew (fun v36 =>
 S.pur (.nilCheck a0) (fun v38 =>
 S.pur (.fieldAddr 184 v38 1) (fun v39 =>
 S.ld (.load 176 v39) w.drew (fun v40 =>
 S.pur (.bin .xor 3 false true v20 (.int .i64 1)) (fun v42 =>
 S.pur (.indexAddr 176 v40 v42) (fun v43 =>
 S.pur (.fieldAddr 175 v43 0) (fun v44 =>
 S.ld (.load 9 v44) w.drew (fun v45 =>
 S.pur (.nilCheck a0) (fun v47 =>
 S.pur (.fieldAddr 184 v47 1) (fun v48 =>
 S.ld (.load 176 v48) w.drew (fun v49 =>
 S.pur (.bin .xor 3 false true v20 (.int .i64 1)) (fun v51 =>
 S.pur (.indexAddr 176 v49 v51) (fun v52 =>
 S.pur (.fieldAddr 175 v52 1) (fun v53 =>
 S.ld (.load 2 v53) w.drew (fun v54 =>
 S.pur (.build 181 [(0, v36), (1, v45), (2, v54)]) (fun v55 =>
 S.op (.box 181 v55) w.drew (fun v56 w =>
 S.pur (.mkIface 179 v56) (fun v57 =>
 K v57 w)) Kp))))))))))))))))))) (
 Br a5 (
 S.pur (.nilCheck a0) (fun v60 =>
 S.pur (.fieldAddr 184 v60 1) (fun v61 =>
 S.ld (.load 176 v61) w.drew (fun v62 =>
 S.pur (.slice 176 v62 (some v20) none none) (fun v64 =>
 S.pur (.nilCheck a0) (fun v66 =>
 S.pur (.fieldAddr 184 v66 1) (fun v67 =>
 S.ld (.load 176 v67) w.drew (fun v68 =>
 S.pur (.bin .add 3 false true v20 (.int .i64 1)) (fun v70 =>
 S.pur (.slice 176 v68 (some v70) none none) (fun v71 =>
 S.op (.blt .copy [176, 176] 3 [v64, v71]) w.drew (fun v72 w =>
 S.pur (.nilCheck a0) (fun v74 =>
 S.pur (.fieldAddr 184 v74 1) (fun v75 =>
 S.ld (.load 176 v75) w.drew (fun v76 =>
 S.pur (.nilCheck a0) (fun v78 =>
 S.pur (.fieldAddr 184 v78 1) (fun v79 =>
 S.ld (.load 176 v79) w.drew (fun v80 =>
 S.ld (.blt .len [176] 3 [v80]) w.drew (fun v81 =>
 S.pur (.bin .sub 3 false true v81 (.int .i64 1)) (fun v82 =>
 S.pur (.build 175 []) (fun v83 =>
 S.pur (.indexAddr 176 v76 v82) (fun v84 =>
 S.op (.store 175 v84 v83) w.drew (fun _ w =>
 S.pur (.nilCheck a0) (fun v87 =>
 S.pur (.fieldAddr 184 v87 1) (fun v88 =>
 S.ld (.load 176 v88) w.drew (fun v89 =>
 S.pur (.nilCheck a0) (fun v91 =>
 S.pur (.fieldAddr 184 v91 1) (fun v92 =>
 S.ld (.load 176 v92) w.drew (fun v93 =>
 S.ld (.blt .len [176] 3 [v93]) w.drew (fun v94 =>
 S.pur (.bin .sub 3 false true v94 (.int .i64 1)) (fun v95 =>
 S.pur (.slice 176 v89 none (some v95) none) (fun v96 =>
 S.pur (.nilCheck a0) (fun v97 =>
 S.pur (.fieldAddr 184 v97 1) (fun v98 =>
 S.op (.store 176 v98 v96) w.drew (fun _ w =>
 S.op (.mkIface 182 a0) w (fun v100 w =>
 K v100 w) Kp) Kp)))))))))))) Kp))))))))))) Kp)))))))))) (
 S.pur (.nilCheck a0) (fun v102 =>
 S.pur (.fieldAddr 184 v102 0) (fun v103 =>
 S.ld (.load 22 v103) w.drew (fun v104 =>
 S.pur (.nilCheck a0) (fun v106 =>
 S.pur (.fieldAddr 184 v106 1) (fun v107 =>
 S.ld (.load 176 v107) w.drew (fun v108 =>
 S.ld (.blt .len [176] 3 [v108]) w.drew (fun v109 =>
 S.pur (.bin .sub 3 false true v109 (.int .i64 1)) (fun v110 =>
 S.op (.mkSlice 176 v110 v110) w.drew (fun v111 w =>
 S.same (.load 22 v103) v104 w ∧
 S.pur (.build 184 [(0, v104), (1, v111)]) (fun v112 =>
 S.op (.box 184 v112) w (fun v113 w =>
 S.pur (.nilCheck v113) (fun v115 =>
 S.pur (.fieldAddr 184 v115 1) (fun v116 =>
 S.ld (.load 176 v116) w.drew (fun v117 =>
 S.pur (.slice 176 v117 none (some v20) none) (fun v119 =>
 S.pur (.nilCheck a0) (fun v121 =>
 S.pur (.fieldAddr 184 v121 1) (fun v122 =>
 S.ld (.load 176 v122) w.drew (fun v123 =>
 S.pur (.slice 176 v123 none (some v20) none) (fun v125 =>
 S.op (.blt .copy [176, 176] 3 [v119, v125]) w.drew (fun v126 w =>
 S.pur (.nilCheck v113) (fun v128 =>
 S.pur (.fieldAddr 184 v128 1) (fun v129 =>
 S.ld (.load 176 v129) w.drew (fun v130 =>
 S.pur (.slice 176 v130 (some v20) none none) (fun v132 =>
 S.pur (.nilCheck a0) (fun v134 =>
 S.pur (.fieldAddr 184 v134 1) (fun v135 =>
 S.ld (.load 176 v135) w.drew (fun v136 =>
 S.pur (.bin .add 3 false true v20 (.int .i64 1)) (fun v138 =>
 S.pur (.slice 176 v136 (some v138) none none) (fun v139 =>
 S.op (.blt .copy [176, 176] 3 [v132, v139]) w.drew (fun v140 w =>
 S.op (.mkIface 182 v113) w (fun v142 w =>
 K v142 w) Kp) Kp)))))))))) Kp))))))))) Kp)) Kp))))))))))) Kp) Kp) Kp) Kp) Kp) Kp) Kp)) Kp) Kp
theorem vc141_eq (S : Sig) (a0 a1 a2 a3 a4 a5 a6 : Value) (w : World) (K : Value → World → Prop) (Kp : KP) : vc141 S a0 a1 a2 a3 a4 a5 a6 w K Kp = fVC S [] [] Try.f141 [a0, a1, a2, a3, a4, a5, a6] w K Kp := by kernel_rfl
theorem vc141_calls {a0 a1 a2 a3 a4 a5 a6 : Value} {w : World} {K : Value → World → Prop} {Kp : KP} (h : vc141 (nice Try.prog) a0 a1 a2 a3 a4 a5 a6 w K Kp) : Calls Try.prog 141 #[a0, a1, a2, a3, a4, a5, a6] w (ret K Kp) :=
 fVC_sound (args := [a0, a1, a2, a3, a4, a5, a6]) nice_le follows_MVcT Try.func141 (by kernel_rfl) (Eq.mp (vc141_eq _ _ _ _ _ _ _ _ _ _ _) h)

def vc143 (S : Sig) (a0 a1 a2 : Value) (w : World) (K : Value → World → Prop) (Kp : KP) : Prop :=
 S.op (.nilCheck a0) w (fun v9 w =>
 S.op (.fieldAddr 184 v9 1) w (fun v10 w =>
 S.op (.load 176 v10) w (fun v11 w =>
 S.op (.blt .len [176] 3 [v11]) w (fun v12 w =>
 Lp fun (I2 : Value → World → Prop) (μ2 : Value → World → Nat) => I2 (.int .i64 0) w ∧
 ∀ (wl2 : World) (junk : Nat → Value) (s13_ : Value), I2 s13_ wl2 →
 S.op (.bin .lss 3 false false s13_ v12) wl2 (fun v14 w =>
 Br v14 (
 S.pur (.nilCheck a0) (fun v18 =>
 S.pur (.fieldAddr 184 v18 1) (fun v19 =>
 S.ld (.load 176 v19) w.drew (fun v20 =>
 S.pur (.indexAddr 176 v20 s13_) (fun v22 =>
 S.pur (.fieldAddr 175 v22 0) (fun v23 =>
 S.ld (.load 9 v23) w.drew (fun v24 =>
 S.pur (.mkFunc (Fn.method "Equal") [a2] []) (fun v26 =>
 S.pur (.nilCheck v26) (fun v27 =>
 S.call (.inv a2 "Equal") [v24, a1] w.drew (fun v29 w =>
 Br v29 (
 K s13_ w) (
 S.op (.bin .add 3 false true s13_ (.int .i64 1)) w (fun v31 w =>
 I2 v31 w ∧ μ2 v31 w < μ2 s13_ wl2) Kp)) Kp))))))))) (
 K (.int .i64 (-1)) w)) Kp) Kp) Kp) Kp) Kp
theorem vc143_eq (S : Sig) (a0 a1 a2 : Value) (w : World) (K : Value → World → Prop) (Kp : KP) : vc143 S a0 a1 a2 w K Kp = fVC S [(2, [13])] [] Try.f143 [a0, a1, a2] w K Kp := by kernel_rfl
theorem vc143_calls {a0 a1 a2 : Value} {w : World} {K : Value → World → Prop} {Kp : KP} (h : vc143 (nice Try.prog) a0 a1 a2 w K Kp) : Calls Try.prog 143 #[a0, a1, a2] w (ret K Kp) :=
 fVC_sound (args := [a0, a1, a2]) nice_le follows_MVcT Try.func143 (by kernel_rfl) (Eq.mp (vc143_eq _ _ _ _ _ _ _) h)

def vc144 (S : Sig) (a0 : Value) (w : World) (K : Value → World → Prop) (Kp : KP) : Prop :=
 S.op (.nilCheck a0) w (fun v4 w =>
 S.op (.fieldAddr 184 v4 0) w (fun v5 w =>
 S.op (.load 22 v5) w (fun v6 w =>
 K v6 w) Kp) Kp) Kp
theorem vc144_eq (S : Sig) (a0 : Value) (w : World) (K : Value → World → Prop) (Kp : KP) : vc144 S a0 w K Kp = fVC S [] [] Try.f144 [a0] w K Kp := by kernel_rfl
theorem vc144_calls {a0 : Value} {w : World} {K : Value → World → Prop} {Kp : KP} (h : vc144 (nice Try.prog) a0 w K Kp) : Calls Try.prog 144 #[a0] w (ret K Kp) :=
 fVC_sound (args := [a0]) nice_le follows_MVcT Try.func144 (by kernel_rfl) (Eq.mp (vc144_eq _ _ _ _ _) h)

def vc145 (S : Sig) (a0 a1 a2 a3 a4 a5 a6 a7 : Value) (w : World) (K : Value → World → Prop) (Kp : KP) : Prop :=
 S.op (.nilCheck a0) w (fun v21 w =>
 S.op (.fieldAddr 184 v21 0) w (fun v22 w =>
 S.op (.load 22 v22) w (fun v23 w =>
 S.op (.bin .neq 22 false false v23 a4) w (fun v25 w =>
 Br v25 (
 S.op (.nilCheck a7) w (fun v27 w =>
 S.op (.store 4 v27 (.bool true)) w (fun _ w =>
 S.op (.mkIface 182 a0) w (fun v29 w =>
 S.call (.fn 140) [v29, a3, a4, a1, a2] w (fun v34 w =>
 K v34 w) Kp) Kp) Kp) Kp) (
 Br a6 (
 S.call (.fn 143) [a0, a1, a5] w (fun v39 w =>
 S.op (.bin .eql 3 false true v39 (.int .i64 (-1))) w (fun v41 w =>
 Br v41 (
 S.op (.nilCheck a7) w (fun v43 w =>
 S.op (.store 4 v43 (.bool true)) w (fun _ w =>
 S.op (.nilCheck a0) w (fun v46 w =>
 S.op (.fieldAddr 184 v46 1) w (fun v47 w =>
 S.op (.load 176 v47) w (fun v48 w =>
 S.op (.build 175 [(0, a1), (1, a2)]) w (fun v51 w =>
 S.op (.buildSlice 176 1 [(0, v51)]) w (fun v52 w =>
 S.op (.blt .append [176, 176] 176 [v48, v52]) w (fun v53 w =>
 S.op (.nilCheck a0) w (fun v54 w =>
 S.op (.fieldAddr 184 v54 1) w (fun v55 w =>
 S.op (.store 176 v55 v53) w (fun _ w =>
 S.op (.mkIface 182 a0) w (fun v66 w =>
 K v66 w) Kp) Kp) Kp) Kp) Kp) Kp) Kp) Kp) Kp) Kp) Kp) Kp) (
 S.op (.nilCheck a0) w (fun v57 w =>
 S.op (.fieldAddr 184 v57 1) w (fun v58 w =>
 S.op (.load 176 v58) w (fun v59 w =>
 S.op (.build 175 [(0, a1), (1, a2)]) w (fun v63 w =>
 S.op (.indexAddr 176 v59 v39) w (fun v64 w =>
 S.op (.store 175 v64 v63) w (fun _ w =>
 S.op (.mkIface 182 a0) w (fun v66 w =>
 K v66 w) Kp) Kp) Kp) Kp) Kp) Kp) Kp)) Kp) Kp) (
 S.op (.nilCheck a0) w (fun v68 w =>
 S.op (.fieldAddr 184 v68 0) w (fun v69 w =>
 S.op (.load 22 v69) w (fun v70 w =>
 S.op (.build 184 [(0, v70)]) w (fun v71 w =>
 S.op (.box 184 v71) w (fun v72 w =>
 S.call (.fn 143) [a0, a1, a5] w (fun v76 w =>
 S.op (.bin .eql 3 false true v76 (.int .i64 (-1))) w (fun v78 w =>
 Br v78 (
 S.op (.nilCheck a7) w (fun v80 w =>
 S.op (.store 4 v80 (.bool true)) w (fun _ w =>
 S.op (.nilCheck a0) w (fun v83 w =>
 S.op (.fieldAddr 184 v83 1) w (fun v84 w =>
 S.op (.load 176 v84) w (fun v85 w =>
 S.op (.blt .len [176] 3 [v85]) w (fun v86 w =>
 S.op (.bin .add 3 false true v86 (.int .i64 1)) w (fun v87 w =>
 S.op (.mkSlice 176 v87 v87) w (fun v88 w =>
 S.op (.nilCheck v72) w (fun v89 w =>
 S.op (.fieldAddr 184 v89 1) w (fun v90 w =>
 S.op (.store 176 v90 v88) w (fun _ w =>
 S.pur (.nilCheck v72) (fun v92 =>
 S.pur (.fieldAddr 184 v92 1) (fun v93 =>
 S.ld (.load 176 v93) w.drew (fun v94 =>
 S.pur (.nilCheck a0) (fun v96 =>
 S.pur (.fieldAddr 184 v96 1) (fun v97 =>
 S.ld (.load 176 v97) w.drew (fun v98 =>
 S.op (.blt .copy [176, 176] 3 [v94, v98]) w.drew (fun v99 w =>
 S.pur (.nilCheck v72) (fun v101 =>
 S.pur (.fieldAddr 184 v101 1) (fun v102 =>
 S.ld (.load 176 v102) w.drew (fun v103 =>
 S.pur (.nilCheck v72) (fun v105 =>
 S.pur (.fieldAddr 184 v105 1) (fun v106 =>
 S.ld (.load 176 v106) w.drew (fun v107 =>
 S.ld (.blt .len [176] 3 [v107]) w.drew (fun v108 =>
 S.pur (.bin .sub 3 false true v108 (.int .i64 1)) (fun v109 =>
 S.pur (.build 175 [(0, a1), (1, a2)]) (fun v112 =>
 S.pur (.indexAddr 176 v103 v109) (fun v113 =>
 S.op (.store 175 v113 v112) w.drew (fun _ w =>
 S.op (.mkIface 182 v72) w (fun v142 w =>
 K v142 w) Kp) Kp))))))))))) Kp))))))) Kp) Kp) Kp) Kp) Kp) Kp) Kp) Kp) Kp) Kp) Kp) (
 S.op (.nilCheck a0) w (fun v116 w =>
 S.op (.fieldAddr 184 v116 1) w (fun v117 w =>
 S.op (.load 176 v117) w (fun v118 w =>
 S.op (.blt .len [176] 3 [v118]) w (fun v119 w =>
 S.op (.mkSlice 176 v119 v119) w (fun v120 w =>
 S.op (.nilCheck v72) w (fun v121 w =>
 S.op (.fieldAddr 184 v121 1) w (fun v122 w =>
 S.op (.store 176 v122 v120) w (fun _ w =>
 S.pur (.nilCheck v72) (fun v124 =>
 S.pur (.fieldAddr 184 v124 1) (fun v125 =>
 S.ld (.load 176 v125) w.drew (fun v126 =>
 S.pur (.nilCheck a0) (fun v128 =>
 S.pur (.fieldAddr 184 v128 1) (fun v129 =>
 S.ld (.load 176 v129) w.drew (fun v130 =>
 S.op (.blt .copy [176, 176] 3 [v126, v130]) w.drew (fun v131 w =>
 S.op (.nilCheck v72) w (fun v133 w =>
 S.op (.fieldAddr 184 v133 1) w (fun v134 w =>
 S.op (.load 176 v134) w (fun v135 w =>
 S.op (.build 175 [(0, a1), (1, a2)]) w (fun v139 w =>
 S.op (.indexAddr 176 v135 v76) w (fun v140 w =>
 S.op (.store 175 v140 v139) w (fun _ w =>
 S.op (.mkIface 182 v72) w (fun v142 w =>
 K v142 w) Kp) Kp) Kp) Kp) Kp) Kp) Kp) Kp))))))) Kp) Kp) Kp) Kp) Kp) Kp) Kp) Kp)) Kp) Kp) Kp) Kp) Kp) Kp) Kp))) Kp) Kp) Kp) Kp
theorem vc145_eq (S : Sig) (a0 a1 a2 a3 a4 a5 a6 a7 : Value) (w : World) (K : Value → World → Prop) (Kp : KP) : vc145 S a0 a1 a2 a3 a4 a5 a6 a7 w K Kp = fVC S [] [] Try.f145 [a0, a1, a2, a3, a4, a5, a6, a7] w K Kp := by kernel_rfl
theorem vc145_calls {a0 a1 a2 a3 a4 a5 a6 a7 : Value} {w : World} {K : Value → World → Prop} {Kp : KP} (h : vc145 (nice Try.prog) a0 a1 a2 a3 a4 a5 a6 a7 w K Kp) : Calls Try.prog 145 #[a0, a1, a2, a3, a4, a5, a6, a7] w (ret K Kp) :=
 fVC_sound (args := [a0, a1, a2, a3, a4, a5, a6, a7]) nice_le follows_MVcT Try.func145 (by kernel_rfl) (Eq.mp (vc145_eq _ _ _ _ _ _ _ _ _ _ _ _) h)

def vc154 (S : Sig) (a0 a1 a2 a3 a4 a5 a6 : Value) (w : World) (K : Value → World → Prop) (Kp : KP) : Prop :=
 S.op (.bin .shr 22 false false a3 a2) w (fun v23 w =>
 S.op (.bin .and 22 false true v23 (.int .u32 31)) w (fun v24 w =>
 S.op (.bin .shl 22 true false (.int .u32 1) v24) w (fun v25 w =>
 S.op (.nilCheck a0) w (fun v27 w =>
 S.op (.fieldAddr 216 v27 0) w (fun v28 w =>
 S.op (.load 22 v28) w (fun v29 w =>
 S.op (.bin .and 22 false false v29 v25) w (fun v31 w =>
 S.op (.bin .eql 22 false true v31 (.int .u32 0)) w (fun v32 w =>
 Br v32 (
 S.op (.mkIface 213 a0) w (fun v34 w =>
 K v34 w) Kp) (
 S.op (.nilCheck a0) w (fun v36 w =>
 S.op (.fieldAddr 216 v36 0) w (fun v37 w =>
 S.op (.load 22 v37) w (fun v38 w =>
 S.op (.bin .sub 22 false true v25 (.int .u32 1)) w (fun v40 w =>
 S.op (.bin .and 22 false false v38 v40) w (fun v41 w =>
 S.call (.fn 149) [v41] w (fun v42 w =>
 S.op (.nilCheck a0) w (fun v44 w =>
 S.op (.fieldAddr 216 v44 1) w (fun v45 w =>
 S.op (.load 214 v45) w (fun v46 w =>
 S.op (.indexAddr 214 v46 v42) w (fun v48 w =>
 S.op (.load 161 v48) w (fun v49 w =>
 S.op (.bin .add 187 false true a2 (.int .u64 5)) w (fun v53 w =>
 S.call (.inv v49 "pub-bracken/pub/immutable.delete") [a1, v53, a3, a4, a5, a6] w (fun v58 w =>
 S.op (.nilCheck a6) w (fun v60 w =>
 S.op (.load 4 v60) w (fun v61 w =>
 S.op (.un .not v61) w (fun v62 w =>
 Br v62 (
 S.op (.mkIface 213 a0) w (fun v64 w =>
 K v64 w) Kp) (
 S.op (.bin .eql 161 false true v58 .nilIface) w (fun v66 w =>
 Br v66 (
 S.op (.nilCheck a0) w (fun v68 w =>
 S.op (.fieldAddr 216 v68 1) w (fun v69 w =>
 S.op (.load 214 v69) w (fun v70 w =>
 S.op (.blt .len [214] 3 [v70]) w (fun v71 w =>
 S.op (.bin .eql 3 false true v71 (.int .i64 1)) w (fun v72 w =>
 Br v72 (
 K .nilIface w) (
 Br a5 (
 S.op (.nilCheck a0) w (fun v75 w =>
 S.op (.fieldAddr 216 v75 0) w (fun v76 w =>
 S.op (.load 22 v76) w (fun v77 w =>
 S.op (.bin .xor 22 false false v77 v25) w (fun v79 w =>
 S.op (.nilCheck a0) w (fun v80 w =>
 S.op (.fieldAddr 216 v80 0) w (fun v81 w =>
 S.op (.store 22 v81 v79) w (fun _ w =>
 S.pur (.nilCheck a0) (fun v83 =>
 S.pur (.fieldAddr 216 v83 1) (fun v84 =>
 S.ld (.load 214 v84) w.drew (fun v85 =>
 S.pur (.slice 214 v85 (some v42) none none) (fun v87 =>
 S.pur (.nilCheck a0) (fun v89 =>
 S.pur (.fieldAddr 216 v89 1) (fun v90 =>
 S.ld (.load 214 v90) w.drew (fun v91 =>
 S.pur (.bin .add 3 false true v42 (.int .i64 1)) (fun v93 =>
 S.pur (.slice 214 v91 (some v93) none none) (fun v94 =>
 S.op (.blt .copy [214, 214] 3 [v87, v94]) w.drew (fun v95 w =>
 S.pur (.nilCheck a0) (fun v97 =>
 S.pur (.fieldAddr 216 v97 1) (fun v98 =>
 S.ld (.load 214 v98) w.drew (fun v99 =>
 S.pur (.nilCheck a0) (fun v101 =>
 S.pur (.fieldAddr 216 v101 1) (fun v102 =>
 S.ld (.load 214 v102) w.drew (fun v103 =>
 S.ld (.blt .len [214] 3 [v103]) w.drew (fun v104 =>
 S.pur (.bin .sub 3 false true v104 (.int .i64 1)) (fun v105 =>
 S.pur (.indexAddr 214 v99 v105) (fun v106 =>
 S.op (.store 161 v106 .nilIface) w.drew (fun _ w =>
 S.pur (.nilCheck a0) (fun v109 =>
 S.pur (.fieldAddr 216 v109 1) (fun v110 =>
 S.ld (.load 214 v110) w.drew (fun v111 =>
 S.pur (.nilCheck a0) (fun v113 =>
 S.pur (.fieldAddr 216 v113 1) (fun v114 =>
 S.ld (.load 214 v114) w.drew (fun v115 =>
 S.ld (.blt .len [214] 3 [v115]) w.drew (fun v116 =>
 S.pur (.bin .sub 3 false true v116 (.int .i64 1)) (fun v117 =>
 S.pur (.slice 214 v111 none (some v117) none) (fun v118 =>
 S.pur (.nilCheck a0) (fun v119 =>
 S.pur (.fieldAddr 216 v119 1) (fun v120 =>
 S.op (.store 214 v120 v118) w.drew (fun _ w =>
 S.op (.mkIface 213 a0) w (fun v122 w =>
 K v122 w) Kp) Kp)))))))))))) Kp)))))))))) Kp)))))))))) Kp) Kp) Kp) Kp) Kp) Kp) Kp) (
 S.pur (.nilCheck a0) (fun v124 =>
 S.pur (.fieldAddr 216 v124 0) (fun v125 =>
 S.ld (.load 22 v125) w.drew (fun v126 =>
 S.pur (.bin .xor 22 false false v126 v25) (fun v128 =>
 S.pur (.nilCheck a0) (fun v130 =>
 S.pur (.fieldAddr 216 v130 1) (fun v131 =>
 S.ld (.load 214 v131) w.drew (fun v132 =>
 S.ld (.blt .len [214] 3 [v132]) w.drew (fun v133 =>
 S.pur (.bin .sub 3 false true v133 (.int .i64 1)) (fun v134 =>
 S.op (.mkSlice 214 v134 v134) w.drew (fun v135 w =>
 S.same (.load 22 v125) v126 w ∧
 S.pur (.build 216 [(0, v128), (1, v135)]) (fun v136 =>
 S.op (.box 216 v136) w (fun v137 w =>
 S.pur (.nilCheck v137) (fun v139 =>
 S.pur (.fieldAddr 216 v139 1) (fun v140 =>
 S.ld (.load 214 v140) w.drew (fun v141 =>
 S.pur (.slice 214 v141 none (some v42) none) (fun v143 =>
 S.pur (.nilCheck a0) (fun v145 =>
 S.pur (.fieldAddr 216 v145 1) (fun v146 =>
 S.ld (.load 214 v146) w.drew (fun v147 =>
 S.pur (.slice 214 v147 none (some v42) none) (fun v149 =>
 S.op (.blt .copy [214, 214] 3 [v143, v149]) w.drew (fun v150 w =>
 S.pur (.nilCheck v137) (fun v152 =>
 S.pur (.fieldAddr 216 v152 1) (fun v153 =>
 S.ld (.load 214 v153) w.drew (fun v154 =>
 S.pur (.slice 214 v154 (some v42) none none) (fun v156 =>
 S.pur (.nilCheck a0) (fun v158 =>
 S.pur (.fieldAddr 216 v158 1) (fun v159 =>
 S.ld (.load 214 v159) w.drew (fun v160 =>
 S.pur (.bin .add 3 false true v42 (.int .i64 1)) (fun v162 =>
 S.pur (.slice 214 v160 (some v162) none none) (fun v163 =>
 S.op (.blt .copy [214, 214] 3 [v156, v163]) w.drew (fun v164 w =>
 S.op (.mkIface 213 v137) w (fun v166 w =>
 K v166 w) Kp) Kp)))))))))) Kp))))))))) Kp)) Kp)))))))))))) Kp) Kp) Kp) Kp) Kp) (
 S.op (.un .not a5) w (fun v169 w =>
 Br v169 (
 S.pur (.nilCheck a0) (fun v171 =>
 S.pur (.fieldAddr 216 v171 0) (fun v172 =>
 S.ld (.load 22 v172) w.drew (fun v173 =>
 S.pur (.nilCheck a0) (fun v175 =>
 S.pur (.fieldAddr 216 v175 1) (fun v176 =>
 S.ld (.load 214 v176) w.drew (fun v177 =>
 S.ld (.blt .len [214] 3 [v177]) w.drew (fun v178 =>
 S.op (.mkSlice 214 v178 v178) w.drew (fun v179 w =>
 S.same (.load 22 v172) v173 w ∧
 S.pur (.build 216 [(0, v173), (1, v179)]) (fun v180 =>
 S.op (.box 216 v180) w (fun v181 w =>
 S.pur (.nilCheck v181) (fun v183 =>
 S.pur (.fieldAddr 216 v183 1) (fun v184 =>
 S.ld (.load 214 v184) w.drew (fun v185 =>
 S.pur (.nilCheck a0) (fun v187 =>
 S.pur (.fieldAddr 216 v187 1) (fun v188 =>
 S.ld (.load 214 v188) w.drew (fun v189 =>
 S.op (.blt .copy [214, 214] 3 [v185, v189]) w.drew (fun v190 w =>
 S.op (.nilCheck v181) w (fun v192 w =>
 S.op (.fieldAddr 216 v192 1) w (fun v193 w =>
 S.op (.load 214 v193) w (fun v194 w =>
 S.op (.indexAddr 214 v194 v42) w (fun v197 w =>
 S.op (.store 161 v197 v58) w (fun _ w =>
 S.op (.mkIface 213 v181) w (fun v199 w =>
 K v199 w) Kp) Kp) Kp) Kp) Kp) Kp) Kp))))))) Kp)) Kp)))))))) (
 S.op (.nilCheck a0) w (fun v192 w =>
 S.op (.fieldAddr 216 v192 1) w (fun v193 w =>
 S.op (.load 214 v193) w (fun v194 w =>
 S.op (.indexAddr 214 v194 v42) w (fun v197 w =>
 S.op (.store 161 v197 v58) w (fun _ w =>
 S.op (.mkIface 213 a0) w (fun v199 w =>
 K v199 w) Kp) Kp) Kp) Kp) Kp) Kp)) Kp)) Kp)) Kp) Kp) Kp) Kp) Kp) Kp) Kp) Kp) Kp) Kp) Kp) Kp) Kp) Kp) Kp) Kp)) Kp) Kp) Kp) Kp) Kp) Kp) Kp) Kp
theorem vc154_eq (S : Sig) (a0 a1 a2 a3 a4 a5 a6 : Value) (w : World) (K : Value → World → Prop) (Kp : KP) : vc154 S a0 a1 a2 a3 a4 a5 a6 w K Kp = fVC S [] [] Try.f154 [a0, a1, a2, a3, a4, a5, a6] w K Kp := by kernel_rfl
theorem vc154_calls {a0 a1 a2 a3 a4 a5 a6 : Value} {w : World} {K : Value → World → Prop} {Kp : KP} (h : vc154 (nice Try.prog) a0 a1 a2 a3 a4 a5 a6 w K Kp) : Calls Try.prog 154 #[a0, a1, a2, a3, a4, a5, a6] w (ret K Kp) :=
 fVC_sound (args := [a0, a1, a2, a3, a4, a5, a6]) nice_le follows_MVcT Try.func154 (by kernel_rfl) (Eq.mp (vc154_eq _ _ _ _ _ _ _ _ _ _ _) h)

def vc156 (S : Sig) (a0 a1 a2 a3 a4 a5 a6 a7 : Value) (w : World) (K : Value → World → Prop) (Kp : KP) : Prop :=
 S.op (.bin .shr 22 false false a4 a3) w (fun v27 w =>
 S.op (.bin .and 22 false true v27 (.int .u32 31)) w (fun v28 w =>
 S.op (.bin .shl 22 true false (.int .u32 1) v28) w (fun v30 w =>
 S.op (.nilCheck a0) w (fun v32 w =>
 S.op (.fieldAddr 216 v32 0) w (fun v33 w =>
 S.op (.load 22 v33) w (fun v34 w =>
 S.op (.bin .and 22 false false v34 v30) w (fun v36 w =>
 S.op (.bin .neq 22 false true v36 (.int .u32 0)) w (fun v37 w =>
 Jn fun (J6 : World → Prop) =>
 (S.op (.un .not v37) w (fun v39 w =>
 Br v39 (
 S.op (.nilCheck a7) w (fun v41 w =>
 S.op (.store 4 v41 (.bool true)) w (fun _ w =>
 J6 w) Kp) Kp) (
 J6 w)) Kp) ∧
 (∀ (w : World) (junk : Nat → Value), J6 w →
 S.op (.nilCheck a0) w (fun v43 w =>
 S.op (.fieldAddr 216 v43 0) w (fun v44 w =>
 S.op (.load 22 v44) w (fun v45 w =>
 S.op (.bin .sub 22 false true v30 (.int .u32 1)) w (fun v47 w =>
 S.op (.bin .and 22 false false v45 v47) w (fun v48 w =>
 S.call (.fn 149) [v48] w (fun v49 w =>
 Jn fun (J11 : Value → World → Prop) =>
 (Br v37 (
 S.op (.nilCheck a0) w (fun v52 w =>
 S.op (.fieldAddr 216 v52 1) w (fun v53 w =>
 S.op (.load 214 v53) w (fun v54 w =>
 S.op (.indexAddr 214 v54 v49) w (fun v56 w =>
 S.op (.load 161 v56) w (fun v57 w =>
 S.op (.bin .add 187 false true a3 (.int .u64 5)) w (fun v61 w =>
 S.call (.inv v57 "pub-bracken/pub/immutable.set") [a1, a2, v61, a4, a5, a6, a7] w (fun v66 w =>
 J11 v66 w) Kp) Kp) Kp) Kp) Kp) Kp) Kp) (
 S.call (.fn 135) [a4, a1, a2] w (fun v70 w =>
 S.op (.mkIface 179 v70) w (fun v71 w =>
 J11 v71 w) Kp) Kp)) ∧
 (∀ (w : World) (junk : Nat → Value) (j21_newNode : Value), J11 j21_newNode w →
 Jn fun (J22 : World → Prop) =>
 (S.op (.un .not v37) w (fun v73 w =>
 Br v73 (
 S.op (.nilCheck a0) w (fun v76 w =>
 S.op (.fieldAddr 216 v76 1) w (fun v77 w =>
 S.op (.load 214 v77) w (fun v78 w =>
 S.op (.blt .len [214] 3 [v78]) w (fun v79 w =>
 S.op (.bin .gtr 3 false true v79 (.int .i64 16)) w (fun v80 w =>
 Br v80 (
 S.op (.alloc 220) w (fun v22_other w =>
 Lp fun (I14 : Value → World → Prop) (μ14 : Value → World → Nat) => I14 (.int .u64 0) w ∧
 ∀ (wl14 : World) (junk : Nat → Value) (s23_i : Value), I14 s23_i wl14 →
 S.op (.bin .lss 187 false true s23_i (.int .u64 32)) wl14 (fun v83 w =>
 Br v83 (
 S.op (.nilCheck a0) w (fun v87 w =>
 S.op (.fieldAddr 216 v87 0) w (fun v88 w =>
 S.op (.load 22 v88) w (fun v89 w =>
 S.op (.bin .shl 22 true false (.int .u32 1) s23_i) w (fun v91 w =>
 S.op (.bin .and 22 false false v89 v91) w (fun v92 w =>
 S.op (.bin .neq 22 false true v92 (.int .u32 0)) w (fun v93 w =>
 Br v93 (
 S.pur (.nilCheck a0) (fun v96 =>
 S.pur (.fieldAddr 216 v96 1) (fun v97 =>
 S.ld (.load 214 v97) w.drew (fun v98 =>
 S.pur (.fieldAddr 220 v22_other 0) (fun v99 =>
 S.ld (.load 187 v99) w.drew (fun v100 =>
 S.pur (.indexAddr 214 v98 v100) (fun v101 =>
 S.ld (.load 161 v101) w.drew (fun v102 =>
 S.pur (.fieldAddr 220 v22_other 1) (fun v103 =>
 S.pur (.indexAddr 218 v103 s23_i) (fun v104 =>
 S.op (.store 161 v104 v102) w.drew (fun _ w =>
 S.op (.fieldAddr 220 v22_other 0) w (fun v105 w =>
 S.op (.load 187 v105) w (fun v106 w =>
 S.op (.bin .add 187 false true v106 (.int .u64 1)) w (fun v107 w =>
 S.op (.fieldAddr 220 v22_other 0) w (fun v108 w =>
 S.op (.store 187 v108 v107) w (fun _ w =>
 S.op (.bin .add 187 false true s23_i (.int .u64 1)) w (fun v85 w =>
 I14 v85 w ∧ μ14 v85 w < μ14 s23_i wl14) Kp) Kp) Kp) Kp) Kp) Kp) Kp)))))))))) (
 S.op (.bin .add 187 false true s23_i (.int .u64 1)) w (fun v85 w =>
 I14 v85 w ∧ μ14 v85 w < μ14 s23_i wl14) Kp)) Kp) Kp) Kp) Kp) Kp) Kp) (
 S.op (.fieldAddr 220 v22_other 1) w (fun v111 w =>
 S.op (.indexAddr 218 v111 v28) w (fun v112 w =>
 S.op (.store 161 v112 j21_newNode) w (fun _ w =>
 S.op (.fieldAddr 220 v22_other 0) w (fun v113 w =>
 S.op (.load 187 v113) w (fun v114 w =>
 S.op (.bin .add 187 false true v114 (.int .u64 1)) w (fun v115 w =>
 S.op (.fieldAddr 220 v22_other 0) w (fun v116 w =>
 S.op (.store 187 v116 v115) w (fun _ w =>
 S.op (.mkIface 217 v22_other) w (fun v117 w =>
 K v117 w) Kp) Kp) Kp) Kp) Kp) Kp) Kp) Kp) Kp)) Kp) Kp) (
 J22 w)) Kp) Kp) Kp) Kp) Kp) (
 J22 w)) Kp) ∧
 (∀ (w : World) (junk : Nat → Value), J22 w →
 Br a6 (
 Br v37 (
 S.op (.nilCheck a0) w (fun v121 w =>
 S.op (.fieldAddr 216 v121 1) w (fun v122 w =>
 S.op (.load 214 v122) w (fun v123 w =>
 S.op (.indexAddr 214 v123 v49) w (fun v126 w =>
 S.op (.store 161 v126 j21_newNode) w (fun _ w =>
 S.op (.mkIface 213 a0) w (fun v166 w =>
 K v166 w) Kp) Kp) Kp) Kp) Kp) Kp) (
 S.op (.nilCheck a0) w (fun v128 w =>
 S.op (.fieldAddr 216 v128 0) w (fun v129 w =>
 S.op (.load 22 v129) w (fun v130 w =>
 S.op (.bin .or 22 false false v130 v30) w (fun v132 w =>
 S.op (.nilCheck a0) w (fun v133 w =>
 S.op (.fieldAddr 216 v133 0) w (fun v134 w =>
 S.op (.store 22 v134 v132) w (fun _ w =>
 S.op (.nilCheck a0) w (fun v137 w =>
 S.op (.fieldAddr 216 v137 1) w (fun v138 w =>
 S.op (.load 214 v138) w (fun v139 w =>
 S.op (.buildSlice 214 1 [(0, .nilIface)]) w (fun v140 w =>
 S.op (.blt .append [214, 214] 214 [v139, v140]) w (fun v141 w =>
 S.op (.nilCheck a0) w (fun v142 w =>
 S.op (.fieldAddr 216 v142 1) w (fun v143 w =>
 S.op (.store 214 v143 v141) w (fun _ w =>
 S.pur (.nilCheck a0) (fun v145 =>
 S.pur (.fieldAddr 216 v145 1) (fun v146 =>
 S.ld (.load 214 v146) w.drew (fun v147 =>
 S.pur (.bin .add 3 false true v49 (.int .i64 1)) (fun v149 =>
 S.pur (.slice 214 v147 (some v149) none none) (fun v150 =>
 S.pur (.nilCheck a0) (fun v152 =>
 S.pur (.fieldAddr 216 v152 1) (fun v153 =>
 S.ld (.load 214 v153) w.drew (fun v154 =>
 S.pur (.slice 214 v154 (some v49) none none) (fun v156 =>
 S.op (.blt .copy [214, 214] 3 [v150, v156]) w.drew (fun v157 w =>
 S.op (.nilCheck a0) w (fun v159 w =>
 S.op (.fieldAddr 216 v159 1) w (fun v160 w =>
 S.op (.load 214 v160) w (fun v161 w =>
 S.op (.indexAddr 214 v161 v49) w (fun v164 w =>
 S.op (.store 161 v164 j21_newNode) w (fun _ w =>
 S.op (.mkIface 213 a0) w (fun v166 w =>
 K v166 w) Kp) Kp) Kp) Kp) Kp) Kp) Kp)))))))))) Kp) Kp) Kp) Kp) Kp) Kp) Kp) Kp) Kp) Kp) Kp) Kp) Kp) Kp) Kp)) (
 S.op (.nilCheck a0) w (fun v168 w =>
 S.op (.fieldAddr 216 v168 0) w (fun v169 w =>
 S.op (.load 22 v169) w (fun v170 w =>
 S.op (.bin .or 22 false false v170 v30) w (fun v172 w =>
 S.op (.build 216 [(0, v172)]) w (fun v173 w =>
 S.op (.box 216 v173) w (fun v174 w =>
 Br v37 (
 S.op (.nilCheck a0) w (fun v178 w =>
 S.op (.fieldAddr 216 v178 1) w (fun v179 w =>
 S.op (.load 214 v179) w (fun v180 w =>
 S.op (.blt .len [214] 3 [v180]) w (fun v181 w =>
 S.op (.mkSlice 214 v181 v181) w (fun v182 w =>
 S.op (.nilCheck v174) w (fun v183 w =>
 S.op (.fieldAddr 216 v183 1) w (fun v184 w =>
 S.op (.store 214 v184 v182) w (fun _ w =>
 S.pur (.nilCheck v174) (fun v186 =>
 S.pur (.fieldAddr 216 v186 1) (fun v187 =>
 S.ld (.load 214 v187) w.drew (fun v188 =>
 S.pur (.nilCheck a0) (fun v190 =>
 S.pur (.fieldAddr 216 v190 1) (fun v191 =>
 S.ld (.load 214 v191) w.drew (fun v192 =>
 S.op (.blt .copy [214, 214] 3 [v188, v192]) w.drew (fun v193 w =>
 S.op (.nilCheck v174) w (fun v195 w =>
 S.op (.fieldAddr 216 v195 1) w (fun v196 w =>
 S.op (.load 214 v196) w (fun v197 w =>
 S.op (.indexAddr 214 v197 v49) w (fun v200 w =>
 S.op (.store 161 v200 j21_newNode) w (fun _ w =>
 S.op (.mkIface 213 v174) w (fun v244 w =>
 K v244 w) Kp) Kp) Kp) Kp) Kp) Kp) Kp))))))) Kp) Kp) Kp) Kp) Kp) Kp) Kp) Kp) (
 S.op (.nilCheck a0) w (fun v203 w =>
 S.op (.fieldAddr 216 v203 1) w (fun v204 w =>
 S.op (.load 214 v204) w (fun v205 w =>
 S.op (.blt .len [214] 3 [v205]) w (fun v206 w =>
 S.op (.bin .add 3 false true v206 (.int .i64 1)) w (fun v207 w =>
 S.op (.mkSlice 214 v207 v207) w (fun v208 w =>
 S.op (.nilCheck v174) w (fun v209 w =>
 S.op (.fieldAddr 216 v209 1) w (fun v210 w =>
 S.op (.store 214 v210 v208) w (fun _ w =>
 S.pur (.nilCheck v174) (fun v212 =>
 S.pur (.fieldAddr 216 v212 1) (fun v213 =>
 S.ld (.load 214 v213) w.drew (fun v214 =>
 S.pur (.nilCheck a0) (fun v216 =>
 S.pur (.fieldAddr 216 v216 1) (fun v217 =>
 S.ld (.load 214 v217) w.drew (fun v218 =>
 S.pur (.slice 214 v218 none (some v49) none) (fun v220 =>
 S.op (.blt .copy [214, 214] 3 [v214, v220]) w.drew (fun v221 w =>
 S.op (.nilCheck v174) w (fun v223 w =>
 S.op (.fieldAddr 216 v223 1) w (fun v224 w =>
 S.op (.load 214 v224) w (fun v225 w =>
 S.op (.indexAddr 214 v225 v49) w (fun v228 w =>
 S.op (.store 161 v228 j21_newNode) w (fun _ w =>
 S.pur (.nilCheck v174) (fun v230 =>
 S.pur (.fieldAddr 216 v230 1) (fun v231 =>
 S.ld (.load 214 v231) w.drew (fun v232 =>
 S.pur (.bin .add 3 false true v49 (.int .i64 1)) (fun v234 =>
 S.pur (.slice 214 v232 (some v234) none none) (fun v235 =>
 S.pur (.nilCheck a0) (fun v237 =>
 S.pur (.fieldAddr 216 v237 1) (fun v238 =>
 S.ld (.load 214 v238) w.drew (fun v239 =>
 S.pur (.slice 214 v239 (some v49) none none) (fun v241 =>
 S.op (.blt .copy [214, 214] 3 [v235, v241]) w.drew (fun v242 w =>
 S.op (.mkIface 213 v174) w (fun v244 w =>
 K v244 w) Kp) Kp)))))))))) Kp) Kp) Kp) Kp) Kp) Kp)))))))) Kp) Kp) Kp) Kp) Kp) Kp) Kp) Kp) Kp)) Kp) Kp) Kp) Kp) Kp) Kp)))) Kp) Kp) Kp) Kp) Kp) Kp)) Kp) Kp) Kp) Kp) Kp) Kp) Kp) Kp
theorem vc156_eq (S : Sig) (a0 a1 a2 a3 a4 a5 a6 a7 : Value) (w : World) (K : Value → World → Prop) (Kp : KP) : vc156 S a0 a1 a2 a3 a4 a5 a6 a7 w K Kp = fVC S [(14, [23])] [(6, []), (11, [21]), (22, [])] Try.f156 [a0, a1, a2, a3, a4, a5, a6, a7] w K Kp := by kernel_rfl
theorem vc156_calls {a0 a1 a2 a3 a4 a5 a6 a7 : Value} {w : World} {K : Value → World → Prop} {Kp : KP} (h : vc156 (nice Try.prog) a0 a1 a2 a3 a4 a5 a6 a7 w K Kp) : Calls Try.prog 156 #[a0, a1, a2, a3, a4, a5, a6, a7] w (ret K Kp) :=
 fVC_sound (args := [a0, a1, a2, a3, a4, a5, a6, a7]) nice_le follows_MVcT Try.func156 (by kernel_rfl) (Eq.mp (vc156_eq _ _ _ _ _ _ _ _ _ _ _ _) h)

def vc157 (S : Sig) (a0 : Value) (w : World) (K : Value → World → Prop) (Kp : KP) : Prop :=
 S.op (.nilCheck a0) w (fun v5 w =>
 S.op (.load 220 v5) w (fun v6 w =>
 S.op (.alloc 220) w (fun v3_other w =>
 S.op (.store 220 v3_other v6) w (fun _ w =>
 K v3_other w) Kp) Kp) Kp) Kp
theorem vc157_eq (S : Sig) (a0 : Value) (w : World) (K : Value → World → Prop) (Kp : KP) : vc157 S a0 w K Kp = fVC S [] [] Try.f157 [a0] w K Kp := by kernel_rfl
theorem vc157_calls {a0 : Value} {w : World} {K : Value → World → Prop} {Kp : KP} (h : vc157 (nice Try.prog) a0 w K Kp) : Calls Try.prog 157 #[a0] w (ret K Kp) :=
 fVC_sound (args := [a0]) nice_le follows_MVcT Try.func157 (by kernel_rfl) (Eq.mp (vc157_eq _ _ _ _ _) h)

def vc158 (S : Sig) (a0 a1 a2 a3 a4 a5 a6 : Value) (w : World) (K : Value → World → Prop) (Kp : KP) : Prop :=
 S.op (.bin .shr 22 false false a3 a2) w (fun v24 w =>
 S.op (.bin .and 22 false true v24 (.int .u32 31)) w (fun v25 w =>
 S.op (.nilCheck a0) w (fun v28 w =>
 S.op (.fieldAddr 220 v28 1) w (fun v29 w =>
 S.op (.indexAddr 218 v29 v25) w (fun v30 w =>
 S.op (.load 161 v30) w (fun v31 w =>
 S.op (.bin .eql 161 false true v31 .nilIface) w (fun v33 w =>
 Br v33 (
 S.op (.mkIface 217 a0) w (fun v35 w =>
 K v35 w) Kp) (
 S.op (.bin .add 187 false true a2 (.int .u64 5)) w (fun v39 w =>
 S.call (.inv v31 "pub-bracken/pub/immutable.delete") [a1, v39, a3, a4, a5, a6] w (fun v44 w =>
 S.op (.nilCheck a6) w (fun v46 w =>
 S.op (.load 4 v46) w (fun v47 w =>
 S.op (.un .not v47) w (fun v48 w =>
 Br v48 (
 S.op (.mkIface 217 a0) w (fun v50 w =>
 K v50 w) Kp) (
 Jn fun (J18 : World → Prop) =>
 (S.op (.bin .eql 161 false true v44 .nilIface) w (fun v52 w =>
 Br v52 (
 S.op (.nilCheck a0) w (fun v55 w =>
 S.op (.fieldAddr 220 v55 0) w (fun v56 w =>
 S.op (.load 187 v56) w (fun v57 w =>
 S.op (.bin .leq 187 false true v57 (.int .u64 16)) w (fun v58 w =>
 Br v58 (
 S.op (.nilCheck a0) w (fun v61 w =>
 S.op (.fieldAddr 220 v61 0) w (fun v62 w =>
 S.op (.load 187 v62) w (fun v63 w =>
 S.op (.bin .sub 187 false true v63 (.int .u64 1)) w (fun v64 w =>
 S.op (.mkSlice 214 (.int .i64 0) v64) w (fun v65 w =>
 S.op (.build 216 [(1, v65)]) w (fun v66 w =>
 S.op (.box 216 v66) w (fun v67 w =>
 S.op (.nilCheck a0) w (fun v69 w =>
 S.op (.fieldAddr 220 v69 1) w (fun v70 w =>
 S.op (.load 218 v70) w (fun v71 w =>
 Lp fun (I11 : Value → World → Prop) (μ11 : Value → World → Nat) => I11 (.int .i64 0) w ∧
 ∀ (wl11 : World) (junk : Nat → Value) (s72_ : Value), I11 s72_ wl11 →
 S.op (.bin .lss 3 false true s72_ (.int .i64 32)) wl11 (fun v73 w =>
 Br v73 (
 S.op (.index 218 v71 s72_) w (fun v75 w =>
 S.op (.bin .neq 161 false true v75 .nilIface) w (fun v77 w =>
 Br v77 (
 S.op (.conv 3 22 s72_) w (fun v80 w =>
 S.op (.bin .neq 22 false false v80 v25) w (fun v82 w =>
 Br v82 (
 S.op (.nilCheck v67) w (fun v85 w =>
 S.op (.fieldAddr 216 v85 0) w (fun v86 w =>
 S.op (.load 22 v86) w (fun v87 w =>
 S.op (.conv 3 187 s72_) w (fun v89 w =>
 S.op (.bin .shl 22 true false (.int .u32 1) v89) w (fun v90 w =>
 S.op (.bin .or 22 false false v87 v90) w (fun v91 w =>
 S.op (.nilCheck v67) w (fun v92 w =>
 S.op (.fieldAddr 216 v92 0) w (fun v93 w =>
 S.op (.store 22 v93 v91) w (fun _ w =>
 S.op (.nilCheck v67) w (fun v96 w =>
 S.op (.fieldAddr 216 v96 1) w (fun v97 w =>
 S.op (.load 214 v97) w (fun v98 w =>
 S.op (.buildSlice 214 1 [(0, v75)]) w (fun v100 w =>
 S.op (.blt .append [214, 214] 214 [v98, v100]) w (fun v101 w =>
 S.op (.nilCheck v67) w (fun v102 w =>
 S.op (.fieldAddr 216 v102 1) w (fun v103 w =>
 S.op (.store 214 v103 v101) w (fun _ w =>
 S.op (.bin .add 3 false true s72_ (.int .i64 1)) w (fun v104 w =>
 I11 v104 w ∧ μ11 v104 w < μ11 s72_ wl11) Kp) Kp) Kp) Kp) Kp) Kp) Kp) Kp) Kp) Kp) Kp) Kp) Kp) Kp) Kp) Kp) Kp) Kp) (
 S.op (.bin .add 3 false true s72_ (.int .i64 1)) w (fun v104 w =>
 I11 v104 w ∧ μ11 v104 w < μ11 s72_ wl11) Kp)) Kp) Kp) (
 S.op (.bin .add 3 false true s72_ (.int .i64 1)) w (fun v104 w =>
 I11 v104 w ∧ μ11 v104 w < μ11 s72_ wl11) Kp)) Kp) Kp) (
 S.op (.mkIface 213 v67) w (fun v106 w =>
 K v106 w) Kp)) Kp) Kp) Kp) Kp) Kp) Kp) Kp) Kp) Kp) Kp) Kp) (
 J18 w)) Kp) Kp) Kp) Kp) (
 J18 w)) Kp) ∧
 (∀ (w : World) (junk : Nat → Value), J18 w →
 S.op (.un .not a5) w (fun v109 w =>
 Br v109 (
 S.call (.fn 157) [a0] w (fun v111 w =>
 S.op (.nilCheck v111) w (fun v115 w =>
 S.op (.fieldAddr 220 v115 1) w (fun v116 w =>
 S.op (.indexAddr 218 v116 v25) w (fun v117 w =>
 S.op (.store 161 v117 v44) w (fun _ w =>
 S.op (.bin .eql 161 false true v44 .nilIface) w (fun v119 w =>
 Br v119 (
 S.op (.nilCheck v111) w (fun v121 w =>
 S.op (.fieldAddr 220 v121 0) w (fun v122 w =>
 S.op (.load 187 v122) w (fun v123 w =>
 S.op (.bin .sub 187 false true v123 (.int .u64 1)) w (fun v124 w =>
 S.op (.nilCheck v111) w (fun v125 w =>
 S.op (.fieldAddr 220 v125 0) w (fun v126 w =>
 S.op (.store 187 v126 v124) w (fun _ w =>
 S.op (.mkIface 217 v111) w (fun v128 w =>
 K v128 w) Kp) Kp) Kp) Kp) Kp) Kp) Kp) Kp) (
 S.op (.mkIface 217 v111) w (fun v128 w =>
 K v128 w) Kp)) Kp) Kp) Kp) Kp) Kp) Kp) (
 S.op (.nilCheck a0) w (fun v115 w =>
 S.op (.fieldAddr 220 v115 1) w (fun v116 w =>
 S.op (.indexAddr 218 v116 v25) w (fun v117 w =>
 S.op (.store 161 v117 v44) w (fun _ w =>
 S.op (.bin .eql 161 false true v44 .nilIface) w (fun v119 w =>
 Br v119 (
 S.op (.nilCheck a0) w (fun v121 w =>
 S.op (.fieldAddr 220 v121 0) w (fun v122 w =>
 S.op (.load 187 v122) w (fun v123 w =>
 S.op (.bin .sub 187 false true v123 (.int .u64 1)) w (fun v124 w =>
 S.op (.nilCheck a0) w (fun v125 w =>
 S.op (.fieldAddr 220 v125 0) w (fun v126 w =>
 S.op (.store 187 v126 v124) w (fun _ w =>
 S.op (.mkIface 217 a0) w (fun v128 w =>
 K v128 w) Kp) Kp) Kp) Kp) Kp) Kp) Kp) Kp) (
 S.op (.mkIface 217 a0) w (fun v128 w =>
 K v128 w) Kp)) Kp) Kp) Kp) Kp) Kp)) Kp))) Kp) Kp) Kp) Kp) Kp)) Kp) Kp) Kp) Kp) Kp) Kp) Kp
theorem vc158_eq (S : Sig) (a0 a1 a2 a3 a4 a5 a6 : Value) (w : World) (K : Value → World → Prop) (Kp : KP) : vc158 S a0 a1 a2 a3 a4 a5 a6 w K Kp = fVC S [(11, [72])] [(18, [])] Try.f158 [a0, a1, a2, a3, a4, a5, a6] w K Kp := by kernel_rfl
theorem vc158_calls {a0 a1 a2 a3 a4 a5 a6 : Value} {w : World} {K : Value → World → Prop} {Kp : KP} (h : vc158 (nice Try.prog) a0 a1 a2 a3 a4 a5 a6 w K Kp) : Calls Try.prog 158 #[a0, a1, a2, a3, a4, a5, a6] w (ret K Kp) :=
 fVC_sound (args := [a0, a1, a2, a3, a4, a5, a6]) nice_le follows_MVcT Try.func158 (by kernel_rfl) (Eq.mp (vc158_eq _ _ _ _ _ _ _ _ _ _ _) h)

def vc160 (S : Sig) (a0 a1 a2 a3 a4 a5 a6 a7 : Value) (w : World) (K : Value → World → Prop) (Kp : KP) : Prop :=
 S.op (.bin .shr 22 false false a4 a3) w (fun v23 w =>
 S.op (.bin .and 22 false true v23 (.int .u32 31)) w (fun v24 w =>
 S.op (.nilCheck a0) w (fun v27 w =>
 S.op (.fieldAddr 220 v27 1) w (fun v28 w =>
 S.op (.indexAddr 218 v28 v24) w (fun v29 w =>
 S.op (.load 161 v29) w (fun v30 w =>
 Jn fun (J8 : Value → World → Prop) =>
 (S.op (.bin .eql 161 false true v30 .nilIface) w (fun v32 w =>
 Br v32 (
 S.op (.nilCheck a7) w (fun v34 w =>
 S.op (.store 4 v34 (.bool true)) w (fun _ w =>
 S.call (.fn 135) [a4, a1, a2] w (fun v38 w =>
 S.op (.mkIface 179 v38) w (fun v39 w =>
 J8 v39 w) Kp) Kp) Kp) Kp) (
 S.op (.bin .add 187 false true a3 (.int .u64 5)) w (fun v44 w =>
 S.call (.inv v30 "pub-bracken/pub/immutable.set") [a1, a2, v44, a4, a5, a6, a7] w (fun v49 w =>
 J8 v49 w) Kp) Kp)) Kp) ∧
 (∀ (w : World) (junk : Nat → Value) (j19_newNode : Value), J8 j19_newNode w →
 Jn fun (J11 : Value → World → Prop) =>
 (S.op (.un .not a6) w (fun v52 w =>
 Br v52 (
 S.call (.fn 157) [a0] w (fun v54 w =>
 J11 v54 w) Kp) (
 J11 a0 w)) Kp) ∧
 (∀ (w : World) (junk : Nat → Value) (j20_other : Value), J11 j20_other w →
 S.op (.bin .eql 161 false true v30 .nilIface) w (fun v56 w =>
 Br v56 (
 S.op (.nilCheck j20_other) w (fun v58 w =>
 S.op (.fieldAddr 220 v58 0) w (fun v59 w =>
 S.op (.load 187 v59) w (fun v60 w =>
 S.op (.bin .add 187 false true v60 (.int .u64 1)) w (fun v61 w =>
 S.op (.nilCheck j20_other) w (fun v62 w =>
 S.op (.fieldAddr 220 v62 0) w (fun v63 w =>
 S.op (.store 187 v63 v61) w (fun _ w =>
 S.op (.nilCheck j20_other) w (fun v67 w =>
 S.op (.fieldAddr 220 v67 1) w (fun v68 w =>
 S.op (.indexAddr 218 v68 v24) w (fun v69 w =>
 S.op (.store 161 v69 j19_newNode) w (fun _ w =>
 S.op (.mkIface 217 j20_other) w (fun v71 w =>
 K v71 w) Kp) Kp) Kp) Kp) Kp) Kp) Kp) Kp) Kp) Kp) Kp) Kp) (
 S.op (.nilCheck j20_other) w (fun v67 w =>
 S.op (.fieldAddr 220 v67 1) w (fun v68 w =>
 S.op (.indexAddr 218 v68 v24) w (fun v69 w =>
 S.op (.store 161 v69 j19_newNode) w (fun _ w =>
 S.op (.mkIface 217 j20_other) w (fun v71 w =>
 K v71 w) Kp) Kp) Kp) Kp) Kp)) Kp))) Kp) Kp) Kp) Kp) Kp) Kp
theorem vc160_eq (S : Sig) (a0 a1 a2 a3 a4 a5 a6 a7 : Value) (w : World) (K : Value → World → Prop) (Kp : KP) : vc160 S a0 a1 a2 a3 a4 a5 a6 a7 w K Kp = fVC S [] [(8, [19]), (11, [20])] Try.f160 [a0, a1, a2, a3, a4, a5, a6, a7] w K Kp := by kernel_rfl
theorem vc160_calls {a0 a1 a2 a3 a4 a5 a6 a7 : Value} {w : World} {K : Value → World → Prop} {Kp : KP} (h : vc160 (nice Try.prog) a0 a1 a2 a3 a4 a5 a6 a7 w K Kp) : Calls Try.prog 160 #[a0, a1, a2, a3, a4, a5, a6, a7] w (ret K Kp) :=
 fVC_sound (args := [a0, a1, a2, a3, a4, a5, a6, a7]) nice_le follows_MVcT Try.func160 (by kernel_rfl) (Eq.mp (vc160_eq _ _ _ _ _ _ _ _ _ _ _ _) h)

def vc164 (S : Sig) (a0 : Value) (w : World) (K : Value → World → Prop) (Kp : KP) : Prop :=
 Lp fun (I3 : Value → Value → World → Prop) (μ3 : Value → Value → World → Nat) => I3 (.int .u32 0) (.int .i64 0) w ∧
 ∀ (wl3 : World) (junk : Nat → Value) (s3_hash : Value) (s4_i : Value), I3 s3_hash s4_i wl3 →
 S.op (.blt .len [9] 3 [a0]) wl3 (fun v9 w =>
 S.op (.bin .lss 3 false false s4_i v9) w (fun v10 w =>
 Br v10 (
 S.op (.bin .mul 22 true false (.int .u32 31) s3_hash) w (fun v14 w =>
 S.op (.index 9 a0 s4_i) w (fun v17 w =>
 S.op (.conv 5 22 v17) w (fun v18 w =>
 S.op (.bin .add 22 false false v14 v18) w (fun v19 w =>
 S.op (.bin .add 3 false true s4_i (.int .i64 1)) w (fun v12 w =>
 I3 v19 v12 w ∧ μ3 v19 v12 w < μ3 s3_hash s4_i wl3) Kp) Kp) Kp) Kp) Kp) (
 K s3_hash w)) Kp) Kp
theorem vc164_eq (S : Sig) (a0 : Value) (w : World) (K : Value → World → Prop) (Kp : KP) : vc164 S a0 w K Kp = fVC S [(3, [3, 4])] [] Try.f164 [a0] w K Kp := by kernel_rfl
theorem vc164_calls {a0 : Value} {w : World} {K : Value → World → Prop} {Kp : KP} (h : vc164 (nice Try.prog) a0 w K Kp) : Calls Try.prog 164 #[a0] w (ret K Kp) :=
 fVC_sound (args := [a0]) nice_le follows_MVcT Try.func164 (by kernel_rfl) (Eq.mp (vc164_eq _ _ _ _ _) h)

def vc165 (S : Sig) (a0 a1 a2 : Value) (w : World) (K : Value → World → Prop) (Kp : KP) : Prop :=
 S.op (.mkIface 9 a1) w (fun v8 w =>
 S.op (.mkIface 9 a2) w (fun v10 w =>
 S.op (.bin .eql 20 false false v8 v10) w (fun v11 w =>
 K v11 w) Kp) Kp) Kp
theorem vc165_eq (S : Sig) (a0 a1 a2 : Value) (w : World) (K : Value → World → Prop) (Kp : KP) : vc165 S a0 a1 a2 w K Kp = fVC S [] [] Try.f165 [a0, a1, a2] w K Kp := by kernel_rfl
theorem vc165_calls {a0 a1 a2 : Value} {w : World} {K : Value → World → Prop} {Kp : KP} (h : vc165 (nice Try.prog) a0 a1 a2 w K Kp) : Calls Try.prog 165 #[a0, a1, a2] w (ret K Kp) :=
 fVC_sound (args := [a0, a1, a2]) nice_le follows_MVcT Try.func165 (by kernel_rfl) (Eq.mp (vc165_eq _ _ _ _ _ _ _) h)

def vc166 (S : Sig) (a0 a1 : Value) (w : World) (K : Value → World → Prop) (Kp : KP) : Prop :=
 S.op (.mkIface 9 a1) w (fun v18 w =>
 S.op (.tassert v18 20 3 true) w (fun v19 w =>
 S.op (.extract v19 1) w (fun v20 w =>
 S.op (.extract v19 0) w (fun v21 w =>
 Br v20 (
 S.op (.conv 3 234 v21) w (fun v23 w =>
 S.call (.fn 163) [v23] w (fun v24 w =>
 K v24 w) Kp) Kp) (
 S.op (.tassert v18 20 231 true) w (fun v25 w =>
 S.op (.extract v25 1) w (fun v26 w =>
 S.op (.extract v25 0) w (fun v27 w =>
 Br v26 (
 S.op (.conv 231 234 v27) w (fun v29 w =>
 S.call (.fn 163) [v29] w (fun v30 w =>
 K v30 w) Kp) Kp) (
 S.op (.tassert v18 20 232 true) w (fun v31 w =>
 S.op (.extract v31 1) w (fun v32 w =>
 S.op (.extract v31 0) w (fun v33 w =>
 Br v32 (
 S.op (.conv 232 234 v33) w (fun v35 w =>
 S.call (.fn 163) [v35] w (fun v36 w =>
 K v36 w) Kp) Kp) (
 S.op (.tassert v18 20 21 true) w (fun v37 w =>
 S.op (.extract v37 1) w (fun v38 w =>
 S.op (.extract v37 0) w (fun v39 w =>
 Br v38 (
 S.op (.conv 21 234 v39) w (fun v41 w =>
 S.call (.fn 163) [v41] w (fun v42 w =>
 K v42 w) Kp) Kp) (
 S.op (.tassert v18 20 2 true) w (fun v43 w =>
 S.op (.extract v43 1) w (fun v44 w =>
 S.op (.extract v43 0) w (fun v45 w =>
 Br v44 (
 S.op (.conv 2 234 v45) w (fun v47 w =>
 S.call (.fn 163) [v47] w (fun v48 w =>
 K v48 w) Kp) Kp) (
 S.op (.tassert v18 20 187 true) w (fun v49 w =>
 S.op (.extract v49 1) w (fun v50 w =>
 S.op (.extract v49 0) w (fun v51 w =>
 Br v50 (
 S.call (.fn 163) [v51] w (fun v53 w =>
 K v53 w) Kp) (
 S.op (.tassert v18 20 5 true) w (fun v54 w =>
 S.op (.extract v54 1) w (fun v55 w =>
 S.op (.extract v54 0) w (fun v56 w =>
 Br v55 (
 S.op (.conv 5 234 v56) w (fun v58 w =>
 S.call (.fn 163) [v58] w (fun v59 w =>
 K v59 w) Kp) Kp) (
 S.op (.tassert v18 20 233 true) w (fun v60 w =>
 S.op (.extract v60 1) w (fun v61 w =>
 S.op (.extract v60 0) w (fun v62 w =>
 Br v61 (
 S.op (.conv 233 234 v62) w (fun v64 w =>
 S.call (.fn 163) [v64] w (fun v65 w =>
 K v65 w) Kp) Kp) (
 S.op (.tassert v18 20 22 true) w (fun v66 w =>
 S.op (.extract v66 1) w (fun v67 w =>
 S.op (.extract v66 0) w (fun v68 w =>
 Br v67 (
 S.op (.conv 22 234 v68) w (fun v70 w =>
 S.call (.fn 163) [v70] w (fun v71 w =>
 K v71 w) Kp) Kp) (
 S.op (.tassert v18 20 234 true) w (fun v72 w =>
 S.op (.extract v72 1) w (fun v73 w =>
 S.op (.extract v72 0) w (fun v74 w =>
 Br v73 (
 S.call (.fn 163) [v74] w (fun v76 w =>
 K v76 w) Kp) (
 S.op (.tassert v18 20 12 true) w (fun v77 w =>
 S.op (.extract v77 1) w (fun v78 w =>
 S.op (.extract v77 0) w (fun v79 w =>
 Br v78 (
 S.call (.fn 163) [v79] w (fun v81 w =>
 K v81 w) Kp) (
 S.op (.tassert v18 20 9 true) w (fun v82 w =>
 S.op (.extract v82 1) w (fun v83 w =>
 S.op (.extract v82 0) w (fun v84 w =>
 Br v83 (
 S.call (.fn 164) [v84] w (fun v86 w =>
 K v86 w) Kp) (
 S.op (.mkIface 9 (.string { data := #[105, 109, 109, 117, 116, 97, 98, 108, 101, 46, 100, 101, 102, 97, 117, 108, 116, 72, 97, 115, 104, 101, 114, 46, 72, 97, 115, 104, 58, 32, 109, 117, 115, 116, 32, 115, 101, 116, 32, 99, 111, 109, 112, 97, 114, 101, 114, 32, 102, 111, 114, 32, 37, 84, 32, 116, 121, 112, 101] })) w (fun v87 w =>
 S.op (.panic v87) w (fun _ w =>
 K (.int .u32 0) w) Kp) Kp)) Kp) Kp) Kp)) Kp) Kp) Kp)) Kp) Kp) Kp)) Kp) Kp) Kp)) Kp) Kp) Kp)) Kp) Kp) Kp)) Kp) Kp) Kp)) Kp) Kp) Kp)) Kp) Kp) Kp)) Kp) Kp) Kp)) Kp) Kp) Kp)) Kp) Kp) Kp) Kp
theorem vc166_eq (S : Sig) (a0 a1 : Value) (w : World) (K : Value → World → Prop) (Kp : KP) : vc166 S a0 a1 w K Kp = fVC S [] [] Try.f166 [a0, a1] w K Kp := by kernel_rfl
theorem vc166_calls {a0 a1 : Value} {w : World} {K : Value → World → Prop} {Kp : KP} (h : vc166 (nice Try.prog) a0 a1 w K Kp) : Calls Try.prog 166 #[a0, a1] w (ret K Kp) :=
 fVC_sound (args := [a0, a1]) nice_le follows_MVcT Try.func166 (by kernel_rfl) (Eq.mp (vc166_eq _ _ _ _ _ _) h)

end Go.Proofs.Ytbghmbbhkoniiaa
end
section
/- The nodes of a map's trie in the heap; what looking a key up in them does. -/
set_option maxRecDepth 100000
set_option linter.unusedSimpArgs false
set_option linter.unusedVariables false
set_option linter.unusedSectionVars false
namespace Go.Proofs.Ytbghmbbhkoniiaa.T
open Go.Vc Go.Proofs Go.Proofs.Ytbghmbbhkoniiaa Go.Vc.Nd

abbrev Ky := {s : ByteArray // s.size ≤ 1000}
abbrev Vl := Int
def ek (k : Ky) : Value := .string k.1
def ev (v : Vl) : Value := .int .i64 v
def zv : Value := .int .i64 0
abbrev Tr := Nd Ky Vl
def ent (e : Ky × Vl) : List Value := [ek e.1, ev e.2]
theorem ent_len (e : Ky × Vl) : (ent e).length = 2 := rfl
theorem one_ek (k : Ky) : (ek k).oneCell' = true := rfl
theorem one_ev (v : Vl) : (ev v).oneCell' = true := rfl
def ents (es : List (Ky × Vl)) : List Value := es.flatMap ent
theorem ents_len (es : List (Ky × Vl)) : (ents es).length = es.length * 2 := flatMap_len ent_len es
theorem ents_get {es : List (Ky × Vl)} {i r : Nat} (hi : i < es.length) (hr : r < 2) : (ents es)[i * 2 + r]? = (ent es[i])[r]? := flatMap_get ent_len es i r hi hr
theorem ents_one {es : List (Ky × Vl)} : ∀ u ∈ ents es, u.oneCell' = true := fun u hu => by
  obtain ⟨e, _, he⟩ := List.mem_flatMap.1 hu
  simp only [ent, List.mem_cons, List.not_mem_nil, or_false] at he
  rcases he with rfl | rfl <;> rfl
def ptr (b : Nat) : Value := .pointer (some ⟨b, 0, none⟩)

@[simp] theorem op_ent (a : Ky) (c : Vl) {w : World} {K : Value → World → Prop} {Kp : KP} : (nice Try.prog).op (.build 175 [(0, ek a), (1, ev c)]) w K Kp = K (.agg #[ek a, ev c]) w := op_build_175_0_1 (one_ek a) (one_ev c)
@[simp] theorem pur_ent (a : Ky) (c : Vl) {K1 : Value → Prop} : (nice Try.prog).pur (.build 175 [(0, ek a), (1, ev c)]) K1 = K1 (.agg #[ek a, ev c]) := pur_build_175_0_1 (one_ek a) (one_ev c)

@[simp] theorem pur_valB (a : Ky) (c : Vl) {h : Nat} {K1 : Value → Prop} : (nice Try.prog).pur (.build 181 [(0, .int .u32 h), (1, ek a), (2, ev c)]) K1 = K1 (.agg #[.int .u32 h, ek a, ev c]) := pur_build_181_0_1_2 one_int (one_ek a) (one_ev c)
theorem apE : apOf Try.prog 176 = some (175, 2, 24) := by kernel_rfl
theorem apN : apOf Try.prog 214 = some (161, 1, 16) := by kernel_rfl

structure IsH (hv : Value) (hash : Ky → Nat) : Prop where
  lt : ∀ k, hash k < 2 ^ 32
  eqv : ∀ {a b : Ky} {w : World} {K : Value → World → Prop} {Kp : KP}, (∀ w', Frm (fun _ => False) w w' → K (.bool (decide (a = b))) w') → (nice Try.prog).call (.inv hv "Equal") [ek a, ek b] w K Kp
  hsh : ∀ {k : Ky} {w : World} {K : Value → World → Prop} {Kp : KP}, (∀ w', Frm (fun _ => False) w w' → K (.int .u32 (hash k)) w') → (nice Try.prog).call (.inv hv "Hash") [ek k] w K Kp
  nilE : ∀ {K1 : Value → Prop}, (nice Try.prog).pur (.nilCheck (.func (.method "Equal") #[hv] #[])) K1 = K1 (.func (.method "Equal") #[hv] #[])
  iface : ∃ t p, hv = .iface t p

def Rep (w : World) : Tr → Value → (Nat → Prop) → Prop
  | .emp, v, F => v = .nilIface
  | .arr es, v, F => ∃ b g cap, v = .iface 172 (ptr b) ∧ F b ∧ F g ∧ g ≠ b ∧ w.heap[b]? = some (.cells #[.slice (some ⟨g, 0, none⟩) es.length cap] 178 (0, 0)) ∧ es.length ≤ cap ∧ Rw w 175 2 g cap (ents es)
  | .val h k x, v, F => ∃ b, v = .iface 179 (ptr b) ∧ F b ∧ w.heap[b]? = some (.cells #[.int .u32 h, ek k, ev x] 181 (0, 0))
  | .col h es, v, F => ∃ b g cap, v = .iface 182 (ptr b) ∧ F b ∧ F g ∧ g ≠ b ∧ w.heap[b]? = some (.cells #[.int .u32 h, .slice (some ⟨g, 0, none⟩) es.length cap] 184 (0, 0)) ∧ es.length ≤ cap ∧ Rw w 175 2 g cap (ents es)
  | .br false f, v, F => ∃ b g cap, ∃ vs : Nat → Value, ∃ Fs : Nat → Nat → Prop, v = .iface 213 (ptr b) ∧ F b ∧ F g ∧ g ≠ b ∧ w.heap[b]? = some (.cells #[.int .u32 (bm f), .slice (some ⟨g, 0, none⟩) (cnt f) cap] 216 (0, 0)) ∧ cnt f ≤ cap ∧ Rw w 161 1 g cap (kids f vs) ∧
      (∀ i, i < 32 → Rep w (f i) (vs i) (Fs i)) ∧ ∀ i, i < 32 → ∀ c, Fs i c → F c ∧ c ≠ b ∧ c ≠ g ∧ ∀ k, k < 32 → k ≠ i → ¬ Fs k c
  | .br true f, v, F => ∃ b cs, ∃ vs : Nat → Value, ∃ Fs : Nat → Nat → Prop, v = .iface 217 (ptr b) ∧ F b ∧ w.heap[b]? = some (.cells cs 220 (0, 0)) ∧ cs.size = 33 ∧ cs[0]? = some (.int .u64 (cnt f)) ∧ (∀ i, i < 32 → cs[i + 1]? = some (vs i)) ∧
      (∀ i, i < 32 → Rep w (f i) (vs i) (Fs i)) ∧ ∀ i, i < 32 → ∀ c, Fs i c → F c ∧ c ≠ b ∧ ∀ k, k < 32 → k ≠ i → ¬ Fs k c

variable {w w' : World} {v hv : Value} {t : Tr} {F F' : Nat → Prop} {K : Value → World → Prop} {Kp : KP} {hash : Ky → Nat} {k : Ky} {x : Vl} {l : Nat}
theorem Rep.mono : ∀ {t : Tr} {v : Value} {F F' : Nat → Prop}, Rep w t v F → (∀ b, F b → F' b) → (∀ b o, F b → w.heap[b]? = some o → w'.heap[b]? = some o) → Rep w' t v F'
  | .emp, v, F, F', h, hF, hw => h
  | .arr es, v, F, F', h, hF, hw => by
    obtain ⟨b, g, cap, h1, h2, h3, h4, h5, h6, h7⟩ := h
    exact ⟨b, g, cap, h1, hF _ h2, hF _ h3, h4, hw _ _ h2 h5, h6, h7.keep fun o => hw _ _ h3⟩
  | .val h' k x, v, F, F', h, hF, hw => by
    obtain ⟨b, h1, h2, h3⟩ := h
    exact ⟨b, h1, hF _ h2, hw _ _ h2 h3⟩
  | .col h' es, v, F, F', h, hF, hw => by
    obtain ⟨b, g, cap, h1, h2, h3, h4, h5, h6, h7⟩ := h
    exact ⟨b, g, cap, h1, hF _ h2, hF _ h3, h4, hw _ _ h2 h5, h6, h7.keep fun o => hw _ _ h3⟩
  | .br false f, v, F, F', h, hF, hw => by
    obtain ⟨b, g, cap, vs, Fs, h1, h2, h3, h4, h5, h6, h7, h8, h9⟩ := h
    exact ⟨b, g, cap, vs, Fs, h1, hF _ h2, hF _ h3, h4, hw _ _ h2 h5, h6, h7.keep fun o => hw _ _ h3, fun i hi => (h8 i hi).mono (fun _ h => h) fun c o hc => hw c o (h9 i hi c hc).1,
      fun i hi c hc => ⟨hF _ (h9 i hi c hc).1, (h9 i hi c hc).2⟩⟩
  | .br true f, v, F, F', h, hF, hw => by
    obtain ⟨b, cs, vs, Fs, h1, h2, h3, h4, h5, h6, h7, h8⟩ := h
    exact ⟨b, cs, vs, Fs, h1, hF _ h2, hw _ _ h2 h3, h4, h5, h6, fun i hi => (h7 i hi).mono (fun _ h => h) fun c o hc => hw c o (h8 i hi c hc).1,
      fun i hi c hc => ⟨hF _ (h8 i hi c hc).1, (h8 i hi c hc).2⟩⟩
theorem Rep.frame {M : Nat → Prop} (h : Rep w t v F) (hf : Frm M w w') (hM : ∀ b, F b → ¬ M b) : Rep w' t v F :=
  h.mono (fun _ h => h) fun b o hb ho => hf.get ho (hM b hb)
theorem Rep.still (h : Rep w t v F) (hf : Frm (fun _ => False) w w') : Rep w' t v F := h.frame hf fun _ _ h => h
theorem Rep.lt : ∀ {t : Tr} {v : Value} {F : Nat → Prop}, Rep w t v F → Rep w t v (fun b => F b ∧ b < w.heap.size)
  | .emp, v, F, h => h
  | .arr es, v, F, h => by
    obtain ⟨b, g, cap, h1, h2, h3, h4, h5, h6, h7⟩ := h
    exact ⟨b, g, cap, h1, ⟨h2, lt_of_get h5⟩, ⟨h3, h7.lt⟩, h4, h5, h6, h7⟩
  | .val h' k x, v, F, h => by
    obtain ⟨b, h1, h2, h3⟩ := h
    exact ⟨b, h1, ⟨h2, lt_of_get h3⟩, h3⟩
  | .col h' es, v, F, h => by
    obtain ⟨b, g, cap, h1, h2, h3, h4, h5, h6, h7⟩ := h
    exact ⟨b, g, cap, h1, ⟨h2, lt_of_get h5⟩, ⟨h3, h7.lt⟩, h4, h5, h6, h7⟩
  | .br false f, v, F, h => by
    obtain ⟨b, g, cap, vs, Fs, h1, h2, h3, h4, h5, h6, h7, h8, h9⟩ := h
    exact ⟨b, g, cap, vs, fun i c => Fs i c ∧ c < w.heap.size, h1, ⟨h2, lt_of_get h5⟩, ⟨h3, h7.lt⟩, h4, h5, h6, h7, fun i hi => (h8 i hi).lt,
      fun i hi c hc => ⟨⟨(h9 i hi c hc.1).1, hc.2⟩, (h9 i hi c hc.1).2.1, (h9 i hi c hc.1).2.2.1, fun k hk hne h => (h9 i hi c hc.1).2.2.2 k hk hne h.1⟩⟩
  | .br true f, v, F, h => by
    obtain ⟨b, cs, vs, Fs, h1, h2, h3, h4, h5, h6, h7, h8⟩ := h
    exact ⟨b, cs, vs, fun i c => Fs i c ∧ c < w.heap.size, h1, ⟨h2, lt_of_get h3⟩, h3, h4, h5, h6, fun i hi => (h7 i hi).lt,
      fun i hi c hc => ⟨⟨(h8 i hi c hc.1).1, hc.2⟩, (h8 i hi c hc.1).2.1, fun k hk hne h => (h8 i hi c hc.1).2.2 k hk hne h.1⟩⟩
theorem Rep.iface (h : Rep w t v F) (ht : t ≠ .emp) : ∃ u b, v = .iface u (ptr b) := by
  cases t with
  | emp => exact absurd rfl ht
  | arr es => obtain ⟨b, g, cap, h1, _⟩ := h; exact ⟨_, _, h1⟩
  | val h' k x => obtain ⟨b, h1, _⟩ := h; exact ⟨_, _, h1⟩
  | col h' es => obtain ⟨b, g, cap, h1, _⟩ := h; exact ⟨_, _, h1⟩
  | br hs f => cases hs with
    | true => obtain ⟨b, cs, vs, Fs, h1, _⟩ := h; exact ⟨_, _, h1⟩
    | false => obtain ⟨b, g, cap, vs, Fs, h1, _⟩ := h; exact ⟨_, _, h1⟩
theorem Rep.nil (h : Rep w .emp v F) : v = .nilIface := h
theorem Rep.one (h : Rep w t v F) : v.oneCell' = true := by
  by_cases ht : t = .emp
  · subst ht; rw [h.nil]; rfl
  · obtain ⟨u, b, rfl⟩ := h.iface ht; rfl
theorem find_at {es : List (Ky × Vl)} {j : Nat} (hj : j < es.length) (h1 : ∀ i (hi : i < j), es[i].1 ≠ k) (h2 : es[j].1 = k) : find es k = some j := by
  rw [find, List.findIdx?_eq_some_iff_getElem]
  exact ⟨hj, by simpa using h2, fun i hi => by simpa using h1 i hi⟩
def idxV (o : Option Nat) : Value := match o with
  | some i => .int .i64 i
  | none => .int .i64 (-1)
theorem key_cell {g cap : Nat} {es : List (Ky × Vl)} (h : Rw w 175 2 g cap (ents es)) : ∃ cur, w.heap[g]? = some (.cells cur 175 (0, 0)) ∧ ∀ j (hj : j < es.length), cur[j * 2]? = some (ek es[j].1) ∧ cur[j * 2 + 1]? = if 1 < 2 then some (ev es[j].2) else cur[j * 2 + 1]? := by
  obtain ⟨cur, h1, h2, h3⟩ := h.cells
  refine ⟨cur, h1, fun j hj => ⟨?_, ?_⟩⟩
  · rw [h3 _ (by rw [ents_len]; omega)]
    have := ents_get (r := 0) hj (by decide)
    rw [Nat.add_zero] at this
    rw [this]; rfl
  · split
    · rw [h3 _ (by rw [ents_len]; omega), ents_get hj (by assumption)]; rfl
    · rfl
theorem wrap_i64_small {n : Int} (h0 : 0 ≤ n) (h1 : n < 9223372036854775808) : IntKind.i64.wrap n = n := by rw [IntKind.wrap_i64]; omega
def natOf : Value → Nat
  | .int _ j => j.toNat
  | _ => 0
theorem indexA_ok {b g cap : Nat} {es : List (Ky × Vl)} (hH : IsH hv hash) (hb : w.heap[b]? = some (.cells #[.slice (some ⟨g, 0, none⟩) es.length cap] 178 (0, 0))) (hg : Rw w 175 2 g cap (ents es)) (h6 : es.length ≤ cap)
    (hK : ∀ w', Frm (fun _ => False) w w' → K (idxV (find es k)) w') : Calls Try.prog 133 #[ptr b, ek k, hv] w (ret K Kp) := by
  have hc := hg.cap_le h6
  refine vc133_calls ?_
  simp [-getElem?_pos, -Array.getElem?_eq_getElem, vc133, ptr, add_spot, hb, and_assoc]
  obtain ⟨I, hI⟩ : ∃ I : Value → World → Prop, ∀ s wl, I s wl ↔ ∃ j : Nat, s = Value.int .i64 j ∧ j ≤ es.length ∧ Frm (fun _ => False) w wl ∧ ∀ i (_ : i < j) (hi : i < es.length), es[i].1 ≠ k := ⟨_, fun _ _ => Iff.rfl⟩
  refine Lp.intro I (fun s _ => es.length - natOf s) ⟨(hI _ _).2 ⟨0, rfl, by omega, Frm.refl, fun i hi => by omega⟩, ?_⟩
  intro wl s hs
  obtain ⟨j, rfl, hj, hf, hno⟩ := (hI _ _).1 hs
  simp only [op_lss, Br_dec]
  refine ⟨fun hlt => ?_, fun hge => ?_⟩
  · have hlt' : j < es.length := by omega
    have hb' := hf.get hb (fun h => h)
    obtain ⟨cur, hcur, hk⟩ := key_cell (hg.frame hf fun h => h)
    have hk' := (hk j hlt').1
    simp [-getElem?_pos, -Array.getElem?_eq_getElem, ptr, add_spot, hb', hcur, hk', hH.nilE, and_assoc]
    refine ⟨by omega, hH.eqv fun w' hf' => ?_⟩
    simp only [Br_dec]
    refine ⟨fun he => ?_, fun hne => ?_⟩
    · have := hK w' (Frm.no hf (Frm.dr hf'))
      rw [find_at hlt' (fun i hi => hno i hi (by omega)) he] at this
      exact this
    · rw [wrap_i64_small (by omega) (by omega)]
      refine ⟨(hI _ _).2 ⟨j + 1, by simp, by omega, Frm.no hf (Frm.dr hf'), fun i hi hi' => ?_⟩, ?_⟩
      · by_cases e : i = j
        · subst e; exact hne
        · exact hno i (by omega) hi'
      · simp only [natOf]; omega
  · have := hK wl hf
    rw [show find es k = none from Nd.find_none.2 fun e he => by obtain ⟨i, hi, rfl⟩ := List.mem_iff_getElem.1 he; exact hno i (by omega) hi] at this
    exact this
end Go.Proofs.Ytbghmbbhkoniiaa.T
end
section
/- Words of 32 bits as the code of a map's trie reckons with them. -/
set_option linter.unusedSimpArgs false
namespace Go.Vc
theorem and_u32 {a b : Nat} (ha : a < 2 ^ 32) (_hb : b < 2 ^ 32) : bitsV .and .u32 (a : Int) (b : Int) = ((a &&& b : Nat) : Int) := by
  have h : (BitVec.ofInt 32 (a : Int) &&& BitVec.ofInt 32 (b : Int)).toNat = a &&& b := by
    rw [BitVec.toNat_and, BitVec.toNat_ofInt, BitVec.toNat_ofInt]
    congr 1 <;> omega
  show IntKind.u32.wrap ((BitVec.ofInt 32 (a : Int) &&& BitVec.ofInt 32 (b : Int)).toNat : Int) = _
  rw [h, IntKind.wrap_u32]
  have : a &&& b ≤ a := Nat.and_le_left
  omega
theorem or_u32 {a b : Nat} (ha : a < 2 ^ 32) (hb : b < 2 ^ 32) : bitsV .or .u32 (a : Int) (b : Int) = ((a ||| b : Nat) : Int) := by
  have h : (BitVec.ofInt 32 (a : Int) ||| BitVec.ofInt 32 (b : Int)).toNat = a ||| b := by
    rw [BitVec.toNat_or, BitVec.toNat_ofInt, BitVec.toNat_ofInt]
    congr 1 <;> omega
  show IntKind.u32.wrap ((BitVec.ofInt 32 (a : Int) ||| BitVec.ofInt 32 (b : Int)).toNat : Int) = _
  rw [h, IntKind.wrap_u32]
  have := Nat.or_lt_two_pow ha hb
  omega
theorem xor_u32 {a b : Nat} (ha : a < 2 ^ 32) (hb : b < 2 ^ 32) : bitsV .xor .u32 (a : Int) (b : Int) = ((a ^^^ b : Nat) : Int) := by
  have h : (BitVec.ofInt 32 (a : Int) ^^^ BitVec.ofInt 32 (b : Int)).toNat = a ^^^ b := by
    rw [BitVec.toNat_xor, BitVec.toNat_ofInt, BitVec.toNat_ofInt]
    congr 1 <;> omega
  show IntKind.u32.wrap ((BitVec.ofInt 32 (a : Int) ^^^ BitVec.ofInt 32 (b : Int)).toNat : Int) = _
  rw [h, IntKind.wrap_u32]
  have := Nat.xor_lt_two_pow ha hb
  omega
theorem and31 {a : Nat} (ha : a < 2 ^ 32) : bitsV .and .u32 (a : Int) 31 = ((a % 32 : Nat) : Int) := by
  have := and_u32 ha (b := 31) (by decide)
  have e : a &&& 31 = a % 32 := Nat.and_two_pow_sub_one_eq_mod _ 5
  rw [e] at this
  exact this
theorem and255 {a : Nat} (ha : a < 2 ^ 32) : bitsV .and .u32 (a : Int) 255 = ((a % 256 : Nat) : Int) := by
  have := and_u32 ha (b := 255) (by decide)
  have e : a &&& 255 = a % 256 := Nat.and_two_pow_sub_one_eq_mod _ 8
  rw [e] at this
  exact this
theorem fdiv_pow (a s : Nat) : (a : Int).fdiv (2 ^ s) = ((a / 2 ^ s : Nat) : Int) := by
  rw [Int.fdiv_eq_ediv_of_nonneg _ (Int.le_of_lt (Int.pow_pos (by decide)))]
  simp
theorem frag_eq {h l s : Nat} (hh : h < 2 ^ 32) (hs : s = 5 * l) (hl : l ≤ 6) : bitsV .and .u32 ((h : Int).fdiv (2 ^ (min s IntKind.u32.bits))) 31 = (Nd.frag l h : Int) := by
  have hm : min s IntKind.u32.bits = s := Nat.min_eq_left (by show s ≤ 32; omega)
  rw [hm, fdiv_pow, and31 (Nat.lt_of_le_of_lt (Nat.div_le_self _ _) hh), Nd.frag, hs, Nat.pow_mul]
theorem two_pow_lt {i : Nat} (hi : i < 32) : 2 ^ i < 2 ^ 32 := Nat.pow_lt_pow_right (by decide) hi
theorem bit_eq {i : Nat} (hi : i < 32) : IntKind.u32.wrap (2 ^ (min i IntKind.u32.bits)) = ((2 ^ i : Nat) : Int) := by
  have hm : min i IntKind.u32.bits = i := Nat.min_eq_left (by show i ≤ 32; omega)
  have h3 := two_pow_lt hi
  have h2 : (2 : Int) ^ i = ((2 ^ i : Nat) : Int) := (Int.natCast_pow 2 i).symm
  rw [hm, IntKind.wrap_u32, h2]
  generalize 2 ^ i = y at *
  omega
theorem bit_less {i : Nat} (hi : i < 32) : IntKind.u32.wrap (((2 ^ i : Nat) : Int) - 1) = ((2 ^ i - 1 : Nat) : Int) := by
  have := two_pow_lt hi
  have h1 := Nat.pow_pos (n := i) (show 0 < 2 by decide)
  rw [IntKind.wrap_u32]; omega
theorem next_shift {s l : Nat} (hs : s = 5 * l) (hl : l ≤ 6) : IntKind.u64.wrap ((s : Int) + 5) = ((s + 5 : Nat) : Int) := by
  rw [IntKind.wrap_u64]; omega
end Go.Vc
end
section
set_option linter.unusedVariables false
set_option maxRecDepth 100000
namespace Go.Proofs.Ytbghmbbhkoniiaa
open Go.Vc Go.Proofs
private theorem follows_MVcB : Try.prog.follows .mixedOrders = true := by kernel_rfl

def vc149 (S : Sig) (a0 : Value) (w : World) (K : Value → World → Prop) (Kp : KP) : Prop :=
 S.pur (.bin .shr 22 false true a0 (.int .u64 24)) (fun v4 =>
 S.pur (.index 9 (.string { data := #[0, 1, 1, 2, 1, 2, 2, 3, 1, 2, 2, 3, 2, 3, 3, 4, 1, 2, 2, 3, 2, 3, 3, 4, 2, 3, 3, 4, 3, 4, 4, 5, 1, 2, 2, 3, 2, 3, 3, 4, 2, 3, 3, 4, 3, 4, 4, 5, 2, 3, 3, 4, 3, 4, 4, 5, 3, 4, 4, 5, 4, 5, 5, 6, 1, 2, 2, 3, 2, 3, 3, 4, 2, 3, 3, 4, 3, 4, 4, 5, 2, 3, 3, 4, 3, 4, 4, 5, 3, 4, 4, 5, 4, 5, 5, 6, 2, 3, 3, 4, 3, 4, 4, 5, 3, 4, 4, 5, 4, 5, 5, 6, 3, 4, 4, 5, 4, 5, 5, 6, 4, 5, 5, 6, 5, 6, 6, 7, 1, 2, 2, 3, 2, 3, 3, 4, 2, 3, 3, 4, 3, 4, 4, 5, 2, 3, 3, 4, 3, 4, 4, 5, 3, 4, 4, 5, 4, 5, 5, 6, 2, 3, 3, 4, 3, 4, 4, 5, 3, 4, 4, 5, 4, 5, 5, 6, 3, 4, 4, 5, 4, 5, 5, 6, 4, 5, 5, 6, 5, 6, 6, 7, 2, 3, 3, 4, 3, 4, 4, 5, 3, 4, 4, 5, 4, 5, 5, 6, 3, 4, 4, 5, 4, 5, 5, 6, 4, 5, 5, 6, 5, 6, 6, 7, 3, 4, 4, 5, 4, 5, 5, 6, 4, 5, 5, 6, 5, 6, 6, 7, 4, 5, 5, 6, 5, 6, 6, 7, 5, 6, 6, 7, 6, 7, 7, 8] }) v4) (fun v5 =>
 S.pur (.bin .shr 22 false true a0 (.int .u64 16)) (fun v7 =>
 S.pur (.bin .and 22 false true v7 (.int .u32 255)) (fun v8 =>
 S.pur (.index 9 (.string { data := #[0, 1, 1, 2, 1, 2, 2, 3, 1, 2, 2, 3, 2, 3, 3, 4, 1, 2, 2, 3, 2, 3, 3, 4, 2, 3, 3, 4, 3, 4, 4, 5, 1, 2, 2, 3, 2, 3, 3, 4, 2, 3, 3, 4, 3, 4, 4, 5, 2, 3, 3, 4, 3, 4, 4, 5, 3, 4, 4, 5, 4, 5, 5, 6, 1, 2, 2, 3, 2, 3, 3, 4, 2, 3, 3, 4, 3, 4, 4, 5, 2, 3, 3, 4, 3, 4, 4, 5, 3, 4, 4, 5, 4, 5, 5, 6, 2, 3, 3, 4, 3, 4, 4, 5, 3, 4, 4, 5, 4, 5, 5, 6, 3, 4, 4, 5, 4, 5, 5, 6, 4, 5, 5, 6, 5, 6, 6, 7, 1, 2, 2, 3, 2, 3, 3, 4, 2, 3, 3, 4, 3, 4, 4, 5, 2, 3, 3, 4, 3, 4, 4, 5, 3, 4, 4, 5, 4, 5, 5, 6, 2, 3, 3, 4, 3, 4, 4, 5, 3, 4, 4, 5, 4, 5, 5, 6, 3, 4, 4, 5, 4, 5, 5, 6, 4, 5, 5, 6, 5, 6, 6, 7, 2, 3, 3, 4, 3, 4, 4, 5, 3, 4, 4, 5, 4, 5, 5, 6, 3, 4, 4, 5, 4, 5, 5, 6, 4, 5, 5, 6, 5, 6, 6, 7, 3, 4, 4, 5, 4, 5, 5, 6, 4, 5, 5, 6, 5, 6, 6, 7, 4, 5, 5, 6, 5, 6, 6, 7, 5, 6, 6, 7, 6, 7, 7, 8] }) v8) (fun v9 =>
 S.pur (.bin .add 5 false false v5 v9) (fun v10 =>
 S.pur (.bin .shr 22 false true a0 (.int .u64 8)) (fun v12 =>
 S.pur (.bin .and 22 false true v12 (.int .u32 255)) (fun v13 =>
 S.pur (.index 9 (.string { data := #[0, 1, 1, 2, 1, 2, 2, 3, 1, 2, 2, 3, 2, 3, 3, 4, 1, 2, 2, 3, 2, 3, 3, 4, 2, 3, 3, 4, 3, 4, 4, 5, 1, 2, 2, 3, 2, 3, 3, 4, 2, 3, 3, 4, 3, 4, 4, 5, 2, 3, 3, 4, 3, 4, 4, 5, 3, 4, 4, 5, 4, 5, 5, 6, 1, 2, 2, 3, 2, 3, 3, 4, 2, 3, 3, 4, 3, 4, 4, 5, 2, 3, 3, 4, 3, 4, 4, 5, 3, 4, 4, 5, 4, 5, 5, 6, 2, 3, 3, 4, 3, 4, 4, 5, 3, 4, 4, 5, 4, 5, 5, 6, 3, 4, 4, 5, 4, 5, 5, 6, 4, 5, 5, 6, 5, 6, 6, 7, 1, 2, 2, 3, 2, 3, 3, 4, 2, 3, 3, 4, 3, 4, 4, 5, 2, 3, 3, 4, 3, 4, 4, 5, 3, 4, 4, 5, 4, 5, 5, 6, 2, 3, 3, 4, 3, 4, 4, 5, 3, 4, 4, 5, 4, 5, 5, 6, 3, 4, 4, 5, 4, 5, 5, 6, 4, 5, 5, 6, 5, 6, 6, 7, 2, 3, 3, 4, 3, 4, 4, 5, 3, 4, 4, 5, 4, 5, 5, 6, 3, 4, 4, 5, 4, 5, 5, 6, 4, 5, 5, 6, 5, 6, 6, 7, 3, 4, 4, 5, 4, 5, 5, 6, 4, 5, 5, 6, 5, 6, 6, 7, 4, 5, 5, 6, 5, 6, 6, 7, 5, 6, 6, 7, 6, 7, 7, 8] }) v13) (fun v14 =>
 S.pur (.bin .add 5 false false v10 v14) (fun v15 =>
 S.pur (.bin .and 22 false true a0 (.int .u32 255)) (fun v17 =>
 S.pur (.index 9 (.string { data := #[0, 1, 1, 2, 1, 2, 2, 3, 1, 2, 2, 3, 2, 3, 3, 4, 1, 2, 2, 3, 2, 3, 3, 4, 2, 3, 3, 4, 3, 4, 4, 5, 1, 2, 2, 3, 2, 3, 3, 4, 2, 3, 3, 4, 3, 4, 4, 5, 2, 3, 3, 4, 3, 4, 4, 5, 3, 4, 4, 5, 4, 5, 5, 6, 1, 2, 2, 3, 2, 3, 3, 4, 2, 3, 3, 4, 3, 4, 4, 5, 2, 3, 3, 4, 3, 4, 4, 5, 3, 4, 4, 5, 4, 5, 5, 6, 2, 3, 3, 4, 3, 4, 4, 5, 3, 4, 4, 5, 4, 5, 5, 6, 3, 4, 4, 5, 4, 5, 5, 6, 4, 5, 5, 6, 5, 6, 6, 7, 1, 2, 2, 3, 2, 3, 3, 4, 2, 3, 3, 4, 3, 4, 4, 5, 2, 3, 3, 4, 3, 4, 4, 5, 3, 4, 4, 5, 4, 5, 5, 6, 2, 3, 3, 4, 3, 4, 4, 5, 3, 4, 4, 5, 4, 5, 5, 6, 3, 4, 4, 5, 4, 5, 5, 6, 4, 5, 5, 6, 5, 6, 6, 7, 2, 3, 3, 4, 3, 4, 4, 5, 3, 4, 4, 5, 4, 5, 5, 6, 3, 4, 4, 5, 4, 5, 5, 6, 4, 5, 5, 6, 5, 6, 6, 7, 3, 4, 4, 5, 4, 5, 5, 6, 4, 5, 5, 6, 5, 6, 6, 7, 4, 5, 5, 6, 5, 6, 6, 7, 5, 6, 6, 7, 6, 7, 7, 8] }) v17) (fun v18 =>
 S.pur (.bin .add 5 false false v15 v18) (fun v19 =>
 S.pur (.conv 5 3 v19) (fun v20 =>
 K v20 w.drew))))))))))))))
theorem vc149_eq (S : Sig) (a0 : Value) (w : World) (K : Value → World → Prop) (Kp : KP) : vc149 S a0 w K Kp = fVC S [] [] Try.f149 [a0] w K Kp := by kernel_rfl
theorem vc149_calls {a0 : Value} {w : World} {K : Value → World → Prop} {Kp : KP} (h : vc149 (nice Try.prog) a0 w K Kp) : Calls Try.prog 149 #[a0] w (ret K Kp) :=
 fVC_sound (args := [a0]) nice_le follows_MVcB Try.func149 (by kernel_rfl) (Eq.mp (vc149_eq _ _ _ _ _) h)

end Go.Proofs.Ytbghmbbhkoniiaa
end
section
/- Looking a key up in a node. -/
set_option maxRecDepth 100000
set_option linter.unusedSimpArgs false
set_option linter.unusedVariables false
set_option linter.unusedSectionVars false
namespace Go.Proofs.Ytbghmbbhkoniiaa.T
open Go.Vc Go.Proofs Go.Proofs.Ytbghmbbhkoniiaa Go.Vc.Nd
variable {w w' : World} {v hv : Value} {t : Tr} {F F' : Nat → Prop} {K : Value → World → Prop} {Kp : KP} {hash : Ky → Nat} {k : Ky} {x : Vl} {l : Nat}

theorem indexC_ok {b g cap : Nat} {hx : Value} {es : List (Ky × Vl)} (hH : IsH hv hash) (hb : w.heap[b]? = some (.cells #[hx, .slice (some ⟨g, 0, none⟩) es.length cap] 184 (0, 0))) (hg : Rw w 175 2 g cap (ents es)) (h6 : es.length ≤ cap)
    (hK : ∀ w', Frm (fun _ => False) w w' → K (idxV (find es k)) w') : Calls Try.prog 143 #[ptr b, ek k, hv] w (ret K Kp) := by
  have hc := hg.cap_le h6
  refine vc143_calls ?_
  simp [-getElem?_pos, -Array.getElem?_eq_getElem, vc143, ptr, add_spot, hb, and_assoc]
  obtain ⟨I, hI⟩ : ∃ I : Value → World → Prop, ∀ s wl, I s wl ↔ ∃ j : Nat, s = Value.int .i64 j ∧ j ≤ es.length ∧ Frm (fun _ => False) w wl ∧ ∀ i (_ : i < j) (hi : i < es.length), es[i].1 ≠ k := ⟨_, fun _ _ => Iff.rfl⟩
  refine Lp.intro I (fun s _ => es.length - natOf s) ⟨(hI _ _).2 ⟨0, rfl, by omega, Frm.refl, fun i hi => by omega⟩, ?_⟩
  intro wl s hs
  obtain ⟨j, rfl, hj, hf, hno⟩ := (hI _ _).1 hs
  simp only [op_lss, Br_dec]
  refine ⟨fun hlt => ?_, fun hge => ?_⟩
  · have hlt' : j < es.length := by omega
    have hb' := hf.get hb (fun h => h)
    obtain ⟨cur, hcur, hk⟩ := key_cell (hg.frame hf fun h => h)
    have hk' := (hk j hlt').1
    simp [-getElem?_pos, -Array.getElem?_eq_getElem, ptr, add_spot, hb', hcur, hk', hH.nilE, and_assoc]
    refine ⟨by omega, hH.eqv fun w' hf' => ?_⟩
    simp only [Br_dec]
    refine ⟨fun he => ?_, fun hne => ?_⟩
    · have := hK w' (Frm.no hf (Frm.dr hf'))
      rw [find_at hlt' (fun i hi => hno i hi (by omega)) he] at this
      exact this
    · rw [wrap_i64_small (by omega) (by omega)]
      refine ⟨(hI _ _).2 ⟨j + 1, by simp, by omega, Frm.no hf (Frm.dr hf'), fun i hi hi' => ?_⟩, ?_⟩
      · by_cases e : i = j
        · subst e; exact hne
        · exact hno i (by omega) hi'
      · simp only [natOf]; omega
  · have := hK wl hf
    rw [show find es k = none from Nd.find_none.2 fun e he => by obtain ⟨i, hi, rfl⟩ := List.mem_iff_getElem.1 he; exact hno i (by omega) hi] at this
    exact this

theorem pop_ok {x : Nat} (hx : x < 2 ^ 32) (hK : ∀ w', Frm (fun _ => False) w w' → K (.int .i64 (pop 32 x)) w') : Calls Try.prog 149 #[.int .u32 x] w (ret K Kp) := by
  refine vc149_calls ?_
  delta vc149
  generalize hs : (ByteArray.mk _) = s
  have hz : s.size = 256 := by rw [← hs]; rfl
  have ht : ∀ j, j < 256 → ((s[j]?).getD 0).toNat = pop 8 j := by
    have h : (List.range 256).all (fun j => ((s[j]?).getD 0).toNat == pop 8 j) = true := by rw [← hs]; kernel_rfl
    intro j hj
    have := List.all_eq_true.1 h j (List.mem_range.2 hj)
    simpa using this
  clear hs
  have e24 : (2 : Int) ^ min (Int.toNat 24) IntKind.u32.bits = 2 ^ 24 := rfl
  have e16 : (2 : Int) ^ min (Int.toNat 16) IntKind.u32.bits = 2 ^ 16 := rfl
  have e8 : (2 : Int) ^ min (Int.toNat 8) IntKind.u32.bits = 2 ^ 8 := rfl
  have f24 := fdiv_pow x 24
  have f16 := fdiv_pow x 16
  have f8 := fdiv_pow x 8
  have a16 := and255 (a := x / 2 ^ 16) (by omega)
  have a8 := and255 (a := x / 2 ^ 8) (by omega)
  have a0 := and255 (a := x) hx
  simp only [pur_shr, pur_and, pur_index_9, pur_add, pur_conv_5_3, e24, e16, e8, f24, f16, f8, a16, a8, a0, hz, Int.toNat_natCast]
  have p := pop_bytes x hx
  have l1 := pop_le 8 (x / 2 ^ 24)
  have l2 := pop_le 8 (x / 2 ^ 16 % 256)
  have l3 := pop_le 8 (x / 2 ^ 8 % 256)
  have l4 := pop_le 8 (x % 256)
  have t1 := ht (x / 2 ^ 24) (by omega)
  have t2 := ht (x / 2 ^ 16 % 256) (by omega)
  have t3 := ht (x / 2 ^ 8 % 256) (by omega)
  have t4 := ht (x % 256) (by omega)
  rw [t1, t2, t3, t4]
  refine ⟨by omega, by omega, by omega, by omega, by omega, by omega, by omega, ?_⟩
  have := hK w.drew (Frm.drew _)
  rw [p] at this
  simp only [IntKind.wrap_u8, IntKind.wrap_i64]
  refine (congrArg (fun z : Int => K (Value.int .i64 z) w.drew) ?_).mpr this
  omega

theorem look_find {es : List (Ky × Vl)} : Nd.look es k = (find es k).bind fun i => es[i]?.map (·.2) := by
  induction es with
  | nil => rfl
  | cons e es ih =>
    by_cases h : e.1 = k
    · simp [Nd.look, find, h, List.findIdx?_cons]
    · simp only [Nd.look, find, List.find?_cons, List.findIdx?_cons, decide_eq_false h] at ih ⊢
      rw [ih]
      cases List.findIdx? (fun e => decide (e.1 = k)) es <;> simp
theorem kid_cell {g cap : Nat} {f : Nat → Tr} {vs : Nat → Value} (h : Rw w 161 1 g cap (kids f vs)) : ∃ cur, w.heap[g]? = some (.cells cur 161 (0, 0)) ∧ ∀ i, i < 32 → f i ≠ .emp → cur[rk f i]? = some (vs i) := by
  obtain ⟨cur, h1, h2, h3⟩ := h.cells
  refine ⟨cur, h1, fun i hi hf => ?_⟩
  have hg := kids_get (vs := vs) hi hf
  rw [h3 _ (by rw [kids_len, cnt_rk]; exact rk_lt hi hf), hg]
end Go.Proofs.Ytbghmbbhkoniiaa.T
end
section
/- Branches of one child or of two; how long the rows are. -/
set_option linter.unusedSimpArgs false
set_option linter.unusedVariables false
set_option linter.unusedSectionVars false
namespace Go.Vc.Nd
variable {κ ν : Type} [DecidableEq κ] {f : Nat → Nd κ ν} {i j : Nat} {t u : Nd κ ν} {α : Type} {vs : Nat → α} {v z : α}

theorem full_none (j : Nat) : full (fun _ => (emp : Nd κ ν)) j = false := rfl
theorem bm_none : bm (fun _ => (emp : Nd κ ν)) = 0 := by
  apply Nat.eq_of_testBit_eq
  intro j
  rw [bm_bit, full_none]; simp
theorem rk_none (i : Nat) : rk (fun _ => (emp : Nd κ ν)) i = 0 := by
  unfold rk
  rw [List.length_eq_zero_iff, List.filter_eq_nil_iff]
  intro a _; rw [full_none]; simp
theorem kids_none : kids (fun _ => (emp : Nd κ ν)) vs = [] := by
  have : (kids (fun _ => (emp : Nd κ ν)) vs).length = 0 := by rw [kids_len, cnt_rk, rk_none]
  exact List.eq_nil_of_length_eq_zero this
theorem bm_one (hi : i < 32) (ht : t ≠ emp) : bm (one i t) = 2 ^ i := by
  rw [one, ← bm_or hi ht, bm_none, Nat.zero_or]
theorem full_one (j : Nat) : full (one i t) j = if j = i then !t.isEmp else false := by rw [one, full_put]; rfl
theorem rk_one (hi : i < 32) (ht : t ≠ emp) (j : Nat) : rk (one i t) j = if i < j then 1 else 0 := by
  have hf : t.isEmp = false := by cases h : t.isEmp; rfl; exact absurd (isEmp_iff.1 h) ht
  induction j with
  | zero => rfl
  | succ j ih =>
    rw [rk_succ, ih, full_one]
    by_cases h : j = i
    · subst h; simp [hf]
    · simp [h]
      by_cases h2 : i < j
      · simp [h2, show i < j + 1 by omega]
      · simp [h2, show ¬ i < j + 1 by omega]
theorem cnt_one (hi : i < 32) (ht : t ≠ emp) : cnt (one i t) = 1 := by rw [cnt_rk, rk_one hi ht, if_pos hi]
theorem one_ne (h : j ≠ i) : one i t j = emp := by rw [one, put_ne h]
theorem kids_one (hi : i < 32) (ht : t ≠ emp) : kids (one i t) (putV vs i v) = [v] := by
  rw [one, kids_put hi ht, kids_none]; simp
theorem cnt_two (hi : i < 32) (hj : j < 32) (hne : i ≠ j) (ht : t ≠ emp) (hu : u ≠ emp) : cnt (put (one i t) j u) = 2 := by
  rw [cnt_add hj (one_ne (fun h => hne h.symm)) hu, cnt_one hi ht]
theorem bm_two (hi : i < 32) (hj : j < 32) (ht : t ≠ emp) (hu : u ≠ emp) : bm (put (one i t) j u) = 2 ^ i ||| 2 ^ j := by
  rw [← bm_or hj hu, bm_one hi ht]
theorem kids_two (hi : i < 32) (hj : j < 32) (hne : i ≠ j) (ht : t ≠ emp) (hu : u ≠ emp) : kids (put (one i t) j u) (putV (putV vs i v) j z) = if i < j then [v, z] else [z, v] := by
  have hf : full (one i t) j = false := by rw [full_one, if_neg (fun h => hne h.symm)]
  rw [kids_put hj hu, kids_one hi ht, rk_one hi ht, hf]
  by_cases h : i < j <;> simp [h]
theorem cnt_le : cnt f ≤ 32 := by rw [cnt_rk]; exact rk_le 32

theorem len_child {hs : Bool} (hi : i < 32) : (toL (f i)).length ≤ (toL (br hs f)).length := by
  rw [toL]
  have h := range_split hi
  rw [h, List.flatMap_append, List.flatMap_cons]
  simp; omega
end Go.Vc.Nd
end
section
/- Setting a key in a leaf; merging a leaf and a key into branches. -/
set_option maxRecDepth 100000
set_option linter.unusedSimpArgs false
set_option linter.unusedVariables false
set_option linter.unusedSectionVars false
namespace Go.Proofs.Ytbghmbbhkoniiaa.T
open Go.Vc Go.Proofs Go.Proofs.Ytbghmbbhkoniiaa Go.Vc.Nd
variable {w w' : World} {v hv : Value} {t : Tr} {F F' : Nat → Prop} {K : Value → World → Prop} {Kp : KP} {hash : Ky → Nat} {k : Ky} {x : Vl} {l s rb : Nat} {r0 mu : Bool}

def flag (w : World) (rb : Nat) (b : Bool) : Prop := w.heap[rb]? = some (.cells #[.bool b] 4 (0, 0))
theorem flag.frame {M : Nat → Prop} {b : Bool} (h : flag w rb b) (hf : Frm M w w') (hM : ¬ M rb) : flag w' rb b := hf.get h hM
def Sets (w : World) (mu : Bool) (F : Nat → Prop) (rb : Nat) (fl : Bool) (t' : Tr) (K : Value → World → Prop) : Prop :=
  ∀ v' w' F', Frm (fun b => b = rb ∨ mu = true ∧ F b) w w' → Rep w' t' v' F' → (∀ b, F' b → F b ∨ w.heap.size ≤ b) → flag w' rb fl → K v' w'

theorem raise_ok {b : Bool} (h : flag w rb b) (hK : ∀ w', Frm (· = rb) w w' → w'.heap.size = w.heap.size → flag w' rb true → K undef w') : (nice Try.prog).op (.store 4 (ptr rb) (.bool true)) w K Kp :=
  op_store_ok (by kernel_rfl) h (by simp) rfl fun w' hf hs hb => hK w' hf hs (by simpa [flag] using hb)
theorem new_val_ok {h' : Nat} (hK : ∀ w', Frm (fun _ => False) w w' → w'.heap.size = w.heap.size + 1 → Rep w' (.val h' k x) (.iface 179 (ptr w.heap.size)) (fun b => b = w.heap.size) → K (ptr w.heap.size) w') : Calls Try.prog 135 #[.int .u32 h', ek k, ev x] w (ret K Kp) := by
  refine vc135_calls ?_
  simp only [vc135, op_build_181_0_1_2 (one_int (k := .u32) (n := (h' : Int))) (one_ek k) (one_ev x)]
  refine op_box_ok fun w' hf hs hb => hK w' hf hs ⟨_, rfl, rfl, by simpa using hb⟩

def leafH : Tr → Option Nat
  | .val h _ _ => some h
  | .col h _ => some h
  | _ => none
theorem khv_ok {h1 : Nat} (h : Rep w t v F) (ht : leafH t = some h1) (hK : K (.int .u32 h1) w) : (nice Try.prog).call (.inv v "pub-bracken/pub/immutable.keyHashValue") [] w K Kp := by
  cases t with
  | val h' k x =>
    obtain ⟨b, rfl, h2, h3⟩ := h
    obtain rfl := Option.some.inj ht
    simp only [inv_179_138]
    refine vc138_calls ?_
    simp [-getElem?_pos, -Array.getElem?_eq_getElem, -Int.natCast_add, add_spot, and_assoc, Br_dec, -op_box, -op_st_4, -op_st_22, -op_st_161, -op_st_176, -op_st_214, -op_st_175, -op_st_187, -op_st_2, -op_alloc_178, -op_alloc_175, -op_alloc_220, -op_lit_176_1, -op_lit_176_2, -op_lit_214_1, -op_lit_214_2, vc138, ptr, h3]
    exact hK
  | col h' es =>
    obtain ⟨b, g, cap, rfl, h2, h3, h4, h5, h6⟩ := h
    obtain rfl := Option.some.inj ht
    simp only [inv_182_144]
    refine vc144_calls ?_
    simp [-getElem?_pos, -Array.getElem?_eq_getElem, -Int.natCast_add, add_spot, and_assoc, Br_dec, -op_box, -op_st_4, -op_st_22, -op_st_161, -op_st_176, -op_st_214, -op_st_175, -op_st_187, -op_st_2, -op_alloc_178, -op_alloc_175, -op_alloc_220, -op_lit_176_1, -op_lit_176_2, -op_lit_214_1, -op_lit_214_2, vc144, ptr, h5]
    exact hK
  | _ => cases ht
theorem leaf_ne {h1 : Nat} (ht : leafH t = some h1) : t ≠ .emp := by intro e; subst e; cases ht

def Kin (w : World) (f : Nat → Tr) (vs : Nat → Value) (Fs : Nat → Nat → Prop) (O : Nat → Prop) : Prop :=
  (∀ i, i < 32 → Rep w (f i) (vs i) (Fs i)) ∧ ∀ i, i < 32 → ∀ c, Fs i c → ¬ O c ∧ ∀ j, j < 32 → j ≠ i → ¬ Fs j c
theorem Kin.none {O : Nat → Prop} : Kin w (fun _ => .emp) (fun _ => .nilIface) (fun _ _ => False) O := ⟨fun _ _ => rfl, fun _ _ _ h => h.elim⟩
theorem Kin.put {f : Nat → Tr} {vs : Nat → Value} {Fs : Nat → Nat → Prop} {O O' F1 : Nat → Prop} {i : Nat} (h : Kin w f vs Fs O) (hk : ∀ j, j < 32 → j ≠ i → ∀ c o, Fs j c → w.heap[c]? = some o → w'.heap[c]? = some o)
    (hr : Rep w' t v F1) (ha : ∀ c, F1 c → ∀ j, j < 32 → j ≠ i → ¬ Fs j c) (h1 : ∀ c, F1 c → ¬ O' c) (h2 : ∀ j, j < 32 → j ≠ i → ∀ c, Fs j c → ¬ O' c) :
    Kin w' (Nd.put f i t) (putV vs i v) (fun j => if j = i then F1 else Fs j) O' := by
  refine ⟨fun j hj => ?_, fun j hj c hc => ?_⟩
  · by_cases e : j = i
    · subst e; rw [Nd.put_same]; simpa [putV] using hr
    · rw [Nd.put_ne e]; simp only [putV, if_neg e]; exact (h.1 j hj).mono (fun _ h => h) fun b o hb => hk j hj e b o hb
  · by_cases e : j = i
    · simp only [if_pos e] at hc
      refine ⟨h1 c hc, fun k hk hne hkc => ?_⟩
      simp only [if_neg (show ¬ k = i by omega)] at hkc
      exact ha c hc k hk (by omega) hkc
    · simp only [if_neg e] at hc
      refine ⟨h2 j hj e c hc, fun k hk hne hkc => ?_⟩
      by_cases e' : k = i
      · simp only [if_pos e'] at hkc; exact ha c hkc j hj e hc
      · simp only [if_neg e'] at hkc; exact (h.2 j hj c hc).2 k hk hne hkc
theorem Kin.lt {f : Nat → Tr} {vs : Nat → Value} {Fs : Nat → Nat → Prop} {O : Nat → Prop} (h : Kin w f vs Fs O) : Kin w f vs (fun i c => Fs i c ∧ c < w.heap.size) O :=
  ⟨fun i hi => (h.1 i hi).lt, fun i hi c hc => ⟨(h.2 i hi c hc.1).1, fun j hj hne hc' => (h.2 i hi c hc.1).2 j hj hne hc'.1⟩⟩
theorem Rep.mkB {f : Nat → Tr} {vs : Nat → Value} {Fs : Nat → Nat → Prop} {b g cap : Nat} (hn : g ≠ b) (hb : w.heap[b]? = some (.cells #[.int .u32 (bm f), .slice (some ⟨g, 0, none⟩) (Nd.cnt f) cap] 216 (0, 0))) (hc : Nd.cnt f ≤ cap) (hg : Rw w 161 1 g cap (kids f vs))
    (h : Kin w f vs Fs (fun c => c = b ∨ c = g)) : Rep w (.br false f) (.iface 213 (ptr b)) (fun c => c = b ∨ c = g ∨ ∃ i, i < 32 ∧ Fs i c) :=
  ⟨b, g, cap, vs, Fs, rfl, .inl rfl, .inr (.inl rfl), hn, hb, hc, hg, h.1, fun i hi c hc => ⟨.inr (.inr ⟨i, hi, hc⟩), fun e => (h.2 i hi c hc).1 (.inl e), fun e => (h.2 i hi c hc).1 (.inr e), (h.2 i hi c hc).2⟩⟩
theorem Rep.mkH {f : Nat → Tr} {vs : Nat → Value} {Fs : Nat → Nat → Prop} {b : Nat} {cs : Array Value} (hb : w.heap[b]? = some (.cells cs 220 (0, 0))) (hz : cs.size = 33) (h0 : cs[0]? = some (.int .u64 (Nd.cnt f))) (hv : ∀ i, i < 32 → cs[i + 1]? = some (vs i))
    (h : Kin w f vs Fs (fun c => c = b)) : Rep w (.br true f) (.iface 217 (ptr b)) (fun c => c = b ∨ ∃ i, i < 32 ∧ Fs i c) :=
  ⟨b, cs, vs, Fs, rfl, .inl rfl, hb, hz, h0, hv, h.1, fun i hi c hc => ⟨.inr ⟨i, hi, hc⟩, (h.2 i hi c hc).1, (h.2 i hi c hc).2⟩⟩

theorem merge_ne {n l h1 h2 : Nat} {t : Tr} (l1 : h1 < 2 ^ 32) (l2 : h2 < 2 ^ 32) (hne : h1 ≠ h2) (hp : h1 % 32 ^ l = h2 % 32 ^ l) (hn : n + l = 7) : merge t h1 h2 k x n l ≠ .emp := by
  cases n with
  | zero =>
    obtain rfl : l = 7 := by omega
    rw [Nat.mod_eq_of_lt (by omega), Nat.mod_eq_of_lt (by omega)] at hp
    exact absurd hp hne
  | succ n => rw [merge]; split <;> simp
theorem merge_ok : ∀ (n : Nat) {l s h1 h2 p : Nat} {t : Tr} {v : Value} {F : Nat → Prop} {K : Value → World → Prop} {Kp : KP} {w : World}, Rep w t v F → leafH t = some h1 → h1 < 2 ^ 32 → h2 < 2 ^ 32 → h1 ≠ h2 → h1 % 32 ^ l = h2 % 32 ^ l → n + l = 7 → s = 5 * l →
    (∀ v' w' F', Frm (fun _ => False) w w' → Rep w' (merge t h1 h2 k x n l) v' F' → (∀ b, F' b → F b ∨ w.heap.size ≤ b) → K v' w') → Calls Try.prog 140 #[v, .int .u64 s, .int .u32 h2, ek k, ev x] w (ret K Kp)
  | 0, l, s, h1, h2, p, t, v, F, K, Kp, w, hr, ht, l1, l2, hne, hp, hn, hs, hK => by
    obtain rfl : l = 7 := by omega
    rw [Nat.mod_eq_of_lt (by omega), Nat.mod_eq_of_lt (by omega)] at hp
    exact absurd hp hne
  | n + 1, l, s, h1, h2, p, t, v, F, K, Kp, w, hr, ht, l1, l2, hne, hp, hn, hs, hK => by
    have hl : l ≤ 6 := by omega
    have hi1 := frag_lt l h1
    have hi2 := frag_lt l h2
    have hf1 := frag_eq l1 hs hl
    have hf2 := frag_eq l2 hs hl
    have hte := leaf_ne ht
    have hns := next_shift hs hl
    have hb1 := bit_eq hi1
    have hb2 := bit_eq hi2
    have hor := or_u32 (two_pow_lt hi1) (two_pow_lt hi2)
    have hfe : (frag l h1 : Int) = (frag l h2 : Int) ↔ frag l h1 = frag l h2 := by omega
    have hnx1 := mod_next l h1
    have hnx2 := mod_next l h2
    have hbm1 := bm_one (t := t) hi1 hte
    have hbm2 := bm_two (t := t) (u := Nd.val h2 k x) hi1 hi2 hte (by simp)
    have hbm3 : ∀ u : Tr, u ≠ .emp → frag l h1 = frag l h2 → bm (Nd.one (frag l h1) u) = 2 ^ frag l h1 ||| 2 ^ frag l h2 := fun u hu e => by rw [bm_one hi1 hu, ← e, Nat.or_self]
    generalize hi1e : frag l h1 = i1 at *
    generalize hi2e : frag l h2 = i2 at *
    generalize hB : 2 ^ i1 ||| 2 ^ i2 = B at *
    generalize 2 ^ i1 = y1 at *
    generalize 2 ^ i2 = y2 at *
    have h1' := Rep.one hr
    obtain ⟨u, bv, hv⟩ := hr.iface hte
    rw [merge, hi1e, hi2e] at hK
    refine vc140_calls ?_
    simp only [vc140]
    refine khv_ok hr ht ?_
    simp [-getElem?_pos, -Array.getElem?_eq_getElem, -Int.natCast_add, add_spot, and_assoc, Br_dec, -op_box, -op_st_4, -op_st_22, -op_st_161, -op_st_176, -op_st_214, -op_st_175, -op_st_187, -op_st_2, -op_alloc_178, -op_alloc_175, -op_alloc_220, -op_lit_176_1, -op_lit_176_2, -op_lit_214_1, -op_lit_214_2, hf1, hf2, hb1, hb2, hor, hns, hfe]
    refine op_box_ok fun w1 k1 z1 b1 => ?_
    simp only [cells_agg] at b1
    refine ⟨fun e => ?_, fun e => ?_⟩
    · rw [if_pos e] at hK
      have hr1 := hr.lt.still k1
      refine merge_ok n (p := p) hr1 ht l1 l2 hne (by rw [hnx1, hnx2, hp, e]) (by omega) (by omega) fun v' w2 F'' k2 r2' f2' => ?_
      obtain ⟨F', hF', r2, f2, hlt2⟩ : ∃ F' : Nat → Prop, F' = (fun c => F'' c ∧ c < w2.heap.size) ∧ Rep w2 (merge t h1 h2 k x n (l + 1)) v' F' ∧ (∀ b, F' b → F b ∧ b < w.heap.size ∨ w1.heap.size ≤ b) ∧ ∀ b, F' b → b < w2.heap.size := ⟨_, rfl, r2'.lt, fun b hb => f2' b hb.1, fun b hb => hb.2⟩
      have hme : merge t h1 h2 k x n (l + 1) ≠ .emp := merge_ne l1 l2 hne (by rw [hnx1, hnx2, hp, e]) (by omega)
      refine op_lit_ok (lit_214_1 r2.one) fun w3 k3 z3 b3 => ?_
      simp [-getElem?_pos, -Array.getElem?_eq_getElem, -Int.natCast_add, add_spot, and_assoc, Br_dec, -op_box, -op_st_4, -op_st_22, -op_st_161, -op_st_176, -op_st_214, -op_st_175, -op_st_187, -op_st_2, -op_alloc_178, -op_alloc_175, -op_alloc_220, -op_lit_176_1, -op_lit_176_2, -op_lit_214_1, -op_lit_214_2]
      have b1' := ((k1.no k2).no k3)
      refine op_store_ok (by kernel_rfl) ((k2.no k3).get b1 (fun h => h)) (by simp) rfl fun w4 k4 z4 b4 => ?_
      have := k2.size
      have hg : Rw w4 161 1 w2.heap.size 1 [v'] := (Rw.lit (w := w3) (n := 1) rfl (by decide) b3).frame k4 (by omega)
      have hnew : ∀ c, F' c → c < w2.heap.size ∧ c ≠ w.heap.size := fun c hc => ⟨(hlt2 c hc), fun e' => by rcases f2 c hc with h | h <;> omega⟩
      have hkin := (Kin.none (w := w4) (O := fun _ => False)).put (w' := w4) (t := merge t h1 h2 k x n (l + 1)) (v := v') (F1 := F') (O' := fun c => c = w.heap.size ∨ c = w2.heap.size) (i := i1) (fun _ _ _ _ _ h => h.elim)
        ((r2.still k3).frame k4 (fun b hb => (hnew b hb).2)) (fun _ _ _ _ _ h => h) (fun c hc h => by have := hnew c hc; omega) (fun _ _ _ _ h => h.elim)
      refine hK _ w4 _ (((k1.no k2).no k3).old k4 fun b e => .inr (by omega)) (Rep.mkB (cap := 1) (f := Nd.one i1 (merge t h1 h2 k x n (l + 1))) (by omega) (by simpa [cnt_one hi1 hme, hbm3 _ hme e] using b4) (by rw [cnt_one hi1 hme]; omega) (by rw [kids_one hi1 hme]; exact hg) hkin) ?_
      rintro c (rfl | rfl | ⟨i, hi, hc⟩)
      · exact .inr (by omega)
      · exact .inr (by omega)
      · by_cases ei : i = i1
        · simp only [if_pos ei] at hc
          rcases f2 c hc with h | h
          · exact .inl h.1
          · exact .inr (by omega)
        · simp only [if_neg ei] at hc
    · rw [if_neg e] at hK
      refine new_val_ok fun w2 k2 z2 r2 => ?_
      have hr2 := (hr.lt.still k1).still k2
      have hval : (Value.iface 179 (ptr w1.heap.size)).oneCell' = true := rfl
      have fin : ∀ w3, ∀ ks : List Value, ks = (if i1 < i2 then [v, .iface 179 (ptr w1.heap.size)] else [.iface 179 (ptr w1.heap.size), v]) → Frm (fun _ => False) w2 w3 → w3.heap.size = w2.heap.size + 1 → w3.heap[w2.heap.size]? = some (.cells ks.toArray 161 (0, 0)) →
          (nice Try.prog).op (.store 214 (.pointer (some ⟨w.heap.size, 1, none⟩)) (.slice (some ⟨w2.heap.size, 0, none⟩) 2 2)) w3 (fun _ wz => K (.iface 213 (ptr w.heap.size)) wz) Kp := fun w3 ks hks k3 z3 b3 => by
        refine op_store_ok (by kernel_rfl) ((k2.no k3).get b1 (fun h => h)) (by simp) rfl fun w4 k4 z4 b4 => ?_
        have hlen : ks.length = 2 * 1 := by rw [hks]; split <;> rfl
        have hg : Rw w4 161 1 w2.heap.size 2 ks := (Rw.lit (w := w3) (n := 2) hlen (by decide) b3).frame k4 (by omega)
        have hv1 : Nd.val h2 k x ≠ .emp := by simp
        have hk1 := (Kin.none (w := w4) (O := fun _ => False)).put (w' := w4) (t := t) (v := v) (F1 := fun b => F b ∧ b < w.heap.size) (O' := fun c => c = w.heap.size ∨ c = w2.heap.size) (i := i1) (fun _ _ _ _ _ h => h.elim)
          ((hr2.still k3).frame k4 (fun b hb => by omega)) (fun _ _ _ _ _ h => h) (fun c hc h => by omega) (fun _ _ _ _ h => h.elim)
        have hk2 := hk1.put (w' := w4) (t := Nd.val h2 k x) (v := .iface 179 (ptr w1.heap.size)) (F1 := fun b => b = w1.heap.size) (O' := fun c => c = w.heap.size ∨ c = w2.heap.size) (i := i2) (fun _ _ _ _ _ _ h => h)
          ((r2.still k3).frame k4 (fun b hb => by omega)) (fun c hc j hj hne h => by
            by_cases ej : j = i1
            · simp only [if_pos ej] at h; omega
            · simp only [if_neg ej] at h) (fun c hc h => by omega) (fun j hj hne c h => by
            by_cases ej : j = i1
            · simp only [if_pos ej] at h; omega
            · simp only [if_neg ej] at h)
        refine hK _ w4 _ (((k1.no k2).no k3).old k4 fun b e => .inr (by omega)) (Rep.mkB (cap := 2) (f := Nd.put (Nd.one i1 t) i2 (Nd.val h2 k x)) (by omega) (by simpa [cnt_two hi1 hi2 e hte hv1, hbm2] using b4) (by rw [cnt_two hi1 hi2 e hte hv1]; omega) (by rw [kids_two hi1 hi2 e hte hv1, ← hks]; exact hg) hk2) ?_
        rintro c (rfl | rfl | ⟨i, hi, hc⟩)
        · exact .inr (by omega)
        · exact .inr (by omega)
        · by_cases ei : i = i2
          · simp only [if_pos ei] at hc; exact .inr (by omega)
          · simp only [if_neg ei] at hc
            by_cases ei' : i = i1
            · simp only [if_pos ei'] at hc; exact .inl hc.1
            · simp only [if_neg ei'] at hc
      refine ⟨fun hlt => ?_, fun hle => ?_⟩
      · refine op_lit_ok (lit_214_2 h1' hval) fun w3 k3 z3 b3 => ?_
        simp [-getElem?_pos, -Array.getElem?_eq_getElem, -Int.natCast_add, add_spot, and_assoc, Br_dec, -op_box, -op_st_4, -op_st_22, -op_st_161, -op_st_176, -op_st_214, -op_st_175, -op_st_187, -op_st_2, -op_alloc_178, -op_alloc_175, -op_alloc_220, -op_lit_176_1, -op_lit_176_2, -op_lit_214_1, -op_lit_214_2]
        exact fin w3 [v, .iface 179 (ptr w1.heap.size)] (by rw [if_pos hlt]) k3 z3 b3
      · refine op_lit_ok (lit_214_2 hval h1') fun w3 k3 z3 b3 => ?_
        simp [-getElem?_pos, -Array.getElem?_eq_getElem, -Int.natCast_add, add_spot, and_assoc, Br_dec, -op_box, -op_st_4, -op_st_22, -op_st_161, -op_st_176, -op_st_214, -op_st_175, -op_st_187, -op_st_2, -op_alloc_178, -op_alloc_175, -op_alloc_220, -op_lit_176_1, -op_lit_176_2, -op_lit_214_1, -op_lit_214_2]
        exact fin w3 [.iface 179 (ptr w1.heap.size), v] (by rw [if_neg (by omega)]) k3 z3 b3
end Go.Proofs.Ytbghmbbhkoniiaa.T
end
