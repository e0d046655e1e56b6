import Derived.Test.YtodjijfblgnfmaaGreatDoorO4
import Derived.Test.YtodjijfblgnfmaaGreatDoorO3
import Derived.Test.YtodjijfblgnfmaaGreatDoorO0
import Derived.Test.YtodjijfblgnfmaaGreatDoorO2
import Derived.ProofKit
import Derived.WideKeyArgs
import Derived.Deep.Slices
import Derived.Carry
import Derived.LaidMore
import Derived.OpenShut
import Derived.Stop.Joined
import Derived.Test.YtodjijfblgnfmaaGreatDoorRows
import Derived.Test.YtodjijfblgnfmaaGreatDoorCards
import Derived.Test.YtodjijfblgnfmaaGreatDoorTie
set_option linter.unusedSimpArgs false
set_option linter.unusedVariables false
set_option linter.unusedSectionVars false
set_option maxRecDepth 100000
set_option maxHeartbeats 4000000
section
/- impl.Sorted. -/
namespace Go.Proofs.YtodjijfblgnfmaaGreatDoor
open Go.Vc Go.Proofs Go.Vc.Bt
variable {w w' : World} {K : KV} {Kp : KP} {n : Int} {kn : Nat} {text : Bool}
def orderV (kn : Nat) (n : Int) : Value := .agg #[.int .u8 kn, .int .i64 n]
def ansOf (text : Bool) (kn : Nat) (n : Int) (steps : List SSt) : List SAns := if text then (runS (T.ordI kn n) T.kd steps).2 else (runS (I.ordI kn n) I.kd steps).2
structure Asks (text : Bool) (kn : Nat) (n : Int) (steps : List SSt) (w : World) : Prop where
  texts : ∀ s ∈ steps, s.text.size ≤ 100
  cost : scost steps < 2 ^ 30
  del : (∃ s ∈ steps, s.op = 1 ∨ s.op = 6) → I.DelOk (I.ordI kn n) ∧ T.DelOk (T.ordI kn n)
  get : (∃ s ∈ steps, s.op = 2) → I.GetOk (I.ordI kn n) ∧ T.GetOk (T.ordI kn n)
  back : (∃ s ∈ steps, s.op = 4) → I.BackOk (I.ordI kn n) ∧ T.BackOk (T.ordI kn n)
  many : (∃ s ∈ steps, s.op = 5 ∨ s.op = 6) → text = true → T.ManyOk w
theorem many_still (h : T.ManyOk w) (hf : Frm (fun _ => False) w w') : T.ManyOk w' := fun h1 h2 h3 => h h1 (hf.no h2) h3
theorem closure_ok {a2 : Option Addr} {c2 : Nat} {steps : List SSt} {b0 b1 b2 b3 : Nat} {v3 : Value} (h1 : -9223372036854775808 ≤ n) (h2 : n ≤ 9223372036854775807) (hr : Row w a2 (steps.flatMap SSt.cells)) (ha : Asks text kn n steps w)
    (k0 : w.heap[b0]? = some (.cells #[.bool text] 4 (0, 0))) (k1 : w.heap[b1]? = some (.cells #[.int .u8 kn, .int .i64 n] 31 (0, 0))) (k2 : w.heap[b2]? = some (.cells #[.slice a2 steps.length c2] 32 (0, 0)))
    (k3 : w.heap[b3]? = some (.cells #[v3] 28 (0, 0)))
    (hK : ∀ l w' G, Frm (· = b3) w w' → w'.heap[b3]? = some (.cells #[l] 28 (0, 0)) → RowsOf ElA w' w.heap.size 56 4 l (ansOf text kn n steps) G → K (.tuple #[]) w') :
    Calls Tryz.prog 38 #[.pointer (some ⟨b0, 0, none⟩), .pointer (some ⟨b1, 0, none⟩), .pointer (some ⟨b2, 0, none⟩), .pointer (some ⟨b3, 0, none⟩)] w (ret K Kp) := by
  refine vc38_calls ?_
  delta vc38
  have hx : (#[.int .u8 kn, .int .i64 n] : Array Value).extract 0 2 = #[.int .u8 kn, .int .i64 n] := rfl
  have hfin : ∀ {l : Value} {w9 : World} {G : Nat → Prop}, Frm (fun _ => False) w w9 → RowsOf ElA w9 w.heap.size 56 4 l (ansOf text kn n steps) G →
      (nice Tryz.prog).op (.store 28 (.pointer (some ⟨b3, 0, none⟩)) l) w9 (fun _ w => K (.tuple #[]) w) Kp := fun {l w9 G} k9 hR => by
    have hl3 := lt_of_get k3
    have hlow := hR.own_lt
    refine op_store_ok (by kernel_rfl) (k9.get k3 fun h => h) (by simp) hR.one fun w10 k10 z10 b10 => ?_
    refine hK l w10 G (k9.fst k10) (by simpa using b10) (hR.frame elA_ok k10 (fun c hc he => by have := (hR.low c hc).1; omega) fun b hb he => by have := (hlow b hb).1; omega)
  cases text with
  | true =>
    simp [-getElem?_pos, -Array.getElem?_eq_getElem, -Int.natCast_add, add_spot, and_assoc, Br_dec, -op_box, -op_alloc_28, -op_st_28, k0, k1, k2, hx]
    refine T.keys_ok fun w4 f4 => ?_
    have f4 := Frm.dr f4
    have q1 := f4.get k1 fun h => h
    have q2 := f4.get k2 fun h => h
    simp [-getElem?_pos, -Array.getElem?_eq_getElem, -Int.natCast_add, add_spot, and_assoc, Br_dec, -op_box, -op_alloc_28, -op_st_28, q1, q2, hx]
    refine T.comparer_ok h1 h2 fun cv w5 f5 hc => ?_
    have q5 := f5.get q2 fun h => h
    have f45 := f4.no f5
    simp [-getElem?_pos, -Array.getElem?_eq_getElem, -Int.natCast_add, add_spot, and_assoc, Br_dec, -op_box, -op_alloc_28, -op_st_28, q5]
    refine T.sortedRun_ok hc T.ordI_lin (hr.frame f45 fun _ _ h => h) ha.texts ha.cost (fun h => (ha.del h).2) (fun h => (ha.get h).2) (fun h => (ha.back h).2) (fun h => many_still (ha.many h rfl) f45) fun l w6 G f6 hR => ?_
    exact hfin (f45.no f6) (hR.base_le f45.size)
  | false =>
    simp [-getElem?_pos, -Array.getElem?_eq_getElem, -Int.natCast_add, add_spot, and_assoc, Br_dec, -op_box, -op_alloc_28, -op_st_28, k0, k1, k2, hx]
    refine I.keys_ok fun w4 f4 => ?_
    have f4 := Frm.dr f4
    have q1 := f4.get k1 fun h => h
    have q2 := f4.get k2 fun h => h
    simp [-getElem?_pos, -Array.getElem?_eq_getElem, -Int.natCast_add, add_spot, and_assoc, Br_dec, -op_box, -op_alloc_28, -op_st_28, q1, q2, hx]
    refine I.comparer_ok h1 h2 fun cv w5 f5 hc => ?_
    have q5 := f5.get q2 fun h => h
    have f45 := f4.no f5
    simp [-getElem?_pos, -Array.getElem?_eq_getElem, -Int.natCast_add, add_spot, and_assoc, Br_dec, -op_box, -op_alloc_28, -op_st_28, q5]
    refine I.sortedRun_ok hc I.ordI_lin (hr.frame f45 fun _ _ h => h) ha.texts ha.cost (fun h => (ha.del h).1) (fun h => (ha.get h).1) (fun h => (ha.back h).1) (fun h => I.many_ok _) fun l w6 G f6 hR => ?_
    exact hfin (f45.no f6) (hR.base_le f45.size)
theorem sorted_ok {a2 : Option Addr} {c2 : Nat} {steps : List SSt} (h1 : -9223372036854775808 ≤ n) (h2 : n ≤ 9223372036854775807) (hr : Row w a2 (steps.flatMap SSt.cells)) (ha : Asks text kn n steps w)
    (hK : ∀ l w' G, Frm (fun _ => False) w w' → RowsOf ElA w' w.heap.size 56 4 l (ansOf text kn n steps) G → K (.tuple #[l, .bool true]) w') :
    Calls Tryz.prog 15 #[.bool text, orderV kn n, .slice a2 steps.length c2] w (ret K Kp) := by
  refine vc15_calls ?_
  delta vc15 orderV
  refine op_box_ok fun w1 k1 z1 b1 => op_box_ok fun w2 k2 z2 b2 => op_box_ok fun w3 k3 z3 b3 => ?_
  rw [cells_of_one (by rfl)] at b1 b3
  simp only [cells_agg] at b2
  refine op_alloc_ok (z := .slice none 0 0) (by kernel_rfl) fun w4 k4 z4 b4 => ?_
  rw [cells_of_one (by rfl)] at b4
  have c1 := k4.get (k3.get (k2.get b1 fun h => h) fun h => h) fun h => h
  have c2' := k4.get (k3.get b2 fun h => h) fun h => h
  have c3 := k4.get b3 fun h => h
  have k04 := ((k1.no k2).no k3).no k4
  simp [-getElem?_pos, -Array.getElem?_eq_getElem, -Int.natCast_add, add_spot, and_assoc, Br_dec, -op_box, -op_alloc_28, -op_st_28]
  have k5 : Frm (fun _ => False) w4 (w4.alloc (.cells #[.bool false] 4)) := Frm.alloc _ _
  refine thrown_ok (x := #[]) (by kernel_rfl) ?_
  have k05 := k04.no k5
  rw [show (#[] ++ #[Value.pointer (some ⟨w.heap.size, 0, none⟩), .pointer (some ⟨w1.heap.size, 0, none⟩), .pointer (some ⟨w2.heap.size, 0, none⟩), .pointer (some ⟨w3.heap.size, 0, none⟩)] : Array Value) = #[.pointer (some ⟨w.heap.size, 0, none⟩), .pointer (some ⟨w1.heap.size, 0, none⟩), .pointer (some ⟨w2.heap.size, 0, none⟩), .pointer (some ⟨w3.heap.size, 0, none⟩)] from rfl]
  refine closure_ok (text := text) (kn := kn) (n := n) (steps := steps) h1 h2 (hr.frame k05 fun _ _ h => h) ⟨ha.texts, ha.cost, ha.del, ha.get, ha.back, fun h1 h2 => many_still (ha.many h1 h2) k05⟩ (k5.get c1 fun h => h) (k5.get c2' fun h => h) (k5.get c3 fun h => h) (k5.get b4 fun h => h) fun l w6 G k6 b6 hR => ?_
  have n1 := k1.size
  have n2 := k2.size
  have n3 := k3.size
  have n4 := k4.size
  have hlow := hR.own_lt
  have hsz : (w4.alloc (.cells #[.bool false] 4)).heap.size = w4.heap.size + 1 := by simp
  refine ⟨k6.get hp_alloc_new (by omega), ?_⟩
  simp [-getElem?_pos, -Array.getElem?_eq_getElem, -Int.natCast_add, add_spot, and_assoc, Br_dec, -op_box, -op_alloc_28, -op_st_28, b6]
  refine op_store_ok (by kernel_rfl) b6 (by simp) hR.one fun w7 k7 z7 b7 => ?_
  have b7 : w7.heap[w3.heap.size]? = some (.cells #[l] 28 (0, 0)) := by simpa using b7
  have := hK l w7 G ((k05.old k6 fun c hc => .inr (by omega)).old k7 fun c hc => .inr (by omega)) ((hR.frame elA_ok k7 (fun c hc he => by have := (hR.low c hc).1; omega) fun b hb he => by have := (hlow b hb).1; omega).base_le (by omega))
  simp [-getElem?_pos, -Array.getElem?_eq_getElem, -Int.natCast_add, add_spot, and_assoc, Br_dec, -op_box, -op_alloc_28, -op_st_28, b7]
  exact this
end Go.Proofs.YtodjijfblgnfmaaGreatDoor
end
section
/- A seat's own rewriting rules of single operations, printed by program out of its types and functions. -/
namespace Go.Proofs.YtodjijfblgnfmaaGreatDoor
open Go.Vc Go.Proofs
variable {w : World} {K : KV} {Kp : KP} {K1 : Value → Prop}
theorem build_23_  : buildV Tryz.prog 23 [] = some (.agg (#[Value.int IntKind.u8 0, Value.int IntKind.i64 0])) := by
  have e : buildV Tryz.prog 23 [] = (Instr.fill ((#[(0, 1), (1, 1)] : Array (Nat × Nat))[·]?) (#[Value.int IntKind.u8 0, Value.int IntKind.i64 0]) []).map .agg := by kernel_rfl
  rw [e]; simp [Instr.fill]
@[simp] theorem op_build_23_  : (nice Tryz.prog).op (.build 23 []) w K Kp = K (.agg (#[Value.int IntKind.u8 0, Value.int IntKind.i64 0])) w := op_build (build_23_)
@[simp] theorem pur_build_23_  : (nice Tryz.prog).pur (.build 23 []) K1 = K1 (.agg (#[Value.int IntKind.u8 0, Value.int IntKind.i64 0])) := pur_build (build_23_)
theorem build_45_0_2 {x0 : Value} {x2 : Value} (h0 : x0.oneCell' = true) (h2 : x2.oneCell' = true) : buildV Tryz.prog 45 [(0, x0), (2, x2)] = some (.agg (#[x0, Value.string ByteArray.empty, x2])) := by
  have e : buildV Tryz.prog 45 [(0, x0), (2, x2)] = (Instr.fill ((#[(0, 1), (1, 1), (2, 1)] : Array (Nat × Nat))[·]?) (#[Value.int IntKind.i64 0, Value.string ByteArray.empty, Value.int IntKind.i64 0]) [(0, x0), (2, x2)]).map .agg := by kernel_rfl
  rw [e]; simp [Instr.fill, cells_of_one h0, cells_of_one h2]
@[simp] theorem op_build_45_0_2 {x0 : Value} {x2 : Value} (h0 : x0.oneCell' = true) (h2 : x2.oneCell' = true) : (nice Tryz.prog).op (.build 45 [(0, x0), (2, x2)]) w K Kp = K (.agg (#[x0, Value.string ByteArray.empty, x2])) w := op_build (build_45_0_2 h0 h2)
@[simp] theorem pur_build_45_0_2 {x0 : Value} {x2 : Value} (h0 : x0.oneCell' = true) (h2 : x2.oneCell' = true) : (nice Tryz.prog).pur (.build 45 [(0, x0), (2, x2)]) K1 = K1 (.agg (#[x0, Value.string ByteArray.empty, x2])) := pur_build (build_45_0_2 h0 h2)
theorem lit_38_2 {y0_0 y0_1 y0_2 y1_0 y1_1 y1_2 : Value} : sliceLit Tryz.prog 38 2 [(0, .agg #[y0_0, y0_1, y0_2]), (1, .agg #[y1_0, y1_1, y1_2])] = some (45, #[y0_0, y0_1, y0_2, y1_0, y1_1, y1_2]) := by
  have e : sliceLit Tryz.prog 38 2 [(0, .agg #[y0_0, y0_1, y0_2]), (1, .agg #[y1_0, y1_1, y1_2])] = (Instr.fill (fun i => some (i * 3, 3)) (#[Value.int IntKind.i64 0, Value.string ByteArray.empty, Value.int IntKind.i64 0, Value.int IntKind.i64 0, Value.string ByteArray.empty, Value.int IntKind.i64 0]) [(0, .agg #[y0_0, y0_1, y0_2]), (1, .agg #[y1_0, y1_1, y1_2])]).map fun cs => (45, cs) := by kernel_rfl
  rw [e]; simp [Instr.fill, Value.cells]
@[simp] theorem op_lit_38_2 {y0_0 y0_1 y0_2 y1_0 y1_1 y1_2 : Value} : (nice Tryz.prog).op (.buildSlice 38 2 [(0, .agg #[y0_0, y0_1, y0_2]), (1, .agg #[y1_0, y1_1, y1_2])]) w K Kp = K (.slice (some ⟨w.heap.size, 0, none⟩) 2 2) (w.alloc (.cells #[y0_0, y0_1, y0_2, y1_0, y1_1, y1_2] 45)) := op_lit (lit_38_2)
@[simp] theorem call_22 {args : List Value} : (nice Tryz.prog).call (.fn 22) args w K Kp = Calls Tryz.prog 22 args.toArray w (ret K Kp) := call_fn (by kernel_rfl)
@[simp] theorem call_32 {args : List Value} : (nice Tryz.prog).call (.fn 32) args w K Kp = Calls Tryz.prog 32 args.toArray w (ret K Kp) := call_fn (by kernel_rfl)
@[simp] theorem op_len_38 {a : Option Addr} {n c ty : Nat} : (nice Tryz.prog).op (.blt .len [38] ty [.slice a n c]) w K Kp = K (.int .i64 n) w := op_len_slice (by kernel_rfl)
@[simp] theorem pur_len_38 {a : Option Addr} {n c ty : Nat} : (nice Tryz.prog).pur (.blt .len [38] ty [.slice a n c]) K1 = K1 (.int .i64 n) := pur_len_slice (by kernel_rfl)
@[simp] theorem ld_len_38 {a : Option Addr} {n c ty : Nat} : (nice Tryz.prog).ld (.blt .len [38] ty [.slice a n c]) w K1 = K1 (.int .i64 n) := ld_len_slice (by kernel_rfl)
@[simp] theorem same_len_38 {a : Option Addr} {n c ty : Nat} {u : Value} : (nice Tryz.prog).same (.blt .len [38] ty [.slice a n c]) u w = (.int .i64 n = u) := same_len_slice (by kernel_rfl)
@[simp] theorem op_ix_38 {p : Addr} {len cap : Nat} {k : IntKind} {j : Int} : (nice Tryz.prog).op (.indexAddr 38 (.slice (some p) len cap) (.int k j)) w K Kp = ((0 ≤ j ∧ j < (len : Int)) ∧ K (.pointer (some (p.add (j.toNat * 3)))) w) := op_ix_slice (e := 45) (by kernel_rfl)
@[simp] theorem pur_ix_38 {p : Addr} {len cap : Nat} {k : IntKind} {j : Int} : (nice Tryz.prog).pur (.indexAddr 38 (.slice (some p) len cap) (.int k j)) K1 = ((0 ≤ j ∧ j < (len : Int)) ∧ K1 (.pointer (some (p.add (j.toNat * 3))))) := pur_ix_slice (e := 45) (by kernel_rfl)
@[simp] theorem op_ld_45 {p : Addr} : (nice Tryz.prog).op (.load 45 (.pointer (some p))) w K Kp = ∃ cs e fz, w.heap[p.block]? = some (.cells cs e fz) ∧ p.spot = none ∧ p.off + 3 ≤ cs.size ∧ K (.agg (cs.extract p.off (p.off + 3))) w := op_ldn (by kernel_rfl)
@[simp] theorem ld_ld_45 {p : Addr} : (nice Tryz.prog).ld (.load 45 (.pointer (some p))) w K1 = ∃ cs e fz, w.heap[p.block]? = some (.cells cs e fz) ∧ p.spot = none ∧ p.off + 3 ≤ cs.size ∧ K1 (.agg (cs.extract p.off (p.off + 3))) := ld_ldn (by kernel_rfl)
@[simp] theorem same_ld_45 {p : Addr} {v : Value} : (nice Tryz.prog).same (.load 45 (.pointer (some p))) v w = ∃ cs e fz, w.heap[p.block]? = some (.cells cs e fz) ∧ p.spot = none ∧ p.off + 3 ≤ cs.size ∧ .agg (cs.extract p.off (p.off + 3)) = v := same_ldn (by kernel_rfl)
@[simp] theorem op_st_45 {p : Addr} {vs : Array Value} : (nice Tryz.prog).op (.store 45 (.pointer (some p)) (.agg vs)) w K Kp = (vs.size = 3 ∧ (∀ u ∈ vs.toList, u.oneCell' = true) ∧ ∃ cs e, w.heap[p.block]? = some (.cells cs e (0, 0)) ∧ p.spot = none ∧ p.off + 3 ≤ cs.size ∧ K undef (w.upd p.block (.cells (ow cs p.off vs.toList) e (0, 0)))) := op_stn (by kernel_rfl)
@[simp] theorem op_alloc_45 : (nice Tryz.prog).op (.alloc 45) w K Kp = K (.pointer (some ⟨w.heap.size, 0, none⟩)) (w.alloc (.cells #[Value.int IntKind.i64 0, Value.string ByteArray.empty, Value.int IntKind.i64 0] 45)) := op_alloc (z := (.agg #[(Value.int IntKind.i64 0), (Value.string ByteArray.empty), (Value.int IntKind.i64 0)])) (by kernel_rfl)
@[simp] theorem op_fa_45_0 {p : Addr} : (nice Tryz.prog).op (.fieldAddr 45 (.pointer (some p)) 0) w K Kp = K (.pointer (some (p.add 0))) w := op_fa (k := .one) (by kernel_rfl)
@[simp] theorem pur_fa_45_0 {p : Addr} : (nice Tryz.prog).pur (.fieldAddr 45 (.pointer (some p)) 0) K1 = K1 (.pointer (some (p.add 0))) := pur_fa (k := .one) (by kernel_rfl)
@[simp] theorem op_fa_45_1 {p : Addr} : (nice Tryz.prog).op (.fieldAddr 45 (.pointer (some p)) 1) w K Kp = K (.pointer (some (p.add 1))) w := op_fa (k := .one) (by kernel_rfl)
@[simp] theorem pur_fa_45_1 {p : Addr} : (nice Tryz.prog).pur (.fieldAddr 45 (.pointer (some p)) 1) K1 = K1 (.pointer (some (p.add 1))) := pur_fa (k := .one) (by kernel_rfl)
@[simp] theorem op_fa_45_2 {p : Addr} : (nice Tryz.prog).op (.fieldAddr 45 (.pointer (some p)) 2) w K Kp = K (.pointer (some (p.add 2))) w := op_fa (k := .one) (by kernel_rfl)
@[simp] theorem pur_fa_45_2 {p : Addr} : (nice Tryz.prog).pur (.fieldAddr 45 (.pointer (some p)) 2) K1 = K1 (.pointer (some (p.add 2))) := pur_fa (k := .one) (by kernel_rfl)
theorem build_54_0_1_2_3_4 {x0 : Value} {x1 : Value} {x2 : Value} {x3 : Value} {x4 : Value} (h0 : x0.oneCell' = true) (h1 : x1.oneCell' = true) (h2 : x2.oneCell' = true) (h3 : x3.oneCell' = true) (h4 : x4.oneCell' = true) : buildV Tryz.prog 54 [(0, x0), (1, x1), (2, x2), (3, x3), (4, x4)] = some (.agg (#[x0, x1, x2, x3, x4, Value.int IntKind.i64 0, Value.int IntKind.i64 0])) := by
  have e : buildV Tryz.prog 54 [(0, x0), (1, x1), (2, x2), (3, x3), (4, x4)] = (Instr.fill ((#[(0, 1), (1, 1), (2, 1), (3, 1), (4, 1), (5, 1), (6, 1)] : Array (Nat × Nat))[·]?) (#[Value.int IntKind.u8 0, Value.int IntKind.i64 0, Value.int IntKind.i64 0, Value.string ByteArray.empty, Value.int IntKind.i64 0, Value.int IntKind.i64 0, Value.int IntKind.i64 0]) [(0, x0), (1, x1), (2, x2), (3, x3), (4, x4)]).map .agg := by kernel_rfl
  rw [e]; simp [Instr.fill, cells_of_one h0, cells_of_one h1, cells_of_one h2, cells_of_one h3, cells_of_one h4]
@[simp] theorem op_build_54_0_1_2_3_4 {x0 : Value} {x1 : Value} {x2 : Value} {x3 : Value} {x4 : Value} (h0 : x0.oneCell' = true) (h1 : x1.oneCell' = true) (h2 : x2.oneCell' = true) (h3 : x3.oneCell' = true) (h4 : x4.oneCell' = true) : (nice Tryz.prog).op (.build 54 [(0, x0), (1, x1), (2, x2), (3, x3), (4, x4)]) w K Kp = K (.agg (#[x0, x1, x2, x3, x4, Value.int IntKind.i64 0, Value.int IntKind.i64 0])) w := op_build (build_54_0_1_2_3_4 h0 h1 h2 h3 h4)
@[simp] theorem pur_build_54_0_1_2_3_4 {x0 : Value} {x1 : Value} {x2 : Value} {x3 : Value} {x4 : Value} (h0 : x0.oneCell' = true) (h1 : x1.oneCell' = true) (h2 : x2.oneCell' = true) (h3 : x3.oneCell' = true) (h4 : x4.oneCell' = true) : (nice Tryz.prog).pur (.build 54 [(0, x0), (1, x1), (2, x2), (3, x3), (4, x4)]) K1 = K1 (.agg (#[x0, x1, x2, x3, x4, Value.int IntKind.i64 0, Value.int IntKind.i64 0])) := pur_build (build_54_0_1_2_3_4 h0 h1 h2 h3 h4)
theorem lit_32_1 {y0_0 y0_1 y0_2 y0_3 y0_4 y0_5 y0_6 : Value} : sliceLit Tryz.prog 32 1 [(0, .agg #[y0_0, y0_1, y0_2, y0_3, y0_4, y0_5, y0_6])] = some (54, #[y0_0, y0_1, y0_2, y0_3, y0_4, y0_5, y0_6]) := by
  have e : sliceLit Tryz.prog 32 1 [(0, .agg #[y0_0, y0_1, y0_2, y0_3, y0_4, y0_5, y0_6])] = (Instr.fill (fun i => some (i * 7, 7)) (#[Value.int IntKind.u8 0, Value.int IntKind.i64 0, Value.int IntKind.i64 0, Value.string ByteArray.empty, Value.int IntKind.i64 0, Value.int IntKind.i64 0, Value.int IntKind.i64 0]) [(0, .agg #[y0_0, y0_1, y0_2, y0_3, y0_4, y0_5, y0_6])]).map fun cs => (54, cs) := by kernel_rfl
  rw [e]; simp [Instr.fill, Value.cells]
@[simp] theorem op_lit_32_1 {y0_0 y0_1 y0_2 y0_3 y0_4 y0_5 y0_6 : Value} : (nice Tryz.prog).op (.buildSlice 32 1 [(0, .agg #[y0_0, y0_1, y0_2, y0_3, y0_4, y0_5, y0_6])]) w K Kp = K (.slice (some ⟨w.heap.size, 0, none⟩) 1 1) (w.alloc (.cells #[y0_0, y0_1, y0_2, y0_3, y0_4, y0_5, y0_6] 54)) := op_lit (lit_32_1)
@[simp] theorem op_ld_23 {p : Addr} : (nice Tryz.prog).op (.load 23 (.pointer (some p))) w K Kp = ∃ cs e fz, w.heap[p.block]? = some (.cells cs e fz) ∧ p.spot = none ∧ p.off + 2 ≤ cs.size ∧ K (.agg (cs.extract p.off (p.off + 2))) w := op_ldn (by kernel_rfl)
@[simp] theorem ld_ld_23 {p : Addr} : (nice Tryz.prog).ld (.load 23 (.pointer (some p))) w K1 = ∃ cs e fz, w.heap[p.block]? = some (.cells cs e fz) ∧ p.spot = none ∧ p.off + 2 ≤ cs.size ∧ K1 (.agg (cs.extract p.off (p.off + 2))) := ld_ldn (by kernel_rfl)
@[simp] theorem same_ld_23 {p : Addr} {v : Value} : (nice Tryz.prog).same (.load 23 (.pointer (some p))) v w = ∃ cs e fz, w.heap[p.block]? = some (.cells cs e fz) ∧ p.spot = none ∧ p.off + 2 ≤ cs.size ∧ .agg (cs.extract p.off (p.off + 2)) = v := same_ldn (by kernel_rfl)
theorem build_54_0 {x0 : Value} (h0 : x0.oneCell' = true) : buildV Tryz.prog 54 [(0, x0)] = some (.agg (#[x0, Value.int IntKind.i64 0, Value.int IntKind.i64 0, Value.string ByteArray.empty, Value.int IntKind.i64 0, Value.int IntKind.i64 0, Value.int IntKind.i64 0])) := by
  have e : buildV Tryz.prog 54 [(0, x0)] = (Instr.fill ((#[(0, 1), (1, 1), (2, 1), (3, 1), (4, 1), (5, 1), (6, 1)] : Array (Nat × Nat))[·]?) (#[Value.int IntKind.u8 0, Value.int IntKind.i64 0, Value.int IntKind.i64 0, Value.string ByteArray.empty, Value.int IntKind.i64 0, Value.int IntKind.i64 0, Value.int IntKind.i64 0]) [(0, x0)]).map .agg := by kernel_rfl
  rw [e]; simp [Instr.fill, cells_of_one h0]
@[simp] theorem op_build_54_0 {x0 : Value} (h0 : x0.oneCell' = true) : (nice Tryz.prog).op (.build 54 [(0, x0)]) w K Kp = K (.agg (#[x0, Value.int IntKind.i64 0, Value.int IntKind.i64 0, Value.string ByteArray.empty, Value.int IntKind.i64 0, Value.int IntKind.i64 0, Value.int IntKind.i64 0])) w := op_build (build_54_0 h0)
@[simp] theorem pur_build_54_0 {x0 : Value} (h0 : x0.oneCell' = true) : (nice Tryz.prog).pur (.build 54 [(0, x0)]) K1 = K1 (.agg (#[x0, Value.int IntKind.i64 0, Value.int IntKind.i64 0, Value.string ByteArray.empty, Value.int IntKind.i64 0, Value.int IntKind.i64 0, Value.int IntKind.i64 0])) := pur_build (build_54_0 h0)
@[simp] theorem call_23 {args : List Value} : (nice Tryz.prog).call (.fn 23) args w K Kp = Calls Tryz.prog 23 args.toArray w (ret K Kp) := call_fn (by kernel_rfl)
@[simp] theorem call_15 {args : List Value} : (nice Tryz.prog).call (.fn 15) args w K Kp = Calls Tryz.prog 15 args.toArray w (ret K Kp) := call_fn (by kernel_rfl)
@[simp] theorem op_len_28 {a : Option Addr} {n c ty : Nat} : (nice Tryz.prog).op (.blt .len [28] ty [.slice a n c]) w K Kp = K (.int .i64 n) w := op_len_slice (by kernel_rfl)
@[simp] theorem pur_len_28 {a : Option Addr} {n c ty : Nat} : (nice Tryz.prog).pur (.blt .len [28] ty [.slice a n c]) K1 = K1 (.int .i64 n) := pur_len_slice (by kernel_rfl)
@[simp] theorem ld_len_28 {a : Option Addr} {n c ty : Nat} : (nice Tryz.prog).ld (.blt .len [28] ty [.slice a n c]) w K1 = K1 (.int .i64 n) := ld_len_slice (by kernel_rfl)
@[simp] theorem same_len_28 {a : Option Addr} {n c ty : Nat} {u : Value} : (nice Tryz.prog).same (.blt .len [28] ty [.slice a n c]) u w = (.int .i64 n = u) := same_len_slice (by kernel_rfl)
@[simp] theorem op_ix_28 {p : Addr} {len cap : Nat} {k : IntKind} {j : Int} : (nice Tryz.prog).op (.indexAddr 28 (.slice (some p) len cap) (.int k j)) w K Kp = ((0 ≤ j ∧ j < (len : Int)) ∧ K (.pointer (some (p.add (j.toNat * 4)))) w) := op_ix_slice (e := 56) (by kernel_rfl)
@[simp] theorem pur_ix_28 {p : Addr} {len cap : Nat} {k : IntKind} {j : Int} : (nice Tryz.prog).pur (.indexAddr 28 (.slice (some p) len cap) (.int k j)) K1 = ((0 ≤ j ∧ j < (len : Int)) ∧ K1 (.pointer (some (p.add (j.toNat * 4))))) := pur_ix_slice (e := 56) (by kernel_rfl)
@[simp] theorem op_len_46 {a : Option Addr} {n c ty : Nat} : (nice Tryz.prog).op (.blt .len [46] ty [.slice a n c]) w K Kp = K (.int .i64 n) w := op_len_slice (by kernel_rfl)
@[simp] theorem pur_len_46 {a : Option Addr} {n c ty : Nat} : (nice Tryz.prog).pur (.blt .len [46] ty [.slice a n c]) K1 = K1 (.int .i64 n) := pur_len_slice (by kernel_rfl)
@[simp] theorem ld_len_46 {a : Option Addr} {n c ty : Nat} : (nice Tryz.prog).ld (.blt .len [46] ty [.slice a n c]) w K1 = K1 (.int .i64 n) := ld_len_slice (by kernel_rfl)
@[simp] theorem same_len_46 {a : Option Addr} {n c ty : Nat} {u : Value} : (nice Tryz.prog).same (.blt .len [46] ty [.slice a n c]) u w = (.int .i64 n = u) := same_len_slice (by kernel_rfl)
@[simp] theorem op_ix_46 {p : Addr} {len cap : Nat} {k : IntKind} {j : Int} : (nice Tryz.prog).op (.indexAddr 46 (.slice (some p) len cap) (.int k j)) w K Kp = ((0 ≤ j ∧ j < (len : Int)) ∧ K (.pointer (some (p.add (j.toNat * 3)))) w) := op_ix_slice (e := 49) (by kernel_rfl)
@[simp] theorem pur_ix_46 {p : Addr} {len cap : Nat} {k : IntKind} {j : Int} : (nice Tryz.prog).pur (.indexAddr 46 (.slice (some p) len cap) (.int k j)) K1 = ((0 ≤ j ∧ j < (len : Int)) ∧ K1 (.pointer (some (p.add (j.toNat * 3))))) := pur_ix_slice (e := 49) (by kernel_rfl)
@[simp] theorem call_29 {args : List Value} : (nice Tryz.prog).call (.fn 29) args w K Kp = Calls Tryz.prog 29 args.toArray w (ret K Kp) := call_fn (by kernel_rfl)
@[simp] theorem call_24 {args : List Value} : (nice Tryz.prog).call (.fn 24) args w K Kp = Calls Tryz.prog 24 args.toArray w (ret K Kp) := call_fn (by kernel_rfl)
@[simp] theorem op_fa_23_0 {p : Addr} : (nice Tryz.prog).op (.fieldAddr 23 (.pointer (some p)) 0) w K Kp = K (.pointer (some (p.add 0))) w := op_fa (k := .one) (by kernel_rfl)
@[simp] theorem pur_fa_23_0 {p : Addr} : (nice Tryz.prog).pur (.fieldAddr 23 (.pointer (some p)) 0) K1 = K1 (.pointer (some (p.add 0))) := pur_fa (k := .one) (by kernel_rfl)
@[simp] theorem op_fa_23_1 {p : Addr} : (nice Tryz.prog).op (.fieldAddr 23 (.pointer (some p)) 1) w K Kp = K (.pointer (some (p.add 1))) w := op_fa (k := .one) (by kernel_rfl)
@[simp] theorem pur_fa_23_1 {p : Addr} : (nice Tryz.prog).pur (.fieldAddr 23 (.pointer (some p)) 1) K1 = K1 (.pointer (some (p.add 1))) := pur_fa (k := .one) (by kernel_rfl)
@[simp] theorem call_19 {args : List Value} : (nice Tryz.prog).call (.fn 19) args w K Kp = Calls Tryz.prog 19 args.toArray w (ret K Kp) := call_fn (by kernel_rfl)
@[simp] theorem call_20 {args : List Value} : (nice Tryz.prog).call (.fn 20) args w K Kp = Calls Tryz.prog 20 args.toArray w (ret K Kp) := call_fn (by kernel_rfl)
@[simp] theorem call_14 {args : List Value} : (nice Tryz.prog).call (.fn 14) args w K Kp = Calls Tryz.prog 14 args.toArray w (ret K Kp) := call_fn (by kernel_rfl)
theorem build_23_0 {x0 : Value} (h0 : x0.oneCell' = true) : buildV Tryz.prog 23 [(0, x0)] = some (.agg (#[x0, Value.int IntKind.i64 0])) := by
  have e : buildV Tryz.prog 23 [(0, x0)] = (Instr.fill ((#[(0, 1), (1, 1)] : Array (Nat × Nat))[·]?) (#[Value.int IntKind.u8 0, Value.int IntKind.i64 0]) [(0, x0)]).map .agg := by kernel_rfl
  rw [e]; simp [Instr.fill, cells_of_one h0]
@[simp] theorem op_build_23_0 {x0 : Value} (h0 : x0.oneCell' = true) : (nice Tryz.prog).op (.build 23 [(0, x0)]) w K Kp = K (.agg (#[x0, Value.int IntKind.i64 0])) w := op_build (build_23_0 h0)
@[simp] theorem pur_build_23_0 {x0 : Value} (h0 : x0.oneCell' = true) : (nice Tryz.prog).pur (.build 23 [(0, x0)]) K1 = K1 (.agg (#[x0, Value.int IntKind.i64 0])) := pur_build (build_23_0 h0)
theorem build_31_0 {x0 : Value} (h0 : x0.oneCell' = true) : buildV Tryz.prog 31 [(0, x0)] = some (.agg (#[x0, Value.int IntKind.i64 0])) := by
  have e : buildV Tryz.prog 31 [(0, x0)] = (Instr.fill ((#[(0, 1), (1, 1)] : Array (Nat × Nat))[·]?) (#[Value.int IntKind.u8 0, Value.int IntKind.i64 0]) [(0, x0)]).map .agg := by kernel_rfl
  rw [e]; simp [Instr.fill, cells_of_one h0]
@[simp] theorem op_build_31_0 {x0 : Value} (h0 : x0.oneCell' = true) : (nice Tryz.prog).op (.build 31 [(0, x0)]) w K Kp = K (.agg (#[x0, Value.int IntKind.i64 0])) w := op_build (build_31_0 h0)
@[simp] theorem pur_build_31_0 {x0 : Value} (h0 : x0.oneCell' = true) : (nice Tryz.prog).pur (.build 31 [(0, x0)]) K1 = K1 (.agg (#[x0, Value.int IntKind.i64 0])) := pur_build (build_31_0 h0)
theorem lit_32_10 {y0_0 y0_1 y0_2 y0_3 y0_4 y0_5 y0_6 y1_0 y1_1 y1_2 y1_3 y1_4 y1_5 y1_6 y2_0 y2_1 y2_2 y2_3 y2_4 y2_5 y2_6 y3_0 y3_1 y3_2 y3_3 y3_4 y3_5 y3_6 y4_0 y4_1 y4_2 y4_3 y4_4 y4_5 y4_6 y5_0 y5_1 y5_2 y5_3 y5_4 y5_5 y5_6 y6_0 y6_1 y6_2 y6_3 y6_4 y6_5 y6_6 y7_0 y7_1 y7_2 y7_3 y7_4 y7_5 y7_6 y8_0 y8_1 y8_2 y8_3 y8_4 y8_5 y8_6 y9_0 y9_1 y9_2 y9_3 y9_4 y9_5 y9_6 : Value} : sliceLit Tryz.prog 32 10 [(0, .agg #[y0_0, y0_1, y0_2, y0_3, y0_4, y0_5, y0_6]), (1, .agg #[y1_0, y1_1, y1_2, y1_3, y1_4, y1_5, y1_6]), (2, .agg #[y2_0, y2_1, y2_2, y2_3, y2_4, y2_5, y2_6]), (3, .agg #[y3_0, y3_1, y3_2, y3_3, y3_4, y3_5, y3_6]), (4, .agg #[y4_0, y4_1, y4_2, y4_3, y4_4, y4_5, y4_6]), (5, .agg #[y5_0, y5_1, y5_2, y5_3, y5_4, y5_5, y5_6]), (6, .agg #[y6_0, y6_1, y6_2, y6_3, y6_4, y6_5, y6_6]), (7, .agg #[y7_0, y7_1, y7_2, y7_3, y7_4, y7_5, y7_6]), (8, .agg #[y8_0, y8_1, y8_2, y8_3, y8_4, y8_5, y8_6]), (9, .agg #[y9_0, y9_1, y9_2, y9_3, y9_4, y9_5, y9_6])] = some (54, #[y0_0, y0_1, y0_2, y0_3, y0_4, y0_5, y0_6, y1_0, y1_1, y1_2, y1_3, y1_4, y1_5, y1_6, y2_0, y2_1, y2_2, y2_3, y2_4, y2_5, y2_6, y3_0, y3_1, y3_2, y3_3, y3_4, y3_5, y3_6, y4_0, y4_1, y4_2, y4_3, y4_4, y4_5, y4_6, y5_0, y5_1, y5_2, y5_3, y5_4, y5_5, y5_6, y6_0, y6_1, y6_2, y6_3, y6_4, y6_5, y6_6, y7_0, y7_1, y7_2, y7_3, y7_4, y7_5, y7_6, y8_0, y8_1, y8_2, y8_3, y8_4, y8_5, y8_6, y9_0, y9_1, y9_2, y9_3, y9_4, y9_5, y9_6]) := by
  have e : sliceLit Tryz.prog 32 10 [(0, .agg #[y0_0, y0_1, y0_2, y0_3, y0_4, y0_5, y0_6]), (1, .agg #[y1_0, y1_1, y1_2, y1_3, y1_4, y1_5, y1_6]), (2, .agg #[y2_0, y2_1, y2_2, y2_3, y2_4, y2_5, y2_6]), (3, .agg #[y3_0, y3_1, y3_2, y3_3, y3_4, y3_5, y3_6]), (4, .agg #[y4_0, y4_1, y4_2, y4_3, y4_4, y4_5, y4_6]), (5, .agg #[y5_0, y5_1, y5_2, y5_3, y5_4, y5_5, y5_6]), (6, .agg #[y6_0, y6_1, y6_2, y6_3, y6_4, y6_5, y6_6]), (7, .agg #[y7_0, y7_1, y7_2, y7_3, y7_4, y7_5, y7_6]), (8, .agg #[y8_0, y8_1, y8_2, y8_3, y8_4, y8_5, y8_6]), (9, .agg #[y9_0, y9_1, y9_2, y9_3, y9_4, y9_5, y9_6])] = (Instr.fill (fun i => some (i * 7, 7)) (#[Value.int IntKind.u8 0, Value.int IntKind.i64 0, Value.int IntKind.i64 0, Value.string ByteArray.empty, Value.int IntKind.i64 0, Value.int IntKind.i64 0, Value.int IntKind.i64 0, Value.int IntKind.u8 0, Value.int IntKind.i64 0, Value.int IntKind.i64 0, Value.string ByteArray.empty, Value.int IntKind.i64 0, Value.int IntKind.i64 0, Value.int IntKind.i64 0, Value.int IntKind.u8 0, Value.int IntKind.i64 0, Value.int IntKind.i64 0, Value.string ByteArray.empty, Value.int IntKind.i64 0, Value.int IntKind.i64 0, Value.int IntKind.i64 0, Value.int IntKind.u8 0, Value.int IntKind.i64 0, Value.int IntKind.i64 0, Value.string ByteArray.empty, Value.int IntKind.i64 0, Value.int IntKind.i64 0, Value.int IntKind.i64 0, Value.int IntKind.u8 0, Value.int IntKind.i64 0, Value.int IntKind.i64 0, Value.string ByteArray.empty, Value.int IntKind.i64 0, Value.int IntKind.i64 0, Value.int IntKind.i64 0, Value.int IntKind.u8 0, Value.int IntKind.i64 0, Value.int IntKind.i64 0, Value.string ByteArray.empty, Value.int IntKind.i64 0, Value.int IntKind.i64 0, Value.int IntKind.i64 0, Value.int IntKind.u8 0, Value.int IntKind.i64 0, Value.int IntKind.i64 0, Value.string ByteArray.empty, Value.int IntKind.i64 0, Value.int IntKind.i64 0, Value.int IntKind.i64 0, Value.int IntKind.u8 0, Value.int IntKind.i64 0, Value.int IntKind.i64 0, Value.string ByteArray.empty, Value.int IntKind.i64 0, Value.int IntKind.i64 0, Value.int IntKind.i64 0, Value.int IntKind.u8 0, Value.int IntKind.i64 0, Value.int IntKind.i64 0, Value.string ByteArray.empty, Value.int IntKind.i64 0, Value.int IntKind.i64 0, Value.int IntKind.i64 0, Value.int IntKind.u8 0, Value.int IntKind.i64 0, Value.int IntKind.i64 0, Value.string ByteArray.empty, Value.int IntKind.i64 0, Value.int IntKind.i64 0, Value.int IntKind.i64 0]) [(0, .agg #[y0_0, y0_1, y0_2, y0_3, y0_4, y0_5, y0_6]), (1, .agg #[y1_0, y1_1, y1_2, y1_3, y1_4, y1_5, y1_6]), (2, .agg #[y2_0, y2_1, y2_2, y2_3, y2_4, y2_5, y2_6]), (3, .agg #[y3_0, y3_1, y3_2, y3_3, y3_4, y3_5, y3_6]), (4, .agg #[y4_0, y4_1, y4_2, y4_3, y4_4, y4_5, y4_6]), (5, .agg #[y5_0, y5_1, y5_2, y5_3, y5_4, y5_5, y5_6]), (6, .agg #[y6_0, y6_1, y6_2, y6_3, y6_4, y6_5, y6_6]), (7, .agg #[y7_0, y7_1, y7_2, y7_3, y7_4, y7_5, y7_6]), (8, .agg #[y8_0, y8_1, y8_2, y8_3, y8_4, y8_5, y8_6]), (9, .agg #[y9_0, y9_1, y9_2, y9_3, y9_4, y9_5, y9_6])]).map fun cs => (54, cs) := by kernel_rfl
  rw [e]; simp [Instr.fill, Value.cells]
@[simp] theorem op_lit_32_10 {y0_0 y0_1 y0_2 y0_3 y0_4 y0_5 y0_6 y1_0 y1_1 y1_2 y1_3 y1_4 y1_5 y1_6 y2_0 y2_1 y2_2 y2_3 y2_4 y2_5 y2_6 y3_0 y3_1 y3_2 y3_3 y3_4 y3_5 y3_6 y4_0 y4_1 y4_2 y4_3 y4_4 y4_5 y4_6 y5_0 y5_1 y5_2 y5_3 y5_4 y5_5 y5_6 y6_0 y6_1 y6_2 y6_3 y6_4 y6_5 y6_6 y7_0 y7_1 y7_2 y7_3 y7_4 y7_5 y7_6 y8_0 y8_1 y8_2 y8_3 y8_4 y8_5 y8_6 y9_0 y9_1 y9_2 y9_3 y9_4 y9_5 y9_6 : Value} : (nice Tryz.prog).op (.buildSlice 32 10 [(0, .agg #[y0_0, y0_1, y0_2, y0_3, y0_4, y0_5, y0_6]), (1, .agg #[y1_0, y1_1, y1_2, y1_3, y1_4, y1_5, y1_6]), (2, .agg #[y2_0, y2_1, y2_2, y2_3, y2_4, y2_5, y2_6]), (3, .agg #[y3_0, y3_1, y3_2, y3_3, y3_4, y3_5, y3_6]), (4, .agg #[y4_0, y4_1, y4_2, y4_3, y4_4, y4_5, y4_6]), (5, .agg #[y5_0, y5_1, y5_2, y5_3, y5_4, y5_5, y5_6]), (6, .agg #[y6_0, y6_1, y6_2, y6_3, y6_4, y6_5, y6_6]), (7, .agg #[y7_0, y7_1, y7_2, y7_3, y7_4, y7_5, y7_6]), (8, .agg #[y8_0, y8_1, y8_2, y8_3, y8_4, y8_5, y8_6]), (9, .agg #[y9_0, y9_1, y9_2, y9_3, y9_4, y9_5, y9_6])]) w K Kp = K (.slice (some ⟨w.heap.size, 0, none⟩) 10 10) (w.alloc (.cells #[y0_0, y0_1, y0_2, y0_3, y0_4, y0_5, y0_6, y1_0, y1_1, y1_2, y1_3, y1_4, y1_5, y1_6, y2_0, y2_1, y2_2, y2_3, y2_4, y2_5, y2_6, y3_0, y3_1, y3_2, y3_3, y3_4, y3_5, y3_6, y4_0, y4_1, y4_2, y4_3, y4_4, y4_5, y4_6, y5_0, y5_1, y5_2, y5_3, y5_4, y5_5, y5_6, y6_0, y6_1, y6_2, y6_3, y6_4, y6_5, y6_6, y7_0, y7_1, y7_2, y7_3, y7_4, y7_5, y7_6, y8_0, y8_1, y8_2, y8_3, y8_4, y8_5, y8_6, y9_0, y9_1, y9_2, y9_3, y9_4, y9_5, y9_6] 54)) := op_lit (lit_32_10)
theorem build_45_  : buildV Tryz.prog 45 [] = some (.agg (#[Value.int IntKind.i64 0, Value.string ByteArray.empty, Value.int IntKind.i64 0])) := by
  have e : buildV Tryz.prog 45 [] = (Instr.fill ((#[(0, 1), (1, 1), (2, 1)] : Array (Nat × Nat))[·]?) (#[Value.int IntKind.i64 0, Value.string ByteArray.empty, Value.int IntKind.i64 0]) []).map .agg := by kernel_rfl
  rw [e]; simp [Instr.fill]
@[simp] theorem op_build_45_  : (nice Tryz.prog).op (.build 45 []) w K Kp = K (.agg (#[Value.int IntKind.i64 0, Value.string ByteArray.empty, Value.int IntKind.i64 0])) w := op_build (build_45_)
@[simp] theorem pur_build_45_  : (nice Tryz.prog).pur (.build 45 []) K1 = K1 (.agg (#[Value.int IntKind.i64 0, Value.string ByteArray.empty, Value.int IntKind.i64 0])) := pur_build (build_45_)
theorem lit_38_1 {y0_0 y0_1 y0_2 : Value} : sliceLit Tryz.prog 38 1 [(0, .agg #[y0_0, y0_1, y0_2])] = some (45, #[y0_0, y0_1, y0_2]) := by
  have e : sliceLit Tryz.prog 38 1 [(0, .agg #[y0_0, y0_1, y0_2])] = (Instr.fill (fun i => some (i * 3, 3)) (#[Value.int IntKind.i64 0, Value.string ByteArray.empty, Value.int IntKind.i64 0]) [(0, .agg #[y0_0, y0_1, y0_2])]).map fun cs => (45, cs) := by kernel_rfl
  rw [e]; simp [Instr.fill, Value.cells]
@[simp] theorem op_lit_38_1 {y0_0 y0_1 y0_2 : Value} : (nice Tryz.prog).op (.buildSlice 38 1 [(0, .agg #[y0_0, y0_1, y0_2])]) w K Kp = K (.slice (some ⟨w.heap.size, 0, none⟩) 1 1) (w.alloc (.cells #[y0_0, y0_1, y0_2] 45)) := op_lit (lit_38_1)
@[simp] theorem op_len_39 {a : Option Addr} {n c ty : Nat} : (nice Tryz.prog).op (.blt .len [39] ty [.slice a n c]) w K Kp = K (.int .i64 n) w := op_len_slice (by kernel_rfl)
@[simp] theorem pur_len_39 {a : Option Addr} {n c ty : Nat} : (nice Tryz.prog).pur (.blt .len [39] ty [.slice a n c]) K1 = K1 (.int .i64 n) := pur_len_slice (by kernel_rfl)
@[simp] theorem ld_len_39 {a : Option Addr} {n c ty : Nat} : (nice Tryz.prog).ld (.blt .len [39] ty [.slice a n c]) w K1 = K1 (.int .i64 n) := ld_len_slice (by kernel_rfl)
@[simp] theorem same_len_39 {a : Option Addr} {n c ty : Nat} {u : Value} : (nice Tryz.prog).same (.blt .len [39] ty [.slice a n c]) u w = (.int .i64 n = u) := same_len_slice (by kernel_rfl)
@[simp] theorem op_lit_38_0 : (nice Tryz.prog).op (.buildSlice 38 0 []) w K Kp = K (.slice (some ⟨w.heap.size, 0, none⟩) 0 0) (w.alloc (.cells #[] 45)) := op_lit (by kernel_rfl)
end Go.Proofs.YtodjijfblgnfmaaGreatDoor
end
section
namespace Go.Proofs.YtodjijfblgnfmaaGreatDoor
open Go.Vc Go.Proofs
variable {S : Sig} {a0 a1 a2 a3 a4 a5 a6 a7 a8 a9 : Value} {w : World} {K : KV} {Kp : KP}
private theorem follows_BVcLA : Tryz.prog.follows .mixedOrders = true := by kernel_rfl
def vc14 (S : Sig) (w : World) (K : KV) (Kp : KP) : Prop :=
 S.op (.build 23 []) w (fun v4 w =>
 S.op (.build 45 [(0, (.int .i64 5)), (2, (.int .i64 1))]) w (fun v5 w =>
 S.op (.build 45 [(0, (.int .i64 (-3))), (2, (.int .i64 2))]) w (fun v6 w =>
 S.op (.buildSlice 38 2 [(0, v5), (1, v6)]) w (fun v7 w =>
 S.call (.fn 22) [(.bool false), v4, v7] w (fun v8 w =>
 S.op (.extract v8 0) w (fun v9 w =>
 S.op (.extract v8 1) w (fun v10 w =>
 Br v10 (
 S.op (.build 45 [(0, (.int .i64 (-3))), (2, (.int .i64 2))]) w (fun v14 w =>
 S.op (.build 45 [(0, (.int .i64 5)), (2, (.int .i64 1))]) w (fun v15 w =>
 S.op (.buildSlice 38 2 [(0, v14), (1, v15)]) w (fun v16 w =>
 S.call (.fn 32) [v9, v16] w (fun v17 w =>
 K v17 w) Kp) Kp) Kp) Kp) (
 K (.bool false) w)) Kp) Kp) Kp) Kp) Kp) Kp) Kp
theorem vc14_eq : vc14 S  w K Kp = fVC S [] [] Tryz.f14 [] w K Kp := by kernel_rfl
theorem vc14_calls (h : vc14 (nice Tryz.prog)  w K Kp) : Calls Tryz.prog 14 #[] w (ret K Kp) :=
 fVC_sound (args := []) nice_le follows_BVcLA Tryz.func14 (by kernel_rfl) (Eq.mp vc14_eq h)
def vc23 (S : Sig) (a0 a1 : Value) (w : World) (K : KV) (Kp : KP) : Prop :=
 S.op (.blt .len [38] 3 [a0]) w (fun v11 w =>
 Lp fun (I3 : Value → KV) (μ3 : Value → Value → World → Nat) => I3 (.slice none 0 0) (.int .i64 0) w ∧
 ∀ (wl3 : World) (junk : Nat → Value) (s5 : Value) (s12 : Value), I3 s5 s12 wl3 →
 S.op (.bin .lss 3 false false s12 v11) wl3 (fun v13 w =>
 Br v13 (
 S.op (.indexAddr 38 a0 s12) w (fun v15 w =>
 S.op (.load 45 v15) w (fun v16 w =>
 S.op (.alloc 45) w (fun v7 w =>
 S.op (.store 45 v7 v16) w (fun _ w =>
 S.op (.fieldAddr 45 v7 0) w (fun v19 w =>
 S.op (.load 2 v19) w (fun v20 w =>
 S.op (.fieldAddr 45 v7 1) w (fun v21 w =>
 S.op (.load 9 v21) w (fun v22 w =>
 S.op (.fieldAddr 45 v7 2) w (fun v23 w =>
 S.op (.load 2 v23) w (fun v24 w =>
 S.op (.build 54 [(0, (.int .u8 0)), (1, s12), (2, v20), (3, v22), (4, v24)]) w (fun v25 w =>
 S.op (.buildSlice 32 1 [(0, v25)]) w (fun v26 w =>
 S.op (.blt .append [32, 32] 32 [s5, v26]) w (fun v27 w =>
 S.op (.bin .add 3 false true s12 (.int .i64 1)) w (fun v28 w =>
 I3 v27 v28 w ∧ μ3 v27 v28 w < μ3 s5 s12 wl3) Kp) Kp) Kp) Kp) Kp) Kp) Kp) Kp) Kp) Kp) Kp) Kp) Kp) Kp) (
 S.op (.blt .len [32] 3 [a1]) w (fun v30 w =>
 Lp fun (I8 : Value → KV) (μ8 : Value → Value → World → Nat) => I8 s5 (.int .i64 0) w ∧
 ∀ (wl8 : World) (junk : Nat → Value) (s5 : Value) (s31 : Value), I8 s5 s31 wl8 →
 S.op (.bin .lss 3 false false s31 v30) wl8 (fun v32 w =>
 Br v32 (
 S.op (.indexAddr 32 a1 s31) w (fun v33 w =>
 S.op (.load 54 v33) w (fun v34 w =>
 S.op (.alloc 54) w (fun v9 w =>
 S.op (.store 54 v9 v34) w (fun _ w =>
 S.op (.fieldAddr 54 v9 1) w (fun v35 w =>
 S.op (.load 3 v35) w (fun v36 w =>
 S.op (.blt .len [38] 3 [a0]) w (fun v38 w =>
 S.op (.bin .add 3 false false v36 v38) w (fun v39 w =>
 S.op (.fieldAddr 54 v9 1) w (fun v40 w =>
 S.op (.store 3 v40 v39) w (fun _ w =>
 S.op (.load 54 v9) w (fun v42 w =>
 S.op (.buildSlice 32 1 [(0, v42)]) w (fun v43 w =>
 S.op (.blt .append [32, 32] 32 [s5, v43]) w (fun v44 w =>
 S.op (.bin .add 3 false true s31 (.int .i64 1)) w (fun v45 w =>
 I8 v44 v45 w ∧ μ8 v44 v45 w < μ8 s5 s31 wl8) Kp) Kp) Kp) Kp) Kp) Kp) Kp) Kp) Kp) Kp) Kp) Kp) Kp) Kp) (
 K s5 w)) Kp) Kp)) Kp) Kp
theorem vc23_eq : vc23 S a0 a1 w K Kp = fVC S [(3, [5, 12]), (8, [5, 31])] [] Tryz.f23 [a0, a1] w K Kp := by kernel_rfl
theorem vc23_calls (h : vc23 (nice Tryz.prog) a0 a1 w K Kp) : Calls Tryz.prog 23 #[a0, a1] w (ret K Kp) :=
 fVC_sound (args := [a0, a1]) nice_le follows_BVcLA Tryz.func23 (by kernel_rfl) (Eq.mp vc23_eq h)
def vc22 (S : Sig) (a0 a1 a2 : Value) (w : World) (K : KV) (Kp : KP) : Prop :=
 S.op (.box 23 a1) w (fun v4 w =>
 S.ld (.load 23 v4) w.drew (fun v12 =>
 S.pur (.build 54 [(0, (.int .u8 3))]) (fun v14 =>
 S.op (.buildSlice 32 1 [(0, v14)]) w.drew (fun v15 w =>
 S.same (.load 23 v4) v12 w ∧
 S.call (.fn 23) [a2, v15] w (fun v16 w =>
 S.same (.load 23 v4) v12 w ∧
 S.call (.fn 15) [a0, v12, v16] w (fun v17 w =>
 S.pur (.extract v17 0) (fun v18 =>
 S.pur (.extract v17 1) (fun v19 =>
 S.op (.un .not v19) w (fun v21 w =>
 Br v21 (
 K (.tuple #[(.slice none 0 0), (.bool false)]) w) (
 S.op (.blt .len [28] 3 [v18]) w (fun v24 w =>
 S.op (.blt .len [38] 3 [a2]) w (fun v26 w =>
 S.op (.bin .add 3 false true v26 (.int .i64 1)) w (fun v27 w =>
 S.op (.bin .neq 3 false false v24 v27) w (fun v28 w =>
 Br v28 (
 K (.tuple #[(.slice none 0 0), (.bool false)]) w) (
 S.op (.blt .len [38] 3 [a2]) w (fun v32 w =>
 S.op (.indexAddr 28 v18 v32) w (fun v33 w =>
 S.op (.fieldAddr 56 v33 3) w (fun v34 w =>
 S.op (.load 46 v34) w (fun v35 w =>
 K (.tuple #[v35, (.bool true)]) w) Kp) Kp) Kp) Kp)) Kp) Kp) Kp) Kp)) Kp))) Kp) Kp) Kp))) Kp
theorem vc22_eq : vc22 S a0 a1 a2 w K Kp = fVC S [] [] Tryz.f22 [a0, a1, a2] w K Kp := by kernel_rfl
theorem vc22_calls (h : vc22 (nice Tryz.prog) a0 a1 a2 w K Kp) : Calls Tryz.prog 22 #[a0, a1, a2] w (ret K Kp) :=
 fVC_sound (args := [a0, a1, a2]) nice_le follows_BVcLA Tryz.func22 (by kernel_rfl) (Eq.mp vc22_eq h)
def vc32 (S : Sig) (a0 a1 : Value) (w : World) (K : KV) (Kp : KP) : Prop :=
 S.op (.blt .len [46] 3 [a0]) w (fun v7 w =>
 S.op (.blt .len [38] 3 [a1]) w (fun v9 w =>
 S.op (.bin .neq 3 false false v7 v9) w (fun v10 w =>
 Br v10 (
 K (.bool false) w) (
 S.op (.blt .len [46] 3 [a0]) w (fun v12 w =>
 Lp fun (I4 : KV) (μ4 : Value → World → Nat) => I4 (.int .i64 0) w ∧
 ∀ (wl4 : World) (junk : Nat → Value) (s13 : Value), I4 s13 wl4 →
 S.op (.bin .lss 3 false false s13 v12) wl4 (fun v14 w =>
 Br v14 (
 S.pur (.indexAddr 46 a0 s13) (fun v18 =>
 S.ld (.load 49 v18) w.drew (fun v19 =>
 S.pur (.indexAddr 38 a1 s13) (fun v22 =>
 S.ld (.load 45 v22) w.drew (fun v23 =>
 S.pur (.bin .neq 45 false false v19 v23) (fun v24 =>
 Br v24 (
 K (.bool false) w.drew) (
 S.op (.bin .add 3 false true s13 (.int .i64 1)) w.drew (fun v25 w =>
 I4 v25 w ∧ μ4 v25 w < μ4 s13 wl4) Kp))))))) (
 K (.bool true) w)) Kp) Kp)) Kp) Kp) Kp
theorem vc32_eq : vc32 S a0 a1 w K Kp = fVC S [(4, [13])] [] Tryz.f32 [a0, a1] w K Kp := by kernel_rfl
theorem vc32_calls (h : vc32 (nice Tryz.prog) a0 a1 w K Kp) : Calls Tryz.prog 32 #[a0, a1] w (ret K Kp) :=
 fVC_sound (args := [a0, a1]) nice_le follows_BVcLA Tryz.func32 (by kernel_rfl) (Eq.mp vc32_eq h)
def vc20 (S : Sig) (a0 a1 : Value) (w : World) (K : KV) (Kp : KP) : Prop :=
 S.op (.box 23 a0) w (fun v2 w =>
 S.op (.load 23 v2) w (fun v7 w =>
 S.call (.fn 29) [v7] w (fun v8 w =>
 S.op (.un .not v8) w (fun v9 w =>
 Br v9 (
 K (.bool false) w) (
 S.op (.blt .len [38] 3 [a1]) w (fun v12 w =>
 S.op (.bin .gtr 3 false true v12 (.int .i64 1000)) w (fun v13 w =>
 Br v13 (
 K (.bool false) w) (
 S.op (.blt .len [38] 3 [a1]) w (fun v16 w =>
 Lp fun (I4 : KV) (μ4 : Value → World → Nat) => I4 (.int .i64 0) w ∧
 ∀ (wl4 : World) (junk : Nat → Value) (s17 : Value), I4 s17 wl4 →
 S.op (.bin .lss 3 false false s17 v16) wl4 (fun v18 w =>
 Br v18 (
 S.op (.indexAddr 38 a1 s17) w (fun v19 w =>
 S.op (.load 45 v19) w (fun v20 w =>
 S.op (.alloc 45) w (fun v6 w =>
 S.op (.store 45 v6 v20) w (fun _ w =>
 S.op (.fieldAddr 45 v6 1) w (fun v21 w =>
 S.op (.load 9 v21) w (fun v22 w =>
 S.op (.blt .len [9] 3 [v22]) w (fun v23 w =>
 S.op (.bin .gtr 3 false true v23 (.int .i64 100)) w (fun v24 w =>
 Br v24 (
 K (.bool false) w) (
 S.op (.bin .add 3 false true s17 (.int .i64 1)) w (fun v25 w =>
 I4 v25 w ∧ μ4 v25 w < μ4 s17 wl4) Kp)) Kp) Kp) Kp) Kp) Kp) Kp) Kp) Kp) (
 K (.bool true) w)) Kp) Kp)) Kp) Kp)) Kp) Kp) Kp) Kp
theorem vc20_eq : vc20 S a0 a1 w K Kp = fVC S [(4, [17])] [] Tryz.f20 [a0, a1] w K Kp := by kernel_rfl
theorem vc20_calls (h : vc20 (nice Tryz.prog) a0 a1 w K Kp) : Calls Tryz.prog 20 #[a0, a1] w (ret K Kp) :=
 fVC_sound (args := [a0, a1]) nice_le follows_BVcLA Tryz.func20 (by kernel_rfl) (Eq.mp vc20_eq h)
def vc19 (S : Sig) (a0 : Value) (w : World) (K : KV) (Kp : KP) : Prop :=
 S.op (.blt .len [38] 3 [a0]) w (fun v6 w =>
 S.op (.bin .gtr 3 false true v6 (.int .i64 2147483647)) w (fun v7 w =>
 Br v7 (
 K (.bool false) w) (
 S.op (.blt .len [38] 3 [a0]) w (fun v9 w =>
 Lp fun (I4 : KV) (μ4 : Value → World → Nat) => I4 (.int .i64 0) w ∧
 ∀ (wl4 : World) (junk : Nat → Value) (s10 : Value), I4 s10 wl4 →
 S.op (.bin .lss 3 false false s10 v9) wl4 (fun v11 w =>
 Br v11 (
 S.op (.indexAddr 38 a0 s10) w (fun v12 w =>
 S.op (.load 45 v12) w (fun v13 w =>
 S.op (.alloc 45) w (fun v4 w =>
 S.op (.store 45 v4 v13) w (fun _ w =>
 S.op (.load 45 v4) w (fun v14 w =>
 S.call (.fn 24) [v14] w (fun v15 w =>
 S.op (.un .not v15) w (fun v16 w =>
 Br v16 (
 K (.bool false) w) (
 S.op (.bin .add 3 false true s10 (.int .i64 1)) w (fun v17 w =>
 I4 v17 w ∧ μ4 v17 w < μ4 s10 wl4) Kp)) Kp) Kp) Kp) Kp) Kp) Kp) Kp) (
 K (.bool true) w)) Kp) Kp)) Kp) Kp
theorem vc19_eq : vc19 S a0 w K Kp = fVC S [(4, [10])] [] Tryz.f19 [a0] w K Kp := by kernel_rfl
theorem vc19_calls (h : vc19 (nice Tryz.prog) a0 w K Kp) : Calls Tryz.prog 19 #[a0] w (ret K Kp) :=
 fVC_sound (args := [a0]) nice_le follows_BVcLA Tryz.func19 (by kernel_rfl) (Eq.mp vc19_eq h)
def vc24 (S : Sig) (a0 : Value) (w : World) (K : KV) (Kp : KP) : Prop :=
 S.op (.box 45 a0) w (fun v1 w =>
 S.op (.fieldAddr 45 v1 1) w (fun v3 w =>
 S.op (.load 9 v3) w (fun v4 w =>
 S.op (.blt .len [9] 3 [v4]) w (fun v5 w =>
 S.op (.bin .gtr 3 false true v5 (.int .i64 2147483647)) w (fun v6 w =>
 Br v6 (
 K (.bool false) w) (
 K (.bool true) w)) Kp) Kp) Kp) Kp) Kp
theorem vc24_eq : vc24 S a0 w K Kp = fVC S [] [] Tryz.f24 [a0] w K Kp := by kernel_rfl
theorem vc24_calls (h : vc24 (nice Tryz.prog) a0 w K Kp) : Calls Tryz.prog 24 #[a0] w (ret K Kp) :=
 fVC_sound (args := [a0]) nice_le follows_BVcLA Tryz.func24 (by kernel_rfl) (Eq.mp vc24_eq h)
def vc29 (S : Sig) (a0 : Value) (w : World) (K : KV) (Kp : KP) : Prop :=
 S.op (.box 23 a0) w (fun v1 w =>
 S.op (.fieldAddr 23 v1 0) w (fun v3 w =>
 S.op (.load 5 v3) w (fun v4 w =>
 S.op (.bin .leq 5 false true v4 (.int .u8 3)) w (fun v5 w =>
 Br v5 (
 S.op (.fieldAddr 23 v1 0) w (fun v7 w =>
 S.op (.load 5 v7) w (fun v8 w =>
 S.op (.bin .neq 5 false true v8 (.int .u8 3)) w (fun v9 w =>
 Br v9 (
 K (.bool true) w) (
 S.op (.fieldAddr 23 v1 1) w (fun v11 w =>
 S.op (.load 2 v11) w (fun v12 w =>
 S.op (.bin .geq 2 false true v12 (.int .i64 1)) w (fun v13 w =>
 Br v13 (
 S.op (.fieldAddr 23 v1 1) w (fun v15 w =>
 S.op (.load 2 v15) w (fun v16 w =>
 S.op (.bin .leq 2 false true v16 (.int .i64 1000)) w (fun v17 w =>
 K v17 w) Kp) Kp) Kp) (
 K (.bool false) w)) Kp) Kp) Kp)) Kp) Kp) Kp) (
 K (.bool false) w)) Kp) Kp) Kp) Kp
theorem vc29_eq : vc29 S a0 w K Kp = fVC S [] [] Tryz.f29 [a0] w K Kp := by kernel_rfl
theorem vc29_calls (h : vc29 (nice Tryz.prog) a0 w K Kp) : Calls Tryz.prog 29 #[a0] w (ret K Kp) :=
 fVC_sound (args := [a0]) nice_le follows_BVcLA Tryz.func29 (by kernel_rfl) (Eq.mp vc29_eq h)
end Go.Proofs.YtodjijfblgnfmaaGreatDoor
end
section
/- Structs of whole numbers that are compared. -/
namespace Go.Vc
variable {P : Program} {w : World} {K : Value → World → Prop} {K1 : Value → Prop} {Kp : KP} {t : TypeId}
end Go.Vc
end
section
/- Pairs of the thin package that are compared. -/
namespace Go.Vc.Bt
open Go.Vc
variable {P : Program} {w : World} {K : Value → World → Prop} {K1 : Value → Prop} {Kp : KP} {t : TypeId}
def fldI (P : Program) (f : Field) (o : Nat) : Bool := f.name != "_" && f.offset == o && (match P.underlying f.type with | some (.int .i64) => true | _ => false) && (match ldk P f.type with | some .one => true | _ => false)
def fldS (P : Program) (f : Field) (o : Nat) : Bool := f.name != "_" && f.offset == o && (match P.underlying f.type with | some .string => true | _ => false) && (match ldk P f.type with | some .one => true | _ => false)
def sprT (P : Program) (t : TypeId) : Bool := (match (P.fieldsOf t).toList with
  | [f0, f1, f2] => fldI P f0 0 && fldS P f1 1 && fldI P f2 2
  | _ => false) && !P.stoodInHeld t && !P.eqGuardType P.depth t
theorem fldI_eq {f : Field} {o d : Nat} {fs : List Field} {xs ys : Array Value} {a b : Int} (h : fldI P f o = true) (hx : xs[o]? = some (.int .i64 a)) (hy : ys[o]? = some (.int .i64 b)) (w : World) {r : Bool}
    (hr : (Op.eqFields (d + 1) xs ys fs).run P w = .ok r w) : (Op.eqFields (d + 1) xs ys (f :: fs)).run P w = .ok (decide (a = b) && r) w := by
  simp only [fldI, Bool.and_eq_true] at h
  obtain ⟨⟨⟨h1, h2⟩, h3⟩, h4⟩ := h
  have h2 : f.offset = o := by simpa using h2
  have h1 : f.name ≠ "_" := by simpa using h1
  have hu : P.underlying f.type = some (.int .i64) := by split at h3; assumption; cases h3
  have hl : ldk P f.type = some .one := by split at h4; assumption; cases h4
  have px : (part f.type xs f.offset).run P w = .ok (.int .i64 a) w := by rw [h2]; exact ldk_part hl (by simp [partV, hx]) w
  have py : (part f.type ys f.offset).run P w = .ok (.int .i64 b) w := by rw [h2]; exact ldk_part hl (by simp [partV, hy]) w
  rw [Op.eqFields, if_pos h1]
  simp only [Sem.run_bind, px, py, Result.andThen_ok, run_equalIn_int (k' := .i64) (h := hu)]
  by_cases e : a = b
  · subst e; simp [hr]
  · have e' : (a == b) = false := beq_eq_false_iff_ne.2 e
    simp only [e', Bool.not_false, if_true, Sem.run_pure, decide_eq_false e, Bool.false_and]
theorem fldS_eq {f : Field} {o d : Nat} {fs : List Field} {xs ys : Array Value} {a b : ByteArray} (h : fldS P f o = true) (hx : xs[o]? = some (.string a)) (hy : ys[o]? = some (.string b)) (w : World) {r : Bool}
    (hr : (Op.eqFields (d + 1) xs ys fs).run P w = .ok r w) : (Op.eqFields (d + 1) xs ys (f :: fs)).run P w = .ok (decide (a = b) && r) w := by
  simp only [fldS, Bool.and_eq_true] at h
  obtain ⟨⟨⟨h1, h2⟩, h3⟩, h4⟩ := h
  have h2 : f.offset = o := by simpa using h2
  have h1 : f.name ≠ "_" := by simpa using h1
  have hu : P.underlying f.type = some .string := by split at h3; assumption; cases h3
  have hl : ldk P f.type = some .one := by split at h4; assumption; cases h4
  have px : (part f.type xs f.offset).run P w = .ok (.string a) w := by rw [h2]; exact ldk_part hl (by simp [partV, hx]) w
  have py : (part f.type ys f.offset).run P w = .ok (.string b) w := by rw [h2]; exact ldk_part hl (by simp [partV, hy]) w
  rw [Op.eqFields, if_pos h1]
  simp only [Sem.run_bind, px, py, Result.andThen_ok, run_equalIn_string (h := hu)]
  by_cases e : a = b
  · subst e; simp [hr]
  · have e' : (a.toList == b.toList) = false := beq_eq_false_iff_ne.2 fun h => e (toList_inj.1 h)
    simp only [e', Bool.not_false, if_true, Sem.run_pure, decide_eq_false e, Bool.false_and]
theorem SPr.ext_iff' {x y : SPr} : (decide (x.key = y.key) && (decide (x.text = y.text) && (decide (x.val = y.val) && true))) = decide (x = y) := by
  cases x; cases y; simp
theorem spr_eq_run (ht : P.underlying t = some (.struct (P.fieldsOf t))) (h : sprT P t = true) (x y : SPr) (w : World) : (Op.equal t (.agg x.cells.toArray) (.agg y.cells.toArray)).run P w = .ok (decide (x = y)) w := by
  simp only [sprT, Bool.and_eq_true] at h
  obtain ⟨⟨h1, h2⟩, h3⟩ := h
  have h2 : P.stoodInHeld t = false := by simpa using h2
  unfold Op.equal Op.maxDepth
  rw [run_equalIn_struct w 9999 t _ _ ht h2]
  split at h1
  · rename_i f0 f1 f2 hf
    rw [hf]
    simp only [Bool.and_eq_true] at h1
    obtain ⟨⟨g0, g1⟩, g2⟩ := h1
    rw [fldI_eq (d := 9998) (a := x.key) (b := y.key) g0 rfl rfl w (fldS_eq (a := x.text) (b := y.text) g1 rfl rfl w (fldI_eq (a := x.val) (b := y.val) g2 rfl rfl w (r := true) (by simp [Op.eqFields])))]
    rw [SPr.ext_iff']
  · cases h1
theorem pur_neq_spr (ht : P.underlying t = some (.struct (P.fieldsOf t))) (h : sprT P t = true) {x y : SPr} (hK : K1 (.bool (!decide (x = y)))) :
    (nice P).pur (.bin .neq t false false (.agg x.cells.toArray) (.agg y.cells.toArray)) K1 := by
  refine ⟨_, fun w => ?_, hK⟩
  have hg : P.eqGuardType P.depth t = false := by
    simp only [sprT, Bool.and_eq_true] at h; simpa using h.2
  have h2 : ∀ w, (eqGuard .neq t (opd false) (opd false) (.agg x.cells.toArray) (.agg y.cells.toArray)).run P w = .ok () w := fun w => by
    have hp : (program : Sem Program).run P w = .ok P w := rfl
    simp [eqGuard, hp, hg]
  simp only [VOp.sem, Sem.run_bind, h2, Result.andThen_ok]
  simp [binOp, spr_eq_run ht h]
/-! ### scripts that put pairs -/
def putSteps (ps : List SPr) : List SSt := ps.mapIdx fun i p => ⟨0, i, p.key, p.text, p.val, 0, 0⟩
theorem putSteps_len (ps : List SPr) : (putSteps ps).length = ps.length := by simp [putSteps]
theorem putSteps_snoc (ps : List SPr) (p : SPr) : putSteps (ps ++ [p]) = putSteps ps ++ [⟨0, ps.length, p.key, p.text, p.val, 0, 0⟩] := by simp [putSteps, List.mapIdx_append]
def SSt.later (n : Nat) (s : SSt) : SSt := { s with fro := IntKind.i64.wrap (s.fro + n) }
theorem putSteps_mem {ps : List SPr} {s : SSt} (h : s ∈ putSteps ps) : s.op = 0 ∧ s.count = 0 ∧ ∃ p ∈ ps, s.text = p.text := by
  simp only [putSteps, List.mem_mapIdx] at h
  obtain ⟨i, hi, rfl⟩ := h
  exact ⟨rfl, rfl, _, List.getElem_mem hi, rfl⟩
theorem putSteps_cost : ∀ (ps : List SPr), scost (putSteps ps) = ps.length := by
  intro ps
  rw [← List.reverse_reverse ps]
  generalize ps.reverse = r
  induction r with
  | nil => rfl
  | cons p r ih => rw [List.reverse_cons, putSteps_snoc, scost_snoc, ih]; simp [SSt.cost]
section
variable {κ : Type} [DecidableEq κ] {lt : κ → κ → Bool} {kd : Kd κ}
def Kd.kv (kd : Kd κ) (p : SPr) : κ × Int := (kd.key p.key p.text, p.val)
theorem atV_small {s : SSt} {i n : Nat} (h : s.fro = i) (hi : i < n) : atV s n = i := by
  unfold atV
  rw [h, Int.emod_eq_of_lt (by omega) (by omega)]; simp
theorem runS_put (ps : List SPr) : (runS lt kd (putSteps ps)).1.length = ps.length + 1 ∧ (runS lt kd (putSteps ps)).1[ps.length]? = some (putAll lt [] (ps.map kd.kv)) ∧ (runS lt kd (putSteps ps)).2.length = ps.length := by
  rw [← List.reverse_reverse ps]
  generalize ps.reverse = r
  induction r with
  | nil => exact ⟨rfl, rfl, rfl⟩
  | cons p r ih =>
    obtain ⟨h1, h2, h3⟩ := ih
    rw [List.reverse_cons, putSteps_snoc, runS_snoc]
    generalize runS lt kd (putSteps r.reverse) = q at *
    have ha : atV (⟨0, (r.reverse.length : Nat), p.key, p.text, p.val, 0, 0⟩ : SSt) q.1.length = r.reverse.length := atV_small rfl (by omega)
    unfold oneS
    rw [ha, h2, Option.getD_some]
    have hn : newV lt kd ⟨0, (r.reverse.length : Nat), p.key, p.text, p.val, 0, 0⟩ (putAll lt [] (r.reverse.map kd.kv)) = some (put lt (putAll lt [] (r.reverse.map kd.kv)) (kd.key p.key p.text) p.val) := by unfold newV; rw [if_pos rfl]
    rw [hn]
    refine ⟨?_, ?_, ?_⟩
    · rw [Option.toList_some, List.length_append, List.length_singleton, List.length_append, List.length_singleton, h1]
    · rw [Option.toList_some, List.length_append, List.length_singleton, List.getElem?_append_right (by omega), h1, Nat.sub_self, List.map_append, List.map_singleton, putAll_snoc]
      rfl
    · rw [List.length_append, List.length_singleton, List.length_append, List.length_singleton, h3]
end
end Go.Vc.Bt
namespace Go.Vc.Bt
open Go.Vc
variable {P : Program} {w : World} {K : Value → World → Prop} {Kp : KP}
theorem sameLoop {t1 e1 t2 e2 t3 : TypeId} {l1 l2 : Value} {xs : List SPr} (s1 : sliceOf P t1 = some (e1, 3)) (s2 : sliceOf P t2 = some (e2, 3)) (d1 : ldk P e1 = some (.agg 3)) (d2 : ldk P e2 = some (.agg 3)) (ht : P.underlying t3 = some (.struct (P.fieldsOf t3))) (hq : sprT P t3 = true)
    (k1 : kd P t1 = .slice) (h1 : IsSl w l1 xs.length (xs.flatMap SPr.cells)) (h2 : IsSl w l2 xs.length (xs.flatMap SPr.cells)) (hn : xs.length < 2 ^ 60) (hK : ∀ w', Frm (fun _ => False) w w' → K (.bool true) w') :
    (nice P).op (.blt Builtin.len [t1] 3 [l1]) w (fun v50 w =>
    Lp fun (I10 : Value → World → Prop) (μ10 : Value → World → Nat) => I10 (Value.int IntKind.i64 0) w ∧
    ∀ (wl10 : World) (junk : Nat → Value) (s51_ : Value), I10 s51_ wl10 →
      (nice P).op (.bin BinOp.lss 3 false false s51_ v50) wl10 (fun v52 w =>
      Br v52 (
        (nice P).pur (.indexAddr t1 l1 s51_) (fun v56 =>
        (nice P).ld (.load e1 v56) w.drew (fun v57 =>
        (nice P).pur (.indexAddr t2 l2 s51_) (fun v60 =>
        (nice P).ld (.load e2 v60) w.drew (fun v61 =>
        (nice P).pur (.bin BinOp.neq t3 false false v57 v61) (fun v62 =>
        Br v62 (
          K (Value.bool false) w.drew) (
          (nice P).op (.bin BinOp.add 3 false true s51_ (Value.int IntKind.i64 1)) w.drew (fun v63 w =>
          I10 v63 w ∧ μ10 v63 w < μ10 s51_ wl10) Kp))))))) (
        K (Value.bool true) w)) Kp) Kp := by
  obtain ⟨a1, c1, rfl, hc1, hm1, r1, _⟩ := h1
  obtain ⟨a2, c2, rfl, hc2, hm2, r2, _⟩ := h2
  rw [op_len_slice k1]
  obtain ⟨I, hI⟩ : ∃ I : Value → World → Prop, ∀ v wl, I v wl ↔ ∃ i : Nat, v = .int .i64 i ∧ i ≤ xs.length ∧ Frm (fun _ => False) w wl := ⟨_, fun _ _ => Iff.rfl⟩
  refine Lp.intro I (fun v _ => xs.length - (match v with | .int _ j => j.toNat | _ => 0)) ⟨(hI _ _).2 ⟨0, rfl, by omega, Frm.refl⟩, ?_⟩
  intro wl _ v hv
  obtain ⟨i, rfl, hi, kl⟩ := (hI _ _).1 hv
  simp only [op_lss, Br_dec]
  refine ⟨fun hlt => ?_, fun hge => hK wl kl⟩
  have hi' : i < xs.length := by omega
  have kd := kl.no (Frm.drew wl)
  obtain ⟨b1, o1, cs1, e1', f1, rfl, q1, q2, q3⟩ := (r1.frame kd fun _ _ h => h).part SPr.len (by decide) hi'
  obtain ⟨b2, o2, cs2, e2', f2, rfl, p1, p2, p3⟩ := (r2.frame kd fun _ _ h => h).part SPr.len (by decide) hi'
  rw [pur_ix_slice s1]
  refine ⟨⟨by omega, by omega⟩, ?_⟩
  rw [add_spot rfl, ld_ldn d1]
  simp only [Int.toNat_natCast]
  refine ⟨cs1, e1', f1, q1, trivial, q2, ?_⟩
  rw [q3, pur_ix_slice s2]
  refine ⟨⟨by omega, by omega⟩, ?_⟩
  rw [add_spot rfl, ld_ldn d2]
  simp only [Int.toNat_natCast]
  refine ⟨cs2, e2', f2, p1, trivial, p2, ?_⟩
  rw [p3]
  refine pur_neq_spr ht hq ?_
  rw [decide_eq_true rfl]
  show Br (.bool false) _ _
  rw [show ∀ A B : Prop, Br (.bool false) A B = B from fun A B => by simp [Br], op_add]
  have e : IntKind.i64.wrap ((i : Int) + 1) = ((i + 1 : Nat) : Int) := by rw [IntKind.wrap_i64]; omega
  rw [e]
  refine ⟨(hI _ _).2 ⟨i + 1, rfl, by omega, kd⟩, ?_⟩
  simp only [Int.toNat_natCast]; omega
end Go.Vc.Bt
namespace Go.Vc.Bt
section
variable {κ : Type} [DecidableEq κ] {lt : κ → κ → Bool} {kd : Kd κ}
def prsOf (kd : Kd κ) (L : Vn κ) : List SPr := L.map fun e => kd.pair e.1 e.2
theorem runS_items (ps : List SPr) (hn : ps.length < 2 ^ 31) {s : SSt} (hop : s.op = 3) (h0 : s.fro = 0) :
    (runS lt kd (putSteps ps ++ [s.later ps.length])).2.length = ps.length + 1 ∧
    ((runS lt kd (putSteps ps ++ [s.later ps.length])).2[ps.length]?).map SAns.list = some (prsOf kd (putAll lt [] (ps.map kd.kv))) := by
  obtain ⟨h1, h2, h3⟩ := runS_put (lt := lt) (kd := kd) ps
  rw [runS_snoc]
  generalize runS lt kd (putSteps ps) = q at *
  have hf : (s.later ps.length).fro = ps.length := by
    show IntKind.i64.wrap (s.fro + ps.length) = _
    rw [h0, IntKind.wrap_i64]; omega
  have ha : atV (s.later ps.length) q.1.length = ps.length := atV_small hf (by omega)
  unfold oneS
  rw [ha, h2, Option.getD_some]
  refine ⟨by rw [List.length_append, List.length_singleton, h3], ?_⟩
  rw [List.getElem?_append_right (by omega), h3, Nat.sub_self]
  have ho : (s.later ps.length).op = 3 := hop
  unfold ansV
  rw [if_neg (by omega), if_pos ho]; rfl
end
end Go.Vc.Bt
namespace Go.Vc.Bt
section
variable {κ : Type} [DecidableEq κ] {lt : κ → κ → Bool} {kd : Kd κ}
theorem runS_back (ps : List SPr) (hn : ps.length < 2 ^ 31) {s : SSt} (hop : s.op = 4) (h0 : s.fro = 0) :
    (runS lt kd (putSteps ps ++ [s.later ps.length])).2.length = ps.length + 1 ∧
    ((runS lt kd (putSteps ps ++ [s.later ps.length])).2[ps.length]?).map SAns.list = some (prsOf kd (putAll lt [] (ps.map kd.kv)).reverse) := by
  obtain ⟨h1, h2, h3⟩ := runS_put (lt := lt) (kd := kd) ps
  rw [runS_snoc]
  generalize runS lt kd (putSteps ps) = q at *
  have hf : (s.later ps.length).fro = ps.length := by
    show IntKind.i64.wrap (s.fro + ps.length) = _
    rw [h0, IntKind.wrap_i64]; omega
  have ha : atV (s.later ps.length) q.1.length = ps.length := atV_small hf (by omega)
  unfold oneS
  rw [ha, h2, Option.getD_some]
  refine ⟨by rw [List.length_append, List.length_singleton, h3], ?_⟩
  rw [List.getElem?_append_right (by omega), h3, Nat.sub_self]
  have ho : (s.later ps.length).op = 4 := hop
  unfold ansV
  rw [if_neg (by omega), if_neg (by omega), if_pos ho]; rfl
end
end Go.Vc.Bt
end
section
/- What the laws of sorted maps use: bounds, scripts of pairs, the pairs of a map. -/
namespace Go.Proofs.YtodjijfblgnfmaaGreatDoor
open Go.Vc Go.Proofs Go.Vc.Bt
variable {w w' : World} {K : KV} {Kp : KP} {n : Int} {kn : Nat} {a1 : Option Addr} {c1 : Nat} {ps : List SPr}
theorem fits7_ok {p : SPr} (hK : ∀ b w', Frm (fun _ => False) w w' → K (.bool b) w') : Calls Tryz.prog 24 #[.agg p.cells.toArray] w (ret K Kp) := by
  refine vc24_calls ?_
  delta vc24
  refine op_box_ok fun w1 k1 z1 b1 => ?_
  simp only [cells_agg, SPr.cells] at b1
  have h0 := hK true w1 k1
  have h1 := hK false w1 k1
  simp [-getElem?_pos, -Array.getElem?_eq_getElem, -Int.natCast_add, add_spot, and_assoc, Br_dec, -op_box, -op_alloc_45, -op_st_45, -op_alloc_54, -op_st_54, -op_lit_32_1, -op_st_3, b1]
  exact ⟨fun _ => h1, fun _ => h0⟩
theorem fits6_ok (hr : Row w a1 (ps.flatMap SPr.cells)) (hK : ∀ b w', Frm (fun _ => False) w w' → (b = true → ps.length ≤ 2147483647) → K (.bool b) w') : Calls Tryz.prog 19 #[.slice a1 ps.length c1] w (ret K Kp) := by
  refine vc19_calls ?_
  delta vc19
  simp [-getElem?_pos, -Array.getElem?_eq_getElem, -Int.natCast_add, add_spot, and_assoc, Br_dec, -op_box, -op_alloc_45, -op_st_45, -op_alloc_54, -op_st_54, -op_lit_32_1, -op_st_3]
  refine ⟨fun _ => hK false w Frm.refl (fun h => nomatch h), fun hle => ?_⟩
  obtain ⟨I, hI⟩ : ∃ I : KV, ∀ v wl, I v wl ↔ ∃ i : Nat, v = .int .i64 i ∧ i ≤ ps.length ∧ Frm (fun _ => False) w wl := ⟨_, fun _ _ => Iff.rfl⟩
  refine Lp.intro I (fun v _ => ps.length - nOf v) ⟨(hI _ _).2 ⟨0, rfl, by omega, Frm.refl⟩, ?_⟩
  intro wl v hv
  obtain ⟨i, rfl, hi, kl⟩ := (hI _ _).1 hv
  simp only [op_lss, Br_dec]
  refine ⟨fun hlt => ?_, fun hge => hK true wl kl fun _ => by omega⟩
  have hi' : i < ps.length := by omega
  obtain ⟨b, o, cs, e, fz, rfl, q1, q2, q3⟩ := (hr.frame kl fun _ _ h => h).part SPr.len (by decide) hi'
  simp [-getElem?_pos, -Array.getElem?_eq_getElem, -Int.natCast_add, add_spot, and_assoc, Br_dec, -op_box, -op_alloc_45, -op_st_45, -op_alloc_54, -op_st_54, -op_lit_32_1, -op_st_3, q1, q2, q3]
  refine ⟨hi', ?_⟩
  refine op_alloc_ok (z := .agg #[.int .i64 0, .string ByteArray.empty, .int .i64 0]) (by kernel_rfl) fun w5 k5 z5 b5 => ?_
  simp only [cells_agg] at b5
  refine op_storeN_ok (n := 3) (by kernel_rfl) b5 rfl (by decide) (by simp [SPr.cells]) fun w6 k6 z6 b6 => ?_
  have b6 : w6.heap[wl.heap.size]? = some (.cells ps[i].cells.toArray 45 (0, 0)) := by
    rw [ow_all (by simp [SPr.cells])] at b6; exact b6
  have hx : ps[i].cells.toArray.extract 0 3 = ps[i].cells.toArray := extract_self (by simp [SPr.cells])
  have hs3 : 3 ≤ ps[i].cells.length := Nat.le_refl _
  simp [-getElem?_pos, -Array.getElem?_eq_getElem, -Int.natCast_add, add_spot, and_assoc, Br_dec, -op_box, -op_alloc_45, -op_st_45, -op_alloc_54, -op_st_54, -op_lit_32_1, -op_st_3, b6, hx, hs3]
  refine fits7_ok fun b w7 k7 => ?_
  have k67 := (kl.no (k5.old k6 fun c hc => .inr (by omega))).no k7
  cases b with
  | false =>
    simp [-getElem?_pos, -Array.getElem?_eq_getElem, -Int.natCast_add, add_spot, and_assoc, Br_dec, -op_box, -op_alloc_45, -op_st_45, -op_alloc_54, -op_st_54, -op_lit_32_1, -op_st_3]
    exact hK false w7 k67 (fun h => nomatch h)
  | true =>
    simp [-getElem?_pos, -Array.getElem?_eq_getElem, -Int.natCast_add, add_spot, and_assoc, Br_dec, -op_box, -op_alloc_45, -op_st_45, -op_alloc_54, -op_st_54, -op_lit_32_1, -op_st_3]
    rw [show IntKind.i64.wrap ((i : Int) + 1) = ((i + 1 : Nat) : Int) from by rw [IntKind.wrap_i64]; omega]
    exact ⟨(hI _ _).2 ⟨i + 1, rfl, by omega, k67⟩, by simp only [nOf_int]; omega⟩
def Right (kn : Nat) (n : Int) : Prop := kn ≤ 3 ∧ (kn = 3 → 1 ≤ n ∧ n ≤ 1000)
theorem right_ok (hK : ∀ b w', Frm (fun _ => False) w w' → (b = true ↔ Right kn n) → K (.bool b) w') : Calls Tryz.prog 29 #[orderV kn n] w (ret K Kp) := by
  refine vc29_calls ?_
  delta vc29 orderV
  refine op_box_ok fun w1 k1 z1 b1 => ?_
  simp only [cells_agg] at b1
  have h0 := fun h => hK true w1 k1 h
  have h1 := fun h => hK false w1 k1 h
  simp [-getElem?_pos, -Array.getElem?_eq_getElem, -Int.natCast_add, add_spot, and_assoc, Br_dec, -op_box, -op_alloc_45, -op_st_45, -op_alloc_54, -op_st_54, -op_lit_32_1, -op_st_3, b1]
  refine ⟨fun h3 => ⟨fun hne => h0 ⟨fun _ => ⟨by omega, fun e => by omega⟩, fun _ => rfl⟩, fun he => ⟨fun hn => ?_, fun hn => h1 ⟨(fun h => nomatch h), fun h => ?_⟩⟩⟩, fun h3 => h1 ⟨(fun h => nomatch h), fun h => ?_⟩⟩
  · refine hK _ w1 k1 ?_
    unfold Right
    rw [decide_eq_true_iff]
    constructor
    · intro h; exact ⟨by omega, fun _ => ⟨hn, h⟩⟩
    · intro h; exact (h.2 (by omega)).2
  · have := h.2 (by omega); omega
  · have := h.1; omega
theorem pairsRight_ok (hr : Row w a1 (ps.flatMap SPr.cells)) (hK : ∀ b w', Frm (fun _ => False) w w' → (b = true → Right kn n ∧ ps.length ≤ 1000 ∧ ∀ p ∈ ps, p.text.size ≤ 100) → K (.bool b) w') : Calls Tryz.prog 20 #[orderV kn n, .slice a1 ps.length c1] w (ret K Kp) := by
  refine vc20_calls ?_
  delta vc20 orderV
  refine op_box_ok fun w1 k1 z1 b1 => ?_
  simp only [cells_agg] at b1
  have hx2 : (#[.int .u8 kn, .int .i64 n] : Array Value).extract 0 2 = #[.int .u8 kn, .int .i64 n] := rfl
  simp [-getElem?_pos, -Array.getElem?_eq_getElem, -Int.natCast_add, add_spot, and_assoc, Br_dec, -op_box, -op_alloc_45, -op_st_45, -op_alloc_54, -op_st_54, -op_lit_32_1, -op_st_3, b1, hx2]
  refine right_ok (kn := kn) (n := n) fun b w2 k2 hb => ?_
  have k12 := k1.no k2
  cases b with
  | false =>
    simp [-getElem?_pos, -Array.getElem?_eq_getElem, -Int.natCast_add, add_spot, and_assoc, Br_dec, -op_box, -op_alloc_45, -op_st_45, -op_alloc_54, -op_st_54, -op_lit_32_1, -op_st_3]
    exact hK false w2 k12 (fun h => nomatch h)
  | true =>
    have hri := hb.1 rfl
    simp [-getElem?_pos, -Array.getElem?_eq_getElem, -Int.natCast_add, add_spot, and_assoc, Br_dec, -op_box, -op_alloc_45, -op_st_45, -op_alloc_54, -op_st_54, -op_lit_32_1, -op_st_3]
    refine ⟨fun _ => hK false w2 k12 (fun h => nomatch h), fun hle => ?_⟩
    obtain ⟨I, hI⟩ : ∃ I : KV, ∀ v wl, I v wl ↔ ∃ i : Nat, v = .int .i64 i ∧ i ≤ ps.length ∧ Frm (fun _ => False) w wl ∧ ∀ p ∈ ps.take i, p.text.size ≤ 100 := ⟨_, fun _ _ => Iff.rfl⟩
    refine Lp.intro I (fun v _ => ps.length - nOf v) ⟨(hI _ _).2 ⟨0, rfl, by omega, k12, by simp⟩, ?_⟩
    intro wl v hv
    obtain ⟨i, rfl, hi, kl, hall⟩ := (hI _ _).1 hv
    simp only [op_lss, Br_dec]
    refine ⟨fun hlt => ?_, fun hge => hK true wl kl fun _ => ⟨hri, by omega, by rwa [List.take_of_length_le (by omega)] at hall⟩⟩
    have hi' : i < ps.length := by omega
    obtain ⟨b, o, cs, e, fz, rfl, q1, q2, q3⟩ := (hr.frame kl fun _ _ h => h).part SPr.len (by decide) hi'
    simp [-getElem?_pos, -Array.getElem?_eq_getElem, -Int.natCast_add, add_spot, and_assoc, Br_dec, -op_box, -op_alloc_45, -op_st_45, -op_alloc_54, -op_st_54, -op_lit_32_1, -op_st_3, q1, q2, q3]
    refine ⟨hi', ?_⟩
    refine op_alloc_ok (z := .agg #[.int .i64 0, .string ByteArray.empty, .int .i64 0]) (by kernel_rfl) fun w5 k5 z5 b5 => ?_
    simp only [cells_agg] at b5
    refine op_storeN_ok (n := 3) (by kernel_rfl) b5 rfl (by decide) (by simp [SPr.cells]) fun w6 k6 z6 b6 => ?_
    have b6 : w6.heap[wl.heap.size]? = some (.cells #[.int .i64 ps[i].key, .string ps[i].text, .int .i64 ps[i].val] 45 (0, 0)) := by
      rw [ow_all (by simp [SPr.cells])] at b6; exact b6
    have k6' := kl.no (k5.old k6 fun c hc => .inr (by omega))
    simp [-getElem?_pos, -Array.getElem?_eq_getElem, -Int.natCast_add, add_spot, and_assoc, Br_dec, -op_box, -op_alloc_45, -op_st_45, -op_alloc_54, -op_st_54, -op_lit_32_1, -op_st_3, b6]
    refine ⟨fun _ => hK false w6 k6' (fun h => nomatch h), fun h100 => ?_⟩
    rw [show IntKind.i64.wrap ((i : Int) + 1) = ((i + 1 : Nat) : Int) from by rw [IntKind.wrap_i64]; omega]
    refine ⟨(hI _ _).2 ⟨i + 1, rfl, by omega, k6', fun p hp => ?_⟩, by simp only [nOf_int]; omega⟩
    rw [List.take_succ_eq_append_getElem hi'] at hp
    rcases List.mem_append.1 hp with hp | hp
    · exact hall p hp
    · rw [List.mem_singleton.1 hp]; omega
end Go.Proofs.YtodjijfblgnfmaaGreatDoor
end
section
/- The pairs of a sorted map into which pairs were put. -/
namespace Go.Proofs.YtodjijfblgnfmaaGreatDoor
open Go.Vc Go.Proofs Go.Vc.Bt
variable {w w' : World} {K : KV} {Kp : KP} {n : Int} {a1 : Option Addr} {c1 : Nat} {ps : List SPr}
theorem apS : apOf Tryz.prog 32 = some (54, 7, 64) := by kernel_rfl
theorem lit_st (s : SSt) : sliceLit Tryz.prog 32 1 [(0, .agg s.cells.toArray)] = some (54, s.cells.toArray) := lit_32_1
theorem sortedPut_ok {m : List SSt} {v2 : Value} (hr : Row w a1 (ps.flatMap SPr.cells)) (hm : IsSl w v2 m.length (m.flatMap SSt.cells)) (hn : ps.length ≤ 2 ^ 20) (hml : m.length ≤ 1000)
    (hK : ∀ l w', Frm (fun _ => False) w w' → RowsOf (Flat SSt.cells) w' w.heap.size 54 7 l (putSteps ps ++ m.map (SSt.later ps.length)) (fun _ => False) → K l w') :
    Calls Tryz.prog 23 #[.slice a1 ps.length c1, v2] w (ret K Kp) := by
  have hE := flat_ok SSt.cells
  obtain ⟨a2, c2, rfl, hc2, hm2, hr2, _⟩ := hm
  refine vc23_calls ?_
  delta vc23
  simp [-getElem?_pos, -Array.getElem?_eq_getElem, -Int.natCast_add, add_spot, and_assoc, Br_dec, -op_box, -op_alloc_45, -op_st_45, -op_alloc_54, -op_st_54, -op_lit_32_1, -op_st_3, -op_lit_38_2]
  obtain ⟨I, hI⟩ : ∃ I : Value → KV, ∀ l v wl, I l v wl ↔ ∃ i : Nat, v = .int .i64 i ∧ i ≤ ps.length ∧ Frm (fun _ => False) w wl ∧ RowsOf (Flat SSt.cells) wl w.heap.size 54 7 l (putSteps (ps.take i)) (fun _ => False) := ⟨_, fun _ _ _ => Iff.rfl⟩
  refine Lp.intro I (fun _ v _ => ps.length - nOf v) ⟨(hI _ _ _).2 ⟨0, rfl, by omega, Frm.refl, rows_nil⟩, ?_⟩
  intro wl l v hv
  obtain ⟨i, rfl, hi, kl, hR⟩ := (hI _ _ _).1 hv
  have hlow := hR.own_lt
  have nl := kl.size
  simp only [op_lss, Br_dec]
  refine ⟨fun hlt => ?_, fun hge => ?_⟩
  · have hi' : i < ps.length := by omega
    obtain ⟨b, o, cs, e, fz, rfl, q1, q2, q3⟩ := (hr.frame kl fun _ _ h => h).part SPr.len (by decide) hi'
    simp [-getElem?_pos, -Array.getElem?_eq_getElem, -Int.natCast_add, add_spot, and_assoc, Br_dec, -op_box, -op_alloc_45, -op_st_45, -op_alloc_54, -op_st_54, -op_lit_32_1, -op_st_3, -op_lit_38_2, q1, q2, q3]
    refine ⟨hi', ?_⟩
    refine op_alloc_ok (z := .agg #[.int .i64 0, .string ByteArray.empty, .int .i64 0]) (by kernel_rfl) fun w5 k5 z5 b5 => ?_
    simp only [cells_agg] at b5
    refine op_storeN_ok (n := 3) (by kernel_rfl) b5 rfl (by decide) (by simp [SPr.cells]) fun w6 k6 z6 b6 => ?_
    have b6 : w6.heap[wl.heap.size]? = some (.cells #[.int .i64 ps[i].key, .string ps[i].text, .int .i64 ps[i].val] 45 (0, 0)) := by
      rw [ow_all (by simp [SPr.cells])] at b6; exact b6
    have k6' := k5.old k6 fun c hc => .inr (by omega)
    have hR6 := hR.still hE k6'
    have n6 := k6'.size
    simp [-getElem?_pos, -Array.getElem?_eq_getElem, -Int.natCast_add, add_spot, and_assoc, Br_dec, -op_box, -op_alloc_45, -op_st_45, -op_alloc_54, -op_st_54, -op_lit_32_1, -op_st_3, -op_lit_38_2, b6]
    have htl : (putSteps (ps.take i)).length = i := by rw [putSteps_len, List.length_take]; omega
    have e0 : (#[.int .u8 0, .int .i64 (i : Nat), .int .i64 ps[i].key, .string ps[i].text, .int .i64 ps[i].val, .int .i64 0, .int .i64 0] : Array Value) = (⟨0, (i : Nat), ps[i].key, ps[i].text, ps[i].val, 0, 0⟩ : SSt).cells.toArray := by simp [SSt.cells]
    rw [e0]
    generalize hs0 : (⟨0, (i : Nat), ps[i].key, ps[i].text, ps[i].val, 0, 0⟩ : SSt) = s0 at *
    refine op_push (u := s0.cells) (y := s0) (G2 := fun _ => False) hE apS (lit_st _) rfl (SSt.one _) hR6 rfl (fun _ h => h.elim) (fun _ _ h => h) (by rw [htl]; omega) (by omega) fun l' w7 k7 hR7 ho7 => ?_
    try simp [-getElem?_pos, -Array.getElem?_eq_getElem, -Int.natCast_add, add_spot, and_assoc, Br_dec, -op_box, -op_alloc_45, -op_st_45, -op_alloc_54, -op_st_54, -op_lit_32_1, -op_st_3, -op_lit_38_2]
    rw [show IntKind.i64.wrap ((i : Int) + 1) = ((i + 1 : Nat) : Int) from by rw [IntKind.wrap_i64]; omega]
    refine ⟨(hI _ _ _).2 ⟨i + 1, rfl, by omega, (kl.no k6').old k7 fun c hc => .inr (hlow c hc.symm).1, ?_⟩, by simp only [nOf_int]; omega⟩
    rw [List.take_succ_eq_append_getElem hi', putSteps_snoc, List.length_take, Nat.min_eq_left (by omega), hs0]
    exact hR7.mono hE (fun _ h => h.elim id fun h => h) (fun _ h => h.elim) fun _ _ h => h
  · have : i = ps.length := by omega
    subst this
    rw [List.take_length] at hR
    clear hI I hv
    try simp [-getElem?_pos, -Array.getElem?_eq_getElem, -Int.natCast_add, add_spot, and_assoc, Br_dec, -op_box, -op_alloc_45, -op_st_45, -op_alloc_54, -op_st_54, -op_lit_32_1, -op_st_3, -op_lit_38_2]
    obtain ⟨I, hI⟩ : ∃ I : Value → KV, ∀ l v wl, I l v wl ↔ ∃ i : Nat, v = .int .i64 i ∧ i ≤ m.length ∧ Frm (fun _ => False) w wl ∧ RowsOf (Flat SSt.cells) wl w.heap.size 54 7 l (putSteps ps ++ (m.take i).map (SSt.later ps.length)) (fun _ => False) := ⟨_, fun _ _ _ => Iff.rfl⟩
    refine Lp.intro I (fun _ v _ => m.length - nOf v) ⟨(hI _ _ _).2 ⟨0, rfl, by omega, kl, by simpa using hR⟩, ?_⟩
    clear hlow nl kl hR hi hge
    intro wl l v hv
    obtain ⟨i, rfl, hi, kl, hR⟩ := (hI _ _ _).1 hv
    have hlow := hR.own_lt
    have nl := kl.size
    simp only [op_lss, Br_dec]
    refine ⟨fun hlt => ?_, fun hge => ?_⟩
    · have hi' : i < m.length := by omega
      obtain ⟨b, o, cs, e, fz, rfl, q1, q2, q3⟩ := (hr2.frame kl fun _ _ h => h).part SSt.len (by decide) hi'
      simp [-getElem?_pos, -Array.getElem?_eq_getElem, -Int.natCast_add, add_spot, and_assoc, Br_dec, -op_box, -op_alloc_45, -op_st_45, -op_alloc_54, -op_st_54, -op_lit_32_1, -op_st_3, -op_lit_38_2, q1, q2, q3]
      refine ⟨hi', ?_⟩
      refine op_alloc_ok (z := .agg #[.int .u8 0, .int .i64 0, .int .i64 0, .string ByteArray.empty, .int .i64 0, .int .i64 0, .int .i64 0]) (by kernel_rfl) fun w5 k5 z5 b5 => ?_
      simp only [cells_agg] at b5
      refine op_storeN_ok (n := 7) (by kernel_rfl) b5 rfl (by decide) (by simp [SSt.cells]) fun w6 k6 z6 b6 => ?_
      have b6 : w6.heap[wl.heap.size]? = some (.cells #[.int .u8 m[i].op, .int .i64 m[i].fro, .int .i64 m[i].key, .string m[i].text, .int .i64 m[i].value, .int .i64 m[i].count, .int .i64 m[i].by'] 54 (0, 0)) := by
        rw [ow_all (by simp [SSt.cells])] at b6; exact b6
      have k6' := k5.old k6 fun c hc => .inr (by omega)
      simp [-getElem?_pos, -Array.getElem?_eq_getElem, -Int.natCast_add, add_spot, and_assoc, Br_dec, -op_box, -op_alloc_45, -op_st_45, -op_alloc_54, -op_st_54, -op_lit_32_1, -op_st_3, -op_lit_38_2, b6]
      refine op_store_ok (by kernel_rfl) b6 (by simp) rfl fun w7 k7 z7 b7 => ?_
      have b7 : w7.heap[wl.heap.size]? = some (.cells (m[i].later ps.length).cells.toArray 54 (0, 0)) := by simpa [SSt.later, SSt.cells] using b7
      have k7' := k6'.old k7 fun c hc => .inr (by omega)
      have hR7 := hR.still hE k7'
      have n7 := k7'.size
      have hx : (m[i].later ps.length).cells.toArray.extract 0 7 = (m[i].later ps.length).cells.toArray := extract_self (by simp [SSt.cells])
      have hs7 : 7 ≤ (m[i].later ps.length).cells.length := Nat.le_refl _
      simp [-getElem?_pos, -Array.getElem?_eq_getElem, -Int.natCast_add, add_spot, and_assoc, Br_dec, -op_box, -op_alloc_45, -op_st_45, -op_alloc_54, -op_st_54, -op_lit_32_1, -op_st_3, -op_lit_38_2, b7, hx, hs7]
      have htl : (putSteps ps ++ (m.take i).map (SSt.later ps.length)).length = ps.length + i := by rw [List.length_append, putSteps_len, List.length_map, List.length_take]; omega
      refine op_push (u := (m[i].later ps.length).cells) (y := m[i].later ps.length) (G2 := fun _ => False) hE apS (lit_st _) rfl (SSt.one _) hR7 rfl (fun _ h => h.elim) (fun _ _ h => h) (by rw [htl]; omega) (by omega) fun l' w8 k8 hR8 ho8 => ?_
      try simp [-getElem?_pos, -Array.getElem?_eq_getElem, -Int.natCast_add, add_spot, and_assoc, Br_dec, -op_box, -op_alloc_45, -op_st_45, -op_alloc_54, -op_st_54, -op_lit_32_1, -op_st_3, -op_lit_38_2]
      rw [show IntKind.i64.wrap ((i : Int) + 1) = ((i + 1 : Nat) : Int) from by rw [IntKind.wrap_i64]; omega]
      refine ⟨(hI _ _ _).2 ⟨i + 1, rfl, by omega, (kl.no k7').old k8 fun c hc => .inr (hlow c hc.symm).1, ?_⟩, by simp only [nOf_int]; omega⟩
      rw [List.take_succ_eq_append_getElem hi', List.map_append, ← List.append_assoc]
      exact hR8.mono hE (fun _ h => h.elim id fun h => h) (fun _ h => h.elim) fun _ _ h => h
    · have : i = m.length := by omega
      subst this
      rw [List.take_length] at hR
      exact hK l wl kl hR
end Go.Proofs.YtodjijfblgnfmaaGreatDoor
end
section
/- The pairs of a sorted map into which pairs were put; a map has two pairs in order. -/
namespace Go.Proofs.YtodjijfblgnfmaaGreatDoor
open Go.Vc Go.Proofs Go.Vc.Bt
variable {w w' : World} {K : KV} {Kp : KP} {n : Int} {kn : Nat} {text : Bool} {a1 : Option Addr} {c1 : Nat} {ps : List SPr}
def itemsOf (text : Bool) (kn : Nat) (n : Int) (ps : List SPr) : List SPr := if text then prsOf T.kd (putAll (T.ordI kn n) [] (ps.map T.kd.kv)) else prsOf I.kd (putAll (I.ordI kn n) [] (ps.map I.kd.kv))
theorem items_ans (hn : ps.length < 2 ^ 31) {s : SSt} (hop : s.op = 3) (h0 : s.fro = 0) : (ansOf text kn n (putSteps ps ++ [s.later ps.length])).length = ps.length + 1 ∧ ((ansOf text kn n (putSteps ps ++ [s.later ps.length]))[ps.length]?).map SAns.list = some (itemsOf text kn n ps) := by
  unfold ansOf itemsOf
  cases text
  · exact runS_items ps hn hop h0
  · exact runS_items ps hn hop h0
theorem items_len : (itemsOf text kn n ps).length ≤ ps.length := by
  unfold itemsOf
  cases text <;> simp [prsOf]
  · have := putAll_len (lt := I.ordI kn n) (ps.map I.kd.kv) []; simpa using this
  · have := putAll_len (lt := T.ordI kn n) (ps.map T.kd.kv) []; simpa using this
theorem asks_puts {steps : List SSt} (h1 : ∀ s ∈ steps, s.text.size ≤ 100) (h2 : scost steps < 2 ^ 30) (h3 : ∀ s ∈ steps, s.op = 0 ∨ s.op = 3) : Asks text kn n steps w :=
  ⟨h1, h2, fun ⟨s, hs, h⟩ => by have := h3 s hs; omega, fun ⟨s, hs, h⟩ => by have := h3 s hs; omega, fun ⟨s, hs, h⟩ => by have := h3 s hs; omega, fun ⟨s, hs, h⟩ => by have := h3 s hs; omega⟩
theorem sortedItems_ok (h1 : -9223372036854775808 ≤ n) (h2 : n ≤ 9223372036854775807) (hr : Row w a1 (ps.flatMap SPr.cells)) (hn : ps.length ≤ 1000) (ht : ∀ p ∈ ps, p.text.size ≤ 100)
    (hK : ∀ v w', Frm (fun _ => False) w w' → IsSl w' v (itemsOf text kn n ps).length ((itemsOf text kn n ps).flatMap SPr.cells) → K (.tuple #[v, .bool true]) w') :
    Calls Tryz.prog 22 #[.bool text, orderV kn n, .slice a1 ps.length c1] w (ret K Kp) := by
  refine vc22_calls ?_
  delta vc22
  refine op_box_ok fun w1 k1 z1 b1 => ?_
  simp only [orderV, cells_agg] at b1
  have hx2 : (#[.int .u8 kn, .int .i64 n] : Array Value).extract 0 2 = #[.int .u8 kn, .int .i64 n] := rfl
  simp [-getElem?_pos, -Array.getElem?_eq_getElem, -Int.natCast_add, add_spot, and_assoc, Br_dec, -op_box, -op_alloc_45, -op_st_45, -op_alloc_54, -op_st_54, -op_lit_32_1, -op_st_3, -op_lit_38_2, b1, hx2]
  have e0 : (#[.int .u8 3, .int .i64 0, .int .i64 0, .string ByteArray.empty, .int .i64 0, .int .i64 0, .int .i64 0] : Array Value) = (⟨3, 0, 0, ByteArray.empty, 0, 0, 0⟩ : SSt).cells.toArray := by simp [SSt.cells]
  rw [e0]
  generalize hs0 : (⟨3, 0, 0, ByteArray.empty, 0, 0, 0⟩ : SSt) = s0 at *
  refine op_lit_ok (lit_st s0) fun w2 k2 z2 b2 => ?_
  have k2 := Frm.dr k2
  have q2 := k2.get b1 fun h => h
  simp [-getElem?_pos, -Array.getElem?_eq_getElem, -Int.natCast_add, add_spot, and_assoc, Br_dec, -op_box, -op_alloc_45, -op_st_45, -op_alloc_54, -op_st_54, -op_lit_32_1, -op_st_3, -op_lit_38_2, q2, hx2]
  have hop : s0.op = 3 := by rw [← hs0]
  have h0 : s0.fro = 0 := by rw [← hs0]
  have ht0 : s0.text.size ≤ 100 := by rw [← hs0]; exact Nat.zero_le _
  have hc0 : s0.cost = 1 := by rw [← hs0]; rfl
  have k12 := k1.no k2
  refine sortedPut_ok (m := [s0]) (hr.frame k12 fun _ _ h => h) ⟨_, _, rfl, Nat.le_refl _, by simp [maxLen], .inr ⟨_, 0, _, _, _, rfl, b2, fun j v hj => by simpa using hj⟩, fun h => nomatch h⟩ (by omega) (by simp) fun l w3 k3 hR3 => ?_
  have hasks : ∀ wz, Asks text kn n (putSteps ps ++ [s0].map (SSt.later ps.length)) wz := fun wz => by
    refine asks_puts (fun s hs => ?_) ?_ fun s hs => ?_
    · rcases List.mem_append.1 hs with hs | hs
      · obtain ⟨_, _, p, hp, e⟩ := putSteps_mem hs
        rw [e]; exact ht p hp
      · simp at hs; rw [hs]; exact ht0
    · rw [scost_app, putSteps_cost]
      have : scost ([s0].map (SSt.later ps.length)) = s0.cost := by simp [scost, SSt.later, SSt.cost]
      omega
    · rcases List.mem_append.1 hs with hs | hs
      · exact .inl (putSteps_mem hs).1
      · simp at hs; rw [hs]; exact .inr hop
  obtain ⟨g1, g2⟩ := items_ans (text := text) (kn := kn) (n := n) (ps := ps) (by omega) hop h0
  rw [← List.map_singleton (f := SSt.later ps.length) (a := s0)] at g1 g2
  generalize putSteps ps ++ [s0].map (SSt.later ps.length) = S at *
  obtain ⟨a3, c3, rfl, hc3, hm3, hr3, _⟩ := hR3.flat
  have q3 := k3.get q2 fun h => h
  have k13 := k12.no k3
  simp [-getElem?_pos, -Array.getElem?_eq_getElem, -Int.natCast_add, add_spot, and_assoc, Br_dec, -op_box, -op_alloc_45, -op_st_45, -op_alloc_54, -op_st_54, -op_lit_32_1, -op_st_3, -op_lit_38_2, q3, hx2]
  refine sorted_ok (text := text) (kn := kn) (n := n) h1 h2 hr3 (hasks w3) fun l4 w4 G k4 hR4 => ?_
  generalize ansOf text kn n S = A at *
  have hA : ps.length < A.length := by omega
  obtain ⟨u, g, c, cs, hl4, hg1, hu, hg3, hg4, hg5, pv, hpv, hpr, _⟩ := hR4.get hA
  subst hl4 hpv
  have hg0 : cs[ps.length * 4 + 3]? = some pv := by have := hg3 3 (by decide); simpa using this
  rw [List.getElem?_eq_getElem hA, Option.map_some] at g2
  have g2 := Option.some.inj g2
  rw [g2] at hpr
  have e1 : IntKind.i64.wrap ((ps.length : Int) + 1) = ((ps.length + 1 : Nat) : Int) := by rw [IntKind.wrap_i64]; omega
  have := hK pv w4 (k13.no k4) hpr
  simp [-getElem?_pos, -Array.getElem?_eq_getElem, -Int.natCast_add, add_spot, and_assoc, Br_dec, -op_box, -op_alloc_45, -op_st_45, -op_alloc_54, -op_st_54, -op_lit_32_1, -op_st_3, -op_lit_38_2, g1, e1, hg1, hg0]
  exact this
theorem awake_items : itemsOf false 0 0 [⟨5, ByteArray.empty, 1⟩, ⟨-3, ByteArray.empty, 2⟩] = [⟨-3, ByteArray.empty, 2⟩, ⟨5, ByteArray.empty, 1⟩] := by decide +kernel
theorem samePairs_ok {v1 v2 : Value} {xs : List SPr} (h1 : IsSl w v1 xs.length (xs.flatMap SPr.cells)) (h2 : IsSl w v2 xs.length (xs.flatMap SPr.cells)) (hn : xs.length < 2 ^ 60) (hK : ∀ w', Frm (fun _ => False) w w' → K (.bool true) w') :
    Calls Tryz.prog 32 #[v1, v2] w (ret K Kp) := by
  refine vc32_calls ?_
  delta vc32
  obtain ⟨a2, c2, rfl, _⟩ := id h2
  obtain ⟨a1, c1, rfl, _⟩ := id h1
  rw [op_len_slice (by kernel_rfl), op_len_slice (by kernel_rfl), op_neq, decide_eq_true rfl, Bool.not_true, Br_false]
  exact sameLoop (by kernel_rfl) (by kernel_rfl) (by kernel_rfl) (by kernel_rfl) (by kernel_rfl) (by kernel_rfl) (by kernel_rfl) h1 h2 hn hK
theorem awake_ok (hK : ∀ w', Frm (fun _ => False) w w' → K (.bool true) w') : Calls Tryz.prog 14 #[] w (ret K Kp) := by
  refine vc14_calls ?_
  delta vc14
  simp [-getElem?_pos, -Array.getElem?_eq_getElem, -Int.natCast_add, add_spot, and_assoc, Br_dec, -op_box, -op_alloc_45, -op_st_45, -op_alloc_54, -op_st_54, -op_lit_32_1, -op_st_3, -op_lit_38_2]
  refine op_lit_ok lit_38_2 fun w1 k1 z1 b1 => ?_
  have hp1 : Row w1 (some ⟨w.heap.size, 0, none⟩) ([(⟨5, ByteArray.empty, 1⟩ : SPr), ⟨-3, ByteArray.empty, 2⟩].flatMap SPr.cells) := .inr ⟨_, 0, _, _, _, rfl, b1, fun j v hj => by simpa [SPr.cells] using hj⟩
  refine sortedItems_ok (text := false) (kn := 0) (n := 0) (ps := [⟨5, ByteArray.empty, 1⟩, ⟨-3, ByteArray.empty, 2⟩]) (by decide) (by decide) hp1 (by decide) (fun p hp => ?_) fun v w2 k2 hv => ?_
  · simp at hp
    rcases hp with rfl | rfl <;> exact Nat.zero_le _
  rw [awake_items] at hv
  simp [-getElem?_pos, -Array.getElem?_eq_getElem, -Int.natCast_add, add_spot, and_assoc, Br_dec, -op_box, -op_alloc_45, -op_st_45, -op_alloc_54, -op_st_54, -op_lit_32_1, -op_st_3, -op_lit_38_2]
  refine op_lit_ok lit_38_2 fun w3 k3 z3 b3 => ?_
  refine samePairs_ok (xs := [⟨-3, ByteArray.empty, 2⟩, ⟨5, ByteArray.empty, 1⟩]) (hv.still k3) ⟨_, _, rfl, Nat.le_refl _, by simp [maxLen], .inr ⟨_, 0, _, _, _, rfl, b3, fun j v hj => by simpa [SPr.cells] using hj⟩, fun h => nomatch h⟩ (by decide) fun w4 k4 => ?_
  exact hK w4 (((k1.no k2).no k3).no k4)
end Go.Proofs.YtodjijfblgnfmaaGreatDoor
end
section
/- From calls that answer true and write nothing that was there to the contract of a law's row; arguments in the heap. -/
namespace Go.Vc
open Go.ChangeShapes Go.WideShapes Go.ChangeAt Go.RowKit Go.WideElems
variable {H : Type} {enc : TypeId × Value → H} {P : Program} {W W' : World}
def typed (P : Program) (ts : List TypeId) : Bool := ts.all fun t => P.readableRec t && decide (t < P.types.size)
theorem below_of (h : ∀ {M}, Frm M W W') : Below W.heap.size W W' := ⟨(h (M := fun _ => False)).os, (h (M := fun _ => False)).tape, (h (M := fun _ => False)).output, (h (M := fun _ => False)).size, fun k hk => (h (M := fun _ => False)).block k hk (fun h => h)⟩
theorem trodAll_below (hl : laidOutB P = true) {sp : Nat → Bool} (hb : Below W.heap.size W W') :
    ∀ {ts : List TypeId} {vs : List Value} {ds : List (DataW H)} {ps : List MemPlace}, typed P ts = true → (∀ p ∈ ps, p.block < W.heap.size) → (∀ p ∈ ps, sp p.block = true) →
      DataW.TrodAll enc P W 0 (fun _ => true) true ts vs ds ps → DataW.TrodAll enc P W' 0 sp true ts vs ds ps
  | [], [], [], _, _, _, _, h => h
  | t :: ts, v :: vs, d :: ds, ps, ht, h1, h2, h => by
    obtain ⟨p, q, hd, hr, rfl⟩ := h
    simp only [typed, List.all_cons, Bool.and_eq_true, decide_eq_true_eq] at ht
    refine ⟨p, q, Trod_stays hl ht.1.1 ht.1.2 hd (fun x hx => hb.same (h1 x (by simp [hx]))) (fun x hx => h2 x (by simp [hx])), ?_, rfl⟩
    exact trodAll_below hl hb (by simpa [typed] using ht.2) (fun x hx => h1 x (by simp [hx])) (fun x hx => h2 x (by simp [hx])) hr
  | [], [], _ :: _, _, _, _, _, h => h.elim
  | [], _ :: _, _, _, _, _, _, h => h.elim
  | _ :: _, [], _, _, _, _, _, h => h.elim
  | _ :: _, _ :: _, [], _, _, _, _, h => h.elim
theorem trodAll_len : ∀ {ts : List TypeId} {vs : List Value} {ds : List (DataW H)} {ps : List MemPlace} {b : Nat} {sp : Nat → Bool} {hd : Bool}, DataW.TrodAll enc P W b sp hd ts vs ds ps → ds.length = ts.length
  | [], [], [], _, _, _, _, _ => rfl
  | t :: ts, v :: vs, d :: ds, ps, _, _, _, h => by
    obtain ⟨p, q, hd, hr, rfl⟩ := h
    simp [trodAll_len hr]
  | [], [], _ :: _, _, _, _, _, h => h.elim
  | [], _ :: _, _, _, _, _, _, h => h.elim
  | _ :: _, [], _, _, _, _, _, h => h.elim
  | _ :: _, _ :: _, [], _, _, _, _, h => h.elim
/-! ### arguments -/
theorem open_rows {t e : TypeId} {base : Nat} {v : Value} {d : DataW H} {ps : List MemPlace} (ht : P.underlying t = some (.slice e)) {c : Nat} (hc : P.cellsOf e = c) (hc0 : 0 < c)
    (hok : Value.okWide P W .any base t v) (h : DataW.Trod enc P W 0 (fun _ => true) true t v d ps) :
    ∃ (a : Option Addr) (len cap : Nat) (f : Nat → List Value), v = .slice a len cap ∧ len ≤ cap ∧ cap ≤ maxLen ∧ (a = none → len = 0) ∧ (∀ p, a = some p → p.spot = none ∧ p.block < W.heap.size) ∧
      Row W a ((List.range len).flatMap f) ∧ (∀ i, (f i).length = c) ∧ ∀ i, i < len → ∃ n x, DataW.trod enc P W 0 (fun _ => true) true n e (f i) = some x := by
  have hv : v = .slice none 0 0 ∨ ∃ p len cap, v = .slice (some p) len cap ∧ p.spot = none ∧ p.block < W.heap.size := by
    unfold Value.okWide at hok
    rw [ht] at hok
    simp only [Cell.okWide, ht] at hok
    unfold Cell.ok at hok
    rw [ht] at hok
    cases v with
    | slice a len cap =>
      cases a with
      | none =>
        match len, cap, hok with
        | 0, 0, _ => exact .inl rfl
      | some p =>
        refine .inr ⟨p, len, cap, rfl, hok.2.2.2.1, ?_⟩
        obtain ⟨row, cells, hsh, _⟩ := hok.2.2.2.2
        unfold World.shape? at hsh
        split at hsh
        · rename_i hb; exact lt_of_get hb
        · cases hsh
    | _ => exact hok.elim
  obtain ⟨fuel, hf⟩ := h
  rcases hv with rfl | ⟨p, len, cap, rfl, hs, hbl⟩
  · exact ⟨none, 0, 0, fun _ => List.replicate c undef, rfl, Nat.le_refl _, by simp [maxLen], fun _ => rfl, (fun p h => nomatch h), .inl rfl, fun i => by simp, fun i hi => by omega⟩
  · have hf' : DataW.trod enc P W 0 (fun _ => true) true fuel t [.slice (some p) len cap] = some (d, ps) := hf
    rcases Go.Deep.open_slice ht hf' with ⟨h0, _⟩ | ⟨a, len', cap', m, n, D, Pl, hcs, _, hl, hm, hmm, _, hx⟩
    · cases h0
    · simp only [List.cons.injEq, Value.slice.injEq, Option.some.injEq, and_true] at hcs
      obtain ⟨rfl, rfl, rfl⟩ := hcs
      obtain ⟨b, o, sp⟩ := p
      simp only at hs
      subst hs
      have hle : ∀ i, i < len → ∃ cs', W.cells? 0 ((⟨b, o, none⟩ : Addr).add (i * c)) c = some cs' ∧ DataW.trod enc P W 0 (fun _ => true) true n e cs' = some (D i, Pl i) := fun i hi => by
        have := hx i (by rw [hmm]; simp; omega)
        rwa [hc] at this
      have hcell : ∀ i, i < len → ∃ cs' : List Value, cs'.length = c ∧ (∀ r, r < c → W.cell? ⟨b, o + (i * c + r), none⟩ = cs'[r]?) ∧ DataW.trod enc P W 0 (fun _ => true) true n e cs' = some (D i, Pl i) := fun i hi => by
        obtain ⟨cs', h1, h2⟩ := hle i hi
        obtain ⟨_, h3, h4⟩ := World.cells?_some h1
        refine ⟨cs', h3, fun r hr => ?_, h2⟩
        rw [← h4 r hr, Go.Deep.add_add, add_spot rfl]
      have hch : ∃ f : Nat → List Value, (∀ i, (f i).length = c) ∧ ∀ i, i < len → (∀ r, r < c → W.cell? ⟨b, o + (i * c + r), none⟩ = (f i)[r]?) ∧ DataW.trod enc P W 0 (fun _ => true) true n e (f i) = some (D i, Pl i) := by
        classical
        refine ⟨fun i => if hi : i < len then Classical.choose (hcell i hi) else List.replicate c undef, fun i => ?_, fun i hi => ?_⟩
        · by_cases hi : i < len
          · simp only [dif_pos hi]; exact (Classical.choose_spec (hcell i hi)).1
          · simp only [dif_neg hi]; simp
        · simp only [dif_pos hi]; exact (Classical.choose_spec (hcell i hi)).2
      obtain ⟨f, hf1, hf2⟩ := hch
      have hrow : Row W (some ⟨b, o, none⟩) ((List.range len).flatMap f) ∧ (len ≠ 0 → b < W.heap.size) := by
        by_cases h0 : len = 0
        · subst h0; exact ⟨.inl rfl, fun h => absurd rfl h⟩
        · have hz := (hf2 0 (by omega)).1 0 hc0
          rw [List.getElem?_eq_getElem (by rw [hf1]; exact hc0)] at hz
          have hb : ∃ cs e' fz, W.heap[b]? = some (.cells cs e' fz) := by
            unfold World.cell? at hz
            split at hz
            · rename_i c' e' fz hb; exact ⟨_, _, _, hb⟩
            · cases hz
          obtain ⟨cs, e', fz, hb⟩ := hb
          refine ⟨.inr ⟨b, o, cs, e', fz, rfl, hb, fun j v hj => ?_⟩, fun _ => lt_of_get hb⟩
          have hjl : j < len * c := by
            have := (List.getElem?_eq_some_iff.1 hj).1
            rwa [flatMap_len hf1, List.length_range] at this
          have hjc : j = j / c * c + j % c := by rw [Nat.mul_comm]; exact (Nat.div_add_mod j c).symm
          have hi : j / c < len := Nat.div_lt_of_lt_mul (by rw [Nat.mul_comm]; exact hjl)
          have hr : j % c < c := Nat.mod_lt _ hc0
          have hg := flatMap_get hf1 (List.range len) (j / c) (j % c) (by simpa using hi) hr
          rw [← hjc] at hg
          rw [hg] at hj
          simp only [List.getElem_range] at hj
          have := (hf2 _ hi).1 _ hr
          rw [← hjc, hj] at this
          rw [← this]
          exact (cell_of (p := ⟨b, o + j, none⟩) hb rfl).symm
      exact ⟨some ⟨b, o, none⟩, len, cap, f, rfl, hl, hm, (fun h => nomatch h), fun p hp => by cases hp; exact ⟨rfl, hbl⟩, hrow.1, hf1, fun i hi => ⟨n, _, (hf2 i hi).2⟩⟩
theorem open_fields {t : TypeId} {fs : Array Field} {n : Nat} {cs : List Value} {x : DataW H × List MemPlace} (ht : P.underlying t = some (.struct fs)) (h : DataW.trod enc P W 0 (fun _ => true) true n t cs = some x)
    {i : Nat} {f : Field} (hf : fs[i]? = some f) (ho : f.offset = i) (hc : P.cellsOf f.type = 1) (hi : i < cs.length) :
    ∃ n y, DataW.trod enc P W 0 (fun _ => true) true n f.type [cs[i]] = some y := by
  obtain ⟨xs, k, rfl, rfl, hl, hxl, hx⟩ := DataW.trod_struct ht h
  have h1 := hx i f hf
  have hi2 : i < xs.length := by rw [hxl]; exact (Array.getElem?_eq_some_iff.1 hf).1
  rw [ho, hc, List.getElem?_eq_getElem hi2, List.drop_eq_getElem_cons hi, List.take_succ_cons, List.take_zero] at h1
  exact ⟨k, _, h1⟩
theorem field_int {t : TypeId} {k : IntKind} {n : Nat} {u : Value} {x : DataW H × List MemPlace} (ht : P.underlying t = some (.int k)) (h : DataW.trod enc P W 0 (fun _ => true) true n t [u] = some x) : ∃ m, u = .int k m ∧ k.min ≤ m ∧ m ≤ k.max := by
  obtain ⟨m, hm, _, hw⟩ := DataW.trod_int ht h
  simp only [Lit.wf, Bool.and_eq_true, decide_eq_true_eq] at hw
  exact ⟨m, by simpa using hm, hw.1, hw.2⟩
end Go.Vc
end
section
/- Five arguments that have been read as data. -/
namespace Go.RowKit
open Go.ChangeShapes Go.WideShapes Go.ChangeAt Go.WideElems
variable {H : Type} {enc : TypeId × Value → H} {P : Program} {w : World} {base : Nat} {spare : Nat → Bool} {held : Bool}
end Go.RowKit
end
section
/- Further arguments in the heap: whole numbers, structs of them, rows of structs. -/
namespace Go.Vc
open Go.ChangeShapes Go.WideShapes Go.ChangeAt Go.RowKit Go.WideElems
variable {H : Type} {enc : TypeId × Value → H} {P : Program} {W W' : World}
theorem open_agg {t : TypeId} {fs : Array Field} {base n : Nat} {v : Value} {d : DataW H} {ps : List MemPlace} (ht : P.underlying t = some (.struct fs)) (hc : P.cellsOf t = n)
    (hok : Value.okWide P W .any base t v) (h : DataW.Trod enc P W 0 (fun _ => true) true t v d ps) :
    ∃ cs : List Value, v = .agg cs.toArray ∧ cs.length = n ∧ ∃ m x, DataW.trod enc P W 0 (fun _ => true) true m t cs = some x := by
  unfold Value.okWide at hok
  rw [ht] at hok
  obtain ⟨cs, rfl, hs, _⟩ := hok
  obtain ⟨fuel, hf⟩ := h
  exact ⟨cs.toList, by simp, by simp [hs, hc], fuel, _, hf⟩
theorem rows_of {α : Type} {f : Nat → List Value} {c : α → List Value} {len : Nat} {a : Option Addr} (d : α) (h : Row W a ((List.range len).flatMap f)) (hf : ∀ i, i < len → ∃ s, f i = c s) : ∃ xs : List α, xs.length = len ∧ Row W a (xs.flatMap c) := by
  obtain ⟨g, hg⟩ := Classical.axiomOfChoice (r := fun i (s : α) => i < len → f i = c s) fun i => by
    by_cases hi : i < len
    · obtain ⟨s, hs⟩ := hf i hi
      exact ⟨s, fun _ => hs⟩
    · exact ⟨d, fun h => absurd h hi⟩
  refine ⟨(List.range len).map g, by simp, ?_⟩
  rw [Go.Deep.flatMap_congr_range hg] at h
  rwa [List.flatMap_map]
end Go.Vc
end
section
/- From calls that answer true and write nothing that was there to the contract of a law's row that lists package-level variables. -/
namespace Go.Vc
open Go.ChangeShapes Go.WideShapes Go.ChangeAt Go.RowKit
variable {H : Type} {enc : TypeId × Value → H} {P : Program} {W W' : World}
theorem returns_true_laid {C : Checked} {os : Os} {f : FuncId} {fn : Func} {s : ChangeSpec} {tb : TypeId} {laid : List (String × DataW Unit)}
    (own : ownKnob C.prog.godebug = none) (started : os.Started) (noInit : C.prog.inits.idxOf? f = none) (hfn : C.prog.funcs[f]? = some fn)
    (witness : ∃ (w : World) (tape : Tape) (i : Input), w.os = os ∧ (w.forCall tape i).Shaped C.prog ∧ i.vars = [] ∧ Input.okWide C.prog (w.forCall tape i) .any w.heap.size f i ∧
      ((s.pre enc C.prog fn [] false (w.forCall tape i).memory i.args ∧ laidMetH C.prog laid (w.forCall tape i).memory) ∧ sizedMet enc C.prog fn (OpenSpec.ofChange s) false (w.forCall tape i).memory i.args) ∧ ({} : Assume).holds C.prog (lone (Frame.enter C.prog f i.args .normal) [] (w.forCall tape i)))
    (hl : laidOutB C.prog = true) (ht : typed C.prog fn.params.toList = true) (hv : s.vars = []) (hres : fn.resultTypes = #[tb]) (hb : C.prog.underlying tb = some .bool)
    (hs : ∀ ds : List (DataW H), ds.length = fn.params.toList.length → s.fn H ds = { results := [.lit (.bool true)], args := ds })
    (contract : ∀ (W : World) (base : Nat) (args : Array Value) (ds : List (DataW H)) (before : List MemPlace), W.ShapedOpen C.prog → laidMetH C.prog laid W →
      (∀ (j : Nat) t v, fn.params[j]? = some t → args[j]? = some v → Value.okWide C.prog W .any base t v) →
      DataW.TrodAll enc C.prog W 0 (fun _ => true) true fn.params.toList args.toList ds before → (∀ p ∈ before, p.block < W.heap.size) →
      Calls C.prog f args W (ret (fun v W' => v = .bool true ∧ ∀ M, Frm M W W') fun _ _ => False)) :
    ReturnsInHanded {} C os f .any (fun w args => (s.pre enc C.prog fn [] false w args ∧ laidMetH C.prog laid w) ∧ sizedMet enc C.prog fn (OpenSpec.ofChange s) false w args) (s.post enc C.prog fn false true false false) := by
  refine returnsInHanded_of_calls own started noInit witness ?_
  intro w tape i _ hsh _ hok hpre hholds
  obtain ⟨_, _, _, fn', hfn', _, _, _, _, hval⟩ := hok
  have e : fn' = fn := Option.some.inj (hfn'.symm.trans hfn)
  subst e
  obtain ⟨⟨⟨ds, gs, before, hw, hc⟩, hL⟩, hz⟩ := hpre
  have hL' : laidMetH C.prog laid (w.forCall tape i) := hL.of_heap (by rfl)
  have hw' := DataW.Whole.of_heap (w' := w.forCall tape i) (by rfl) hw
  have hlt := hw'.lt
  have hw'' := hw'
  obtain ⟨p, q, hA, hV, rfl, hfz, hnd⟩ := hw'
  rw [hv] at hV
  obtain ⟨rfl, rfl⟩ := trodVars_none hV
  rw [List.append_nil] at hlt hw''
  refine (contract (w.forCall tape i) w.heap.size i.args ds p hsh hL' hval hA hlt).mono fun e W' he => ?_
  cases e with
  | returned v =>
    obtain ⟨rfl, hf⟩ := he
    have hb' := below_of (fun {M} => hf M)
    have hlen := trodAll_len hA
    have hsd : s.fn H (ds ++ []) = { results := [.lit (.bool true)], args := ds } := by rw [List.append_nil]; exact hs ds hlen
    refine ChangeSpec.post_blind ⟨ds, [], p, [], p, [], hw'', ?_, ?_, ?_, World.keptBut_mono (fun x hx => ⟨hx, .inr (.inl hx)⟩) (hb'.frame (· ∈ p)), (fun h => nomatch h)⟩
    · rw [hsd, hres]; exact trodAll_mk1 (shut_bool hb _)
    · rw [hsd]; exact trodAll_below hl hb' ht hlt (fun x hx => by simpa using hlt x hx) hA
    · rw [hsd, hv]; rfl
  | panicked _ => exact he.elim
  | outgrown => exact he.elim
end Go.Vc
end
section
/- What the laws' arguments are in the heap: an order, pairs, texts, flags. -/
namespace Go.Proofs.YtodjijfblgnfmaaGreatDoor
open Go.Vc Go.Proofs Go.Vc.Bt Go.ChangeShapes Go.WideShapes Go.ChangeAt Go.RowKit
variable {H : Type} {enc : TypeId × Value → H} {W : World}
theorem row_own : ownKnob Tryz.prog.godebug = none := by kernel_rfl
theorem row_laid : laidOutB Tryz.prog = true := by kernel_rfl
abbrev laid3 : List (String × DataW Unit) := [("math/bits.deBruijn32tab", Rows.laid_math_bits_deBruijn32tab), ("math/bits.deBruijn64tab", Rows.laid_math_bits_deBruijn64tab), ("internal/strconv.uint64pow10", Rows.laid_internal_strconv_uint64pow10)]
theorem door_met (os : Os) (args : Array Value) : laidMetH Tryz.prog laid3 ((World.doorLaid Tryz.prog 24 os).forCall (fun _ _ => 0) ⟨#[], args, []⟩).memory :=
  laidMetH_of_parts3 (fuel := 8) (laidMet_of_run' 8 (by kernel_rfl) (by kernel_rfl)) (by kernel_rfl) (by kernel_rfl)
theorem open_order {base : Nat} {v : Value} {d : DataW H} {ps : List MemPlace} (hok : Value.okWide Tryz.prog W .any base 23 v) (h : DataW.Trod enc Tryz.prog W 0 (fun _ => true) true 23 v d ps) :
    ∃ (kn : Nat) (n : Int), v = orderV kn n ∧ -9223372036854775808 ≤ n ∧ n ≤ 9223372036854775807 := by
  obtain ⟨cs, rfl, hl, n, x, hx⟩ := open_agg Tryz.underlying23 (n := 2) (by kernel_rfl) hok h
  match cs, hl, hx with
  | [u0, u1], _, hx =>
    have hu := Tryz.underlying23
    obtain ⟨n0, y0, z0⟩ := open_fields hu hx (i := 0) rfl rfl (by kernel_rfl) (by simp)
    obtain ⟨n1, y1, z1⟩ := open_fields hu hx (i := 1) rfl rfl (by kernel_rfl) (by simp)
    obtain ⟨m0, e0, b0, _⟩ := field_int Tryz.underlying5 z0
    obtain ⟨m1, e1, b1, b2⟩ := field_int Tryz.underlying2 z1
    have h0 : (m0.toNat : Int) = m0 := Int.toNat_of_nonneg b0
    refine ⟨m0.toNat, m1, ?_, b1, b2⟩
    simp only [List.getElem_cons_zero, List.getElem_cons_succ] at e0 e1
    simp only [orderV, h0, e0, e1]
theorem spr_of {n : Nat} {cs : List Value} {x : DataW H × List MemPlace} (hl : cs.length = 3) (h : DataW.trod enc Tryz.prog W 0 (fun _ => true) true n 45 cs = some x) : ∃ s : SPr, cs = s.cells := by
  match cs, hl, h with
  | [u0, u1, u2], _, h =>
    have hu := Tryz.underlying45
    obtain ⟨n0, y0, z0⟩ := open_fields hu h (i := 0) rfl rfl (by kernel_rfl) (by simp)
    obtain ⟨n1, y1, z1⟩ := open_fields hu h (i := 1) rfl rfl (by kernel_rfl) (by simp)
    obtain ⟨n2, y2, z2⟩ := open_fields hu h (i := 2) rfl rfl (by kernel_rfl) (by simp)
    obtain ⟨m0, e0, _⟩ := field_int Tryz.underlying2 z0
    obtain ⟨m1, e1, _⟩ := DataW.trod_string Tryz.underlying9 z1
    obtain ⟨m2, e2, _⟩ := field_int Tryz.underlying2 z2
    refine ⟨⟨m0, m1, m2⟩, ?_⟩
    simp only [List.getElem_cons_zero, List.getElem_cons_succ] at e0 e1 e2
    obtain ⟨rfl, _⟩ := List.cons.inj e1
    simp only [SPr.cells, e0, e2]
theorem open_pair {base : Nat} {v : Value} {d : DataW H} {ps : List MemPlace} (hok : Value.okWide Tryz.prog W .any base 45 v) (h : DataW.Trod enc Tryz.prog W 0 (fun _ => true) true 45 v d ps) : ∃ p : SPr, v = .agg p.cells.toArray := by
  obtain ⟨cs, rfl, hl, n, x, hx⟩ := open_agg Tryz.underlying45 (n := 3) (by kernel_rfl) hok h
  obtain ⟨p, rfl⟩ := spr_of hl hx
  exact ⟨p, rfl⟩
theorem open_pairs {base : Nat} {v : Value} {d : DataW H} {ps : List MemPlace} (hok : Value.okWide Tryz.prog W .any base 38 v) (h : DataW.Trod enc Tryz.prog W 0 (fun _ => true) true 38 v d ps) :
    ∃ (a : Option Addr) (cap : Nat) (xs : List SPr), v = .slice a xs.length cap ∧ xs.length ≤ cap ∧ cap ≤ maxLen ∧ (a = none → xs.length = 0) ∧ Row W a (xs.flatMap SPr.cells) := by
  obtain ⟨a, len, cap, f, rfl, h1, h2, h3, h4, h6, h7, h8⟩ := open_rows Tryz.underlying38 (c := 3) (by kernel_rfl) (by decide) hok h
  obtain ⟨xs, rfl, hr⟩ := rows_of (c := SPr.cells) ⟨0, ⟨#[]⟩, 0⟩ h6 fun i hi => by
    obtain ⟨n, x, hx⟩ := h8 i hi
    exact spr_of (h7 i) hx
  exact ⟨a, cap, xs, rfl, h1, h2, h3, hr⟩
theorem open_flag {base : Nat} {v : Value} {d : DataW H} {ps : List MemPlace} (hok : Value.okWide Tryz.prog W .any base 4 v) (h : DataW.Trod enc Tryz.prog W 0 (fun _ => true) true 4 v d ps) : ∃ b : Bool, v = .bool b := by
  obtain ⟨b, h1, _⟩ := open_bool Tryz.underlying4 hok h
  exact ⟨b, h1⟩
end Go.Proofs.YtodjijfblgnfmaaGreatDoor
end
section
namespace Go.Proofs.YtodjijfblgnfmaaGreatDoor
open Go.Vc Go.Proofs
variable {S : Sig} {a0 a1 a2 a3 a4 a5 a6 a7 a8 a9 : Value} {w : World} {K : KV} {Kp : KP}
private theorem follows_BVcLO : Tryz.prog.follows .mixedOrders = true := by kernel_rfl
def vc5 (S : Sig) (a0 a1 : Value) (w : World) (K : KV) (Kp : KP) : Prop :=
 S.call (.fn 19) [a1] w (fun v11 w =>
 S.op (.un .not v11) w (fun v12 w =>
 Br v12 (
 K (.bool true) w) (
 S.op (.build 23 []) w (fun v13 w =>
 S.call (.fn 20) [v13, a1] w (fun v15 w =>
 S.op (.un .not v15) w (fun v16 w =>
 Br v16 (
 S.call (.fn 14) [] w (fun v17 w =>
 K v17 w) Kp) (
 S.op (.build 23 []) w (fun v20 w =>
 S.call (.fn 22) [a0, v20, a1] w (fun v22 w =>
 S.op (.extract v22 0) w (fun v23 w =>
 S.op (.extract v22 1) w (fun v24 w =>
 S.op (.build 23 [(0, (.int .u8 1))]) w (fun v27 w =>
 S.call (.fn 22) [a0, v27, a1] w (fun v29 w =>
 S.op (.extract v29 0) w (fun v30 w =>
 S.op (.extract v29 1) w (fun v31 w =>
 S.call (.fn 14) [] w (fun v32 w =>
 S.op (.un .not v32) w (fun v33 w =>
 Br v33 (
 K (.bool false) w) (
 S.op (.un .not v24) w (fun v36 w =>
 Br v36 (
 K (.bool false) w) (
 S.op (.un .not v31) w (fun v40 w =>
 Br v40 (
 K (.bool false) w) (
 S.op (.blt .len [46] 3 [v23]) w (fun v44 w =>
 S.op (.blt .len [46] 3 [v30]) w (fun v46 w =>
 S.op (.bin .neq 3 false false v44 v46) w (fun v47 w =>
 Br v47 (
 K (.bool false) w) (
 S.op (.blt .len [46] 3 [v23]) w (fun v50 w =>
 Lp fun (I10 : KV) (μ10 : Value → World → Nat) => I10 (.int .i64 0) w ∧
 ∀ (wl10 : World) (junk : Nat → Value) (s51 : Value), I10 s51 wl10 →
 S.op (.bin .lss 3 false false s51 v50) wl10 (fun v52 w =>
 Br v52 (
 S.pur (.indexAddr 46 v23 s51) (fun v56 =>
 S.ld (.load 49 v56) w.drew (fun v57 =>
 S.pur (.indexAddr 46 v30 s51) (fun v60 =>
 S.ld (.load 49 v60) w.drew (fun v61 =>
 S.pur (.bin .neq 49 false false v57 v61) (fun v62 =>
 Br v62 (
 K (.bool false) w.drew) (
 S.op (.bin .add 3 false true s51 (.int .i64 1)) w.drew (fun v63 w =>
 I10 v63 w ∧ μ10 v63 w < μ10 s51 wl10) Kp))))))) (
 K (.bool true) w)) Kp) Kp)) Kp) Kp) Kp)) Kp)) Kp)) Kp) Kp) Kp) Kp) Kp) Kp) Kp) Kp) Kp) Kp)) Kp) Kp) Kp)) Kp) Kp
theorem vc5_eq : vc5 S a0 a1 w K Kp = fVC S [(10, [51])] [] Tryz.f5 [a0, a1] w K Kp := by kernel_rfl
theorem vc5_calls (h : vc5 (nice Tryz.prog) a0 a1 w K Kp) : Calls Tryz.prog 5 #[a0, a1] w (ret K Kp) :=
 fVC_sound (args := [a0, a1]) nice_le follows_BVcLO Tryz.func5 (by kernel_rfl) (Eq.mp vc5_eq h)
def vc6 (S : Sig) (a0 a1 : Value) (w : World) (K : KV) (Kp : KP) : Prop :=
 S.call (.fn 19) [a1] w (fun v13 w =>
 S.op (.un .not v13) w (fun v14 w =>
 Br v14 (
 K (.bool true) w) (
 S.op (.build 23 []) w (fun v15 w =>
 S.call (.fn 20) [v15, a1] w (fun v17 w =>
 S.op (.un .not v17) w (fun v18 w =>
 Br v18 (
 S.call (.fn 14) [] w (fun v19 w =>
 K v19 w) Kp) (
 S.op (.blt .len [38] 3 [a1]) w (fun v21 w =>
 S.op (.build 31 [(0, (.int .u8 1))]) w (fun v24 w =>
 S.op (.build 54 [(0, (.int .u8 4))]) w (fun v26 w =>
 S.op (.buildSlice 32 1 [(0, v26)]) w (fun v27 w =>
 S.call (.fn 23) [a1, v27] w (fun v28 w =>
 S.call (.fn 15) [a0, v24, v28] w (fun v29 w =>
 S.op (.extract v29 0) w (fun v30 w =>
 S.op (.extract v29 1) w (fun v31 w =>
 S.op (.build 23 [(0, (.int .u8 2))]) w (fun v34 w =>
 S.call (.fn 22) [a0, v34, a1] w (fun v36 w =>
 S.op (.extract v36 0) w (fun v37 w =>
 S.op (.extract v36 1) w (fun v38 w =>
 S.call (.fn 14) [] w (fun v39 w =>
 S.op (.un .not v39) w (fun v40 w =>
 Br v40 (
 K (.bool false) w) (
 S.op (.un .not v31) w (fun v43 w =>
 Br v43 (
 K (.bool false) w) (
 S.op (.un .not v38) w (fun v47 w =>
 Br v47 (
 K (.bool false) w) (
 S.op (.blt .len [28] 3 [v30]) w (fun v51 w =>
 S.op (.bin .add 3 false true v21 (.int .i64 1)) w (fun v53 w =>
 S.op (.bin .neq 3 false false v51 v53) w (fun v54 w =>
 Br v54 (
 K (.bool false) w) (
 S.op (.indexAddr 28 v30 v21) w (fun v59 w =>
 S.op (.fieldAddr 56 v59 3) w (fun v60 w =>
 S.op (.load 46 v60) w (fun v61 w =>
 S.op (.blt .len [46] 3 [v61]) w (fun v62 w =>
 S.op (.blt .len [46] 3 [v37]) w (fun v64 w =>
 S.op (.bin .neq 3 false false v62 v64) w (fun v65 w =>
 Br v65 (
 K (.bool false) w) (
 S.op (.blt .len [46] 3 [v37]) w (fun v68 w =>
 Lp fun (I11 : KV) (μ11 : Value → World → Nat) => I11 (.int .i64 0) w ∧
 ∀ (wl11 : World) (junk : Nat → Value) (s69 : Value), I11 s69 wl11 →
 S.op (.bin .lss 3 false false s69 v68) wl11 (fun v70 w =>
 Br v70 (
 S.op (.indexAddr 46 v37 s69) w (fun v72 w =>
 S.op (.load 49 v72) w (fun v73 w =>
 S.op (.alloc 49) w (fun v11 w =>
 S.op (.store 49 v11 v73) w (fun _ w =>
 S.pur (.indexAddr 28 v30 v21) (fun v76 =>
 S.pur (.fieldAddr 56 v76 3) (fun v77 =>
 S.ld (.load 46 v77) w.drew (fun v78 =>
 S.pur (.indexAddr 46 v78 s69) (fun v80 =>
 S.ld (.load 49 v80) w.drew (fun v81 =>
 S.ld (.load 49 v11) w.drew (fun v82 =>
 S.pur (.bin .neq 49 false false v81 v82) (fun v83 =>
 Br v83 (
 K (.bool false) w.drew) (
 S.op (.bin .add 3 false true s69 (.int .i64 1)) w.drew (fun v84 w =>
 I11 v84 w ∧ μ11 v84 w < μ11 s69 wl11) Kp))))))))) Kp) Kp) Kp) Kp) (
 K (.bool true) w)) Kp) Kp)) Kp) Kp) Kp) Kp) Kp) Kp)) Kp) Kp) Kp)) Kp)) Kp)) Kp) Kp) Kp) Kp) Kp) Kp) Kp) Kp) Kp) Kp) Kp) Kp) Kp) Kp)) Kp) Kp) Kp)) Kp) Kp
theorem vc6_eq : vc6 S a0 a1 w K Kp = fVC S [(11, [69])] [] Tryz.f6 [a0, a1] w K Kp := by kernel_rfl
theorem vc6_calls (h : vc6 (nice Tryz.prog) a0 a1 w K Kp) : Calls Tryz.prog 6 #[a0, a1] w (ret K Kp) :=
 fVC_sound (args := [a0, a1]) nice_le follows_BVcLO Tryz.func6 (by kernel_rfl) (Eq.mp vc6_eq h)
end Go.Proofs.YtodjijfblgnfmaaGreatDoor
end
section
/- laws.FnSortedOwn. -/
namespace Go.Proofs.YtodjijfblgnfmaaGreatDoor
open Go.Vc Go.Proofs Go.Vc.Bt
variable {w w' : World} {K : KV} {Kp : KP} {n : Int} {kn : Nat} {text : Bool} {a1 : Option Addr} {c1 : Nat} {ps : List SPr}
theorem own_items : itemsOf text 1 0 ps = itemsOf text 0 0 ps := by
  have e1 : I.ordI 1 0 = I.ordI 0 0 := by unfold I.ordI; simp
  have e2 : T.ordI 1 0 = T.ordI 0 0 := rfl
  unfold itemsOf; rw [e1, e2]
theorem law_own (h1 : Row w a1 (ps.flatMap SPr.cells)) (hK : ∀ w', Frm (fun _ => False) w w' → K (.bool true) w') :
    Calls Tryz.prog 5 #[.bool text, .slice a1 ps.length c1] w (ret K Kp) := by
  refine vc5_calls ?_
  delta vc5
  simp only [call_19, call_20, call_14, call_22]
  refine fits6_ok h1 fun b w1 k1 _ => ?_
  cases b with
  | false =>
    simp only [op_not, Bool.not_false, Br_true]
    exact hK w1 k1
  | true =>
  simp only [op_not, Bool.not_true, Br_false, op_build_23_, op_build_23_0 (x0 := .int .u8 1) rfl]
  refine pairsRight_ok (kn := 0) (n := 0) (h1.frame k1 fun _ _ h => h) fun b w2 k2 hb => ?_
  have k12 := k1.no k2
  cases b with
  | false =>
    simp only [op_not, Bool.not_false, Br_true]
    exact awake_ok fun w3 k3 => hK w3 (k12.no k3)
  | true =>
  obtain ⟨_, hn, ht⟩ := hb rfl
  simp only [op_not, Bool.not_true, Br_false]
  refine sortedItems_ok (kn := 0) (n := 0) (by decide) (by decide) (h1.frame k12 fun _ _ h => h) hn ht fun v3 w3 k3 hv3 => ?_
  have k13 := k12.no k3
  simp only [op_ext2_0, op_ext2_1]
  refine sortedItems_ok (kn := 1) (n := 0) (by decide) (by decide) (h1.frame k13 fun _ _ h => h) hn ht fun v4 w4 k4 hv4 => ?_
  have k14 := k13.no k4
  rw [own_items] at hv4
  simp only [op_ext2_0, op_ext2_1]
  refine awake_ok fun w5 k5 => ?_
  have k15 := k14.no k5
  have hx3 := (hv3.still k4).still k5
  have hx4 := hv4.still k5
  have hl := items_len (text := text) (kn := 0) (n := 0) (ps := ps)
  generalize itemsOf text 0 0 ps = xs at *
  obtain ⟨a3, c3, rfl, _⟩ := id hx3
  obtain ⟨a4, c4, rfl, _⟩ := id hx4
  simp only [op_not, Bool.not_true, Br_false]
  rw [op_len_slice (by kernel_rfl), op_len_slice (by kernel_rfl), op_neq, decide_eq_true rfl, Bool.not_true, Br_false]
  exact sameLoop (by kernel_rfl) (by kernel_rfl) (by kernel_rfl) (by kernel_rfl) (by kernel_rfl) (by kernel_rfl) (by kernel_rfl) hx3 hx4 (by omega) fun w6 k6 => hK w6 (k15.no k6)
end Go.Proofs.YtodjijfblgnfmaaGreatDoor
end
section
/- laws.FnSortedTurned. -/
namespace Go.Proofs.YtodjijfblgnfmaaGreatDoor
open Go.Vc Go.Proofs Go.Vc.Bt
variable {w w' : World} {K : KV} {Kp : KP} {n : Int} {kn : Nat} {text : Bool} {a1 : Option Addr} {c1 : Nat} {ps : List SPr}
theorem turned_ans (hn : ps.length < 2 ^ 31) {s : SSt} (hop : s.op = 4) (h0 : s.fro = 0) : (ansOf text 1 0 (putSteps ps ++ [s.later ps.length])).length = ps.length + 1 ∧ ((ansOf text 1 0 (putSteps ps ++ [s.later ps.length]))[ps.length]?).map SAns.list = some (itemsOf text 2 0 ps) := by
  have e1 : I.ordI 2 0 = fun a b => I.ordI 1 0 b a := by unfold I.ordI; simp
  have e2 : T.ordI 2 0 = fun a b => T.ordI 1 0 b a := rfl
  unfold ansOf itemsOf
  rw [e1, e2]
  cases text
  · obtain ⟨g1, g2⟩ := runS_back (lt := I.ordI 1 0) (kd := I.kd) ps hn hop h0
    rw [putAll_rev I.ordI_lin _ List.Pairwise.nil] at g2
    exact ⟨g1, g2⟩
  · obtain ⟨g1, g2⟩ := runS_back (lt := T.ordI 1 0) (kd := T.kd) ps hn hop h0
    rw [putAll_rev T.ordI_lin _ List.Pairwise.nil] at g2
    exact ⟨g1, g2⟩
theorem law_turned (h1 : Row w a1 (ps.flatMap SPr.cells)) (hK : ∀ w', Frm (fun _ => False) w w' → K (.bool true) w') :
    Calls Tryz.prog 6 #[.bool text, .slice a1 ps.length c1] w (ret K Kp) := by
  refine vc6_calls ?_
  delta vc6
  simp only [call_19, call_20, call_14, call_22, call_23, call_15]
  refine fits6_ok h1 fun b w1 k1 _ => ?_
  cases b with
  | false =>
    simp only [op_not, Bool.not_false, Br_true]
    exact hK w1 k1
  | true =>
  simp only [op_not, Bool.not_true, Br_false, op_build_23_, op_build_23_0 (x0 := .int .u8 2) rfl, op_build_31_0 (x0 := .int .u8 1) rfl, op_build_54_0 (x0 := .int .u8 4) rfl]
  refine pairsRight_ok (kn := 0) (n := 0) (h1.frame k1 fun _ _ h => h) fun b w2 k2 hb => ?_
  have k12 := k1.no k2
  cases b with
  | false =>
    simp only [op_not, Bool.not_false, Br_true]
    exact awake_ok fun w3 k3 => hK w3 (k12.no k3)
  | true =>
  obtain ⟨_, hn, ht⟩ := hb rfl
  simp only [op_not, Bool.not_true, Br_false, op_len_slice (t := 38) (P := Tryz.prog) (by kernel_rfl)]
  have e0 : (#[.int .u8 4, .int .i64 0, .int .i64 0, .string ByteArray.empty, .int .i64 0, .int .i64 0, .int .i64 0] : Array Value) = (⟨4, 0, 0, ByteArray.empty, 0, 0, 0⟩ : SSt).cells.toArray := by simp [SSt.cells]
  rw [e0]
  generalize hs0 : (⟨4, 0, 0, ByteArray.empty, 0, 0, 0⟩ : SSt) = s0 at *
  have hop : s0.op = 4 := by rw [← hs0]
  have h0 : s0.fro = 0 := by rw [← hs0]
  have ht0 : s0.text.size ≤ 100 := by rw [← hs0]; exact Nat.zero_le _
  have hc0 : s0.cost = 1 := by rw [← hs0]; rfl
  refine op_lit_ok (lit_st s0) fun w3 k3 z3 b3 => ?_
  have k13 := k12.no k3
  refine sortedPut_ok (m := [s0]) (h1.frame k13 fun _ _ h => h) ⟨_, _, rfl, Nat.le_refl _, by simp [maxLen], .inr ⟨_, 0, _, _, _, rfl, b3, fun j v hj => by simpa using hj⟩, fun h => nomatch h⟩ (by omega) (by simp) fun l w4 k4 hR4 => ?_
  have k14 := k13.no k4
  have hasks : ∀ wz, Asks text 1 0 (putSteps ps ++ [s0].map (SSt.later ps.length)) wz := fun wz => by
    have hops : ∀ s ∈ putSteps ps ++ [s0].map (SSt.later ps.length), (s.op = 0 ∨ s.op = 4) ∧ s.text.size ≤ 100 := fun s hs => by
      rcases List.mem_append.1 hs with hs | hs
      · obtain ⟨h, _, p, hp, e⟩ := putSteps_mem hs
        exact ⟨.inl h, by rw [e]; exact ht p hp⟩
      · simp at hs; rw [hs]; exact ⟨.inr hop, ht0⟩
    refine ⟨fun s hs => (hops s hs).2, ?_, fun ⟨s, hs, h⟩ => by have := (hops s hs).1; omega, fun ⟨s, hs, h⟩ => by have := (hops s hs).1; omega, fun _ => ⟨I.backOk _, T.backOk _⟩, fun ⟨s, hs, h⟩ => by have := (hops s hs).1; omega⟩
    rw [scost_app, putSteps_cost]
    have : scost ([s0].map (SSt.later ps.length)) = s0.cost := by simp [scost, SSt.later, SSt.cost]
    omega
  obtain ⟨g1, g2⟩ := turned_ans (text := text) (ps := ps) (by omega) hop h0
  rw [← List.map_singleton (f := SSt.later ps.length) (a := s0)] at g1 g2
  generalize putSteps ps ++ [s0].map (SSt.later ps.length) = S at *
  obtain ⟨a4, c4, rfl, hc4, hm4, hr4, _⟩ := hR4.flat
  refine sorted_ok (text := text) (kn := 1) (n := 0) (by decide) (by decide) hr4 (hasks w4) fun l5 w5 G5 k5 hR5 => ?_
  have k15 := k14.no k5
  simp only [op_ext2_0, op_ext2_1]
  refine sortedItems_ok (kn := 2) (n := 0) (by decide) (by decide) (h1.frame k15 fun _ _ h => h) hn ht fun v6 w6 k6 hv6 => ?_
  have k16 := k15.no k6
  simp only [op_ext2_0, op_ext2_1]
  refine awake_ok fun w7 k7 => ?_
  have k17 := k16.no k7
  have hR7 := hR5.still elA_ok (k6.no k7)
  generalize ansOf text 1 0 S = A at *
  have hA : ps.length < A.length := by omega
  obtain ⟨u, g, c, cs, hl5, hg1, hu, hg3, hg4, hg5, pv, hpv, hpr, _⟩ := hR7.get hA
  subst hl5 hpv
  have hg0 : cs[ps.length * 4 + 3]? = some pv := by have := hg3 3 (by decide); simpa using this
  rw [List.getElem?_eq_getElem hA, Option.map_some] at g2
  have g2 := Option.some.inj g2
  rw [g2] at hpr
  have hv7 := hv6.still k7
  have hl := items_len (text := text) (kn := 2) (n := 0) (ps := ps)
  generalize itemsOf text 2 0 ps = xs at *
  obtain ⟨a6, c6, rfl, _, _, hr6, _⟩ := id hv7
  obtain ⟨a8, c8, rfl, _, _, hr8, _⟩ := id hpr
  have e1 : IntKind.i64.wrap ((ps.length : Int) + 1) = ((ps.length + 1 : Nat) : Int) := by rw [IntKind.wrap_i64]; omega
  simp [-getElem?_pos, -Array.getElem?_eq_getElem, -Int.natCast_add, add_spot, and_assoc, Br_dec, -op_box, -op_alloc_49, -op_st_49, -op_lit_32_1, e1, g1, hg1, hg0]
  obtain ⟨I, hI⟩ : ∃ I : KV, ∀ v wl, I v wl ↔ ∃ i : Nat, v = .int .i64 i ∧ i ≤ xs.length ∧ Frm (fun _ => False) w7 wl := ⟨_, fun _ _ => Iff.rfl⟩
  refine Lp.intro I (fun v _ => xs.length - nOf v) ⟨(hI _ _).2 ⟨0, rfl, by omega, Frm.refl⟩, ?_⟩
  intro wl v hv
  obtain ⟨i, rfl, hi, kl⟩ := (hI _ _).1 hv
  simp only [op_lss, Br_dec]
  refine ⟨fun hlt => ?_, fun hge => hK wl (k17.no kl)⟩
  have hi' : i < xs.length := by omega
  obtain ⟨b1, o1, cs1, e1', f1, rfl, q1, q2, q3⟩ := (hr6.frame kl fun _ _ h => h).part SPr.len (by decide) hi'
  simp [-getElem?_pos, -Array.getElem?_eq_getElem, -Int.natCast_add, add_spot, and_assoc, Br_dec, -op_box, -op_alloc_49, -op_st_49, -op_lit_32_1, q1, q2, q3]
  refine ⟨hi', ?_⟩
  refine op_alloc_ok (z := .agg #[.int .i64 0, .string ByteArray.empty, .int .i64 0]) (by kernel_rfl) fun w8 k8 z8 b8 => ?_
  simp only [cells_agg] at b8
  refine op_storeN_ok (n := 3) (by kernel_rfl) b8 rfl (by decide) (by simp [SPr.cells]) fun w9 k9 z9 b9 => ?_
  have b9 : w9.heap[wl.heap.size]? = some (.cells xs[i].cells.toArray 49 (0, 0)) := by
    rw [ow_all (by simp [SPr.cells])] at b9; exact b9
  have k9' := kl.no (k8.old k9 fun c hc => .inr (by omega))
  have hx : xs[i].cells.toArray.extract 0 3 = xs[i].cells.toArray := extract_self (by simp [SPr.cells])
  have hs3 : 3 ≤ xs[i].cells.length := Nat.le_refl _
  have hg9 := k9'.get hg1 fun h => h
  obtain ⟨b2, o2, cs2, e2', f2, he2, p1, p2, p3⟩ := (hr8.frame k9' fun _ _ h => h).part SPr.len (by decide) hi'
  cases he2
  simp [-getElem?_pos, -Array.getElem?_eq_getElem, -Int.natCast_add, add_spot, and_assoc, Br_dec, -op_box, -op_alloc_49, -op_st_49, -op_lit_32_1, hg9, hg0, hi', p1, p2, p3, b9, hx, hs3]
  refine pur_neq_spr (by kernel_rfl) (by kernel_rfl) ?_
  rw [decide_eq_true rfl]
  simp [-getElem?_pos, -Array.getElem?_eq_getElem, -Int.natCast_add, add_spot, and_assoc, Br_dec, -op_box, -op_alloc_49, -op_st_49, -op_lit_32_1]
  rw [show IntKind.i64.wrap ((i : Int) + 1) = ((i + 1 : Nat) : Int) from by rw [IntKind.wrap_i64]; omega]
  exact ⟨(hI _ _).2 ⟨i + 1, rfl, by omega, k9'.no (Frm.drew _)⟩, by simp only [nOf_int]; omega⟩
end Go.Proofs.YtodjijfblgnfmaaGreatDoor
end
section
namespace Go.Proofs.YtodjijfblgnfmaaGreatDoor
open Go.Vc Go.Proofs
variable {S : Sig} {a0 a1 a2 a3 a4 a5 a6 a7 a8 a9 : Value} {w : World} {K : KV} {Kp : KP}
private theorem follows_BVcLU : Tryz.prog.follows .mixedOrders = true := by kernel_rfl
def vc7 (S : Sig) (a0 a1 a2 a3 : Value) (w : World) (K : KV) (Kp : KP) : Prop :=
 S.op (.box 23 a1) w (fun v5 w =>
 S.op (.box 45 a3) w (fun v7 w =>
 S.call (.fn 19) [a2] w (fun v17 w =>
 S.op (.un .not v17) w (fun v18 w =>
 Br v18 (
 K (.bool true) w) (
 S.op (.load 45 v7) w (fun v20 w =>
 S.call (.fn 24) [v20] w (fun v21 w =>
 S.op (.un .not v21) w (fun v22 w =>
 Br v22 (
 K (.bool true) w) (
 S.op (.load 23 v5) w (fun v24 w =>
 S.call (.fn 20) [v24, a2] w (fun v26 w =>
 S.op (.un .not v26) w (fun v27 w =>
 Br v27 (
 S.call (.fn 14) [] w (fun v34 w =>
 K v34 w) Kp) (
 S.op (.fieldAddr 45 v7 1) w (fun v29 w =>
 S.op (.load 9 v29) w (fun v30 w =>
 S.op (.blt .len [9] 3 [v30]) w (fun v31 w =>
 S.op (.bin .gtr 3 false true v31 (.int .i64 100)) w (fun v32 w =>
 Br v32 (
 S.call (.fn 14) [] w (fun v34 w =>
 K v34 w) Kp) (
 S.op (.blt .len [38] 3 [a2]) w (fun v36 w =>
 S.op (.mkFunc (Fn.func 25) [] [v7]) w (fun v37 w =>
 S.ld (.load 23 v5) w.drew (fun v40 =>
 S.call (.val v37) [(.int .u8 2), (.int .i64 0)] w.drew (fun v43 w =>
 S.same (.load 23 v5) v40 w ∧
 S.call (.val v37) [(.int .u8 3), (.int .i64 0)] w (fun v45 w =>
 S.same (.load 23 v5) v40 w ∧
 S.call (.val v37) [(.int .u8 1), (.int .i64 0)] w (fun v47 w =>
 S.same (.load 23 v5) v40 w ∧
 S.call (.val v37) [(.int .u8 0), (.int .i64 1)] w (fun v49 w =>
 S.same (.load 23 v5) v40 w ∧
 S.call (.val v37) [(.int .u8 1), (.int .i64 2)] w (fun v51 w =>
 S.same (.load 23 v5) v40 w ∧
 S.call (.val v37) [(.int .u8 3), (.int .i64 3)] w (fun v53 w =>
 S.same (.load 23 v5) v40 w ∧
 S.call (.val v37) [(.int .u8 3), (.int .i64 1)] w (fun v55 w =>
 S.same (.load 23 v5) v40 w ∧
 S.call (.val v37) [(.int .u8 0), (.int .i64 0)] w (fun v57 w =>
 S.same (.load 23 v5) v40 w ∧
 S.call (.val v37) [(.int .u8 2), (.int .i64 4)] w (fun v59 w =>
 S.same (.load 23 v5) v40 w ∧
 S.call (.val v37) [(.int .u8 3), (.int .i64 0)] w (fun v61 w =>
 S.same (.load 23 v5) v40 w ∧
 S.op (.buildSlice 32 10 [(0, v43), (1, v45), (2, v47), (3, v49), (4, v51), (5, v53), (6, v55), (7, v57), (8, v59), (9, v61)]) w (fun v62 w =>
 S.same (.load 23 v5) v40 w ∧
 S.call (.fn 23) [a2, v62] w (fun v63 w =>
 S.same (.load 23 v5) v40 w ∧
 S.call (.fn 15) [a0, v40, v63] w (fun v64 w =>
 S.pur (.extract v64 0) (fun v65 =>
 S.pur (.extract v64 1) (fun v66 =>
 S.call (.fn 14) [] w (fun v67 w =>
 S.op (.un .not v67) w (fun v68 w =>
 Br v68 (
 K (.bool false) w) (
 S.op (.un .not v66) w (fun v71 w =>
 Br v71 (
 K (.bool false) w) (
 S.op (.blt .len [28] 3 [v65]) w (fun v75 w =>
 S.op (.bin .add 3 false true v36 (.int .i64 10)) w (fun v77 w =>
 S.op (.bin .neq 3 false false v75 v77) w (fun v78 w =>
 Br v78 (
 K (.bool false) w) (
 S.op (.slice 28 v65 (some v36) none none) w (fun v82 w =>
 S.pur (.indexAddr 28 v82 (.int .i64 0)) (fun v84 =>
 S.pur (.fieldAddr 56 v84 2) (fun v85 =>
 S.ld (.load 4 v85) w.drew (fun v86 =>
 S.pur (.indexAddr 28 v82 (.int .i64 1)) (fun v88 =>
 S.pur (.fieldAddr 56 v88 3) (fun v89 =>
 S.ld (.load 46 v89) w.drew (fun v90 =>
 S.ld (.blt .len [46] 3 [v90]) w.drew (fun v91 =>
 S.same (.blt .len [46] 3 [v90]) v91 w.drew ∧
 S.same (.load 46 v89) v90 w.drew ∧
 Jn fun (J15 : World → Prop) =>
 (Br v86 (
 S.pur (.indexAddr 28 v82 (.int .i64 2)) (fun v95 =>
 S.pur (.fieldAddr 56 v95 1) (fun v96 =>
 S.ld (.load 3 v96) w.drew.drew (fun v97 =>
 S.pur (.bin .sub 3 false true v91 (.int .i64 1)) (fun v99 =>
 S.pur (.bin .neq 3 false false v97 v99) (fun v100 =>
 Br v100 (
 K (.bool false) w.drew.drew) (
 S.pur (.indexAddr 28 v82 (.int .i64 7)) (fun v103 =>
 S.pur (.fieldAddr 56 v103 1) (fun v104 =>
 S.ld (.load 3 v104) w.drew.drew (fun v105 =>
 S.pur (.bin .neq 3 false false v105 v91) (fun v107 =>
 Br v107 (
 K (.bool false) w.drew.drew) (
 S.pur (.un .not v86) (fun v112 =>
 Br v112 (
 S.pur (.indexAddr 28 v82 (.int .i64 2)) (fun v115 =>
 S.pur (.fieldAddr 56 v115 1) (fun v116 =>
 S.ld (.load 3 v116) w.drew.drew (fun v117 =>
 S.pur (.bin .neq 3 false false v117 v91) (fun v119 =>
 Br v119 (
 K (.bool false) w.drew.drew) (
 S.pur (.indexAddr 28 v82 (.int .i64 7)) (fun v122 =>
 S.pur (.fieldAddr 56 v122 1) (fun v123 =>
 S.ld (.load 3 v123) w.drew.drew (fun v124 =>
 S.pur (.bin .add 3 false true v91 (.int .i64 1)) (fun v126 =>
 S.pur (.bin .neq 3 false false v124 v126) (fun v127 =>
 Br v127 (
 K (.bool false) w.drew.drew) (
 S.pur (.indexAddr 28 v82 (.int .i64 6)) (fun v132 =>
 S.pur (.fieldAddr 56 v132 3) (fun v133 =>
 S.ld (.load 46 v133) w.drew.drew (fun v134 =>
 S.pur (.indexAddr 28 v82 (.int .i64 1)) (fun v136 =>
 S.pur (.fieldAddr 56 v136 3) (fun v137 =>
 S.ld (.load 46 v137) w.drew.drew (fun v138 =>
 S.call (.val (.func (Fn.func 26) #[] #[])) [v134, v138] w.drew.drew (fun v139 w =>
 S.pur (.un .not v139) (fun v140 =>
 Br v140 (
 K (.bool false) w) (
 J15 w))) Kp)))))))))))))))))) (
 J15 w.drew.drew)))))))))))))) (
 S.pur (.un .not v86) (fun v112 =>
 Br v112 (
 S.pur (.indexAddr 28 v82 (.int .i64 2)) (fun v115 =>
 S.pur (.fieldAddr 56 v115 1) (fun v116 =>
 S.ld (.load 3 v116) w.drew.drew (fun v117 =>
 S.pur (.bin .neq 3 false false v117 v91) (fun v119 =>
 Br v119 (
 K (.bool false) w.drew.drew) (
 S.pur (.indexAddr 28 v82 (.int .i64 7)) (fun v122 =>
 S.pur (.fieldAddr 56 v122 1) (fun v123 =>
 S.ld (.load 3 v123) w.drew.drew (fun v124 =>
 S.pur (.bin .add 3 false true v91 (.int .i64 1)) (fun v126 =>
 S.pur (.bin .neq 3 false false v124 v126) (fun v127 =>
 Br v127 (
 K (.bool false) w.drew.drew) (
 S.pur (.indexAddr 28 v82 (.int .i64 6)) (fun v132 =>
 S.pur (.fieldAddr 56 v132 3) (fun v133 =>
 S.ld (.load 46 v133) w.drew.drew (fun v134 =>
 S.pur (.indexAddr 28 v82 (.int .i64 1)) (fun v136 =>
 S.pur (.fieldAddr 56 v136 3) (fun v137 =>
 S.ld (.load 46 v137) w.drew.drew (fun v138 =>
 S.call (.val (.func (Fn.func 26) #[] #[])) [v134, v138] w.drew.drew (fun v139 w =>
 S.pur (.un .not v139) (fun v140 =>
 Br v140 (
 K (.bool false) w) (
 J15 w))) Kp)))))))))))))))))) (
 J15 w.drew.drew)))) ∧
 (∀ (w : World) (junk : Nat → Value), J15 w →
 S.pur (.indexAddr 28 v82 (.int .i64 3)) (fun v145 =>
 S.pur (.fieldAddr 56 v145 1) (fun v146 =>
 S.ld (.load 3 v146) w.drew (fun v147 =>
 S.pur (.indexAddr 28 v82 (.int .i64 2)) (fun v149 =>
 S.pur (.fieldAddr 56 v149 1) (fun v150 =>
 S.ld (.load 3 v150) w.drew (fun v151 =>
 S.pur (.bin .add 3 false true v151 (.int .i64 1)) (fun v152 =>
 S.pur (.bin .eql 3 false false v147 v152) (fun v153 =>
 Br v153 (
 S.pur (.indexAddr 28 v82 (.int .i64 5)) (fun v157 =>
 S.pur (.fieldAddr 56 v157 3) (fun v158 =>
 S.ld (.load 46 v158) w.drew (fun v159 =>
 S.pur (.indexAddr 28 v82 (.int .i64 6)) (fun v161 =>
 S.pur (.fieldAddr 56 v161 3) (fun v162 =>
 S.ld (.load 46 v162) w.drew (fun v163 =>
 S.call (.val (.func (Fn.func 26) #[] #[])) [v159, v163] w.drew (fun v164 w =>
 Br v164 (
 S.pur (.indexAddr 28 v82 (.int .i64 8)) (fun v168 =>
 S.pur (.fieldAddr 56 v168 2) (fun v169 =>
 S.ld (.load 4 v169) w (fun v170 =>
 Br v170 (
 S.pur (.indexAddr 28 v82 (.int .i64 8)) (fun v174 =>
 S.pur (.fieldAddr 56 v174 0) (fun v175 =>
 S.ld (.load 2 v175) w (fun v176 =>
 S.pur (.fieldAddr 45 v7 2) (fun v177 =>
 S.ld (.load 2 v177) w (fun v178 =>
 S.pur (.bin .eql 2 false false v176 v178) (fun v179 =>
 Br v179 (
 S.pur (.indexAddr 28 v82 (.int .i64 9)) (fun v184 =>
 S.pur (.fieldAddr 56 v184 3) (fun v185 =>
 S.ld (.load 46 v185) w (fun v186 =>
 S.pur (.indexAddr 28 v82 (.int .i64 1)) (fun v188 =>
 S.pur (.fieldAddr 56 v188 3) (fun v189 =>
 S.ld (.load 46 v189) w (fun v190 =>
 S.call (.val (.func (Fn.func 26) #[] #[])) [v186, v190] w (fun v191 w =>
 K v191 w) Kp))))))) (
 K (.bool false) w)))))))) (
 K (.bool false) w))))) (
 K (.bool false) w)) Kp))))))) (
 K (.bool false) w.drew)))))))))))))))))) Kp)) Kp) Kp) Kp)) Kp)) Kp) Kp))) Kp) Kp) Kp) Kp) Kp) Kp) Kp) Kp) Kp) Kp) Kp) Kp) Kp)) Kp) Kp)) Kp) Kp) Kp) Kp)) Kp) Kp) Kp)) Kp) Kp) Kp)) Kp) Kp) Kp) Kp
theorem vc7_eq : vc7 S a0 a1 a2 a3 w K Kp = fVC S [] [(15, [])] Tryz.f7 [a0, a1, a2, a3] w K Kp := by kernel_rfl
theorem vc7_calls (h : vc7 (nice Tryz.prog) a0 a1 a2 a3 w K Kp) : Calls Tryz.prog 7 #[a0, a1, a2, a3] w (ret K Kp) :=
 fVC_sound (args := [a0, a1, a2, a3]) nice_le follows_BVcLU Tryz.func7 (by kernel_rfl) (Eq.mp vc7_eq h)
def vc25 (S : Sig) (a0 a1 a2 : Value) (w : World) (K : KV) (Kp : KP) : Prop :=
 S.op (.alloc 54) w (fun v5 w =>
 S.op (.fieldAddr 45 a2 0) w (fun v8 w =>
 S.op (.load 2 v8) w (fun v9 w =>
 S.op (.fieldAddr 45 a2 1) w (fun v10 w =>
 S.op (.load 9 v10) w (fun v11 w =>
 S.op (.fieldAddr 45 a2 2) w (fun v12 w =>
 S.op (.load 2 v12) w (fun v13 w =>
 S.op (.build 54 [(0, a0), (1, a1), (2, v9), (3, v11), (4, v13)]) w (fun v14 w =>
 S.op (.store 54 v5 v14) w (fun _ w =>
 S.ld (.load 54 v5) w (fun r0 =>
 K r0 w)) Kp) Kp) Kp) Kp) Kp) Kp) Kp) Kp) Kp
theorem vc25_eq : vc25 S a0 a1 a2 w K Kp = fVC S [] [] Tryz.f25 [a0, a1, a2] w K Kp := by kernel_rfl
theorem vc25_calls (h : vc25 (nice Tryz.prog) a0 a1 a2 w K Kp) : Calls Tryz.prog 25 #[a0, a1, a2] w (ret K Kp) :=
 fVC_sound (args := [a0, a1, a2]) nice_le follows_BVcLU Tryz.func25 (by kernel_rfl) (Eq.mp vc25_eq h)
def vc26 (S : Sig) (a0 a1 : Value) (w : World) (K : KV) (Kp : KP) : Prop :=
 S.op (.blt .len [46] 3 [a0]) w (fun v7 w =>
 S.op (.blt .len [46] 3 [a1]) w (fun v9 w =>
 S.op (.bin .neq 3 false false v7 v9) w (fun v10 w =>
 Br v10 (
 K (.bool false) w) (
 S.op (.blt .len [46] 3 [a0]) w (fun v12 w =>
 Lp fun (I4 : KV) (μ4 : Value → World → Nat) => I4 (.int .i64 0) w ∧
 ∀ (wl4 : World) (junk : Nat → Value) (s13 : Value), I4 s13 wl4 →
 S.op (.bin .lss 3 false false s13 v12) wl4 (fun v14 w =>
 Br v14 (
 S.pur (.indexAddr 46 a0 s13) (fun v18 =>
 S.ld (.load 49 v18) w.drew (fun v19 =>
 S.pur (.indexAddr 46 a1 s13) (fun v22 =>
 S.ld (.load 49 v22) w.drew (fun v23 =>
 S.pur (.bin .neq 49 false false v19 v23) (fun v24 =>
 Br v24 (
 K (.bool false) w.drew) (
 S.op (.bin .add 3 false true s13 (.int .i64 1)) w.drew (fun v25 w =>
 I4 v25 w ∧ μ4 v25 w < μ4 s13 wl4) Kp))))))) (
 K (.bool true) w)) Kp) Kp)) Kp) Kp) Kp
theorem vc26_eq : vc26 S a0 a1 w K Kp = fVC S [(4, [13])] [] Tryz.f26 [a0, a1] w K Kp := by kernel_rfl
theorem vc26_calls (h : vc26 (nice Tryz.prog) a0 a1 w K Kp) : Calls Tryz.prog 26 #[a0, a1] w (ret K Kp) :=
 fVC_sound (args := [a0, a1]) nice_le follows_BVcLU Tryz.func26 (by kernel_rfl) (Eq.mp vc26_eq h)
end Go.Proofs.YtodjijfblgnfmaaGreatDoor
end
section
/- A script that puts a pair, takes it out, and looks, in plain words. -/
namespace Go.Vc.Bt
open Go.Vc
def stOf (op at' : Nat) (p : SPr) : SSt := ⟨op, at', p.key, p.text, p.val, 0, 0⟩
def undoSteps (p : SPr) : List SSt := [stOf 2 0 p, stOf 3 0 p, stOf 1 0 p, stOf 0 1 p, stOf 1 2 p, stOf 3 3 p, stOf 3 1 p, stOf 0 0 p, stOf 2 4 p, stOf 3 0 p]
structure UndoOk (p : SPr) (a0 a1 a2 a3 a5 a6 a7 a8 a9 : SAns) : Prop where
  there : a0.ok = true → a2.n = (a1.list.length : Int) - 1 ∧ a7.n = a1.list.length
  absent : a0.ok = false → a2.n = a1.list.length ∧ a7.n = (a1.list.length : Int) + 1 ∧ a6.list = a1.list
  grow : a3.n = a2.n + 1
  back : a5.list = a6.list
  found : a8.ok = true ∧ a8.value = p.val
  still : a9.list = a1.list
  low : 0 ≤ a2.n
section
variable {κ : Type} [DecidableEq κ] {lt : κ → κ → Bool} {kd : Kd κ}
theorem oneS_at {q : List (Vn κ) × List SAns} {s : SSt} {m : Nat} {L : Vn κ} (h : s.fro = m) (hm : q.1[m]? = some L) : oneS lt kd q s = (q.1 ++ (newV lt kd s L).toList, q.2 ++ [ansV lt kd s L]) := by
  have hl := (List.getElem?_eq_some_iff.1 hm).1
  unfold oneS
  rw [atV_small h hl, hm]; rfl
theorem runS_app (a b : List SSt) : runS lt kd (a ++ b) = b.foldl (oneS lt kd) (runS lt kd a) := by simp [runS]
theorem ansV_list (s : SSt) (L : Vn κ) : (ansV lt kd s L).list.length ≤ L.length := by
  unfold ansV
  split
  · split <;> simp [zeroA]
  · split
    · simp
    · split
      · simp
      · split <;> simp [zeroA]
theorem runS_list (steps : List SSt) : ∀ a ∈ (runS lt kd steps).2, a.list.length ≤ scost steps := by
  rw [← List.reverse_reverse steps]
  generalize steps.reverse = r
  induction r with
  | nil => intro a ha; simp [runS] at ha
  | cons s r ih =>
    intro a ha
    rw [List.reverse_cons, runS_snoc] at ha
    rw [List.reverse_cons, scost_snoc]
    unfold oneS at ha
    have hle := runS_le (lt := lt) (kd := kd) r.reverse
    rcases List.mem_append.1 ha with h | h
    · have := ih a h; omega
    · rw [List.mem_singleton.1 h]
      have h1 := ansV_list (lt := lt) (kd := kd) s ((runS lt kd r.reverse).1[atV s (runS lt kd r.reverse).1.length]?.getD [])
      have h2 : ((runS lt kd r.reverse).1[atV s (runS lt kd r.reverse).1.length]?.getD []).length ≤ scost r.reverse := by
        cases hg : (runS lt kd r.reverse).1[atV s (runS lt kd r.reverse).1.length]? with
        | none => simp
        | some x => exact hle x (List.mem_of_getElem? hg)
      omega
theorem later_fro {s : SSt} {n j : Nat} (h : s.fro = j) (hn : n + j < 2 ^ 62) : (s.later n).fro = ((n + j : Nat) : Int) := by
  show IntKind.i64.wrap (s.fro + n) = _
  rw [h, IntKind.wrap_i64]; omega
theorem newV_later (s : SSt) (n : Nat) (L : Vn κ) (hc : s.op ≠ 5 ∧ s.op ≠ 6) : newV lt kd (s.later n) L = newV lt kd s L := by
  unfold newV
  have : (s.later n).op = s.op := rfl
  rw [this, if_neg hc.1, if_neg hc.1, if_neg hc.2, if_neg hc.2]; rfl
theorem ansV_later (s : SSt) (n : Nat) (L : Vn κ) (hc : s.op ≠ 5 ∧ s.op ≠ 6) : ansV lt kd (s.later n) L = ansV lt kd s L := by
  unfold ansV
  rw [newV_later s n L hc]; rfl
theorem undo_run (hl : Lin lt) (ps : List SPr) (p : SPr) (hn : ps.length < 2 ^ 31) :
    ∃ a0 a1 a2 a3 a4 a5 a6 a7 a8 a9, (runS lt kd (putSteps ps ++ (undoSteps p).map (SSt.later ps.length))).2 = (runS lt kd (putSteps ps)).2 ++ [a0, a1, a2, a3, a4, a5, a6, a7, a8, a9] ∧ UndoOk p a0 a1 a2 a3 a5 a6 a7 a8 a9 := by
  obtain ⟨h1, h2, h3⟩ := runS_put (lt := lt) (kd := kd) ps
  have hsd : Sd lt (putAll lt [] (ps.map kd.kv)) := putAll_sd hl _ List.Pairwise.nil
  generalize putAll lt [] (ps.map kd.kv) = L at *
  rw [runS_app]
  generalize runS lt kd (putSteps ps) = q at *
  obtain ⟨V, A⟩ := q
  simp only at h1 h2 h3
  generalize hk : kd.key p.key p.text = k
  have e0 : ∀ at' L, newV lt kd (stOf 0 at' p) L = some (put lt L k p.val) := fun at' L => by rw [← hk]; rfl
  have e1 : ∀ at' L, newV lt kd (stOf 1 at' p) L = some (rem lt L k) := fun at' L => by rw [← hk]; rfl
  have e2 : ∀ at' L, newV lt kd (stOf 2 at' p) L = none := fun at' L => rfl
  have e3 : ∀ at' L, newV lt kd (stOf 3 at' p) L = none := fun at' L => rfl
  have f0 : ∀ at' L, ansV lt kd (stOf 0 at' p) L = ⟨0, (put lt L k p.val).length, false, []⟩ := fun at' L => by rw [← hk]; rfl
  have f1 : ∀ at' L, ansV lt kd (stOf 1 at' p) L = ⟨0, (rem lt L k).length, false, []⟩ := fun at' L => by rw [← hk]; rfl
  have f2 : ∀ at' L, ansV lt kd (stOf 2 at' p) L = match got lt L k with | some v => ⟨v, 0, true, []⟩ | none => zeroA := fun at' L => by rw [← hk]; rfl
  have f3 : ∀ at' L, ansV lt kd (stOf 3 at' p) L = ⟨0, L.length, false, prsOf kd L⟩ := fun at' L => rfl
  obtain ⟨pre, rfl, hpre⟩ : ∃ pre, V = pre ++ [L] ∧ pre.length = ps.length := by
    refine ⟨V.take ps.length, ?_, by simp; omega⟩
    have hlt : ps.length < V.length := by omega
    rw [List.getElem?_eq_getElem hlt] at h2
    have := List.take_succ_eq_append_getElem hlt
    rw [← Option.some.inj h2, ← this, List.take_of_length_le (by omega)]
  have step : ∀ {l : List (Vn κ)} {A : List SAns} {op at' : Nat} {L : Vn κ}, op < 5 → at' < 5 → l[at']? = some L → oneS lt kd (pre ++ l, A) ((stOf op at' p).later ps.length) = (pre ++ (l ++ (newV lt kd (stOf op at' p) L).toList), A ++ [ansV lt kd (stOf op at' p) L]) := fun {l A op at' L} ho ha hv => by
    have hc : (stOf op at' p).op ≠ 5 ∧ (stOf op at' p).op ≠ 6 := by show op ≠ 5 ∧ op ≠ 6; omega
    rw [oneS_at (m := ps.length + at') (L := L) (later_fro (j := at') rfl (by omega)) (by show (pre ++ l)[ps.length + at']? = _; rw [List.getElem?_append_right (by omega), hpre, Nat.add_sub_cancel_left]; exact hv), newV_later _ _ _ hc, ansV_later _ _ _ hc, List.append_assoc]
  simp only [undoSteps, List.map_cons, List.map_nil, List.foldl_cons, List.foldl_nil]
  rw [step (L := L) (by decide) (by decide) rfl, e2, f2]
  rw [step (L := L) (by decide) (by decide) rfl, e3, f3]
  rw [step (L := L) (by decide) (by decide) rfl, e1, f1]
  rw [step (L := rem lt L k) (by decide) (by decide) rfl, e0, f0]
  rw [step (L := put lt (rem lt L k) k p.val) (by decide) (by decide) rfl, e1, f1]
  rw [step (L := rem lt (put lt (rem lt L k) k p.val) k) (by decide) (by decide) rfl, e3, f3]
  rw [step (L := rem lt L k) (by decide) (by decide) rfl, e3, f3]
  rw [step (L := L) (by decide) (by decide) rfl, e0, f0]
  rw [step (L := put lt L k p.val) (by decide) (by decide) rfl, e2, f2]
  rw [step (L := L) (by decide) (by decide) rfl, e3, f3]
  have hs1 := rem_sd (lt := lt) hsd k
  have hhas : has lt (rem lt L k) k = false := has_rem hl hsd k
  have hb : rem lt (put lt (rem lt L k) k p.val) k = rem lt L k := by rw [rem_put hl hs1, rem_absent hhas]
  have hg4 := got_put hl hsd k p.val
  have hgh := got_has hl hsd (k := k)
  have hr := rem_len (lt := lt) (L := L) (k := k)
  have hp := put_len (lt := lt) (L := L) (k := k) (v := p.val)
  have hp1 := put_len (lt := lt) (L := rem lt L k) (k := k) (v := p.val)
  rw [hhas] at hp1
  rw [hg4]
  simp only [List.append_assoc, List.singleton_append]
  refine ⟨_, _, _, _, _, _, _, _, _, _, rfl, ?_⟩
  have hpl : (prsOf kd L).length = L.length := by simp [prsOf]
  constructor
  · intro h
    have hh : has lt L k = true := by
      rw [← hgh]
      cases hg : got lt L k with
      | none => rw [hg] at h; cases h
      | some v => rfl
    rw [hh] at hr hp
    have := has_lt hh
    simp only [hpl]
    simp at hr hp; omega
  · intro h
    have hh : has lt L k = false := by
      rw [← hgh]
      cases hg : got lt L k with
      | none => rfl
      | some v => rw [hg] at h; cases h
    rw [hh] at hr hp
    simp only [hpl, rem_absent hh]
    simp at hp
    exact ⟨trivial, by omega, trivial⟩
  · simp only; simp at hp1; omega
  · show prsOf kd (rem lt (put lt (rem lt L k) k p.val) k) = prsOf kd (rem lt L k)
    rw [hb]
  · exact ⟨rfl, rfl⟩
  · rfl
  · simp only; omega
end
end Go.Vc.Bt
end
section
/- laws.FnSortedUndo. -/
namespace Go.Proofs.YtodjijfblgnfmaaGreatDoor
open Go.Vc Go.Proofs Go.Vc.Bt
variable {w w' : World} {K : KV} {Kp : KP} {n : Int} {kn : Nat} {text : Bool} {a1 : Option Addr} {c1 : Nat} {ps : List SPr} {p : SPr}
theorem undo_ans (hn : ps.length < 2 ^ 31) : ∃ pre a0 a1 a2 a3 a4 a5 a6 a7 a8 a9, ansOf text kn n (putSteps ps ++ (undoSteps p).map (SSt.later ps.length)) = pre ++ [a0, a1, a2, a3, a4, a5, a6, a7, a8, a9] ∧ pre.length = ps.length ∧ UndoOk p a0 a1 a2 a3 a5 a6 a7 a8 a9 := by
  unfold ansOf
  cases text
  · obtain ⟨a0, a1, a2, a3, a4, a5, a6, a7, a8, a9, e, h⟩ := undo_run (lt := I.ordI kn n) (kd := I.kd) I.ordI_lin ps p hn
    exact ⟨_, a0, a1, a2, a3, a4, a5, a6, a7, a8, a9, e, (runS_put ps).2.2, h⟩
  · obtain ⟨a0, a1, a2, a3, a4, a5, a6, a7, a8, a9, e, h⟩ := undo_run (lt := T.ordI kn n) (kd := T.kd) T.ordI_lin ps p hn
    exact ⟨_, a0, a1, a2, a3, a4, a5, a6, a7, a8, a9, e, (runS_put ps).2.2, h⟩
theorem same_ok {v1 v2 : Value} {xs : List SPr} (h1 : IsSl w v1 xs.length (xs.flatMap SPr.cells)) (h2 : IsSl w v2 xs.length (xs.flatMap SPr.cells)) (hn : xs.length < 2 ^ 60) (hK : ∀ w', Frm (fun _ => False) w w' → K (.bool true) w') :
    Calls Tryz.prog 26 #[v1, v2] w (ret K Kp) := by
  refine vc26_calls ?_
  delta vc26
  obtain ⟨a2, c2, rfl, _⟩ := id h2
  obtain ⟨a1, c1, rfl, _⟩ := id h1
  rw [op_len_slice (by kernel_rfl), op_len_slice (by kernel_rfl), op_neq, decide_eq_true rfl, Bool.not_true, Br_false]
  exact sameLoop (by kernel_rfl) (by kernel_rfl) (by kernel_rfl) (by kernel_rfl) (by kernel_rfl) (by kernel_rfl) (by kernel_rfl) h1 h2 hn hK
theorem step_ok {pb op at' : Nat} (hb : w.heap[pb]? = some (.cells p.cells.toArray 45 (0, 0))) (hK : ∀ w', Frm (fun _ => False) w w' → K (.agg (stOf op at' p).cells.toArray) w') :
    Calls Tryz.prog 25 #[.int .u8 op, .int .i64 at', .pointer (some ⟨pb, 0, none⟩)] w (ret K Kp) := by
  refine vc25_calls ?_
  delta vc25
  refine op_alloc_ok (z := .agg #[.int .u8 0, .int .i64 0, .int .i64 0, .string ByteArray.empty, .int .i64 0, .int .i64 0, .int .i64 0]) (by kernel_rfl) fun w1 k1 z1 b1 => ?_
  simp only [cells_agg] at b1
  have hb1 := k1.get hb fun h => h
  simp only [SPr.cells] at hb1
  simp [-getElem?_pos, -Array.getElem?_eq_getElem, -Int.natCast_add, add_spot, and_assoc, Br_dec, -op_box, -op_alloc_54, -op_st_54, -op_lit_32_1, -op_lit_32_10, hb1]
  have e0 : (#[.int .u8 op, .int .i64 at', .int .i64 p.key, .string p.text, .int .i64 p.val, .int .i64 0, .int .i64 0] : Array Value) = (stOf op at' p).cells.toArray := by simp [SSt.cells, stOf]
  rw [e0]
  refine op_storeN_ok (n := 7) (by kernel_rfl) b1 rfl (by decide) (by simp [SSt.cells]) fun w2 k2 z2 b2 => ?_
  rw [ow_all (by simp [SSt.cells])] at b2
  have := hK w2 (k1.old k2 fun c hc => .inr (by omega))
  have hx : (stOf op at' p).cells.toArray.extract 0 7 = (stOf op at' p).cells.toArray := extract_self (by simp [SSt.cells])
  have hs7 : 7 ≤ (stOf op at' p).cells.length := Nat.le_refl _
  simp [-getElem?_pos, -Array.getElem?_eq_getElem, -Int.natCast_add, add_spot, and_assoc, Br_dec, -op_box, -op_alloc_54, -op_st_54, -op_lit_32_1, -op_lit_32_10, b2, hx, hs7]
  exact this
theorem law_undo (h1 : Row w a1 (ps.flatMap SPr.cells)) (n1 : -9223372036854775808 ≤ n) (n2 : n ≤ 9223372036854775807) (hK : ∀ w', Frm (fun _ => False) w w' → K (.bool true) w') :
    Calls Tryz.prog 7 #[.bool text, orderV kn n, .slice a1 ps.length c1, .agg p.cells.toArray] w (ret K Kp) := by
  refine vc7_calls ?_
  delta vc7
  refine op_box_ok fun w1 k1 z1 b1 => op_box_ok fun w2 k2 z2 b2 => ?_
  simp only [orderV, cells_agg] at b1
  simp only [cells_agg] at b2
  have hx2 : (#[.int .u8 kn, .int .i64 n] : Array Value).extract 0 2 = #[.int .u8 kn, .int .i64 n] := rfl
  have hx : p.cells.toArray.extract 0 3 = p.cells.toArray := extract_self (by simp [SPr.cells])
  have hs3 : 3 ≤ p.cells.length := Nat.le_refl _
  have k12 := k1.no k2
  have b1 := k2.get b1 fun h => h
  simp only [call_19]
  refine fits6_ok (h1.frame k12 fun _ _ h => h) fun b w3 k3 _ => ?_
  have k13 := k12.no k3
  cases b with
  | false =>
    simp only [op_not, Bool.not_false, Br_true]
    exact hK w3 k13
  | true =>
  have b13 := k3.get b1 fun h => h
  have b23 := k3.get b2 fun h => h
  simp [-getElem?_pos, -Array.getElem?_eq_getElem, -Int.natCast_add, add_spot, and_assoc, Br_dec, -op_box, -op_alloc_54, -op_st_54, -op_lit_32_1, -op_lit_32_10, b23, hx, hs3]
  refine fits7_ok fun b w4 k4 => ?_
  have k14 := k13.no k4
  have b14 := k4.get b13 fun h => h
  have b24 := k4.get b23 fun h => h
  cases b with
  | false =>
    simp [-getElem?_pos, -Array.getElem?_eq_getElem, -Int.natCast_add, add_spot, and_assoc, Br_dec, -op_box, -op_alloc_54, -op_st_54, -op_lit_32_1, -op_lit_32_10]
    exact hK w4 k14
  | true =>
  simp [-getElem?_pos, -Array.getElem?_eq_getElem, -Int.natCast_add, add_spot, and_assoc, Br_dec, -op_box, -op_alloc_54, -op_st_54, -op_lit_32_1, -op_lit_32_10, b14, hx2]
  refine pairsRight_ok (kn := kn) (n := n) (h1.frame k14 fun _ _ h => h) fun b w5 k5 hb => ?_
  have k15 := k14.no k5
  have b15 := k5.get b14 fun h => h
  have b25 := k5.get b24 fun h => h
  cases b with
  | false =>
    simp [-getElem?_pos, -Array.getElem?_eq_getElem, -Int.natCast_add, add_spot, and_assoc, Br_dec, -op_box, -op_alloc_54, -op_st_54, -op_lit_32_1, -op_lit_32_10]
    exact awake_ok fun w6 k6 => hK w6 (k15.no k6)
  | true =>
  obtain ⟨_, hn, ht⟩ := hb rfl
  have b25' := b25
  simp only [SPr.cells] at b25'
  simp [-getElem?_pos, -Array.getElem?_eq_getElem, -Int.natCast_add, add_spot, and_assoc, Br_dec, -op_box, -op_alloc_54, -op_st_54, -op_lit_32_1, -op_lit_32_10, b25']
  refine ⟨fun _ => awake_ok fun w6 k6 => hK w6 (k15.no k6), fun hp100 => ?_⟩
  try simp [-getElem?_pos, -Array.getElem?_eq_getElem, -Int.natCast_add, add_spot, and_assoc, Br_dec, -op_box, -op_alloc_54, -op_st_54, -op_lit_32_1, -op_lit_32_10, b15, hx2]
  have stp : ∀ {op at' : Nat} {wq : World} {K' : KV}, Frm (fun _ => False) w5 wq → (∀ w', Frm (fun _ => False) w5 w' → w'.heap[w.heap.size]? = some (.cells #[.int .u8 kn, .int .i64 n] 23 (0, 0)) → K' (.agg (stOf op at' p).cells.toArray) w') →
      (nice Tryz.prog).call (.val (.func (.func 25) #[] #[.pointer (some ⟨w1.heap.size, 0, none⟩)])) [.int .u8 op, .int .i64 at'] wq K' Kp := fun {op at' wq K'} hf hk => by
    rw [call_val (by kernel_rfl)]
    exact step_ok (hf.get b25 fun h => h) fun w' hf' => hk w' (hf.no hf') ((hf.no hf').get b15 fun h => h)
  refine stp (op := 2) (at' := 0) (Frm.drew _) fun u0 m0 g0 => ⟨⟨_, ⟨_, _, _, g0⟩, Nat.le_refl _, hx2⟩, ?_⟩
  refine stp (op := 3) (at' := 0) (m0) fun u1 m1 g1 => ⟨⟨_, ⟨_, _, _, g1⟩, Nat.le_refl _, hx2⟩, ?_⟩
  refine stp (op := 1) (at' := 0) (m1) fun u2 m2 g2 => ⟨⟨_, ⟨_, _, _, g2⟩, Nat.le_refl _, hx2⟩, ?_⟩
  refine stp (op := 0) (at' := 1) (m2) fun u3 m3 g3 => ⟨⟨_, ⟨_, _, _, g3⟩, Nat.le_refl _, hx2⟩, ?_⟩
  refine stp (op := 1) (at' := 2) (m3) fun u4 m4 g4 => ⟨⟨_, ⟨_, _, _, g4⟩, Nat.le_refl _, hx2⟩, ?_⟩
  refine stp (op := 3) (at' := 3) (m4) fun u5 m5 g5 => ⟨⟨_, ⟨_, _, _, g5⟩, Nat.le_refl _, hx2⟩, ?_⟩
  refine stp (op := 3) (at' := 1) (m5) fun u6 m6 g6 => ⟨⟨_, ⟨_, _, _, g6⟩, Nat.le_refl _, hx2⟩, ?_⟩
  refine stp (op := 0) (at' := 0) (m6) fun u7 m7 g7 => ⟨⟨_, ⟨_, _, _, g7⟩, Nat.le_refl _, hx2⟩, ?_⟩
  refine stp (op := 2) (at' := 4) (m7) fun u8 m8 g8 => ⟨⟨_, ⟨_, _, _, g8⟩, Nat.le_refl _, hx2⟩, ?_⟩
  refine stp (op := 3) (at' := 0) (m8) fun u9 m9 g9 => ⟨⟨_, ⟨_, _, _, g9⟩, Nat.le_refl _, hx2⟩, ?_⟩
  have hlit : sliceLit Tryz.prog 32 10 [(0, .agg (stOf 2 0 p).cells.toArray), (1, .agg (stOf 3 0 p).cells.toArray), (2, .agg (stOf 1 0 p).cells.toArray), (3, .agg (stOf 0 1 p).cells.toArray), (4, .agg (stOf 1 2 p).cells.toArray), (5, .agg (stOf 3 3 p).cells.toArray), (6, .agg (stOf 3 1 p).cells.toArray), (7, .agg (stOf 0 0 p).cells.toArray), (8, .agg (stOf 2 4 p).cells.toArray), (9, .agg (stOf 3 0 p).cells.toArray)] = some (54, ((undoSteps p).flatMap SSt.cells).toArray) := lit_32_10
  refine op_lit_ok hlit fun w6 k6 z6 b6 => ⟨⟨_, ⟨_, _, _, k6.get g9 fun h => h⟩, Nat.le_refl _, hx2⟩, ?_⟩
  have k16 := (k15.no m9).no k6
  have b16 := k6.get g9 fun h => h
  have hfm : (undoSteps p).length = 10 := rfl
  refine sortedPut_ok (m := undoSteps p) (h1.frame k16 fun _ _ h => h) ⟨_, _, rfl, Nat.le_refl _, by simp [maxLen], .inr ⟨_, 0, _, _, _, rfl, b6, fun j v hj => by simpa using hj⟩, fun h => nomatch h⟩ (by omega) (by rw [hfm]; decide) fun l w7 k7 hR7 => ?_
  have hops : ∀ s ∈ putSteps ps ++ (undoSteps p).map (SSt.later ps.length), s.op ≠ 4 ∧ s.op ≠ 5 ∧ s.op ≠ 6 ∧ s.text.size ≤ 100 := fun s hs => by
    rcases List.mem_append.1 hs with hs | hs
    · obtain ⟨h, _, q, hq, e⟩ := putSteps_mem hs
      have := ht q hq
      exact ⟨by omega, by omega, by omega, by rw [e]; exact this⟩
    · obtain ⟨s', hs', rfl⟩ := List.mem_map.1 hs
      have hall : ∀ s ∈ undoSteps p, (s.op ≠ 4 ∧ s.op ≠ 5 ∧ s.op ≠ 6) ∧ s.text = p.text := by
        intro s hs
        simp only [undoSteps, List.mem_cons, List.not_mem_nil, or_false] at hs
        rcases hs with rfl | rfl | rfl | rfl | rfl | rfl | rfl | rfl | rfl | rfl <;> refine ⟨⟨?_, ?_, ?_⟩, rfl⟩ <;> simp [stOf]
      obtain ⟨⟨h4, h5, h6⟩, h7⟩ := hall s' hs'
      have e1 : (s'.later ps.length).op = s'.op := rfl
      have e2 : (s'.later ps.length).text = s'.text := rfl
      rw [e1, e2, h7]
      exact ⟨h4, h5, h6, by omega⟩
  have hcost : scost (putSteps ps ++ (undoSteps p).map (SSt.later ps.length)) = ps.length + 10 := by rw [scost_app, putSteps_cost]; rfl
  obtain ⟨pre, a0, a1', a2, a3, a4, a5, a6, a7, a8, a9, hans, hpre, hU⟩ := undo_ans (text := text) (kn := kn) (n := n) (ps := ps) (p := p) (by omega)
  have hasks : ∀ wz, Asks text kn n (putSteps ps ++ (undoSteps p).map (SSt.later ps.length)) wz := fun wz =>
    ⟨fun s hs => (hops s hs).2.2.2, by rw [hcost]; omega, fun _ => ⟨I.delOk I.ordI_lin, T.delOk T.ordI_lin⟩, fun _ => ⟨I.getOk I.ordI_lin, T.getOk T.ordI_lin⟩, fun ⟨s, hs, h⟩ => absurd h (hops s hs).1, fun ⟨s, hs, h⟩ => by have := hops s hs; omega⟩
  have hbound : ∀ a ∈ ansOf text kn n (putSteps ps ++ (undoSteps p).map (SSt.later ps.length)), a.list.length ≤ 10000 := fun a ha => by
    have hle : a.list.length ≤ ps.length + 10 := by
      rw [← hcost]
      unfold ansOf at ha
      cases text
      · exact runS_list _ a ha
      · exact runS_list _ a ha
    omega
  generalize putSteps ps ++ (undoSteps p).map (SSt.later ps.length) = S at *
  obtain ⟨a7', c7, rfl, hc7, hm7, hr7, _⟩ := hR7.flat
  have b17 := k7.get b16 fun h => h
  have k17 := k16.no k7
  refine ⟨⟨_, ⟨_, _, _, b17⟩, Nat.le_refl _, hx2⟩, ?_⟩
  refine sorted_ok (text := text) (kn := kn) (n := n) n1 n2 hr7 (hasks w7) fun l8 w8 G k8 hR8 => ?_
  have k18 := k17.no k8
  generalize ansOf text kn n S = A at *
  simp [-getElem?_pos, -Array.getElem?_eq_getElem, -Int.natCast_add, add_spot, and_assoc, Br_dec, -op_box, -op_alloc_54, -op_st_54, -op_lit_32_1, -op_lit_32_10]
  refine awake_ok fun w9 k9 => ?_
  have k19 := k18.no k9
  have hR9 := hR8.still elA_ok k9
  have hAl : A.length = ps.length + 10 := by rw [hans]; simp [hpre]
  have hAg : ∀ j (hj : j < 10), A[ps.length + j]? = [a0, a1', a2, a3, a4, a5, a6, a7, a8, a9][j]? := fun j hj => by
    rw [hans, List.getElem?_append_right (by omega), hpre, Nat.add_sub_cancel_left]
  obtain ⟨u0, g, c, cs, hl8, hg1, _⟩ := hR9.get (j := ps.length) (by omega)
  have hcap : A.length ≤ c := by
    obtain ⟨a, c', e, h, _⟩ := hR9.slice
    rw [hl8] at e; cases e; exact h
  have hcell : ∀ (j : Nat) (a : SAns), [a0, a1', a2, a3, a4, a5, a6, a7, a8, a9][j]? = some a → ∃ pv, IsSl w9 pv a.list.length (a.list.flatMap SPr.cells) ∧ a.list.length ≤ 10000 ∧ cs[ps.length * 4 + j * 4]? = some (.int .i64 a.value) ∧ cs[ps.length * 4 + (j * 4 + 1)]? = some (.int .i64 a.n) ∧ cs[ps.length * 4 + (j * 4 + 2)]? = some (.bool a.ok) ∧ cs[ps.length * 4 + (j * 4 + 3)]? = some pv := fun j a hj => by
    have hj10 : j < 10 := (List.getElem?_eq_some_iff.1 hj).1
    have hA := hAg j hj10
    rw [hj] at hA
    obtain ⟨hlt, hae⟩ := List.getElem?_eq_some_iff.1 hA
    obtain ⟨u, g', c', cs', hl', hg1', hu, hg3, hg4, hg5, pv, hpv, hpr, _⟩ := hR9.get hlt
    rw [hl8] at hl'
    cases hl'
    rw [hg1] at hg1'
    cases hg1'
    rw [hae] at hpv hpr
    subst hpv
    have e : ∀ r, (ps.length + j) * 4 + r = ps.length * 4 + (j * 4 + r) := fun r => by omega
    refine ⟨pv, hpr, hbound a (List.mem_of_getElem? hA), ?_, ?_, ?_, ?_⟩
    · have := hg3 0 (by decide); rw [e] at this; exact this
    · have := hg3 1 (by decide); rw [e] at this; exact this
    · have := hg3 2 (by decide); rw [e] at this; exact this
    · have := hg3 3 (by decide); rw [e] at this; exact this
  obtain ⟨p0, s0, t0, x00, x01, x02, x03⟩ := hcell 0 _ rfl
  obtain ⟨p1, s1, t1, x10, x11, x12, x13⟩ := hcell 1 _ rfl
  obtain ⟨p2, s2, t2, x20, x21, x22, x23⟩ := hcell 2 _ rfl
  obtain ⟨p3, s3, t3, x30, x31, x32, x33⟩ := hcell 3 _ rfl
  obtain ⟨p5, s5, t5, x50, x51, x52, x53⟩ := hcell 5 _ rfl
  obtain ⟨p6, s6, t6, x60, x61, x62, x63⟩ := hcell 6 _ rfl
  obtain ⟨p7, s7, t7, x70, x71, x72, x73⟩ := hcell 7 _ rfl
  obtain ⟨p8, s8, t8, x80, x81, x82, x83⟩ := hcell 8 _ rfl
  obtain ⟨p9, s9, t9, x90, x91, x92, x93⟩ := hcell 9 _ rfl
  subst hl8
  have e10 : IntKind.i64.wrap ((ps.length : Int) + 10) = ((ps.length + 10 : Nat) : Int) := by rw [IntKind.wrap_i64]; omega
  rw [hAl] at hcap
  have hcn : ¬ c = ps.length := by omega
  rw [hAl]
  simp [-getElem?_pos, -Array.getElem?_eq_getElem, -Int.natCast_add, add_spot, and_assoc, Br_dec, -op_box, -op_alloc_54, -op_st_54, -op_lit_32_1, -op_lit_32_10, e10, op_cut_lo (P := Tryz.prog) (t := 28) (e := 56) (s := 4) (by kernel_rfl), hcn]
  have y02 : cs[ps.length * 4 + 2]? = some (.bool a0.ok) := by simpa using x02
  have y13 : cs[ps.length * 4 + 4 + 3]? = some p1 := x13
  have y21 : cs[ps.length * 4 + 8 + 1]? = some (.int .i64 a2.n) := x21
  have y71 : cs[ps.length * 4 + 28 + 1]? = some (.int .i64 a7.n) := x71
  have y31 : cs[ps.length * 4 + 12 + 1]? = some (.int .i64 a3.n) := x31
  have y53 : cs[ps.length * 4 + 20 + 3]? = some p5 := x53
  have y63 : cs[ps.length * 4 + 24 + 3]? = some p6 := x63
  have y82 : cs[ps.length * 4 + 32 + 2]? = some (.bool a8.ok) := x82
  have y80 : cs[ps.length * 4 + 32]? = some (.int .i64 a8.value) := x80
  have y93 : cs[ps.length * 4 + 36 + 3]? = some p9 := x93
  obtain ⟨aa, cc, rfl, _⟩ := id s1
  obtain ⟨J, hJ⟩ : ∃ J : World → Prop, ∀ wz, J wz ↔ Frm (fun _ => False) w9 wz := ⟨_, fun _ => Iff.rfl⟩
  have k99 : Frm (fun _ => False) w9 w9.drew.drew := (Frm.drew _).no (Frm.drew _)
  have hlow := hU.low
  have csame : ∀ {args : List Value} {wq : World} {K' : KV}, (nice Tryz.prog).call (.val (.func (.func 26) #[] #[])) args wq K' Kp = Calls Tryz.prog 26 args.toArray wq (ret K' Kp) := fun {args wq K'} => by rw [call_val (by kernel_rfl)]; simp
  simp [-getElem?_pos, -Array.getElem?_eq_getElem, -Int.natCast_add, add_spot, and_assoc, Br_dec, -op_box, -op_alloc_54, -op_st_54, -op_lit_32_1, -op_lit_32_10, hg1, y02, y13]
  refine ⟨hcap, Jn.intro J ⟨fun h0 => ?_, fun h0 => ?_, ?_⟩⟩
  · obtain ⟨u1, u2⟩ := hU.there h0
    have ew : IntKind.i64.wrap ((a1'.list.length : Int) - 1) = a2.n := by rw [u1, IntKind.wrap_i64]; omega
    simp [-getElem?_pos, -Array.getElem?_eq_getElem, -Int.natCast_add, add_spot, and_assoc, Br_dec, -op_box, -op_alloc_54, -op_st_54, -op_lit_32_1, -op_lit_32_10, hg1, y21, y71, ew, u2, h0]
    exact (hJ _).2 k99
  · obtain ⟨u1, u2, u3⟩ := hU.absent h0
    have ew : IntKind.i64.wrap ((a1'.list.length : Int) + 1) = a7.n := by rw [u2, IntKind.wrap_i64]; omega
    rw [u3] at s6
    simp [-getElem?_pos, -Array.getElem?_eq_getElem, -Int.natCast_add, add_spot, and_assoc, Br_dec, -op_box, -op_alloc_54, -op_st_54, -op_lit_32_1, -op_lit_32_10, hg1, y21, y71, y63, ew, u1, h0, csame]
    refine same_ok (s6.still k99) (s1.still k99) (by omega) fun wz kz => ?_
    simp [-getElem?_pos, -Array.getElem?_eq_getElem, -Int.natCast_add, add_spot, and_assoc, Br_dec, -op_box, -op_alloc_54, -op_st_54, -op_lit_32_1, -op_lit_32_10]
    exact (hJ _).2 (k99.no kz)
  · intro wz hz
    have kz := (hJ _).1 hz
    have hgz := kz.get hg1 fun h => h
    have ew : IntKind.i64.wrap (a2.n + 1) = a3.n := by
      have := hU.grow
      have hb : a2.n ≤ 20000 := by
        cases h0 : a0.ok with
        | true => have := (hU.there h0).1; omega
        | false => have := (hU.absent h0).1; omega
      rw [this, IntKind.wrap_i64]; omega
    have kzd := kz.no (Frm.drew wz)
    have hb5 := hU.back
    rw [hb5] at s5
    simp [-getElem?_pos, -Array.getElem?_eq_getElem, -Int.natCast_add, add_spot, and_assoc, Br_dec, -op_box, -op_alloc_54, -op_st_54, -op_lit_32_1, -op_lit_32_10, hgz, y31, y21, ew, y53, y63, csame]
    refine same_ok (s5.still kzd) (s6.still kzd) (by omega) fun wy ky => ?_
    have hgy := ky.get (kzd.get hg1 fun h => h) fun h => h
    have k9y := kzd.no ky
    have k0y := k19.no k9y
    obtain ⟨v1, v2⟩ := hU.found
    have hby := (((m9.no k6).no k7).no ((k8.no k9).no k9y)).get b25' fun h => h
    have hst := hU.still
    rw [hst] at s9
    simp [-getElem?_pos, -Array.getElem?_eq_getElem, -Int.natCast_add, add_spot, and_assoc, Br_dec, -op_box, -op_alloc_54, -op_st_54, -op_lit_32_1, -op_lit_32_10, hgy, y82, v1, y80, v2, hby, y93, y13, csame]
    refine same_ok (s9.still k9y) (s1.still k9y) (by omega) fun wx kx => ?_
    exact hK wx (k0y.no kx)
end Go.Proofs.YtodjijfblgnfmaaGreatDoor
end
