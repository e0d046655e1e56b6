import Derived.Test.YtodjijfblgnfmaaGreatDoorX4
import Derived.Test.YtodjijfblgnfmaaGreatDoorX2
import Derived.Test.YtodjijfblgnfmaaGreatDoorX0
import Derived.Test.YtodjijfblgnfmaaGreatDoorX3
set_option linter.unusedSimpArgs false
set_option linter.unusedVariables false
set_option linter.unusedSectionVars false
set_option maxRecDepth 100000
set_option maxHeartbeats 4000000
section
namespace Go.Proofs.YtodjijfblgnfmaaGreatDoor.I
open Go.Vc Go.Proofs Go.Proofs.YtodjijfblgnfmaaGreatDoor Go.Vc.Bt
variable {w w' : World} {cv : Value} {t : Tr} {K : KV} {Kp : KP} {lt : Ky → Ky → Bool} {k : Ky} {rb n : Nat} {b h : Nat} {r : Root Ky Vl} {F : Foot}
theorem mapDelM_ok (hl : Lin lt) (hm : RepMC w b lt r F) (hok : Ok lt n r) (hn : (rL r).length < 2 ^ 60)
    (hK : ∀ w' F', CFrm (fun y j => F y j ∨ y = b) w w' → RepMC w' b lt (delR lt r k) F' → (∀ y j, F' y j → F y j) → K (ptr b) w') : Calls Tryz.prog 147 #[ptr b, ek k, .bool true] w (ret K Kp) := by
  refine vc147_calls ?_
  delta vc147
  have hm0 := hm
  obtain ⟨rv, cv, h1, h2, h3⟩ := hm
  have hbF := h2.not h1 (by decide)
  match r, h2, h3, hok with
  | none, h2, h3, _ =>
    obtain ⟨rfl, hF⟩ : rv = .nilIface ∧ F = fun _ _ => False := h2
    simp [-getElem?_pos, -Array.getElem?_eq_getElem, -Int.natCast_add, ptr, h1]
    exact hK w F CFrm.refl hm0 fun _ _ h => h
  | some (h, t), h2, h3, hok =>
    have hC : IsC cv lt := h3.resolve_right fun h => nomatch h.2.2
    obtain ⟨o1, o2, o3, o4⟩ := hok
    have hr : RepC w h t rv F := h2
    obtain ⟨u, p, rfl⟩ := hr.rep.iface
    have hcv := CmpOk.one h3
    simp [-getElem?_pos, -Array.getElem?_eq_getElem, -Int.natCast_add, ptr, h1]
    refine op_alloc_ok (z := .bool false) (by kernel_rfl) fun w1 k1 z1 b1 => ?_
    have a1 := k1.get h1 fun h => h
    have hlb := lt_of_get h1
    simp [-getElem?_pos, -Array.getElem?_eq_getElem, -Int.natCast_add, a1]
    have k1d := k1.no (Frm.drew w1)
    have hlow := hr.low
    refine delM_ok (rb := w.heap.size) hC (hr.still k1d) o1 o2 (by simpa [flag, Value.cells] using b1) (fun w2 k2 hh => ?_) fun w2 v2 F2 k2 hh fl2 hr2 hsub => ?_
    · have f2 := k1d.no k2
      have fl2' : w2.heap[w.heap.size]? = some (.cells #[.bool false] 4 (0, 0)) := k2.get (show w1.drew.heap[w.heap.size]? = _ from by simpa [Value.cells] using b1) fun h => h
      simp [-getElem?_pos, -Array.getElem?_eq_getElem, -Int.natCast_add, fl2']
      have e : delR lt (some (h, t)) k = some (h, t) := by rw [delR, delT_absent hl h t k o1 o2 hh]; rfl
      refine hK w2 F (CFrm.of f2) (by rw [e]; exact hm0.cframe (M := fun _ _ => False) (CFrm.of f2) (fun _ _ _ h => h) fun _ h => h) fun _ _ h => h
    · have fl2' : w2.heap[w.heap.size]? = some (.cells #[.bool true] 4 (0, 0)) := fl2
      have c2 : CFrm (fun y j => F y j ∨ y = b) w w2 := ((CFrm.of (M := F) k1d).old k2 fun y j hy => hy.imp id fun e => by omega).mono fun _ _ h _ => .inl h
      have a2 : w2.heap[b]? = _ := k2.get (show w1.drew.heap[b]? = _ from a1) fun j hj => hj.elim (hbF j) fun e => by omega
      have hd : RepRC w2 (delR lt (some (h, t)) k) v2 F2 := by
        rw [delR]
        cases hdd : delT lt h t k with
        | none => rw [hdd] at hr2; exact hr2
        | some s => rw [hdd] at hr2; exact hr2
      have hlen : (rL (delR lt (some (h, t)) k)).length = (rL (some (h, t))).length - 1 := by
        have hs := (delR_spec hl (n := n) (r := some (h, t)) ⟨o1, o2, o3, o4⟩ k).1
        rw [hs]
        have hh' : has lt (rL (some (h, t))) k = true := hh
        unfold rem
        rw [if_pos hh', List.length_eraseIdx, if_pos (has_lt hh')]
      have hpos : 0 < (rL (some (h, t))).length := by
        have := has_lt (show has lt (rL (some (h, t))) k = true from hh); omega
      have hbF2 := hd.not a2 (by decide)
      simp [-getElem?_pos, -Array.getElem?_eq_getElem, -Int.natCast_add, fl2', a2]
      refine op_store_ok (by kernel_rfl) a2 (by simp) rfl fun w4 k4 z4 b4 => ?_
      have b4 : w4.heap[b]? = some (.cells #[.int .i64 ((rL (some (h, t))).length - 1 : Nat), .iface u p, cv] 210 (0, 0)) := by
        rw [show IntKind.i64.wrap (((rL (some (h, t))).length : Int) - 1) = (((rL (some (h, t))).length - 1 : Nat) : Int) from by rw [IntKind.wrap_i64]; omega] at b4
        simpa using b4
      refine op_store_ok (by kernel_rfl) b4 (by simp) hd.rep.one fun w5 k5 z5 b5 => ?_
      have b5 : w5.heap[b]? = some (.cells #[.int .i64 ((rL (some (h, t))).length - 1 : Nat), v2, cv] 210 (0, 0)) := by simpa using b5
      have c25 : CFrm (fun y _ => y = b) w2 w5 := (cell_frm k4 a2 b4 rfl).trans (cell_frm k5 b4 b5 rfl) fun _ _ h _ => h
      refine hK w5 F2 (c2.trans c25 fun _ _ h _ => .inr h) ⟨v2, cv, by rw [hlen]; exact b5, hd.cframe c25 fun y j hy e => hbF2 j (by rw [← e]; exact hy), .inl hC⟩ hsub
end Go.Proofs.YtodjijfblgnfmaaGreatDoor.I
end
section
namespace Go.Proofs.YtodjijfblgnfmaaGreatDoor
open Go.Vc Go.Proofs
variable {w : World} {K : KV} {Kp : KP} {K1 : Value → Prop}
@[simp] theorem op_len_76 {a : Option Addr} {n c ty : Nat} : nP.op (.blt .len [76] ty [.slice a n c]) w K Kp = K (.int .i64 n) w := op_len_slice (by kernel_rfl)
@[simp] theorem pur_len_76 {a : Option Addr} {n c ty : Nat} : nP.pur (.blt .len [76] ty [.slice a n c]) K1 = K1 (.int .i64 n) := pur_len_slice (by kernel_rfl)
@[simp] theorem ld_len_76 {a : Option Addr} {n c ty : Nat} : nP.ld (.blt .len [76] ty [.slice a n c]) w K1 = K1 (.int .i64 n) := ld_len_slice (by kernel_rfl)
@[simp] theorem same_len_76 {a : Option Addr} {n c ty : Nat} {u : Value} : nP.same (.blt .len [76] ty [.slice a n c]) u w = (.int .i64 n = u) := same_len_slice (by kernel_rfl)
@[simp] theorem op_len_74 {a : Option Addr} {n c ty : Nat} : nP.op (.blt .len [74] ty [.slice a n c]) w K Kp = K (.int .i64 n) w := op_len_slice (by kernel_rfl)
@[simp] theorem pur_len_74 {a : Option Addr} {n c ty : Nat} : nP.pur (.blt .len [74] ty [.slice a n c]) K1 = K1 (.int .i64 n) := pur_len_slice (by kernel_rfl)
@[simp] theorem ld_len_74 {a : Option Addr} {n c ty : Nat} : nP.ld (.blt .len [74] ty [.slice a n c]) w K1 = K1 (.int .i64 n) := ld_len_slice (by kernel_rfl)
@[simp] theorem same_len_74 {a : Option Addr} {n c ty : Nat} {u : Value} : nP.same (.blt .len [74] ty [.slice a n c]) u w = (.int .i64 n = u) := same_len_slice (by kernel_rfl)
@[simp] theorem op_len_182 {a : Option Addr} {n c ty : Nat} : nP.op (.blt .len [182] ty [.slice a n c]) w K Kp = K (.int .i64 n) w := op_len_slice (by kernel_rfl)
@[simp] theorem pur_len_182 {a : Option Addr} {n c ty : Nat} : nP.pur (.blt .len [182] ty [.slice a n c]) K1 = K1 (.int .i64 n) := pur_len_slice (by kernel_rfl)
@[simp] theorem ld_len_182 {a : Option Addr} {n c ty : Nat} : nP.ld (.blt .len [182] ty [.slice a n c]) w K1 = K1 (.int .i64 n) := ld_len_slice (by kernel_rfl)
@[simp] theorem same_len_182 {a : Option Addr} {n c ty : Nat} {u : Value} : nP.same (.blt .len [182] ty [.slice a n c]) u w = (.int .i64 n = u) := same_len_slice (by kernel_rfl)
@[simp] theorem op_eql_312_y {xc yc : Bool} {u : TypeId} {v : Value} : nP.op (.bin BinOp.eql 312 xc yc (.iface u v) .nilIface) w K Kp = K (.bool false) w := op_eq_iface (by kernel_rfl) rfl
@[simp] theorem op_eql_312_n {xc : Bool} : nP.op (.bin BinOp.eql 312 xc true .nilIface .nilIface) w K Kp = K (.bool true) w := op_eq_niface (by kernel_rfl) rfl
@[simp] theorem pur_eql_312_y {xc yc : Bool} {u : TypeId} {v : Value} : nP.pur (.bin BinOp.eql 312 xc yc (.iface u v) .nilIface) K1 = K1 (.bool false) := pur_eq_iface (by kernel_rfl) rfl
@[simp] theorem pur_eql_312_n {xc : Bool} : nP.pur (.bin BinOp.eql 312 xc true .nilIface .nilIface) K1 = K1 (.bool true) := pur_eq_niface (by kernel_rfl) rfl
@[simp] theorem op_len_169 {a : Option Addr} {n c ty : Nat} : nP.op (.blt .len [169] ty [.slice a n c]) w K Kp = K (.int .i64 n) w := op_len_slice (by kernel_rfl)
@[simp] theorem pur_len_169 {a : Option Addr} {n c ty : Nat} : nP.pur (.blt .len [169] ty [.slice a n c]) K1 = K1 (.int .i64 n) := pur_len_slice (by kernel_rfl)
@[simp] theorem ld_len_169 {a : Option Addr} {n c ty : Nat} : nP.ld (.blt .len [169] ty [.slice a n c]) w K1 = K1 (.int .i64 n) := ld_len_slice (by kernel_rfl)
@[simp] theorem same_len_169 {a : Option Addr} {n c ty : Nat} {u : Value} : nP.same (.blt .len [169] ty [.slice a n c]) u w = (.int .i64 n = u) := same_len_slice (by kernel_rfl)
@[simp] theorem op_eql_288_y {xc yc : Bool} {u : TypeId} {v : Value} : nP.op (.bin BinOp.eql 288 xc yc (.iface u v) .nilIface) w K Kp = K (.bool false) w := op_eq_iface (by kernel_rfl) rfl
@[simp] theorem op_eql_288_n {xc : Bool} : nP.op (.bin BinOp.eql 288 xc true .nilIface .nilIface) w K Kp = K (.bool true) w := op_eq_niface (by kernel_rfl) rfl
@[simp] theorem pur_eql_288_y {xc yc : Bool} {u : TypeId} {v : Value} : nP.pur (.bin BinOp.eql 288 xc yc (.iface u v) .nilIface) K1 = K1 (.bool false) := pur_eq_iface (by kernel_rfl) rfl
@[simp] theorem pur_eql_288_n {xc : Bool} : nP.pur (.bin BinOp.eql 288 xc true .nilIface .nilIface) K1 = K1 (.bool true) := pur_eq_niface (by kernel_rfl) rfl
end Go.Proofs.YtodjijfblgnfmaaGreatDoor
end
section
namespace Go.Proofs.YtodjijfblgnfmaaGreatDoor
open Go.Vc Go.Proofs
variable {w : World} {K : KV} {Kp : KP} {K1 : Value → Prop}
end Go.Proofs.YtodjijfblgnfmaaGreatDoor
end
section
namespace Go.Proofs.YtodjijfblgnfmaaGreatDoor
open Go.Vc Go.Proofs
variable {w : World} {K : KV} {Kp : KP} {K1 : Value → Prop}
@[simp] theorem op_ld_68 {p : Addr} : nP.op (.load 68 (.pointer (some p))) w K Kp = ∃ cs e fz, w.heap[p.block]? = some (.cells cs e fz) ∧ p.spot = none ∧ ∃ v, cs[p.off]? = some v ∧ K v w := op_ld (by kernel_rfl)
@[simp] theorem ld_ld_68 {p : Addr} : nP.ld (.load 68 (.pointer (some p))) w K1 = ∃ cs e fz, w.heap[p.block]? = some (.cells cs e fz) ∧ p.spot = none ∧ ∃ v, cs[p.off]? = some v ∧ K1 v := ld_ld (by kernel_rfl)
@[simp] theorem same_ld_68 {p : Addr} {v : Value} : nP.same (.load 68 (.pointer (some p))) v w = ∃ cs e fz, w.heap[p.block]? = some (.cells cs e fz) ∧ p.spot = none ∧ cs[p.off]? = some v := same_ld (by kernel_rfl)
@[simp] theorem call_54 {args : List Value} : nP.call (.fn 54) args w K Kp = Calls Tryz.prog 54 args.toArray w (ret K Kp) := call_fn (by kernel_rfl)
@[simp] theorem call_55 {args : List Value} : nP.call (.fn 55) args w K Kp = Calls Tryz.prog 55 args.toArray w (ret K Kp) := call_fn (by kernel_rfl)
theorem build_45_0_1_2 {x0 : Value} {x1 : Value} {x2 : Value} (h0 : x0.oneCell' = true) (h1 : x1.oneCell' = true) (h2 : x2.oneCell' = true) : buildV Tryz.prog 45 [(0, x0), (1, x1), (2, x2)] = some (.agg (#[x0, x1, x2])) := by
  have e : buildV Tryz.prog 45 [(0, x0), (1, x1), (2, x2)] = (Instr.fill ((#[(0, 1), (1, 1), (2, 1)] : Array (Nat × Nat))[·]?) (#[Value.int IntKind.i64 0, Value.string ByteArray.empty, Value.int IntKind.i64 0]) [(0, x0), (1, x1), (2, x2)]).map .agg := by kernel_rfl
  rw [e]; simp [Instr.fill, cells_of_one h0, cells_of_one h1, cells_of_one h2]
@[simp] theorem op_build_45_0_1_2 {x0 : Value} {x1 : Value} {x2 : Value} (h0 : x0.oneCell' = true) (h1 : x1.oneCell' = true) (h2 : x2.oneCell' = true) : nP.op (.build 45 [(0, x0), (1, x1), (2, x2)]) w K Kp = K (.agg (#[x0, x1, x2])) w := op_build (build_45_0_1_2 h0 h1 h2)
@[simp] theorem pur_build_45_0_1_2 {x0 : Value} {x1 : Value} {x2 : Value} (h0 : x0.oneCell' = true) (h1 : x1.oneCell' = true) (h2 : x2.oneCell' = true) : nP.pur (.build 45 [(0, x0), (1, x1), (2, x2)]) K1 = K1 (.agg (#[x0, x1, x2])) := pur_build (build_45_0_1_2 h0 h1 h2)
@[simp] theorem call_30 {args : List Value} : nP.call (.fn 30) args w K Kp = Calls Tryz.prog 30 args.toArray w (ret K Kp) := call_fn (by kernel_rfl)
@[simp] theorem call_31 {args : List Value} : nP.call (.fn 31) args w K Kp = Calls Tryz.prog 31 args.toArray w (ret K Kp) := call_fn (by kernel_rfl)
@[simp] theorem op_len_68 {a : Option Addr} {n c ty : Nat} : nP.op (.blt .len [68] ty [.slice a n c]) w K Kp = K (.int .i64 n) w := op_len_slice (by kernel_rfl)
@[simp] theorem pur_len_68 {a : Option Addr} {n c ty : Nat} : nP.pur (.blt .len [68] ty [.slice a n c]) K1 = K1 (.int .i64 n) := pur_len_slice (by kernel_rfl)
@[simp] theorem ld_len_68 {a : Option Addr} {n c ty : Nat} : nP.ld (.blt .len [68] ty [.slice a n c]) w K1 = K1 (.int .i64 n) := ld_len_slice (by kernel_rfl)
@[simp] theorem same_len_68 {a : Option Addr} {n c ty : Nat} {u : Value} : nP.same (.blt .len [68] ty [.slice a n c]) u w = (.int .i64 n = u) := same_len_slice (by kernel_rfl)
@[simp] theorem op_ix_68 {p : Addr} {len cap : Nat} {k : IntKind} {j : Int} : nP.op (.indexAddr 68 (.slice (some p) len cap) (.int k j)) w K Kp = ((0 ≤ j ∧ j < (len : Int)) ∧ K (.pointer (some (p.add (j.toNat * 1)))) w) := op_ix_slice (e := 46) (by kernel_rfl)
@[simp] theorem pur_ix_68 {p : Addr} {len cap : Nat} {k : IntKind} {j : Int} : nP.pur (.indexAddr 68 (.slice (some p) len cap) (.int k j)) K1 = ((0 ≤ j ∧ j < (len : Int)) ∧ K1 (.pointer (some (p.add (j.toNat * 1))))) := pur_ix_slice (e := 46) (by kernel_rfl)
@[simp] theorem call_102 {args : List Value} : nP.call (.fn 102) args w K Kp = Calls Tryz.prog 102 args.toArray w (ret K Kp) := call_fn (by kernel_rfl)
@[simp] theorem call_103 {args : List Value} : nP.call (.fn 103) args w K Kp = Calls Tryz.prog 103 args.toArray w (ret K Kp) := call_fn (by kernel_rfl)
@[simp] theorem call_104 {args : List Value} : nP.call (.fn 104) args w K Kp = Calls Tryz.prog 104 args.toArray w (ret K Kp) := call_fn (by kernel_rfl)
@[simp] theorem call_105 {args : List Value} : nP.call (.fn 105) args w K Kp = Calls Tryz.prog 105 args.toArray w (ret K Kp) := call_fn (by kernel_rfl)
@[simp] theorem call_106 {args : List Value} : nP.call (.fn 106) args w K Kp = Calls Tryz.prog 106 args.toArray w (ret K Kp) := call_fn (by kernel_rfl)
@[simp] theorem call_107 {args : List Value} : nP.call (.fn 107) args w K Kp = Calls Tryz.prog 107 args.toArray w (ret K Kp) := call_fn (by kernel_rfl)
@[simp] theorem call_108 {args : List Value} : nP.call (.fn 108) args w K Kp = Calls Tryz.prog 108 args.toArray w (ret K Kp) := call_fn (by kernel_rfl)
theorem lit_68_1 {x0 : Value} (h0 : x0.oneCell' = true) : sliceLit Tryz.prog 68 1 [(0, x0)] = some (46, #[x0]) := by
  have e : sliceLit Tryz.prog 68 1 [(0, x0)] = (Instr.fill (fun i => some (i * 1, 1)) (#[Value.slice none 0 0]) [(0, x0)]).map fun cs => (46, cs) := by kernel_rfl
  rw [e]; simp [Instr.fill, cells_of_one h0]
theorem build_233_0 {x0 : Value} (h0 : x0.oneCell' = true) : buildV Tryz.prog 233 [(0, x0)] = some (.agg (#[x0])) := by
  have e : buildV Tryz.prog 233 [(0, x0)] = (Instr.fill ((#[(0, 1)] : Array (Nat × Nat))[·]?) (#[Value.pointer none]) [(0, x0)]).map .agg := by kernel_rfl
  rw [e]; simp [Instr.fill, cells_of_one h0]
@[simp] theorem op_build_233_0 {x0 : Value} (h0 : x0.oneCell' = true) : nP.op (.build 233 [(0, x0)]) w K Kp = K (.agg (#[x0])) w := op_build (build_233_0 h0)
@[simp] theorem pur_build_233_0 {x0 : Value} (h0 : x0.oneCell' = true) : nP.pur (.build 233 [(0, x0)]) K1 = K1 (.agg (#[x0])) := pur_build (build_233_0 h0)
@[simp] theorem op_fa_233_0 {p : Addr} : nP.op (.fieldAddr 233 (.pointer (some p)) 0) w K Kp = K (.pointer (some (p.add 0))) w := op_fa (k := .one) (by kernel_rfl)
@[simp] theorem pur_fa_233_0 {p : Addr} : nP.pur (.fieldAddr 233 (.pointer (some p)) 0) K1 = K1 (.pointer (some (p.add 0))) := pur_fa (k := .one) (by kernel_rfl)
@[simp] theorem op_neq_135 {xc yc : Bool} {a : Option Addr} : nP.op (.bin BinOp.neq 135 xc yc (.pointer a) (.pointer none)) w K Kp = K (.bool (!(a.isNone))) w := op_eq_ptr (by kernel_rfl) rfl
@[simp] theorem pur_neq_135 {xc yc : Bool} {a : Option Addr} : nP.pur (.bin BinOp.neq 135 xc yc (.pointer a) (.pointer none)) K1 = K1 (.bool (!(a.isNone))) := pur_eq_ptr (by kernel_rfl) rfl
@[simp] theorem call_150 {args : List Value} : nP.call (.fn 150) args w K Kp = Calls Tryz.prog 150 args.toArray w (ret K Kp) := call_fn (by kernel_rfl)
@[simp] theorem call_95 {args : List Value} : nP.call (.fn 95) args w K Kp = Calls Tryz.prog 95 args.toArray w (ret K Kp) := call_fn (by kernel_rfl)
@[simp] theorem call_96 {args : List Value} : nP.call (.fn 96) args w K Kp = Calls Tryz.prog 96 args.toArray w (ret K Kp) := call_fn (by kernel_rfl)
@[simp] theorem call_97 {args : List Value} : nP.call (.fn 97) args w K Kp = Calls Tryz.prog 97 args.toArray w (ret K Kp) := call_fn (by kernel_rfl)
@[simp] theorem call_98 {args : List Value} : nP.call (.fn 98) args w K Kp = Calls Tryz.prog 98 args.toArray w (ret K Kp) := call_fn (by kernel_rfl)
@[simp] theorem call_99 {args : List Value} : nP.call (.fn 99) args w K Kp = Calls Tryz.prog 99 args.toArray w (ret K Kp) := call_fn (by kernel_rfl)
@[simp] theorem call_100 {args : List Value} : nP.call (.fn 100) args w K Kp = Calls Tryz.prog 100 args.toArray w (ret K Kp) := call_fn (by kernel_rfl)
@[simp] theorem call_101 {args : List Value} : nP.call (.fn 101) args w K Kp = Calls Tryz.prog 101 args.toArray w (ret K Kp) := call_fn (by kernel_rfl)
theorem build_230_0 {x0 : Value} (h0 : x0.oneCell' = true) : buildV Tryz.prog 230 [(0, x0)] = some (.agg (#[x0])) := by
  have e : buildV Tryz.prog 230 [(0, x0)] = (Instr.fill ((#[(0, 1)] : Array (Nat × Nat))[·]?) (#[Value.pointer none]) [(0, x0)]).map .agg := by kernel_rfl
  rw [e]; simp [Instr.fill, cells_of_one h0]
@[simp] theorem op_build_230_0 {x0 : Value} (h0 : x0.oneCell' = true) : nP.op (.build 230 [(0, x0)]) w K Kp = K (.agg (#[x0])) w := op_build (build_230_0 h0)
@[simp] theorem pur_build_230_0 {x0 : Value} (h0 : x0.oneCell' = true) : nP.pur (.build 230 [(0, x0)]) K1 = K1 (.agg (#[x0])) := pur_build (build_230_0 h0)
@[simp] theorem op_fa_230_0 {p : Addr} : nP.op (.fieldAddr 230 (.pointer (some p)) 0) w K Kp = K (.pointer (some (p.add 0))) w := op_fa (k := .one) (by kernel_rfl)
@[simp] theorem pur_fa_230_0 {p : Addr} : nP.pur (.fieldAddr 230 (.pointer (some p)) 0) K1 = K1 (.pointer (some (p.add 0))) := pur_fa (k := .one) (by kernel_rfl)
@[simp] theorem op_neq_118 {xc yc : Bool} {a : Option Addr} : nP.op (.bin BinOp.neq 118 xc yc (.pointer a) (.pointer none)) w K Kp = K (.bool (!(a.isNone))) w := op_eq_ptr (by kernel_rfl) rfl
@[simp] theorem pur_neq_118 {xc yc : Bool} {a : Option Addr} : nP.pur (.bin BinOp.neq 118 xc yc (.pointer a) (.pointer none)) K1 = K1 (.bool (!(a.isNone))) := pur_eq_ptr (by kernel_rfl) rfl
end Go.Proofs.YtodjijfblgnfmaaGreatDoor
end
section
namespace Go.Proofs.YtodjijfblgnfmaaGreatDoor
open Go.Vc Go.Proofs
variable {S : Sig} {a0 a1 a2 a3 a4 a5 a6 a7 a8 a9 : Value} {w : World} {K : KV} {Kp : KP}
private theorem follows_BVcDI : Tryz.prog.follows .mixedOrders = true := by kernel_rfl
def vc55 (S : Sig) (a0 a1 a2 : Value) (w : World) (K : KV) (Kp : KP) : Prop :=
 S.op (.box 98 a0) w (fun v3 w =>
 S.call (.fn 102) [a1] w (fun v16 w =>
 S.op (.blt .len [32] 3 [a2]) w (fun v18 w =>
 Lp fun (I4 : Value → Value → KV) (μ4 : Value → Value → Value → World → Nat) => I4 (.slice none 0 0) (.slice none 0 0) (.int .i64 0) w ∧
 ∀ (wl4 : World) (_ : Nat → Value) (s6 : Value) (s9 : Value) (s19 : Value), I4 s6 s9 s19 wl4 →
 S.op (.bin .lss 3 false false s19 v18) wl4 (fun v20 w =>
 Br v20 (
 S.op (.indexAddr 32 a2 s19) w (fun v21 w =>
 S.op (.load 54 v21) w (fun v22 w =>
 S.op (.alloc 54) w (fun v11 w =>
 S.op (.store 54 v11 v22) w (fun _ w =>
 S.op (.alloc 56) w (fun v12 w =>
 Jn fun (J20 : KV) =>
 (S.op (.fieldAddr 54 v11 0) w (fun v23 w =>
 S.op (.load 5 v23) w (fun v24 w =>
 S.op (.bin .eql 5 false true v24 (.int .u8 0)) w (fun v26 w =>
 Br v26 (
 S.pur (.fieldAddr 98 v3 0) (fun v28 =>
 S.ld (.load 94 v28) w.drew (fun v29 =>
 S.pur (.fieldAddr 54 v11 2) (fun v30 =>
 S.ld (.load 2 v30) w.drew (fun v31 =>
 S.pur (.fieldAddr 54 v11 3) (fun v32 =>
 S.ld (.load 9 v32) w.drew (fun v33 =>
 S.pur (.fieldAddr 54 v11 4) (fun v35 =>
 S.ld (.load 2 v35) w.drew (fun v36 =>
 S.call (.val v29) [v31, v33] w.drew (fun v34 w =>
 S.same (.load 2 v35) v36 w ∧
 S.call (.fn 103) [v16, v34, v36] w (fun v37 w =>
 J20 s9 w) Kp) Kp))))))))) (
 S.op (.bin .eql 5 false true v24 (.int .u8 1)) w (fun v39 w =>
 Br v39 (
 S.op (.fieldAddr 98 v3 0) w (fun v41 w =>
 S.op (.load 94 v41) w (fun v42 w =>
 S.op (.fieldAddr 54 v11 2) w (fun v43 w =>
 S.op (.load 2 v43) w (fun v44 w =>
 S.op (.fieldAddr 54 v11 3) w (fun v45 w =>
 S.op (.load 9 v45) w (fun v46 w =>
 S.call (.val v42) [v44, v46] w (fun v47 w =>
 S.call (.fn 104) [v16, v47] w (fun v48 w =>
 J20 s9 w) Kp) Kp) Kp) Kp) Kp) Kp) Kp) Kp) (
 S.op (.bin .eql 5 false true v24 (.int .u8 2)) w (fun v50 w =>
 Br v50 (
 S.op (.fieldAddr 98 v3 0) w (fun v53 w =>
 S.op (.load 94 v53) w (fun v54 w =>
 S.op (.fieldAddr 54 v11 2) w (fun v55 w =>
 S.op (.load 2 v55) w (fun v56 w =>
 S.op (.fieldAddr 54 v11 3) w (fun v57 w =>
 S.op (.load 9 v57) w (fun v58 w =>
 S.call (.val v54) [v56, v58] w (fun v59 w =>
 S.call (.fn 105) [v16, v59] w (fun v60 w =>
 S.op (.extract v60 0) w (fun v61 w =>
 S.op (.extract v60 1) w (fun v62 w =>
 S.op (.fieldAddr 56 v12 0) w (fun v63 w =>
 S.op (.store 2 v63 v61) w (fun _ w =>
 S.op (.fieldAddr 56 v12 2) w (fun v64 w =>
 S.op (.store 4 v64 v62) w (fun _ w =>
 J20 s9 w) Kp) Kp) Kp) Kp) Kp) Kp) Kp) Kp) Kp) Kp) Kp) Kp) Kp) Kp) (
 S.op (.bin .eql 5 false true v24 (.int .u8 3)) w (fun v66 w =>
 Br v66 (
 S.call (.fn 106) [v16] w (fun v68 w =>
 S.op (.fieldAddr 56 v12 1) w (fun v69 w =>
 S.op (.store 3 v69 v68) w (fun _ w =>
 J20 s9 w) Kp) Kp) Kp) (
 S.op (.bin .eql 5 false true v24 (.int .u8 4)) w (fun v71 w =>
 Br v71 (
 S.call (.fn 107) [v16] w (fun v74 w =>
 S.op (.buildSlice 137 1 [(0, v74)]) w (fun v75 w =>
 S.op (.blt .append [137, 137] 137 [s9, v75]) w (fun v76 w =>
 J20 v76 w) Kp) Kp) Kp) (
 S.op (.bin .eql 5 false true v24 (.int .u8 5)) w (fun v78 w =>
 Br v78 (
 S.ld (.load 98 v3) w.drew (fun v79 =>
 S.call (.fn 108) [v16] w.drew (fun v81 w =>
 S.same (.load 98 v3) v79 w ∧
 S.call (.fn 83) [v79, v81] w (fun v82 w =>
 S.pur (.fieldAddr 56 v12 3) (fun v83 =>
 S.op (.store 46 v83 v82) w (fun _ w =>
 J20 s9 w) Kp)) Kp) Kp)) (
 J20 s9 w)) Kp)) Kp)) Kp)) Kp)) Kp)) Kp) Kp) Kp) ∧
 (∀ (w : World) (_ : Nat → Value) (j9 : Value), J20 j9 w →
 S.op (.load 56 v12) w (fun v85 w =>
 S.op (.buildSlice 28 1 [(0, v85)]) w (fun v86 w =>
 S.op (.blt .append [28, 28] 28 [s6, v86]) w (fun v87 w =>
 S.op (.bin .add 3 false true s19 (.int .i64 1)) w (fun v88 w =>
 I4 v87 j9 v88 w ∧ μ4 v87 j9 v88 w < μ4 s6 s9 s19 wl4) Kp) Kp) Kp) Kp)) Kp) Kp) Kp) Kp) Kp) (
 S.op (.blt .len [137] 3 [s9]) w (fun v90 w =>
 Lp fun (I23 : Value → KV) (μ23 : Value → Value → World → Nat) => I23 (.slice none 0 0) (.int .i64 0) w ∧
 ∀ (wl23 : World) (_ : Nat → Value) (s7 : Value) (s91 : Value), I23 s7 s91 wl23 →
 S.op (.bin .lss 3 false false s91 v90) wl23 (fun v92 w =>
 Br v92 (
 S.op (.indexAddr 137 s9 s91) w (fun v93 w =>
 S.op (.load 135 v93) w (fun v94 w =>
 S.ld (.load 98 v3) w.drew (fun v96 =>
 S.call (.fn 84) [v94] w.drew (fun v98 w =>
 S.same (.load 98 v3) v96 w ∧
 S.call (.fn 83) [v96, v98] w (fun v99 w =>
 S.op (.buildSlice 68 1 [(0, v99)]) w (fun v100 w =>
 S.op (.blt .append [68, 68] 68 [s7, v100]) w (fun v101 w =>
 S.op (.bin .add 3 false true s91 (.int .i64 1)) w (fun v102 w =>
 I23 v101 v102 w ∧ μ23 v101 v102 w < μ23 s7 s91 wl23) Kp) Kp) Kp) Kp) Kp)) Kp) Kp) (
 K (.tuple #[s6, s7]) w)) Kp) Kp)) Kp) Kp) Kp) Kp
theorem vc55_eq : vc55 S a0 a1 a2 w K Kp = fVC S [(4, [6, 9, 19]), (23, [7, 91])] [(20, [9])] Tryz.f55 [a0, a1, a2] w K Kp := by kernel_rfl
theorem vc55_calls (h : vc55 nP a0 a1 a2 w K Kp) : Calls Tryz.prog 55 #[a0, a1, a2] w (ret K Kp) :=
 fVC_sound (args := [a0, a1, a2]) nice_le follows_BVcDI Tryz.func55 (by kernel_rfl) (Eq.mp vc55_eq h)
def vc102 (S : Sig) (a0 : Value) (w : World) (K : KV) (Kp : KP) : Prop :=
 S.call (.fn 79) [a0] w (fun v4 w =>
 S.op (.build 233 [(0, v4)]) w (fun v5 w =>
 S.op (.box 233 v5) w (fun v6 w =>
 K v6 w) Kp) Kp) Kp
theorem vc102_eq : vc102 S a0 w K Kp = fVC S [] [] Tryz.f102 [a0] w K Kp := by kernel_rfl
theorem vc102_calls (h : vc102 nP a0 w K Kp) : Calls Tryz.prog 102 #[a0] w (ret K Kp) :=
 fVC_sound (args := [a0]) nice_le follows_BVcDI Tryz.func102 (by kernel_rfl) (Eq.mp vc102_eq h)
def vc103 (S : Sig) (a0 a1 a2 : Value) (w : World) (K : KV) (Kp : KP) : Prop :=
 S.op (.nilCheck a0) w (fun v7 w =>
 S.op (.fieldAddr 233 v7 0) w (fun v8 w =>
 S.op (.load 135 v8) w (fun v9 w =>
 S.op (.bin .neq 135 false true v9 (.pointer none)) w (fun v10 w =>
 S.call (.fn 150) [v10, (.string { data := #[105, 109, 109, 117, 116, 97, 98, 108, 101, 46, 83, 111, 114, 116, 101, 100, 77, 97, 112, 66, 117, 105, 108, 100, 101, 114, 58, 32, 98, 117, 105, 108, 100, 101, 114, 32, 105, 110, 118, 97, 108, 105, 100, 32, 97, 102, 116, 101, 114, 32, 77, 97, 112, 40, 41, 32, 105, 110, 118, 111, 99, 97, 116, 105, 111, 110] })] w (fun v11 w =>
 S.op (.nilCheck a0) w (fun v14 w =>
 S.op (.fieldAddr 233 v14 0) w (fun v15 w =>
 S.op (.load 135 v15) w (fun v16 w =>
 S.call (.fn 146) [v16, a1, a2, (.bool true)] w (fun v19 w =>
 S.op (.nilCheck a0) w (fun v20 w =>
 S.op (.fieldAddr 233 v20 0) w (fun v21 w =>
 S.op (.store 135 v21 v19) w (fun _ w =>
 K (.tuple #[]) w) Kp) Kp) Kp) Kp) Kp) Kp) Kp) Kp) Kp) Kp) Kp) Kp
theorem vc103_eq : vc103 S a0 a1 a2 w K Kp = fVC S [] [] Tryz.f103 [a0, a1, a2] w K Kp := by kernel_rfl
theorem vc103_calls (h : vc103 nP a0 a1 a2 w K Kp) : Calls Tryz.prog 103 #[a0, a1, a2] w (ret K Kp) :=
 fVC_sound (args := [a0, a1, a2]) nice_le follows_BVcDI Tryz.func103 (by kernel_rfl) (Eq.mp vc103_eq h)
def vc104 (S : Sig) (a0 a1 : Value) (w : World) (K : KV) (Kp : KP) : Prop :=
 S.op (.nilCheck a0) w (fun v5 w =>
 S.op (.fieldAddr 233 v5 0) w (fun v6 w =>
 S.op (.load 135 v6) w (fun v7 w =>
 S.op (.bin .neq 135 false true v7 (.pointer none)) w (fun v8 w =>
 S.call (.fn 150) [v8, (.string { data := #[105, 109, 109, 117, 116, 97, 98, 108, 101, 46, 83, 111, 114, 116, 101, 100, 77, 97, 112, 66, 117, 105, 108, 100, 101, 114, 58, 32, 98, 117, 105, 108, 100, 101, 114, 32, 105, 110, 118, 97, 108, 105, 100, 32, 97, 102, 116, 101, 114, 32, 77, 97, 112, 40, 41, 32, 105, 110, 118, 111, 99, 97, 116, 105, 111, 110] })] w (fun v9 w =>
 S.op (.nilCheck a0) w (fun v12 w =>
 S.op (.fieldAddr 233 v12 0) w (fun v13 w =>
 S.op (.load 135 v13) w (fun v14 w =>
 S.call (.fn 147) [v14, a1, (.bool true)] w (fun v16 w =>
 S.op (.nilCheck a0) w (fun v17 w =>
 S.op (.fieldAddr 233 v17 0) w (fun v18 w =>
 S.op (.store 135 v18 v16) w (fun _ w =>
 K (.tuple #[]) w) Kp) Kp) Kp) Kp) Kp) Kp) Kp) Kp) Kp) Kp) Kp) Kp
theorem vc104_eq : vc104 S a0 a1 w K Kp = fVC S [] [] Tryz.f104 [a0, a1] w K Kp := by kernel_rfl
theorem vc104_calls (h : vc104 nP a0 a1 w K Kp) : Calls Tryz.prog 104 #[a0, a1] w (ret K Kp) :=
 fVC_sound (args := [a0, a1]) nice_le follows_BVcDI Tryz.func104 (by kernel_rfl) (Eq.mp vc104_eq h)
def vc105 (S : Sig) (a0 a1 : Value) (w : World) (K : KV) (Kp : KP) : Prop :=
 S.op (.nilCheck a0) w (fun v7 w =>
 S.op (.fieldAddr 233 v7 0) w (fun v8 w =>
 S.op (.load 135 v8) w (fun v9 w =>
 S.op (.bin .neq 135 false true v9 (.pointer none)) w (fun v10 w =>
 S.call (.fn 150) [v10, (.string { data := #[105, 109, 109, 117, 116, 97, 98, 108, 101, 46, 83, 111, 114, 116, 101, 100, 77, 97, 112, 66, 117, 105, 108, 100, 101, 114, 58, 32, 98, 117, 105, 108, 100, 101, 114, 32, 105, 110, 118, 97, 108, 105, 100, 32, 97, 102, 116, 101, 114, 32, 77, 97, 112, 40, 41, 32, 105, 110, 118, 111, 99, 97, 116, 105, 111, 110] })] w (fun v11 w =>
 S.op (.nilCheck a0) w (fun v13 w =>
 S.op (.fieldAddr 233 v13 0) w (fun v14 w =>
 S.op (.load 135 v14) w (fun v15 w =>
 S.call (.fn 82) [v15, a1] w (fun v17 w =>
 S.op (.extract v17 0) w (fun v18 w =>
 S.op (.extract v17 1) w (fun v19 w =>
 K (.tuple #[v18, v19]) w) Kp) Kp) Kp) Kp) Kp) Kp) Kp) Kp) Kp) Kp) Kp
theorem vc105_eq : vc105 S a0 a1 w K Kp = fVC S [] [] Tryz.f105 [a0, a1] w K Kp := by kernel_rfl
theorem vc105_calls (h : vc105 nP a0 a1 w K Kp) : Calls Tryz.prog 105 #[a0, a1] w (ret K Kp) :=
 fVC_sound (args := [a0, a1]) nice_le follows_BVcDI Tryz.func105 (by kernel_rfl) (Eq.mp vc105_eq h)
def vc106 (S : Sig) (a0 : Value) (w : World) (K : KV) (Kp : KP) : Prop :=
 S.op (.nilCheck a0) w (fun v4 w =>
 S.op (.fieldAddr 233 v4 0) w (fun v5 w =>
 S.op (.load 135 v5) w (fun v6 w =>
 S.op (.bin .neq 135 false true v6 (.pointer none)) w (fun v7 w =>
 S.call (.fn 150) [v7, (.string { data := #[105, 109, 109, 117, 116, 97, 98, 108, 101, 46, 83, 111, 114, 116, 101, 100, 77, 97, 112, 66, 117, 105, 108, 100, 101, 114, 58, 32, 98, 117, 105, 108, 100, 101, 114, 32, 105, 110, 118, 97, 108, 105, 100, 32, 97, 102, 116, 101, 114, 32, 77, 97, 112, 40, 41, 32, 105, 110, 118, 111, 99, 97, 116, 105, 111, 110] })] w (fun v8 w =>
 S.op (.nilCheck a0) w (fun v10 w =>
 S.op (.fieldAddr 233 v10 0) w (fun v11 w =>
 S.op (.load 135 v11) w (fun v12 w =>
 S.call (.fn 85) [v12] w (fun v13 w =>
 K v13 w) Kp) Kp) Kp) Kp) Kp) Kp) Kp) Kp) Kp
theorem vc106_eq : vc106 S a0 w K Kp = fVC S [] [] Tryz.f106 [a0] w K Kp := by kernel_rfl
theorem vc106_calls (h : vc106 nP a0 w K Kp) : Calls Tryz.prog 106 #[a0] w (ret K Kp) :=
 fVC_sound (args := [a0]) nice_le follows_BVcDI Tryz.func106 (by kernel_rfl) (Eq.mp vc106_eq h)
def vc107 (S : Sig) (a0 : Value) (w : World) (K : KV) (Kp : KP) : Prop :=
 S.op (.nilCheck a0) w (fun v5 w =>
 S.op (.fieldAddr 233 v5 0) w (fun v6 w =>
 S.op (.load 135 v6) w (fun v7 w =>
 S.op (.bin .neq 135 false true v7 (.pointer none)) w (fun v8 w =>
 S.call (.fn 150) [v8, (.string { data := #[105, 109, 109, 117, 116, 97, 98, 108, 101, 46, 83, 111, 114, 116, 101, 100, 77, 97, 112, 66, 117, 105, 108, 100, 101, 114, 46, 77, 97, 112, 40, 41, 58, 32, 100, 117, 112, 108, 105, 99, 97, 116, 101, 32, 99, 97, 108, 108, 32, 116, 111, 32, 102, 101, 116, 99, 104, 32, 109, 97, 112] })] w (fun v9 w =>
 S.op (.nilCheck a0) w (fun v11 w =>
 S.op (.fieldAddr 233 v11 0) w (fun v12 w =>
 S.op (.load 135 v12) w (fun v13 w =>
 S.op (.nilCheck a0) w (fun v15 w =>
 S.op (.fieldAddr 233 v15 0) w (fun v16 w =>
 S.op (.store 135 v16 (.pointer none)) w (fun _ w =>
 K v13 w) Kp) Kp) Kp) Kp) Kp) Kp) Kp) Kp) Kp) Kp) Kp
theorem vc107_eq : vc107 S a0 w K Kp = fVC S [] [] Tryz.f107 [a0] w K Kp := by kernel_rfl
theorem vc107_calls (h : vc107 nP a0 w K Kp) : Calls Tryz.prog 107 #[a0] w (ret K Kp) :=
 fVC_sound (args := [a0]) nice_le follows_BVcDI Tryz.func107 (by kernel_rfl) (Eq.mp vc107_eq h)
def vc108 (S : Sig) (a0 : Value) (w : World) (K : KV) (Kp : KP) : Prop :=
 S.op (.nilCheck a0) w (fun v4 w =>
 S.op (.fieldAddr 233 v4 0) w (fun v5 w =>
 S.op (.load 135 v5) w (fun v6 w =>
 S.op (.bin .neq 135 false true v6 (.pointer none)) w (fun v7 w =>
 S.call (.fn 150) [v7, (.string { data := #[105, 109, 109, 117, 116, 97, 98, 108, 101, 46, 83, 111, 114, 116, 101, 100, 77, 97, 112, 66, 117, 105, 108, 100, 101, 114, 58, 32, 98, 117, 105, 108, 100, 101, 114, 32, 105, 110, 118, 97, 108, 105, 100, 32, 97, 102, 116, 101, 114, 32, 77, 97, 112, 40, 41, 32, 105, 110, 118, 111, 99, 97, 116, 105, 111, 110] })] w (fun v8 w =>
 S.op (.nilCheck a0) w (fun v10 w =>
 S.op (.fieldAddr 233 v10 0) w (fun v11 w =>
 S.op (.load 135 v11) w (fun v12 w =>
 S.call (.fn 84) [v12] w (fun v13 w =>
 K v13 w) Kp) Kp) Kp) Kp) Kp) Kp) Kp) Kp) Kp
theorem vc108_eq : vc108 S a0 w K Kp = fVC S [] [] Tryz.f108 [a0] w K Kp := by kernel_rfl
theorem vc108_calls (h : vc108 nP a0 w K Kp) : Calls Tryz.prog 108 #[a0] w (ret K Kp) :=
 fVC_sound (args := [a0]) nice_le follows_BVcDI Tryz.func108 (by kernel_rfl) (Eq.mp vc108_eq h)
end Go.Proofs.YtodjijfblgnfmaaGreatDoor
end
section
namespace Go.Proofs.YtodjijfblgnfmaaGreatDoor.I
open Go.Vc Go.Proofs Go.Proofs.YtodjijfblgnfmaaGreatDoor Go.Vc.Bt
variable {w w' : World} {v cv : Value} {K : KV} {Kp : KP} {lt : Ky → Ky → Bool} {k : Ky} {x : Vl} {N : Nat} {bb b base : Nat} {L : List (Ky × Vl)} {M : Nat → Prop} {str : ByteArray} {F : Foot} {r : Root Ky Vl}
theorem assert_yes (hK : K (.tuple #[]) w) : Calls Tryz.prog 150 #[.bool true, .string str] w (ret K Kp) := by
  refine vc150_calls ?_
  simp [-getElem?_pos, -Array.getElem?_eq_getElem, -Int.natCast_add, vc150]
  exact hK
theorem RepC.keep (ho : NoNode w M) (hf : Frm M w w') : ∀ {h : Nat} {t : Tr} {v : Value} {F : Foot}, RepC w h t v F → RepC w' h t v F
  | 0, .leaf es, v, F, hr => by
    obtain ⟨b, g, o, c, h1, h2, h3, h4⟩ := hr
    obtain ⟨cs', p1, p2⟩ := id h3
    exact ⟨b, g, o, c, h1, hf.get h2 (ho.ne h2 (.inl rfl)), h3.frame hf (ho.ne p1 (.inr (.inl rfl))), h4⟩
  | h + 1, .br ks, v, F, hr => by
    obtain ⟨b, g, o, c, N, h1, h2, h3, h4, h5, h6, h7, h8⟩ := hr
    have hrec := fun p hp => RepC.keep ho hf (h5 p hp)
    obtain ⟨cs', p1, p2⟩ := id h4
    exact ⟨b, g, o, c, N, h1, hf.get h2 (ho.ne h2 (.inr (.inr (.inl rfl)))), h3, h4.frame hf (ho.ne p1 (.inr (.inr (.inr rfl)))), hrec, h6, h7, h8⟩
  | 0, .br ks, v, F, hr => hr.elim
  | h + 1, .leaf es, v, F, hr => hr.elim
theorem RepMC.quiet (h : RepMC w b lt r F) (hq : Quiet w M) (hf : Frm M w w') : RepMC w' b lt r F := by
  have hb : ¬ M b := fun hm => by
    obtain ⟨rv, cv, h1, _⟩ := h
    rcases hq b hm with ⟨cs, e, fz, q1, q2, q3, q4, q5, q6⟩ | h
    · rw [h1] at q1; cases q1; exact q6 rfl
    · have := lt_of_get h1; omega
  obtain ⟨rv, cv, h1, h2, h3⟩ := h
  refine ⟨rv, cv, hf.get h1 hb, ?_, h3⟩
  match r, h2 with
  | none, h2 => exact h2
  | some (h, t), h2 => exact RepC.keep hq.node hf h2
def Bld (w : World) (bb b : Nat) (lt : Ky → Ky → Bool) (N : Nat) (L : List (Ky × Vl)) (base : Nat) : Prop := ∃ r F, w.heap[bb]? = some (.cells #[ptr b] 233 (0, 0)) ∧ RepMC w b lt r F ∧ Ok lt N r ∧ rL r = L ∧ base ≤ bb ∧ base ≤ b ∧ ∀ y j, F y j → base ≤ y
def OfB (w : World) (base : Nat) (M : Nat → Prop) : Prop := ∀ c, M c → base ≤ c ∧ ∃ cs e, w.heap[c]? = some (.cells cs e (0, 0)) ∧ (e = 226 ∨ e = 223 ∨ e = 284 ∨ e = 286 ∨ e = 210 ∨ e = 233)
theorem OfB.not {c : Nat} {cs : Array Value} {e : TypeId} {fz : Nat × Nat} (h : OfB w base M) (hc : w.heap[c]? = some (.cells cs e fz)) (he : e ≠ 226 ∧ e ≠ 223 ∧ e ≠ 284 ∧ e ≠ 286 ∧ e ≠ 210 ∧ e ≠ 233) : ¬ M c := fun hm => by
  obtain ⟨_, cs', e', h1, h2⟩ := h c hm
  rw [hc] at h1
  cases h1
  obtain ⟨e1, e2, e3, e4, e5, e6⟩ := he
  rcases h2 with h | h | h | h | h | h
  · exact e1 h
  · exact e2 h
  · exact e3 h
  · exact e4 h
  · exact e5 h
  · exact e6 h
theorem Bld.ver (h : Bld w bb b lt N L base) : Ver w b lt N L := by
  obtain ⟨r, F, h1, h2, h3, h4, _⟩ := h
  exact ⟨r, h2.rep, h3, h4⟩
theorem Bld.quiet (h : Bld w bb b lt N L base) (hq : Quiet w M) (hb : ¬ M bb) (hf : Frm M w w') : Bld w' bb b lt N L base := by
  obtain ⟨r, F, h1, h2, h3⟩ := h
  exact ⟨r, F, hf.get h1 hb, h2.quiet hq hf, h3⟩
theorem Bld.still (h : Bld w bb b lt N L base) (hf : Frm (fun _ => False) w w') : Bld w' bb b lt N L base := h.quiet (fun _ h => h.elim) id hf
theorem Bld.mono {m : Nat} (h : Bld w bb b lt N L base) (hm : N ≤ m) : Bld w bb b lt m L base := by
  obtain ⟨r, F, h1, h2, h3, h4⟩ := h
  exact ⟨r, F, h1, h2, h3.mono hm, h4⟩
theorem Bld.cell (h : Bld w bb b lt N L base) : w.heap[bb]? = some (.cells #[ptr b] 233 (0, 0)) := by
  obtain ⟨r, F, h1, _⟩ := h; exact h1
theorem Bld.ofB (h : Bld w bb b lt N L base) : ∃ F : Foot, (∃ r, RepMC w b lt r F ∧ Ok lt N r ∧ rL r = L) ∧ (∀ y j, F y j → base ≤ y) ∧ (∀ j, ¬ F bb j) ∧ bb ≠ b ∧ base ≤ bb ∧ base ≤ b ∧ OfB w base fun c => (∃ j, F c j ∨ c = b) ∨ c = bb := by
  obtain ⟨r, F, h1, h2, h3, h4, h5, h6, h7⟩ := h
  obtain ⟨rv, cv, q1, q2, q3⟩ := id h2
  refine ⟨F, ⟨r, h2, h3, h4⟩, h7, q2.not h1 (by decide), fun e => ?_, h5, h6, fun c hc => ?_⟩
  · rw [e, q1] at h1; cases h1
  · rcases hc with ⟨j, hc | rfl⟩ | rfl
    · obtain ⟨cs, e, g1, g2⟩ := q2.ty c j hc
      refine ⟨h7 c j hc, cs, e, g1, ?_⟩
      rcases g2 with g | g | g | g
      · exact .inl g
      · exact .inr (.inl g)
      · exact .inr (.inr (.inl g))
      · exact .inr (.inr (.inr (.inl g)))
    · exact ⟨h6, _, _, q1, .inr (.inr (.inr (.inr (.inl rfl))))⟩
    · exact ⟨h5, _, _, h1, .inr (.inr (.inr (.inr (.inr rfl))))⟩
theorem newB_ok (hc : CmpOk cv lt none) (hK : ∀ w' bb b, Frm (fun _ => False) w w' → Bld w' bb b lt 0 [] w.heap.size → K (ptr bb) w') : Calls Tryz.prog 102 #[cv] w (ret K Kp) := by
  refine vc102_calls ?_
  delta vc102
  simp only [call_79]
  refine new_ok hc fun w1 b k1 hb hM => ?_
  simp [-getElem?_pos, -Array.getElem?_eq_getElem, -Int.natCast_add, ptr]
  refine op_box_ok fun w2 k2 z2 b2 => ?_
  simp only [cells_agg] at b2
  obtain ⟨rv, cv', h1, h2, h3⟩ := hM.still k2
  have hn := k1.size
  exact hK w2 _ b (k1.no k2) ⟨none, fun _ _ => False, b2, ⟨rv, cv', h1, ⟨h2, rfl⟩, h3⟩, trivial, rfl, hn, hb, fun _ _ h => h.elim⟩
theorem bset_ok (hl : Lin lt) (h : Bld w bb b lt N L base) (hL : L.length < 2 ^ 60) (hK : ∀ w' M, Frm M w w' → OfB w base M → Bld w' bb b lt (N + 1) (put lt L k x) base → K (.tuple #[]) w') : Calls Tryz.prog 103 #[ptr bb, ek k, ev x] w (ret K Kp) := by
  refine vc103_calls ?_
  delta vc103
  have hc := h.cell
  obtain ⟨F, ⟨r, h1, h2, rfl⟩, h3, h4, h5, h6, h7, hO⟩ := h.ofB
  simp [-getElem?_pos, -Array.getElem?_eq_getElem, -Int.natCast_add, ptr, hc]
  refine assert_yes ?_
  simp [-getElem?_pos, -Array.getElem?_eq_getElem, -Int.natCast_add, ptr, hc]
  have hsp := setR_spec hl h2 k x
  refine mapSetM_ok hl h1 h2 hL fun w1 F' g1 hM hF => ?_
  have hc1 := g1.get hc fun j hj => hj.elim (h4 j) h5
  have n1 := g1.size
  simp [-getElem?_pos, -Array.getElem?_eq_getElem, -Int.natCast_add, ptr, hc1]
  refine op_store_ok (by kernel_rfl) hc1 (by simp) rfl fun w2 k2 z2 b2 => ?_
  have b2 : w2.heap[bb]? = some (.cells #[ptr b] 233 (0, 0)) := by simpa [ptr] using b2
  have hbs : base ≤ w.heap.size := by have := lt_of_get hc; omega
  have hF' : ∀ y j, F' y j → base ≤ y := fun y j hy => (hF y j hy).elim (h3 y j) fun h => by omega
  have hM2 : RepMC w2 b lt (some (setR lt r k x)) F' := hM.cframe (cell_frm k2 hc1 b2 rfl) (fun y j hy e => by
    obtain ⟨rv, cv, q1, q2, q3⟩ := hM
    exact q2.not hc1 (by decide) j (by rw [← e]; exact hy)) fun j e => h5 e.symm
  exact hK w2 _ ((g1.frm.to (M' := fun c => (∃ j, F c j ∨ c = b) ∨ c = bb) fun c hc => .inl hc).trans k2 fun c hc _ => .inr hc) hO ⟨_, F', b2, hM2, hsp.2, hsp.1, h6, h7, hF'⟩
theorem bdel_ok (hl : Lin lt) (h : Bld w bb b lt N L base) (hL : L.length < 2 ^ 60) (hK : ∀ w' M, Frm M w w' → OfB w base M → Bld w' bb b lt N (rem lt L k) base → K (.tuple #[]) w') : Calls Tryz.prog 104 #[ptr bb, ek k] w (ret K Kp) := by
  refine vc104_calls ?_
  delta vc104
  have hc := h.cell
  obtain ⟨F, ⟨r, h1, h2, rfl⟩, h3, h4, h5, h6, h7, hO⟩ := h.ofB
  simp [-getElem?_pos, -Array.getElem?_eq_getElem, -Int.natCast_add, ptr, hc]
  refine assert_yes ?_
  simp [-getElem?_pos, -Array.getElem?_eq_getElem, -Int.natCast_add, ptr, hc]
  have hsp := delR_spec hl h2 k
  refine mapDelM_ok hl h1 h2 hL fun w1 F' g1 hM hF => ?_
  have hc1 := g1.get hc fun j hj => hj.elim (h4 j) h5
  simp [-getElem?_pos, -Array.getElem?_eq_getElem, -Int.natCast_add, ptr, hc1]
  refine op_store_ok (by kernel_rfl) hc1 (by simp) rfl fun w2 k2 z2 b2 => ?_
  have b2 : w2.heap[bb]? = some (.cells #[ptr b] 233 (0, 0)) := by simpa [ptr] using b2
  have hM2 : RepMC w2 b lt (delR lt r k) F' := hM.cframe (cell_frm k2 hc1 b2 rfl) (fun y j hy e => by
    obtain ⟨rv, cv, q1, q2, q3⟩ := hM
    exact q2.not hc1 (by decide) j (by rw [← e]; exact hy)) fun j e => h5 e.symm
  exact hK w2 _ ((g1.frm.to (M' := fun c => (∃ j, F c j ∨ c = b) ∨ c = bb) fun c hc => .inl hc).trans k2 fun c hc _ => .inr hc) hO ⟨_, F', b2, hM2, hsp.2, hsp.1, h6, h7, fun y j hy => h3 y j (hF y j hy)⟩
theorem bget_ok (hl : Lin lt) (h : Bld w bb b lt N L base) (hK : ∀ w', Frm (fun _ => False) w w' → K (gotV (got lt L k)) w') : Calls Tryz.prog 105 #[ptr bb, ek k] w (ret K Kp) := by
  refine vc105_calls ?_
  delta vc105
  have hc := h.cell
  simp [-getElem?_pos, -Array.getElem?_eq_getElem, -Int.natCast_add, ptr, hc]
  refine assert_yes ?_
  simp [-getElem?_pos, -Array.getElem?_eq_getElem, -Int.natCast_add, ptr, hc]
  refine getOk hl h.ver fun w' hf => ?_
  have := hK w' hf
  cases hg : got lt L k with
  | none => rw [hg] at this; simp [-getElem?_pos, -Array.getElem?_eq_getElem, -Int.natCast_add, gotV]; exact this
  | some z => rw [hg] at this; simp [-getElem?_pos, -Array.getElem?_eq_getElem, -Int.natCast_add, gotV]; exact this
theorem blen_ok (h : Bld w bb b lt N L base) (hK : K (.int .i64 L.length) w) : Calls Tryz.prog 106 #[ptr bb] w (ret K Kp) := by
  refine vc106_calls ?_
  delta vc106
  have hc := h.cell
  simp [-getElem?_pos, -Array.getElem?_eq_getElem, -Int.natCast_add, ptr, hc]
  refine assert_yes ?_
  simp [-getElem?_pos, -Array.getElem?_eq_getElem, -Int.natCast_add, ptr, hc]
  exact ver_len h.ver hK
theorem biter_ok (h : Bld w bb b lt N L base) (hN : N < 2 ^ 60) (hK : ∀ w' ib, Frm (fun _ => False) w w' → w.heap.size ≤ ib → At w' ib b L (if L.length = 0 then none else some 0) → K (ptr ib) w') : Calls Tryz.prog 108 #[ptr bb] w (ret K Kp) := by
  refine vc108_calls ?_
  delta vc108
  have hc := h.cell
  simp [-getElem?_pos, -Array.getElem?_eq_getElem, -Int.natCast_add, ptr, hc]
  refine assert_yes ?_
  simp [-getElem?_pos, -Array.getElem?_eq_getElem, -Int.natCast_add, ptr, hc]
  exact ver_iter h.ver hN hK
theorem quiet_bld {c : Nat} {cs : Array Value} (h : w.heap[c]? = some (.cells cs 233 (0, 0))) : Quiet w (· = c) := fun x hx => by
  subst hx; exact .inl ⟨_, _, _, h, by decide, by decide, by decide, by decide, by decide⟩
theorem bmap_ok (h : Bld w bb b lt N L base) (hK : ∀ w', Frm (· = bb) w w' → Ver w' b lt N L → K (ptr b) w') : Calls Tryz.prog 107 #[ptr bb] w (ret K Kp) := by
  refine vc107_calls ?_
  delta vc107
  have hc := h.cell
  simp [-getElem?_pos, -Array.getElem?_eq_getElem, -Int.natCast_add, ptr, hc]
  refine assert_yes ?_
  simp [-getElem?_pos, -Array.getElem?_eq_getElem, -Int.natCast_add, ptr, hc]
  refine op_store_ok (by kernel_rfl) hc (by simp) rfl fun w2 k2 z2 b2 => ?_
  exact hK w2 k2 (h.ver.quiet (quiet_bld hc) k2)
end Go.Proofs.YtodjijfblgnfmaaGreatDoor.I
end
section
namespace Go.Vc.Bt
open Go.Vc
section
variable {κ : Type} [DecidableEq κ] {lt : κ → κ → Bool} {kd : Kd κ}
def bldS (lt : κ → κ → Bool) (kd : Kd κ) (L : Vn κ) (s : SSt) : Vn κ :=
  if s.op = 0 then put lt L (kd.key s.key s.text) s.value else if s.op = 1 then rem lt L (kd.key s.key s.text) else L
def bldA (lt : κ → κ → Bool) (kd : Kd κ) (L : Vn κ) (s : SSt) : SAns :=
  if s.op = 2 then match got lt L (kd.key s.key s.text) with
    | some v => ⟨v, 0, true, []⟩
    | none => zeroA
  else if s.op = 3 then ⟨0, L.length, false, []⟩
  else if s.op = 5 then ⟨0, 0, false, L.map fun e => kd.pair e.1 e.2⟩
  else zeroA
def oneB (lt : κ → κ → Bool) (kd : Kd κ) (q : Vn κ × List SAns × List (List SPr)) (s : SSt) : Vn κ × List SAns × List (List SPr) :=
  (bldS lt kd q.1 s, q.2.1 ++ [bldA lt kd q.1 s], q.2.2 ++ if s.op = 4 then [q.1.map fun e => kd.pair e.1 e.2] else [])
def runB (lt : κ → κ → Bool) (kd : Kd κ) (steps : List SSt) : Vn κ × List SAns × List (List SPr) := steps.foldl (oneB lt kd) ([], [], [])
theorem runB_snoc (steps : List SSt) (s : SSt) : runB lt kd (steps ++ [s]) = oneB lt kd (runB lt kd steps) s := by simp [runB]
theorem bldS_le (L : Vn κ) (s : SSt) : (bldS lt kd L s).length ≤ L.length + 1 := by
  unfold bldS
  split
  · rw [put_len]; split <;> omega
  · split
    · have : (rem lt L (kd.key s.key s.text)).length ≤ L.length := rem_le
      omega
    · omega
theorem bldS_sd (hl : Lin lt) {L : Vn κ} (h : Sd lt L) (s : SSt) : Sd lt (bldS lt kd L s) := by
  unfold bldS
  split
  · exact put_sd hl h _ _
  · split
    · exact rem_sd h _
    · exact h
theorem runB_le (hl : Lin lt) (steps : List SSt) : (runB lt kd steps).1.length ≤ steps.length ∧ (runB lt kd steps).2.1.length = steps.length ∧ Sd lt (runB lt kd steps).1 ∧ (runB lt kd steps).2.2.length ≤ steps.length ∧ ∀ l ∈ (runB lt kd steps).2.2, l.length ≤ steps.length := by
  rw [← List.reverse_reverse steps]
  generalize steps.reverse = r
  induction r with
  | nil => exact ⟨Nat.le_refl _, rfl, List.Pairwise.nil, Nat.le_refl _, fun l h => nomatch h⟩
  | cons s r ih =>
    rw [List.reverse_cons, runB_snoc, List.length_append, List.length_singleton]
    obtain ⟨h1, h2, h3, h4, h5⟩ := ih
    generalize runB lt kd r.reverse = q at *
    unfold oneB
    refine ⟨?_, by simp [h2], bldS_sd hl h3 s, ?_, fun l hl' => ?_⟩
    · have := bldS_le (lt := lt) (kd := kd) q.1 s
      show (bldS lt kd q.1 s).length ≤ _
      omega
    · have : (if s.op = 4 then [q.1.map fun e => kd.pair e.1 e.2] else []).length ≤ 1 := by split <;> simp
      show (q.2.2 ++ if s.op = 4 then [q.1.map fun e => kd.pair e.1 e.2] else []).length ≤ _
      rw [List.length_append]; omega
    · rcases List.mem_append.1 hl' with h | h
      · have := h5 l h; omega
      · split at h
        · rw [List.mem_singleton.1 h, List.length_map]; omega
        · cases h
theorem runB_ans (hl : Lin lt) (steps : List SSt) : ∀ a ∈ (runB lt kd steps).2.1, a.list.length ≤ steps.length := by
  rw [← List.reverse_reverse steps]
  generalize steps.reverse = r
  induction r with
  | nil => exact fun a h => nomatch h
  | cons s r ih =>
    rw [List.reverse_cons, runB_snoc, List.length_append, List.length_singleton]
    have h1 := (runB_le (kd := kd) hl r.reverse).1
    generalize runB lt kd r.reverse = q at *
    intro a ha
    rcases List.mem_append.1 (show a ∈ q.2.1 ++ [bldA lt kd q.1 s] from ha) with h | h
    · have := ih a h; omega
    · rw [List.mem_singleton.1 h]
      unfold bldA
      split
      · split <;> simp [zeroA]
      · split
        · simp
        · split
          · simp only [List.length_map]; omega
          · simp [zeroA]
end
def ElK : World → List Value → List SPr → (Nat → Prop) → Prop := fun w u l G => ∃ pv, u = [pv] ∧ IsSl w pv l.length (l.flatMap SPr.cells) ∧ ∀ b, pv.ownBlock = some b → G b
theorem elK_ok : ElOk ElK :=
  ⟨fun ⟨pv, hu, h, hG⟩ hf hM => ⟨pv, hu, h.frame hf fun b hb => hM b (hG b hb), hG⟩, fun ⟨pv, hu, h, hG⟩ hG' => ⟨pv, hu, h, fun b hb => hG' b (hG b hb)⟩⟩
end Go.Vc.Bt
end
section
namespace Go.Proofs.YtodjijfblgnfmaaGreatDoor.I
open Go.Vc Go.Proofs Go.Proofs.YtodjijfblgnfmaaGreatDoor Go.Vc.Bt
variable {w w' : World} {v cv : Value} {K : KV} {Kp : KP} {lt : Ky → Ky → Bool} {L : List (Ky × Vl)} {base : Nat}
theorem apK : apOf Tryz.prog 68 = some (46, 1, 24) := by kernel_rfl
def Stt (w : World) (bb b : Nat) (lt : Ky → Ky → Bool) (steps : List SSt) (i : Nat) (base : Nat) (e : Value) : Prop :=
  (e = .slice none 0 0 ∧ Bld w bb b lt i (runB lt kd (steps.take i)).1 base ∧ (runB lt kd (steps.take i)).2.2 = []) ∨
  (i = steps.length ∧ Ver w b lt i (runB lt kd (steps.take i)).1 ∧ RowsOf (Flat fun b : Nat => [ptr b]) w base 135 1 e [b] (fun _ => False) ∧ (runB lt kd (steps.take i)).2.2 = [prs (runB lt kd (steps.take i)).1])
def MidB (wl wz : World) (bb b : Nat) (lt : Ky → Ky → Bool) (steps : List SSt) (i : Nat) (base ab : Nat) (out e : Value) (A : List SAns) (a : SAns) : Prop :=
  ∃ (pv : Value) (G : Nat → Prop), Frm (fun c => base ≤ c) wl wz ∧ RowsOf ElA wz base 56 4 out A G ∧ (∀ c, G c → ∃ cs, wz.heap[c]? = some (.cells cs 49 (0, 0))) ∧
    wz.heap[ab]? = some (.cells #[.int .i64 a.value, .int .i64 a.n, .bool a.ok, pv] 56 (0, 0)) ∧ IsSl wz pv a.list.length (a.list.flatMap SPr.cells) ∧ (∀ c, pv.ownBlock = some c → base ≤ c ∧ (∀ b, out.ownBlock = some b → b ≠ c) ∧ ∃ cs, wz.heap[c]? = some (.cells cs 49 (0, 0))) ∧ Stt wz bb b lt steps (i + 1) base e
theorem sortedBuild_ok {a2 : Option Addr} {c2 : Nat} {steps : List SSt} (hC : CmpOk cv lt none) (hl : Lin lt) (h2 : Row w a2 (steps.flatMap SSt.cells)) (hs : ∀ s ∈ steps, s.text.size ≤ 100) (hn : steps.length ≤ 300) (h4 : ∀ i (hi : i < steps.length), steps[i].op = 4 → i + 1 = steps.length)
    (hK : ∀ l v w' G G', Frm (fun _ => False) w w' → RowsOf ElA w' w.heap.size 56 4 l (runB lt kd steps).2.1 G → RowsOf ElK w' w.heap.size 46 1 v (runB lt kd steps).2.2 G' → K (.tuple #[l, v]) w') :
    Calls Tryz.prog 55 #[kdV, cv, .slice a2 steps.length c2] w (ret K Kp) := by
  have hE := flat_ok (fun b : Nat => [ptr b])
  refine vc55_calls ?_
  delta vc55
  refine op_box_ok fun w1 k1 z1 b1 => ?_
  simp only [kdV, cells_agg] at b1
  have hx3 : (#[.func (.func 89) #[] #[], .func (.func 90) #[] #[], .func (.func 91) #[] #[]] : Array Value).extract 0 3 = #[.func (.func 89) #[] #[], .func (.func 90) #[] #[], .func (.func 91) #[] #[]] := rfl
  simp only [call_102]
  refine newB_ok hC fun w2 bb b k2 hB2 => ?_
  have n1 := k1.size
  have hlb1 := lt_of_get b1
  generalize hbase : w1.heap.size = base at *
  have n2 := k2.size
  simp [-getElem?_pos, -Array.getElem?_eq_getElem, -Int.natCast_add]
  obtain ⟨I, hI⟩ : ∃ I : Value → Value → KV, ∀ out e v wl, I out e v wl ↔ ∃ (i : Nat) (G : Nat → Prop), v = .int .i64 i ∧ i ≤ steps.length ∧ Frm (fun c => base ≤ c) w1 wl ∧
      RowsOf ElA wl base 56 4 out (runB lt kd (steps.take i)).2.1 G ∧ (∀ c, G c → ∃ cs, wl.heap[c]? = some (.cells cs 49 (0, 0))) ∧ Stt wl bb b lt steps i base e := ⟨_, fun _ _ _ _ => Iff.rfl⟩
  refine Lp.intro I (fun _ _ v _ => steps.length - nOf v) ⟨(hI _ _ _ _).2 ⟨0, fun _ => False, rfl, by omega, k2.to fun _ h => h.elim, rows_nil, fun _ h => h.elim, .inl ⟨rfl, hB2, rfl⟩⟩, ?_⟩
  intro wl out e v hlv
  obtain ⟨i, G, rfl, hi, kl, hO, hGt, hSt⟩ := (hI _ _ _ _).1 hlv
  clear hlv hB2
  have nl := kl.size
  have k0l : Frm (fun _ => False) w wl := k1.old kl fun c hc => .inr (by omega)
  have bk := kl.get b1 (by omega)
  simp only [op_lss, Br_dec]
  refine ⟨fun hlt' => ?_, fun hnl' => ?_⟩
  rotate_left
  · have : i = steps.length := by omega
    subst this
    rcases hSt with ⟨rfl, _, hkp⟩ | ⟨_, hVr, hRm, hkp⟩
    · rw [List.take_length] at hO hkp
      simp [-getElem?_pos, -Array.getElem?_eq_getElem, -Int.natCast_add]
      refine Lp.intro (fun kv v wz => kv = .slice none 0 0 ∧ v = .int .i64 0 ∧ wz = wl) (fun _ _ _ => 0) ⟨⟨rfl, rfl, rfl⟩, ?_⟩
      rintro wz kv v ⟨rfl, rfl, rfl⟩
      simp [-getElem?_pos, -Array.getElem?_eq_getElem, -Int.natCast_add]
      exact hK out (.slice none 0 0) wz G (fun _ => False) k0l (hO.base_le (by omega)) (by rw [hkp]; exact rows_nil)
    · rw [List.take_length] at hO hkp hVr
      have hleE := (runB_le (kd := kd) hl steps).1
      generalize (runB lt kd steps).1 = L at *
      obtain ⟨u, g, c, cur, he, hg1, hu, hg3, hg4, hg5, hub⟩ := hRm.get (j := 0) (by simp)
      subst he
      have hub : u = [ptr b] := hub
      subst hub
      have hg0 : cur[0]? = some (ptr b) := by have := hg3 0 (by decide); simpa using this
      obtain ⟨I2, hI2⟩ : ∃ I2 : Value → KV, ∀ kv v wz, I2 kv v wz ↔ (kv = .slice none 0 0 ∧ v = .int .i64 0 ∧ wz = wl) ∨ (v = .int .i64 1 ∧ Frm (fun _ => False) wl wz ∧ ∃ G', RowsOf ElK wz wl.heap.size 46 1 kv [prs L] G') := ⟨_, fun _ _ _ => Iff.rfl⟩
      simp [-getElem?_pos, -Array.getElem?_eq_getElem, -Int.natCast_add]
      refine Lp.intro I2 (fun _ v _ => 1 - nOf v) ⟨(hI2 _ _ _).2 (.inl ⟨rfl, rfl, rfl⟩), ?_⟩
      intro wz kv v hv
      rcases (hI2 _ _ _).1 hv with ⟨rfl, rfl, rfl⟩ | ⟨rfl, kz, G2, hRz⟩
      · simp [-getElem?_pos, -Array.getElem?_eq_getElem, -Int.natCast_add, hg1, hg0, bk, hx3]
        refine ver_iter (hVr.still (Frm.drew _)) (by omega) fun w7 ib k7 hib hA7 => ?_
        have k7 := Frm.dr k7
        have bK7 := k7.get bk fun h => h
        have n7 := k7.size
        simp [-getElem?_pos, -Array.getElem?_eq_getElem, -Int.natCast_add, bK7, hx3]
        refine pairsOf_ok hA7 (by omega) fun pv w8 k8 hR8 => ?_
        rw [restOf_zero] at hR8
        have hib : wz.heap.size ≤ ib := hib
        have k78 : Frm (fun _ => False) wz w8 := k7.old k8 fun c hc => .inr (by omega)
        have hlow8 := hR8.own_lt
        try simp [-getElem?_pos, -Array.getElem?_eq_getElem, -Int.natCast_add]
        refine op_push (u := [pv]) (y := prs L) (G := fun _ => False) (ys := []) (base := wz.heap.size) (G2 := fun c => pv.ownBlock = some c) elK_ok apK (lit_68_1 hR8.one) rfl (fun x hx => by rw [List.mem_singleton.1 hx]; exact hR8.one) rows_nil ⟨pv, rfl, hR8.flat, fun _ h => h⟩ (fun c hc => by have := hlow8 c hc; omega) (fun b hb => nomatch hb) (by simp) k78.size fun kv' w9 k9 hR9 ho9 => ?_
        try simp [-getElem?_pos, -Array.getElem?_eq_getElem, -Int.natCast_add]
        exact ⟨(hI2 _ _ _).2 (.inr ⟨rfl, k78.no (k9.to fun c hc => nomatch hc), _, hR9⟩), by show 1 - nOf (.int .i64 1) < 1 - nOf (.int .i64 0); decide⟩
      · simp [-getElem?_pos, -Array.getElem?_eq_getElem, -Int.natCast_add]
        exact hK out kv wz G G2 (k0l.no kz) ((hO.still elA_ok kz).base_le (by omega)) (by rw [hkp]; exact hRz.base_le (by omega))
  have hi' : i < steps.length := by omega
  obtain ⟨rfl, hBl, hkp⟩ : e = .slice none 0 0 ∧ Bld wl bb b lt i (runB lt kd (steps.take i)).1 base ∧ (runB lt kd (steps.take i)).2.2 = [] := hSt.resolve_right fun h => by omega
  have htk : steps.take (i + 1) = steps.take i ++ [steps[i]] := List.take_succ_eq_append_getElem hi'
  have hmem : steps[i] ∈ steps := List.getElem_mem hi'
  have hle := runB_le (kd := kd) hl (steps.take i)
  have hsnoc := runB_snoc (lt := lt) (kd := kd) (steps.take i) steps[i]
  rw [← htk] at hsnoc
  rw [List.length_take] at hle
  obtain ⟨bp, o, cs, e, fz, rfl, hcs, hsz, hext⟩ := (h2.frame k0l (fun _ _ h => h)).part SSt.len (by decide) hi'
  have hst := hs _ hmem
  have h4i := h4 i hi'
  generalize steps[i] = s at *
  generalize hvs : runB lt kd (steps.take i) = vs at *
  obtain ⟨L, A, ks⟩ := vs
  simp only at hBl hkp hO hle
  subst hkp
  have hlowO := hO.own_lt
  simp [-getElem?_pos, -Array.getElem?_eq_getElem, -Int.natCast_add, hcs, hsz, hext]
  refine ⟨hi', ?_⟩
  refine op_alloc_ok (z := .agg #[.int .u8 0, .int .i64 0, .int .i64 0, .string ByteArray.empty, .int .i64 0, .int .i64 0, .int .i64 0]) (by kernel_rfl) fun w5 k5 z5 b5 => ?_
  simp only [cells_agg] at b5
  refine op_storeN_ok (n := 7) (by kernel_rfl) b5 rfl (by decide) (by simp [SSt.cells]) fun w6 k6 z6 b6 => ?_
  have b6 : w6.heap[wl.heap.size]? = some (.cells s.cells.toArray 54 (0, 0)) := by
    rw [ow_all (by simp [SSt.cells])] at b6; simpa [SSt.cells] using b6
  simp only [SSt.cells] at b6
  have k56 : Frm (fun _ => False) wl w6 := k5.old k6 fun c hc => .inr (by omega)
  refine op_alloc_ok (z := .agg #[.int .i64 0, .int .i64 0, .bool false, .slice none 0 0]) (by kernel_rfl) fun wA kA zA bA => ?_
  simp only [cells_agg] at bA
  have kwA : Frm (fun _ => False) wl wA := k56.no kA
  have bS := kA.get b6 fun h => h
  have bK := kwA.get bk fun h => h
  have hBA := hBl.still kwA
  have hOA := hO.still elA_ok kwA
  have hGA : ∀ c, G c → ∃ cs, wA.heap[c]? = some (.cells cs 49 (0, 0)) := fun c hc => by obtain ⟨cs, h⟩ := hGt c hc; exact ⟨cs, kwA.get h fun h => h⟩
  have hlS := lt_of_get b6
  have nA := kwA.size
  have hbg : ∀ b, out.ownBlock = some b → b ≠ w6.heap.size := fun b hb e => by have := hlowO b hb; omega
  generalize hab : w6.heap.size = ab at *
  have hbb := hBA.cell
  have habb : bb ≠ ab := fun e => by rw [e, bA] at hbb; cases hbb
  obtain ⟨J, hJ⟩ : ∃ J : KV, ∀ e wz, J e wz ↔ MidB wA wz bb b lt steps i base ab out e A (bldA lt kd L s) := ⟨_, fun _ _ => Iff.rfl⟩
  refine Jn.intro J ⟨?_, ?_⟩
  · have hL1 : L.length < 2 ^ 60 := by omega
    -- the builder alone was at work
    have hz : ∀ {wz : World} {M : Nat → Prop} {L' : List (Ky × Vl)}, bldA lt kd L s = zeroA → s.op ≠ 4 → bldS lt kd L s = L' → Frm M wA wz → OfB wA base M → Bld wz bb b lt (i + 1) L' base → J (.slice none 0 0) wz := fun {wz M L'} ha h4 hL' hf hM hB => by
      have hnA : ¬ M ab := hM.not bA (by decide)
      refine (hJ _ _).2 ⟨.slice none 0 0, G, hf.to fun c hc => (hM c hc).1, hOA.frame elA_ok hf (fun c hc => ?_) fun c hc => ?_, fun c hc => ?_, ?_, ?_, (fun c hc => nomatch hc), .inl ⟨rfl, ?_, ?_⟩⟩
      · obtain ⟨cs, h⟩ := hGA c hc; exact hM.not h (by decide)
      · obtain ⟨cs, h⟩ := rows_ty hOA c hc; exact hM.not h (by decide)
      · obtain ⟨cs, h⟩ := hGA c hc; exact ⟨cs, hf.get h (hM.not h (by decide))⟩
      · rw [ha]; exact hf.get bA hnA
      · rw [ha]; exact IsSl.nil
      · rw [hsnoc]; show Bld wz bb b lt (i + 1) (bldS lt kd L s) base; rw [hL']; exact hB
      · rw [hsnoc]; show [] ++ (if s.op = 4 then _ else []) = []; rw [if_neg h4]; rfl
    -- the answer alone was written
    have hn : ∀ {wz : World} {pv : Value} {a : SAns}, bldA lt kd L s = a → s.op ≠ 4 → bldS lt kd L s = L → Frm (· = ab) wA wz → wz.heap[ab]? = some (.cells #[.int .i64 a.value, .int .i64 a.n, .bool a.ok, pv] 56 (0, 0)) → IsSl wz pv a.list.length (a.list.flatMap SPr.cells) →
        (∀ c, pv.ownBlock = some c → wA.heap.size ≤ c ∧ ∃ cs, wz.heap[c]? = some (.cells cs 49 (0, 0))) → J (.slice none 0 0) wz := fun {wz pv a} ha h4 hL' hf hcell hrow hown => by
      refine (hJ _ _).2 ⟨pv, G, hf.to fun c hc => by omega, hOA.frame elA_ok hf (fun c hc he => ?_) fun c hc => hbg c hc, fun c hc => ?_, ?_, ?_, fun c hc => ?_, .inl ⟨rfl, ?_, ?_⟩⟩
      · obtain ⟨cs, h⟩ := hGA c hc; rw [he, bA] at h; cases h
      · obtain ⟨cs, h⟩ := hGA c hc; exact ⟨cs, hf.get h fun he => by rw [he, bA] at h; cases h⟩
      · rw [ha]; exact hcell
      · rw [ha]; exact hrow
      · obtain ⟨h1, h2⟩ := hown c hc
        exact ⟨by omega, fun b hb e => by have := hlowO b hb; omega, h2⟩
      · rw [hsnoc]; show Bld wz bb b lt (i + 1) (bldS lt kd L s) base; rw [hL']; exact (hBA.quiet (quiet_ans bA) habb hf).mono (by omega)
      · rw [hsnoc]; show [] ++ (if s.op = 4 then _ else []) = []; rw [if_neg h4]; rfl
    by_cases h0 : s.op = 0
    · simp [-getElem?_pos, -Array.getElem?_eq_getElem, -Int.natCast_add, bS, bK, h0, call_key]
      refine key_ok hst ?_
      try simp [-getElem?_pos, -Array.getElem?_eq_getElem, -Int.natCast_add, bS]
      refine bset_ok hl (hBA.still (Frm.drew _)) hL1 fun w7 M k7 hM h7 => ?_
      exact hz (by unfold bldA; rw [if_neg (by omega), if_neg (by omega), if_neg (by omega)]) (by omega) (by unfold bldS; rw [if_pos h0]) ((Frm.drew wA).fst k7) hM h7
    by_cases h1 : s.op = 1
    · simp [-getElem?_pos, -Array.getElem?_eq_getElem, -Int.natCast_add, bS, bK, h1, call_key]
      refine key_ok hst ?_
      try simp [-getElem?_pos, -Array.getElem?_eq_getElem, -Int.natCast_add, bS]
      refine bdel_ok hl hBA hL1 fun w7 M k7 hM h7 => ?_
      exact hz (by unfold bldA; rw [if_neg (by omega), if_neg (by omega), if_neg (by omega)]) (by omega) (by unfold bldS; rw [if_neg h0, if_pos h1]) k7 hM (h7.mono (by omega))
    have hkeep : bldS lt kd L s = L := by unfold bldS; rw [if_neg h0, if_neg h1]
    by_cases h2' : s.op = 2
    · simp [-getElem?_pos, -Array.getElem?_eq_getElem, -Int.natCast_add, bS, bK, h2', call_key]
      refine key_ok hst ?_
      try simp [-getElem?_pos, -Array.getElem?_eq_getElem, -Int.natCast_add, bS]
      refine bget_ok hl hBA fun w7 k7 => ?_
      have b7 := k7.get bA fun h => h
      cases hgg : got lt L (kd.key s.key s.text) with
      | none =>
        have ea : bldA lt kd L s = zeroA := by unfold bldA; rw [if_pos h2', hgg]
        simp [-getElem?_pos, -Array.getElem?_eq_getElem, -Int.natCast_add, gotV]
        refine op_store_ok (by kernel_rfl) b7 (by decide) rfl fun w8 k8 z8 b8 => ?_
        refine op_store_ok (by kernel_rfl) b8 (by decide) rfl fun w9 k9 z9 b9 => ?_
        exact hn (pv := .slice none 0 0) ea (by omega) hkeep ((k7.fst k8).trans k9 fun _ h _ => h) (by simpa [zeroA, zv] using b9) IsSl.nil (fun c hc => nomatch hc)
      | some x =>
        have ea : bldA lt kd L s = ⟨x, 0, true, []⟩ := by unfold bldA; rw [if_pos h2', hgg]
        simp [-getElem?_pos, -Array.getElem?_eq_getElem, -Int.natCast_add, gotV]
        refine op_store_ok (by kernel_rfl) b7 (by decide) rfl fun w8 k8 z8 b8 => ?_
        refine op_store_ok (by kernel_rfl) b8 (by simp) rfl fun w9 k9 z9 b9 => ?_
        exact hn (pv := .slice none 0 0) ea (by omega) hkeep ((k7.fst k8).trans k9 fun _ h _ => h) (by simpa [ev] using b9) IsSl.nil (fun c hc => nomatch hc)
    by_cases h3 : s.op = 3
    · have ea : bldA lt kd L s = ⟨0, L.length, false, []⟩ := by unfold bldA; rw [if_neg h2', if_pos h3]
      simp [-getElem?_pos, -Array.getElem?_eq_getElem, -Int.natCast_add, bS, h3]
      refine blen_ok hBA ?_
      try simp [-getElem?_pos, -Array.getElem?_eq_getElem, -Int.natCast_add]
      refine op_store_ok (by kernel_rfl) bA (by decide) rfl fun w7 k7 z7 b7 => ?_
      exact hn (pv := .slice none 0 0) ea (by omega) hkeep k7 (by simpa using b7) IsSl.nil (fun c hc => nomatch hc)
    by_cases h4' : s.op = 4
    · have ea : bldA lt kd L s = zeroA := by unfold bldA; rw [if_neg h2', if_neg h3, if_neg (by omega)]
      have hil := h4i h4'
      simp [-getElem?_pos, -Array.getElem?_eq_getElem, -Int.natCast_add, bS, h4']
      refine bmap_ok hBA fun w7 k7 v7 => ?_
      have n7 := k7.size
      refine op_push (u := [ptr b]) (y := b) (G2 := fun _ => False) (base := base) hE apO (lit_137_1 rfl) rfl (fun x hx => by rw [List.mem_singleton.1 hx]; rfl) (G := fun _ => False) (ys := []) rows_nil rfl (fun _ h => h.elim) (fun _ _ h => h) (by simp) (by omega) fun e' w8 k8 hR8 ho8 => ?_
      have k8 : Frm (fun _ => False) w7 w8 := k8.to fun c hc => nomatch hc
      have k78 : Frm (· = bb) wA w8 := k7.trans k8 fun _ h _ => h.elim
      have hbase' : base ≤ bb := by obtain ⟨r, F, _, _, _, _, h, _⟩ := hBA; exact h
      refine (hJ _ _).2 ⟨.slice none 0 0, G, k78.to fun c hc => by omega, hOA.frame elA_ok k78 (fun c hc he => ?_) (fun c hc he => ?_), fun c hc => ?_, ?_, ?_, (fun c hc => nomatch hc), .inr ⟨hil, ?_, ?_, ?_⟩⟩
      · obtain ⟨cs, h⟩ := hGA c hc; rw [he, hbb] at h; cases h
      · obtain ⟨cs, h⟩ := rows_ty hOA c hc; rw [he, hbb] at h; cases h
      · obtain ⟨cs, h⟩ := hGA c hc; exact ⟨cs, k78.get h fun he => by rw [he, hbb] at h; cases h⟩
      · rw [ea]; exact k78.get bA fun e => habb e.symm
      · rw [ea]; exact IsSl.nil
      · rw [hsnoc]; show Ver w8 b lt (i + 1) (bldS lt kd L s); rw [hkeep]; exact (v7.still k8).mono (by omega)
      · exact hR8.mono hE (fun _ h => h.elim id fun h => h) (fun _ h => h.elim) fun _ _ h => h
      · rw [hsnoc]; show [] ++ (if s.op = 4 then _ else []) = [prs (bldS lt kd L s)]; rw [if_pos h4', hkeep]; rfl
    by_cases h5 : s.op = 5
    · have ea : bldA lt kd L s = ⟨0, 0, false, prs L⟩ := by unfold bldA; rw [if_neg h2', if_neg h3, if_pos h5]; rfl
      simp [-getElem?_pos, -Array.getElem?_eq_getElem, -Int.natCast_add, bS, bK, h5, hx3]
      refine biter_ok (hBA.still (Frm.drew _)) (by omega) fun w7 ib k7 hib hA7 => ?_
      have k7 := Frm.dr k7
      have bK7 := k7.get bK fun h => h
      have n7 := k7.size
      have hib : wA.heap.size ≤ ib := hib
      simp [-getElem?_pos, -Array.getElem?_eq_getElem, -Int.natCast_add, bK7, hx3]
      refine pairsOf_ok hA7 (by omega) fun pv w8 k8 hR8 => ?_
      rw [restOf_zero] at hR8
      have k78 : Frm (fun _ => False) wA w8 := k7.old k8 fun c hc => .inr (by omega)
      have b8 := k78.get bA fun h => h
      try simp [-getElem?_pos, -Array.getElem?_eq_getElem, -Int.natCast_add]
      refine op_store_ok (by kernel_rfl) b8 (by decide) hR8.one fun w9 k9 z9 b9 => ?_
      have hlow8 := hR8.own_lt
      have hlA := lt_of_get bA
      refine hn (pv := pv) ea (by omega) hkeep (k78.fst k9) (by simpa using b9) ((hR8.flat).frame k9 fun c hc => by have := hlow8 c hc; omega) fun c hc => ?_
      have hge := hlow8 c hc
      obtain ⟨cs', hcs'⟩ := rows_ty hR8 c hc
      exact ⟨by omega, cs', k9.get hcs' (by omega)⟩
    have ea : bldA lt kd L s = zeroA := by unfold bldA; rw [if_neg h2', if_neg h3, if_neg h5]
    have g1 : ¬ (s.op : Int) = 1 := by omega
    have g2 : ¬ (s.op : Int) = 2 := by omega
    have g3 : ¬ (s.op : Int) = 3 := by omega
    have g4 : ¬ (s.op : Int) = 4 := by omega
    have g5 : ¬ (s.op : Int) = 5 := by omega
    simp [-getElem?_pos, -Array.getElem?_eq_getElem, -Int.natCast_add, bS, h0, g1, g2, g3, g4, g5]
    exact hn (pv := .slice none 0 0) ea h4' hkeep Frm.refl bA IsSl.nil (fun c hc => nomatch hc)
  · intro w9 e9 hm
    obtain ⟨pv, G9, kf, hO9, hG9, hcell, hrow, hown, hSt9⟩ := (hJ _ _).1 hm
    have n9 := kf.size
    have hone : ∀ u ∈ [Value.int .i64 (bldA lt kd L s).value, .int .i64 (bldA lt kd L s).n, .bool (bldA lt kd L s).ok, pv], u.oneCell' = true := fun u hu => by
      simp only [List.mem_cons, List.not_mem_nil, or_false] at hu
      rcases hu with rfl | rfl | rfl | rfl
      · rfl
      · rfl
      · rfl
      · exact hrow.one
    have hlow9 := hO9.own_lt
    have hla : A.length = i := by omega
    have hx4 : (#[.int .i64 (bldA lt kd L s).value, .int .i64 (bldA lt kd L s).n, .bool (bldA lt kd L s).ok, pv] : Array Value).extract 0 4 = #[.int .i64 (bldA lt kd L s).value, .int .i64 (bldA lt kd L s).n, .bool (bldA lt kd L s).ok, pv] := rfl
    simp [-getElem?_pos, -Array.getElem?_eq_getElem, -Int.natCast_add, hcell, hx4]
    refine op_push (u := [.int .i64 (bldA lt kd L s).value, .int .i64 (bldA lt kd L s).n, .bool (bldA lt kd L s).ok, pv]) (y := bldA lt kd L s) (G2 := fun c => pv.ownBlock = some c) elA_ok apA (lit_ans _ _ _ _) rfl hone hO9 ⟨pv, rfl, hrow, fun _ h => h⟩ (fun c hc => ?_) (fun b hb hc => ?_) (by omega) (by omega) fun o' w12 k12 hO12 ho12 => ?_
    · obtain ⟨h1, _, cs', h2⟩ := hown c hc; have := lt_of_get h2; omega
    · exact (hown b hc).2.1 b hb rfl
    try simp [-getElem?_pos, -Array.getElem?_eq_getElem, -Int.natCast_add]
    rw [show IntKind.i64.wrap ((i : Int) + 1) = ((i + 1 : Nat) : Int) from by rw [IntKind.wrap_i64]; omega]
    have hq12 := rows_quiet hO9 (by decide)
    have hnk : ∀ {c : Nat} {cs : Array Value} {e : TypeId}, w9.heap[c]? = some (.cells cs e (0, 0)) → e ≠ 56 → ¬ some c = out.ownBlock := fun {c cs e} h1 h2 h3 => by
      obtain ⟨cs', h4⟩ := rows_ty hO9 c h3.symm
      rw [h1] at h4; cases h4; exact h2 rfl
    refine ⟨(hI _ _ _ _).2 ⟨i + 1, fun c => G9 c ∨ pv.ownBlock = some c, rfl, by omega, ((kl.trans (kwA.to fun _ h => h.elim) fun _ h _ => h).trans kf fun _ h _ => h).trans k12 fun c hc _ => (hlow9 c hc.symm).1, by rw [hsnoc]; exact hO12, fun c hc => ?_, ?_⟩, by simp only [nOf_int]; omega⟩
    · rcases hc with h | h
      · obtain ⟨cs, h1⟩ := hG9 c h; exact ⟨cs, k12.get h1 (hnk h1 (by decide))⟩
      · obtain ⟨_, _, cs, h1⟩ := hown c h; exact ⟨cs, k12.get h1 (hnk h1 (by decide))⟩
    · rcases hSt9 with ⟨g1, g2, g3⟩ | ⟨g1, g2, g3, g4⟩
      · exact .inl ⟨g1, g2.quiet hq12 (hnk g2.cell (by decide)) k12, g3⟩
      · refine .inr ⟨g1, g2.quiet hq12 k12, g3.frame hE k12 (fun _ h => h.elim) fun b hb he => ?_, g4⟩
        obtain ⟨c1, t1⟩ := rows_ty g3 b hb
        exact hnk t1 (by decide) he
end Go.Proofs.YtodjijfblgnfmaaGreatDoor.I
end
section
namespace Go.Proofs.YtodjijfblgnfmaaGreatDoor.T
open Go.Vc Go.Proofs Go.Proofs.YtodjijfblgnfmaaGreatDoor Go.Vc.Bt
variable {w w' : World} {v : Value} {t : Tr} {K : KV} {Kp : KP} {rb : Nat} {b g o c h : Nat} {es : List (Ky × Vl)}
abbrev Foot := Nat → Nat → Prop
def own1 (b g o c s : Nat) : Foot := fun y j => y = b ∨ y = g ∧ o ≤ j ∧ j < o + c * s
abbrev Nd := Tr × Value × Foot
def Disj (F G : Foot) : Prop := ∀ b j, F b j → ¬ G b j
theorem Disj.symm {F G : Foot} (h : Disj F G) : Disj G F := fun b j hg hf => h b j hf hg
def vals (N : List Nd) : List (Tr × Value) := N.map fun p => (p.1, p.2.1)
def RepC (w : World) : Nat → Tr → Value → Foot → Prop
  | 0, .leaf es, v, F => ∃ b g o c, v = .iface 200 (ptr b) ∧ w.heap[b]? = some (.cells #[.slice (some ⟨g, o, none⟩) es.length c] 206 (0, 0)) ∧ Sg w 203 2 g o es.length c (ents es) ∧ F = own1 b g o c 2
  | h + 1, .br ks, v, F => ∃ b g o c, ∃ N : List Nd, v = .iface 262 (ptr b) ∧ w.heap[b]? = some (.cells #[.slice (some ⟨g, o, none⟩) N.length c] 267 (0, 0)) ∧ ks = N.map (·.1) ∧ Sg w 269 2 g o N.length c (els h (vals N)) ∧
      (∀ p ∈ N, RepC w h p.1 p.2.1 p.2.2) ∧ N.Pairwise (fun a b => Disj a.2.2 b.2.2) ∧ (∀ p ∈ N, Disj (own1 b g o c 2) p.2.2) ∧ F = fun y j => own1 b g o c 2 y j ∨ ∃ p ∈ N, p.2.2 y j
  | _, _, _, _ => False
def Own (w : World) (h : Nat) (N : List Nd) : Prop := (∀ p ∈ N, RepC w h p.1 p.2.1 p.2.2) ∧ N.Pairwise fun a b => Disj a.2.2 b.2.2
theorem RepC.cframe {M : Foot} : ∀ {h : Nat} {t : Tr} {v : Value} {F : Foot}, RepC w h t v F → CFrm M w w' → Disj F M → RepC w' h t v F
  | 0, .leaf es, v, F, hr, hf, hM => by
    obtain ⟨b, g, o, c, h1, h2, h3, rfl⟩ := hr
    exact ⟨b, g, o, c, h1, hf.get h2 fun j => hM b j (.inl rfl), h3.cframe hf fun j h h' => hM g j (.inr ⟨rfl, h, h'⟩), rfl⟩
  | h + 1, .br ks, v, F, hr, hf, hM => by
    obtain ⟨b, g, o, c, N, h1, h2, h3, h4, h5, h6, h7, rfl⟩ := hr
    exact ⟨b, g, o, c, N, h1, hf.get h2 fun j => hM b j (.inl (.inl rfl)), h3, h4.cframe hf fun j h h' => hM g j (.inl (.inr ⟨rfl, h, h'⟩)), fun p hp => (h5 p hp).cframe hf fun y j hy => hM y j (.inr ⟨p, hp, hy⟩), h6, h7, rfl⟩
  | 0, .br ks, v, F, hr, hf, hM => hr.elim
  | h + 1, .leaf es, v, F, hr, hf, hM => hr.elim
theorem RepC.still {F : Foot} (hr : RepC w h t v F) (hf : Frm (fun _ => False) w w') : RepC w' h t v F := hr.cframe (CFrm.of (M := fun _ _ => False) hf) fun _ _ _ h => h
theorem Own.cframe {M : Foot} {N : List Nd} (hr : Own w h N) (hf : CFrm M w w') (hM : ∀ p ∈ N, Disj p.2.2 M) : Own w' h N := ⟨fun p hp => (hr.1 p hp).cframe hf (hM p hp), hr.2⟩
theorem Own.still {N : List Nd} (hr : Own w h N) (hf : Frm (fun _ => False) w w') : Own w' h N := hr.cframe (CFrm.of (M := fun _ _ => False) hf) fun _ _ _ _ _ h => h
theorem RepC.rep : ∀ {h : Nat} {t : Tr} {v : Value} {F : Foot}, RepC w h t v F → Rep w h t v
  | 0, .leaf es, v, F, hr => by
    obtain ⟨b, g, o, c, h1, h2, h3, _⟩ := hr
    exact ⟨b, g, o, c, h1, h2, h3⟩
  | h + 1, .br ks, v, F, hr => by
    obtain ⟨b, g, o, c, N, h1, h2, h3, h4, h5, _⟩ := hr
    have e : ks.length = N.length := by rw [h3, List.length_map]
    refine ⟨b, g, o, c, vals N, h1, by rw [e]; exact h2, by rw [h3]; simp [vals], by rw [e]; exact h4, fun p hp => ?_⟩
    obtain ⟨q, hq, rfl⟩ := List.mem_map.1 hp
    exact (h5 q hq).rep
  | 0, .br ks, v, F, hr => hr.elim
  | h + 1, .leaf es, v, F, hr => hr.elim
theorem RepC.low : ∀ {h : Nat} {t : Tr} {v : Value} {F : Foot}, RepC w h t v F → ∀ y j, F y j → y < w.heap.size
  | 0, .leaf es, v, F, hr, y, j, hy => by
    obtain ⟨b, g, o, c, h1, h2, h3, rfl⟩ := hr
    rcases hy with rfl | ⟨rfl, _⟩
    · exact lt_of_get h2
    · exact h3.lt
  | h + 1, .br ks, v, F, hr, y, j, hy => by
    obtain ⟨b, g, o, c, N, h1, h2, h3, h4, h5, h6, h7, rfl⟩ := hr
    rcases hy with (rfl | ⟨rfl, _⟩) | ⟨p, hp, hy⟩
    · exact lt_of_get h2
    · exact h4.lt
    · exact (h5 p hp).low y j hy
  | 0, .br ks, v, F, hr, y, j, hy => hr.elim
  | h + 1, .leaf es, v, F, hr, y, j, hy => hr.elim
theorem RepC.ty : ∀ {h : Nat} {t : Tr} {v : Value} {F : Foot}, RepC w h t v F → ∀ y j, F y j → ∃ cs e, w.heap[y]? = some (.cells cs e (0, 0)) ∧ (e = 206 ∨ e = 203 ∨ e = 267 ∨ e = 269)
  | 0, .leaf es, v, F, hr, y, j, hy => by
    obtain ⟨b, g, o, c, h1, h2, ⟨cs, h3, _⟩, rfl⟩ := hr
    rcases hy with rfl | ⟨rfl, _⟩
    · exact ⟨_, _, h2, .inl rfl⟩
    · exact ⟨_, _, h3, .inr (.inl rfl)⟩
  | h + 1, .br ks, v, F, hr, y, j, hy => by
    obtain ⟨b, g, o, c, N, h1, h2, h3, ⟨cs, h4, _⟩, h5, h6, h7, rfl⟩ := hr
    rcases hy with (rfl | ⟨rfl, _⟩) | ⟨p, hp, hy⟩
    · exact ⟨_, _, h2, .inr (.inr (.inl rfl))⟩
    · exact ⟨_, _, h4, .inr (.inr (.inr rfl))⟩
    · exact (h5 p hp).ty y j hy
  | 0, .br ks, v, F, hr, y, j, hy => hr.elim
  | h + 1, .leaf es, v, F, hr, y, j, hy => hr.elim
theorem flag.cfrm {b b' : Bool} (h : flag w rb b) (hf : Frm (· = rb) w w') (h' : flag w' rb b') : CFrm (fun y _ => y = rb) w w' :=
  (CFrm.one (I := fun _ => True) hf h h' rfl (fun j hj => absurd trivial hj) ⟨0, trivial⟩).mono fun b j h _ => h.1
theorem RepC.flag {F : Foot} {b : Bool} (h1 : RepC w h t v F) (h2 : flag w rb b) : ∀ j, ¬ F rb j := fun j hj => by
  obtain ⟨cs, e, h3, h4⟩ := h1.ty rb j hj
  unfold T.flag at h2
  rw [h2] at h3
  cases h3
  rcases h4 with h | h | h | h <;> cases h
theorem zero_ent : ∃ z : List Value, z.length = 2 ∧ (∀ u ∈ z, u.oneCell' = true) ∧ sliceLit Tryz.prog 204 1 [(0, .agg z.toArray)] = some (203, z.toArray) ∧ ∀ {w : World} {K : KV} {Kp : KP}, nP.op (.build 203 []) w K Kp = K (.agg z.toArray) w :=
  ⟨[zk, zv], rfl, fun u hu => by simp only [List.mem_cons, List.not_mem_nil, or_false] at hu; rcases hu with rfl | rfl <;> rfl, lit_204_1, op_build_203_⟩
end Go.Proofs.YtodjijfblgnfmaaGreatDoor.T
end
section
namespace Go.Proofs.YtodjijfblgnfmaaGreatDoor.T
open Go.Vc Go.Proofs Go.Proofs.YtodjijfblgnfmaaGreatDoor Go.Vc.Bt
variable {w w' : World} {v cv : Value} {K : KV} {Kp : KP} {lt : Ky → Ky → Bool} {k : Ky} {x : Vl} {rb : Nat} {r0 : Bool} {b g o c h : Nat} {es : List (Ky × Vl)} {F : Foot}
theorem leafSetM_ok (hC : IsC cv lt) (hr : RepC w 0 (.leaf es) v F) (hw : WF 0 (.leaf es)) (hs : Sd lt es) (hfl : flag w rb r0)
    (hK : ∀ w' N, CFrm (fun y j => F y j ∨ y = rb) w w' → flag w' rb (r0 || !has lt es k) → Own w' 0 N → N.map (·.1) = (split (Bt.put lt es k x)).map .leaf → (∀ p ∈ N, ∀ y j, p.2.2 y j → F y j ∨ w.heap.size ≤ y) → K (two (N.map (·.2.1))) w') :
    nP.call (.inv v "pub-bracken/pub/immutable.set") [ek k, ev x, cv, .bool true, .pointer (some ⟨rb, 0, none⟩)] w K Kp := by
  obtain ⟨h1, h2⟩ : es ≠ [] ∧ es.length ≤ 32 := hw
  have hrb := hr.flag hfl
  have hlow := hr.low
  obtain ⟨b, g, o, c, rfl, hb, hg, hF⟩ := hr
  have hFb : ∀ j, F b j := fun j => by rw [hF]; exact .inl rfl
  have hFg : ∀ j, o ≤ j → j < o + c * 2 → F g j := fun j h h' => by rw [hF]; exact .inr ⟨rfl, h, h'⟩
  simp only [inv_200_237]
  refine vc237_calls ?_
  delta vc237
  simp only [call_235]
  refine leafIdx_ok hC hs (by omega) hb hg fun w1 f1 => ?_
  have hb1 := f1.get hb fun h => h
  have hg1 := hg.still f1
  have hfl1 := hfl.frame f1 fun h => h
  have hp := place_le (lt := lt) es k
  obtain ⟨J, hJ⟩ : ∃ J : KV, ∀ e wl, J e wl ↔ e = .bool (has lt es k) ∧ Frm (fun _ => False) w wl := ⟨_, fun _ _ => Iff.rfl⟩
  refine Jn.intro J ⟨?_, ?_⟩
  · simp [-getElem?_pos, -Array.getElem?_eq_getElem, -Int.natCast_add, -op_build_203_, -pur_build_203_, ptr, hb1]
    refine ⟨fun hlt => ?_, fun hge => (hJ _ _).2 ⟨?_, Frm.no f1 (Frm.drew _)⟩⟩
    · have hlt' : place lt es k < es.length := by omega
      obtain ⟨cur, hcur, hk⟩ := leafKey hg1
      have hki := hk _ hlt'
      simp [-getElem?_pos, -Array.getElem?_eq_getElem, -Int.natCast_add, -op_build_203_, -pur_build_203_, hcur, hki, hC.nilC]
      refine ⟨hlt', hC.cmp fun w2 f2 => ?_⟩
      simp [-getElem?_pos, -Array.getElem?_eq_getElem, -Int.natCast_add, -op_build_203_, -pur_build_203_]
      refine (hJ _ _).2 ⟨?_, Frm.no f1 (Frm.dr f2)⟩
      have hz : Bt.cmp lt es[place lt es k].1 k = 0 ↔ es[place lt es k].1 = k := cmp_zero hC.lin
      unfold has
      rw [List.getElem?_eq_getElem hlt']
      simp [hz]
    · unfold has
      rw [List.getElem?_eq_none (by omega)]
  intro w3 junk j hj
  obtain ⟨rfl, f3⟩ := (hJ _ _).1 hj
  have hb3 := f3.get hb fun h => h
  have hg3 := hg.still f3
  have hfl3 := hfl.frame f3 fun h => h
  have n3 := f3.size
  clear hb1 hg1 hfl1 f1 hj hJ J
  have hpl := put_len (lt := lt) (L := es) (k := k) (v := x)
  have hel := ents_len es
  -- the row with a place for the key
  obtain ⟨J, hJ⟩ : ∃ J : World → Prop, ∀ wl, J wl ↔ ∃ g' o' c' xs, CFrm (fun y j => F y j ∨ y = rb) w wl ∧ flag wl rb (r0 || !has lt es k) ∧ wl.heap[b]? = some (.cells #[.slice (some ⟨g', o', none⟩) (Bt.put lt es k x).length c'] 206 (0, 0)) ∧ Sg wl 203 2 g' o' (Bt.put lt es k x).length c' xs ∧
      (g' = g ∧ o' = o ∧ c' = c ∨ w.heap.size ≤ g') ∧ g' ≠ rb ∧ lw xs (place lt es k * 2) (ent (k, x)) = ents (Bt.put lt es k x) ∧ place lt es k < (Bt.put lt es k x).length := ⟨_, fun _ => Iff.rfl⟩
  simp only [Br_true]
  refine Jn.intro J ⟨?_, ?_⟩
  · cases hh : has lt es k with
    | true =>
      have hlt := has_lt hh
      rw [hh] at hpl
      have hpl : (Bt.put lt es k x).length = es.length := by rw [hpl]; rfl
      simp [-getElem?_pos, -Array.getElem?_eq_getElem, -Int.natCast_add, -op_build_203_, -pur_build_203_]
      refine (hJ _).2 ⟨g, o, c, ents es, CFrm.of f3, by rw [hh]; simpa using hfl3, by rw [hpl]; exact hb3, by rw [hpl]; exact hg3, .inl ⟨rfl, rfl, rfl⟩, fun e => ?_, ?_, by omega⟩
      · obtain ⟨cs, e1, _⟩ := hg3
        exact hfl3.typed e1 (by decide) e
      · unfold Bt.put; rw [hh]; exact (fm_set ent_len hlt).symm
    | false =>
      rw [hh] at hpl
      have hpl : (Bt.put lt es k x).length = es.length + 1 := by rw [hpl]; rfl
      have hpe : ents (Bt.put lt es k x) = (ents es).take (place lt es k * 2) ++ (ent (k, x) ++ (ents es).drop (place lt es k * 2)) := by
        unfold Bt.put; rw [hh]; exact fm_ins ent_len
      have hpm : place lt es k * 2 ≤ es.length * 2 := Nat.mul_le_mul_right _ hp
      obtain ⟨z, hz1, hz2, hz3, hz4⟩ := zero_ent
      simp [-getElem?_pos, -Array.getElem?_eq_getElem, -Int.natCast_add, -op_build_203_, -pur_build_203_]
      refine raise_ok hfl3 fun w4 k4 z4 fl4 => ?_
      have c4 : CFrm (fun y j => F y j ∨ y = rb) w w4 := CFrm.fst f3 ((hfl3.cfrm k4 fl4).mono fun _ _ h _ => .inr h)
      have hb4 := k4.get hb3 (hfl3.typed hb3 (by decide))
      have hg4 := Sg.past hg3 hfl3 (by decide) k4
      simp [-getElem?_pos, -Array.getElem?_eq_getElem, -Int.natCast_add, -op_build_203_, -pur_build_203_, ptr, hb4, hz4]
      refine op_lit_ok hz3 fun w5 k5 z5 b5 => ?_
      have hb5 := k5.get hb4 fun h => h
      have hg5 := hg4.still k5
      have fl5 := fl4.frame k5 fun h => h
      have c5 := c4.no k5
      have n5 := c5.size
      have hcg := hg5.le
      refine op_growSg (m := 1) apE hg5 (.inr ⟨_, 0, _, _, _, rfl, b5, fun j v hj => by simpa using hj⟩) (by rw [Nat.one_mul]; exact hz1) (by decide) hz2 ents_one (by omega) fun w6 g' o' c' k6 hg6 hgg n6 => ?_
      have c6 : CFrm (fun y j => F y j ∨ y = rb) w w6 := c5.old k6 fun y j hy => .inl (.inl (by obtain ⟨rfl, h⟩ := hy; exact hFg j h.1 h.2))
      have hnb : b ≠ g := fun e => by
        obtain ⟨cs, e1, _⟩ := hg3
        rw [← e, hb3] at e1; cases e1
      have hnr : rb ≠ g := fun e => by
        obtain ⟨cs, e1, _⟩ := hg3
        exact hfl3.typed e1 (by decide) e.symm
      have hb6 := k6.get hb5 fun j hj => hnb hj.1
      have fl6 : flag w6 rb true := k6.get fl5 fun j hj => hnr hj.1
      have hrb6 := hfl.below
      have hlg : g' ≠ rb := by rcases hgg with h | h; rw [h.1]; exact fun e => hnr e.symm; omega
      have hlb : g' ≠ b := by
        have := lt_of_get hb
        rcases hgg with h | h
        · rw [h.1]; exact fun e => hnb e.symm
        · omega
      have ew1 : IntKind.i64.wrap ((place lt es k : Int) + 1) = ((place lt es k + 1 : Nat) : Int) := by rw [IntKind.wrap_i64]; omega
      try simp [-getElem?_pos, -Array.getElem?_eq_getElem, -Int.natCast_add, -op_build_203_, -pur_build_203_]
      refine op_store_ok (by kernel_rfl) hb6 (by simp) rfl fun w7 k7 z7 b7 => ?_
      have b7 : w7.heap[b]? = some (.cells #[.slice (some ⟨g', o', none⟩) (es.length + 1) c'] 206 (0, 0)) := by simpa using b7
      have hg7 := hg6.frame k7 hlb
      have c7 : CFrm (fun y j => F y j ∨ y = rb) w w7 := c6.trans (CFrm.one (I := fun _ => True) k7 hb6 b7 rfl (fun j hj => absurd trivial hj) ⟨0, trivial⟩) fun y j hy _ => .inl (by rw [hy.1]; exact hFb j)
      have fl7 : flag w7 rb true := k7.get fl6 fun e => hfl3.typed hb3 (by decide) e.symm
      simp [-getElem?_pos, -Array.getElem?_eq_getElem, -Int.natCast_add, -op_build_203_, -pur_build_203_, b7, ew1]
      have hc7 := hg7.le
      refine ⟨by omega, by omega, by omega, by omega, ?_⟩
      refine op_copyIn (m := es.length - place lt es k) (x1 := place lt es k + 1) (x2 := place lt es k) (by kernel_rfl) (by decide) (hg7.still (Frm.drew _)) rfl rfl (by omega) (by omega) (by omega) (fun u hu => (List.mem_append.1 hu).elim (ents_one u) (hz2 u)) fun w8 k8 z8 hg8 => ?_
      have c78 : CFrm (fun y j => y = g' ∧ o' ≤ j ∧ j < o' + c' * 2) w7 w8 := CFrm.fst (Frm.drew w7) k8
      have hgF : ∀ y j, (y = g' ∧ o' ≤ j ∧ j < o' + c' * 2) → (F y j ∨ y = rb) ∨ w.heap.size ≤ y := fun y j ⟨e1, e2, e3⟩ => by
        subst e1
        rcases hgg with ⟨rfl, rfl, rfl⟩ | h
        · exact .inl (.inl (hFg j e2 e3))
        · exact .inr (by omega)
      refine (hJ _).2 ⟨g', o', c', lw (ents es ++ z) ((place lt es k + 1) * 2) (((ents es ++ z).drop (place lt es k * 2)).take ((es.length - place lt es k) * 2)), c7.old c78 hgF, by rw [hh, Bool.not_false, Bool.or_true]; exact c78.get fl7 fun j hj => hlg hj.1.symm, ?_, ?_, ?_, hlg, ?_, by omega⟩
      · rw [hpl]; exact c78.get b7 fun j hj => hlb hj.1.symm
      · rw [hpl]; exact hg8
      · rcases hgg with h | h
        · exact .inl h
        · exact .inr (by omega)
      · rw [hpe]
        have e1 : (place lt es k + 1) * 2 = place lt es k * 2 + 2 := by rw [Nat.succ_mul]
        have e2 : (es.length - place lt es k) * 2 = (ents es).length - place lt es k * 2 := by rw [hel, Nat.sub_mul]
        rw [e1, e2]
        exact ins_place (by omega) hz1 (ent_len _)
  intro w9 junk hj
  obtain ⟨g', o', c', xs, c9, fl9, b9, hg9, hgg, hgr, hxs, hpp⟩ := (hJ _).1 hj
  clear hj hJ J hg3 hb3 hfl3 f3
  have h33 : (Bt.put lt es k x).length ≤ 33 := by rw [put_len]; split <;> omega
  have hgb : g' ≠ b := fun e => by
    obtain ⟨cs, e1, _⟩ := hg9
    rw [e, b9] at e1; cases e1
  have hgF : ∀ y j, (y = g' ∧ o' ≤ j ∧ j < o' + c' * 2) → (F y j ∨ y = rb) ∨ w.heap.size ≤ y := fun y j ⟨e1, e2, e3⟩ => by
    subst e1
    rcases hgg with ⟨rfl, rfl, rfl⟩ | h
    · exact .inl (.inl (hFg j e2 e3))
    · exact .inr h
  have hwb := lt_of_get hb
  have hxl := hg9.len
  generalize hpq : place lt es k = p at *
  generalize hfq : (r0 || !has lt es k) = fq at *
  generalize Bt.put lt es k x = es' at *
  have hpm : (p + 1) * 2 ≤ es'.length * 2 := Nat.mul_le_mul_right _ hpp
  rw [Nat.succ_mul] at hpm
  simp [-getElem?_pos, -Array.getElem?_eq_getElem, -Int.natCast_add, -op_build_203_, -pur_build_203_, ptr, b9]
  refine ⟨by omega, op_storeSg (n := es'.length) (m := 2) (by kernel_rfl) rfl (by decide) hg9 rfl hpm (fun u hu => by simp only [List.mem_toArray, List.mem_cons, List.not_mem_nil, or_false] at hu; rcases hu with rfl | rfl <;> rfl) fun w10 k10 z10 hg10 => ?_⟩
  have b10 := k10.get b9 fun j hj => hgb hj.1.symm
  have fl10 : flag w10 rb fq := k10.get fl9 fun j hj => hgr hj.1.symm
  have c10 := c9.old k10 hgF
  have hg10 : Sg w10 203 2 g' o' es'.length c' (ents es') := by rw [← hxs]; exact hg10
  have hcc := hg10.le
  clear hg9 b9 fl9 k10 c9
  have n10 := c10.size
  have hlg' := hg10.lt
  simp [-getElem?_pos, -Array.getElem?_eq_getElem, -Int.natCast_add, -op_build_203_, -pur_build_203_, ptr, b10]
  refine ⟨fun hgt => ?_, fun hle => ?_⟩
  · have e33 : es'.length = 33 := by omega
    rw [split_two e33] at hK
    rw [e33] at hg10 b10
    have e16 : IntKind.i64.wrap (((33 : Nat) : Int).tdiv 2) = 16 := by rw [IntKind.wrap_i64]; rfl
    have a1 := Sg.mx (i := 16) hg10 (by omega)
    have a2 := Sg.lo (i := 16) hg10 (by omega)
    have e16' : IntKind.i64.wrap 16 = 16 := by rw [IntKind.wrap_i64]; rfl
    simp [-getElem?_pos, -Array.getElem?_eq_getElem, -Int.natCast_add, -op_build_203_, -pur_build_203_, ptr, b10, e33, e16, e16']
    refine ⟨by omega, ?_⟩
    refine op_box_ok fun w11 k11 z11 b11 => ?_
    have hb11 := k11.get b10 fun h => h
    simp [-getElem?_pos, -Array.getElem?_eq_getElem, -Int.natCast_add, -op_build_203_, -pur_build_203_, hb11, e33, e16, e16']
    refine ⟨by omega, ?_⟩
    refine op_box_ok fun w12 k12 z12 b12 => ?_
    try simp [-getElem?_pos, -Array.getElem?_eq_getElem, -Int.natCast_add, -op_build_203_, -pur_build_203_]
    have c11 := k12.get b11 fun h => h
    have f12 := k11.no k12
    have q1 : Sg w12 203 2 g' o' 16 16 (ents (es'.take 16)) := by rw [ents_take]; exact a1.still f12
    have q2 : Sg w12 203 2 g' (o' + 16 * 2) 17 (c' - 16) (ents (es'.drop 16)) := by rw [ents_drop]; exact a2.still f12
    have n11 := k11.size
    have l1 : (es'.take 16).length = 16 := by rw [List.length_take]; omega
    have l2 : (es'.drop 16).length = 17 := by rw [List.length_drop]; omega
    have hc16 : 16 * 2 + (c' - 16) * 2 = c' * 2 := by rw [← Nat.add_mul]; congr 1; omega
    refine hK w12 [(.leaf (es'.take 16), .iface 200 (ptr w10.heap.size), own1 w10.heap.size g' o' 16 2), (.leaf (es'.drop 16), .iface 200 (ptr w11.heap.size), own1 w11.heap.size g' (o' + 16 * 2) (c' - 16) 2)] (c10.no f12) (fl10.frame f12 fun h => h) ⟨fun p hp => ?_, ?_⟩ rfl fun p hp y j hy => ?_
    · simp only [List.mem_cons, List.not_mem_nil, or_false] at hp
      rcases hp with rfl | rfl
      · exact ⟨_, g', o', 16, rfl, by rw [l1]; simpa [cells_agg, e33] using c11, by rw [l1]; exact q1, rfl⟩
      · exact ⟨_, g', o' + 16 * 2, c' - 16, rfl, by rw [l2]; simpa [cells_agg, e33, show ¬ c' = 16 from by omega] using b12, by rw [l2]; exact q2, rfl⟩
    · simp only [List.pairwise_cons, List.mem_cons, List.not_mem_nil, or_false, forall_eq, false_imp_iff, implies_true, and_true, List.Pairwise.nil]
      rintro y j (rfl | ⟨rfl, h1, h2⟩) (h | ⟨h, h3, h4⟩)
      · omega
      · omega
      · omega
      · omega
    · simp only [List.mem_cons, List.not_mem_nil, or_false] at hp
      have key : (y = g' ∧ o' ≤ j ∧ j < o' + c' * 2) → F y j ∨ w.heap.size ≤ y := fun hy => by
        rcases hgF y j hy with (h | h) | h
        · exact .inl h
        · exact absurd (hy.1.symm.trans h) hgr
        · exact .inr h
      rcases hp with rfl | rfl
      · rcases hy with rfl | ⟨e1, e2, e3⟩
        · exact .inr n10
        · exact key ⟨e1, e2, by omega⟩
      · rcases hy with rfl | ⟨e1, e2, e3⟩
        · exact .inr (by omega)
        · exact key ⟨e1, by omega, by omega⟩
  · rw [split_one (by omega)] at hK
    refine hK w10 [(.leaf es', .iface 200 (ptr b), own1 b g' o' c' 2)] c10 fl10 ⟨fun p hp => ?_, List.pairwise_singleton _ _⟩ rfl fun p hp y j hy => ?_
    · rw [List.mem_singleton.1 hp]
      exact ⟨b, g', o', c', rfl, b10, hg10, rfl⟩
    · rw [List.mem_singleton.1 hp] at hy
      rcases hy with rfl | hy
      · exact .inl (hFb j)
      · rcases hgF y j hy with (h | h) | h
        · exact .inl h
        · exact absurd (hy.1.symm.trans h) hgr
        · exact .inr h
end Go.Proofs.YtodjijfblgnfmaaGreatDoor.T
end
section
namespace Go.Proofs.YtodjijfblgnfmaaGreatDoor.T
open Go.Vc Go.Proofs Go.Proofs.YtodjijfblgnfmaaGreatDoor Go.Vc.Bt
variable {w w' : World} {v : Value} {K : KV} {Kp : KP} {rb : Nat} {b g o c h i : Nat} {F : Foot} {N N2 : List Nd}
theorem mem_put {p : Nd} (hp : p ∈ N.take i ++ N2 ++ N.drop (i + 1)) (hi : i < N.length) : p ∈ N2 ∨ p ∈ N := by
  rcases List.mem_append.1 hp with hp | hp
  · rcases List.mem_append.1 hp with hp | hp
    · exact .inr (List.mem_of_mem_take hp)
    · exact .inl hp
  · exact .inr (List.mem_of_mem_drop hp)
theorem pw_apart (hpw : N.Pairwise fun a b => Disj a.2.2 b.2.2) (hi : i < N.length) : (∀ p ∈ N.take i, Disj p.2.2 N[i].2.2) ∧ (∀ p ∈ N.drop (i + 1), Disj p.2.2 N[i].2.2) ∧ (N.take i ++ N.drop (i + 1)).Pairwise fun a b => Disj a.2.2 b.2.2 := by
  have e : N = N.take i ++ N[i] :: N.drop (i + 1) := by rw [← List.drop_eq_getElem_cons hi, List.take_append_drop]
  rw [e] at hpw
  obtain ⟨h1, h2, h3⟩ := List.pairwise_append.1 hpw
  obtain ⟨h4, h5⟩ := List.pairwise_cons.1 h2
  exact ⟨fun p hp => h3 p hp _ List.mem_cons_self, fun p hp => (h4 p hp).symm, List.pairwise_append.2 ⟨h1, h5, fun a ha b hb => h3 a ha b (List.mem_cons_of_mem _ hb)⟩⟩
theorem own_put (hi : i < N.length) (hO : Own w h N) (h2 : Own w' h N2) (hf : CFrm (fun y j => N[i].2.2 y j ∨ y = rb) w w') (hrb : ∀ p ∈ N, ∀ j, ¬ p.2.2 rb j) (hsub : ∀ q ∈ N2, ∀ y j, q.2.2 y j → N[i].2.2 y j ∨ w.heap.size ≤ y) : Own w' h (N.take i ++ N2 ++ N.drop (i + 1)) := by
  obtain ⟨a1, a2, a3⟩ := pw_apart hO.2 hi
  have hap : ∀ p ∈ N, Disj p.2.2 N[i].2.2 → ∀ q ∈ N2, Disj p.2.2 q.2.2 := fun p hp hd q hq y j hy hz => by
    rcases hsub q hq y j hz with h | h
    · exact hd y j hy h
    · have := (hO.1 p hp).low y j hy; omega
  have hst : ∀ p ∈ N, Disj p.2.2 N[i].2.2 → RepC w' h p.1 p.2.1 p.2.2 := fun p hp hd => (hO.1 p hp).cframe hf fun y j hy hz => by
    rcases hz with h | rfl
    · exact hd y j hy h
    · exact hrb p hp j hy
  refine ⟨fun p hp => ?_, ?_⟩
  · rcases List.mem_append.1 hp with hp | hp
    · rcases List.mem_append.1 hp with hp | hp
      · exact hst p (List.mem_of_mem_take hp) (a1 p hp)
      · exact h2.1 p hp
    · exact hst p (List.mem_of_mem_drop hp) (a2 p hp)
  · obtain ⟨b1, b2, b3⟩ := List.pairwise_append.1 a3
    refine List.pairwise_append.2 ⟨List.pairwise_append.2 ⟨b1, h2.2, fun a ha q hq => hap a (List.mem_of_mem_take ha) (a1 a ha) q hq⟩, b2, fun a ha q hq => ?_⟩
    rcases List.mem_append.1 ha with ha | ha
    · exact b3 a ha q hq
    · exact (hap q (List.mem_of_mem_drop hq) (a2 q hq) a ha).symm
theorem vals_put : vals (N.take i ++ N2 ++ N.drop (i + 1)) = (vals N).take i ++ vals N2 ++ (vals N).drop (i + 1) := by simp [vals, List.map_take, List.map_drop]
theorem vals_len : (vals N).length = N.length := by simp [vals]
theorem zero_el : ∃ z : List Value, z.length = 2 ∧ (∀ u ∈ z, u.oneCell' = true) ∧ sliceLit Tryz.prog 265 1 [(0, .agg z.toArray)] = some (269, z.toArray) ∧ ∀ {w : World} {K : KV} {Kp : KP}, nP.op (.build 269 []) w K Kp = K (.agg z.toArray) w :=
  ⟨[zk, .nilIface], rfl, fun u hu => by simp only [List.mem_cons, List.not_mem_nil, or_false] at hu; rcases hu with rfl | rfl <;> rfl, lit_265_1, op_build_269_⟩
theorem ins_place2 {A z v : List Value} {r q : Nat} (h : r + q ≤ A.length) (hz : z.length = q) (hv : v.length = q) : lw (lw (A ++ z) (r + q) (((A ++ z).drop r).take (A.length - r))) (r + q) v = A.take (r + q) ++ (v ++ A.drop (r + q)) := by
  have e1 : ((A ++ z).drop r).take (A.length - r) = A.drop r := by
    rw [List.drop_append_of_le_length (by omega), List.take_append_of_le_length (by rw [List.length_drop]; exact Nat.le_refl _), List.take_of_length_le (by rw [List.length_drop]; exact Nat.le_refl _)]
  rw [e1]
  have hd : ((A ++ z).drop (r + q + (A.drop r).length)) = [] := List.drop_of_length_le (by rw [List.length_append, List.length_drop]; omega)
  have e2 : lw (A ++ z) (r + q) (A.drop r) = A.take (r + q) ++ A.drop r := by
    unfold lw
    rw [hd, List.append_nil, List.take_append_of_le_length h]
  rw [e2]
  have hl : (A.take (r + q)).length = r + q := by rw [List.length_take]; omega
  have h0 : (A.drop r).drop q = A.drop (r + q) := List.drop_drop
  generalize A.take (r + q) = B at *
  unfold lw
  rw [List.take_append_of_le_length (by omega), List.take_of_length_le (by omega), hv, List.drop_append, List.drop_of_length_le (by omega), List.nil_append, show r + q + q - B.length = q from by omega, h0, List.append_assoc]
theorem Own.one (hr : Own w h N) (hl : N.length = 1) : ∃ s n f, N = [(s, n, f)] ∧ RepC w h s n f := by
  match N, hl with
  | [(s, n, f)], _ => exact ⟨s, n, f, rfl, hr.1 _ (List.mem_singleton.2 rfl)⟩
theorem Own.pair (hr : Own w h N) (hl : N.length = 2) : ∃ s n f s2 n2 f2, N = [(s, n, f), (s2, n2, f2)] ∧ RepC w h s n f ∧ RepC w h s2 n2 f2 := by
  match N, hl with
  | [(s, n, f), (s2, n2, f2)], _ => exact ⟨s, n, f, s2, n2, f2, rfl, hr.1 (s, n, f) (by simp), hr.1 (s2, n2, f2) (by simp)⟩
def MadeM (w0 w : World) (F : Foot) (rb : Nat) (h b : Nat) (new : List Tr) : Prop := ∃ g o c, ∃ N : List Nd, CFrm (fun y j => F y j ∨ y = rb) w0 w ∧ w.heap[b]? = some (.cells #[.slice (some ⟨g, o, none⟩) N.length c] 267 (0, 0)) ∧ N.map (·.1) = new ∧ Sg w 269 2 g o N.length c (els h (vals N)) ∧ Own w h N ∧ (∀ p ∈ N, Disj (own1 b g o c 2) p.2.2) ∧
  (∀ y j, own1 b g o c 2 y j → F y j ∨ w0.heap.size ≤ y) ∧ (∀ p ∈ N, ∀ y j, p.2.2 y j → F y j ∨ w0.heap.size ≤ y) ∧ g ≠ rb ∧ b ≠ g
end Go.Proofs.YtodjijfblgnfmaaGreatDoor.T
end
section
namespace Go.Proofs.YtodjijfblgnfmaaGreatDoor.T
open Go.Vc Go.Proofs Go.Proofs.YtodjijfblgnfmaaGreatDoor Go.Vc.Bt
variable {w w' : World} {v cv : Value} {t : Tr} {K : KV} {Kp : KP} {lt : Ky → Ky → Bool} {k : Ky} {x : Vl} {rb : Nat} {r0 : Bool} {b g o c h i : Nat} {ks : List Tr} {F : Foot} {N N2 : List Nd}
theorem els_oneM (hO : Own w h N) : ∀ u ∈ els h (vals N), u.oneCell' = true := els_one (w := w) fun p hp => by
  obtain ⟨q, hq, rfl⟩ := List.mem_map.1 hp
  exact (hO.1 q hq).rep
theorem brSetM_ok (hC : IsC cv lt) (hr : RepC w (h + 1) (.br ks) v F) (hw : WF (h + 1) (.br ks)) (hs : Sd lt (toL (h + 1) (.br ks))) (hfl : flag w rb r0)
    (ih : ∀ {t : Tr} {v : Value} {F : Foot} {w : World} {K : KV} {Kp : KP}, RepC w h t v F → WF h t → Sd lt (toL h t) → flag w rb r0 →
      (∀ w' N, CFrm (fun y j => F y j ∨ y = rb) w w' → flag w' rb (r0 || !has lt (toL h t) k) → Own w' h N → N.map (·.1) = setT lt h t k x → (∀ p ∈ N, ∀ y j, p.2.2 y j → F y j ∨ w.heap.size ≤ y) → K (two (N.map (·.2.1))) w') →
      nP.call (.inv v "pub-bracken/pub/immutable.set") [ek k, ev x, cv, .bool true, .pointer (some ⟨rb, 0, none⟩)] w K Kp)
    (hK : ∀ w' N, CFrm (fun y j => F y j ∨ y = rb) w w' → flag w' rb (r0 || !has lt (toL (h + 1) (.br ks)) k) → Own w' (h + 1) N → N.map (·.1) = setT lt (h + 1) (.br ks) k x → (∀ p ∈ N, ∀ y j, p.2.2 y j → F y j ∨ w.heap.size ≤ y) → K (two (N.map (·.2.1))) w') :
    nP.call (.inv v "pub-bracken/pub/immutable.set") [ek k, ev x, cv, .bool true, .pointer (some ⟨rb, 0, none⟩)] w K Kp := by
  obtain ⟨h1, h2, h3⟩ : ks ≠ [] ∧ ks.length ≤ 32 ∧ ∀ t ∈ ks, WF h t := id hw
  have hrb := hr.flag hfl
  have hlow := hr.low
  obtain ⟨b, g, o, c, N, rfl, hb, hks, hg, hN, hpw, hdj, hF⟩ := hr
  have hFo : ∀ y j, own1 b g o c 2 y j → F y j := fun y j h => by rw [hF]; exact .inl h
  have hFb : ∀ j, F b j := fun j => hFo b j (.inl rfl)
  have hFg : ∀ j, o ≤ j → j < o + c * 2 → F g j := fun j h h' => hFo g j (.inr ⟨rfl, h, h'⟩)
  have hFN : ∀ p ∈ N, ∀ y j, p.2.2 y j → F y j := fun p hp y j h => by rw [hF]; exact .inr ⟨p, hp, h⟩
  have hl : N.length = ks.length := by rw [hks, List.length_map]
  have hps : ks = (vals N).map (·.1) := by rw [hks]; simp [vals]
  rw [← vals_len] at hb hg
  simp only [inv_262_255]
  refine vc255_calls ?_
  delta vc255
  simp only [call_253]
  refine brIdx_ok hC hw hs hps hb hg fun w1 f1 => ?_
  have hi := kid_lt (lt := lt) (h := h) (k := k) h1
  have hA := kid_ahead hC.lin hw hs k
  have hB := kid_behind hC.lin hw hs k
  have hsp := toL_split (h := h) hi
  rw [setT_succ hi] at hK
  generalize kid lt h ks k = i at *
  have hs2 : Sd lt (toL h ks[i]) := by
    rw [hsp] at hs
    exact (List.pairwise_append.1 (List.pairwise_append.1 hs).2.1).1
  rw [hsp, has_mid hC.lin hA hB] at hK
  have hiN : i < N.length := by omega
  have hip : i < (vals N).length := by rw [vals_len]; exact hiN
  have hb1 := f1.get hb fun h => h
  have hg1 := hg.still f1
  have hfl1 := hfl.frame f1 fun h => h
  obtain ⟨cur, hcur, hk⟩ := elCells hg1
  have hki := (hk i hip).2
  have hvi : (vals N)[i] = (N[i].1, N[i].2.1) := by simp [vals]
  rw [hvi] at hki
  have hpi : N[i].1 = ks[i] := by simp [hks]
  have hmem : N[i] ∈ N := List.getElem_mem hiN
  have hO1 : Own w1 h N := Own.still ⟨hN, hpw⟩ f1
  have hr' := hO1.1 _ hmem
  rw [hpi] at hr'
  obtain ⟨g1, g2, g3, g4⟩ := setT_spec hC.lin h ks[i] k x (h3 _ (List.getElem_mem hi)) hs2
  simp [-getElem?_pos, -Array.getElem?_eq_getElem, -Int.natCast_add, -op_build_269_, -pur_build_269_, ptr, hb1, hcur, hki]
  refine ⟨by rw [vals_len]; exact hiN, ih hr' (h3 _ (List.getElem_mem hi)) hs2 hfl1 fun w2 N2 f2 fl2 hO2 hN2 hsub => ?_⟩
  have n1 := f1.size
  have hO3 := own_put hiN hO1 hO2 f2 (fun p hp j hj => hrb j (hFN p hp _ _ hj)) hsub
  have c2 : CFrm (fun y j => F y j ∨ y = rb) w w2 := CFrm.fst f1 (f2.mono fun y j hy _ => hy.imp (hFN _ hmem y j) id)
  have hnrb : b ≠ rb := hfl.typed hb (by decide)
  have hown2 : ∀ y j, own1 b g o c 2 y j → ¬ (N[i].2.2 y j ∨ y = rb) := fun y j hy hz => by
    rcases hz with hz | rfl
    · exact hdj _ hmem y j hy hz
    · exact hrb j (hFo _ j hy)
  have hb2 := f2.get hb1 fun j => hown2 b j (.inl rfl)
  have hg2 := hg1.cframe f2 fun j h h' => hown2 g j (.inr ⟨rfl, h, h'⟩)
  have hgr : g ≠ rb := fun e => by
    obtain ⟨cs, e1, _⟩ := hg1
    exact hfl1.typed e1 (by decide) e
  have hbg : b ≠ g := fun e => by
    obtain ⟨cs, e1, _⟩ := hg1
    rw [← e, hb1] at e1; cases e1
  have hdj3 : ∀ p ∈ N.take i ++ N2 ++ N.drop (i + 1), ∀ y j, (own1 b g o c 2 y j ∨ y = rb) → ¬ p.2.2 y j := fun p hp y j hy hz => by
    rcases mem_put hp hiN with hp | hp
    · rcases hsub p hp y j hz with h | h
      · rcases hy with hy | rfl
        · exact hdj _ hmem y j hy h
        · exact hrb j (hFN _ hmem _ _ h)
      · rcases hy with hy | rfl
        · have := hlow y j (hFo y j hy); omega
        · have := hfl.below; omega
    · rcases hy with hy | rfl
      · exact hdj p hp y j hy hz
      · exact hrb j (hFN p hp _ _ hz)
  have hft3 : ∀ p ∈ N.take i ++ N2 ++ N.drop (i + 1), ∀ y j, p.2.2 y j → F y j ∨ w.heap.size ≤ y := fun p hp y j hy => by
    rcases mem_put hp hiN with hp | hp
    · exact (hsub p hp y j hy).imp (hFN _ hmem y j) fun h => by omega
    · exact .inl (hFN p hp y j hy)
  have hel := els_len h (vals N)
  have hxN := els_oneM hO1
  have hf2b := hfl.below
  generalize hfq : (r0 || !has lt (toL h ks[i]) k) = fl at *
  generalize hlq : setT lt h ks[i] k x = l at *
  have hl12 : l.length = 1 ∨ l.length = 2 := by have := List.length_pos_iff.2 g4; omega
  have hnl : N2.length = l.length := by rw [← hN2, List.length_map]
  have hks' : (N.take i ++ N2 ++ N.drop (i + 1)).map (·.1) = ks.take i ++ l ++ ks.drop (i + 1) := by rw [hks]; simp [List.map_take, List.map_drop, hN2]
  obtain ⟨J, hJ⟩ : ∃ J : World → Prop, ∀ wl, J wl ↔ MadeM w wl F rb h b (ks.take i ++ l ++ ks.drop (i + 1)) ∧ flag wl rb fl := ⟨_, fun _ => Iff.rfl⟩
  have hgF : ∀ {g' o' c' : Nat}, (g' = g ∧ o' = o ∧ c' = c ∨ w.heap.size ≤ g') → ∀ y j, own1 b g' o' c' 2 y j → F y j ∨ w.heap.size ≤ y := fun {g' o' c'} hgg y j hy => by
    rcases hy with rfl | ⟨rfl, e2, e3⟩
    · exact .inl (hFb j)
    · rcases hgg with ⟨rfl, rfl, rfl⟩ | h
      · exact .inl (hFg j e2 e3)
      · exact .inr h
  rw [vals_len] at hb2 hg2
  obtain ⟨s, un, pn, f, y, htwo, hn, hy⟩ : ∃ s un pn f y, two (N2.map (·.2.1)) = .tuple #[.iface un pn, y] ∧ (s, Value.iface un pn, f) ∈ N2 ∧ (y = .nilIface ∧ N2 = [(s, .iface un pn, f)] ∨ ∃ s2 u2 p2 f2, y = .iface u2 p2 ∧ N2 = [(s, .iface un pn, f), (s2, .iface u2 p2, f2)]) := by
    rcases hl12 with hl1 | hl1
    · obtain ⟨s, n, f, rfl, hn⟩ := hO2.one (by omega)
      obtain ⟨un, pn, rfl⟩ := hn.rep.iface
      exact ⟨s, un, pn, f, _, rfl, by simp, .inl ⟨rfl, rfl⟩⟩
    · obtain ⟨s, n, f, s2, n2, f2, rfl, hn, hn2⟩ := hO2.pair (by omega)
      obtain ⟨un, pn, rfl⟩ := hn.rep.iface
      obtain ⟨u2, p2, rfl⟩ := hn2.rep.iface
      exact ⟨s, un, pn, f, _, rfl, by simp, .inr ⟨s2, u2, p2, f2, rfl, rfl⟩⟩
  have hns : (RepC w2 h s (.iface un pn) f) := hO2.1 _ hn
  have hsl : s ∈ l := by rw [← hN2]; exact List.mem_map.2 ⟨_, hn, rfl⟩
  rw [htwo]
  simp [-getElem?_pos, -Array.getElem?_eq_getElem, -Int.natCast_add, -op_build_269_, -pur_build_269_, hb2]
  refine minKey_ok ((hns.rep).still (Frm.drew _)) (g2 s hsl) fun w3 m k3 hm => ?_
  have k3 := Frm.dr k3
  have hb3 := k3.get hb2 fun h => h
  have hg3 := hg2.still k3
  have fl3 := fl2.frame k3 fun h => h
  simp [-getElem?_pos, -Array.getElem?_eq_getElem, -Int.natCast_add, -op_build_269_, -pur_build_269_, hb3]
  refine ⟨hiN, op_storeSg (n := N.length) (m := 2) (by kernel_rfl) rfl (by decide) hg3 rfl (by omega) (fun u hu => by simp only [List.mem_toArray, List.mem_cons, List.not_mem_nil, or_false] at hu; rcases hu with rfl | rfl <;> rfl) fun w4 k4 z4 hg4 => ?_⟩
  have hb4 := k4.get hb3 fun j h => hbg h.1
  have fl4 : flag w4 rb fl := k4.get fl3 fun j h => hgr h.1.symm
  have c4 : CFrm (fun y j => F y j ∨ y = rb) w w4 := (c2.no k3).trans k4 fun y j hy _ => .inl (by obtain ⟨rfl, h⟩ := hy; exact hFg j h.1 h.2)
  have hO4 : Own w4 h (N.take i ++ N2 ++ N.drop (i + 1)) := (hO3.still k3).cframe k4 fun p hp y j hy hz => hdj3 p hp y j (.inl (.inr hz)) hy
  have hrow : lw (els h (vals N)) (i * 2) [ek m, .iface un pn] = els h ((vals N).set i (s, .iface un pn)) := by rw [← el_of hm]; exact (fm_set (el_len h) hip).symm
  have hg4 : Sg w4 269 2 g o N.length c (els h ((vals N).set i (s, .iface un pn))) := by rw [← hrow]; exact hg4
  have n4 := c4.size
  clear hrow hg3 hb3 fl3 hO3 hg2 hb2 fl2 c2 hO2 hr' hO1 hfl1 hg1 hb1
  refine Jn.intro J ⟨?_, fun wl hj => ?_⟩
  · rcases hy with ⟨rfl, rfl⟩ | ⟨s2, u2, p2, f2', rfl, rfl⟩
    · try simp [-getElem?_pos, -Array.getElem?_eq_getElem, -Int.natCast_add, -op_build_269_, -pur_build_269_]
      have hlen : (N.take i ++ [(s, Value.iface un pn, f)] ++ N.drop (i + 1)).length = N.length := by simp; omega
      refine (hJ _).2 ⟨⟨g, o, c, N.take i ++ [(s, Value.iface un pn, f)] ++ N.drop (i + 1), c4, by rw [hlen]; exact hb4, hks', ?_, hO4, fun p hp y j hy => hdj3 p hp y j (.inl hy), hgF (.inl ⟨rfl, rfl, rfl⟩), hft3, hgr, hbg⟩, fl4⟩
      rw [hlen, vals_put]
      have : (vals N).take i ++ vals [(s, Value.iface un pn, f)] ++ (vals N).drop (i + 1) = (vals N).set i (s, .iface un pn) := by
        rw [List.set_eq_take_append_cons_drop, if_pos hip]; simp [vals]
      rw [this]; exact hg4
    · obtain ⟨z, hz1, hz2, hz3, hz4⟩ := zero_el
      have ew1 : IntKind.i64.wrap ((i : Int) + 1) = ((i + 1 : Nat) : Int) := by rw [IntKind.wrap_i64]; omega
      have hRl : (els h ((vals N).set i (s, Value.iface un pn))).length = N.length * 2 := by rw [els_len, List.length_set, vals_len]
      have hR1 : ∀ u ∈ els h ((vals N).set i (s, Value.iface un pn)), u.oneCell' = true := fun u hu => by
        obtain ⟨p, hp, hu⟩ := List.mem_flatMap.1 hu
        rcases List.mem_or_eq_of_mem_set hp with hp | rfl
        · exact hxN u (List.mem_flatMap.2 ⟨p, hp, hu⟩)
        · rw [el_of hm] at hu
          simp only [List.mem_cons, List.not_mem_nil, or_false] at hu
          rcases hu with rfl | rfl <;> rfl
      generalize hRq : els h ((vals N).set i (s, Value.iface un pn)) = R at *
      simp [-getElem?_pos, -Array.getElem?_eq_getElem, -Int.natCast_add, -op_build_269_, -pur_build_269_, hb4, hz4]
      refine op_lit_ok hz3 fun w5 k5 z5 b5 => ?_
      have hb5 := k5.get hb4 fun h => h
      have hg5 := hg4.still k5
      have fl5 := fl4.frame k5 fun h => h
      refine op_growSg (m := 1) apX hg5 (.inr ⟨_, 0, _, _, _, rfl, b5, fun j v hj => by simpa using hj⟩) (by rw [Nat.one_mul]; exact hz1) (by decide) hz2 hR1 (by omega) fun w6 g' o' c' k6 hg6 hgg n6 => ?_
      have n5 := k5.size
      have hb6 := k6.get hb5 fun j hj => hbg hj.1
      have fl6 : flag w6 rb fl := k6.get fl5 fun j hj => hgr hj.1.symm
      have hlb4 := lt_of_get hb4
      have hlr4 := fl4.below
      have hlg : g' ≠ rb := by rcases hgg with h | h; rw [h.1]; exact hgr; omega
      have hlb : b ≠ g' := by rcases hgg with h | h; rw [h.1]; exact hbg; omega
      try simp [-getElem?_pos, -Array.getElem?_eq_getElem, -Int.natCast_add, -op_build_269_, -pur_build_269_]
      refine op_store_ok (by kernel_rfl) hb6 (by simp) rfl fun w7 k7 z7 b7 => ?_
      have b7 : w7.heap[b]? = some (.cells #[.slice (some ⟨g', o', none⟩) (N.length + 1) c'] 267 (0, 0)) := by simpa using b7
      have hg7 := hg6.frame k7 fun e => hlb e.symm
      have fl7 : flag w7 rb fl := k7.get fl6 fun e => hnrb e.symm
      have hcc7 := hg7.le
      simp [-getElem?_pos, -Array.getElem?_eq_getElem, -Int.natCast_add, -op_build_269_, -pur_build_269_, b7, ew1]
      refine ⟨by omega, by omega, by omega, by omega, ?_⟩
      refine op_copyIn (m := N.length - i) (x1 := i + 1) (x2 := i) (by kernel_rfl) (by decide) (hg7.still (Frm.drew _)) rfl rfl (by omega) (by omega) (by omega) (fun u hu => (List.mem_append.1 hu).elim (hR1 u) (hz2 u)) fun w8 k8 z8 hg8 => ?_
      have k8 := CFrm.fst (Frm.drew w7) k8
      have b8 := k8.get b7 fun j hj => hlb hj.1
      have fl8 : flag w8 rb fl := k8.get fl7 fun j hj => hlg hj.1.symm
      have hreg : ∀ y j, (y = g' ∧ o' ≤ j ∧ j < o' + c' * 2) → own1 b g o c 2 y j ∨ w4.heap.size ≤ y := fun y j ⟨e1, e2, e3⟩ => by
        subst e1
        rcases hgg with ⟨rfl, rfl, rfl⟩ | h
        · exact .inl (.inr ⟨rfl, e2, e3⟩)
        · exact .inr (by omega)
      have c48 : CFrm (own1 b g o c 2) w4 w8 := (((CFrm.of (M := own1 b g o c 2) k5).old k6 fun y j hy => .inl (.inr hy)).trans (CFrm.one (I := fun _ => True) k7 hb6 b7 rfl (fun j hj => absurd trivial hj) ⟨0, trivial⟩) fun y j hy _ => .inl hy.1).old k8 hreg
      have hO8 := hO4.cframe c48 fun p hp y j hy hz => hdj3 p hp y j (.inl hz) hy
      have hn2 := hO8.1 (s2, .iface u2 p2, f2') (by simp)
      simp [-getElem?_pos, -Array.getElem?_eq_getElem, -Int.natCast_add, -op_build_269_, -pur_build_269_, b8, ew1]
      refine minKey_ok (hn2.rep.still (Frm.drew _)) (g2 s2 (by rw [← hN2]; simp)) fun w9 m2 k9 hm2 => ?_
      have k9 := Frm.dr k9
      have b9 := k9.get b8 fun h => h
      have fl9 := fl8.frame k9 fun h => h
      simp [-getElem?_pos, -Array.getElem?_eq_getElem, -Int.natCast_add, -op_build_269_, -pur_build_269_, b9, ew1]
      refine ⟨by omega, op_storeSg (n := N.length + 1) (m := 2) (by kernel_rfl) rfl (by decide) (hg8.still k9) rfl (by omega) (fun u hu => by simp only [List.mem_toArray, List.mem_cons, List.not_mem_nil, or_false] at hu; rcases hu with rfl | rfl <;> rfl) fun w10 k10 z10 hg10 => ?_⟩
      have n8 := c48.size
      have c410 : CFrm (own1 b g o c 2) w4 w10 := (c48.no k9).old k10 hreg
      have hlen : (N.take i ++ [(s, Value.iface un pn, f), (s2, Value.iface u2 p2, f2')] ++ N.drop (i + 1)).length = N.length + 1 := by simp; omega
      refine (hJ _).2 ⟨⟨g', o', c', N.take i ++ [(s, Value.iface un pn, f), (s2, Value.iface u2 p2, f2')] ++ N.drop (i + 1), c4.old c410 fun y j hy => .inl (.inl (hFo y j hy)), by rw [hlen]; exact k10.get b9 fun j hj => hlb hj.1, hks', ?_, hO4.cframe c410 fun p hp y j hy hz => hdj3 p hp y j (.inl hz) hy, fun p hp y j hy hz => ?_, hgF (hgg.imp id fun h => by omega), hft3, hlg, hlb⟩, k10.get fl9 fun j hj => hlg hj.1.symm⟩
      · rw [hlen, vals_put]
        have hA : lw (lw (R ++ z) ((i + 1) * 2) (((R ++ z).drop (i * 2)).take ((N.length - i) * 2))) ((i + 1) * 2) [ek m2, .iface u2 p2] = R.take ((i + 1) * 2) ++ ([ek m2, .iface u2 p2] ++ R.drop ((i + 1) * 2)) := by
          have e1 : (i + 1) * 2 = i * 2 + 2 := by omega
          have e2 : (N.length - i) * 2 = R.length - i * 2 := by omega
          rw [e1, e2]
          exact ins_place2 (by omega) hz1 rfl
        have hB : els h ((vals N).take i ++ vals [(s, Value.iface un pn, f), (s2, Value.iface u2 p2, f2')] ++ (vals N).drop (i + 1)) = R.take ((i + 1) * 2) ++ ([ek m2, .iface u2 p2] ++ R.drop ((i + 1) * 2)) := by
          rw [← hRq, ← els_take, ← els_drop, ← el_of hm2]
          have e1 : ((vals N).set i (s, Value.iface un pn)).take (i + 1) = (vals N).take i ++ [(s, .iface un pn)] := by
            rw [List.take_set, List.take_succ_eq_append_getElem hip, List.set_append_right _ _ (by rw [List.length_take]; omega)]
            rw [show i - ((vals N).take i).length = 0 from by rw [List.length_take]; omega]; rfl
          have e2 : ((vals N).set i (s, Value.iface un pn)).drop (i + 1) = (vals N).drop (i + 1) := by rw [List.drop_set_of_lt (by omega)]
          rw [e1, e2]
          simp [els, vals]
        rw [hB, ← hA]; exact hg10
      · rcases hy with rfl | hy
        · exact hdj3 p hp _ j (.inl (.inl rfl)) hz
        · rcases hreg y j hy with h | h
          · exact hdj3 p hp y j (.inl h) hz
          · have := (hO4.1 p hp).low y j hz; omega
  · obtain ⟨⟨g', o', c', N', c9, b9, hks9, hg9, hO9, hd9, hf9, hft9, hgr9, hbg9⟩, fl9⟩ := (hJ _).1 hj
    rw [← hks9] at hK
    have h33 : N'.length ≤ 33 := by
      have := congrArg List.length hks9
      simp only [List.length_map, List.length_append, List.length_take, List.length_drop] at this
      omega
    have hlg' := hg9.lt
    have hcc := hg9.le
    have n9 := c9.size
    clear hj hJ
    simp [-getElem?_pos, -Array.getElem?_eq_getElem, -Int.natCast_add, -op_build_269_, -pur_build_269_, ptr, b9]
    refine ⟨fun hgt => ?_, fun hle => ?_⟩
    · have e33 : N'.length = 33 := by omega
      rw [split_two (by rw [List.length_map]; exact e33)] at hK
      rw [e33] at hg9 b9
      have e16 : IntKind.i64.wrap (((33 : Nat) : Int).tdiv 2) = 16 := by rw [IntKind.wrap_i64]; rfl
      have e16' : IntKind.i64.wrap 16 = 16 := by rw [IntKind.wrap_i64]; rfl
      have a1 := Sg.mx (i := 16) hg9 (by omega)
      have a2 := Sg.lo (i := 16) hg9 (by omega)
      have hc16' : ¬ c' = 16 := by omega
      simp [-getElem?_pos, -Array.getElem?_eq_getElem, -Int.natCast_add, -op_build_269_, -pur_build_269_, b9, e33, e16, e16']
      refine ⟨by omega, ?_⟩
      refine op_box_ok fun w11 k11 z11 b11 => ?_
      have hb11 := k11.get b9 fun h => h
      simp [-getElem?_pos, -Array.getElem?_eq_getElem, -Int.natCast_add, -op_build_269_, -pur_build_269_, hb11, e33, e16, e16']
      refine ⟨by omega, ?_⟩
      refine op_box_ok fun w12 k12 z12 b12 => ?_
      try simp [-getElem?_pos, -Array.getElem?_eq_getElem, -Int.natCast_add, -op_build_269_, -pur_build_269_]
      have c11 := k12.get b11 fun h => h
      have f12 := k11.no k12
      have n11 := k11.size
      have hO12 := hO9.still f12
      have q1 : Sg w12 269 2 g' o' 16 16 (els h (vals (N'.take 16))) := by
        have := a1.still f12
        rw [← els_take] at this
        rw [show vals (N'.take 16) = (vals N').take 16 from by simp [vals, List.map_take]]; exact this
      have q2 : Sg w12 269 2 g' (o' + 16 * 2) 17 (c' - 16) (els h (vals (N'.drop 16))) := by
        have := a2.still f12
        rw [← els_drop] at this
        rw [show vals (N'.drop 16) = (vals N').drop 16 from by simp [vals, List.map_drop]]; exact this
      have l1 : (N'.take 16).length = 16 := by rw [List.length_take]; omega
      have l2 : (N'.drop 16).length = 17 := by rw [List.length_drop]; omega
      have hpw := List.pairwise_append.1 (show (N'.take 16 ++ N'.drop 16).Pairwise _ by rw [List.take_append_drop]; exact hO12.2)
      have hlow9 : ∀ p ∈ N', ∀ y j, p.2.2 y j → y < wl.heap.size := fun p hp => (hO9.1 p hp).low
      have hreg : ∀ y j, (y = g' ∧ o' ≤ j ∧ j < o' + c' * 2) → own1 b g' o' c' 2 y j := fun y j h => .inr h
      have hc16 : 16 * 2 + (c' - 16) * 2 = c' * 2 := by omega
      have ap : ∀ {nb o2 c2 : Nat}, wl.heap.size ≤ nb → o' ≤ o2 → o2 + c2 * 2 ≤ o' + c' * 2 → ∀ p ∈ N', Disj (own1 nb g' o2 c2 2) p.2.2 := fun {nb o2 c2} h1 h2 h3 p hp y j hy hz => by
        rcases hy with rfl | ⟨e1, e2, e3⟩
        · have := hlow9 p hp _ j hz; omega
        · exact hd9 p hp y j (hreg y j ⟨e1, by omega, by omega⟩) hz
      have ft : ∀ {nb o2 c2 : Nat}, wl.heap.size ≤ nb → o' ≤ o2 → o2 + c2 * 2 ≤ o' + c' * 2 → ∀ y j, own1 nb g' o2 c2 2 y j → F y j ∨ w.heap.size ≤ y := fun {nb o2 c2} h1 h2 h3 y j hy => by
        rcases hy with rfl | ⟨e1, e2, e3⟩
        · exact .inr (by omega)
        · exact hf9 y j (hreg y j ⟨e1, by omega, by omega⟩)
      refine hK w12 [(.br ((N'.take 16).map (·.1)), .iface 262 (ptr wl.heap.size), fun y j => own1 wl.heap.size g' o' 16 2 y j ∨ ∃ p ∈ N'.take 16, p.2.2 y j), (.br ((N'.drop 16).map (·.1)), .iface 262 (ptr w11.heap.size), fun y j => own1 w11.heap.size g' (o' + 16 * 2) (c' - 16) 2 y j ∨ ∃ p ∈ N'.drop 16, p.2.2 y j)] (c9.no f12) (fl9.frame f12 fun h => h) ⟨fun p hp => ?_, ?_⟩ (by simp [List.map_take, List.map_drop]) fun p hp y j hy => ?_
      · simp only [List.mem_cons, List.not_mem_nil, or_false] at hp
        rcases hp with rfl | rfl
        · exact ⟨_, g', o', 16, N'.take 16, rfl, by rw [l1]; simpa [cells_agg, e33] using c11, rfl, by rw [l1]; exact q1, fun p hp => hO12.1 p (List.mem_of_mem_take hp), hpw.1, fun p hp => ap (Nat.le_refl _) (Nat.le_refl _) (by omega) p (List.mem_of_mem_take hp), rfl⟩
        · exact ⟨_, g', o' + 16 * 2, c' - 16, N'.drop 16, rfl, by rw [l2]; simpa [cells_agg, e33, hc16'] using b12, rfl, by rw [l2]; exact q2, fun p hp => hO12.1 p (List.mem_of_mem_drop hp), hpw.2.1, fun p hp => ap n11 (by omega) (by omega) p (List.mem_of_mem_drop hp), rfl⟩
      · simp only [List.pairwise_cons, List.mem_cons, List.not_mem_nil, or_false, forall_eq, false_imp_iff, implies_true, and_true, List.Pairwise.nil]
        rintro y j (h1 | ⟨p, hp, h1⟩) (h2 | ⟨q, hq, h2⟩)
        · rcases h1 with rfl | ⟨rfl, h3, h4⟩
          · rcases h2 with h | ⟨h, _⟩ <;> omega
          · rcases h2 with h | ⟨_, h5, h6⟩ <;> omega
        · exact ap (Nat.le_refl _) (Nat.le_refl _) (by omega) q (List.mem_of_mem_drop hq) y j h1 h2
        · exact ap n11 (by omega) (by omega) p (List.mem_of_mem_take hp) y j h2 h1
        · exact hpw.2.2 p hp q hq y j h1 h2
      · simp only [List.mem_cons, List.not_mem_nil, or_false] at hp
        rcases hp with rfl | rfl
        · rcases hy with hy | ⟨q, hq, hy⟩
          · exact ft (Nat.le_refl _) (Nat.le_refl _) (by omega) y j hy
          · exact hft9 q (List.mem_of_mem_take hq) y j hy
        · rcases hy with hy | ⟨q, hq, hy⟩
          · exact ft n11 (by omega) (by omega) y j hy
          · exact hft9 q (List.mem_of_mem_drop hq) y j hy
    · rw [split_one (by rw [List.length_map]; omega)] at hK
      refine hK wl [(.br (N'.map (·.1)), .iface 262 (ptr b), fun y j => own1 b g' o' c' 2 y j ∨ ∃ p ∈ N', p.2.2 y j)] c9 fl9 ⟨fun p hp => ?_, List.pairwise_singleton _ _⟩ rfl fun p hp y j hy => ?_
      · rw [List.mem_singleton.1 hp]
        exact ⟨b, g', o', c', N', rfl, b9, rfl, hg9, hO9.1, hO9.2, hd9, rfl⟩
      · rw [List.mem_singleton.1 hp] at hy
        rcases hy with hy | ⟨q, hq, hy⟩
        · exact hf9 y j hy
        · exact hft9 q hq y j hy
theorem setM_ok (hC : IsC cv lt) : ∀ {h : Nat} {t : Tr} {v : Value} {F : Foot} {w : World} {K : KV} {Kp : KP}, RepC w h t v F → WF h t → Sd lt (toL h t) → flag w rb r0 →
      (∀ w' N, CFrm (fun y j => F y j ∨ y = rb) w w' → flag w' rb (r0 || !has lt (toL h t) k) → Own w' h N → N.map (·.1) = setT lt h t k x → (∀ p ∈ N, ∀ y j, p.2.2 y j → F y j ∨ w.heap.size ≤ y) → K (two (N.map (·.2.1))) w') →
      nP.call (.inv v "pub-bracken/pub/immutable.set") [ek k, ev x, cv, .bool true, .pointer (some ⟨rb, 0, none⟩)] w K Kp
  | 0, t, v, F, w, K, Kp, hr, hw, hs, hfl, hK => by
    obtain ⟨es, rfl, h1, h2⟩ := wf_zero.1 hw
    exact leafSetM_ok hC hr hw hs hfl hK
  | h + 1, t, v, F, w, K, Kp, hr, hw, hs, hfl, hK => by
    obtain ⟨ks, rfl, h1, h2, h3⟩ := wf_succ.1 hw
    exact brSetM_ok hC hr hw hs hfl (fun hr' hw' hs' hfl' hK' => setM_ok hC hr' hw' hs' hfl' hK') hK
end Go.Proofs.YtodjijfblgnfmaaGreatDoor.T
end
section
namespace Go.Proofs.YtodjijfblgnfmaaGreatDoor.T
open Go.Vc Go.Proofs Go.Proofs.YtodjijfblgnfmaaGreatDoor Go.Vc.Bt
variable {w w' : World} {v cv : Value} {t : Tr} {K : KV} {Kp : KP} {lt : Ky → Ky → Bool} {k : Ky} {x : Vl} {rb n : Nat} {r0 : Bool} {b c h : Nat} {r : Root Ky Vl} {F : Foot}
def RepRC (w : World) : Root Ky Vl → Value → Foot → Prop
  | none, v, F => v = .nilIface ∧ F = fun _ _ => False
  | some (h, t), v, F => RepC w h t v F
theorem RepRC.cframe {M : Foot} (h : RepRC w r v F) (hf : CFrm M w w') (hM : Disj F M) : RepRC w' r v F := by
  match r, h with
  | none, h => exact h
  | some (h, t), hr => exact RepC.cframe hr hf hM
theorem RepRC.rep (h : RepRC w r v F) : RepR w r v := by
  match r, h with
  | none, h => exact h.1
  | some (h, t), hr => exact RepC.rep hr
theorem RepRC.ty (h : RepRC w r v F) : ∀ y j, F y j → ∃ cs e, w.heap[y]? = some (.cells cs e (0, 0)) ∧ (e = 206 ∨ e = 203 ∨ e = 267 ∨ e = 269) := by
  match r, h with
  | none, h => intro y j hy; rw [h.2] at hy; exact hy.elim
  | some (h, t), hr => exact RepC.ty hr
theorem RepRC.low (h : RepRC w r v F) : ∀ y j, F y j → y < w.heap.size := fun y j hy => by obtain ⟨cs, e, h1, _⟩ := h.ty y j hy; exact lt_of_get h1
theorem RepRC.not {c : Nat} {cs : Array Value} {e : TypeId} {fz : Nat × Nat} (h : RepRC w r v F) (hc : w.heap[c]? = some (.cells cs e fz)) (he : e ≠ 206 ∧ e ≠ 203 ∧ e ≠ 267 ∧ e ≠ 269) : ∀ j, ¬ F c j := fun j hj => by
  obtain ⟨cs', e', h1, h2⟩ := h.ty c j hj
  rw [hc] at h1
  cases h1
  rcases h2 with rfl | rfl | rfl | rfl
  · exact he.1 rfl
  · exact he.2.1 rfl
  · exact he.2.2.1 rfl
  · exact he.2.2.2 rfl
def RepMC (w : World) (b : Nat) (lt : Ky → Ky → Bool) (r : Root Ky Vl) (F : Foot) : Prop := ∃ rv cv, w.heap[b]? = some (.cells #[.int .i64 (rL r).length, rv, cv] 190 (0, 0)) ∧ RepRC w r rv F ∧ CmpOk cv lt r
theorem RepMC.rep (h : RepMC w b lt r F) : RepM w b lt r := by
  obtain ⟨rv, cv, h1, h2, h3⟩ := h
  exact ⟨rv, cv, h1, h2.rep, h3⟩
theorem RepMC.cframe {M : Foot} (h : RepMC w b lt r F) (hf : CFrm M w w') (hM : Disj F M) (hb : ∀ j, ¬ M b j) : RepMC w' b lt r F := by
  obtain ⟨rv, cv, h1, h2, h3⟩ := h
  exact ⟨rv, cv, hf.get h1 hb, h2.cframe hf hM, h3⟩
theorem cell_frm {cs cs' : Array Value} {e : TypeId} (hf : Frm (· = c) w w') (h1 : w.heap[c]? = some (.cells cs e (0, 0))) (h2 : w'.heap[c]? = some (.cells cs' e (0, 0))) (hs : cs'.size = cs.size) : CFrm (fun y _ => y = c) w w' :=
  (CFrm.one (I := fun _ => True) hf h1 h2 hs (fun j hj => absurd trivial hj) ⟨0, trivial⟩).mono fun b j h _ => h.1
theorem mapSetM_ok (hl : Lin lt) (hm : RepMC w b lt r F) (hok : Ok lt n r) (hn : (rL r).length < 2 ^ 60)
    (hK : ∀ w' F', CFrm (fun y j => F y j ∨ y = b) w w' → RepMC w' b lt (some (setR lt r k x)) F' → (∀ y j, F' y j → F y j ∨ w.heap.size ≤ y) → K (ptr b) w') : Calls Tryz.prog 141 #[ptr b, ek k, ev x, .bool true] w (ret K Kp) := by
  refine vc141_calls ?_
  delta vc141
  obtain ⟨rv, cv, h1, h2, h3⟩ := hm
  have hsz := put_len (lt := lt) (L := rL r) (k := k) (v := x)
  have hspec := setR_spec hl hok k x
  have hbF := h2.not h1 (by decide)
  have hlb := lt_of_get h1
  simp [-getElem?_pos, -Array.getElem?_eq_getElem, -Int.natCast_add, ptr, h1]
  obtain ⟨J, hJ⟩ : ∃ J : KV, ∀ e wl, J e wl ↔ IsC e lt ∧ Frm (fun _ => False) w wl := ⟨_, fun _ _ => Iff.rfl⟩
  refine Jn.intro J ⟨?_, ?_⟩
  · rcases h3 with h3 | ⟨rfl, hd, _⟩
    · obtain ⟨u, p, rfl⟩ := h3.iface
      simp [-getElem?_pos, -Array.getElem?_eq_getElem, -Int.natCast_add]
      exact (hJ _ _).2 ⟨h3, Frm.refl⟩
    · simp [-getElem?_pos, -Array.getElem?_eq_getElem, -Int.natCast_add]
      exact hd fun w' cv hf hc => (hJ _ _).2 ⟨hc, hf⟩
  intro w1 cv1 hj
  obtain ⟨hC, f1⟩ := (hJ _ _).1 hj
  clear hJ hj J
  have a1 := f1.get h1 fun h => h
  have c1 := CmpOk.one (lt := lt) (r := none) (.inl hC)
  have s1 := f1.size
  obtain ⟨J, hJ⟩ : ∃ J : KV, ∀ e wl, J e wl ↔ e = ptr b ∧ wl = w1 := ⟨_, fun _ _ => Iff.rfl⟩
  refine Jn.intro J ⟨(hJ _ _).2 ⟨rfl, rfl⟩, ?_⟩
  intro w2 o2 hj
  obtain ⟨rfl, rfl⟩ := (hJ _ _).1 hj
  clear hJ hj J
  simp [-getElem?_pos, -Array.getElem?_eq_getElem, -Int.natCast_add, ptr]
  refine op_store_ok (by kernel_rfl) a1 (by simp) c1 fun w3 k3 z3 b3 => ?_
  have b3 : w3.heap[b]? = some (.cells #[.int .i64 (rL r).length, rv, cv1] 190 (0, 0)) := by simpa using b3
  have g3 : CFrm (fun y _ => y = b) w w3 := CFrm.fst f1 (cell_frm k3 a1 b3 rfl)
  have r3 := h2.cframe g3 fun y j hy e => hbF j (by rw [← e]; exact hy)
  match r, h2, hok, r3 with
  | none, h2, _, r3 =>
    obtain ⟨rfl, hF⟩ : rv = .nilIface ∧ F = fun _ _ => False := h2
    simp [-getElem?_pos, -Array.getElem?_eq_getElem, -Int.natCast_add, b3]
    refine op_store_ok (by kernel_rfl) b3 (by simp) rfl fun w4 k4 z4 b4 => ?_
    refine op_lit_ok lit_204_1 fun w5 k5 z5 b5 => ?_
    simp [-getElem?_pos, -Array.getElem?_eq_getElem, -Int.natCast_add]
    refine op_box_ok fun w6 k6 z6 b6 => ?_
    simp only [cells_agg] at b6
    have g4 : CFrm (fun y _ => y = b) w w4 := g3.trans (cell_frm k4 b3 b4 (by simp)) fun _ _ h _ => h
    have g56 := k5.no k6
    have b4' := g56.get b4 fun h => h
    have hl4 := lt_of_get b4
    refine op_store_ok (by kernel_rfl) b4' (by simp) rfl fun w7 k7 z7 b7 => ?_
    have n4 := g4.size
    refine hK w7 (own1 w5.heap.size w4.heap.size 0 1 2) (((g4.no g56).trans (cell_frm k7 b4' b7 (by simp)) fun _ _ h _ => h).mono fun _ _ h _ => .inr h) ⟨.iface 200 (ptr w5.heap.size), cv1, by simpa [rL, setR, toL, ptr] using b7, ?_, .inl hC⟩ fun y j hy => ?_
    · refine ⟨_, w4.heap.size, 0, 1, rfl, k7.get b6 (by omega), ?_, rfl⟩
      exact ⟨_, (k6.get b5 fun h => h) |> fun q => k7.get q (by omega), rfl, Nat.le_refl _, by simp, rfl, by decide⟩
    · rcases hy with rfl | ⟨rfl, _⟩
      · exact .inr (by omega)
      · exact .inr n4
  | some (h, t), h2, hok, r3 =>
    obtain ⟨o1, o2, o3, o4⟩ := hok
    have hr : RepC w3 h t rv F := r3
    obtain ⟨u, p, rfl⟩ := hr.rep.iface
    simp [-getElem?_pos, -Array.getElem?_eq_getElem, -Int.natCast_add, b3]
    refine op_alloc_ok (z := .bool false) (by kernel_rfl) fun w4 k4 z4 fl4 => ?_
    have hl3 := lt_of_get b3
    have b4 := k4.get b3 fun h => h
    simp [-getElem?_pos, -Array.getElem?_eq_getElem, -Int.natCast_add, b4]
    obtain ⟨g1, g2, g3', g4⟩ := setT_spec hl h t k x o1 o2
    have hl12 : (setT lt h t k x).length = 1 ∨ (setT lt h t k x).length = 2 := by have := List.length_pos_iff.2 g4; omega
    have n3 := g3.size
    refine setM_ok (rb := w3.heap.size) (r0 := false) hC (hr.still k4) o1 o2 fl4 fun w5 N k5 fl5 hO hN hsub => ?_
    have hb3r : b ≠ w3.heap.size := by omega
    have b5 := k5.get b4 fun j hj => hj.elim (hbF j) fun e => hb3r e
    have g5 : CFrm (fun y j => F y j ∨ y = b) w w5 := ((g3.no k4).mono fun _ _ h _ => .inr h).old k5 fun y j hy => hy.elim (fun h => .inl (.inl h)) fun e => .inr (by omega)
    rw [Bool.false_or] at fl5
    have hft : ∀ q ∈ N, ∀ y j, q.2.2 y j → F y j ∨ w.heap.size ≤ y := fun q hq y j hy => (hsub q hq y j hy).imp id fun h => by omega
    have n5 := g5.size
    obtain ⟨J, hJ⟩ : ∃ J : KV, ∀ e wl, J e wl ↔ Frm (fun _ => False) w5 wl ∧ ∃ F', RepRC wl (some (setR lt (some (h, t)) k x)) e F' ∧ ∀ y j, F' y j → F y j ∨ w.heap.size ≤ y := ⟨_, fun _ _ => Iff.rfl⟩
    obtain ⟨e1, e2, he, hcase⟩ : ∃ e1 e2, two (N.map (·.2.1)) = .tuple #[e1, e2] ∧ ((∃ s f, N = [(s, e1, f)] ∧ e2 = .nilIface) ∨ ∃ s f s2 f2, N = [(s, e1, f), (s2, e2, f2)]) := by
      rcases hl12 with h' | h'
      · obtain ⟨s, n, f, rfl, _⟩ := hO.one (by rw [← hN, List.length_map] at h'; exact h'); exact ⟨_, _, rfl, .inl ⟨s, f, rfl, rfl⟩⟩
      · obtain ⟨s, n, f, s2, n2, f2, rfl, _⟩ := hO.pair (by rw [← hN, List.length_map] at h'; exact h'); exact ⟨_, _, rfl, .inr ⟨s, f, s2, f2, rfl⟩⟩
    rw [he]
    simp [-getElem?_pos, -Array.getElem?_eq_getElem, -Int.natCast_add]
    refine Jn.intro J ⟨?_, ?_⟩
    · rcases hcase with ⟨s, f, rfl, rfl⟩ | ⟨s, f, s2, f2, rfl⟩
      · simp [-getElem?_pos, -Array.getElem?_eq_getElem, -Int.natCast_add]
        refine (hJ _ _).2 ⟨Frm.refl, f, ?_, hft (s, e1, f) (by simp)⟩
        rw [setR, ← hN]; exact hO.1 _ (List.mem_singleton.2 rfl)
      · have hn1 := hO.1 (s, e1, f) (by simp)
        have hn2 := hO.1 (s2, e2, f2) (by simp)
        obtain ⟨u1, p1, rfl⟩ := hn1.rep.iface
        obtain ⟨u2, p2, rfl⟩ := hn2.rep.iface
        simp [-getElem?_pos, -Array.getElem?_eq_getElem, -Int.natCast_add]
        refine op_lit_ok (lit_343_2 rfl rfl) fun w6 k6 z6 b6 => ?_
        refine newBr0_ok b6 (hn1.still k6).rep (hn2.still k6).rep (g2 s (by rw [← hN]; simp)) (g2 s2 (by rw [← hN]; simp)) fun w7 b' k7 hb' hb7 hg7 => ?_
        have hO7 := (hO.still k6).still k7
        have n6 := k6.size
        have hdj : ∀ q ∈ [(s, Value.iface u1 p1, f), (s2, Value.iface u2 p2, f2)], Disj (own1 b' w6.heap.size 0 2 2) q.2.2 := fun q hq y j hy hz => by
          have h1 := (hO.1 q hq).low y j hz
          rcases hy with rfl | ⟨rfl, _⟩ <;> omega
        refine (hJ _ _).2 ⟨k6.no k7, fun y j => own1 b' w6.heap.size 0 2 2 y j ∨ ∃ q ∈ [(s, Value.iface u1 p1, f), (s2, Value.iface u2 p2, f2)], q.2.2 y j, ?_, fun y j hy => ?_⟩
        · rw [setR, ← hN]
          exact ⟨b', w6.heap.size, 0, 2, [(s, Value.iface u1 p1, f), (s2, Value.iface u2 p2, f2)], rfl, hb7, rfl, hg7, hO7.1, hO7.2, hdj, rfl⟩
        · rcases hy with (rfl | ⟨rfl, _⟩) | ⟨q, hq, hy⟩
          · exact .inr (by omega)
          · exact .inr (by omega)
          · exact hft q hq y j hy
    · intro w6 rt hj
      obtain ⟨f6, F', hr6, hF'⟩ := (hJ _ _).1 hj
      have one6 := hr6.rep.one
      have g6 := g5.no f6
      have b6 := f6.get b5 fun h => h
      have fl6 := f6.get (show w5.heap[w3.heap.size]? = _ from fl5) fun h => h
      have hbF' := hr6.not b6 (by decide)
      simp [-getElem?_pos, -Array.getElem?_eq_getElem, -Int.natCast_add, b6]
      refine op_store_ok (by kernel_rfl) b6 (by simp) rfl fun w7 k7 z7 b7 => ?_
      have b7 : w7.heap[b]? = some (.cells #[.int .i64 (rL (some (h, t))).length, .iface u p, cv1] 190 (0, 0)) := by simpa using b7
      refine op_store_ok (by kernel_rfl) b7 (by simp) one6 fun w8 k8 z8 b8 => ?_
      have b8 : w8.heap[b]? = some (.cells #[.int .i64 (rL (some (h, t))).length, rt, cv1] 190 (0, 0)) := by simpa using b8
      have c68 : CFrm (fun y _ => y = b) w6 w8 := (cell_frm k7 b6 b7 rfl).trans (cell_frm k8 b7 b8 rfl) fun _ _ h _ => h
      have g8 : CFrm (fun y j => F y j ∨ y = b) w w8 := g6.trans c68 fun _ _ h _ => .inr h
      have fl8 := k8.get (k7.get fl6 (by omega)) (by omega)
      have hr8 := hr6.cframe c68 fun y j hy e => hbF' j (by rw [← e]; exact hy)
      have hlen : (rL (some (setR lt (some (h, t)) k x))).length = (rL (some (h, t))).length + if has lt (toL h t) k then 0 else 1 := by rw [hspec.1, hsz]; rfl
      simp [-getElem?_pos, -Array.getElem?_eq_getElem, -Int.natCast_add, fl8]
      cases hh : has lt (toL h t) k with
      | true =>
        simp [-getElem?_pos, -Array.getElem?_eq_getElem, -Int.natCast_add]
        rw [hh] at hlen
        refine hK w8 F' g8 ⟨rt, cv1, ?_, hr8, .inl hC⟩ hF'
        rw [hlen]; simpa using b8
      | false =>
        rw [hh] at hlen
        simp [-getElem?_pos, -Array.getElem?_eq_getElem, -Int.natCast_add, b8]
        refine op_store_ok (by kernel_rfl) b8 (by simp) rfl fun w9 k9 z9 b9 => ?_
        have hr9 := hr8.cframe (cell_frm k9 b8 b9 (by simp)) fun y j hy e => hbF' j (by rw [← e]; exact hy)
        refine hK w9 F' (g8.trans (cell_frm k9 b8 b9 (by simp)) fun _ _ h _ => .inr h) ⟨rt, cv1, ?_, hr9, .inl hC⟩ hF'
        rw [hlen]
        rw [show IntKind.i64.wrap (((rL (some (h, t))).length : Int) + 1) = (((rL (some (h, t))).length + 1 : Nat) : Int) from by rw [IntKind.wrap_i64]; omega] at b9
        simpa using b9
end Go.Proofs.YtodjijfblgnfmaaGreatDoor.T
end
section
namespace Go.Proofs.YtodjijfblgnfmaaGreatDoor.T
open Go.Vc Go.Proofs Go.Proofs.YtodjijfblgnfmaaGreatDoor Go.Vc.Bt
variable {w w' : World} {v cv : Value} {t : Tr} {K : KV} {Kp : KP} {lt : Ky → Ky → Bool} {k : Ky} {rb : Nat} {b g o c h : Nat} {es : List (Ky × Vl)} {F : Foot}
def RepOC (w : World) (h : Nat) : Option Tr → Value → Foot → Prop
  | none, v, F => v = .nilIface ∧ F = fun _ _ => False
  | some t, v, F => RepC w h t v F
theorem del_place {A z : List Value} {r q : Nat} (h : r + q ≤ A.length) : (lw (lw A r ((A.drop (r + q)).take (A.length - (r + q)))) (A.length - q) z).take (A.length - q) = A.take r ++ A.drop (r + q) := by
  have e1 : (A.drop (r + q)).take (A.length - (r + q)) = A.drop (r + q) := List.take_of_length_le (by rw [List.length_drop]; exact Nat.le_refl _)
  rw [e1]
  have l1 : (A.take r).length = r := by rw [List.length_take]; omega
  have l2 : (A.drop (r + q)).length = A.length - (r + q) := List.length_drop
  generalize hB : A.take r = B at *
  generalize A.drop (r + q) = C at *
  have l3 : (lw A r C).take (A.length - q) = B ++ C := by
    unfold lw
    rw [hB]
    rw [List.take_append_of_le_length (by rw [List.length_append]; omega), List.take_of_length_le (by rw [List.length_append]; omega)]
  have l4 : (lw A r C).length = A.length := lw_len (by omega)
  generalize lw A r C = D at *
  unfold lw
  rw [List.append_assoc, List.take_append_of_le_length (by rw [List.length_take]; omega), List.take_take, Nat.min_self, l3]
theorem leafDelM_ok (hC : IsC cv lt) (hr : RepC w 0 (.leaf es) v F) (hw : WF 0 (.leaf es)) (hs : Sd lt es) (hfl : flag w rb false)
    (hN : ∀ w', Frm (fun _ => False) w w' → has lt es k = false → K v w')
    (hY : ∀ w' v' F', CFrm (fun y j => F y j ∨ y = rb) w w' → has lt es k = true → flag w' rb true → RepOC w' 0 (delT lt 0 (.leaf es) k) v' F' → (∀ y j, F' y j → F y j) → K v' w') :
    nP.call (.inv v "pub-bracken/pub/immutable.delete") [ek k, cv, .bool true, .pointer (some ⟨rb, 0, none⟩)] w K Kp := by
  obtain ⟨h1, h2⟩ : es ≠ [] ∧ es.length ≤ 32 := hw
  have hrb := hr.flag hfl
  have hlow := hr.low
  obtain ⟨b, g, o, c, rfl, hb, hg, hF⟩ := hr
  have hFb : ∀ j, F b j := fun j => by rw [hF]; exact .inl rfl
  have hFg : ∀ j, o ≤ j → j < o + c * 2 → F g j := fun j h h' => by rw [hF]; exact .inr ⟨rfl, h, h'⟩
  have h0 : 0 < es.length := List.length_pos_iff.2 h1
  simp only [inv_200_233]
  refine vc233_calls ?_
  delta vc233
  simp only [call_235]
  refine leafIdx_ok hC hs (by omega) hb hg fun w1 f1 => ?_
  have hb1 := f1.get hb fun h => h
  have hg1 := hg.still f1
  have hfl1 := hfl.frame f1 fun h => h
  have hp := place_le (lt := lt) es k
  simp [-getElem?_pos, -Array.getElem?_eq_getElem, -Int.natCast_add, ptr, hb1]
  refine ⟨fun hge => ?_, fun hlt => ?_⟩
  · have hh : has lt es k = false := by unfold has; rw [List.getElem?_eq_none (by omega)]
    exact hN w1.drew (Frm.no f1 (Frm.drew _)) hh
  · have hlt' : place lt es k < es.length := by omega
    obtain ⟨cur, hcur, hk⟩ := leafKey hg1
    have hki := hk _ hlt'
    simp [-getElem?_pos, -Array.getElem?_eq_getElem, -Int.natCast_add, hcur, hki, hC.nilC]
    refine ⟨hlt', hC.cmp fun w2 f2 => ?_⟩
    have f2' := Frm.no f1 (Frm.dr f2)
    have hfl2 := hfl.frame f2' fun h => h
    have hz : Bt.cmp lt es[place lt es k].1 k = 0 ↔ es[place lt es k].1 = k := cmp_zero hC.lin
    have hhi : has lt es k = decide (es[place lt es k].1 = k) := by unfold has; rw [List.getElem?_eq_getElem hlt']
    by_cases e : es[place lt es k].1 = k
    · have hh : has lt es k = true := by rw [hhi]; exact decide_eq_true e
      rw [hz.2 e]
      have hY := fun w' v' F' hf => hY w' v' F' hf hh
      have hrm : rem lt es k = es.eraseIdx (place lt es k) := by unfold rem; rw [if_pos hh]
      rw [delT, hrm] at hY
      clear hz hhi e hki hk hN
      generalize place lt es k = p at *
      simp [-getElem?_pos, -Array.getElem?_eq_getElem, -Int.natCast_add]
      refine raise_ok hfl2 fun w3 k3 z3 fl3 => ?_
      have f3 : Frm (· = rb) w w3 := f2'.fst k3
      have c3 : CFrm (fun y j => F y j ∨ y = rb) w w3 := CFrm.fst f2' ((hfl2.cfrm k3 fl3).mono fun _ _ h _ => .inr h)
      have hb3 := f3.get hb (hfl.typed hb (by decide))
      have hg3 := Sg.past hg hfl (by decide) f3
      have hnb : b ≠ g := fun e => by
        obtain ⟨cs, e1, _⟩ := hg3
        rw [← e, hb3] at e1; cases e1
      have hnr : rb ≠ g := fun e => by
        obtain ⟨cs, e1, _⟩ := hg3
        exact fl3.typed e1 (by decide) e.symm
      simp [-getElem?_pos, -Array.getElem?_eq_getElem, -Int.natCast_add, hb3]
      refine ⟨fun h1' => ?_, fun hn1 => ?_⟩
      · refine hY w3 .nilIface (fun _ _ => False) c3 fl3 ?_ fun _ _ h => h.elim
        have hle : es.length = 1 := by omega
        have : es.eraseIdx p = [] := List.eq_nil_of_length_eq_zero (by rw [List.length_eraseIdx, if_pos hlt']; omega)
        rw [this]; exact ⟨rfl, rfl⟩
      · have hel := ents_len es
        have hpm : p * 2 + 2 ≤ es.length * 2 := by rw [← Nat.succ_mul]; exact Nat.mul_le_mul_right _ hlt'
        have hdl : (es.eraseIdx p).length = es.length - 1 := by rw [List.length_eraseIdx, if_pos hlt']
        have hY : ∀ w' v' F', CFrm (fun y j => F y j ∨ y = rb) w w' → flag w' rb true → RepC w' 0 (.leaf (es.eraseIdx p)) v' F' → (∀ y j, F' y j → F y j) → K v' w' := fun w' v' F' hf hfl' hr => hY w' v' F' hf hfl' (by
          rw [if_neg (by cases hq : es.eraseIdx p with
            | nil => rw [hq] at hdl; simp at hdl; omega
            | cons a l => simp)]; exact hr)
        have ewl : IntKind.i64.wrap ((es.length : Int) - 1) = ((es.length - 1 : Nat) : Int) := by rw [IntKind.wrap_i64]; omega
        have ewp : IntKind.i64.wrap ((p : Int) + 1) = ((p + 1 : Nat) : Int) := by rw [IntKind.wrap_i64]; omega
        have hgl := hg.le
        simp [-getElem?_pos, -Array.getElem?_eq_getElem, -Int.natCast_add, ewl, ewp]
        refine ⟨by omega, by omega, by omega, by omega, ?_⟩
        refine op_copyIn (m := es.length - (p + 1)) (x1 := p) (x2 := p + 1) (by kernel_rfl) (by decide) (hg3.still (Frm.drew _)) rfl rfl (by omega) (by omega) (by omega) (fun u hu => ents_one u hu) fun w4 k4 z4 hg4 => ?_
        have k4 := CFrm.fst (Frm.drew w3) k4
        have hgF : ∀ y j, (y = g ∧ o ≤ j ∧ j < o + c * 2) → F y j ∨ y = rb := fun y j ⟨e1, e2, e3⟩ => by subst e1; exact .inl (hFg j e2 e3)
        have c4 : CFrm (fun y j => F y j ∨ y = rb) w w4 := c3.trans k4 fun y j hy _ => hgF y j hy
        have hb4 := k4.get hb3 fun j hj => hnb hj.1
        have fl4 : flag w4 rb true := k4.get fl3 fun j hj => hnr hj.1
        simp [-getElem?_pos, -Array.getElem?_eq_getElem, -Int.natCast_add, hb4, ewl]
        refine ⟨by omega, op_storeSg (n := es.length) (m := 2) (by kernel_rfl) rfl (by decide) (hg4.still (Frm.drew _)) rfl (by rw [Nat.sub_mul]; omega) (fun u hu => by simp only [List.mem_toArray, List.mem_cons, List.not_mem_nil, or_false] at hu; rcases hu with rfl | rfl <;> rfl) fun w5 k5 z5 hg5 => ?_⟩
        have k5 := CFrm.fst (Frm.drew w4) k5
        have c5 : CFrm (fun y j => F y j ∨ y = rb) w w5 := c4.trans k5 fun y j hy _ => hgF y j hy
        have hb5 := k5.get hb4 fun j hj => hnb hj.1
        have fl5 : flag w5 rb true := k5.get fl4 fun j hj => hnr hj.1
        simp [-getElem?_pos, -Array.getElem?_eq_getElem, -Int.natCast_add, hb5, ewl]
        refine ⟨by omega, ?_⟩
        have hb5d : w5.drew.heap[b]? = some (.cells #[.slice (some ⟨g, o, none⟩) es.length c] 206 (0, 0)) := hb5
        refine op_store_ok (by kernel_rfl) hb5d (by simp) rfl fun w6 k6 z6 b6 => ?_
        have b6 : w6.heap[b]? = some (.cells #[.slice (some ⟨g, o, none⟩) (es.length - 1) c] 206 (0, 0)) := by simpa using b6
        have k6 : Frm (· = b) w5 w6 := (Frm.drew w5).fst k6
        have hg6 := (hg5.frame k6 fun e => hnb e.symm).hi (i := es.length - 1) (by omega)
        have c6 : CFrm (fun y j => F y j ∨ y = rb) w w6 := c5.trans (CFrm.one (I := fun _ => True) k6 hb5 b6 rfl (fun j hj => absurd trivial hj) ⟨0, trivial⟩) fun y j hy _ => .inl (by rw [hy.1]; exact hFb j)
        have fl6 : flag w6 rb true := k6.get fl5 fun e => fl3.typed hb3 (by decide) e.symm
        have e1 : ents (es.eraseIdx p) = (ents es).take (p * 2) ++ (ents es).drop (p * 2 + 2) := fm_del ent_len
        refine hY w6 (.iface 200 (ptr b)) F c6 fl6 ⟨b, g, o, c, rfl, by rw [hdl]; exact b6, ?_, hF⟩ fun _ _ h => h
        rw [hdl, e1, ← del_place (z := _) (by omega)]
        rw [hel, show es.length * 2 - 2 = (es.length - 1) * 2 from by rw [Nat.sub_mul, Nat.one_mul], show es.length * 2 - (p * 2 + 2) = (es.length - (p + 1)) * 2 from by rw [Nat.sub_mul, Nat.succ_mul], show p * 2 + 2 = (p + 1) * 2 from by rw [Nat.succ_mul]]
        exact hg6
    · have hh : has lt es k = false := by rw [hhi]; exact decide_eq_false e
      have he : ¬ Bt.cmp lt es[place lt es k].1 k = 0 := fun h => e (hz.1 h)
      simp [-getElem?_pos, -Array.getElem?_eq_getElem, -Int.natCast_add, he]
      exact hN w2 f2' hh
end Go.Proofs.YtodjijfblgnfmaaGreatDoor.T
end
section
namespace Go.Proofs.YtodjijfblgnfmaaGreatDoor.T
open Go.Vc Go.Proofs Go.Proofs.YtodjijfblgnfmaaGreatDoor Go.Vc.Bt
variable {w w' : World} {v cv : Value} {t : Tr} {K : KV} {Kp : KP} {lt : Ky → Ky → Bool} {k : Ky} {rb : Nat} {b g o c h i : Nat} {ks : List Tr} {F : Foot} {N N2 : List Nd}
theorem brDelM_ok (hC : IsC cv lt) (hr : RepC w (h + 1) (.br ks) v F) (hw : WF (h + 1) (.br ks)) (hs : Sd lt (toL (h + 1) (.br ks))) (hfl : flag w rb false)
    (ih : ∀ {t : Tr} {v : Value} {F : Foot} {w : World} {K : KV} {Kp : KP}, RepC w h t v F → WF h t → Sd lt (toL h t) → flag w rb false → (∀ w', Frm (fun _ => False) w w' → has lt (toL h t) k = false → K v w') →
      (∀ w' v' F', CFrm (fun y j => F y j ∨ y = rb) w w' → has lt (toL h t) k = true → flag w' rb true → RepOC w' h (delT lt h t k) v' F' → (∀ y j, F' y j → F y j) → K v' w') →
      nP.call (.inv v "pub-bracken/pub/immutable.delete") [ek k, cv, .bool true, .pointer (some ⟨rb, 0, none⟩)] w K Kp)
    (hNo : ∀ w', Frm (fun _ => False) w w' → has lt (toL (h + 1) (.br ks)) k = false → K v w')
    (hY : ∀ w' v' F', CFrm (fun y j => F y j ∨ y = rb) w w' → has lt (toL (h + 1) (.br ks)) k = true → flag w' rb true → RepOC w' (h + 1) (delT lt (h + 1) (.br ks) k) v' F' → (∀ y j, F' y j → F y j) → K v' w') :
    nP.call (.inv v "pub-bracken/pub/immutable.delete") [ek k, cv, .bool true, .pointer (some ⟨rb, 0, none⟩)] w K Kp := by
  obtain ⟨h1, h2, h3⟩ : ks ≠ [] ∧ ks.length ≤ 32 ∧ ∀ t ∈ ks, WF h t := id hw
  have hrb := hr.flag hfl
  have hlow := hr.low
  obtain ⟨b, g, o, c, N, rfl, hb, hks, hg, hN, hpw, hdj, hF⟩ := hr
  have hFo : ∀ y j, own1 b g o c 2 y j → F y j := fun y j h => by rw [hF]; exact .inl h
  have hFb : ∀ j, F b j := fun j => hFo b j (.inl rfl)
  have hFg : ∀ j, o ≤ j → j < o + c * 2 → F g j := fun j h h' => hFo g j (.inr ⟨rfl, h, h'⟩)
  have hFN : ∀ p ∈ N, ∀ y j, p.2.2 y j → F y j := fun p hp y j h => by rw [hF]; exact .inr ⟨p, hp, h⟩
  have hl : N.length = ks.length := by rw [hks, List.length_map]
  have hps : ks = (vals N).map (·.1) := by rw [hks]; simp [vals]
  rw [← vals_len] at hb hg
  simp only [inv_262_251]
  refine vc251_calls ?_
  delta vc251
  simp only [call_253]
  refine brIdx_ok hC hw hs hps hb hg fun w1 f1 => ?_
  have hi := kid_lt (lt := lt) (h := h) (k := k) h1
  have hA := kid_ahead hC.lin hw hs k
  have hB := kid_behind hC.lin hw hs k
  have hsp := toL_split (h := h) hi
  have hdt : delT lt (h + 1) (.br ks) k = match delT lt h ks[kid lt h ks k] k with
    | some t => some (.br (ks.set (kid lt h ks k) t))
    | none => if (ks.eraseIdx (kid lt h ks k)).isEmpty then none else some (.br (ks.eraseIdx (kid lt h ks k))) := by
    rw [delT, List.getElem?_eq_getElem hi, Option.bind_some]
    cases delT lt h ks[kid lt h ks k] k <;> rfl
  rw [hdt] at hY
  clear hdt
  generalize kid lt h ks k = i at *
  have hs2 : Sd lt (toL h ks[i]) := by
    rw [hsp] at hs
    exact (List.pairwise_append.1 (List.pairwise_append.1 hs).2.1).1
  rw [hsp, has_mid hC.lin hA hB] at hNo hY
  have hiN : i < N.length := by omega
  have hip : i < (vals N).length := by rw [vals_len]; exact hiN
  have hb1 := f1.get hb fun h => h
  have hg1 := hg.still f1
  have hfl1 := hfl.frame f1 fun h => h
  obtain ⟨cur, hcur, hk⟩ := elCells hg1
  have hki := (hk i hip).2
  have hvi : (vals N)[i] = (N[i].1, N[i].2.1) := by simp [vals]
  rw [hvi] at hki
  have hpi : N[i].1 = ks[i] := by simp [hks]
  have hmem : N[i] ∈ N := List.getElem_mem hiN
  have hO1 : Own w1 h N := Own.still ⟨hN, hpw⟩ f1
  have hr' := hO1.1 _ hmem
  rw [hpi] at hr'
  obtain ⟨g1, g2⟩ := delT_spec hC.lin h ks[i] k (h3 _ (List.getElem_mem hi)) hs2
  simp [-getElem?_pos, -Array.getElem?_eq_getElem, -Int.natCast_add, ptr, hb1, hcur, hki]
  refine ⟨by rw [vals_len]; exact hiN, ih hr' (h3 _ (List.getElem_mem hi)) hs2 hfl1 (fun w2 f2 hh => ?_) fun w2 v2 F2 f2 hh fl2 hr2 hsub => ?_⟩
  · have fl2' : w2.heap[rb]? = some (.cells #[.bool false] 4 (0, 0)) := hfl1.frame f2 fun h => h
    simp [-getElem?_pos, -Array.getElem?_eq_getElem, -Int.natCast_add, fl2']
    exact hNo w2 (f1.no f2) hh
  have fl2' : w2.heap[rb]? = some (.cells #[.bool true] 4 (0, 0)) := fl2
  have n1 := f1.size
  have hY := fun w' v' F' hf => hY w' v' F' hf hh
  clear hNo
  have c2 : CFrm (fun y j => F y j ∨ y = rb) w w2 := CFrm.fst f1 (f2.mono fun y j hy _ => hy.imp (hFN _ hmem y j) id)
  have hnrb : b ≠ rb := hfl.typed hb (by decide)
  have hown2 : ∀ y j, own1 b g o c 2 y j → ¬ (N[i].2.2 y j ∨ y = rb) := fun y j hy hz => by
    rcases hz with hz | rfl
    · exact hdj _ hmem y j hy hz
    · exact hrb j (hFo _ j hy)
  have hb2 := f2.get hb1 fun j => hown2 b j (.inl rfl)
  have hg2 := hg1.cframe f2 fun j h h' => hown2 g j (.inr ⟨rfl, h, h'⟩)
  have hgr : g ≠ rb := fun e => by
    obtain ⟨cs, e1, _⟩ := hg1
    exact hfl1.typed e1 (by decide) e
  have hbg : b ≠ g := fun e => by
    obtain ⟨cs, e1, _⟩ := hg1
    rw [← e, hb1] at e1; cases e1
  have hel := els_len h (vals N)
  have hxN := els_oneM hO1
  have hgF : ∀ y j, (y = g ∧ o ≤ j ∧ j < o + c * 2) → F y j ∨ y = rb := fun y j ⟨e1, e2, e3⟩ => by subst e1; exact .inl (hFg j e2 e3)
  have hdjN : ∀ N2 : List Nd, (∀ q ∈ N2, ∀ y j, q.2.2 y j → N[i].2.2 y j) → ∀ p ∈ N.take i ++ N2 ++ N.drop (i + 1), Disj (own1 b g o c 2) p.2.2 := fun N2 hs2 p hp y j hy hz => by
    rcases mem_put hp hiN with hp | hp
    · exact hdj _ hmem y j hy (hs2 p hp y j hz)
    · exact hdj p hp y j hy hz
  have hsubN : ∀ N2 : List Nd, (∀ q ∈ N2, ∀ y j, q.2.2 y j → N[i].2.2 y j) → ∀ p ∈ N.take i ++ N2 ++ N.drop (i + 1), ∀ y j, p.2.2 y j → F y j := fun N2 hs2 p hp y j hy => by
    rcases mem_put hp hiN with hp | hp
    · exact hFN _ hmem y j (hs2 p hp y j hy)
    · exact hFN p hp y j hy
  have hgl := hg2.le
  rw [vals_len] at hb2 hg2 hel hgl
  have hOp := fun (N2 : List Nd) (h2 : Own w2 h N2) (hq : ∀ q ∈ N2, ∀ y j, q.2.2 y j → N[i].2.2 y j) => own_put hiN hO1 h2 f2 (fun p hp j hj => hrb j (hFN p hp _ _ hj)) fun q hqm y j hy => .inl (hq q hqm y j hy)
  generalize delT lt h ks[i] k = d at *
  cases d with
  | none =>
    obtain ⟨rfl, _⟩ : v2 = .nilIface ∧ _ := hr2
    dsimp only at hY
    simp [-getElem?_pos, -Array.getElem?_eq_getElem, -Int.natCast_add, fl2', hb2]
    refine ⟨fun h1' => ?_, fun hn1 => ?_⟩
    · refine hY w2 .nilIface (fun _ _ => False) c2 fl2 ?_ fun _ _ h => h.elim
      have : ks.eraseIdx i = [] := List.eq_nil_of_length_eq_zero (by rw [List.length_eraseIdx, if_pos hi]; omega)
      rw [this]; exact ⟨rfl, rfl⟩
    · have hdl : (ks.eraseIdx i).length = N.length - 1 := by rw [List.length_eraseIdx, if_pos hi]; omega
      have hY : ∀ w' v' F', CFrm (fun y j => F y j ∨ y = rb) w w' → flag w' rb true → RepC w' (h + 1) (.br (ks.eraseIdx i)) v' F' → (∀ y j, F' y j → F y j) → K v' w' := fun w' v' F' hf hfl' hr => hY w' v' F' hf hfl' (by
        rw [if_neg (by cases hq : ks.eraseIdx i with
          | nil => rw [hq] at hdl; simp at hdl; omega
          | cons a l => simp)]; exact hr)
      have hO2 := hOp [] ⟨(fun _ h => nomatch h), List.Pairwise.nil⟩ (fun _ h => nomatch h)
      have hd2 := hdjN [] (fun _ h => nomatch h)
      have hsb2 := hsubN [] (fun _ h => nomatch h)
      have eN : N.take i ++ [] ++ N.drop (i + 1) = N.eraseIdx i := by rw [List.append_nil, List.eraseIdx_eq_take_drop_succ]
      rw [eN] at hO2 hd2 hsb2
      have eV : vals (N.eraseIdx i) = (vals N).eraseIdx i := by rw [List.eraseIdx_eq_take_drop_succ, List.eraseIdx_eq_take_drop_succ]; simp [vals, List.map_take, List.map_drop]
      have hNl : (N.eraseIdx i).length = N.length - 1 := by rw [List.length_eraseIdx, if_pos hiN]
      have ewl : IntKind.i64.wrap ((N.length : Int) - 1) = ((N.length - 1 : Nat) : Int) := by rw [IntKind.wrap_i64]; omega
      have ewp : IntKind.i64.wrap ((i : Int) + 1) = ((i + 1 : Nat) : Int) := by rw [IntKind.wrap_i64]; omega
      simp [-getElem?_pos, -Array.getElem?_eq_getElem, -Int.natCast_add, ewl, ewp]
      refine ⟨by omega, by omega, by omega, by omega, ?_⟩
      refine op_copyIn (m := N.length - (i + 1)) (x1 := i) (x2 := i + 1) (by kernel_rfl) (by decide) (hg2.still (Frm.drew _)) rfl rfl (by omega) (by omega) (by omega) hxN fun w4 k4 z4 hg4 => ?_
      have k4 := CFrm.fst (Frm.drew w2) k4
      have hb4 := k4.get hb2 fun j hj => hbg hj.1
      have fl4 : flag w4 rb true := k4.get fl2 fun j hj => hgr hj.1.symm
      simp [-getElem?_pos, -Array.getElem?_eq_getElem, -Int.natCast_add, hb4, ewl]
      refine ⟨by omega, op_storeSg (n := N.length) (m := 2) (by kernel_rfl) rfl (by decide) (hg4.still (Frm.drew _)) rfl (by omega) (fun u hu => by simp only [List.mem_toArray, List.mem_cons, List.not_mem_nil, or_false] at hu; rcases hu with rfl | rfl <;> rfl) fun w5 k5 z5 hg5 => ?_⟩
      have k5 := CFrm.fst (Frm.drew w4) k5
      have k45 : CFrm (fun y j => y = g ∧ o ≤ j ∧ j < o + c * 2) w2 w5 := k4.trans k5 fun _ _ h _ => h
      have hb5 := k5.get hb4 fun j hj => hbg hj.1
      have fl5 : flag w5 rb true := k5.get fl4 fun j hj => hgr hj.1.symm
      simp [-getElem?_pos, -Array.getElem?_eq_getElem, -Int.natCast_add, hb5, ewl]
      refine ⟨by omega, ?_⟩
      have hb5d : w5.drew.heap[b]? = some (.cells #[.slice (some ⟨g, o, none⟩) N.length c] 267 (0, 0)) := hb5
      refine op_store_ok (by kernel_rfl) hb5d (by simp) rfl fun w6 k6 z6 b6 => ?_
      have b6 : w6.heap[b]? = some (.cells #[.slice (some ⟨g, o, none⟩) (N.length - 1) c] 267 (0, 0)) := by simpa using b6
      have k6 : Frm (· = b) w5 w6 := (Frm.drew w5).fst k6
      have hg6 := (hg5.frame k6 fun e => hbg e.symm).hi (i := N.length - 1) (by omega)
      have c26 : CFrm (own1 b g o c 2) w2 w6 := (k45.mono fun y j hy _ => .inr hy).trans (CFrm.one (I := fun _ => True) k6 hb5 b6 rfl (fun j hj => absurd trivial hj) ⟨0, trivial⟩) fun y j hy _ => .inl hy.1
      have fl6 : flag w6 rb true := k6.get fl5 fun e => hnrb e.symm
      have e1 : els h ((vals N).eraseIdx i) = (els h (vals N)).take (i * 2) ++ (els h (vals N)).drop (i * 2 + 2) := fm_del (el_len h)
      refine hY w6 (.iface 262 (ptr b)) (fun y j => own1 b g o c 2 y j ∨ ∃ p ∈ N.eraseIdx i, p.2.2 y j) (c2.trans c26 fun y j hy _ => .inl (hFo y j hy)) fl6 ⟨b, g, o, c, N.eraseIdx i, rfl, by rw [hNl]; exact b6, ?_, ?_, fun p hp => (hO2.1 p hp).cframe c26 (hd2 p hp).symm, hO2.2, hd2, rfl⟩ fun y j hy => ?_
      · rw [hks, List.eraseIdx_eq_take_drop_succ, List.eraseIdx_eq_take_drop_succ, List.map_append, List.map_take, List.map_drop]
      · rw [hNl, eV, e1, ← del_place (z := _) (by omega)]
        rw [hel, show N.length * 2 - 2 = (N.length - 1) * 2 from by omega, show N.length * 2 - (i * 2 + 2) = (N.length - (i + 1)) * 2 from by omega, show i * 2 + 2 = (i + 1) * 2 from by omega]
        exact hg6
      · rcases hy with hy | ⟨p, hp, hy⟩
        · exact hFo y j hy
        · exact hsb2 p hp y j hy
  | some t' =>
    have hn : RepC w2 h t' v2 F2 := hr2
    obtain ⟨un, pn, rfl⟩ := hn.rep.iface
    dsimp only at hY
    have hq : ∀ q ∈ [(t', Value.iface un pn, F2)], ∀ y j, q.2.2 y j → N[i].2.2 y j := fun q hq y j hy => by rw [List.mem_singleton.1 hq] at hy; exact hsub y j hy
    have hO2 := hOp [(t', .iface un pn, F2)] ⟨fun q hq => by rw [List.mem_singleton.1 hq]; exact hn, List.pairwise_singleton _ _⟩ hq
    have hd2 := hdjN _ hq
    have hsb2 := hsubN _ hq
    simp [-getElem?_pos, -Array.getElem?_eq_getElem, -Int.natCast_add, fl2', hb2]
    refine minKey_ok (hn.rep.still (Frm.drew _)) (g2 t' rfl) fun w7 m f7 hm => ?_
    have f7 := Frm.dr f7
    have b7 := f7.get hb2 fun h => h
    have hg7 := hg2.still f7
    have fl7 := fl2.frame f7 fun h => h
    simp [-getElem?_pos, -Array.getElem?_eq_getElem, -Int.natCast_add, b7]
    refine ⟨hiN, op_storeSg (n := N.length) (m := 2) (by kernel_rfl) rfl (by decide) hg7 rfl (by omega) (fun u hu => by simp only [List.mem_toArray, List.mem_cons, List.not_mem_nil, or_false] at hu; rcases hu with rfl | rfl <;> rfl) fun w8 k8 z8 hg8 => ?_⟩
    have b8 := k8.get b7 fun j h => hbg h.1
    have fl8 : flag w8 rb true := k8.get fl7 fun j h => hgr h.1.symm
    have c28 : CFrm (own1 b g o c 2) w2 w8 := CFrm.fst f7 (k8.mono fun y j hy _ => .inr hy)
    have hrow : lw (els h (vals N)) (i * 2) [ek m, .iface un pn] = els h ((vals N).set i (t', .iface un pn)) := by rw [← el_of hm]; exact (fm_set (el_len h) hip).symm
    have hg8 : Sg w8 269 2 g o N.length c (els h ((vals N).set i (t', .iface un pn))) := by rw [← hrow]; exact hg8
    have hlen : (N.take i ++ [(t', Value.iface un pn, F2)] ++ N.drop (i + 1)).length = N.length := by simp; omega
    have eV : vals (N.take i ++ [(t', Value.iface un pn, F2)] ++ N.drop (i + 1)) = (vals N).set i (t', .iface un pn) := by
      rw [vals_put, List.set_eq_take_append_cons_drop, if_pos hip]; simp [vals]
    have eK : ks.set i t' = (N.take i ++ [(t', Value.iface un pn, F2)] ++ N.drop (i + 1)).map (·.1) := by
      rw [List.set_eq_take_append_cons_drop, if_pos hi, hks]; simp [List.map_take, List.map_drop]
    refine hY w8 (.iface 262 (ptr b)) (fun y j => own1 b g o c 2 y j ∨ ∃ p ∈ N.take i ++ [(t', Value.iface un pn, F2)] ++ N.drop (i + 1), p.2.2 y j) (c2.trans c28 fun y j hy _ => .inl (hFo y j hy)) fl8 ⟨b, g, o, c, _, rfl, by rw [hlen]; exact b8, eK, by rw [hlen, eV]; exact hg8, fun p hp => (hO2.1 p hp).cframe c28 (hd2 p hp).symm, hO2.2, hd2, rfl⟩ fun y j hy => ?_
    rcases hy with hy | ⟨p, hp, hy⟩
    · exact hFo y j hy
    · exact hsb2 p hp y j hy
theorem delM_ok (hC : IsC cv lt) : ∀ {h : Nat} {t : Tr} {v : Value} {F : Foot} {w : World} {K : KV} {Kp : KP}, RepC w h t v F → WF h t → Sd lt (toL h t) → flag w rb false → (∀ w', Frm (fun _ => False) w w' → has lt (toL h t) k = false → K v w') →
      (∀ w' v' F', CFrm (fun y j => F y j ∨ y = rb) w w' → has lt (toL h t) k = true → flag w' rb true → RepOC w' h (delT lt h t k) v' F' → (∀ y j, F' y j → F y j) → K v' w') →
      nP.call (.inv v "pub-bracken/pub/immutable.delete") [ek k, cv, .bool true, .pointer (some ⟨rb, 0, none⟩)] w K Kp
  | 0, t, v, F, w, K, Kp, hr, hw, hs, hfl, hN, hY => by
    obtain ⟨es, rfl, h1, h2⟩ := wf_zero.1 hw
    exact leafDelM_ok hC hr hw hs hfl hN hY
  | h + 1, t, v, F, w, K, Kp, hr, hw, hs, hfl, hN, hY => by
    obtain ⟨ks, rfl, h1, h2, h3⟩ := wf_succ.1 hw
    exact brDelM_ok hC hr hw hs hfl (fun a b c d e f => delM_ok hC a b c d e f) hN hY
end Go.Proofs.YtodjijfblgnfmaaGreatDoor.T
end
section
namespace Go.Proofs.YtodjijfblgnfmaaGreatDoor.T
open Go.Vc Go.Proofs Go.Proofs.YtodjijfblgnfmaaGreatDoor Go.Vc.Bt
variable {w w' : World} {cv : Value} {t : Tr} {K : KV} {Kp : KP} {lt : Ky → Ky → Bool} {k : Ky} {rb n : Nat} {b h : Nat} {r : Root Ky Vl} {F : Foot}
theorem mapDelM_ok (hl : Lin lt) (hm : RepMC w b lt r F) (hok : Ok lt n r) (hn : (rL r).length < 2 ^ 60)
    (hK : ∀ w' F', CFrm (fun y j => F y j ∨ y = b) w w' → RepMC w' b lt (delR lt r k) F' → (∀ y j, F' y j → F y j) → K (ptr b) w') : Calls Tryz.prog 142 #[ptr b, ek k, .bool true] w (ret K Kp) := by
  refine vc142_calls ?_
  delta vc142
  have hm0 := hm
  obtain ⟨rv, cv, h1, h2, h3⟩ := hm
  have hbF := h2.not h1 (by decide)
  match r, h2, h3, hok with
  | none, h2, h3, _ =>
    obtain ⟨rfl, hF⟩ : rv = .nilIface ∧ F = fun _ _ => False := h2
    simp [-getElem?_pos, -Array.getElem?_eq_getElem, -Int.natCast_add, ptr, h1]
    exact hK w F CFrm.refl hm0 fun _ _ h => h
  | some (h, t), h2, h3, hok =>
    have hC : IsC cv lt := h3.resolve_right fun h => nomatch h.2.2
    obtain ⟨o1, o2, o3, o4⟩ := hok
    have hr : RepC w h t rv F := h2
    obtain ⟨u, p, rfl⟩ := hr.rep.iface
    have hcv := CmpOk.one h3
    simp [-getElem?_pos, -Array.getElem?_eq_getElem, -Int.natCast_add, ptr, h1]
    refine op_alloc_ok (z := .bool false) (by kernel_rfl) fun w1 k1 z1 b1 => ?_
    have a1 := k1.get h1 fun h => h
    have hlb := lt_of_get h1
    simp [-getElem?_pos, -Array.getElem?_eq_getElem, -Int.natCast_add, a1]
    have k1d := k1.no (Frm.drew w1)
    have hlow := hr.low
    refine delM_ok (rb := w.heap.size) hC (hr.still k1d) o1 o2 (by simpa [flag, Value.cells] using b1) (fun w2 k2 hh => ?_) fun w2 v2 F2 k2 hh fl2 hr2 hsub => ?_
    · have f2 := k1d.no k2
      have fl2' : w2.heap[w.heap.size]? = some (.cells #[.bool false] 4 (0, 0)) := k2.get (show w1.drew.heap[w.heap.size]? = _ from by simpa [Value.cells] using b1) fun h => h
      simp [-getElem?_pos, -Array.getElem?_eq_getElem, -Int.natCast_add, fl2']
      have e : delR lt (some (h, t)) k = some (h, t) := by rw [delR, delT_absent hl h t k o1 o2 hh]; rfl
      refine hK w2 F (CFrm.of f2) (by rw [e]; exact hm0.cframe (M := fun _ _ => False) (CFrm.of f2) (fun _ _ _ h => h) fun _ h => h) fun _ _ h => h
    · have fl2' : w2.heap[w.heap.size]? = some (.cells #[.bool true] 4 (0, 0)) := fl2
      have c2 : CFrm (fun y j => F y j ∨ y = b) w w2 := ((CFrm.of (M := F) k1d).old k2 fun y j hy => hy.imp id fun e => by omega).mono fun _ _ h _ => .inl h
      have a2 : w2.heap[b]? = _ := k2.get (show w1.drew.heap[b]? = _ from a1) fun j hj => hj.elim (hbF j) fun e => by omega
      have hd : RepRC w2 (delR lt (some (h, t)) k) v2 F2 := by
        rw [delR]
        cases hdd : delT lt h t k with
        | none => rw [hdd] at hr2; exact hr2
        | some s => rw [hdd] at hr2; exact hr2
      have hlen : (rL (delR lt (some (h, t)) k)).length = (rL (some (h, t))).length - 1 := by
        have hs := (delR_spec hl (n := n) (r := some (h, t)) ⟨o1, o2, o3, o4⟩ k).1
        rw [hs]
        have hh' : has lt (rL (some (h, t))) k = true := hh
        unfold rem
        rw [if_pos hh', List.length_eraseIdx, if_pos (has_lt hh')]
      have hpos : 0 < (rL (some (h, t))).length := by
        have := has_lt (show has lt (rL (some (h, t))) k = true from hh); omega
      have hbF2 := hd.not a2 (by decide)
      simp [-getElem?_pos, -Array.getElem?_eq_getElem, -Int.natCast_add, fl2', a2]
      refine op_store_ok (by kernel_rfl) a2 (by simp) rfl fun w4 k4 z4 b4 => ?_
      have b4 : w4.heap[b]? = some (.cells #[.int .i64 ((rL (some (h, t))).length - 1 : Nat), .iface u p, cv] 190 (0, 0)) := by
        rw [show IntKind.i64.wrap (((rL (some (h, t))).length : Int) - 1) = (((rL (some (h, t))).length - 1 : Nat) : Int) from by rw [IntKind.wrap_i64]; omega] at b4
        simpa using b4
      refine op_store_ok (by kernel_rfl) b4 (by simp) hd.rep.one fun w5 k5 z5 b5 => ?_
      have b5 : w5.heap[b]? = some (.cells #[.int .i64 ((rL (some (h, t))).length - 1 : Nat), v2, cv] 190 (0, 0)) := by simpa using b5
      have c25 : CFrm (fun y _ => y = b) w2 w5 := (cell_frm k4 a2 b4 rfl).trans (cell_frm k5 b4 b5 rfl) fun _ _ h _ => h
      refine hK w5 F2 (c2.trans c25 fun _ _ h _ => .inr h) ⟨v2, cv, by rw [hlen]; exact b5, hd.cframe c25 fun y j hy e => hbF2 j (by rw [← e]; exact hy), .inl hC⟩ hsub
end Go.Proofs.YtodjijfblgnfmaaGreatDoor.T
end
section
namespace Go.Proofs.YtodjijfblgnfmaaGreatDoor
open Go.Vc Go.Proofs
variable {S : Sig} {a0 a1 a2 a3 a4 a5 a6 a7 a8 a9 : Value} {w : World} {K : KV} {Kp : KP}
private theorem follows_BVcDT : Tryz.prog.follows .mixedOrders = true := by kernel_rfl
def vc54 (S : Sig) (a0 a1 a2 : Value) (w : World) (K : KV) (Kp : KP) : Prop :=
 S.op (.box 88 a0) w (fun v3 w =>
 S.call (.fn 95) [a1] w (fun v16 w =>
 S.op (.blt .len [32] 3 [a2]) w (fun v18 w =>
 Lp fun (I4 : Value → Value → KV) (μ4 : Value → Value → Value → World → Nat) => I4 (.slice none 0 0) (.slice none 0 0) (.int .i64 0) w ∧
 ∀ (wl4 : World) (_ : Nat → Value) (s6 : Value) (s9 : Value) (s19 : Value), I4 s6 s9 s19 wl4 →
 S.op (.bin .lss 3 false false s19 v18) wl4 (fun v20 w =>
 Br v20 (
 S.op (.indexAddr 32 a2 s19) w (fun v21 w =>
 S.op (.load 54 v21) w (fun v22 w =>
 S.op (.alloc 54) w (fun v11 w =>
 S.op (.store 54 v11 v22) w (fun _ w =>
 S.op (.alloc 56) w (fun v12 w =>
 Jn fun (J20 : KV) =>
 (S.op (.fieldAddr 54 v11 0) w (fun v23 w =>
 S.op (.load 5 v23) w (fun v24 w =>
 S.op (.bin .eql 5 false true v24 (.int .u8 0)) w (fun v26 w =>
 Br v26 (
 S.pur (.fieldAddr 88 v3 0) (fun v28 =>
 S.ld (.load 84 v28) w.drew (fun v29 =>
 S.pur (.fieldAddr 54 v11 2) (fun v30 =>
 S.ld (.load 2 v30) w.drew (fun v31 =>
 S.pur (.fieldAddr 54 v11 3) (fun v32 =>
 S.ld (.load 9 v32) w.drew (fun v33 =>
 S.pur (.fieldAddr 54 v11 4) (fun v35 =>
 S.ld (.load 2 v35) w.drew (fun v36 =>
 S.call (.val v29) [v31, v33] w.drew (fun v34 w =>
 S.same (.load 2 v35) v36 w ∧
 S.call (.fn 96) [v16, v34, v36] w (fun v37 w =>
 J20 s9 w) Kp) Kp))))))))) (
 S.op (.bin .eql 5 false true v24 (.int .u8 1)) w (fun v39 w =>
 Br v39 (
 S.op (.fieldAddr 88 v3 0) w (fun v41 w =>
 S.op (.load 84 v41) w (fun v42 w =>
 S.op (.fieldAddr 54 v11 2) w (fun v43 w =>
 S.op (.load 2 v43) w (fun v44 w =>
 S.op (.fieldAddr 54 v11 3) w (fun v45 w =>
 S.op (.load 9 v45) w (fun v46 w =>
 S.call (.val v42) [v44, v46] w (fun v47 w =>
 S.call (.fn 97) [v16, v47] w (fun v48 w =>
 J20 s9 w) Kp) Kp) Kp) Kp) Kp) Kp) Kp) Kp) (
 S.op (.bin .eql 5 false true v24 (.int .u8 2)) w (fun v50 w =>
 Br v50 (
 S.op (.fieldAddr 88 v3 0) w (fun v53 w =>
 S.op (.load 84 v53) w (fun v54 w =>
 S.op (.fieldAddr 54 v11 2) w (fun v55 w =>
 S.op (.load 2 v55) w (fun v56 w =>
 S.op (.fieldAddr 54 v11 3) w (fun v57 w =>
 S.op (.load 9 v57) w (fun v58 w =>
 S.call (.val v54) [v56, v58] w (fun v59 w =>
 S.call (.fn 98) [v16, v59] w (fun v60 w =>
 S.op (.extract v60 0) w (fun v61 w =>
 S.op (.extract v60 1) w (fun v62 w =>
 S.op (.fieldAddr 56 v12 0) w (fun v63 w =>
 S.op (.store 2 v63 v61) w (fun _ w =>
 S.op (.fieldAddr 56 v12 2) w (fun v64 w =>
 S.op (.store 4 v64 v62) w (fun _ w =>
 J20 s9 w) Kp) Kp) Kp) Kp) Kp) Kp) Kp) Kp) Kp) Kp) Kp) Kp) Kp) Kp) (
 S.op (.bin .eql 5 false true v24 (.int .u8 3)) w (fun v66 w =>
 Br v66 (
 S.call (.fn 99) [v16] w (fun v68 w =>
 S.op (.fieldAddr 56 v12 1) w (fun v69 w =>
 S.op (.store 3 v69 v68) w (fun _ w =>
 J20 s9 w) Kp) Kp) Kp) (
 S.op (.bin .eql 5 false true v24 (.int .u8 4)) w (fun v71 w =>
 Br v71 (
 S.call (.fn 100) [v16] w (fun v74 w =>
 S.op (.buildSlice 120 1 [(0, v74)]) w (fun v75 w =>
 S.op (.blt .append [120, 120] 120 [s9, v75]) w (fun v76 w =>
 J20 v76 w) Kp) Kp) Kp) (
 S.op (.bin .eql 5 false true v24 (.int .u8 5)) w (fun v78 w =>
 Br v78 (
 S.ld (.load 88 v3) w.drew (fun v79 =>
 S.call (.fn 101) [v16] w.drew (fun v81 w =>
 S.same (.load 88 v3) v79 w ∧
 S.call (.fn 69) [v79, v81] w (fun v82 w =>
 S.pur (.fieldAddr 56 v12 3) (fun v83 =>
 S.op (.store 46 v83 v82) w (fun _ w =>
 J20 s9 w) Kp)) Kp) Kp)) (
 J20 s9 w)) Kp)) Kp)) Kp)) Kp)) Kp)) Kp) Kp) Kp) ∧
 (∀ (w : World) (_ : Nat → Value) (j9 : Value), J20 j9 w →
 S.op (.load 56 v12) w (fun v85 w =>
 S.op (.buildSlice 28 1 [(0, v85)]) w (fun v86 w =>
 S.op (.blt .append [28, 28] 28 [s6, v86]) w (fun v87 w =>
 S.op (.bin .add 3 false true s19 (.int .i64 1)) w (fun v88 w =>
 I4 v87 j9 v88 w ∧ μ4 v87 j9 v88 w < μ4 s6 s9 s19 wl4) Kp) Kp) Kp) Kp)) Kp) Kp) Kp) Kp) Kp) (
 S.op (.blt .len [120] 3 [s9]) w (fun v90 w =>
 Lp fun (I23 : Value → KV) (μ23 : Value → Value → World → Nat) => I23 (.slice none 0 0) (.int .i64 0) w ∧
 ∀ (wl23 : World) (_ : Nat → Value) (s7 : Value) (s91 : Value), I23 s7 s91 wl23 →
 S.op (.bin .lss 3 false false s91 v90) wl23 (fun v92 w =>
 Br v92 (
 S.op (.indexAddr 120 s9 s91) w (fun v93 w =>
 S.op (.load 118 v93) w (fun v94 w =>
 S.ld (.load 88 v3) w.drew (fun v96 =>
 S.call (.fn 70) [v94] w.drew (fun v98 w =>
 S.same (.load 88 v3) v96 w ∧
 S.call (.fn 69) [v96, v98] w (fun v99 w =>
 S.op (.buildSlice 68 1 [(0, v99)]) w (fun v100 w =>
 S.op (.blt .append [68, 68] 68 [s7, v100]) w (fun v101 w =>
 S.op (.bin .add 3 false true s91 (.int .i64 1)) w (fun v102 w =>
 I23 v101 v102 w ∧ μ23 v101 v102 w < μ23 s7 s91 wl23) Kp) Kp) Kp) Kp) Kp)) Kp) Kp) (
 K (.tuple #[s6, s7]) w)) Kp) Kp)) Kp) Kp) Kp) Kp
theorem vc54_eq : vc54 S a0 a1 a2 w K Kp = fVC S [(4, [6, 9, 19]), (23, [7, 91])] [(20, [9])] Tryz.f54 [a0, a1, a2] w K Kp := by kernel_rfl
theorem vc54_calls (h : vc54 nP a0 a1 a2 w K Kp) : Calls Tryz.prog 54 #[a0, a1, a2] w (ret K Kp) :=
 fVC_sound (args := [a0, a1, a2]) nice_le follows_BVcDT Tryz.func54 (by kernel_rfl) (Eq.mp vc54_eq h)
def vc95 (S : Sig) (a0 : Value) (w : World) (K : KV) (Kp : KP) : Prop :=
 S.call (.fn 64) [a0] w (fun v4 w =>
 S.op (.build 230 [(0, v4)]) w (fun v5 w =>
 S.op (.box 230 v5) w (fun v6 w =>
 K v6 w) Kp) Kp) Kp
theorem vc95_eq : vc95 S a0 w K Kp = fVC S [] [] Tryz.f95 [a0] w K Kp := by kernel_rfl
theorem vc95_calls (h : vc95 nP a0 w K Kp) : Calls Tryz.prog 95 #[a0] w (ret K Kp) :=
 fVC_sound (args := [a0]) nice_le follows_BVcDT Tryz.func95 (by kernel_rfl) (Eq.mp vc95_eq h)
def vc96 (S : Sig) (a0 a1 a2 : Value) (w : World) (K : KV) (Kp : KP) : Prop :=
 S.op (.nilCheck a0) w (fun v7 w =>
 S.op (.fieldAddr 230 v7 0) w (fun v8 w =>
 S.op (.load 118 v8) w (fun v9 w =>
 S.op (.bin .neq 118 false true v9 (.pointer none)) w (fun v10 w =>
 S.call (.fn 150) [v10, (.string { data := #[105, 109, 109, 117, 116, 97, 98, 108, 101, 46, 83, 111, 114, 116, 101, 100, 77, 97, 112, 66, 117, 105, 108, 100, 101, 114, 58, 32, 98, 117, 105, 108, 100, 101, 114, 32, 105, 110, 118, 97, 108, 105, 100, 32, 97, 102, 116, 101, 114, 32, 77, 97, 112, 40, 41, 32, 105, 110, 118, 111, 99, 97, 116, 105, 111, 110] })] w (fun v11 w =>
 S.op (.nilCheck a0) w (fun v14 w =>
 S.op (.fieldAddr 230 v14 0) w (fun v15 w =>
 S.op (.load 118 v15) w (fun v16 w =>
 S.call (.fn 141) [v16, a1, a2, (.bool true)] w (fun v19 w =>
 S.op (.nilCheck a0) w (fun v20 w =>
 S.op (.fieldAddr 230 v20 0) w (fun v21 w =>
 S.op (.store 118 v21 v19) w (fun _ w =>
 K (.tuple #[]) w) Kp) Kp) Kp) Kp) Kp) Kp) Kp) Kp) Kp) Kp) Kp) Kp
theorem vc96_eq : vc96 S a0 a1 a2 w K Kp = fVC S [] [] Tryz.f96 [a0, a1, a2] w K Kp := by kernel_rfl
theorem vc96_calls (h : vc96 nP a0 a1 a2 w K Kp) : Calls Tryz.prog 96 #[a0, a1, a2] w (ret K Kp) :=
 fVC_sound (args := [a0, a1, a2]) nice_le follows_BVcDT Tryz.func96 (by kernel_rfl) (Eq.mp vc96_eq h)
def vc97 (S : Sig) (a0 a1 : Value) (w : World) (K : KV) (Kp : KP) : Prop :=
 S.op (.nilCheck a0) w (fun v5 w =>
 S.op (.fieldAddr 230 v5 0) w (fun v6 w =>
 S.op (.load 118 v6) w (fun v7 w =>
 S.op (.bin .neq 118 false true v7 (.pointer none)) w (fun v8 w =>
 S.call (.fn 150) [v8, (.string { data := #[105, 109, 109, 117, 116, 97, 98, 108, 101, 46, 83, 111, 114, 116, 101, 100, 77, 97, 112, 66, 117, 105, 108, 100, 101, 114, 58, 32, 98, 117, 105, 108, 100, 101, 114, 32, 105, 110, 118, 97, 108, 105, 100, 32, 97, 102, 116, 101, 114, 32, 77, 97, 112, 40, 41, 32, 105, 110, 118, 111, 99, 97, 116, 105, 111, 110] })] w (fun v9 w =>
 S.op (.nilCheck a0) w (fun v12 w =>
 S.op (.fieldAddr 230 v12 0) w (fun v13 w =>
 S.op (.load 118 v13) w (fun v14 w =>
 S.call (.fn 142) [v14, a1, (.bool true)] w (fun v16 w =>
 S.op (.nilCheck a0) w (fun v17 w =>
 S.op (.fieldAddr 230 v17 0) w (fun v18 w =>
 S.op (.store 118 v18 v16) w (fun _ w =>
 K (.tuple #[]) w) Kp) Kp) Kp) Kp) Kp) Kp) Kp) Kp) Kp) Kp) Kp) Kp
theorem vc97_eq : vc97 S a0 a1 w K Kp = fVC S [] [] Tryz.f97 [a0, a1] w K Kp := by kernel_rfl
theorem vc97_calls (h : vc97 nP a0 a1 w K Kp) : Calls Tryz.prog 97 #[a0, a1] w (ret K Kp) :=
 fVC_sound (args := [a0, a1]) nice_le follows_BVcDT Tryz.func97 (by kernel_rfl) (Eq.mp vc97_eq h)
def vc98 (S : Sig) (a0 a1 : Value) (w : World) (K : KV) (Kp : KP) : Prop :=
 S.op (.nilCheck a0) w (fun v7 w =>
 S.op (.fieldAddr 230 v7 0) w (fun v8 w =>
 S.op (.load 118 v8) w (fun v9 w =>
 S.op (.bin .neq 118 false true v9 (.pointer none)) w (fun v10 w =>
 S.call (.fn 150) [v10, (.string { data := #[105, 109, 109, 117, 116, 97, 98, 108, 101, 46, 83, 111, 114, 116, 101, 100, 77, 97, 112, 66, 117, 105, 108, 100, 101, 114, 58, 32, 98, 117, 105, 108, 100, 101, 114, 32, 105, 110, 118, 97, 108, 105, 100, 32, 97, 102, 116, 101, 114, 32, 77, 97, 112, 40, 41, 32, 105, 110, 118, 111, 99, 97, 116, 105, 111, 110] })] w (fun v11 w =>
 S.op (.nilCheck a0) w (fun v13 w =>
 S.op (.fieldAddr 230 v13 0) w (fun v14 w =>
 S.op (.load 118 v14) w (fun v15 w =>
 S.call (.fn 68) [v15, a1] w (fun v17 w =>
 S.op (.extract v17 0) w (fun v18 w =>
 S.op (.extract v17 1) w (fun v19 w =>
 K (.tuple #[v18, v19]) w) Kp) Kp) Kp) Kp) Kp) Kp) Kp) Kp) Kp) Kp) Kp
theorem vc98_eq : vc98 S a0 a1 w K Kp = fVC S [] [] Tryz.f98 [a0, a1] w K Kp := by kernel_rfl
theorem vc98_calls (h : vc98 nP a0 a1 w K Kp) : Calls Tryz.prog 98 #[a0, a1] w (ret K Kp) :=
 fVC_sound (args := [a0, a1]) nice_le follows_BVcDT Tryz.func98 (by kernel_rfl) (Eq.mp vc98_eq h)
def vc99 (S : Sig) (a0 : Value) (w : World) (K : KV) (Kp : KP) : Prop :=
 S.op (.nilCheck a0) w (fun v4 w =>
 S.op (.fieldAddr 230 v4 0) w (fun v5 w =>
 S.op (.load 118 v5) w (fun v6 w =>
 S.op (.bin .neq 118 false true v6 (.pointer none)) w (fun v7 w =>
 S.call (.fn 150) [v7, (.string { data := #[105, 109, 109, 117, 116, 97, 98, 108, 101, 46, 83, 111, 114, 116, 101, 100, 77, 97, 112, 66, 117, 105, 108, 100, 101, 114, 58, 32, 98, 117, 105, 108, 100, 101, 114, 32, 105, 110, 118, 97, 108, 105, 100, 32, 97, 102, 116, 101, 114, 32, 77, 97, 112, 40, 41, 32, 105, 110, 118, 111, 99, 97, 116, 105, 111, 110] })] w (fun v8 w =>
 S.op (.nilCheck a0) w (fun v10 w =>
 S.op (.fieldAddr 230 v10 0) w (fun v11 w =>
 S.op (.load 118 v11) w (fun v12 w =>
 S.call (.fn 71) [v12] w (fun v13 w =>
 K v13 w) Kp) Kp) Kp) Kp) Kp) Kp) Kp) Kp) Kp
theorem vc99_eq : vc99 S a0 w K Kp = fVC S [] [] Tryz.f99 [a0] w K Kp := by kernel_rfl
theorem vc99_calls (h : vc99 nP a0 w K Kp) : Calls Tryz.prog 99 #[a0] w (ret K Kp) :=
 fVC_sound (args := [a0]) nice_le follows_BVcDT Tryz.func99 (by kernel_rfl) (Eq.mp vc99_eq h)
def vc100 (S : Sig) (a0 : Value) (w : World) (K : KV) (Kp : KP) : Prop :=
 S.op (.nilCheck a0) w (fun v5 w =>
 S.op (.fieldAddr 230 v5 0) w (fun v6 w =>
 S.op (.load 118 v6) w (fun v7 w =>
 S.op (.bin .neq 118 false true v7 (.pointer none)) w (fun v8 w =>
 S.call (.fn 150) [v8, (.string { data := #[105, 109, 109, 117, 116, 97, 98, 108, 101, 46, 83, 111, 114, 116, 101, 100, 77, 97, 112, 66, 117, 105, 108, 100, 101, 114, 46, 77, 97, 112, 40, 41, 58, 32, 100, 117, 112, 108, 105, 99, 97, 116, 101, 32, 99, 97, 108, 108, 32, 116, 111, 32, 102, 101, 116, 99, 104, 32, 109, 97, 112] })] w (fun v9 w =>
 S.op (.nilCheck a0) w (fun v11 w =>
 S.op (.fieldAddr 230 v11 0) w (fun v12 w =>
 S.op (.load 118 v12) w (fun v13 w =>
 S.op (.nilCheck a0) w (fun v15 w =>
 S.op (.fieldAddr 230 v15 0) w (fun v16 w =>
 S.op (.store 118 v16 (.pointer none)) w (fun _ w =>
 K v13 w) Kp) Kp) Kp) Kp) Kp) Kp) Kp) Kp) Kp) Kp) Kp
theorem vc100_eq : vc100 S a0 w K Kp = fVC S [] [] Tryz.f100 [a0] w K Kp := by kernel_rfl
theorem vc100_calls (h : vc100 nP a0 w K Kp) : Calls Tryz.prog 100 #[a0] w (ret K Kp) :=
 fVC_sound (args := [a0]) nice_le follows_BVcDT Tryz.func100 (by kernel_rfl) (Eq.mp vc100_eq h)
def vc101 (S : Sig) (a0 : Value) (w : World) (K : KV) (Kp : KP) : Prop :=
 S.op (.nilCheck a0) w (fun v4 w =>
 S.op (.fieldAddr 230 v4 0) w (fun v5 w =>
 S.op (.load 118 v5) w (fun v6 w =>
 S.op (.bin .neq 118 false true v6 (.pointer none)) w (fun v7 w =>
 S.call (.fn 150) [v7, (.string { data := #[105, 109, 109, 117, 116, 97, 98, 108, 101, 46, 83, 111, 114, 116, 101, 100, 77, 97, 112, 66, 117, 105, 108, 100, 101, 114, 58, 32, 98, 117, 105, 108, 100, 101, 114, 32, 105, 110, 118, 97, 108, 105, 100, 32, 97, 102, 116, 101, 114, 32, 77, 97, 112, 40, 41, 32, 105, 110, 118, 111, 99, 97, 116, 105, 111, 110] })] w (fun v8 w =>
 S.op (.nilCheck a0) w (fun v10 w =>
 S.op (.fieldAddr 230 v10 0) w (fun v11 w =>
 S.op (.load 118 v11) w (fun v12 w =>
 S.call (.fn 70) [v12] w (fun v13 w =>
 K v13 w) Kp) Kp) Kp) Kp) Kp) Kp) Kp) Kp) Kp
theorem vc101_eq : vc101 S a0 w K Kp = fVC S [] [] Tryz.f101 [a0] w K Kp := by kernel_rfl
theorem vc101_calls (h : vc101 nP a0 w K Kp) : Calls Tryz.prog 101 #[a0] w (ret K Kp) :=
 fVC_sound (args := [a0]) nice_le follows_BVcDT Tryz.func101 (by kernel_rfl) (Eq.mp vc101_eq h)
end Go.Proofs.YtodjijfblgnfmaaGreatDoor
end
section
namespace Go.Proofs.YtodjijfblgnfmaaGreatDoor.T
open Go.Vc Go.Proofs Go.Proofs.YtodjijfblgnfmaaGreatDoor Go.Vc.Bt
variable {w w' : World} {v cv : Value} {K : KV} {Kp : KP} {lt : Ky → Ky → Bool} {k : Ky} {x : Vl} {N : Nat} {bb b base : Nat} {L : List (Ky × Vl)} {M : Nat → Prop} {str : ByteArray} {F : Foot} {r : Root Ky Vl}
theorem assert_yes (hK : K (.tuple #[]) w) : Calls Tryz.prog 150 #[.bool true, .string str] w (ret K Kp) := by
  refine vc150_calls ?_
  simp [-getElem?_pos, -Array.getElem?_eq_getElem, -Int.natCast_add, vc150]
  exact hK
theorem RepC.keep (ho : NoNode w M) (hf : Frm M w w') : ∀ {h : Nat} {t : Tr} {v : Value} {F : Foot}, RepC w h t v F → RepC w' h t v F
  | 0, .leaf es, v, F, hr => by
    obtain ⟨b, g, o, c, h1, h2, h3, h4⟩ := hr
    obtain ⟨cs', p1, p2⟩ := id h3
    exact ⟨b, g, o, c, h1, hf.get h2 (ho.ne h2 (.inl rfl)), h3.frame hf (ho.ne p1 (.inr (.inl rfl))), h4⟩
  | h + 1, .br ks, v, F, hr => by
    obtain ⟨b, g, o, c, N, h1, h2, h3, h4, h5, h6, h7, h8⟩ := hr
    have hrec := fun p hp => RepC.keep ho hf (h5 p hp)
    obtain ⟨cs', p1, p2⟩ := id h4
    exact ⟨b, g, o, c, N, h1, hf.get h2 (ho.ne h2 (.inr (.inr (.inl rfl)))), h3, h4.frame hf (ho.ne p1 (.inr (.inr (.inr rfl)))), hrec, h6, h7, h8⟩
  | 0, .br ks, v, F, hr => hr.elim
  | h + 1, .leaf es, v, F, hr => hr.elim
theorem RepMC.quiet (h : RepMC w b lt r F) (hq : Quiet w M) (hf : Frm M w w') : RepMC w' b lt r F := by
  have hb : ¬ M b := fun hm => by
    obtain ⟨rv, cv, h1, _⟩ := h
    rcases hq b hm with ⟨cs, e, fz, q1, q2, q3, q4, q5, q6⟩ | h
    · rw [h1] at q1; cases q1; exact q6 rfl
    · have := lt_of_get h1; omega
  obtain ⟨rv, cv, h1, h2, h3⟩ := h
  refine ⟨rv, cv, hf.get h1 hb, ?_, h3⟩
  match r, h2 with
  | none, h2 => exact h2
  | some (h, t), h2 => exact RepC.keep hq.node hf h2
def Bld (w : World) (bb b : Nat) (lt : Ky → Ky → Bool) (N : Nat) (L : List (Ky × Vl)) (base : Nat) : Prop := ∃ r F, w.heap[bb]? = some (.cells #[ptr b] 230 (0, 0)) ∧ RepMC w b lt r F ∧ Ok lt N r ∧ rL r = L ∧ base ≤ bb ∧ base ≤ b ∧ ∀ y j, F y j → base ≤ y
def OfB (w : World) (base : Nat) (M : Nat → Prop) : Prop := ∀ c, M c → base ≤ c ∧ ∃ cs e, w.heap[c]? = some (.cells cs e (0, 0)) ∧ (e = 206 ∨ e = 203 ∨ e = 267 ∨ e = 269 ∨ e = 190 ∨ e = 230)
theorem OfB.not {c : Nat} {cs : Array Value} {e : TypeId} {fz : Nat × Nat} (h : OfB w base M) (hc : w.heap[c]? = some (.cells cs e fz)) (he : e ≠ 206 ∧ e ≠ 203 ∧ e ≠ 267 ∧ e ≠ 269 ∧ e ≠ 190 ∧ e ≠ 230) : ¬ M c := fun hm => by
  obtain ⟨_, cs', e', h1, h2⟩ := h c hm
  rw [hc] at h1
  cases h1
  obtain ⟨e1, e2, e3, e4, e5, e6⟩ := he
  rcases h2 with h | h | h | h | h | h
  · exact e1 h
  · exact e2 h
  · exact e3 h
  · exact e4 h
  · exact e5 h
  · exact e6 h
theorem Bld.ver (h : Bld w bb b lt N L base) : Ver w b lt N L := by
  obtain ⟨r, F, h1, h2, h3, h4, _⟩ := h
  exact ⟨r, h2.rep, h3, h4⟩
theorem Bld.quiet (h : Bld w bb b lt N L base) (hq : Quiet w M) (hb : ¬ M bb) (hf : Frm M w w') : Bld w' bb b lt N L base := by
  obtain ⟨r, F, h1, h2, h3⟩ := h
  exact ⟨r, F, hf.get h1 hb, h2.quiet hq hf, h3⟩
theorem Bld.still (h : Bld w bb b lt N L base) (hf : Frm (fun _ => False) w w') : Bld w' bb b lt N L base := h.quiet (fun _ h => h.elim) id hf
theorem Bld.mono {m : Nat} (h : Bld w bb b lt N L base) (hm : N ≤ m) : Bld w bb b lt m L base := by
  obtain ⟨r, F, h1, h2, h3, h4⟩ := h
  exact ⟨r, F, h1, h2, h3.mono hm, h4⟩
theorem Bld.cell (h : Bld w bb b lt N L base) : w.heap[bb]? = some (.cells #[ptr b] 230 (0, 0)) := by
  obtain ⟨r, F, h1, _⟩ := h; exact h1
theorem Bld.ofB (h : Bld w bb b lt N L base) : ∃ F : Foot, (∃ r, RepMC w b lt r F ∧ Ok lt N r ∧ rL r = L) ∧ (∀ y j, F y j → base ≤ y) ∧ (∀ j, ¬ F bb j) ∧ bb ≠ b ∧ base ≤ bb ∧ base ≤ b ∧ OfB w base fun c => (∃ j, F c j ∨ c = b) ∨ c = bb := by
  obtain ⟨r, F, h1, h2, h3, h4, h5, h6, h7⟩ := h
  obtain ⟨rv, cv, q1, q2, q3⟩ := id h2
  refine ⟨F, ⟨r, h2, h3, h4⟩, h7, q2.not h1 (by decide), fun e => ?_, h5, h6, fun c hc => ?_⟩
  · rw [e, q1] at h1; cases h1
  · rcases hc with ⟨j, hc | rfl⟩ | rfl
    · obtain ⟨cs, e, g1, g2⟩ := q2.ty c j hc
      refine ⟨h7 c j hc, cs, e, g1, ?_⟩
      rcases g2 with g | g | g | g
      · exact .inl g
      · exact .inr (.inl g)
      · exact .inr (.inr (.inl g))
      · exact .inr (.inr (.inr (.inl g)))
    · exact ⟨h6, _, _, q1, .inr (.inr (.inr (.inr (.inl rfl))))⟩
    · exact ⟨h5, _, _, h1, .inr (.inr (.inr (.inr (.inr rfl))))⟩
theorem newB_ok (hc : CmpOk cv lt none) (hK : ∀ w' bb b, Frm (fun _ => False) w w' → Bld w' bb b lt 0 [] w.heap.size → K (ptr bb) w') : Calls Tryz.prog 95 #[cv] w (ret K Kp) := by
  refine vc95_calls ?_
  delta vc95
  simp only [call_64]
  refine new_ok hc fun w1 b k1 hb hM => ?_
  simp [-getElem?_pos, -Array.getElem?_eq_getElem, -Int.natCast_add, ptr]
  refine op_box_ok fun w2 k2 z2 b2 => ?_
  simp only [cells_agg] at b2
  obtain ⟨rv, cv', h1, h2, h3⟩ := hM.still k2
  have hn := k1.size
  exact hK w2 _ b (k1.no k2) ⟨none, fun _ _ => False, b2, ⟨rv, cv', h1, ⟨h2, rfl⟩, h3⟩, trivial, rfl, hn, hb, fun _ _ h => h.elim⟩
theorem bset_ok (hl : Lin lt) (h : Bld w bb b lt N L base) (hL : L.length < 2 ^ 60) (hK : ∀ w' M, Frm M w w' → OfB w base M → Bld w' bb b lt (N + 1) (put lt L k x) base → K (.tuple #[]) w') : Calls Tryz.prog 96 #[ptr bb, ek k, ev x] w (ret K Kp) := by
  refine vc96_calls ?_
  delta vc96
  have hc := h.cell
  obtain ⟨F, ⟨r, h1, h2, rfl⟩, h3, h4, h5, h6, h7, hO⟩ := h.ofB
  simp [-getElem?_pos, -Array.getElem?_eq_getElem, -Int.natCast_add, ptr, hc]
  refine assert_yes ?_
  simp [-getElem?_pos, -Array.getElem?_eq_getElem, -Int.natCast_add, ptr, hc]
  have hsp := setR_spec hl h2 k x
  refine mapSetM_ok hl h1 h2 hL fun w1 F' g1 hM hF => ?_
  have hc1 := g1.get hc fun j hj => hj.elim (h4 j) h5
  have n1 := g1.size
  simp [-getElem?_pos, -Array.getElem?_eq_getElem, -Int.natCast_add, ptr, hc1]
  refine op_store_ok (by kernel_rfl) hc1 (by simp) rfl fun w2 k2 z2 b2 => ?_
  have b2 : w2.heap[bb]? = some (.cells #[ptr b] 230 (0, 0)) := by simpa [ptr] using b2
  have hbs : base ≤ w.heap.size := by have := lt_of_get hc; omega
  have hF' : ∀ y j, F' y j → base ≤ y := fun y j hy => (hF y j hy).elim (h3 y j) fun h => by omega
  have hM2 : RepMC w2 b lt (some (setR lt r k x)) F' := hM.cframe (cell_frm k2 hc1 b2 rfl) (fun y j hy e => by
    obtain ⟨rv, cv, q1, q2, q3⟩ := hM
    exact q2.not hc1 (by decide) j (by rw [← e]; exact hy)) fun j e => h5 e.symm
  exact hK w2 _ ((g1.frm.to (M' := fun c => (∃ j, F c j ∨ c = b) ∨ c = bb) fun c hc => .inl hc).trans k2 fun c hc _ => .inr hc) hO ⟨_, F', b2, hM2, hsp.2, hsp.1, h6, h7, hF'⟩
theorem bdel_ok (hl : Lin lt) (h : Bld w bb b lt N L base) (hL : L.length < 2 ^ 60) (hK : ∀ w' M, Frm M w w' → OfB w base M → Bld w' bb b lt N (rem lt L k) base → K (.tuple #[]) w') : Calls Tryz.prog 97 #[ptr bb, ek k] w (ret K Kp) := by
  refine vc97_calls ?_
  delta vc97
  have hc := h.cell
  obtain ⟨F, ⟨r, h1, h2, rfl⟩, h3, h4, h5, h6, h7, hO⟩ := h.ofB
  simp [-getElem?_pos, -Array.getElem?_eq_getElem, -Int.natCast_add, ptr, hc]
  refine assert_yes ?_
  simp [-getElem?_pos, -Array.getElem?_eq_getElem, -Int.natCast_add, ptr, hc]
  have hsp := delR_spec hl h2 k
  refine mapDelM_ok hl h1 h2 hL fun w1 F' g1 hM hF => ?_
  have hc1 := g1.get hc fun j hj => hj.elim (h4 j) h5
  simp [-getElem?_pos, -Array.getElem?_eq_getElem, -Int.natCast_add, ptr, hc1]
  refine op_store_ok (by kernel_rfl) hc1 (by simp) rfl fun w2 k2 z2 b2 => ?_
  have b2 : w2.heap[bb]? = some (.cells #[ptr b] 230 (0, 0)) := by simpa [ptr] using b2
  have hM2 : RepMC w2 b lt (delR lt r k) F' := hM.cframe (cell_frm k2 hc1 b2 rfl) (fun y j hy e => by
    obtain ⟨rv, cv, q1, q2, q3⟩ := hM
    exact q2.not hc1 (by decide) j (by rw [← e]; exact hy)) fun j e => h5 e.symm
  exact hK w2 _ ((g1.frm.to (M' := fun c => (∃ j, F c j ∨ c = b) ∨ c = bb) fun c hc => .inl hc).trans k2 fun c hc _ => .inr hc) hO ⟨_, F', b2, hM2, hsp.2, hsp.1, h6, h7, fun y j hy => h3 y j (hF y j hy)⟩
theorem bget_ok (hl : Lin lt) (h : Bld w bb b lt N L base) (hK : ∀ w', Frm (fun _ => False) w w' → K (gotV (got lt L k)) w') : Calls Tryz.prog 98 #[ptr bb, ek k] w (ret K Kp) := by
  refine vc98_calls ?_
  delta vc98
  have hc := h.cell
  simp [-getElem?_pos, -Array.getElem?_eq_getElem, -Int.natCast_add, ptr, hc]
  refine assert_yes ?_
  simp [-getElem?_pos, -Array.getElem?_eq_getElem, -Int.natCast_add, ptr, hc]
  refine getOk hl h.ver fun w' hf => ?_
  have := hK w' hf
  cases hg : got lt L k with
  | none => rw [hg] at this; simp [-getElem?_pos, -Array.getElem?_eq_getElem, -Int.natCast_add, gotV]; exact this
  | some z => rw [hg] at this; simp [-getElem?_pos, -Array.getElem?_eq_getElem, -Int.natCast_add, gotV]; exact this
theorem blen_ok (h : Bld w bb b lt N L base) (hK : K (.int .i64 L.length) w) : Calls Tryz.prog 99 #[ptr bb] w (ret K Kp) := by
  refine vc99_calls ?_
  delta vc99
  have hc := h.cell
  simp [-getElem?_pos, -Array.getElem?_eq_getElem, -Int.natCast_add, ptr, hc]
  refine assert_yes ?_
  simp [-getElem?_pos, -Array.getElem?_eq_getElem, -Int.natCast_add, ptr, hc]
  exact ver_len h.ver hK
theorem biter_ok (h : Bld w bb b lt N L base) (hN : N < 2 ^ 60) (hK : ∀ w' ib, Frm (fun _ => False) w w' → w.heap.size ≤ ib → At w' ib b L (if L.length = 0 then none else some 0) → K (ptr ib) w') : Calls Tryz.prog 101 #[ptr bb] w (ret K Kp) := by
  refine vc101_calls ?_
  delta vc101
  have hc := h.cell
  simp [-getElem?_pos, -Array.getElem?_eq_getElem, -Int.natCast_add, ptr, hc]
  refine assert_yes ?_
  simp [-getElem?_pos, -Array.getElem?_eq_getElem, -Int.natCast_add, ptr, hc]
  exact ver_iter h.ver hN hK
theorem quiet_bld {c : Nat} {cs : Array Value} (h : w.heap[c]? = some (.cells cs 230 (0, 0))) : Quiet w (· = c) := fun x hx => by
  subst hx; exact .inl ⟨_, _, _, h, by decide, by decide, by decide, by decide, by decide⟩
theorem bmap_ok (h : Bld w bb b lt N L base) (hK : ∀ w', Frm (· = bb) w w' → Ver w' b lt N L → K (ptr b) w') : Calls Tryz.prog 100 #[ptr bb] w (ret K Kp) := by
  refine vc100_calls ?_
  delta vc100
  have hc := h.cell
  simp [-getElem?_pos, -Array.getElem?_eq_getElem, -Int.natCast_add, ptr, hc]
  refine assert_yes ?_
  simp [-getElem?_pos, -Array.getElem?_eq_getElem, -Int.natCast_add, ptr, hc]
  refine op_store_ok (by kernel_rfl) hc (by simp) rfl fun w2 k2 z2 b2 => ?_
  exact hK w2 k2 (h.ver.quiet (quiet_bld hc) k2)
end Go.Proofs.YtodjijfblgnfmaaGreatDoor.T
end
section
namespace Go.Proofs.YtodjijfblgnfmaaGreatDoor.T
open Go.Vc Go.Proofs Go.Proofs.YtodjijfblgnfmaaGreatDoor Go.Vc.Bt
variable {w w' : World} {v cv : Value} {K : KV} {Kp : KP} {lt : Ky → Ky → Bool} {L : List (Ky × Vl)} {base : Nat}
theorem apK : apOf Tryz.prog 68 = some (46, 1, 24) := by kernel_rfl
def Stt (w : World) (bb b : Nat) (lt : Ky → Ky → Bool) (steps : List SSt) (i : Nat) (base : Nat) (e : Value) : Prop :=
  (e = .slice none 0 0 ∧ Bld w bb b lt i (runB lt kd (steps.take i)).1 base ∧ (runB lt kd (steps.take i)).2.2 = []) ∨
  (i = steps.length ∧ Ver w b lt i (runB lt kd (steps.take i)).1 ∧ RowsOf (Flat fun b : Nat => [ptr b]) w base 118 1 e [b] (fun _ => False) ∧ (runB lt kd (steps.take i)).2.2 = [prs (runB lt kd (steps.take i)).1])
def MidB (wl wz : World) (bb b : Nat) (lt : Ky → Ky → Bool) (steps : List SSt) (i : Nat) (base ab : Nat) (out e : Value) (A : List SAns) (a : SAns) : Prop :=
  ∃ (pv : Value) (G : Nat → Prop), Frm (fun c => base ≤ c) wl wz ∧ RowsOf ElA wz base 56 4 out A G ∧ (∀ c, G c → ∃ cs, wz.heap[c]? = some (.cells cs 49 (0, 0))) ∧
    wz.heap[ab]? = some (.cells #[.int .i64 a.value, .int .i64 a.n, .bool a.ok, pv] 56 (0, 0)) ∧ IsSl wz pv a.list.length (a.list.flatMap SPr.cells) ∧ (∀ c, pv.ownBlock = some c → base ≤ c ∧ (∀ b, out.ownBlock = some b → b ≠ c) ∧ ∃ cs, wz.heap[c]? = some (.cells cs 49 (0, 0))) ∧ Stt wz bb b lt steps (i + 1) base e
theorem sortedBuild_ok {a2 : Option Addr} {c2 : Nat} {steps : List SSt} (hC : CmpOk cv lt none) (hl : Lin lt) (h2 : Row w a2 (steps.flatMap SSt.cells)) (hs : ∀ s ∈ steps, s.text.size ≤ 100) (hn : steps.length ≤ 300) (h4 : ∀ i (hi : i < steps.length), steps[i].op = 4 → i + 1 = steps.length)
    (hK : ∀ l v w' G G', Frm (fun _ => False) w w' → RowsOf ElA w' w.heap.size 56 4 l (runB lt kd steps).2.1 G → RowsOf ElK w' w.heap.size 46 1 v (runB lt kd steps).2.2 G' → K (.tuple #[l, v]) w') :
    Calls Tryz.prog 54 #[kdV, cv, .slice a2 steps.length c2] w (ret K Kp) := by
  have hE := flat_ok (fun b : Nat => [ptr b])
  refine vc54_calls ?_
  delta vc54
  refine op_box_ok fun w1 k1 z1 b1 => ?_
  simp only [kdV, cells_agg] at b1
  have hx3 : (#[.func (.func 75) #[] #[], .func (.func 76) #[] #[], .func (.func 78) #[] #[]] : Array Value).extract 0 3 = #[.func (.func 75) #[] #[], .func (.func 76) #[] #[], .func (.func 78) #[] #[]] := rfl
  simp only [call_95]
  refine newB_ok hC fun w2 bb b k2 hB2 => ?_
  have n1 := k1.size
  have hlb1 := lt_of_get b1
  generalize hbase : w1.heap.size = base at *
  have n2 := k2.size
  simp [-getElem?_pos, -Array.getElem?_eq_getElem, -Int.natCast_add]
  obtain ⟨I, hI⟩ : ∃ I : Value → Value → KV, ∀ out e v wl, I out e v wl ↔ ∃ (i : Nat) (G : Nat → Prop), v = .int .i64 i ∧ i ≤ steps.length ∧ Frm (fun c => base ≤ c) w1 wl ∧
      RowsOf ElA wl base 56 4 out (runB lt kd (steps.take i)).2.1 G ∧ (∀ c, G c → ∃ cs, wl.heap[c]? = some (.cells cs 49 (0, 0))) ∧ Stt wl bb b lt steps i base e := ⟨_, fun _ _ _ _ => Iff.rfl⟩
  refine Lp.intro I (fun _ _ v _ => steps.length - nOf v) ⟨(hI _ _ _ _).2 ⟨0, fun _ => False, rfl, by omega, k2.to fun _ h => h.elim, rows_nil, fun _ h => h.elim, .inl ⟨rfl, hB2, rfl⟩⟩, ?_⟩
  intro wl out e v hlv
  obtain ⟨i, G, rfl, hi, kl, hO, hGt, hSt⟩ := (hI _ _ _ _).1 hlv
  clear hlv hB2
  have nl := kl.size
  have k0l : Frm (fun _ => False) w wl := k1.old kl fun c hc => .inr (by omega)
  have bk := kl.get b1 (by omega)
  simp only [op_lss, Br_dec]
  refine ⟨fun hlt' => ?_, fun hnl' => ?_⟩
  rotate_left
  · have : i = steps.length := by omega
    subst this
    rcases hSt with ⟨rfl, _, hkp⟩ | ⟨_, hVr, hRm, hkp⟩
    · rw [List.take_length] at hO hkp
      simp [-getElem?_pos, -Array.getElem?_eq_getElem, -Int.natCast_add]
      refine Lp.intro (fun kv v wz => kv = .slice none 0 0 ∧ v = .int .i64 0 ∧ wz = wl) (fun _ _ _ => 0) ⟨⟨rfl, rfl, rfl⟩, ?_⟩
      rintro wz kv v ⟨rfl, rfl, rfl⟩
      simp [-getElem?_pos, -Array.getElem?_eq_getElem, -Int.natCast_add]
      exact hK out (.slice none 0 0) wz G (fun _ => False) k0l (hO.base_le (by omega)) (by rw [hkp]; exact rows_nil)
    · rw [List.take_length] at hO hkp hVr
      have hleE := (runB_le (kd := kd) hl steps).1
      generalize (runB lt kd steps).1 = L at *
      obtain ⟨u, g, c, cur, he, hg1, hu, hg3, hg4, hg5, hub⟩ := hRm.get (j := 0) (by simp)
      subst he
      have hub : u = [ptr b] := hub
      subst hub
      have hg0 : cur[0]? = some (ptr b) := by have := hg3 0 (by decide); simpa using this
      obtain ⟨I2, hI2⟩ : ∃ I2 : Value → KV, ∀ kv v wz, I2 kv v wz ↔ (kv = .slice none 0 0 ∧ v = .int .i64 0 ∧ wz = wl) ∨ (v = .int .i64 1 ∧ Frm (fun _ => False) wl wz ∧ ∃ G', RowsOf ElK wz wl.heap.size 46 1 kv [prs L] G') := ⟨_, fun _ _ _ => Iff.rfl⟩
      simp [-getElem?_pos, -Array.getElem?_eq_getElem, -Int.natCast_add]
      refine Lp.intro I2 (fun _ v _ => 1 - nOf v) ⟨(hI2 _ _ _).2 (.inl ⟨rfl, rfl, rfl⟩), ?_⟩
      intro wz kv v hv
      rcases (hI2 _ _ _).1 hv with ⟨rfl, rfl, rfl⟩ | ⟨rfl, kz, G2, hRz⟩
      · simp [-getElem?_pos, -Array.getElem?_eq_getElem, -Int.natCast_add, hg1, hg0, bk, hx3]
        refine ver_iter (hVr.still (Frm.drew _)) (by omega) fun w7 ib k7 hib hA7 => ?_
        have k7 := Frm.dr k7
        have bK7 := k7.get bk fun h => h
        have n7 := k7.size
        simp [-getElem?_pos, -Array.getElem?_eq_getElem, -Int.natCast_add, bK7, hx3]
        refine pairsOf_ok hA7 (by omega) fun pv w8 k8 hR8 => ?_
        rw [restOf_zero] at hR8
        have hib : wz.heap.size ≤ ib := hib
        have k78 : Frm (fun _ => False) wz w8 := k7.old k8 fun c hc => .inr (by omega)
        have hlow8 := hR8.own_lt
        try simp [-getElem?_pos, -Array.getElem?_eq_getElem, -Int.natCast_add]
        refine op_push (u := [pv]) (y := prs L) (G := fun _ => False) (ys := []) (base := wz.heap.size) (G2 := fun c => pv.ownBlock = some c) elK_ok apK (lit_68_1 hR8.one) rfl (fun x hx => by rw [List.mem_singleton.1 hx]; exact hR8.one) rows_nil ⟨pv, rfl, hR8.flat, fun _ h => h⟩ (fun c hc => by have := hlow8 c hc; omega) (fun b hb => nomatch hb) (by simp) k78.size fun kv' w9 k9 hR9 ho9 => ?_
        try simp [-getElem?_pos, -Array.getElem?_eq_getElem, -Int.natCast_add]
        exact ⟨(hI2 _ _ _).2 (.inr ⟨rfl, k78.no (k9.to fun c hc => nomatch hc), _, hR9⟩), by show 1 - nOf (.int .i64 1) < 1 - nOf (.int .i64 0); decide⟩
      · simp [-getElem?_pos, -Array.getElem?_eq_getElem, -Int.natCast_add]
        exact hK out kv wz G G2 (k0l.no kz) ((hO.still elA_ok kz).base_le (by omega)) (by rw [hkp]; exact hRz.base_le (by omega))
  have hi' : i < steps.length := by omega
  obtain ⟨rfl, hBl, hkp⟩ : e = .slice none 0 0 ∧ Bld wl bb b lt i (runB lt kd (steps.take i)).1 base ∧ (runB lt kd (steps.take i)).2.2 = [] := hSt.resolve_right fun h => by omega
  have htk : steps.take (i + 1) = steps.take i ++ [steps[i]] := List.take_succ_eq_append_getElem hi'
  have hmem : steps[i] ∈ steps := List.getElem_mem hi'
  have hle := runB_le (kd := kd) hl (steps.take i)
  have hsnoc := runB_snoc (lt := lt) (kd := kd) (steps.take i) steps[i]
  rw [← htk] at hsnoc
  rw [List.length_take] at hle
  obtain ⟨bp, o, cs, e, fz, rfl, hcs, hsz, hext⟩ := (h2.frame k0l (fun _ _ h => h)).part SSt.len (by decide) hi'
  have hst := hs _ hmem
  have h4i := h4 i hi'
  generalize steps[i] = s at *
  generalize hvs : runB lt kd (steps.take i) = vs at *
  obtain ⟨L, A, ks⟩ := vs
  simp only at hBl hkp hO hle
  subst hkp
  have hlowO := hO.own_lt
  simp [-getElem?_pos, -Array.getElem?_eq_getElem, -Int.natCast_add, hcs, hsz, hext]
  refine ⟨hi', ?_⟩
  refine op_alloc_ok (z := .agg #[.int .u8 0, .int .i64 0, .int .i64 0, .string ByteArray.empty, .int .i64 0, .int .i64 0, .int .i64 0]) (by kernel_rfl) fun w5 k5 z5 b5 => ?_
  simp only [cells_agg] at b5
  refine op_storeN_ok (n := 7) (by kernel_rfl) b5 rfl (by decide) (by simp [SSt.cells]) fun w6 k6 z6 b6 => ?_
  have b6 : w6.heap[wl.heap.size]? = some (.cells s.cells.toArray 54 (0, 0)) := by
    rw [ow_all (by simp [SSt.cells])] at b6; simpa [SSt.cells] using b6
  simp only [SSt.cells] at b6
  have k56 : Frm (fun _ => False) wl w6 := k5.old k6 fun c hc => .inr (by omega)
  refine op_alloc_ok (z := .agg #[.int .i64 0, .int .i64 0, .bool false, .slice none 0 0]) (by kernel_rfl) fun wA kA zA bA => ?_
  simp only [cells_agg] at bA
  have kwA : Frm (fun _ => False) wl wA := k56.no kA
  have bS := kA.get b6 fun h => h
  have bK := kwA.get bk fun h => h
  have hBA := hBl.still kwA
  have hOA := hO.still elA_ok kwA
  have hGA : ∀ c, G c → ∃ cs, wA.heap[c]? = some (.cells cs 49 (0, 0)) := fun c hc => by obtain ⟨cs, h⟩ := hGt c hc; exact ⟨cs, kwA.get h fun h => h⟩
  have hlS := lt_of_get b6
  have nA := kwA.size
  have hbg : ∀ b, out.ownBlock = some b → b ≠ w6.heap.size := fun b hb e => by have := hlowO b hb; omega
  generalize hab : w6.heap.size = ab at *
  have hbb := hBA.cell
  have habb : bb ≠ ab := fun e => by rw [e, bA] at hbb; cases hbb
  obtain ⟨J, hJ⟩ : ∃ J : KV, ∀ e wz, J e wz ↔ MidB wA wz bb b lt steps i base ab out e A (bldA lt kd L s) := ⟨_, fun _ _ => Iff.rfl⟩
  refine Jn.intro J ⟨?_, ?_⟩
  · have hL1 : L.length < 2 ^ 60 := by omega
    -- the builder alone was at work
    have hz : ∀ {wz : World} {M : Nat → Prop} {L' : List (Ky × Vl)}, bldA lt kd L s = zeroA → s.op ≠ 4 → bldS lt kd L s = L' → Frm M wA wz → OfB wA base M → Bld wz bb b lt (i + 1) L' base → J (.slice none 0 0) wz := fun {wz M L'} ha h4 hL' hf hM hB => by
      have hnA : ¬ M ab := hM.not bA (by decide)
      refine (hJ _ _).2 ⟨.slice none 0 0, G, hf.to fun c hc => (hM c hc).1, hOA.frame elA_ok hf (fun c hc => ?_) fun c hc => ?_, fun c hc => ?_, ?_, ?_, (fun c hc => nomatch hc), .inl ⟨rfl, ?_, ?_⟩⟩
      · obtain ⟨cs, h⟩ := hGA c hc; exact hM.not h (by decide)
      · obtain ⟨cs, h⟩ := rows_ty hOA c hc; exact hM.not h (by decide)
      · obtain ⟨cs, h⟩ := hGA c hc; exact ⟨cs, hf.get h (hM.not h (by decide))⟩
      · rw [ha]; exact hf.get bA hnA
      · rw [ha]; exact IsSl.nil
      · rw [hsnoc]; show Bld wz bb b lt (i + 1) (bldS lt kd L s) base; rw [hL']; exact hB
      · rw [hsnoc]; show [] ++ (if s.op = 4 then _ else []) = []; rw [if_neg h4]; rfl
    -- the answer alone was written
    have hn : ∀ {wz : World} {pv : Value} {a : SAns}, bldA lt kd L s = a → s.op ≠ 4 → bldS lt kd L s = L → Frm (· = ab) wA wz → wz.heap[ab]? = some (.cells #[.int .i64 a.value, .int .i64 a.n, .bool a.ok, pv] 56 (0, 0)) → IsSl wz pv a.list.length (a.list.flatMap SPr.cells) →
        (∀ c, pv.ownBlock = some c → wA.heap.size ≤ c ∧ ∃ cs, wz.heap[c]? = some (.cells cs 49 (0, 0))) → J (.slice none 0 0) wz := fun {wz pv a} ha h4 hL' hf hcell hrow hown => by
      refine (hJ _ _).2 ⟨pv, G, hf.to fun c hc => by omega, hOA.frame elA_ok hf (fun c hc he => ?_) fun c hc => hbg c hc, fun c hc => ?_, ?_, ?_, fun c hc => ?_, .inl ⟨rfl, ?_, ?_⟩⟩
      · obtain ⟨cs, h⟩ := hGA c hc; rw [he, bA] at h; cases h
      · obtain ⟨cs, h⟩ := hGA c hc; exact ⟨cs, hf.get h fun he => by rw [he, bA] at h; cases h⟩
      · rw [ha]; exact hcell
      · rw [ha]; exact hrow
      · obtain ⟨h1, h2⟩ := hown c hc
        exact ⟨by omega, fun b hb e => by have := hlowO b hb; omega, h2⟩
      · rw [hsnoc]; show Bld wz bb b lt (i + 1) (bldS lt kd L s) base; rw [hL']; exact (hBA.quiet (quiet_ans bA) habb hf).mono (by omega)
      · rw [hsnoc]; show [] ++ (if s.op = 4 then _ else []) = []; rw [if_neg h4]; rfl
    by_cases h0 : s.op = 0
    · simp [-getElem?_pos, -Array.getElem?_eq_getElem, -Int.natCast_add, bS, bK, h0, call_key]
      refine key_ok hst ?_
      try simp [-getElem?_pos, -Array.getElem?_eq_getElem, -Int.natCast_add, bS]
      refine bset_ok hl (hBA.still (Frm.drew _)) hL1 fun w7 M k7 hM h7 => ?_
      exact hz (by unfold bldA; rw [if_neg (by omega), if_neg (by omega), if_neg (by omega)]) (by omega) (by unfold bldS; rw [if_pos h0]) ((Frm.drew wA).fst k7) hM h7
    by_cases h1 : s.op = 1
    · simp [-getElem?_pos, -Array.getElem?_eq_getElem, -Int.natCast_add, bS, bK, h1, call_key]
      refine key_ok hst ?_
      try simp [-getElem?_pos, -Array.getElem?_eq_getElem, -Int.natCast_add, bS]
      refine bdel_ok hl hBA hL1 fun w7 M k7 hM h7 => ?_
      exact hz (by unfold bldA; rw [if_neg (by omega), if_neg (by omega), if_neg (by omega)]) (by omega) (by unfold bldS; rw [if_neg h0, if_pos h1]) k7 hM (h7.mono (by omega))
    have hkeep : bldS lt kd L s = L := by unfold bldS; rw [if_neg h0, if_neg h1]
    by_cases h2' : s.op = 2
    · simp [-getElem?_pos, -Array.getElem?_eq_getElem, -Int.natCast_add, bS, bK, h2', call_key]
      refine key_ok hst ?_
      try simp [-getElem?_pos, -Array.getElem?_eq_getElem, -Int.natCast_add, bS]
      refine bget_ok hl hBA fun w7 k7 => ?_
      have b7 := k7.get bA fun h => h
      cases hgg : got lt L (kd.key s.key s.text) with
      | none =>
        have ea : bldA lt kd L s = zeroA := by unfold bldA; rw [if_pos h2', hgg]
        simp [-getElem?_pos, -Array.getElem?_eq_getElem, -Int.natCast_add, gotV]
        refine op_store_ok (by kernel_rfl) b7 (by decide) rfl fun w8 k8 z8 b8 => ?_
        refine op_store_ok (by kernel_rfl) b8 (by decide) rfl fun w9 k9 z9 b9 => ?_
        exact hn (pv := .slice none 0 0) ea (by omega) hkeep ((k7.fst k8).trans k9 fun _ h _ => h) (by simpa [zeroA, zv] using b9) IsSl.nil (fun c hc => nomatch hc)
      | some x =>
        have ea : bldA lt kd L s = ⟨x, 0, true, []⟩ := by unfold bldA; rw [if_pos h2', hgg]
        simp [-getElem?_pos, -Array.getElem?_eq_getElem, -Int.natCast_add, gotV]
        refine op_store_ok (by kernel_rfl) b7 (by decide) rfl fun w8 k8 z8 b8 => ?_
        refine op_store_ok (by kernel_rfl) b8 (by simp) rfl fun w9 k9 z9 b9 => ?_
        exact hn (pv := .slice none 0 0) ea (by omega) hkeep ((k7.fst k8).trans k9 fun _ h _ => h) (by simpa [ev] using b9) IsSl.nil (fun c hc => nomatch hc)
    by_cases h3 : s.op = 3
    · have ea : bldA lt kd L s = ⟨0, L.length, false, []⟩ := by unfold bldA; rw [if_neg h2', if_pos h3]
      simp [-getElem?_pos, -Array.getElem?_eq_getElem, -Int.natCast_add, bS, h3]
      refine blen_ok hBA ?_
      try simp [-getElem?_pos, -Array.getElem?_eq_getElem, -Int.natCast_add]
      refine op_store_ok (by kernel_rfl) bA (by decide) rfl fun w7 k7 z7 b7 => ?_
      exact hn (pv := .slice none 0 0) ea (by omega) hkeep k7 (by simpa using b7) IsSl.nil (fun c hc => nomatch hc)
    by_cases h4' : s.op = 4
    · have ea : bldA lt kd L s = zeroA := by unfold bldA; rw [if_neg h2', if_neg h3, if_neg (by omega)]
      have hil := h4i h4'
      simp [-getElem?_pos, -Array.getElem?_eq_getElem, -Int.natCast_add, bS, h4']
      refine bmap_ok hBA fun w7 k7 v7 => ?_
      have n7 := k7.size
      refine op_push (u := [ptr b]) (y := b) (G2 := fun _ => False) (base := base) hE apO (lit_120_1 rfl) rfl (fun x hx => by rw [List.mem_singleton.1 hx]; rfl) (G := fun _ => False) (ys := []) rows_nil rfl (fun _ h => h.elim) (fun _ _ h => h) (by simp) (by omega) fun e' w8 k8 hR8 ho8 => ?_
      have k8 : Frm (fun _ => False) w7 w8 := k8.to fun c hc => nomatch hc
      have k78 : Frm (· = bb) wA w8 := k7.trans k8 fun _ h _ => h.elim
      have hbase' : base ≤ bb := by obtain ⟨r, F, _, _, _, _, h, _⟩ := hBA; exact h
      refine (hJ _ _).2 ⟨.slice none 0 0, G, k78.to fun c hc => by omega, hOA.frame elA_ok k78 (fun c hc he => ?_) (fun c hc he => ?_), fun c hc => ?_, ?_, ?_, (fun c hc => nomatch hc), .inr ⟨hil, ?_, ?_, ?_⟩⟩
      · obtain ⟨cs, h⟩ := hGA c hc; rw [he, hbb] at h; cases h
      · obtain ⟨cs, h⟩ := rows_ty hOA c hc; rw [he, hbb] at h; cases h
      · obtain ⟨cs, h⟩ := hGA c hc; exact ⟨cs, k78.get h fun he => by rw [he, hbb] at h; cases h⟩
      · rw [ea]; exact k78.get bA fun e => habb e.symm
      · rw [ea]; exact IsSl.nil
      · rw [hsnoc]; show Ver w8 b lt (i + 1) (bldS lt kd L s); rw [hkeep]; exact (v7.still k8).mono (by omega)
      · exact hR8.mono hE (fun _ h => h.elim id fun h => h) (fun _ h => h.elim) fun _ _ h => h
      · rw [hsnoc]; show [] ++ (if s.op = 4 then _ else []) = [prs (bldS lt kd L s)]; rw [if_pos h4', hkeep]; rfl
    by_cases h5 : s.op = 5
    · have ea : bldA lt kd L s = ⟨0, 0, false, prs L⟩ := by unfold bldA; rw [if_neg h2', if_neg h3, if_pos h5]; rfl
      simp [-getElem?_pos, -Array.getElem?_eq_getElem, -Int.natCast_add, bS, bK, h5, hx3]
      refine biter_ok (hBA.still (Frm.drew _)) (by omega) fun w7 ib k7 hib hA7 => ?_
      have k7 := Frm.dr k7
      have bK7 := k7.get bK fun h => h
      have n7 := k7.size
      have hib : wA.heap.size ≤ ib := hib
      simp [-getElem?_pos, -Array.getElem?_eq_getElem, -Int.natCast_add, bK7, hx3]
      refine pairsOf_ok hA7 (by omega) fun pv w8 k8 hR8 => ?_
      rw [restOf_zero] at hR8
      have k78 : Frm (fun _ => False) wA w8 := k7.old k8 fun c hc => .inr (by omega)
      have b8 := k78.get bA fun h => h
      try simp [-getElem?_pos, -Array.getElem?_eq_getElem, -Int.natCast_add]
      refine op_store_ok (by kernel_rfl) b8 (by decide) hR8.one fun w9 k9 z9 b9 => ?_
      have hlow8 := hR8.own_lt
      have hlA := lt_of_get bA
      refine hn (pv := pv) ea (by omega) hkeep (k78.fst k9) (by simpa using b9) ((hR8.flat).frame k9 fun c hc => by have := hlow8 c hc; omega) fun c hc => ?_
      have hge := hlow8 c hc
      obtain ⟨cs', hcs'⟩ := rows_ty hR8 c hc
      exact ⟨by omega, cs', k9.get hcs' (by omega)⟩
    have ea : bldA lt kd L s = zeroA := by unfold bldA; rw [if_neg h2', if_neg h3, if_neg h5]
    have g1 : ¬ (s.op : Int) = 1 := by omega
    have g2 : ¬ (s.op : Int) = 2 := by omega
    have g3 : ¬ (s.op : Int) = 3 := by omega
    have g4 : ¬ (s.op : Int) = 4 := by omega
    have g5 : ¬ (s.op : Int) = 5 := by omega
    simp [-getElem?_pos, -Array.getElem?_eq_getElem, -Int.natCast_add, bS, h0, g1, g2, g3, g4, g5]
    exact hn (pv := .slice none 0 0) ea h4' hkeep Frm.refl bA IsSl.nil (fun c hc => nomatch hc)
  · intro w9 e9 hm
    obtain ⟨pv, G9, kf, hO9, hG9, hcell, hrow, hown, hSt9⟩ := (hJ _ _).1 hm
    have n9 := kf.size
    have hone : ∀ u ∈ [Value.int .i64 (bldA lt kd L s).value, .int .i64 (bldA lt kd L s).n, .bool (bldA lt kd L s).ok, pv], u.oneCell' = true := fun u hu => by
      simp only [List.mem_cons, List.not_mem_nil, or_false] at hu
      rcases hu with rfl | rfl | rfl | rfl
      · rfl
      · rfl
      · rfl
      · exact hrow.one
    have hlow9 := hO9.own_lt
    have hla : A.length = i := by omega
    have hx4 : (#[.int .i64 (bldA lt kd L s).value, .int .i64 (bldA lt kd L s).n, .bool (bldA lt kd L s).ok, pv] : Array Value).extract 0 4 = #[.int .i64 (bldA lt kd L s).value, .int .i64 (bldA lt kd L s).n, .bool (bldA lt kd L s).ok, pv] := rfl
    simp [-getElem?_pos, -Array.getElem?_eq_getElem, -Int.natCast_add, hcell, hx4]
    refine op_push (u := [.int .i64 (bldA lt kd L s).value, .int .i64 (bldA lt kd L s).n, .bool (bldA lt kd L s).ok, pv]) (y := bldA lt kd L s) (G2 := fun c => pv.ownBlock = some c) elA_ok apA (lit_ans _ _ _ _) rfl hone hO9 ⟨pv, rfl, hrow, fun _ h => h⟩ (fun c hc => ?_) (fun b hb hc => ?_) (by omega) (by omega) fun o' w12 k12 hO12 ho12 => ?_
    · obtain ⟨h1, _, cs', h2⟩ := hown c hc; have := lt_of_get h2; omega
    · exact (hown b hc).2.1 b hb rfl
    try simp [-getElem?_pos, -Array.getElem?_eq_getElem, -Int.natCast_add]
    rw [show IntKind.i64.wrap ((i : Int) + 1) = ((i + 1 : Nat) : Int) from by rw [IntKind.wrap_i64]; omega]
    have hq12 := rows_quiet hO9 (by decide)
    have hnk : ∀ {c : Nat} {cs : Array Value} {e : TypeId}, w9.heap[c]? = some (.cells cs e (0, 0)) → e ≠ 56 → ¬ some c = out.ownBlock := fun {c cs e} h1 h2 h3 => by
      obtain ⟨cs', h4⟩ := rows_ty hO9 c h3.symm
      rw [h1] at h4; cases h4; exact h2 rfl
    refine ⟨(hI _ _ _ _).2 ⟨i + 1, fun c => G9 c ∨ pv.ownBlock = some c, rfl, by omega, ((kl.trans (kwA.to fun _ h => h.elim) fun _ h _ => h).trans kf fun _ h _ => h).trans k12 fun c hc _ => (hlow9 c hc.symm).1, by rw [hsnoc]; exact hO12, fun c hc => ?_, ?_⟩, by simp only [nOf_int]; omega⟩
    · rcases hc with h | h
      · obtain ⟨cs, h1⟩ := hG9 c h; exact ⟨cs, k12.get h1 (hnk h1 (by decide))⟩
      · obtain ⟨_, _, cs, h1⟩ := hown c h; exact ⟨cs, k12.get h1 (hnk h1 (by decide))⟩
    · rcases hSt9 with ⟨g1, g2, g3⟩ | ⟨g1, g2, g3, g4⟩
      · exact .inl ⟨g1, g2.quiet hq12 (hnk g2.cell (by decide)) k12, g3⟩
      · refine .inr ⟨g1, g2.quiet hq12 k12, g3.frame hE k12 (fun _ h => h.elim) fun b hb he => ?_, g4⟩
        obtain ⟨c1, t1⟩ := rows_ty g3 b hb
        exact hnk t1 (by decide) he
end Go.Proofs.YtodjijfblgnfmaaGreatDoor.T
end
section
namespace Go.Proofs.YtodjijfblgnfmaaGreatDoor
open Go.Vc Go.Proofs
variable {S : Sig} {a0 a1 a2 a3 a4 a5 a6 a7 a8 a9 : Value} {w : World} {K : KV} {Kp : KP}
private theorem follows_BVcDC : Tryz.prog.follows .mixedOrders = true := by kernel_rfl
def vc31 (S : Sig) (a0 a1 a2 : Value) (w : World) (K : KV) (Kp : KP) : Prop :=
 S.op (.box 4 a0) w (fun v3 w =>
 S.op (.box 31 a1) w (fun v4 w =>
 S.op (.box 32 a2) w (fun v5 w =>
 S.op (.alloc 28) w (fun v6 w =>
 S.op (.alloc 68) w (fun v7 w =>
 S.op (.mkFunc (Fn.func 53) [] [v3, v4, v5, v6, v7]) w (fun v9 w =>
 S.call (.fn 37) [v9] w (fun v10 w =>
 S.op (.un .not v10) w (fun v11 w =>
 S.op (.un .not v11) w (fun v13 w =>
 Br v13 (
 S.op (.store 28 v6 (.slice none 0 0)) w (fun _ w =>
 S.op (.store 68 v7 (.slice none 0 0)) w (fun _ w =>
 S.ld (.load 28 v6) w (fun r0 =>
 S.ld (.load 68 v7) w (fun r1 =>
 K (.tuple #[r0, r1, (.bool false)]) w))) Kp) Kp) (
 S.ld (.load 28 v6) w.drew (fun v14 =>
 S.ld (.load 68 v7) w.drew (fun v15 =>
 S.op (.store 28 v6 v14) w.drew (fun _ w =>
 S.same (.load 68 v7) v15 w ∧
 S.op (.store 68 v7 v15) w (fun _ w =>
 S.ld (.load 28 v6) w (fun r0 =>
 S.ld (.load 68 v7) w (fun r1 =>
 K (.tuple #[r0, r1, (.bool true)]) w))) Kp) Kp)))) Kp) Kp) Kp) Kp) Kp) Kp) Kp) Kp) Kp
theorem vc31_eq : vc31 S a0 a1 a2 w K Kp = fVC S [] [] Tryz.f31 [a0, a1, a2] w K Kp := by kernel_rfl
theorem vc31_calls (h : vc31 nP a0 a1 a2 w K Kp) : Calls Tryz.prog 31 #[a0, a1, a2] w (ret K Kp) :=
 fVC_sound (args := [a0, a1, a2]) nice_le follows_BVcDC Tryz.func31 (by kernel_rfl) (Eq.mp vc31_eq h)
def vc53 (S : Sig) (a0 a1 a2 a3 a4 : Value) (w : World) (K : KV) (Kp : KP) : Prop :=
 S.op (.load 4 a0) w (fun v5 w =>
 Br v5 (
 S.ld (.load 31 a1) w.drew (fun v8 =>
 S.ld (.load 32 a2) w.drew (fun v10 =>
 S.call (.fn 40) [] w.drew (fun v7 w =>
 S.same (.load 32 a2) v10 w ∧
 S.same (.load 31 a1) v8 w ∧
 S.call (.fn 41) [v8] w (fun v9 w =>
 S.same (.load 32 a2) v10 w ∧
 S.call (.fn 54) [v7, v9, v10] w (fun v11 w =>
 S.pur (.extract v11 0) (fun v12 =>
 S.pur (.extract v11 1) (fun v13 =>
 S.op (.store 28 a3 v12) w (fun _ w =>
 S.op (.store 68 a4 v13) w (fun _ w =>
 K (.tuple #[]) w) Kp) Kp))) Kp) Kp) Kp))) (
 S.ld (.load 31 a1) w.drew (fun v16 =>
 S.ld (.load 32 a2) w.drew (fun v18 =>
 S.call (.fn 43) [] w.drew (fun v15 w =>
 S.same (.load 32 a2) v18 w ∧
 S.same (.load 31 a1) v16 w ∧
 S.call (.fn 44) [v16] w (fun v17 w =>
 S.same (.load 32 a2) v18 w ∧
 S.call (.fn 55) [v15, v17, v18] w (fun v19 w =>
 S.pur (.extract v19 0) (fun v20 =>
 S.pur (.extract v19 1) (fun v21 =>
 S.op (.store 28 a3 v20) w (fun _ w =>
 S.op (.store 68 a4 v21) w (fun _ w =>
 K (.tuple #[]) w) Kp) Kp))) Kp) Kp) Kp)))) Kp
theorem vc53_eq : vc53 S a0 a1 a2 a3 a4 w K Kp = fVC S [] [] Tryz.f53 [a0, a1, a2, a3, a4] w K Kp := by kernel_rfl
theorem vc53_calls (h : vc53 nP a0 a1 a2 a3 a4 w K Kp) : Calls Tryz.prog 53 #[a0, a1, a2, a3, a4] w (ret K Kp) :=
 fVC_sound (args := [a0, a1, a2, a3, a4]) nice_le follows_BVcDC Tryz.func53 (by kernel_rfl) (Eq.mp vc53_eq h)
def vc30 (S : Sig) (a0 a1 a2 : Value) (w : World) (K : KV) (Kp : KP) : Prop :=
 S.op (.box 23 a1) w (fun v4 w =>
 S.op (.blt .len [24] 3 [a2]) w (fun v16 w =>
 Lp fun (I3 : Value → Value → Value → KV) (μ3 : Value → Value → Value → Value → World → Nat) => I3 (.slice none 0 0) (.slice none 0 0) (.slice none 0 0) (.int .i64 0) w ∧
 ∀ (wl3 : World) (_ : Nat → Value) (s6 : Value) (s7 : Value) (s8 : Value) (s17 : Value), I3 s6 s7 s8 s17 wl3 →
 S.op (.bin .lss 3 false false s17 v16) wl3 (fun v18 w =>
 Br v18 (
 S.op (.indexAddr 24 a2 s17) w (fun v19 w =>
 S.op (.load 64 v19) w (fun v20 w =>
 S.op (.alloc 64) w (fun v10 w =>
 S.op (.store 64 v10 v20) w (fun _ w =>
 S.op (.fieldAddr 64 v10 2) w (fun v22 w =>
 S.op (.load 2 v22) w (fun v23 w =>
 S.op (.fieldAddr 64 v10 3) w (fun v24 w =>
 S.op (.load 9 v24) w (fun v25 w =>
 S.op (.fieldAddr 64 v10 4) w (fun v26 w =>
 S.op (.load 2 v26) w (fun v27 w =>
 S.op (.build 45 [(0, v23), (1, v25), (2, v27)]) w (fun v28 w =>
 S.call (.fn 49) [a0, v28] w (fun v29 w =>
 S.op (.alloc 45) w (fun v11 w =>
 S.op (.store 45 v11 v29) w (fun _ w =>
 S.op (.build 104 []) w (fun v30 w =>
 S.op (.alloc 104) w (fun v12 w =>
 S.op (.store 104 v12 v30) w (fun _ w =>
 Jn fun (J22 : Value → KV) =>
 (S.op (.fieldAddr 64 v10 0) w (fun v31 w =>
 S.op (.load 5 v31) w (fun v32 w =>
 S.op (.bin .eql 5 false true v32 (.int .u8 0)) w (fun v34 w =>
 Br v34 (
 S.ld (.load 23 v4) w.drew (fun v35 =>
 S.ld (.load 45 v11) w.drew (fun v40 =>
 S.op (.buildSlice 38 0 []) w.drew (fun v37 w =>
 S.same (.load 45 v11) v40 w ∧
 S.same (.load 23 v4) v35 w ∧
 S.op (.blt .append [38, 38] 38 [v37, s8]) w (fun v39 w =>
 S.same (.load 45 v11) v40 w ∧
 S.same (.load 23 v4) v35 w ∧
 S.call (.fn 46) [v35, a0, v39, v40] w (fun v41 w =>
 J22 s7 v41 w) Kp) Kp) Kp))) (
 S.op (.bin .eql 5 false true v32 (.int .u8 1)) w (fun v43 w =>
 Br v43 (
 S.ld (.load 23 v4) w.drew (fun v44 =>
 S.ld (.load 45 v11) w.drew (fun v49 =>
 S.op (.buildSlice 38 0 []) w.drew (fun v46 w =>
 S.same (.load 45 v11) v49 w ∧
 S.same (.load 23 v4) v44 w ∧
 S.op (.blt .append [38, 38] 38 [v46, s8]) w (fun v48 w =>
 S.same (.load 45 v11) v49 w ∧
 S.same (.load 23 v4) v44 w ∧
 S.call (.fn 47) [v44, a0, v48, v49] w (fun v50 w =>
 J22 s7 v50 w) Kp) Kp) Kp))) (
 S.op (.bin .eql 5 false true v32 (.int .u8 2)) w (fun v52 w =>
 Br v52 (
 S.op (.load 23 v4) w (fun v54 w =>
 S.op (.load 45 v11) w (fun v57 w =>
 S.call (.fn 48) [v54, a0, s8, v57] w (fun v58 w =>
 S.op (.extract v58 0) w (fun v59 w =>
 S.op (.extract v58 1) w (fun v60 w =>
 Br v60 (
 S.op (.indexAddr 38 s8 v59) w (fun v64 w =>
 S.op (.fieldAddr 45 v64 2) w (fun v65 w =>
 S.op (.load 2 v65) w (fun v66 w =>
 S.op (.fieldAddr 104 v12 0) w (fun v67 w =>
 S.op (.store 2 v67 v66) w (fun _ w =>
 S.op (.fieldAddr 104 v12 2) w (fun v68 w =>
 S.op (.store 4 v68 (.bool true)) w (fun _ w =>
 J22 s7 s8 w) Kp) Kp) Kp) Kp) Kp) Kp) Kp) (
 J22 s7 s8 w)) Kp) Kp) Kp) Kp) Kp) (
 S.op (.bin .eql 5 false true v32 (.int .u8 3)) w (fun v70 w =>
 Br v70 (
 S.op (.blt .len [38] 3 [s8]) w (fun v72 w =>
 S.op (.fieldAddr 104 v12 1) w (fun v73 w =>
 S.op (.store 3 v73 v72) w (fun _ w =>
 J22 s7 s8 w) Kp) Kp) Kp) (
 S.op (.bin .eql 5 false true v32 (.int .u8 4)) w (fun v75 w =>
 Br v75 (
 S.op (.buildSlice 38 0 []) w (fun v77 w =>
 S.op (.blt .append [38, 38] 38 [v77, s8]) w (fun v79 w =>
 S.op (.buildSlice 65 1 [(0, v79)]) w (fun v80 w =>
 S.op (.blt .append [65, 65] 65 [s7, v80]) w (fun v81 w =>
 J22 v81 s8 w) Kp) Kp) Kp) Kp) (
 S.op (.bin .eql 5 false true v32 (.int .u8 5)) w (fun v83 w =>
 Br v83 (
 S.op (.buildSlice 38 0 []) w (fun v84 w =>
 S.op (.blt .append [38, 38] 38 [v84, s8]) w (fun v86 w =>
 S.op (.fieldAddr 104 v12 3) w (fun v87 w =>
 S.op (.store 38 v87 v86) w (fun _ w =>
 J22 s7 s8 w) Kp) Kp) Kp) Kp) (
 J22 s7 s8 w)) Kp)) Kp)) Kp)) Kp)) Kp)) Kp) Kp) Kp) ∧
 (∀ (w : World) (_ : Nat → Value) (j7 : Value) (j8 : Value), J22 j7 j8 w →
 S.op (.load 104 v12) w (fun v89 w =>
 S.op (.buildSlice 35 1 [(0, v89)]) w (fun v90 w =>
 S.op (.blt .append [35, 35] 35 [s6, v90]) w (fun v91 w =>
 S.op (.bin .add 3 false true s17 (.int .i64 1)) w (fun v92 w =>
 I3 v91 j7 j8 v92 w ∧ μ3 v91 j7 j8 v92 w < μ3 s6 s7 s8 s17 wl3) Kp) Kp) Kp) Kp)) Kp) Kp) Kp) Kp) Kp) Kp) Kp) Kp) Kp) Kp) Kp) Kp) Kp) Kp) Kp) Kp) Kp) (
 K (.tuple #[s6, s7]) w)) Kp) Kp) Kp
theorem vc30_eq : vc30 S a0 a1 a2 w K Kp = fVC S [(3, [6, 7, 8, 17])] [(22, [7, 8])] Tryz.f30 [a0, a1, a2] w K Kp := by kernel_rfl
theorem vc30_calls (h : vc30 nP a0 a1 a2 w K Kp) : Calls Tryz.prog 30 #[a0, a1, a2] w (ret K Kp) :=
 fVC_sound (args := [a0, a1, a2]) nice_le follows_BVcDC Tryz.func30 (by kernel_rfl) (Eq.mp vc30_eq h)
def vc9 (S : Sig) (a0 a1 a2 : Value) (w : World) (K : KV) (Kp : KP) : Prop :=
 S.op (.box 23 a1) w (fun v4 w =>
 S.call (.fn 12) [a2] w (fun v17 w =>
 S.op (.un .not v17) w (fun v18 w =>
 Br v18 (
 K (.bool true) w) (
 S.op (.load 23 v4) w (fun v19 w =>
 S.call (.fn 29) [v19] w (fun v20 w =>
 S.op (.un .not v20) w (fun v21 w =>
 Br v21 (
 S.call (.fn 14) [] w (fun v27 w =>
 K v27 w) Kp) (
 S.op (.blt .len [24] 3 [a2]) w (fun v24 w =>
 S.op (.bin .gtr 3 false true v24 (.int .i64 300)) w (fun v25 w =>
 Br v25 (
 S.call (.fn 14) [] w (fun v27 w =>
 K v27 w) Kp) (
 S.op (.blt .len [24] 3 [a2]) w (fun v29 w =>
 Lp fun (I6 : KV) (μ6 : Value → World → Nat) => I6 (.int .i64 0) w ∧
 ∀ (wl6 : World) (_ : Nat → Value) (s30 : Value), I6 s30 wl6 →
 S.op (.bin .lss 3 false false s30 v29) wl6 (fun v31 w =>
 Br v31 (
 S.op (.indexAddr 24 a2 s30) w (fun v33 w =>
 S.op (.load 64 v33) w (fun v34 w =>
 S.op (.alloc 64) w (fun v8 w =>
 S.op (.store 64 v8 v34) w (fun _ w =>
 S.op (.fieldAddr 64 v8 0) w (fun v35 w =>
 S.op (.load 5 v35) w (fun v36 w =>
 S.op (.bin .gtr 5 false true v36 (.int .u8 5)) w (fun v37 w =>
 Br v37 (
 S.call (.fn 14) [] w (fun v56 w =>
 K v56 w) Kp) (
 S.op (.fieldAddr 64 v8 0) w (fun v39 w =>
 S.op (.load 5 v39) w (fun v40 w =>
 S.op (.bin .eql 5 false true v40 (.int .u8 4)) w (fun v41 w =>
 Br v41 (
 S.op (.blt .len [24] 3 [a2]) w (fun v45 w =>
 S.op (.bin .sub 3 false true v45 (.int .i64 1)) w (fun v46 w =>
 S.op (.bin .lss 3 false false s30 v46) w (fun v47 w =>
 Br v47 (
 S.call (.fn 14) [] w (fun v56 w =>
 K v56 w) Kp) (
 S.op (.fieldAddr 64 v8 3) w (fun v51 w =>
 S.op (.load 9 v51) w (fun v52 w =>
 S.op (.blt .len [9] 3 [v52]) w (fun v53 w =>
 S.op (.bin .gtr 3 false true v53 (.int .i64 100)) w (fun v54 w =>
 Br v54 (
 S.call (.fn 14) [] w (fun v56 w =>
 K v56 w) Kp) (
 S.op (.bin .add 3 false true s30 (.int .i64 1)) w (fun v57 w =>
 I6 v57 w ∧ μ6 v57 w < μ6 s30 wl6) Kp)) Kp) Kp) Kp) Kp)) Kp) Kp) Kp) (
 S.op (.fieldAddr 64 v8 3) w (fun v51 w =>
 S.op (.load 9 v51) w (fun v52 w =>
 S.op (.blt .len [9] 3 [v52]) w (fun v53 w =>
 S.op (.bin .gtr 3 false true v53 (.int .i64 100)) w (fun v54 w =>
 Br v54 (
 S.call (.fn 14) [] w (fun v56 w =>
 K v56 w) Kp) (
 S.op (.bin .add 3 false true s30 (.int .i64 1)) w (fun v57 w =>
 I6 v57 w ∧ μ6 v57 w < μ6 s30 wl6) Kp)) Kp) Kp) Kp) Kp)) Kp) Kp) Kp)) Kp) Kp) Kp) Kp) Kp) Kp) Kp) (
 S.op (.load 23 v4) w (fun v60 w =>
 S.call (.fn 30) [a0, v60, a2] w (fun v62 w =>
 S.op (.extract v62 0) w (fun v63 w =>
 S.op (.extract v62 1) w (fun v64 w =>
 S.ld (.load 23 v4) w.drew (fun v67 =>
 S.call (.fn 16) [a2] w.drew (fun v69 w =>
 S.same (.load 23 v4) v67 w ∧
 S.call (.fn 31) [a0, v67, v69] w (fun v70 w =>
 S.pur (.extract v70 0) (fun v71 =>
 S.pur (.extract v70 1) (fun v72 =>
 S.pur (.extract v70 2) (fun v73 =>
 S.call (.fn 14) [] w (fun v74 w =>
 S.op (.un .not v74) w (fun v75 w =>
 Br v75 (
 K (.bool false) w) (
 S.op (.un .not v73) w (fun v78 w =>
 Br v78 (
 K (.bool false) w) (
 S.call (.fn 17) [v71, v63] w (fun v83 w =>
 S.op (.un .not v83) w (fun v84 w =>
 Br v84 (
 K (.bool false) w) (
 S.op (.blt .len [68] 3 [v72]) w (fun v88 w =>
 S.op (.blt .len [65] 3 [v64]) w (fun v90 w =>
 S.op (.bin .neq 3 false false v88 v90) w (fun v91 w =>
 Br v91 (
 K (.bool false) w) (
 S.op (.blt .len [65] 3 [v64]) w (fun v94 w =>
 Lp fun (I16 : KV) (μ16 : Value → World → Nat) => I16 (.int .i64 0) w ∧
 ∀ (wl16 : World) (_ : Nat → Value) (s95 : Value), I16 s95 wl16 →
 S.op (.bin .lss 3 false false s95 v94) wl16 (fun v96 w =>
 Br v96 (
 S.op (.indexAddr 65 v64 s95) w (fun v98 w =>
 S.op (.load 38 v98) w (fun v99 w =>
 S.op (.indexAddr 68 v72 s95) w (fun v102 w =>
 S.op (.load 46 v102) w (fun v103 w =>
 S.call (.fn 32) [v103, v99] w (fun v105 w =>
 S.op (.un .not v105) w (fun v106 w =>
 Br v106 (
 K (.bool false) w) (
 S.op (.bin .add 3 false true s95 (.int .i64 1)) w (fun v107 w =>
 I16 v107 w ∧ μ16 v107 w < μ16 s95 wl16) Kp)) Kp) Kp) Kp) Kp) Kp) Kp) (
 K (.bool true) w)) Kp) Kp)) Kp) Kp) Kp)) Kp) Kp)) Kp)) Kp) Kp)))) Kp) Kp)) Kp) Kp) Kp) Kp)) Kp) Kp)) Kp) Kp)) Kp) Kp) Kp)) Kp) Kp) Kp
theorem vc9_eq : vc9 S a0 a1 a2 w K Kp = fVC S [(6, [30]), (16, [95])] [] Tryz.f9 [a0, a1, a2] w K Kp := by kernel_rfl
theorem vc9_calls (h : vc9 nP a0 a1 a2 w K Kp) : Calls Tryz.prog 9 #[a0, a1, a2] w (ret K Kp) :=
 fVC_sound (args := [a0, a1, a2]) nice_le follows_BVcDC Tryz.func9 (by kernel_rfl) (Eq.mp vc9_eq h)
end Go.Proofs.YtodjijfblgnfmaaGreatDoor
end
section
namespace Go.Proofs.YtodjijfblgnfmaaGreatDoor.I
open Go.Vc Go.Proofs Go.Proofs.YtodjijfblgnfmaaGreatDoor Go.Vc.Bt
variable {w w' : World} {K : KV} {Kp : KP} {n : Int} {kn base : Nat} {x : Vl} {l : Value} {p : SPr} {s : SSt}
theorem copyP_ok {xs : List SPr} {KK : KV} (h : IsSl w l xs.length (xs.flatMap SPr.cells)) (hn : xs.length ≤ 10000) (hb : base ≤ w.heap.size) (hK : ∀ l' w', Frm (fun _ => False) w w' → PRow w' base l' xs → (∀ b, l'.ownBlock = some b → w.heap.size ≤ b) → KK l' w') :
    nP.op (.buildSlice 38 0 []) w (fun v w => nP.op (.blt .append [38, 38] 38 [v, l]) w KK Kp) Kp := by
  refine op_row0 (f := SPr.cells) (base := w.heap.size) apP lit_pr0 (Nat.le_refl _) fun l4 w4 k4 hR4 ho4 => ?_
  refine op_concatF apP SPr.len (fun p => SPr.one p) hR4 (h.still k4) (by simp; omega) k4.size fun l5 w5 k5 hR5 ho5 => ?_
  rw [List.nil_append] at hR5
  have hlow4 := hR4.own_lt
  have hlow5 := hR5.own_lt
  exact hK l5 w5 (k4.old k5 fun c hc => .inr (hlow4 c hc.symm).1) (hR5.base_le hb) fun b hb => (hlow5 b hb).1
theorem sortedB_ok {a2 : Option Addr} {c2 : Nat} {steps : List SSt} (hRt : Right kn n) (h2 : Row w a2 (steps.flatMap SSt.cells)) (hs : ∀ s ∈ steps, s.text.size ≤ 100) (hn : steps.length ≤ 300)
    (hK : ∀ l v w' G G', Frm (fun _ => False) w w' → RowsOf ElA w' w.heap.size 104 4 l (runB (ordI kn n) kd steps).2.1 G → RowsOf ElK w' w.heap.size 38 1 v (runB (ordI kn n) kd steps).2.2 G' → K (.tuple #[l, v]) w') :
    Calls Tryz.prog 30 #[.bool tx, orderV kn n, .slice a2 steps.length c2] w (ret K Kp) := by
  refine vc30_calls ?_
  delta vc30 orderV
  refine op_box_ok fun w1 k1 z1 b1 => ?_
  simp only [cells_agg] at b1
  have n1 := k1.size
  have hlb1 := lt_of_get b1
  generalize hbase : w1.heap.size = base at *
  have hx2 : (#[.int .u8 kn, .int .i64 n] : Array Value).extract 0 2 = #[.int .u8 kn, .int .i64 n] := rfl
  have hx3 : ∀ p : SPr, p.cells.toArray.extract 0 3 = p.cells.toArray := fun p => extract_self (by simp [SPr.cells])
  have hs3 : ∀ p : SPr, 3 ≤ p.cells.length := fun p => Nat.le_refl _
  simp [-getElem?_pos, -Array.getElem?_eq_getElem, -Int.natCast_add]
  obtain ⟨I, hI⟩ : ∃ I : Value → Value → Value → KV, ∀ out kp l v wl, I out kp l v wl ↔ ∃ (i : Nat) (G1 G2 : Nat → Prop), v = .int .i64 i ∧ i ≤ steps.length ∧ Frm (fun _ => False) w1 wl ∧
      RowsOf ElA wl base 104 4 out (runB (ordI kn n) kd (steps.take i)).2.1 G1 ∧ Prs wl G1 ∧
      RowsOf ElK wl base 38 1 kp (runB (ordI kn n) kd (steps.take i)).2.2 G2 ∧ Prs wl G2 ∧ PRow wl base l (prsOf kd (runB (ordI kn n) kd (steps.take i)).1) := ⟨_, fun _ _ _ _ _ => Iff.rfl⟩
  refine Lp.intro I (fun _ _ _ v _ => steps.length - nOf v) ⟨(hI _ _ _ _ _).2 ⟨0, fun _ => False, fun _ => False, rfl, by omega, Frm.refl, rows_nil, fun _ h => h.elim, rows_nil, fun _ h => h.elim, rows_nil⟩, ?_⟩
  intro wl out kp l v hlv
  obtain ⟨i, G1, G2, rfl, hi, kl, hO, hP1, hQ, hP2, hL⟩ := (hI _ _ _ _ _).1 hlv
  clear hlv
  simp only [op_lss, Br_dec]
  refine ⟨fun hlt' => ?_, fun hnl' => ?_⟩
  rotate_left
  · have : i = steps.length := by omega
    subst this
    rw [List.take_length] at hO hQ
    exact hK out kp wl G1 G2 (k1.no kl) (hO.base_le (by omega)) (hQ.base_le (by omega))
  have hi' : i < steps.length := by omega
  have htk : steps.take (i + 1) = steps.take i ++ [steps[i]] := List.take_succ_eq_append_getElem hi'
  have hle := runB_le (kd := kd) (lt := ordI kn n) ordI_lin (steps.take i)
  have hsnoc := runB_snoc (lt := ordI kn n) (kd := kd) (steps.take i) steps[i]
  rw [← htk] at hsnoc
  rw [List.length_take] at hle
  obtain ⟨bp, o, cs, e, fz, rfl, hcs, hsz, hext⟩ := (h2.frame (k1.no kl) (fun _ _ h => h)).part SSt.len (by decide) hi'
  have ht := hs _ (List.getElem_mem hi')
  generalize steps[i] = s at *
  generalize hvs : runB (ordI kn n) kd (steps.take i) = vs at *
  obtain ⟨L, A, ks⟩ := vs
  simp only at hL hO hQ hle
  obtain ⟨hLl, hAl, hsd, hkl, hkp⟩ := hle
  have hlowL := hL.own_lt
  have hlowO := hO.own_lt
  have hlowQ := hQ.own_lt
  have nl := kl.size
  simp [-getElem?_pos, -Array.getElem?_eq_getElem, -Int.natCast_add, hcs, hsz, hext]
  refine ⟨hi', ?_⟩
  refine op_alloc_ok (z := .agg #[.int .u8 0, .int .i64 0, .int .i64 0, .string ByteArray.empty, .int .i64 0, .int .i64 0, .int .i64 0]) (by kernel_rfl) fun w5 k5 z5 b5 => ?_
  simp only [cells_agg] at b5
  refine op_storeN_ok (n := 7) (by kernel_rfl) b5 rfl (by decide) (by simp [SSt.cells]) fun w6 k6 z6 b6 => ?_
  have b6 : w6.heap[wl.heap.size]? = some (.cells s.cells.toArray 64 (0, 0)) := by
    rw [ow_all (by simp [SSt.cells])] at b6; simpa [SSt.cells] using b6
  simp only [SSt.cells] at b6
  have k56 : Frm (fun _ => False) wl w6 := k5.old k6 fun c hc => .inr (by omega)
  simp [-getElem?_pos, -Array.getElem?_eq_getElem, -Int.natCast_add, b6]
  refine sortedKey_ok (p := ⟨s.key, s.text, s.value⟩) (show s.text.size ≤ 1000 from by omega) fun w7 k7 => ?_
  have n6 := k56.size
  have hlS := lt_of_get b6
  have n7 := k7.size
  refine op_alloc_ok (z := .agg #[.int .i64 0, .string ByteArray.empty, .int .i64 0]) (by kernel_rfl) fun w8 k8 z8 b8 => ?_
  simp only [cells_agg] at b8
  generalize hpk : kd.pair (kd.key s.key s.text) s.value = pk at *
  refine op_storeN_ok (n := 3) (by kernel_rfl) b8 rfl (by decide) (by simpa using SPr.one _) fun w9 k9 z9 b9 => ?_
  have b9 : w9.heap[w7.heap.size]? = some (.cells pk.cells.toArray 45 (0, 0)) := by
    rw [ow_all (by simp [SPr.cells])] at b9; simpa using b9
  have k79 : Frm (fun _ => False) w7 w9 := k8.old k9 fun c hc => .inr (by omega)
  simp [-getElem?_pos, -Array.getElem?_eq_getElem, -Int.natCast_add]
  refine op_alloc_ok (z := .agg #[.int .i64 0, .int .i64 0, .bool false, .slice none 0 0]) (by kernel_rfl) fun w10 k10 z10 b10 => ?_
  simp only [cells_agg] at b10
  refine op_storeN_ok (n := 4) (by kernel_rfl) b10 rfl (by decide) (by simp) fun wA k11 z11 bA => ?_
  rw [ow_all (by simp)] at bA
  have k9A : Frm (fun _ => False) w9 wA := k10.old k11 fun c hc => .inr (by omega)
  have n9 := k79.size
  have bS := k9A.get ((k7.no k79).get b6 fun h => h) fun h => h
  have bP := k9A.get b9 fun h => h
  have klA : Frm (fun _ => False) wl wA := k56.no ((k7.no k79).no k9A)
  have bO := (kl.no klA).get b1 fun h => h
  have hOA := hO.still elA_ok klA
  have hQA := hQ.still elK_ok klA
  have hP1A := hP1.still klA
  have hP2A := hP2.still klA
  have hLA := frow_still hL klA
  have hPL : (prsOf kd L).length = L.length := by simp [prsOf]
  generalize hab : w9.heap.size = ab at *
  generalize hpb : w7.heap.size = pb at *
  obtain ⟨J, hJ⟩ : ∃ J : Value → KV, ∀ kp' l' wz, J kp' l' wz ↔ ∃ (pv : Value) (G1 G2 : Nat → Prop), (Frm (fun _ => False) w1 wz ∧ wl.heap.size ≤ wz.heap.size) ∧ RowsOf ElA wz base 104 4 out A G1 ∧ Prs wz G1 ∧ RowsOf ElK wz base 38 1 kp' (ks ++ if s.op = 4 then [prsOf kd L] else []) G2 ∧ Prs wz G2 ∧
      wz.heap[ab]? = some (.cells #[.int .i64 (bldA (ordI kn n) kd L s).value, .int .i64 (bldA (ordI kn n) kd L s).n, .bool (bldA (ordI kn n) kd L s).ok, pv] 104 (0, 0)) ∧ IsSl wz pv (bldA (ordI kn n) kd L s).list.length ((bldA (ordI kn n) kd L s).list.flatMap SPr.cells) ∧
      (∀ c, pv.ownBlock = some c → wl.heap.size ≤ c ∧ ∃ cs, wz.heap[c]? = some (.cells cs 45 (0, 0))) ∧ PRow wz base l' (prsOf kd (bldS (ordI kn n) kd L s)) := ⟨_, fun _ _ _ => Iff.rfl⟩
  have nA := klA.size
  refine Jn.intro J ⟨?_, ?_⟩
  · have hfin : ∀ {wz : World} {l' pv : Value} {a : SAns} {L' : List (Ky × Vl)}, bldA (ordI kn n) kd L s = a → s.op ≠ 4 → bldS (ordI kn n) kd L s = L' → Frm (· = ab) wA wz → wz.heap[ab]? = some (.cells #[.int .i64 a.value, .int .i64 a.n, .bool a.ok, pv] 104 (0, 0)) → IsSl wz pv a.list.length (a.list.flatMap SPr.cells) →
        (∀ c, pv.ownBlock = some c → wA.heap.size ≤ c ∧ ∃ cs, wz.heap[c]? = some (.cells cs 45 (0, 0))) → PRow wz base l' (prsOf kd L') → J kp l' wz := fun {wz l' pv a L'} ha h4 hL' hf hcell hrow hown hl' => by
      have hno : ∀ c cs e, wA.heap[c]? = some (.cells cs e (0, 0)) → c = ab → e ≠ 45 := fun c cs e h1 h2 he => by
        subst h2
        rw [bA] at h1; cases h1; cases he
      refine (hJ _ _ _).2 ⟨pv, G1, G2, ⟨(kl.no klA).old hf fun c hc => .inr (by omega), by have := hf.size; omega⟩, hOA.frame elA_ok hf (fun c hc he => ?_) (fun b hb he => ?_), hP1A.keep hf hno, ?_, hP2A.keep hf hno, by rw [ha]; exact hcell, by rw [ha]; exact hrow, fun c hc => ⟨by have := (hown c hc).1; omega, (hown c hc).2⟩, by rw [hL']; exact hl'⟩
      · obtain ⟨cs, h⟩ := hP1A c hc; exact hno c cs _ h he rfl
      · have := hlowO b hb; omega
      · rw [if_neg h4, List.append_nil]
        refine hQA.frame elK_ok hf (fun c hc he => ?_) fun b hb he => ?_
        · obtain ⟨cs, h⟩ := hP2A c hc; exact hno c cs _ h he rfl
        · have := hlowQ b hb; omega
    have hlA := lt_of_get bA
    have hzero : bldA (ordI kn n) kd L s = zeroA → s.op ≠ 4 → ∀ {wz : World} {l' : Value} {L' : List (Ky × Vl)}, bldS (ordI kn n) kd L s = L' → Frm (fun _ => False) wA wz → PRow wz base l' (prsOf kd L') → J kp l' wz := fun ha h4 {wz l' L'} hL' hf hl' =>
      hfin (pv := .slice none 0 0) ha h4 hL' (hf.to fun _ h => h.elim) (hf.get bA fun h => h) IsSl.nil (fun c hc => nomatch hc) hl'
    have hLs : IsSl wA l (prsOf kd L).length ((prsOf kd L).flatMap SPr.cells) := hLA.flat
    by_cases h0 : s.op = 0
    · simp [-getElem?_pos, -Array.getElem?_eq_getElem, -Int.natCast_add, bS, h0, bO, hx2, bP, hx3, hs3]
      refine op_row0 (f := SPr.cells) (base := wA.heap.size) apP lit_pr0 (Nat.le_refl _) fun l4 w4 k4 hR4 ho4 => ?_
      have k4 := Frm.dr k4
      have bO4 := k4.get bO fun h => h
      have bP4 := k4.get bP fun h => h
      have hlow4 := hR4.own_lt
      simp [-getElem?_pos, -Array.getElem?_eq_getElem, -Int.natCast_add, bO4, bP4, hx2, hx3, hs3]
      refine op_concatF apP SPr.len (fun p => SPr.one p) hR4 (zs := prsOf kd L) (hLs.still k4) (by simp [prs_len]; omega) k4.size fun l5 w5 k5 hR5 ho5 => ?_
      rw [List.nil_append] at hR5
      have k45 : Frm (fun _ => False) wA w5 := k4.old k5 fun c hc => .inr (hlow4 c hc.symm).1
      have bO5 := k45.get bO fun h => h
      have bP5 := k45.get bP fun h => h
      have hlow5 := hR5.own_lt
      have n5 := k45.size
      simp [-getElem?_pos, -Array.getElem?_eq_getElem, -Int.natCast_add, bO5, bP5, hx2, hx3, hs3]
      rw [← hpk]
      refine put_ok (base := base) hRt hsd (hR5.base_le (by omega)) (by omega) (by omega) fun l6 w6 k6 hR6 => ?_
      try simp [-getElem?_pos, -Array.getElem?_eq_getElem, -Int.natCast_add]
      exact hzero (by unfold bldA; rw [if_neg (by omega), if_neg (by omega), if_neg (by omega)]) (by omega) (by unfold bldS; rw [if_pos h0]) (k45.old k6 fun c hc => .inr (hlow5 c hc.symm).1) hR6
    by_cases h1 : s.op = 1
    · simp [-getElem?_pos, -Array.getElem?_eq_getElem, -Int.natCast_add, bS, h1, bO, hx2, bP, hx3, hs3]
      refine op_row0 (f := SPr.cells) (base := wA.heap.size) apP lit_pr0 (Nat.le_refl _) fun l4 w4 k4 hR4 ho4 => ?_
      have k4 := Frm.dr k4
      have bO4 := k4.get bO fun h => h
      have bP4 := k4.get bP fun h => h
      have hlow4 := hR4.own_lt
      simp [-getElem?_pos, -Array.getElem?_eq_getElem, -Int.natCast_add, bO4, bP4, hx2, hx3, hs3]
      refine op_concatF apP SPr.len (fun p => SPr.one p) hR4 (zs := prsOf kd L) (hLs.still k4) (by simp [prs_len]; omega) k4.size fun l5 w5 k5 hR5 ho5 => ?_
      rw [List.nil_append] at hR5
      have k45 : Frm (fun _ => False) wA w5 := k4.old k5 fun c hc => .inr (hlow4 c hc.symm).1
      have bO5 := k45.get bO fun h => h
      have bP5 := k45.get bP fun h => h
      have hlow5 := hR5.own_lt
      have n5 := k45.size
      simp [-getElem?_pos, -Array.getElem?_eq_getElem, -Int.natCast_add, bO5, bP5, hx2, hx3, hs3]
      rw [← hpk]
      refine drop_ok (base := base) hRt hsd (hR5.base_le (by omega)) (by omega) (by omega) fun l6 w6 k6 hR6 => ?_
      try simp [-getElem?_pos, -Array.getElem?_eq_getElem, -Int.natCast_add]
      exact hzero (by unfold bldA; rw [if_neg (by omega), if_neg (by omega), if_neg (by omega)]) (by omega) (by unfold bldS; rw [if_neg h0, if_pos h1]) (k45.old k6 fun c hc => .inr (hlow5 c hc.symm).1) hR6
    have hkeep : bldS (ordI kn n) kd L s = L := by unfold bldS; rw [if_neg h0, if_neg h1]
    have hLs' := hLs
    rw [prs_len] at hLs'
    by_cases h2' : s.op = 2
    · simp [-getElem?_pos, -Array.getElem?_eq_getElem, -Int.natCast_add, bS, h2', bO, hx2, bP, hx3, hs3]
      rw [← hpk]
      refine place_ok hRt hsd hLs' (by omega) fun w5 k5 => ?_
      have b5 := k5.get bA fun h => h
      have hansg : ∀ g, got (ordI kn n) L (kd.key s.key s.text) = g → bldA (ordI kn n) kd L s = match g with | some v => ⟨v, 0, true, []⟩ | none => zeroA := fun g hg => by unfold bldA; rw [if_pos h2', hg]; first | done | (cases g <;> rfl)
      cases hh : has (ordI kn n) L (kd.key s.key s.text) with
      | false =>
        have ea := hansg none (by unfold got; rw [if_neg (by simp [hh])])
        simp [-getElem?_pos, -Array.getElem?_eq_getElem, -Int.natCast_add]
        exact hzero ea (by omega) hkeep k5 (frow_still hLA k5)
      | true =>
        have hil := has_lt hh
        have ea := hansg (some (L[place (ordI kn n) L (kd.key s.key s.text)]).2) (by unfold got; rw [if_pos hh, List.getElem?_eq_getElem hil]; rfl)
        generalize place (ordI kn n) L (kd.key s.key s.text) = j at *
        have hLA5 := frow_still hLA k5
        obtain ⟨a0, c0, rfl, _, _, hr0, _⟩ := hLs'.still k5
        obtain ⟨b, o2, cs2, e2, fz2, rfl, r1, r2, r3⟩ := hr0.part SPr.len (by decide) (i := j) (by rw [prs_len]; exact hil)
        have r4 : cs2[o2 + j * 3 + 2]? = some (.int .i64 (L[j]).2) := by
          have := congrArg (fun a : Array Value => a[2]?) r3
          simp only [Array.getElem?_extract, prsOf, List.getElem_map] at this
          rw [if_pos (by omega)] at this
          rw [this]; rfl
        simp [-getElem?_pos, -Array.getElem?_eq_getElem, -Int.natCast_add, r1, r4]
        refine ⟨hil, ?_⟩
        refine op_store_ok (by kernel_rfl) b5 (by simp) rfl fun w8 k8 z8 b8 => ?_
        refine op_store_ok (by kernel_rfl) b8 (by simp) rfl fun w9 k9 z9 b9 => ?_
        have k89 : Frm (· = ab) w5 w9 := k8.trans k9 fun _ h _ => h
        exact hfin (pv := .slice none 0 0) ea (by omega) hkeep (k5.fst k89) (by simpa using b9) IsSl.nil (fun c hc => nomatch hc) (frow_frame hLA5 k89 fun b hb he => by have := hlowL b hb; omega)
    by_cases h3 : s.op = 3
    · have ea : bldA (ordI kn n) kd L s = ⟨0, L.length, false, []⟩ := by unfold bldA; rw [if_neg h2', if_pos h3]
      obtain ⟨aL, cL, rfl, _⟩ := id hLs'
      simp [-getElem?_pos, -Array.getElem?_eq_getElem, -Int.natCast_add, bS, h3]
      refine op_store_ok (by kernel_rfl) bA (by simp) rfl fun w8 k8 z8 b8 => ?_
      exact hfin (pv := .slice none 0 0) ea (by omega) hkeep k8 (by simpa using b8) IsSl.nil (fun c hc => nomatch hc) (frow_frame hLA k8 fun b hb he => by have := hlowL b hb; omega)
    by_cases h4 : s.op = 4
    · have ea : bldA (ordI kn n) kd L s = zeroA := by unfold bldA; rw [if_neg h2', if_neg h3, if_neg (by omega)]
      simp [-getElem?_pos, -Array.getElem?_eq_getElem, -Int.natCast_add, bS, h4]
      refine copyP_ok (base := base) hLs (by rw [prs_len]; omega) (by omega) fun l5 w5 k5 hR5 ho5 => ?_
      have hlow5 := hR5.own_lt
      have n5 := k5.size
      refine op_push (u := [l5]) (y := prsOf kd L) (G2 := fun c => l5.ownBlock = some c) elK_ok apV (lit_65_1 hR5.one) rfl (fun x hx => by rw [List.mem_singleton.1 hx]; exact hR5.one) (hQA.still elK_ok k5) ⟨l5, rfl, hR5.flat, fun _ h => h⟩ (fun c hc => hlow5 c hc) (fun b hb hc => by have := ho5 b hc; have := hlowQ b hb; omega) (by omega) (by omega) fun kp' w6 k6 hR6 ho6 => ?_
      try simp [-getElem?_pos, -Array.getElem?_eq_getElem, -Int.natCast_add]
      have hQ5 := hQA.still elK_ok k5
      have hoff : ∀ c cs e, w5.heap[c]? = some (.cells cs e (0, 0)) → some c = kp.ownBlock → e = 38 := fun c cs e h1 h2 => by
        obtain ⟨cs2, t2⟩ := rows_ty hQ5 c h2.symm
        rw [h1] at t2; cases t2; rfl
      have hno : ∀ c cs e, w5.heap[c]? = some (.cells cs e (0, 0)) → some c = kp.ownBlock → e ≠ 45 := fun c cs e h1 h2 he => by rw [hoff c cs e h1 h2] at he; cases he
      have hO5 := hOA.still elA_ok k5
      have hL5 := frow_still hLA k5
      have hP25 : Prs w5 (fun c => G2 c ∨ l5.ownBlock = some c) := fun c hc => hc.elim (fun h => (hP2A.still k5) c h) fun h => rows_ty hR5 c h
      refine (hJ _ _ _).2 ⟨.slice none 0 0, G1, _, ⟨((kl.no klA).no k5).old k6 fun c hc => .inr (by have := hlowQ c hc.symm; omega), by have := k6.size; omega⟩, hO5.frame elA_ok k6 (fun c hc he => ?_) (fun b hb he => ?_), (hP1A.still k5).keep k6 hno, by rw [if_pos h4]; exact hR6, hP25.keep k6 hno, ?_, by rw [ea]; exact IsSl.nil, (fun c hc => nomatch hc), ?_⟩
      · obtain ⟨cs, h⟩ := (hP1A.still k5) c hc; exact hno c cs _ h he rfl
      · obtain ⟨cs, h⟩ := rows_ty hO5 b hb
        have := hoff b cs _ h he
        cases this
      · rw [ea]
        exact k6.get (k5.get bA fun h => h) fun he => by have := hlowQ ab he.symm; omega
      · rw [hkeep]
        refine frow_frame hL5 k6 fun b hb he => ?_
        obtain ⟨cs, h⟩ := rows_ty hL5 b hb
        have := hoff b cs _ h he
        cases this
    by_cases h5 : s.op = 5
    · have ea : bldA (ordI kn n) kd L s = ⟨0, 0, false, prsOf kd L⟩ := by unfold bldA; rw [if_neg h2', if_neg h3, if_pos h5]; rfl
      simp [-getElem?_pos, -Array.getElem?_eq_getElem, -Int.natCast_add, bS, h5]
      refine copyP_ok (base := wA.heap.size) hLs (by rw [prs_len]; omega) (Nat.le_refl _) fun l5 w5 k5 hR5 ho5 => ?_
      have hlow5 := hR5.own_lt
      have b5 := k5.get bA fun h => h
      try simp [-getElem?_pos, -Array.getElem?_eq_getElem, -Int.natCast_add]
      refine op_store_ok (by kernel_rfl) b5 (by simp) hR5.one fun w8 k8 z8 b8 => ?_
      refine hfin (pv := l5) ea (by omega) hkeep (k5.fst k8) (by simpa using b8) ((hR5.flat).frame k8 fun b hb he => by have := hlow5 b hb; omega) (fun c hc => ⟨(hlow5 c hc).1, ?_⟩) (frow_frame (frow_still hLA k5) k8 fun b hb he => by have := hlowL b hb; omega)
      obtain ⟨cs, h⟩ := rows_ty hR5 c hc
      exact ⟨cs, k8.get h (by have := hlow5 c hc; omega)⟩
    have ea : bldA (ordI kn n) kd L s = zeroA := by unfold bldA; rw [if_neg h2', if_neg h3, if_neg h5]
    have g1 : ¬ (s.op : Int) = 1 := by omega
    have g2 : ¬ (s.op : Int) = 2 := by omega
    have g3 : ¬ (s.op : Int) = 3 := by omega
    have g4 : ¬ (s.op : Int) = 4 := by omega
    have g5 : ¬ (s.op : Int) = 5 := by omega
    simp [-getElem?_pos, -Array.getElem?_eq_getElem, -Int.natCast_add, bS, h0, g1, g2, g3, g4, g5]
    exact hzero ea h4 hkeep Frm.refl hLA
  · intro wz kp' l' hm
    obtain ⟨pv, G3, G4, ⟨kz, nz⟩, hO9, hP9, hQ9, hP9', hcell, hrow, hown, hL9⟩ := (hJ _ _ _).1 hm
    have hone : ∀ u ∈ [Value.int .i64 (bldA (ordI kn n) kd L s).value, .int .i64 (bldA (ordI kn n) kd L s).n, .bool (bldA (ordI kn n) kd L s).ok, pv], u.oneCell' = true := fun u hu => by
      simp only [List.mem_cons, List.not_mem_nil, or_false] at hu
      rcases hu with rfl | rfl | rfl | rfl
      · rfl
      · rfl
      · rfl
      · exact hrow.one
    have hlow9 := hO9.own_lt
    have hx4 : (#[.int .i64 (bldA (ordI kn n) kd L s).value, .int .i64 (bldA (ordI kn n) kd L s).n, .bool (bldA (ordI kn n) kd L s).ok, pv] : Array Value).extract 0 4 = #[.int .i64 (bldA (ordI kn n) kd L s).value, .int .i64 (bldA (ordI kn n) kd L s).n, .bool (bldA (ordI kn n) kd L s).ok, pv] := rfl
    simp [-getElem?_pos, -Array.getElem?_eq_getElem, -Int.natCast_add, hcell, hx4]
    have hoff : ∀ c cs e, wz.heap[c]? = some (.cells cs e (0, 0)) → some c = out.ownBlock → e = 104 := fun c cs e h1 h2 => by
      obtain ⟨cs2, t2⟩ := rows_ty hO9 c h2.symm
      rw [h1] at t2; cases t2; rfl
    refine op_push (u := [.int .i64 (bldA (ordI kn n) kd L s).value, .int .i64 (bldA (ordI kn n) kd L s).n, .bool (bldA (ordI kn n) kd L s).ok, pv]) (y := bldA (ordI kn n) kd L s) (G2 := fun c => pv.ownBlock = some c) elA_ok apB (lit_an _ _ _ _) rfl hone hO9 ⟨pv, rfl, hrow, fun _ h => h⟩ (fun c hc => ?_) (fun b hb hc => ?_) (by omega) (by omega) fun o' w12 k12 hO12 ho12 => ?_
    · obtain ⟨h1, cs', h2⟩ := hown c hc; have := lt_of_get h2; omega
    · obtain ⟨h1, cs', h2⟩ := hown b hc
      have := hoff b cs' _ h2 hb.symm
      cases this
    try simp [-getElem?_pos, -Array.getElem?_eq_getElem, -Int.natCast_add]
    rw [show IntKind.i64.wrap ((i : Int) + 1) = ((i + 1 : Nat) : Int) from by rw [IntKind.wrap_i64]; omega]
    have hno : ∀ c cs e, wz.heap[c]? = some (.cells cs e (0, 0)) → some c = out.ownBlock → e ≠ 45 := fun c cs e h1 h2 he => by rw [hoff c cs e h1 h2] at he; cases he
    have hP12 : Prs wz (fun c => G3 c ∨ pv.ownBlock = some c) := fun c hc => hc.elim (fun h => hP9 c h) fun h => (hown c h).2
    refine ⟨(hI _ _ _ _ _).2 ⟨i + 1, fun c => G3 c ∨ pv.ownBlock = some c, G4, rfl, by omega, kz.old k12 fun c hc => .inr (by have := hlow9 c hc.symm; omega), by rw [hsnoc]; exact hO12, hP12.keep k12 hno, ?_, hP9'.keep k12 hno, ?_⟩, by simp only [nOf_int]; omega⟩
    · rw [hsnoc]
      refine hQ9.frame elK_ok k12 (fun c hc he => ?_) fun b hb he => ?_
      · obtain ⟨cs, h⟩ := hP9' c hc; exact hno c cs _ h he rfl
      · obtain ⟨cs, h⟩ := rows_ty hQ9 b hb
        have := hoff b cs _ h he
        cases this
    · rw [hsnoc]
      refine frow_frame hL9 k12 fun b hb he => ?_
      obtain ⟨cs, h⟩ := rows_ty hL9 b hb
      have := hoff b cs _ h he
      cases this
end Go.Proofs.YtodjijfblgnfmaaGreatDoor.I
end
