import Derived.Test.YtodjijfblgnfmaaGreatDoorU0
import Derived.ProofKit
import Derived.WideKeyArgs
import Derived.Deep.Slices
import Derived.Carry
import Derived.LaidMore
import Derived.OpenShut
import Derived.Stop.Joined
import Derived.Test.YtodjijfblgnfmaaGreatDoorU4
import Derived.Test.YtodjijfblgnfmaaGreatDoorRows
import Derived.Test.YtodjijfblgnfmaaGreatDoorCards
import Derived.Test.YtodjijfblgnfmaaGreatDoorTie
import Derived.Laws.IdiomStrings
import Derived.Shelf.Small.Strs
import Derived.Shelf.Strconv.Itoa0
import Derived.Shelf.Strconv.Itoa1
import Derived.Shelf.LaysM
import Derived.Shelf.Strconv.Itoa2
import Derived.Shelf.Strconv.Itoa3
import Derived.Test.YtodjijfblgnfmaaGreatDoorProg
import Derived.Lib.LaidTab
import Derived.MakeChecks
import Derived.Test.YtodjijfblgnfmaaGreatDoorU3
import Derived.Test.YtodjijfblgnfmaaGreatDoorU1
set_option linter.unusedSimpArgs false
set_option linter.unusedVariables false
set_option linter.unusedSectionVars false
set_option maxRecDepth 100000
set_option maxHeartbeats 4000000
section
namespace Go.Vc
open Go.ChangeShapes Go.WideShapes Go.ChangeAt Go.RowKit Go.WideElems
variable {H : Type} {enc : TypeId × Value → H} {P : Program} {W W' : World}
def typed (P : Program) (ts : List TypeId) : Bool := ts.all fun t => P.readableRec t && decide (t < P.types.size)
theorem below_of (h : ∀ {M}, Frm M W W') : Below W.heap.size W W' := ⟨(h (M := fun _ => False)).os, (h (M := fun _ => False)).tape, (h (M := fun _ => False)).output, (h (M := fun _ => False)).size, fun k hk => (h (M := fun _ => False)).block k hk (fun h => h)⟩
theorem trodAll_below (hl : laidOutB P = true) {sp : Nat → Bool} (hb : Below W.heap.size W W') :
    ∀ {ts : List TypeId} {vs : List Value} {ds : List (DataW H)} {ps : List MemPlace}, typed P ts = true → (∀ p ∈ ps, p.block < W.heap.size) → (∀ p ∈ ps, sp p.block = true) →
      DataW.TrodAll enc P W 0 (fun _ => true) true ts vs ds ps → DataW.TrodAll enc P W' 0 sp true ts vs ds ps
  | [], [], [], _, _, _, _, h => h
  | t :: ts, v :: vs, d :: ds, ps, ht, h1, h2, h => by
    obtain ⟨p, q, hd, hr, rfl⟩ := h
    simp only [typed, List.all_cons, Bool.and_eq_true, decide_eq_true_eq] at ht
    refine ⟨p, q, Trod_stays hl ht.1.1 ht.1.2 hd (fun x hx => hb.same (h1 x (by simp [hx]))) (fun x hx => h2 x (by simp [hx])), ?_, rfl⟩
    exact trodAll_below hl hb (by simpa [typed] using ht.2) (fun x hx => h1 x (by simp [hx])) (fun x hx => h2 x (by simp [hx])) hr
  | [], [], _ :: _, _, _, _, _, h => h.elim
  | [], _ :: _, _, _, _, _, _, h => h.elim
  | _ :: _, [], _, _, _, _, _, h => h.elim
  | _ :: _, _ :: _, [], _, _, _, _, h => h.elim
theorem trodAll_len : ∀ {ts : List TypeId} {vs : List Value} {ds : List (DataW H)} {ps : List MemPlace} {b : Nat} {sp : Nat → Bool} {hd : Bool}, DataW.TrodAll enc P W b sp hd ts vs ds ps → ds.length = ts.length
  | [], [], [], _, _, _, _, _ => rfl
  | t :: ts, v :: vs, d :: ds, ps, _, _, _, h => by
    obtain ⟨p, q, hd, hr, rfl⟩ := h
    simp [trodAll_len hr]
  | [], [], _ :: _, _, _, _, _, h => h.elim
  | [], _ :: _, _, _, _, _, _, h => h.elim
  | _ :: _, [], _, _, _, _, _, h => h.elim
  | _ :: _, _ :: _, [], _, _, _, _, h => h.elim
/-! ### arguments -/
theorem open_rows {t e : TypeId} {base : Nat} {v : Value} {d : DataW H} {ps : List MemPlace} (ht : P.underlying t = some (.slice e)) {c : Nat} (hc : P.cellsOf e = c) (hc0 : 0 < c)
    (hok : Value.okWide P W .any base t v) (h : DataW.Trod enc P W 0 (fun _ => true) true t v d ps) :
    ∃ (a : Option Addr) (len cap : Nat) (f : Nat → List Value), v = .slice a len cap ∧ len ≤ cap ∧ cap ≤ maxLen ∧ (a = none → len = 0) ∧ (∀ p, a = some p → p.spot = none ∧ p.block < W.heap.size) ∧
      Row W a ((List.range len).flatMap f) ∧ (∀ i, (f i).length = c) ∧ ∀ i, i < len → ∃ n x, DataW.trod enc P W 0 (fun _ => true) true n e (f i) = some x := by
  have hv : v = .slice none 0 0 ∨ ∃ p len cap, v = .slice (some p) len cap ∧ p.spot = none ∧ p.block < W.heap.size := by
    unfold Value.okWide at hok
    rw [ht] at hok
    simp only [Cell.okWide, ht] at hok
    unfold Cell.ok at hok
    rw [ht] at hok
    cases v with
    | slice a len cap =>
      cases a with
      | none =>
        match len, cap, hok with
        | 0, 0, _ => exact .inl rfl
      | some p =>
        refine .inr ⟨p, len, cap, rfl, hok.2.2.2.1, ?_⟩
        obtain ⟨row, cells, hsh, _⟩ := hok.2.2.2.2
        unfold World.shape? at hsh
        split at hsh
        · rename_i hb; exact lt_of_get hb
        · cases hsh
    | _ => exact hok.elim
  obtain ⟨fuel, hf⟩ := h
  rcases hv with rfl | ⟨p, len, cap, rfl, hs, hbl⟩
  · exact ⟨none, 0, 0, fun _ => List.replicate c undef, rfl, Nat.le_refl _, by simp [maxLen], fun _ => rfl, (fun p h => nomatch h), .inl rfl, fun i => by simp, fun i hi => by omega⟩
  · have hf' : DataW.trod enc P W 0 (fun _ => true) true fuel t [.slice (some p) len cap] = some (d, ps) := hf
    rcases Go.Deep.open_slice ht hf' with ⟨h0, _⟩ | ⟨a, len', cap', m, n, D, Pl, hcs, _, hl, hm, hmm, _, hx⟩
    · cases h0
    · simp only [List.cons.injEq, Value.slice.injEq, Option.some.injEq, and_true] at hcs
      obtain ⟨rfl, rfl, rfl⟩ := hcs
      obtain ⟨b, o, sp⟩ := p
      simp only at hs
      subst hs
      have hle : ∀ i, i < len → ∃ cs', W.cells? 0 ((⟨b, o, none⟩ : Addr).add (i * c)) c = some cs' ∧ DataW.trod enc P W 0 (fun _ => true) true n e cs' = some (D i, Pl i) := fun i hi => by
        have := hx i (by rw [hmm]; simp; omega)
        rwa [hc] at this
      have hcell : ∀ i, i < len → ∃ cs' : List Value, cs'.length = c ∧ (∀ r, r < c → W.cell? ⟨b, o + (i * c + r), none⟩ = cs'[r]?) ∧ DataW.trod enc P W 0 (fun _ => true) true n e cs' = some (D i, Pl i) := fun i hi => by
        obtain ⟨cs', h1, h2⟩ := hle i hi
        obtain ⟨_, h3, h4⟩ := World.cells?_some h1
        refine ⟨cs', h3, fun r hr => ?_, h2⟩
        rw [← h4 r hr, Go.Deep.add_add, add_spot rfl]
      have hch : ∃ f : Nat → List Value, (∀ i, (f i).length = c) ∧ ∀ i, i < len → (∀ r, r < c → W.cell? ⟨b, o + (i * c + r), none⟩ = (f i)[r]?) ∧ DataW.trod enc P W 0 (fun _ => true) true n e (f i) = some (D i, Pl i) := by
        classical
        refine ⟨fun i => if hi : i < len then Classical.choose (hcell i hi) else List.replicate c undef, fun i => ?_, fun i hi => ?_⟩
        · by_cases hi : i < len
          · simp only [dif_pos hi]; exact (Classical.choose_spec (hcell i hi)).1
          · simp only [dif_neg hi]; simp
        · simp only [dif_pos hi]; exact (Classical.choose_spec (hcell i hi)).2
      obtain ⟨f, hf1, hf2⟩ := hch
      have hrow : Row W (some ⟨b, o, none⟩) ((List.range len).flatMap f) ∧ (len ≠ 0 → b < W.heap.size) := by
        by_cases h0 : len = 0
        · subst h0; exact ⟨.inl rfl, fun h => absurd rfl h⟩
        · have hz := (hf2 0 (by omega)).1 0 hc0
          rw [List.getElem?_eq_getElem (by rw [hf1]; exact hc0)] at hz
          have hb : ∃ cs e' fz, W.heap[b]? = some (.cells cs e' fz) := by
            unfold World.cell? at hz
            split at hz
            · rename_i c' e' fz hb; exact ⟨_, _, _, hb⟩
            · cases hz
          obtain ⟨cs, e', fz, hb⟩ := hb
          refine ⟨.inr ⟨b, o, cs, e', fz, rfl, hb, fun j v hj => ?_⟩, fun _ => lt_of_get hb⟩
          have hjl : j < len * c := by
            have := (List.getElem?_eq_some_iff.1 hj).1
            rwa [flatMap_len hf1, List.length_range] at this
          have hjc : j = j / c * c + j % c := by rw [Nat.mul_comm]; exact (Nat.div_add_mod j c).symm
          have hi : j / c < len := Nat.div_lt_of_lt_mul (by rw [Nat.mul_comm]; exact hjl)
          have hr : j % c < c := Nat.mod_lt _ hc0
          have hg := flatMap_get hf1 (List.range len) (j / c) (j % c) (by simpa using hi) hr
          rw [← hjc] at hg
          rw [hg] at hj
          simp only [List.getElem_range] at hj
          have := (hf2 _ hi).1 _ hr
          rw [← hjc, hj] at this
          rw [← this]
          exact (cell_of (p := ⟨b, o + j, none⟩) hb rfl).symm
      exact ⟨some ⟨b, o, none⟩, len, cap, f, rfl, hl, hm, (fun h => nomatch h), fun p hp => by cases hp; exact ⟨rfl, hbl⟩, hrow.1, hf1, fun i hi => ⟨n, _, (hf2 i hi).2⟩⟩
theorem open_fields {t : TypeId} {fs : Array Field} {n : Nat} {cs : List Value} {x : DataW H × List MemPlace} (ht : P.underlying t = some (.struct fs)) (h : DataW.trod enc P W 0 (fun _ => true) true n t cs = some x)
    {i : Nat} {f : Field} (hf : fs[i]? = some f) (ho : f.offset = i) (hc : P.cellsOf f.type = 1) (hi : i < cs.length) :
    ∃ n y, DataW.trod enc P W 0 (fun _ => true) true n f.type [cs[i]] = some y := by
  obtain ⟨xs, k, rfl, rfl, hl, hxl, hx⟩ := DataW.trod_struct ht h
  have h1 := hx i f hf
  have hi2 : i < xs.length := by rw [hxl]; exact (Array.getElem?_eq_some_iff.1 hf).1
  rw [ho, hc, List.getElem?_eq_getElem hi2, List.drop_eq_getElem_cons hi, List.take_succ_cons, List.take_zero] at h1
  exact ⟨k, _, h1⟩
theorem field_int {t : TypeId} {k : IntKind} {n : Nat} {u : Value} {x : DataW H × List MemPlace} (ht : P.underlying t = some (.int k)) (h : DataW.trod enc P W 0 (fun _ => true) true n t [u] = some x) : ∃ m, u = .int k m ∧ k.min ≤ m ∧ m ≤ k.max := by
  obtain ⟨m, hm, _, hw⟩ := DataW.trod_int ht h
  simp only [Lit.wf, Bool.and_eq_true, decide_eq_true_eq] at hw
  exact ⟨m, by simpa using hm, hw.1, hw.2⟩
end Go.Vc
end
section
namespace Go.RowKit
open Go.ChangeShapes Go.WideShapes Go.ChangeAt Go.WideElems
variable {H : Type} {enc : TypeId × Value → H} {P : Program} {w : World} {base : Nat} {spare : Nat → Bool} {held : Bool}
end Go.RowKit
end
section
namespace Go.Vc
open Go.ChangeShapes Go.WideShapes Go.ChangeAt Go.RowKit Go.WideElems
variable {H : Type} {enc : TypeId × Value → H} {P : Program} {W W' : World}
theorem open_agg {t : TypeId} {fs : Array Field} {base n : Nat} {v : Value} {d : DataW H} {ps : List MemPlace} (ht : P.underlying t = some (.struct fs)) (hc : P.cellsOf t = n)
    (hok : Value.okWide P W .any base t v) (h : DataW.Trod enc P W 0 (fun _ => true) true t v d ps) :
    ∃ cs : List Value, v = .agg cs.toArray ∧ cs.length = n ∧ ∃ m x, DataW.trod enc P W 0 (fun _ => true) true m t cs = some x := by
  unfold Value.okWide at hok
  rw [ht] at hok
  obtain ⟨cs, rfl, hs, _⟩ := hok
  obtain ⟨fuel, hf⟩ := h
  exact ⟨cs.toList, by simp, by simp [hs, hc], fuel, _, hf⟩
theorem rows_of {α : Type} {f : Nat → List Value} {c : α → List Value} {len : Nat} {a : Option Addr} (d : α) (h : Row W a ((List.range len).flatMap f)) (hf : ∀ i, i < len → ∃ s, f i = c s) : ∃ xs : List α, xs.length = len ∧ Row W a (xs.flatMap c) := by
  obtain ⟨g, hg⟩ := Classical.axiomOfChoice (r := fun i (s : α) => i < len → f i = c s) fun i => by
    by_cases hi : i < len
    · obtain ⟨s, hs⟩ := hf i hi
      exact ⟨s, fun _ => hs⟩
    · exact ⟨d, fun h => absurd h hi⟩
  refine ⟨(List.range len).map g, by simp, ?_⟩
  rw [Go.Deep.flatMap_congr_range hg] at h
  rwa [List.flatMap_map]
end Go.Vc
end
section
namespace Go.Vc
open Go.ChangeShapes Go.WideShapes Go.ChangeAt Go.RowKit
variable {H : Type} {enc : TypeId × Value → H} {P : Program} {W W' : World}
theorem returns_true_laid {C : Checked} {os : Os} {f : FuncId} {fn : Func} {s : ChangeSpec} {tb : TypeId} {laid : List (String × DataW Unit)}
    (own : ownKnob C.prog.godebug = none) (started : os.Started) (noInit : C.prog.inits.idxOf? f = none) (hfn : C.prog.funcs[f]? = some fn)
    (witness : ∃ (w : World) (tape : Tape) (i : Input), w.os = os ∧ (w.forCall tape i).Shaped C.prog ∧ i.vars = [] ∧ Input.okWide C.prog (w.forCall tape i) .any w.heap.size f i ∧
      ((s.pre enc C.prog fn [] false (w.forCall tape i).memory i.args ∧ laidMetH C.prog laid (w.forCall tape i).memory) ∧ sizedMet enc C.prog fn (OpenSpec.ofChange s) false (w.forCall tape i).memory i.args) ∧ ({} : Assume).holds C.prog (lone (Frame.enter C.prog f i.args .normal) [] (w.forCall tape i)))
    (hl : laidOutB C.prog = true) (ht : typed C.prog fn.params.toList = true) (hv : s.vars = []) (hres : fn.resultTypes = #[tb]) (hb : C.prog.underlying tb = some .bool)
    (hs : ∀ ds : List (DataW H), ds.length = fn.params.toList.length → s.fn H ds = { results := [.lit (.bool true)], args := ds })
    (contract : ∀ (W : World) (base : Nat) (args : Array Value) (ds : List (DataW H)) (before : List MemPlace), W.ShapedOpen C.prog → laidMetH C.prog laid W →
      (∀ (j : Nat) t v, fn.params[j]? = some t → args[j]? = some v → Value.okWide C.prog W .any base t v) →
      DataW.TrodAll enc C.prog W 0 (fun _ => true) true fn.params.toList args.toList ds before → (∀ p ∈ before, p.block < W.heap.size) →
      Calls C.prog f args W (ret (fun v W' => v = .bool true ∧ ∀ M, Frm M W W') fun _ _ => False)) :
    ReturnsInHanded {} C os f .any (fun w args => (s.pre enc C.prog fn [] false w args ∧ laidMetH C.prog laid w) ∧ sizedMet enc C.prog fn (OpenSpec.ofChange s) false w args) (s.post enc C.prog fn false true false false) := by
  refine returnsInHanded_of_calls own started noInit witness ?_
  intro w tape i _ hsh _ hok hpre hholds
  obtain ⟨_, _, _, fn', hfn', _, _, _, _, hval⟩ := hok
  have e : fn' = fn := Option.some.inj (hfn'.symm.trans hfn)
  subst e
  obtain ⟨⟨⟨ds, gs, before, hw, hc⟩, hL⟩, hz⟩ := hpre
  have hL' : laidMetH C.prog laid (w.forCall tape i) := hL.of_heap (by rfl)
  have hw' := DataW.Whole.of_heap (w' := w.forCall tape i) (by rfl) hw
  have hlt := hw'.lt
  have hw'' := hw'
  obtain ⟨p, q, hA, hV, rfl, hfz, hnd⟩ := hw'
  rw [hv] at hV
  obtain ⟨rfl, rfl⟩ := trodVars_none hV
  rw [List.append_nil] at hlt hw''
  refine (contract (w.forCall tape i) w.heap.size i.args ds p hsh hL' hval hA hlt).mono fun e W' he => ?_
  cases e with
  | returned v =>
    obtain ⟨rfl, hf⟩ := he
    have hb' := below_of (fun {M} => hf M)
    have hlen := trodAll_len hA
    have hsd : s.fn H (ds ++ []) = { results := [.lit (.bool true)], args := ds } := by rw [List.append_nil]; exact hs ds hlen
    refine ChangeSpec.post_blind ⟨ds, [], p, [], p, [], hw'', ?_, ?_, ?_, World.keptBut_mono (fun x hx => ⟨hx, .inr (.inl hx)⟩) (hb'.frame (· ∈ p)), (fun h => nomatch h)⟩
    · rw [hsd, hres]; exact trodAll_mk1 (shut_bool hb _)
    · rw [hsd]; exact trodAll_below hl hb' ht hlt (fun x hx => by simpa using hlt x hx) hA
    · rw [hsd, hv]; rfl
  | panicked _ => exact he.elim
  | outgrown => exact he.elim
end Go.Vc
end
section
namespace Go.Proofs.YtodjijfblgnfmaaGreatDoor
open Go.Vc Go.Proofs Go.Vc.Bt Go.ChangeShapes Go.WideShapes Go.ChangeAt Go.RowKit
variable {H : Type} {enc : TypeId × Value → H} {W : World}
theorem row_own : ownKnob Tryz.prog.godebug = none := by kernel_rfl
theorem row_laid : laidOutB Tryz.prog = true := by kernel_rfl
abbrev laid3 : List (String × DataW Unit) := [("math/bits.deBruijn32tab", Rows.laid_math_bits_deBruijn32tab), ("math/bits.deBruijn64tab", Rows.laid_math_bits_deBruijn64tab), ("internal/strconv.uint64pow10", Rows.laid_internal_strconv_uint64pow10)]
theorem door_met (os : Os) (args : Array Value) : laidMetH Tryz.prog laid3 ((World.doorLaid Tryz.prog 24 os).forCall (fun _ _ => 0) ⟨#[], args, []⟩).memory :=
  laidMetH_of_parts3 (fuel := 8) (laidMet_of_run' 8 (by kernel_rfl) (by kernel_rfl)) (by kernel_rfl) (by kernel_rfl)
theorem open_order {base : Nat} {v : Value} {d : DataW H} {ps : List MemPlace} (hok : Value.okWide Tryz.prog W .any base 23 v) (h : DataW.Trod enc Tryz.prog W 0 (fun _ => true) true 23 v d ps) :
    ∃ (kn : Nat) (n : Int), v = orderV kn n ∧ -9223372036854775808 ≤ n ∧ n ≤ 9223372036854775807 := by
  obtain ⟨cs, rfl, hl, n, x, hx⟩ := open_agg Tryz.underlying23 (n := 2) (by kernel_rfl) hok h
  match cs, hl, hx with
  | [u0, u1], _, hx =>
    have hu := Tryz.underlying23
    obtain ⟨n0, y0, z0⟩ := open_fields hu hx (i := 0) rfl rfl (by kernel_rfl) (by simp)
    obtain ⟨n1, y1, z1⟩ := open_fields hu hx (i := 1) rfl rfl (by kernel_rfl) (by simp)
    obtain ⟨m0, e0, b0, _⟩ := field_int Tryz.underlying5 z0
    obtain ⟨m1, e1, b1, b2⟩ := field_int Tryz.underlying2 z1
    have h0 : (m0.toNat : Int) = m0 := Int.toNat_of_nonneg b0
    refine ⟨m0.toNat, m1, ?_, b1, b2⟩
    simp only [List.getElem_cons_zero, List.getElem_cons_succ] at e0 e1
    simp only [orderV, h0, e0, e1]
theorem open_flag {base : Nat} {v : Value} {d : DataW H} {ps : List MemPlace} (hok : Value.okWide Tryz.prog W .any base 4 v) (h : DataW.Trod enc Tryz.prog W 0 (fun _ => true) true 4 v d ps) : ∃ b : Bool, v = .bool b := by
  obtain ⟨b, h1, _⟩ := open_bool Tryz.underlying4 hok h
  exact ⟨b, h1⟩
end Go.Proofs.YtodjijfblgnfmaaGreatDoor
end
section
namespace Go.Proofs.YtodjijfblgnfmaaGreatDoor
open Go.Vc Go.Proofs Go.Vc.Bt Go.ChangeShapes Go.WideShapes Go.ChangeAt Go.RowKit

end Go.Proofs.YtodjijfblgnfmaaGreatDoor
end
section
namespace Go.Proofs.YtodjijfblgnfmaaGreatDoor
open Go.Vc Go.Proofs
variable {S : Sig} {a0 a1 a2 a3 a4 a5 a6 a7 a8 a9 : Value} {w : World} {K : KV} {Kp : KP}
private theorem follows_BVcLP : Tryz.prog.follows .mixedOrders = true := by kernel_rfl
def vc34 (S : Sig) (a0 a1 a2 a3 : Value) (w : World) (K : KV) (Kp : KP) : Prop :=
 S.op (.box 23 a0) w (fun v4 w =>
 S.op (.box 45 a2) w (fun v6 w =>
 S.op (.box 45 a3) w (fun v7 w =>
 Jn fun (J4 : KV) =>
 (S.op (.fieldAddr 23 v4 0) w (fun v14 w =>
 S.op (.load 5 v14) w (fun v15 w =>
 S.op (.bin .eql 5 false true v15 (.int .u8 2)) w (fun v16 w =>
 Br v16 (
 J4 (.int .i64 (-1)) w) (
 J4 (.int .i64 1) w)) Kp) Kp) Kp) ∧
 (∀ (w : World) (_ : Nat → Value) (j9 : Value), J4 j9 w →
 S.pur (.fieldAddr 45 v6 0) (fun v17 =>
 S.ld (.load 2 v17) w.drew (fun v18 =>
 S.pur (.fieldAddr 45 v7 0) (fun v19 =>
 S.ld (.load 2 v19) w.drew (fun v20 =>
 S.pur (.bin .lss 2 false false v18 v20) (fun v21 =>
 S.pur (.fieldAddr 45 v6 0) (fun v22 =>
 S.ld (.load 2 v22) w.drew (fun v23 =>
 S.pur (.fieldAddr 45 v7 0) (fun v24 =>
 S.ld (.load 2 v24) w.drew (fun v25 =>
 S.pur (.bin .gtr 2 false false v23 v25) (fun v26 =>
 S.same (.load 2 v24) v25 w.drew ∧
 S.same (.load 2 v22) v23 w.drew ∧
 Jn fun (J9 : Value → KV) =>
 (S.op (.fieldAddr 23 v4 0) w.drew (fun v27 w =>
 S.op (.load 5 v27) w (fun v28 w =>
 S.op (.bin .eql 5 false true v28 (.int .u8 3)) w (fun v29 w =>
 Br v29 (
 S.pur (.fieldAddr 45 v6 0) (fun v30 =>
 S.ld (.load 2 v30) w.drew (fun v31 =>
 S.pur (.fieldAddr 23 v4 1) (fun v32 =>
 S.ld (.load 2 v32) w.drew (fun v33 =>
 S.pur (.fieldAddr 45 v7 0) (fun v35 =>
 S.ld (.load 2 v35) w.drew (fun v36 =>
 S.pur (.fieldAddr 23 v4 1) (fun v37 =>
 S.ld (.load 2 v37) w.drew (fun v38 =>
 S.call (.fn 59) [v31, v33] w.drew (fun v34 w =>
 S.same (.load 2 v37) v38 w ∧
 S.same (.load 2 v35) v36 w ∧
 S.call (.fn 59) [v36, v38] w (fun v39 w =>
 S.op (.bin .neq 2 false false v34 v39) w (fun v42 w =>
 Br v42 (
 S.op (.bin .lss 2 false false v34 v39) w (fun v45 w =>
 S.op (.bin .gtr 2 false false v34 v39) w (fun v48 w =>
 J9 v45 v48 w) Kp) Kp) (
 J9 v21 v26 w)) Kp) Kp) Kp))))))))) (
 J9 v21 v26 w)) Kp) Kp) Kp) ∧
 (∀ (w : World) (_ : Nat → Value) (j10 : Value) (j11 : Value), J9 j10 j11 w →
 Br a1 (
 S.pur (.fieldAddr 45 v6 1) (fun v50 =>
 S.ld (.load 9 v50) w.drew (fun v51 =>
 S.pur (.fieldAddr 45 v7 1) (fun v52 =>
 S.ld (.load 9 v52) w.drew (fun v53 =>
 S.pur (.bin .lss 9 false false v51 v53) (fun v54 =>
 S.pur (.fieldAddr 45 v6 1) (fun v55 =>
 S.ld (.load 9 v55) w.drew (fun v56 =>
 S.pur (.fieldAddr 45 v7 1) (fun v57 =>
 S.ld (.load 9 v57) w.drew (fun v58 =>
 S.pur (.bin .gtr 9 false false v56 v58) (fun v59 =>
 S.same (.load 9 v57) v58 w.drew ∧
 S.same (.load 9 v55) v56 w.drew ∧
 S.op (.fieldAddr 23 v4 0) w.drew (fun v60 w =>
 S.op (.load 5 v60) w (fun v61 w =>
 S.op (.bin .eql 5 false true v61 (.int .u8 3)) w (fun v62 w =>
 Br v62 (
 S.op (.fieldAddr 45 v6 1) w (fun v64 w =>
 S.op (.load 9 v64) w (fun v65 w =>
 S.op (.blt .len [9] 3 [v65]) w (fun v66 w =>
 S.op (.fieldAddr 45 v7 1) w (fun v67 w =>
 S.op (.load 9 v67) w (fun v68 w =>
 S.op (.blt .len [9] 3 [v68]) w (fun v69 w =>
 S.op (.bin .neq 3 false false v66 v69) w (fun v70 w =>
 Br v70 (
 S.pur (.fieldAddr 45 v6 1) (fun v72 =>
 S.ld (.load 9 v72) w.drew (fun v73 =>
 S.ld (.blt .len [9] 3 [v73]) w.drew (fun v74 =>
 S.pur (.fieldAddr 45 v7 1) (fun v75 =>
 S.ld (.load 9 v75) w.drew (fun v76 =>
 S.ld (.blt .len [9] 3 [v76]) w.drew (fun v77 =>
 S.pur (.bin .lss 3 false false v74 v77) (fun v78 =>
 S.pur (.fieldAddr 45 v6 1) (fun v79 =>
 S.ld (.load 9 v79) w.drew (fun v80 =>
 S.ld (.blt .len [9] 3 [v80]) w.drew (fun v81 =>
 S.pur (.fieldAddr 45 v7 1) (fun v82 =>
 S.ld (.load 9 v82) w.drew (fun v83 =>
 S.ld (.blt .len [9] 3 [v83]) w.drew (fun v84 =>
 S.pur (.bin .gtr 3 false false v81 v84) (fun v85 =>
 S.same (.blt .len [9] 3 [v83]) v84 w.drew ∧
 S.same (.load 9 v82) v83 w.drew ∧
 S.same (.blt .len [9] 3 [v80]) v81 w.drew ∧
 S.same (.load 9 v79) v80 w.drew ∧
 Br v78 (
 S.op (.un .neg j9) w.drew (fun v89 w =>
 K v89 w) Kp) (
 Br v85 (
 K j9 w.drew) (
 K (.int .i64 0) w.drew))))))))))))))))) (
 Br v54 (
 S.op (.un .neg j9) w (fun v89 w =>
 K v89 w) Kp) (
 Br v59 (
 K j9 w) (
 K (.int .i64 0) w)))) Kp) Kp) Kp) Kp) Kp) Kp) Kp) (
 Br v54 (
 S.op (.un .neg j9) w (fun v89 w =>
 K v89 w) Kp) (
 Br v59 (
 K j9 w) (
 K (.int .i64 0) w)))) Kp) Kp) Kp))))))))))) (
 Br j10 (
 S.op (.un .neg j9) w (fun v89 w =>
 K v89 w) Kp) (
 Br j11 (
 K j9 w) (
 K (.int .i64 0) w)))))))))))))))) Kp) Kp) Kp
theorem vc34_eq : vc34 S a0 a1 a2 a3 w K Kp = fVC S [] [(4, [9]), (9, [10, 11])] Tryz.f34 [a0, a1, a2, a3] w K Kp := by kernel_rfl
theorem vc34_calls (h : vc34 nP a0 a1 a2 a3 w K Kp) : Calls Tryz.prog 34 #[a0, a1, a2, a3] w (ret K Kp) :=
 fVC_sound (args := [a0, a1, a2, a3]) nice_le follows_BVcLP Tryz.func34 (by kernel_rfl) (Eq.mp vc34_eq h)
def vc59 (S : Sig) (a0 a1 : Value) (w : World) (K : KV) (Kp : KP) : Prop :=
 S.op (.bin .rem 2 false false a0 a1) w (fun v8 w =>
 S.op (.bin .lss 2 false true v8 (.int .i64 0)) w (fun v10 w =>
 Br v10 (
 S.op (.bin .add 2 false false v8 a1) w (fun v13 w =>
 K v13 w) Kp) (
 K v8 w)) Kp) Kp
theorem vc59_eq : vc59 S a0 a1 w K Kp = fVC S [] [] Tryz.f59 [a0, a1] w K Kp := by kernel_rfl
theorem vc59_calls (h : vc59 nP a0 a1 w K Kp) : Calls Tryz.prog 59 #[a0, a1] w (ret K Kp) :=
 fVC_sound (args := [a0, a1]) nice_le follows_BVcLP Tryz.func59 (by kernel_rfl) (Eq.mp vc59_eq h)
def vc48 (S : Sig) (a0 a1 a2 a3 : Value) (w : World) (K : KV) (Kp : KP) : Prop :=
 S.op (.box 23 a0) w (fun v4 w =>
 S.op (.box 45 a3) w (fun v7 w =>
 S.op (.blt .len [38] 3 [a2]) w (fun v14 w =>
 Lp fun (I2 : Value → KV) (μ2 : Value → Value → World → Nat) => I2 (.int .i64 0) v14 w ∧
 ∀ (wl2 : World) (_ : Nat → Value) (s10 : Value) (s11 : Value), I2 s10 s11 wl2 →
 S.op (.bin .lss 3 false false s10 s11) wl2 (fun v17 w =>
 Br v17 (
 S.op (.bin .add 3 false false s10 s11) w (fun v20 w =>
 S.op (.bin .quo 3 false true v20 (.int .i64 2)) w (fun v21 w =>
 S.ld (.load 23 v4) w.drew (fun v22 =>
 S.pur (.indexAddr 38 a2 v21) (fun v26 =>
 S.ld (.load 45 v26) w.drew (fun v27 =>
 S.ld (.load 45 v7) w.drew (fun v28 =>
 S.call (.fn 34) [v22, a1, v27, v28] w.drew (fun v29 w =>
 S.pur (.bin .lss 3 false true v29 (.int .i64 0)) (fun v30 =>
 Br v30 (
 S.op (.bin .add 3 false true v21 (.int .i64 1)) w (fun v32 w =>
 I2 v32 s11 w ∧ μ2 v32 s11 w < μ2 s10 s11 wl2) Kp) (
 I2 s10 v21 w ∧ μ2 s10 v21 w < μ2 s10 s11 wl2))) Kp))))) Kp) Kp) (
 S.ld (.blt .len [38] 3 [a2]) w.drew (fun v37 =>
 S.pur (.bin .lss 3 false false s10 v37) (fun v38 =>
 Br v38 (
 S.ld (.load 23 v4) w.drew (fun v40 =>
 S.pur (.indexAddr 38 a2 s10) (fun v44 =>
 S.ld (.load 45 v44) w.drew (fun v45 =>
 S.ld (.load 45 v7) w.drew (fun v46 =>
 S.call (.fn 34) [v40, a1, v45, v46] w.drew (fun v47 w =>
 S.pur (.bin .eql 3 false true v47 (.int .i64 0)) (fun v48 =>
 K (.tuple #[s10, v48]) w)) Kp))))) (
 K (.tuple #[s10, (.bool false)]) w.drew))))) Kp) Kp) Kp) Kp
theorem vc48_eq : vc48 S a0 a1 a2 a3 w K Kp = fVC S [(2, [10, 11])] [] Tryz.f48 [a0, a1, a2, a3] w K Kp := by kernel_rfl
theorem vc48_calls (h : vc48 nP a0 a1 a2 a3 w K Kp) : Calls Tryz.prog 48 #[a0, a1, a2, a3] w (ret K Kp) :=
 fVC_sound (args := [a0, a1, a2, a3]) nice_le follows_BVcLP Tryz.func48 (by kernel_rfl) (Eq.mp vc48_eq h)
def vc46 (S : Sig) (a0 a1 a2 a3 : Value) (w : World) (K : KV) (Kp : KP) : Prop :=
 S.op (.box 23 a0) w (fun v4 w =>
 S.op (.box 45 a3) w (fun v7 w =>
 S.op (.load 23 v4) w (fun v12 w =>
 S.op (.load 45 v7) w (fun v15 w =>
 S.call (.fn 48) [v12, a1, a2, v15] w (fun v16 w =>
 S.op (.extract v16 0) w (fun v17 w =>
 S.op (.extract v16 1) w (fun v18 w =>
 Br v18 (
 S.op (.load 45 v7) w (fun v22 w =>
 S.op (.indexAddr 38 a2 v17) w (fun v23 w =>
 S.op (.store 45 v23 v22) w (fun _ w =>
 K a2 w) Kp) Kp) Kp) (
 S.op (.build 45 []) w (fun v26 w =>
 S.op (.buildSlice 38 1 [(0, v26)]) w (fun v27 w =>
 S.op (.blt .append [38, 38] 38 [a2, v27]) w (fun v28 w =>
 S.pur (.bin .add 3 false true v17 (.int .i64 1)) (fun v31 =>
 S.pur (.slice 38 v28 (some v31) none none) (fun v32 =>
 S.pur (.slice 38 v28 (some v17) none none) (fun v35 =>
 S.op (.blt .copy [38, 38] 3 [v32, v35]) w.drew (fun v36 w =>
 S.op (.load 45 v7) w (fun v39 w =>
 S.op (.indexAddr 38 v28 v17) w (fun v40 w =>
 S.op (.store 45 v40 v39) w (fun _ w =>
 K v28 w) Kp) Kp) Kp) Kp)))) Kp) Kp) Kp)) Kp) Kp) Kp) Kp) Kp) Kp) Kp
theorem vc46_eq : vc46 S a0 a1 a2 a3 w K Kp = fVC S [] [] Tryz.f46 [a0, a1, a2, a3] w K Kp := by kernel_rfl
theorem vc46_calls (h : vc46 nP a0 a1 a2 a3 w K Kp) : Calls Tryz.prog 46 #[a0, a1, a2, a3] w (ret K Kp) :=
 fVC_sound (args := [a0, a1, a2, a3]) nice_le follows_BVcLP Tryz.func46 (by kernel_rfl) (Eq.mp vc46_eq h)
end Go.Proofs.YtodjijfblgnfmaaGreatDoor
end
section
namespace Go.Proofs.YtodjijfblgnfmaaGreatDoor
open Go.Vc Go.Proofs Go.Vc.Bt
variable {w w' : World} {K : KV} {Kp : KP} {K1 : Value → Prop} {n : Int} {kn : Nat} {text : Bool} {a b : SPr}
theorem pur_lss_s {t : TypeId} {xc yc : Bool} {a b : ByteArray} : nP.pur (.bin .lss t xc yc (.string a) (.string b)) K1 = K1 (.bool (lessB a b)) := pur_of' (by simp [pv, binV, strV, lessB])
theorem pur_gtr_s {t : TypeId} {xc yc : Bool} {a b : ByteArray} : nP.pur (.bin .gtr t xc yc (.string a) (.string b)) K1 = K1 (.bool (lessB b a)) := by
  have h : (!(lessB a b || decide (a = b))) = lessB b a := by
    cases h1 : lessB a b with
    | true => rw [lin_lessB.asym h1]; rfl
    | false =>
      cases h2 : lessB b a with
      | true =>
        have hne : ¬ a = b := fun e => by rw [e, lin_lessB.irr] at h2; cases h2
        simp [hne]
      | false => simp [lin_lessB.tri h1 h2]
  rw [← h]
  exact pur_of' (by simp [pv, binV, strV, lessB])
theorem rest_ok {a : Int} (h1 : 1 ≤ n) (h2 : n ≤ 1000) (hK : K (.int .i64 (a % n)) w) : Calls Tryz.prog 59 #[.int .i64 a, .int .i64 n] w (ret K Kp) := by
  refine vc59_calls ?_
  delta vc59
  obtain ⟨t1, t2, t3⟩ := I.tmod_pos (a := a) (m := n) (by omega)
  simp [-getElem?_pos, -Array.getElem?_eq_getElem, -Int.natCast_add, add_spot, and_assoc, Br_dec]
  refine ⟨by omega, fun h => ?_, fun h => ?_⟩
  · rw [if_pos h] at t3
    rw [show IntKind.i64.wrap (a.tmod n + n) = a % n from by rw [IntKind.wrap_i64]; omega]
    exact hK
  · rw [if_neg (by omega)] at t3
    rw [← t3]; exact hK
def ltS (text : Bool) (kn : Nat) (n : Int) (a b : SPr) : Bool := if text then T.ordB kn a.text b.text else I.ordI kn n a.key b.key
def cmpS (text : Bool) (kn : Nat) (n : Int) (a b : SPr) : Int := if ltS text kn n a b then -1 else if ltS text kn n b a then 1 else 0
theorem ltS_asym (h : ltS text kn n a b = true) : ltS text kn n b a = false := by
  unfold ltS at *
  cases text
  · exact I.ordI_lin.asym h
  · exact T.ordB_lin.asym h
theorem c_lt (h : ltS text kn n a b = true) : cmpS text kn n a b = -1 := by unfold cmpS; rw [if_pos h]
theorem c_gt (h : ltS text kn n b a = true) : cmpS text kn n a b = 1 := by unfold cmpS; rw [if_neg (by rw [ltS_asym h]; simp), if_pos h]
theorem c_eq (h : ltS text kn n a b = false) (h' : ltS text kn n b a = false) : cmpS text kn n a b = 0 := by unfold cmpS; rw [if_neg (by simp [h]), if_neg (by simp [h'])]
theorem compareS_ok (hR : Right kn n) (hK : ∀ w', Frm (fun _ => False) w w' → K (.int .i64 (cmpS text kn n a b)) w') : Calls Tryz.prog 34 #[orderV kn n, .bool text, .agg a.cells.toArray, .agg b.cells.toArray] w (ret K Kp) := by
  refine vc34_calls ?_
  delta vc34 orderV
  refine op_box_ok fun w1 k1 z1 b1 => op_box_ok fun w2 k2 z2 b2 => op_box_ok fun w3 k3 z3 b3 => ?_
  simp only [cells_agg, SPr.cells] at b1 b2 b3
  have k13 := (k1.no k2).no k3
  have c1 := k3.get (k2.get b1 fun h => h) fun h => h
  have c2 := k3.get b2 fun h => h
  have kd : ∀ {wz}, Frm (fun _ => False) w3 wz → K (.int .i64 (cmpS text kn n a b)) wz := fun hf => hK _ (k13.no hf)
  have dr := Frm.drew (M := fun _ => False) w3
  have dd := dr.no (Frm.drew (M := fun _ => False) w3.drew)
  clear hK
  have klt : ∀ {wz : World} {m : Int}, Frm (fun _ => False) w3 wz → ltS text kn n a b = true → m = -1 → K (.int .i64 m) wz := fun hf h e => by have := kd hf; rw [c_lt h] at this; rw [e]; exact this
  have kgt : ∀ {wz : World} {m : Int}, Frm (fun _ => False) w3 wz → ltS text kn n b a = true → m = 1 → K (.int .i64 m) wz := fun hf h e => by have := kd hf; rw [c_gt h] at this; rw [e]; exact this
  have keq : ∀ {wz : World}, Frm (fun _ => False) w3 wz → ltS text kn n a b = false → ltS text kn n b a = false → K (.int .i64 0) wz := fun hf h h' => by have := kd hf; rw [c_eq h h'] at this; exact this
  clear kd
  by_cases e2 : kn = 2
  · subst e2
    simp [-getElem?_pos, -Array.getElem?_eq_getElem, -Int.natCast_add, c1]
    refine Jn.intro (fun v wz => v = .int .i64 (-1) ∧ wz = w3) ⟨⟨rfl, rfl⟩, ?_⟩
    rintro wz _ ⟨rfl, rfl⟩
    obtain ⟨J, hJ⟩ : ∃ J : Value → KV, ∀ u v wq, J u v wq ↔ u = .bool (decide (a.key < b.key)) ∧ v = .bool (decide (b.key < a.key)) ∧ Frm (fun _ => False) wz wq := ⟨_, fun _ _ _ => Iff.rfl⟩
    simp [-getElem?_pos, -Array.getElem?_eq_getElem, -Int.natCast_add, c1, c2, b3]
    refine Jn.intro J ⟨(hJ _ _ _).2 ⟨rfl, by simp, dr⟩, ?_⟩
    intro wq u v hq
    obtain ⟨rfl, rfl, kq⟩ := (hJ _ _ _).1 hq
    have q1 := kq.get c1 fun h => h
    have q2 := kq.get c2 fun h => h
    have q3 := kq.get b3 fun h => h
    have kqd := kq.no (Frm.drew wq)
    cases text with
    | true =>
      have hlt : ltS true 2 n b a = lessB a.text b.text := rfl
      have hgt : ltS true 2 n a b = lessB b.text a.text := rfl
      rw [hgt] at klt keq
      rw [hlt] at kgt keq
      simp [-getElem?_pos, -Array.getElem?_eq_getElem, -Int.natCast_add, q1, q2, q3, pur_lss_s, pur_gtr_s]
      exact ⟨fun h => kgt kqd h (by decide), fun h => ⟨fun h' => klt kqd h' rfl, fun h' => keq kqd h' h⟩⟩
    | false =>
      have hlt : ltS false 2 n b a = decide (a.key < b.key) := by simp [ltS, I.ordI, ltInt]
      have hgt : ltS false 2 n a b = decide (b.key < a.key) := by simp [ltS, I.ordI, ltInt]
      rw [hgt] at klt keq
      rw [hlt] at kgt keq
      simp [-getElem?_pos, -Array.getElem?_eq_getElem, -Int.natCast_add, add_spot, and_assoc, Br_dec]
      exact ⟨fun h => kgt kq (by simpa using h) (by decide), fun h => ⟨fun h' => klt kq (by simpa using h') rfl, fun h' => keq kq (by simpa using h') (by simpa using h)⟩⟩
  have g2 : ¬ (kn : Int) = 2 := by omega
  simp [-getElem?_pos, -Array.getElem?_eq_getElem, -Int.natCast_add, c1, g2]
  refine Jn.intro (fun v wz => v = .int .i64 1 ∧ wz = w3) ⟨⟨rfl, rfl⟩, ?_⟩
  rintro wz _ ⟨rfl, rfl⟩
  by_cases e3 : kn = 3
  · subst e3
    obtain ⟨r1, r2⟩ := hR.2 rfl
    have hby : ∀ x y : Int, by1 (· % n) ltInt x y = if x % n = y % n then decide (x < y) else decide (x % n < y % n) := fun x y => rfl
    obtain ⟨J, hJ⟩ : ∃ J : Value → KV, ∀ u v wq, J u v wq ↔ u = .bool (by1 (· % n) ltInt a.key b.key) ∧ v = .bool (by1 (· % n) ltInt b.key a.key) ∧ Frm (fun _ => False) wz wq := ⟨_, fun _ _ _ => Iff.rfl⟩
    simp [-getElem?_pos, -Array.getElem?_eq_getElem, -Int.natCast_add, c1, c2, b3]
    refine Jn.intro J ⟨?_, ?_⟩
    · refine rest_ok r1 r2 ?_
      simp [-getElem?_pos, -Array.getElem?_eq_getElem, -Int.natCast_add, c1, b3]
      refine rest_ok r1 r2 ?_
      simp [-getElem?_pos, -Array.getElem?_eq_getElem, -Int.natCast_add, add_spot, and_assoc, Br_dec]
      refine ⟨fun h => (hJ _ _ _).2 ⟨?_, ?_, dd⟩, fun h => (hJ _ _ _).2 ⟨?_, ?_, dd⟩⟩
      · rw [hby, if_neg h]
      · rw [hby, if_neg (fun e => h e.symm)]
      · rw [hby, if_pos h]
      · rw [hby, if_pos h.symm]
    intro wq u v hq
    obtain ⟨rfl, rfl, kq⟩ := (hJ _ _ _).1 hq
    have q1 := kq.get c1 fun h => h
    have q2 := kq.get c2 fun h => h
    have q3 := kq.get b3 fun h => h
    have kqd := kq.no (Frm.drew wq)
    have kqdd := kqd.no (Frm.drew wq.drew)
    cases text with
    | true =>
      have hlt : ltS true 3 n a b = if (a.text.size : Int) = b.text.size then lessB a.text b.text else decide ((a.text.size : Int) < b.text.size) := rfl
      have hgt : ltS true 3 n b a = if (b.text.size : Int) = a.text.size then lessB b.text a.text else decide ((b.text.size : Int) < a.text.size) := rfl
      simp [-getElem?_pos, -Array.getElem?_eq_getElem, -Int.natCast_add, q1, q2, q3, pur_lss_s, pur_gtr_s]
      refine ⟨fun hne => ?_, fun he => ?_⟩
      · rw [if_neg (by omega)] at hlt hgt
        rw [hlt] at klt keq
        rw [hgt] at kgt keq
        exact ⟨fun h => klt kqdd (decide_eq_true (by omega)) (by decide), fun h => ⟨fun h' => kgt kqdd (decide_eq_true (by omega)) rfl, fun h' => keq kqdd (decide_eq_false (by omega)) (decide_eq_false (by omega))⟩⟩
      · rw [if_pos (by omega)] at hlt hgt
        rw [hlt] at klt keq
        rw [hgt] at kgt keq
        exact ⟨fun h => klt kqd h (by decide), fun h => ⟨fun h' => kgt kqd h' rfl, fun h' => keq kqd h h'⟩⟩
    | false =>
      have hlt : ltS false 3 n a b = by1 (· % n) ltInt a.key b.key := by simp only [ltS, I.ordI]; rw [if_neg (by simp)]; rw [if_neg (by decide), if_pos ⟨by trivial, by omega⟩]
      have hgt : ltS false 3 n b a = by1 (· % n) ltInt b.key a.key := by simp only [ltS, I.ordI]; rw [if_neg (by simp)]; rw [if_neg (by decide), if_pos ⟨by trivial, by omega⟩]
      rw [hlt] at klt keq
      rw [hgt] at kgt keq
      simp [-getElem?_pos, -Array.getElem?_eq_getElem, -Int.natCast_add, add_spot, and_assoc, Br_dec]
      exact ⟨fun h => klt kq h (by decide), fun h => ⟨fun h' => kgt kq h' rfl, fun h' => keq kq h h'⟩⟩
  · have g3 : ¬ (kn : Int) = 3 := by omega
    obtain ⟨J, hJ⟩ : ∃ J : Value → KV, ∀ u v wq, J u v wq ↔ u = .bool (decide (a.key < b.key)) ∧ v = .bool (decide (b.key < a.key)) ∧ Frm (fun _ => False) wz wq := ⟨_, fun _ _ _ => Iff.rfl⟩
    simp [-getElem?_pos, -Array.getElem?_eq_getElem, -Int.natCast_add, c1, c2, b3, g3]
    refine Jn.intro J ⟨(hJ _ _ _).2 ⟨rfl, by simp, dr⟩, ?_⟩
    intro wq u v hq
    obtain ⟨rfl, rfl, kq⟩ := (hJ _ _ _).1 hq
    have q1 := kq.get c1 fun h => h
    have q2 := kq.get c2 fun h => h
    have q3 := kq.get b3 fun h => h
    have kqd := kq.no (Frm.drew wq)
    cases text with
    | true =>
      have hlt : ltS true kn n a b = lessB a.text b.text := by simp [ltS, T.ordB, e2, e3]
      have hgt : ltS true kn n b a = lessB b.text a.text := by simp [ltS, T.ordB, e2, e3]
      rw [hlt] at klt keq
      rw [hgt] at kgt keq
      simp [-getElem?_pos, -Array.getElem?_eq_getElem, -Int.natCast_add, q1, q2, q3, g3, pur_lss_s, pur_gtr_s]
      exact ⟨fun h => klt kqd h (by decide), fun h => ⟨fun h' => kgt kqd h' rfl, fun h' => keq kqd h h'⟩⟩
    | false =>
      have hlt : ltS false kn n a b = decide (a.key < b.key) := by simp [ltS, I.ordI, ltInt, e2, e3]
      have hgt : ltS false kn n b a = decide (b.key < a.key) := by simp [ltS, I.ordI, ltInt, e2, e3]
      rw [hlt] at klt keq
      rw [hgt] at kgt keq
      simp [-getElem?_pos, -Array.getElem?_eq_getElem, -Int.natCast_add, add_spot, and_assoc, Br_dec]
      exact ⟨fun h => klt kq (by simpa using h) (by decide), fun h => ⟨fun h' => kgt kq (by simpa using h') rfl, fun h' => keq kq (by simpa using h) (by simpa using h')⟩⟩
end Go.Proofs.YtodjijfblgnfmaaGreatDoor
end
section
namespace Go.Proofs.YtodjijfblgnfmaaGreatDoor
open Go.Vc Go.Proofs
variable {w : World} {K : KV} {Kp : KP} {K1 : Value → Prop}
@[simp] theorem op_conv_2_227 {k : IntKind} {n : Int} : nP.op (.conv 2 227 (.int k n)) w K Kp = K (.int .u64 (IntKind.u64.wrap n)) w := op_conv (by kernel_rfl) (by kernel_rfl)
@[simp] theorem pur_conv_2_227 {k : IntKind} {n : Int} : nP.pur (.conv 2 227 (.int k n)) K1 = K1 (.int .u64 (IntKind.u64.wrap n)) := pur_conv (by kernel_rfl) (by kernel_rfl)
@[simp] theorem op_conv_227_5 {k : IntKind} {n : Int} : nP.op (.conv 227 5 (.int k n)) w K Kp = K (.int .u8 (IntKind.u8.wrap n)) w := op_conv (by kernel_rfl) (by kernel_rfl)
@[simp] theorem pur_conv_227_5 {k : IntKind} {n : Int} : nP.pur (.conv 227 5 (.int k n)) K1 = K1 (.int .u8 (IntKind.u8.wrap n)) := pur_conv (by kernel_rfl) (by kernel_rfl)
theorem lit_228_1 {x0 : Value} (h0 : x0.oneCell' = true) : sliceLit Tryz.prog 228 1 [(0, x0)] = some (5, #[x0]) := by
  have e : sliceLit Tryz.prog 228 1 [(0, x0)] = (Instr.fill (fun i => some (i * 1, 1)) (#[Value.int IntKind.u8 0]) [(0, x0)]).map fun cs => (5, cs) := by kernel_rfl
  rw [e]; simp [Instr.fill, cells_of_one h0]
@[simp] theorem op_lit_228_1 {x0 : Value} (h0 : x0.oneCell' = true) : nP.op (.buildSlice 228 1 [(0, x0)]) w K Kp = K (.slice (some ⟨w.heap.size, 0, none⟩) 1 1) (w.alloc (.cells #[x0] 5)) := op_lit (lit_228_1 h0)
@[simp] theorem op_fa_64_0 {p : Addr} : nP.op (.fieldAddr 64 (.pointer (some p)) 0) w K Kp = K (.pointer (some (p.add 0))) w := op_fa (k := .one) (by kernel_rfl)
@[simp] theorem pur_fa_64_0 {p : Addr} : nP.pur (.fieldAddr 64 (.pointer (some p)) 0) K1 = K1 (.pointer (some (p.add 0))) := pur_fa (k := .one) (by kernel_rfl)
@[simp] theorem op_fa_64_3 {p : Addr} : nP.op (.fieldAddr 64 (.pointer (some p)) 3) w K Kp = K (.pointer (some (p.add 3))) w := op_fa (k := .one) (by kernel_rfl)
@[simp] theorem pur_fa_64_3 {p : Addr} : nP.pur (.fieldAddr 64 (.pointer (some p)) 3) K1 = K1 (.pointer (some (p.add 3))) := pur_fa (k := .one) (by kernel_rfl)
@[simp] theorem op_fa_64_4 {p : Addr} : nP.op (.fieldAddr 64 (.pointer (some p)) 4) w K Kp = K (.pointer (some (p.add 4))) w := op_fa (k := .one) (by kernel_rfl)
@[simp] theorem pur_fa_64_4 {p : Addr} : nP.pur (.fieldAddr 64 (.pointer (some p)) 4) K1 = K1 (.pointer (some (p.add 4))) := pur_fa (k := .one) (by kernel_rfl)
theorem build_45_1_2 {x1 : Value} {x2 : Value} (h1 : x1.oneCell' = true) (h2 : x2.oneCell' = true) : buildV Tryz.prog 45 [(1, x1), (2, x2)] = some (.agg (#[Value.int IntKind.i64 0, x1, x2])) := by
  have e : buildV Tryz.prog 45 [(1, x1), (2, x2)] = (Instr.fill ((#[(0, 1), (1, 1), (2, 1)] : Array (Nat × Nat))[·]?) (#[Value.int IntKind.i64 0, Value.string ByteArray.empty, Value.int IntKind.i64 0]) [(1, x1), (2, x2)]).map .agg := by kernel_rfl
  rw [e]; simp [Instr.fill, cells_of_one h1, cells_of_one h2]
@[simp] theorem op_build_45_1_2 {x1 : Value} {x2 : Value} (h1 : x1.oneCell' = true) (h2 : x2.oneCell' = true) : nP.op (.build 45 [(1, x1), (2, x2)]) w K Kp = K (.agg (#[Value.int IntKind.i64 0, x1, x2])) w := op_build (build_45_1_2 h1 h2)
@[simp] theorem pur_build_45_1_2 {x1 : Value} {x2 : Value} (h1 : x1.oneCell' = true) (h2 : x2.oneCell' = true) : nP.pur (.build 45 [(1, x1), (2, x2)]) K1 = K1 (.agg (#[Value.int IntKind.i64 0, x1, x2])) := pur_build (build_45_1_2 h1 h2)
@[simp] theorem op_fa_64_2 {p : Addr} : nP.op (.fieldAddr 64 (.pointer (some p)) 2) w K Kp = K (.pointer (some (p.add 2))) w := op_fa (k := .one) (by kernel_rfl)
@[simp] theorem pur_fa_64_2 {p : Addr} : nP.pur (.fieldAddr 64 (.pointer (some p)) 2) K1 = K1 (.pointer (some (p.add 2))) := pur_fa (k := .one) (by kernel_rfl)
@[simp] theorem op_fa_64_5 {p : Addr} : nP.op (.fieldAddr 64 (.pointer (some p)) 5) w K Kp = K (.pointer (some (p.add 5))) w := op_fa (k := .one) (by kernel_rfl)
@[simp] theorem pur_fa_64_5 {p : Addr} : nP.pur (.fieldAddr 64 (.pointer (some p)) 5) K1 = K1 (.pointer (some (p.add 5))) := pur_fa (k := .one) (by kernel_rfl)
@[simp] theorem op_fa_64_6 {p : Addr} : nP.op (.fieldAddr 64 (.pointer (some p)) 6) w K Kp = K (.pointer (some (p.add 6))) w := op_fa (k := .one) (by kernel_rfl)
@[simp] theorem pur_fa_64_6 {p : Addr} : nP.pur (.fieldAddr 64 (.pointer (some p)) 6) K1 = K1 (.pointer (some (p.add 6))) := pur_fa (k := .one) (by kernel_rfl)
@[simp] theorem call_92 {args : List Value} : nP.call (.fn 92) args w K Kp = Calls Tryz.prog 92 args.toArray w (ret K Kp) := call_fn (by kernel_rfl)
theorem lit_65_1 {x0 : Value} (h0 : x0.oneCell' = true) : sliceLit Tryz.prog 65 1 [(0, x0)] = some (38, #[x0]) := by
  have e : sliceLit Tryz.prog 65 1 [(0, x0)] = (Instr.fill (fun i => some (i * 1, 1)) (#[Value.slice none 0 0]) [(0, x0)]).map fun cs => (38, cs) := by kernel_rfl
  rw [e]; simp [Instr.fill, cells_of_one h0]
@[simp] theorem op_lit_65_1 {x0 : Value} (h0 : x0.oneCell' = true) : nP.op (.buildSlice 65 1 [(0, x0)]) w K Kp = K (.slice (some ⟨w.heap.size, 0, none⟩) 1 1) (w.alloc (.cells #[x0] 38)) := op_lit (lit_65_1 h0)
@[simp] theorem op_len_24 {a : Option Addr} {n c ty : Nat} : nP.op (.blt .len [24] ty [.slice a n c]) w K Kp = K (.int .i64 n) w := op_len_slice (by kernel_rfl)
@[simp] theorem pur_len_24 {a : Option Addr} {n c ty : Nat} : nP.pur (.blt .len [24] ty [.slice a n c]) K1 = K1 (.int .i64 n) := pur_len_slice (by kernel_rfl)
@[simp] theorem ld_len_24 {a : Option Addr} {n c ty : Nat} : nP.ld (.blt .len [24] ty [.slice a n c]) w K1 = K1 (.int .i64 n) := ld_len_slice (by kernel_rfl)
@[simp] theorem same_len_24 {a : Option Addr} {n c ty : Nat} {u : Value} : nP.same (.blt .len [24] ty [.slice a n c]) u w = (.int .i64 n = u) := same_len_slice (by kernel_rfl)
@[simp] theorem op_ix_24 {p : Addr} {len cap : Nat} {k : IntKind} {j : Int} : nP.op (.indexAddr 24 (.slice (some p) len cap) (.int k j)) w K Kp = ((0 ≤ j ∧ j < (len : Int)) ∧ K (.pointer (some (p.add (j.toNat * 7)))) w) := op_ix_slice (e := 64) (by kernel_rfl)
@[simp] theorem pur_ix_24 {p : Addr} {len cap : Nat} {k : IntKind} {j : Int} : nP.pur (.indexAddr 24 (.slice (some p) len cap) (.int k j)) K1 = ((0 ≤ j ∧ j < (len : Int)) ∧ K1 (.pointer (some (p.add (j.toNat * 7))))) := pur_ix_slice (e := 64) (by kernel_rfl)
@[simp] theorem op_ld_64 {p : Addr} : nP.op (.load 64 (.pointer (some p))) w K Kp = ∃ cs e fz, w.heap[p.block]? = some (.cells cs e fz) ∧ p.spot = none ∧ p.off + 7 ≤ cs.size ∧ K (.agg (cs.extract p.off (p.off + 7))) w := op_ldn (by kernel_rfl)
@[simp] theorem ld_ld_64 {p : Addr} : nP.ld (.load 64 (.pointer (some p))) w K1 = ∃ cs e fz, w.heap[p.block]? = some (.cells cs e fz) ∧ p.spot = none ∧ p.off + 7 ≤ cs.size ∧ K1 (.agg (cs.extract p.off (p.off + 7))) := ld_ldn (by kernel_rfl)
@[simp] theorem same_ld_64 {p : Addr} {v : Value} : nP.same (.load 64 (.pointer (some p))) v w = ∃ cs e fz, w.heap[p.block]? = some (.cells cs e fz) ∧ p.spot = none ∧ p.off + 7 ≤ cs.size ∧ .agg (cs.extract p.off (p.off + 7)) = v := same_ldn (by kernel_rfl)
@[simp] theorem op_st_64 {p : Addr} {vs : Array Value} : nP.op (.store 64 (.pointer (some p)) (.agg vs)) w K Kp = (vs.size = 7 ∧ (∀ u ∈ vs.toList, u.oneCell' = true) ∧ ∃ cs e, w.heap[p.block]? = some (.cells cs e (0, 0)) ∧ p.spot = none ∧ p.off + 7 ≤ cs.size ∧ K undef (w.upd p.block (.cells (ow cs p.off vs.toList) e (0, 0)))) := op_stn (by kernel_rfl)
@[simp] theorem op_alloc_64 : nP.op (.alloc 64) w K Kp = K (.pointer (some ⟨w.heap.size, 0, none⟩)) (w.alloc (.cells #[Value.int IntKind.u8 0, Value.int IntKind.i64 0, Value.int IntKind.i64 0, Value.string ByteArray.empty, Value.int IntKind.i64 0, Value.int IntKind.i64 0, Value.int IntKind.i64 0] 64)) := op_alloc (z := (.agg #[(Value.int IntKind.u8 0), (Value.int IntKind.i64 0), (Value.int IntKind.i64 0), (Value.string ByteArray.empty), (Value.int IntKind.i64 0), (Value.int IntKind.i64 0), (Value.int IntKind.i64 0)])) (by kernel_rfl)
@[simp] theorem op_fa_64_1 {p : Addr} : nP.op (.fieldAddr 64 (.pointer (some p)) 1) w K Kp = K (.pointer (some (p.add 1))) w := op_fa (k := .one) (by kernel_rfl)
@[simp] theorem pur_fa_64_1 {p : Addr} : nP.pur (.fieldAddr 64 (.pointer (some p)) 1) K1 = K1 (.pointer (some (p.add 1))) := pur_fa (k := .one) (by kernel_rfl)
@[simp] theorem op_len_65 {a : Option Addr} {n c ty : Nat} : nP.op (.blt .len [65] ty [.slice a n c]) w K Kp = K (.int .i64 n) w := op_len_slice (by kernel_rfl)
@[simp] theorem pur_len_65 {a : Option Addr} {n c ty : Nat} : nP.pur (.blt .len [65] ty [.slice a n c]) K1 = K1 (.int .i64 n) := pur_len_slice (by kernel_rfl)
@[simp] theorem ld_len_65 {a : Option Addr} {n c ty : Nat} : nP.ld (.blt .len [65] ty [.slice a n c]) w K1 = K1 (.int .i64 n) := ld_len_slice (by kernel_rfl)
@[simp] theorem same_len_65 {a : Option Addr} {n c ty : Nat} {u : Value} : nP.same (.blt .len [65] ty [.slice a n c]) u w = (.int .i64 n = u) := same_len_slice (by kernel_rfl)
@[simp] theorem op_ix_65 {p : Addr} {len cap : Nat} {k : IntKind} {j : Int} : nP.op (.indexAddr 65 (.slice (some p) len cap) (.int k j)) w K Kp = ((0 ≤ j ∧ j < (len : Int)) ∧ K (.pointer (some (p.add (j.toNat * 1)))) w) := op_ix_slice (e := 38) (by kernel_rfl)
@[simp] theorem pur_ix_65 {p : Addr} {len cap : Nat} {k : IntKind} {j : Int} : nP.pur (.indexAddr 65 (.slice (some p) len cap) (.int k j)) K1 = ((0 ≤ j ∧ j < (len : Int)) ∧ K1 (.pointer (some (p.add (j.toNat * 1))))) := pur_ix_slice (e := 38) (by kernel_rfl)
@[simp] theorem op_ld_38 {p : Addr} : nP.op (.load 38 (.pointer (some p))) w K Kp = ∃ cs e fz, w.heap[p.block]? = some (.cells cs e fz) ∧ p.spot = none ∧ ∃ v, cs[p.off]? = some v ∧ K v w := op_ld (by kernel_rfl)
@[simp] theorem ld_ld_38 {p : Addr} : nP.ld (.load 38 (.pointer (some p))) w K1 = ∃ cs e fz, w.heap[p.block]? = some (.cells cs e fz) ∧ p.spot = none ∧ ∃ v, cs[p.off]? = some v ∧ K1 v := ld_ld (by kernel_rfl)
@[simp] theorem same_ld_38 {p : Addr} {v : Value} : nP.same (.load 38 (.pointer (some p))) v w = ∃ cs e fz, w.heap[p.block]? = some (.cells cs e fz) ∧ p.spot = none ∧ cs[p.off]? = some v := same_ld (by kernel_rfl)
@[simp] theorem op_st_38 {p : Addr} {v : Value} : nP.op (.store 38 (.pointer (some p)) v) w K Kp = ∃ cs e, w.heap[p.block]? = some (.cells cs e (0, 0)) ∧ p.spot = none ∧ p.off < cs.size ∧ v.oneCell' = true ∧ K undef (w.upd p.block (.cells (cs.setIfInBounds p.off v) e (0, 0))) := op_st (by kernel_rfl)
theorem build_104_  : buildV Tryz.prog 104 [] = some (.agg (#[Value.int IntKind.i64 0, Value.int IntKind.i64 0, Value.bool false, Value.slice none 0 0])) := by
  have e : buildV Tryz.prog 104 [] = (Instr.fill ((#[(0, 1), (1, 1), (2, 1), (3, 1)] : Array (Nat × Nat))[·]?) (#[Value.int IntKind.i64 0, Value.int IntKind.i64 0, Value.bool false, Value.slice none 0 0]) []).map .agg := by kernel_rfl
  rw [e]; simp [Instr.fill]
@[simp] theorem op_build_104_  : nP.op (.build 104 []) w K Kp = K (.agg (#[Value.int IntKind.i64 0, Value.int IntKind.i64 0, Value.bool false, Value.slice none 0 0])) w := op_build (build_104_)
@[simp] theorem pur_build_104_  : nP.pur (.build 104 []) K1 = K1 (.agg (#[Value.int IntKind.i64 0, Value.int IntKind.i64 0, Value.bool false, Value.slice none 0 0])) := pur_build (build_104_)
@[simp] theorem op_alloc_104 : nP.op (.alloc 104) w K Kp = K (.pointer (some ⟨w.heap.size, 0, none⟩)) (w.alloc (.cells #[Value.int IntKind.i64 0, Value.int IntKind.i64 0, Value.bool false, Value.slice none 0 0] 104)) := op_alloc (z := (.agg #[(Value.int IntKind.i64 0), (Value.int IntKind.i64 0), (Value.bool false), (Value.slice none 0 0)])) (by kernel_rfl)
@[simp] theorem op_ld_104 {p : Addr} : nP.op (.load 104 (.pointer (some p))) w K Kp = ∃ cs e fz, w.heap[p.block]? = some (.cells cs e fz) ∧ p.spot = none ∧ p.off + 4 ≤ cs.size ∧ K (.agg (cs.extract p.off (p.off + 4))) w := op_ldn (by kernel_rfl)
@[simp] theorem ld_ld_104 {p : Addr} : nP.ld (.load 104 (.pointer (some p))) w K1 = ∃ cs e fz, w.heap[p.block]? = some (.cells cs e fz) ∧ p.spot = none ∧ p.off + 4 ≤ cs.size ∧ K1 (.agg (cs.extract p.off (p.off + 4))) := ld_ldn (by kernel_rfl)
@[simp] theorem same_ld_104 {p : Addr} {v : Value} : nP.same (.load 104 (.pointer (some p))) v w = ∃ cs e fz, w.heap[p.block]? = some (.cells cs e fz) ∧ p.spot = none ∧ p.off + 4 ≤ cs.size ∧ .agg (cs.extract p.off (p.off + 4)) = v := same_ldn (by kernel_rfl)
@[simp] theorem op_st_104 {p : Addr} {vs : Array Value} : nP.op (.store 104 (.pointer (some p)) (.agg vs)) w K Kp = (vs.size = 4 ∧ (∀ u ∈ vs.toList, u.oneCell' = true) ∧ ∃ cs e, w.heap[p.block]? = some (.cells cs e (0, 0)) ∧ p.spot = none ∧ p.off + 4 ≤ cs.size ∧ K undef (w.upd p.block (.cells (ow cs p.off vs.toList) e (0, 0)))) := op_stn (by kernel_rfl)
@[simp] theorem call_45 {args : List Value} : nP.call (.fn 45) args w K Kp = Calls Tryz.prog 45 args.toArray w (ret K Kp) := call_fn (by kernel_rfl)
@[simp] theorem call_47 {args : List Value} : nP.call (.fn 47) args w K Kp = Calls Tryz.prog 47 args.toArray w (ret K Kp) := call_fn (by kernel_rfl)
@[simp] theorem op_fa_104_1 {p : Addr} : nP.op (.fieldAddr 104 (.pointer (some p)) 1) w K Kp = K (.pointer (some (p.add 1))) w := op_fa (k := .one) (by kernel_rfl)
@[simp] theorem pur_fa_104_1 {p : Addr} : nP.pur (.fieldAddr 104 (.pointer (some p)) 1) K1 = K1 (.pointer (some (p.add 1))) := pur_fa (k := .one) (by kernel_rfl)
@[simp] theorem op_fa_104_0 {p : Addr} : nP.op (.fieldAddr 104 (.pointer (some p)) 0) w K Kp = K (.pointer (some (p.add 0))) w := op_fa (k := .one) (by kernel_rfl)
@[simp] theorem pur_fa_104_0 {p : Addr} : nP.pur (.fieldAddr 104 (.pointer (some p)) 0) K1 = K1 (.pointer (some (p.add 0))) := pur_fa (k := .one) (by kernel_rfl)
@[simp] theorem op_fa_104_2 {p : Addr} : nP.op (.fieldAddr 104 (.pointer (some p)) 2) w K Kp = K (.pointer (some (p.add 2))) w := op_fa (k := .one) (by kernel_rfl)
@[simp] theorem pur_fa_104_2 {p : Addr} : nP.pur (.fieldAddr 104 (.pointer (some p)) 2) K1 = K1 (.pointer (some (p.add 2))) := pur_fa (k := .one) (by kernel_rfl)
@[simp] theorem op_fa_104_3 {p : Addr} : nP.op (.fieldAddr 104 (.pointer (some p)) 3) w K Kp = K (.pointer (some (p.add 3))) w := op_fa (k := .one) (by kernel_rfl)
@[simp] theorem pur_fa_104_3 {p : Addr} : nP.pur (.fieldAddr 104 (.pointer (some p)) 3) K1 = K1 (.pointer (some (p.add 3))) := pur_fa (k := .one) (by kernel_rfl)
theorem lit_35_1 {y0_0 y0_1 y0_2 y0_3 : Value} : sliceLit Tryz.prog 35 1 [(0, .agg #[y0_0, y0_1, y0_2, y0_3])] = some (104, #[y0_0, y0_1, y0_2, y0_3]) := by
  have e : sliceLit Tryz.prog 35 1 [(0, .agg #[y0_0, y0_1, y0_2, y0_3])] = (Instr.fill (fun i => some (i * 4, 4)) (#[Value.int IntKind.i64 0, Value.int IntKind.i64 0, Value.bool false, Value.slice none 0 0]) [(0, .agg #[y0_0, y0_1, y0_2, y0_3])]).map fun cs => (104, cs) := by kernel_rfl
  rw [e]; simp [Instr.fill, Value.cells]
@[simp] theorem op_lit_35_1 {y0_0 y0_1 y0_2 y0_3 : Value} : nP.op (.buildSlice 35 1 [(0, .agg #[y0_0, y0_1, y0_2, y0_3])]) w K Kp = K (.slice (some ⟨w.heap.size, 0, none⟩) 1 1) (w.alloc (.cells #[y0_0, y0_1, y0_2, y0_3] 104)) := op_lit (lit_35_1)
@[simp] theorem call_36 {args : List Value} : nP.call (.fn 36) args w K Kp = Calls Tryz.prog 36 args.toArray w (ret K Kp) := call_fn (by kernel_rfl)
@[simp] theorem op_len_35 {a : Option Addr} {n c ty : Nat} : nP.op (.blt .len [35] ty [.slice a n c]) w K Kp = K (.int .i64 n) w := op_len_slice (by kernel_rfl)
@[simp] theorem pur_len_35 {a : Option Addr} {n c ty : Nat} : nP.pur (.blt .len [35] ty [.slice a n c]) K1 = K1 (.int .i64 n) := pur_len_slice (by kernel_rfl)
@[simp] theorem ld_len_35 {a : Option Addr} {n c ty : Nat} : nP.ld (.blt .len [35] ty [.slice a n c]) w K1 = K1 (.int .i64 n) := ld_len_slice (by kernel_rfl)
@[simp] theorem same_len_35 {a : Option Addr} {n c ty : Nat} {u : Value} : nP.same (.blt .len [35] ty [.slice a n c]) u w = (.int .i64 n = u) := same_len_slice (by kernel_rfl)
@[simp] theorem op_ix_35 {p : Addr} {len cap : Nat} {k : IntKind} {j : Int} : nP.op (.indexAddr 35 (.slice (some p) len cap) (.int k j)) w K Kp = ((0 ≤ j ∧ j < (len : Int)) ∧ K (.pointer (some (p.add (j.toNat * 4)))) w) := op_ix_slice (e := 104) (by kernel_rfl)
@[simp] theorem pur_ix_35 {p : Addr} {len cap : Nat} {k : IntKind} {j : Int} : nP.pur (.indexAddr 35 (.slice (some p) len cap) (.int k j)) K1 = ((0 ≤ j ∧ j < (len : Int)) ∧ K1 (.pointer (some (p.add (j.toNat * 4))))) := pur_ix_slice (e := 104) (by kernel_rfl)
@[simp] theorem op_neq_4 {xc yc x y : Bool} : nP.op (.bin BinOp.neq 4 xc yc (.bool x) (.bool y)) w K Kp = K (.bool (!(x == y))) w := op_eq_bool (by kernel_rfl) rfl
@[simp] theorem pur_neq_4 {xc yc x y : Bool} : nP.pur (.bin BinOp.neq 4 xc yc (.bool x) (.bool y)) K1 = K1 (.bool (!(x == y))) := pur_eq_bool (by kernel_rfl) rfl
@[simp] theorem call_12 {args : List Value} : nP.call (.fn 12) args w K Kp = Calls Tryz.prog 12 args.toArray w (ret K Kp) := call_fn (by kernel_rfl)
@[simp] theorem call_13 {args : List Value} : nP.call (.fn 13) args w K Kp = Calls Tryz.prog 13 args.toArray w (ret K Kp) := call_fn (by kernel_rfl)
@[simp] theorem call_16 {args : List Value} : nP.call (.fn 16) args w K Kp = Calls Tryz.prog 16 args.toArray w (ret K Kp) := call_fn (by kernel_rfl)
@[simp] theorem call_18 {args : List Value} : nP.call (.fn 18) args w K Kp = Calls Tryz.prog 18 args.toArray w (ret K Kp) := call_fn (by kernel_rfl)
@[simp] theorem call_17 {args : List Value} : nP.call (.fn 17) args w K Kp = Calls Tryz.prog 17 args.toArray w (ret K Kp) := call_fn (by kernel_rfl)
end Go.Proofs.YtodjijfblgnfmaaGreatDoor
end
section
namespace Go.Proofs.YtodjijfblgnfmaaGreatDoor
open Go.Vc Go.Proofs
variable {S : Sig} {a0 a1 a2 a3 a4 a5 a6 a7 a8 a9 : Value} {w : World} {K : KV} {Kp : KP}
private theorem follows_BVcS : Tryz.prog.follows .mixedOrders = true := by kernel_rfl
def vc92 (S : Sig) (a0 : Value) (w : World) (K : KV) (Kp : KP) : Prop :=
 S.op (.conv 2 227 a0) w (fun v6 w =>
 S.op (.bin .lss 2 false true a0 (.int .i64 0)) w (fun v8 w =>
 Br v8 (
 S.op (.un .neg v6) w (fun v10 w =>
 Lp fun (I4 : Value → KV) (μ4 : Value → Value → World → Nat) => I4 v10 (.string { data := #[] }) w ∧
 ∀ (wl4 : World) (_ : Nat → Value) (s3 : Value) (s4 : Value), I4 s3 s4 wl4 →
 S.op (.bin .rem 227 false true s3 (.int .u64 10)) wl4 (fun v12 w =>
 S.op (.bin .add 227 true false (.int .u64 48) v12) w (fun v13 w =>
 S.op (.conv 227 5 v13) w (fun v14 w =>
 S.op (.buildSlice 228 1 [(0, v14)]) w (fun v15 w =>
 S.op (.conv 228 9 v15) w (fun v16 w =>
 S.op (.bin .add 9 false false v16 s4) w (fun v18 w =>
 S.op (.bin .quo 227 false true s3 (.int .u64 10)) w (fun v20 w =>
 S.op (.bin .eql 227 false true v20 (.int .u64 0)) w (fun v22 w =>
 Br v22 (
 S.op (.bin .lss 2 false true a0 (.int .i64 0)) w (fun v24 w =>
 Br v24 (
 S.op (.bin .add 9 true false (.string { data := #[45] }) v18) w (fun v26 w =>
 K v26 w) Kp) (
 K v18 w)) Kp) (
 I4 v20 v18 w ∧ μ4 v20 v18 w < μ4 s3 s4 wl4)) Kp) Kp) Kp) Kp) Kp) Kp) Kp) Kp) Kp) (
 Lp fun (I4 : Value → KV) (μ4 : Value → Value → World → Nat) => I4 v6 (.string { data := #[] }) w ∧
 ∀ (wl4 : World) (_ : Nat → Value) (s3 : Value) (s4 : Value), I4 s3 s4 wl4 →
 S.op (.bin .rem 227 false true s3 (.int .u64 10)) wl4 (fun v12 w =>
 S.op (.bin .add 227 true false (.int .u64 48) v12) w (fun v13 w =>
 S.op (.conv 227 5 v13) w (fun v14 w =>
 S.op (.buildSlice 228 1 [(0, v14)]) w (fun v15 w =>
 S.op (.conv 228 9 v15) w (fun v16 w =>
 S.op (.bin .add 9 false false v16 s4) w (fun v18 w =>
 S.op (.bin .quo 227 false true s3 (.int .u64 10)) w (fun v20 w =>
 S.op (.bin .eql 227 false true v20 (.int .u64 0)) w (fun v22 w =>
 Br v22 (
 S.op (.bin .lss 2 false true a0 (.int .i64 0)) w (fun v24 w =>
 Br v24 (
 S.op (.bin .add 9 true false (.string { data := #[45] }) v18) w (fun v26 w =>
 K v26 w) Kp) (
 K v18 w)) Kp) (
 I4 v20 v18 w ∧ μ4 v20 v18 w < μ4 s3 s4 wl4)) Kp) Kp) Kp) Kp) Kp) Kp) Kp) Kp)) Kp) Kp
theorem vc92_eq : vc92 S a0 w K Kp = fVC S [(4, [3, 4]), (4, [3, 4])] [] Tryz.f92 [a0] w K Kp := by kernel_rfl
theorem vc92_calls (h : vc92 nP a0 w K Kp) : Calls Tryz.prog 92 #[a0] w (ret K Kp) :=
 fVC_sound (args := [a0]) nice_le follows_BVcS Tryz.func92 (by kernel_rfl) (Eq.mp vc92_eq h)
def vc47 (S : Sig) (a0 a1 a2 a3 : Value) (w : World) (K : KV) (Kp : KP) : Prop :=
 S.op (.box 23 a0) w (fun v4 w =>
 S.op (.box 45 a3) w (fun v7 w =>
 S.op (.load 23 v4) w (fun v12 w =>
 S.op (.load 45 v7) w (fun v15 w =>
 S.call (.fn 48) [v12, a1, a2, v15] w (fun v16 w =>
 S.op (.extract v16 0) w (fun v17 w =>
 S.op (.extract v16 1) w (fun v18 w =>
 Br v18 (
 S.pur (.slice 38 a2 none (some v17) none) (fun v22 =>
 S.pur (.bin .add 3 false true v17 (.int .i64 1)) (fun v25 =>
 S.pur (.slice 38 a2 (some v25) none none) (fun v26 =>
 S.op (.blt .append [38, 38] 38 [v22, v26]) w.drew (fun v27 w =>
 K v27 w) Kp)))) (
 K a2 w)) Kp) Kp) Kp) Kp) Kp) Kp) Kp
theorem vc47_eq : vc47 S a0 a1 a2 a3 w K Kp = fVC S [] [] Tryz.f47 [a0, a1, a2, a3] w K Kp := by kernel_rfl
theorem vc47_calls (h : vc47 nP a0 a1 a2 a3 w K Kp) : Calls Tryz.prog 47 #[a0, a1, a2, a3] w (ret K Kp) :=
 fVC_sound (args := [a0, a1, a2, a3]) nice_le follows_BVcS Tryz.func47 (by kernel_rfl) (Eq.mp vc47_eq h)
def vc45 (S : Sig) (a0 a1 : Value) (w : World) (K : KV) (Kp : KP) : Prop :=
 S.op (.box 64 a1) w (fun v3 w =>
 S.op (.fieldAddr 64 v3 0) w (fun v8 w =>
 S.op (.load 5 v8) w (fun v9 w =>
 S.op (.bin .neq 5 false true v9 (.int .u8 5)) w (fun v10 w =>
 Br v10 (
 S.op (.fieldAddr 64 v3 0) w (fun v12 w =>
 S.op (.load 5 v12) w (fun v13 w =>
 S.op (.bin .neq 5 false true v13 (.int .u8 6)) w (fun v14 w =>
 Br v14 (
 Br a0 (
 S.op (.fieldAddr 64 v3 3) w (fun v17 w =>
 S.op (.load 9 v17) w (fun v18 w =>
 S.op (.fieldAddr 64 v3 4) w (fun v19 w =>
 S.op (.load 2 v19) w (fun v20 w =>
 S.op (.build 45 [(1, v18), (2, v20)]) w (fun v21 w =>
 S.op (.buildSlice 38 1 [(0, v21)]) w (fun v22 w =>
 K v22 w) Kp) Kp) Kp) Kp) Kp) Kp) (
 S.op (.fieldAddr 64 v3 2) w (fun v23 w =>
 S.op (.load 2 v23) w (fun v24 w =>
 S.op (.fieldAddr 64 v3 4) w (fun v25 w =>
 S.op (.load 2 v25) w (fun v26 w =>
 S.op (.build 45 [(0, v24), (2, v26)]) w (fun v27 w =>
 S.op (.buildSlice 38 1 [(0, v27)]) w (fun v28 w =>
 K v28 w) Kp) Kp) Kp) Kp) Kp) Kp)) (
 S.op (.fieldAddr 64 v3 5) w (fun v29 w =>
 S.op (.load 3 v29) w (fun v30 w =>
 Lp fun (I7 : Value → KV) (μ7 : Value → Value → World → Nat) => I7 (.slice none 0 0) (.int .i64 0) w ∧
 ∀ (wl7 : World) (_ : Nat → Value) (s5 : Value) (s31 : Value), I7 s5 s31 wl7 →
 S.op (.bin .lss 2 false false s31 v30) wl7 (fun v32 w =>
 Br v32 (
 S.op (.fieldAddr 64 v3 2) w (fun v34 w =>
 S.op (.load 2 v34) w (fun v35 w =>
 S.op (.fieldAddr 64 v3 6) w (fun v37 w =>
 S.op (.load 2 v37) w (fun v38 w =>
 S.op (.bin .mul 2 false false s31 v38) w (fun v39 w =>
 S.op (.bin .add 2 false false v35 v39) w (fun v40 w =>
 Br a0 (
 S.pur (.fieldAddr 64 v3 3) (fun v43 =>
 S.ld (.load 9 v43) w.drew (fun v44 =>
 S.pur (.fieldAddr 64 v3 4) (fun v48 =>
 S.ld (.load 2 v48) w.drew (fun v49 =>
 S.pur (.bin .add 2 false false v49 s31) (fun v51 =>
 S.call (.fn 92) [v40] w.drew (fun v46 w =>
 S.same (.load 2 v48) v49 w ∧
 S.same (.load 9 v43) v44 w ∧
 S.pur (.bin .add 9 false false v44 v46) (fun v47 =>
 S.pur (.build 45 [(1, v47), (2, v51)]) (fun v52 =>
 S.op (.buildSlice 38 1 [(0, v52)]) w (fun v53 w =>
 S.op (.blt .append [38, 38] 38 [s5, v53]) w (fun v54 w =>
 S.op (.bin .add 2 false true s31 (.int .i64 1)) w (fun v64 w =>
 I7 v54 v64 w ∧ μ7 v54 v64 w < μ7 s5 s31 wl7) Kp) Kp) Kp))) Kp)))))) (
 S.op (.fieldAddr 64 v3 4) w (fun v57 w =>
 S.op (.load 2 v57) w (fun v58 w =>
 S.op (.bin .add 2 false false v58 s31) w (fun v60 w =>
 S.op (.build 45 [(0, v40), (2, v60)]) w (fun v61 w =>
 S.op (.buildSlice 38 1 [(0, v61)]) w (fun v62 w =>
 S.op (.blt .append [38, 38] 38 [s5, v62]) w (fun v63 w =>
 S.op (.bin .add 2 false true s31 (.int .i64 1)) w (fun v64 w =>
 I7 v63 v64 w ∧ μ7 v63 v64 w < μ7 s5 s31 wl7) Kp) Kp) Kp) Kp) Kp) Kp) Kp)) Kp) Kp) Kp) Kp) Kp) Kp) (
 K s5 w)) Kp) Kp) Kp)) Kp) Kp) Kp) (
 S.op (.fieldAddr 64 v3 5) w (fun v29 w =>
 S.op (.load 3 v29) w (fun v30 w =>
 Lp fun (I7 : Value → KV) (μ7 : Value → Value → World → Nat) => I7 (.slice none 0 0) (.int .i64 0) w ∧
 ∀ (wl7 : World) (_ : Nat → Value) (s5 : Value) (s31 : Value), I7 s5 s31 wl7 →
 S.op (.bin .lss 2 false false s31 v30) wl7 (fun v32 w =>
 Br v32 (
 S.op (.fieldAddr 64 v3 2) w (fun v34 w =>
 S.op (.load 2 v34) w (fun v35 w =>
 S.op (.fieldAddr 64 v3 6) w (fun v37 w =>
 S.op (.load 2 v37) w (fun v38 w =>
 S.op (.bin .mul 2 false false s31 v38) w (fun v39 w =>
 S.op (.bin .add 2 false false v35 v39) w (fun v40 w =>
 Br a0 (
 S.pur (.fieldAddr 64 v3 3) (fun v43 =>
 S.ld (.load 9 v43) w.drew (fun v44 =>
 S.pur (.fieldAddr 64 v3 4) (fun v48 =>
 S.ld (.load 2 v48) w.drew (fun v49 =>
 S.pur (.bin .add 2 false false v49 s31) (fun v51 =>
 S.call (.fn 92) [v40] w.drew (fun v46 w =>
 S.same (.load 2 v48) v49 w ∧
 S.same (.load 9 v43) v44 w ∧
 S.pur (.bin .add 9 false false v44 v46) (fun v47 =>
 S.pur (.build 45 [(1, v47), (2, v51)]) (fun v52 =>
 S.op (.buildSlice 38 1 [(0, v52)]) w (fun v53 w =>
 S.op (.blt .append [38, 38] 38 [s5, v53]) w (fun v54 w =>
 S.op (.bin .add 2 false true s31 (.int .i64 1)) w (fun v64 w =>
 I7 v54 v64 w ∧ μ7 v54 v64 w < μ7 s5 s31 wl7) Kp) Kp) Kp))) Kp)))))) (
 S.op (.fieldAddr 64 v3 4) w (fun v57 w =>
 S.op (.load 2 v57) w (fun v58 w =>
 S.op (.bin .add 2 false false v58 s31) w (fun v60 w =>
 S.op (.build 45 [(0, v40), (2, v60)]) w (fun v61 w =>
 S.op (.buildSlice 38 1 [(0, v61)]) w (fun v62 w =>
 S.op (.blt .append [38, 38] 38 [s5, v62]) w (fun v63 w =>
 S.op (.bin .add 2 false true s31 (.int .i64 1)) w (fun v64 w =>
 I7 v63 v64 w ∧ μ7 v63 v64 w < μ7 s5 s31 wl7) Kp) Kp) Kp) Kp) Kp) Kp) Kp)) Kp) Kp) Kp) Kp) Kp) Kp) (
 K s5 w)) Kp) Kp) Kp)) Kp) Kp) Kp) Kp
theorem vc45_eq : vc45 S a0 a1 w K Kp = fVC S [(7, [5, 31]), (7, [5, 31])] [] Tryz.f45 [a0, a1] w K Kp := by kernel_rfl
theorem vc45_calls (h : vc45 nP a0 a1 w K Kp) : Calls Tryz.prog 45 #[a0, a1] w (ret K Kp) :=
 fVC_sound (args := [a0, a1]) nice_le follows_BVcS Tryz.func45 (by kernel_rfl) (Eq.mp vc45_eq h)
def vc18 (S : Sig) (a0 a1 a2 a3 : Value) (w : World) (K : KV) (Kp : KP) : Prop :=
 S.op (.box 23 a2) w (fun v6 w =>
 S.op (.buildSlice 65 1 [(0, (.slice none 0 0))]) w (fun v24 w =>
 S.op (.blt .len [24] 3 [a3]) w (fun v26 w =>
 Lp fun (I4 : Value → Value → KV) (μ4 : Value → Value → Value → World → Nat) => I4 v24 (.slice none 0 0) (.int .i64 0) w ∧
 ∀ (wl4 : World) (_ : Nat → Value) (s9 : Value) (s10 : Value) (s27 : Value), I4 s9 s10 s27 wl4 →
 S.op (.bin .lss 3 false false s27 v26) wl4 (fun v28 w =>
 Br v28 (
 S.op (.indexAddr 24 a3 s27) w (fun v29 w =>
 S.op (.load 64 v29) w (fun v30 w =>
 S.op (.alloc 64) w (fun v12 w =>
 S.op (.store 64 v12 v30) w (fun _ w =>
 S.op (.fieldAddr 64 v12 1) w (fun v31 w =>
 S.op (.load 3 v31) w (fun v32 w =>
 S.op (.blt .len [65] 3 [s9]) w (fun v34 w =>
 S.op (.bin .rem 3 false false v32 v34) w (fun v35 w =>
 Jn fun (J9 : KV) =>
 (S.op (.bin .lss 3 false true v35 (.int .i64 0)) w (fun v37 w =>
 Br v37 (
 S.op (.blt .len [65] 3 [s9]) w (fun v40 w =>
 S.op (.bin .add 3 false false v35 v40) w (fun v41 w =>
 J9 v41 w) Kp) Kp) (
 J9 v35 w)) Kp) ∧
 (∀ (w : World) (_ : Nat → Value) (j13 : Value), J9 j13 w →
 S.op (.indexAddr 65 s9 j13) w (fun v44 w =>
 S.op (.load 38 v44) w (fun v45 w =>
 S.op (.build 104 []) w (fun v46 w =>
 S.op (.alloc 104) w (fun v15 w =>
 S.op (.store 104 v15 v46) w (fun _ w =>
 S.op (.load 64 v12) w (fun v48 w =>
 S.call (.fn 45) [a0, v48] w (fun v49 w =>
 Jn fun (J18 : World → Prop) =>
 (Br a1 (
 S.op (.blt .len [38] 3 [v49]) w (fun v52 w =>
 Lp fun (I14 : KV) (μ14 : Value → World → Nat) => I14 (.int .i64 0) w ∧
 ∀ (wl14 : World) (_ : Nat → Value) (s53 : Value), I14 s53 wl14 →
 S.op (.bin .lss 3 false false s53 v52) wl14 (fun v54 w =>
 Br v54 (
 S.op (.indexAddr 38 v49 s53) w (fun v58 w =>
 S.op (.fieldAddr 45 v58 2) w (fun v59 w =>
 S.op (.store 2 v59 (.int .i64 0)) w (fun _ w =>
 S.op (.bin .add 3 false true s53 (.int .i64 1)) w (fun v60 w =>
 I14 v60 w ∧ μ14 v60 w < μ14 s53 wl14) Kp) Kp) Kp) Kp) (
 J18 w)) Kp) Kp) (
 J18 w)) ∧
 (∀ (w : World) (_ : Nat → Value), J18 w →
 Jn fun (J46 : KV) =>
 (S.op (.fieldAddr 64 v12 0) w (fun v61 w =>
 S.op (.load 5 v61) w (fun v62 w =>
 Jn fun (J23 : KV) =>
 (S.op (.bin .eql 5 false true v62 (.int .u8 0)) w (fun v64 w =>
 Br v64 (
 J23 v64 w) (
 S.op (.bin .eql 5 false true v62 (.int .u8 5)) w (fun v65 w =>
 Br v65 (
 J23 v65 w) (
 S.op (.bin .eql 5 false true v62 (.int .u8 1)) w (fun v66 w =>
 Br v66 (
 J23 v66 w) (
 S.op (.bin .eql 5 false true v62 (.int .u8 6)) w (fun v67 w =>
 J23 v67 w) Kp)) Kp)) Kp)) Kp) ∧
 (∀ (w : World) (_ : Nat → Value) (j63 : Value), J23 j63 w →
 Br j63 (
 S.op (.buildSlice 38 0 []) w (fun v68 w =>
 S.op (.blt .append [38, 38] 38 [v68, v45]) w (fun v70 w =>
 S.op (.blt .len [38] 3 [v49]) w (fun v72 w =>
 Lp fun (I25 : Value → KV) (μ25 : Value → Value → World → Nat) => I25 v70 (.int .i64 0) w ∧
 ∀ (wl25 : World) (_ : Nat → Value) (s18 : Value) (s73 : Value), I25 s18 s73 wl25 →
 S.op (.bin .lss 3 false false s73 v72) wl25 (fun v74 w =>
 Br v74 (
 S.op (.indexAddr 38 v49 s73) w (fun v75 w =>
 S.op (.load 45 v75) w (fun v76 w =>
 S.op (.alloc 45) w (fun v20 w =>
 S.op (.store 45 v20 v76) w (fun _ w =>
 S.op (.fieldAddr 64 v12 0) w (fun v77 w =>
 S.op (.load 5 v77) w (fun v78 w =>
 S.op (.bin .eql 5 false true v78 (.int .u8 0)) w (fun v79 w =>
 Br v79 (
 S.op (.load 23 v6) w (fun v85 w =>
 S.op (.load 45 v20) w (fun v88 w =>
 S.call (.fn 46) [v85, a0, s18, v88] w (fun v89 w =>
 S.op (.bin .add 3 false true s73 (.int .i64 1)) w (fun v95 w =>
 I25 v89 v95 w ∧ μ25 v89 v95 w < μ25 s18 s73 wl25) Kp) Kp) Kp) Kp) (
 S.op (.fieldAddr 64 v12 0) w (fun v81 w =>
 S.op (.load 5 v81) w (fun v82 w =>
 S.op (.bin .eql 5 false true v82 (.int .u8 5)) w (fun v83 w =>
 Br v83 (
 S.op (.load 23 v6) w (fun v85 w =>
 S.op (.load 45 v20) w (fun v88 w =>
 S.call (.fn 46) [v85, a0, s18, v88] w (fun v89 w =>
 S.op (.bin .add 3 false true s73 (.int .i64 1)) w (fun v95 w =>
 I25 v89 v95 w ∧ μ25 v89 v95 w < μ25 s18 s73 wl25) Kp) Kp) Kp) Kp) (
 S.op (.load 23 v6) w (fun v90 w =>
 S.op (.load 45 v20) w (fun v93 w =>
 S.call (.fn 47) [v90, a0, s18, v93] w (fun v94 w =>
 S.op (.bin .add 3 false true s73 (.int .i64 1)) w (fun v95 w =>
 I25 v94 v95 w ∧ μ25 v94 v95 w < μ25 s18 s73 wl25) Kp) Kp) Kp) Kp)) Kp) Kp) Kp)) Kp) Kp) Kp) Kp) Kp) Kp) Kp) (
 S.op (.buildSlice 65 1 [(0, s18)]) w (fun v98 w =>
 S.op (.blt .append [65, 65] 65 [s9, v98]) w (fun v99 w =>
 S.op (.blt .len [38] 3 [s18]) w (fun v101 w =>
 S.op (.fieldAddr 104 v15 1) w (fun v102 w =>
 S.op (.store 3 v102 v101) w (fun _ w =>
 J46 v99 w) Kp) Kp) Kp) Kp) Kp)) Kp) Kp) Kp) Kp) (
 S.op (.bin .eql 5 false true v62 (.int .u8 2)) w (fun v104 w =>
 Br v104 (
 S.ld (.load 23 v6) w.drew (fun v106 =>
 S.pur (.indexAddr 38 v49 (.int .i64 0)) (fun v110 =>
 S.ld (.load 45 v110) w.drew (fun v111 =>
 S.call (.fn 48) [v106, a0, v45, v111] w.drew (fun v112 w =>
 S.pur (.extract v112 0) (fun v113 =>
 S.pur (.extract v112 1) (fun v114 =>
 Br v114 (
 S.op (.indexAddr 38 v45 v113) w (fun v118 w =>
 S.op (.fieldAddr 45 v118 2) w (fun v119 w =>
 S.op (.load 2 v119) w (fun v120 w =>
 S.op (.fieldAddr 104 v15 0) w (fun v121 w =>
 S.op (.store 2 v121 v120) w (fun _ w =>
 S.op (.fieldAddr 104 v15 2) w (fun v122 w =>
 S.op (.store 4 v122 (.bool true)) w (fun _ w =>
 J46 s9 w) Kp) Kp) Kp) Kp) Kp) Kp) Kp) (
 J46 s9 w)))) Kp)))) (
 S.op (.bin .eql 5 false true v62 (.int .u8 3)) w (fun v124 w =>
 Br v124 (
 S.op (.buildSlice 38 0 []) w (fun v125 w =>
 S.op (.blt .append [38, 38] 38 [v125, v45]) w (fun v127 w =>
 S.op (.blt .len [38] 3 [v45]) w (fun v129 w =>
 S.op (.fieldAddr 104 v15 3) w (fun v130 w =>
 S.op (.store 38 v130 v127) w (fun _ w =>
 S.op (.fieldAddr 104 v15 1) w (fun v131 w =>
 S.op (.store 3 v131 v129) w (fun _ w =>
 J46 s9 w) Kp) Kp) Kp) Kp) Kp) Kp) Kp) (
 S.op (.bin .eql 5 false true v62 (.int .u8 4)) w (fun v133 w =>
 Br v133 (
 S.op (.blt .len [38] 3 [v45]) w (fun v135 w =>
 Lp fun (I41 : KV) (μ41 : Value → World → Nat) => I41 (.int .i64 0) w ∧
 ∀ (wl41 : World) (_ : Nat → Value) (s136 : Value), I41 s136 wl41 →
 S.op (.bin .lss 3 false false s136 v135) wl41 (fun v137 w =>
 Br v137 (
 S.pur (.fieldAddr 104 v15 3) (fun v139 =>
 S.ld (.load 38 v139) w.drew (fun v140 =>
 S.ld (.blt .len [38] 3 [v45]) w.drew (fun v143 =>
 S.pur (.bin .sub 3 false true v143 (.int .i64 1)) (fun v144 =>
 S.pur (.bin .sub 3 false false v144 s136) (fun v146 =>
 S.pur (.indexAddr 38 v45 v146) (fun v147 =>
 S.ld (.load 45 v147) w.drew (fun v148 =>
 S.op (.buildSlice 38 1 [(0, v148)]) w.drew (fun v149 w =>
 S.same (.load 38 v139) v140 w ∧
 S.op (.blt .append [38, 38] 38 [v140, v149]) w (fun v150 w =>
 S.pur (.fieldAddr 104 v15 3) (fun v151 =>
 S.op (.store 38 v151 v150) w (fun _ w =>
 S.op (.bin .add 3 false true s136 (.int .i64 1)) w (fun v152 w =>
 I41 v152 w ∧ μ41 v152 w < μ41 s136 wl41) Kp) Kp)) Kp) Kp)))))))) (
 S.op (.blt .len [38] 3 [v45]) w (fun v154 w =>
 S.op (.fieldAddr 104 v15 1) w (fun v155 w =>
 S.op (.store 3 v155 v154) w (fun _ w =>
 J46 s9 w) Kp) Kp) Kp)) Kp) Kp) (
 J46 s9 w)) Kp)) Kp)) Kp))) Kp) Kp) ∧
 (∀ (w : World) (_ : Nat → Value) (j9 : Value), J46 j9 w →
 S.op (.load 104 v15) w (fun v157 w =>
 S.op (.buildSlice 35 1 [(0, v157)]) w (fun v158 w =>
 S.op (.blt .append [35, 35] 35 [s10, v158]) w (fun v159 w =>
 S.op (.bin .add 3 false true s27 (.int .i64 1)) w (fun v160 w =>
 I4 j9 v159 v160 w ∧ μ4 j9 v159 v160 w < μ4 s9 s10 s27 wl4) Kp) Kp) Kp) Kp))) Kp) Kp) Kp) Kp) Kp) Kp) Kp)) Kp) Kp) Kp) Kp) Kp) Kp) Kp) Kp) (
 K s10 w)) Kp) Kp) Kp) Kp
theorem vc18_eq : vc18 S a0 a1 a2 a3 w K Kp = fVC S [(4, [9, 10, 27]), (14, [53]), (25, [18, 73]), (41, [136])] [(9, [13]), (18, []), (46, [9]), (23, [63])] Tryz.f18 [a0, a1, a2, a3] w K Kp := by kernel_rfl
theorem vc18_calls (h : vc18 nP a0 a1 a2 a3 w K Kp) : Calls Tryz.prog 18 #[a0, a1, a2, a3] w (ret K Kp) :=
 fVC_sound (args := [a0, a1, a2, a3]) nice_le follows_BVcS Tryz.func18 (by kernel_rfl) (Eq.mp vc18_eq h)
def vc13 (S : Sig) (a0 a1 : Value) (w : World) (K : KV) (Kp : KP) : Prop :=
 S.op (.box 23 a0) w (fun v2 w =>
 S.op (.load 23 v2) w (fun v9 w =>
 S.call (.fn 29) [v9] w (fun v10 w =>
 S.op (.un .not v10) w (fun v11 w =>
 Br v11 (
 K (.bool false) w) (
 S.op (.blt .len [24] 3 [a1]) w (fun v14 w =>
 S.op (.bin .gtr 3 false true v14 (.int .i64 200)) w (fun v15 w =>
 Br v15 (
 K (.bool false) w) (
 S.op (.blt .len [24] 3 [a1]) w (fun v18 w =>
 Lp fun (I5 : Value → Value → KV) (μ5 : Value → Value → Value → World → Nat) => I5 (.int .i64 0) (.int .i64 0) (.int .i64 0) w ∧
 ∀ (wl5 : World) (_ : Nat → Value) (s5 : Value) (s6 : Value) (s19 : Value), I5 s5 s6 s19 wl5 →
 S.op (.bin .lss 3 false false s19 v18) wl5 (fun v20 w =>
 Br v20 (
 S.op (.indexAddr 24 a1 s19) w (fun v21 w =>
 S.op (.load 64 v21) w (fun v22 w =>
 S.op (.alloc 64) w (fun v8 w =>
 S.op (.store 64 v8 v22) w (fun _ w =>
 S.op (.fieldAddr 64 v8 0) w (fun v23 w =>
 S.op (.load 5 v23) w (fun v24 w =>
 S.op (.bin .gtr 5 false true v24 (.int .u8 6)) w (fun v25 w =>
 Br v25 (
 K (.bool false) w) (
 S.op (.fieldAddr 64 v8 5) w (fun v27 w =>
 S.op (.load 3 v27) w (fun v28 w =>
 S.op (.bin .lss 3 false true v28 (.int .i64 0)) w (fun v29 w =>
 Br v29 (
 K (.bool false) w) (
 S.op (.fieldAddr 64 v8 5) w (fun v32 w =>
 S.op (.load 3 v32) w (fun v33 w =>
 S.op (.bin .gtr 3 false true v33 (.int .i64 3000)) w (fun v34 w =>
 Br v34 (
 K (.bool false) w) (
 S.op (.fieldAddr 64 v8 3) w (fun v37 w =>
 S.op (.load 9 v37) w (fun v38 w =>
 S.op (.blt .len [9] 3 [v38]) w (fun v39 w =>
 S.op (.bin .gtr 3 false true v39 (.int .i64 100)) w (fun v40 w =>
 Br v40 (
 K (.bool false) w) (
 S.op (.fieldAddr 64 v8 0) w (fun v42 w =>
 S.op (.load 5 v42) w (fun v43 w =>
 S.op (.bin .geq 5 false true v43 (.int .u8 5)) w (fun v44 w =>
 Br v44 (
 S.op (.fieldAddr 64 v8 5) w (fun v46 w =>
 S.op (.load 3 v46) w (fun v47 w =>
 S.op (.bin .add 3 false false s5 v47) w (fun v48 w =>
 S.op (.fieldAddr 64 v8 0) w (fun v49 w =>
 S.op (.load 5 v49) w (fun v50 w =>
 S.op (.bin .eql 5 false true v50 (.int .u8 3)) w (fun v51 w =>
 Br v51 (
 S.op (.bin .add 3 false true s6 (.int .i64 1)) w (fun v58 w =>
 S.op (.bin .add 3 false true s19 (.int .i64 1)) w (fun v59 w =>
 I5 v48 v58 v59 w ∧ μ5 v48 v58 v59 w < μ5 s5 s6 s19 wl5) Kp) Kp) (
 S.op (.fieldAddr 64 v8 0) w (fun v53 w =>
 S.op (.load 5 v53) w (fun v54 w =>
 S.op (.bin .eql 5 false true v54 (.int .u8 4)) w (fun v55 w =>
 Br v55 (
 S.op (.bin .add 3 false true s6 (.int .i64 1)) w (fun v58 w =>
 S.op (.bin .add 3 false true s19 (.int .i64 1)) w (fun v59 w =>
 I5 v48 v58 v59 w ∧ μ5 v48 v58 v59 w < μ5 s5 s6 s19 wl5) Kp) Kp) (
 S.op (.bin .add 3 false true s19 (.int .i64 1)) w (fun v59 w =>
 I5 v48 s6 v59 w ∧ μ5 v48 s6 v59 w < μ5 s5 s6 s19 wl5) Kp)) Kp) Kp) Kp)) Kp) Kp) Kp) Kp) Kp) Kp) (
 S.op (.fieldAddr 64 v8 0) w (fun v49 w =>
 S.op (.load 5 v49) w (fun v50 w =>
 S.op (.bin .eql 5 false true v50 (.int .u8 3)) w (fun v51 w =>
 Br v51 (
 S.op (.bin .add 3 false true s6 (.int .i64 1)) w (fun v58 w =>
 S.op (.bin .add 3 false true s19 (.int .i64 1)) w (fun v59 w =>
 I5 s5 v58 v59 w ∧ μ5 s5 v58 v59 w < μ5 s5 s6 s19 wl5) Kp) Kp) (
 S.op (.fieldAddr 64 v8 0) w (fun v53 w =>
 S.op (.load 5 v53) w (fun v54 w =>
 S.op (.bin .eql 5 false true v54 (.int .u8 4)) w (fun v55 w =>
 Br v55 (
 S.op (.bin .add 3 false true s6 (.int .i64 1)) w (fun v58 w =>
 S.op (.bin .add 3 false true s19 (.int .i64 1)) w (fun v59 w =>
 I5 s5 v58 v59 w ∧ μ5 s5 v58 v59 w < μ5 s5 s6 s19 wl5) Kp) Kp) (
 S.op (.bin .add 3 false true s19 (.int .i64 1)) w (fun v59 w =>
 I5 s5 s6 v59 w ∧ μ5 s5 s6 v59 w < μ5 s5 s6 s19 wl5) Kp)) Kp) Kp) Kp)) Kp) Kp) Kp)) Kp) Kp) Kp)) Kp) Kp) Kp) Kp)) Kp) Kp) Kp)) Kp) Kp) Kp)) Kp) Kp) Kp) Kp) Kp) Kp) Kp) (
 S.op (.bin .leq 3 false true s5 (.int .i64 20000)) w (fun v61 w =>
 Br v61 (
 S.op (.bin .leq 3 false true s6 (.int .i64 60)) w (fun v64 w =>
 K v64 w) Kp) (
 K (.bool false) w)) Kp)) Kp) Kp)) Kp) Kp)) Kp) Kp) Kp) Kp
theorem vc13_eq : vc13 S a0 a1 w K Kp = fVC S [(5, [5, 6, 19])] [] Tryz.f13 [a0, a1] w K Kp := by kernel_rfl
theorem vc13_calls (h : vc13 nP a0 a1 w K Kp) : Calls Tryz.prog 13 #[a0, a1] w (ret K Kp) :=
 fVC_sound (args := [a0, a1]) nice_le follows_BVcS Tryz.func13 (by kernel_rfl) (Eq.mp vc13_eq h)
def vc12 (S : Sig) (a0 : Value) (w : World) (K : KV) (Kp : KP) : Prop :=
 S.op (.blt .len [24] 3 [a0]) w (fun v6 w =>
 S.op (.bin .gtr 3 false true v6 (.int .i64 2147483647)) w (fun v7 w =>
 Br v7 (
 K (.bool false) w) (
 S.op (.blt .len [24] 3 [a0]) w (fun v9 w =>
 Lp fun (I4 : KV) (μ4 : Value → World → Nat) => I4 (.int .i64 0) w ∧
 ∀ (wl4 : World) (_ : Nat → Value) (s10 : Value), I4 s10 wl4 →
 S.op (.bin .lss 3 false false s10 v9) wl4 (fun v11 w =>
 Br v11 (
 S.op (.indexAddr 24 a0 s10) w (fun v12 w =>
 S.op (.load 64 v12) w (fun v13 w =>
 S.op (.alloc 64) w (fun v4 w =>
 S.op (.store 64 v4 v13) w (fun _ w =>
 S.op (.load 64 v4) w (fun v14 w =>
 S.call (.fn 36) [v14] w (fun v15 w =>
 S.op (.un .not v15) w (fun v16 w =>
 Br v16 (
 K (.bool false) w) (
 S.op (.bin .add 3 false true s10 (.int .i64 1)) w (fun v17 w =>
 I4 v17 w ∧ μ4 v17 w < μ4 s10 wl4) Kp)) Kp) Kp) Kp) Kp) Kp) Kp) Kp) (
 K (.bool true) w)) Kp) Kp)) Kp) Kp
theorem vc12_eq : vc12 S a0 w K Kp = fVC S [(4, [10])] [] Tryz.f12 [a0] w K Kp := by kernel_rfl
theorem vc12_calls (h : vc12 nP a0 w K Kp) : Calls Tryz.prog 12 #[a0] w (ret K Kp) :=
 fVC_sound (args := [a0]) nice_le follows_BVcS Tryz.func12 (by kernel_rfl) (Eq.mp vc12_eq h)
def vc36 (S : Sig) (a0 : Value) (w : World) (K : KV) (Kp : KP) : Prop :=
 S.op (.box 64 a0) w (fun v1 w =>
 S.op (.fieldAddr 64 v1 3) w (fun v3 w =>
 S.op (.load 9 v3) w (fun v4 w =>
 S.op (.blt .len [9] 3 [v4]) w (fun v5 w =>
 S.op (.bin .gtr 3 false true v5 (.int .i64 2147483647)) w (fun v6 w =>
 Br v6 (
 K (.bool false) w) (
 K (.bool true) w)) Kp) Kp) Kp) Kp) Kp
theorem vc36_eq : vc36 S a0 w K Kp = fVC S [] [] Tryz.f36 [a0] w K Kp := by kernel_rfl
theorem vc36_calls (h : vc36 nP a0 w K Kp) : Calls Tryz.prog 36 #[a0] w (ret K Kp) :=
 fVC_sound (args := [a0]) nice_le follows_BVcS Tryz.func36 (by kernel_rfl) (Eq.mp vc36_eq h)
def vc16 (S : Sig) (a0 : Value) (w : World) (K : KV) (Kp : KP) : Prop :=
 S.op (.blt .len [24] 3 [a0]) w (fun v7 w =>
 Lp fun (I3 : Value → KV) (μ3 : Value → Value → World → Nat) => I3 (.slice none 0 0) (.int .i64 0) w ∧
 ∀ (wl3 : World) (_ : Nat → Value) (s3 : Value) (s8 : Value), I3 s3 s8 wl3 →
 S.op (.bin .lss 3 false false s8 v7) wl3 (fun v9 w =>
 Br v9 (
 S.op (.indexAddr 24 a0 s8) w (fun v10 w =>
 S.op (.load 64 v10) w (fun v11 w =>
 S.op (.alloc 64) w (fun v5 w =>
 S.op (.store 64 v5 v11) w (fun _ w =>
 S.op (.load 64 v5) w (fun v13 w =>
 S.op (.buildSlice 32 1 [(0, v13)]) w (fun v14 w =>
 S.op (.blt .append [32, 32] 32 [s3, v14]) w (fun v15 w =>
 S.op (.bin .add 3 false true s8 (.int .i64 1)) w (fun v16 w =>
 I3 v15 v16 w ∧ μ3 v15 v16 w < μ3 s3 s8 wl3) Kp) Kp) Kp) Kp) Kp) Kp) Kp) Kp) (
 K s3 w)) Kp) Kp
theorem vc16_eq : vc16 S a0 w K Kp = fVC S [(3, [3, 8])] [] Tryz.f16 [a0] w K Kp := by kernel_rfl
theorem vc16_calls (h : vc16 nP a0 w K Kp) : Calls Tryz.prog 16 #[a0] w (ret K Kp) :=
 fVC_sound (args := [a0]) nice_le follows_BVcS Tryz.func16 (by kernel_rfl) (Eq.mp vc16_eq h)
def vc17 (S : Sig) (a0 a1 : Value) (w : World) (K : KV) (Kp : KP) : Prop :=
 S.op (.blt .len [28] 3 [a0]) w (fun v7 w =>
 S.op (.blt .len [35] 3 [a1]) w (fun v9 w =>
 S.op (.bin .neq 3 false false v7 v9) w (fun v10 w =>
 Br v10 (
 K (.bool false) w) (
 S.op (.blt .len [28] 3 [a0]) w (fun v12 w =>
 Lp fun (I4 : KV) (μ4 : Value → World → Nat) => I4 (.int .i64 0) w ∧
 ∀ (wl4 : World) (_ : Nat → Value) (s13 : Value), I4 s13 wl4 →
 S.op (.bin .lss 3 false false s13 v12) wl4 (fun v14 w =>
 Br v14 (
 S.pur (.indexAddr 28 a0 s13) (fun v18 =>
 S.pur (.fieldAddr 56 v18 0) (fun v19 =>
 S.ld (.load 2 v19) w.drew (fun v20 =>
 S.pur (.indexAddr 35 a1 s13) (fun v23 =>
 S.pur (.fieldAddr 104 v23 0) (fun v24 =>
 S.ld (.load 2 v24) w.drew (fun v25 =>
 S.pur (.bin .neq 2 false false v20 v25) (fun v26 =>
 Br v26 (
 K (.bool false) w.drew) (
 S.pur (.indexAddr 28 a0 s13) (fun v30 =>
 S.pur (.fieldAddr 56 v30 1) (fun v31 =>
 S.ld (.load 3 v31) w.drew (fun v32 =>
 S.pur (.indexAddr 35 a1 s13) (fun v35 =>
 S.pur (.fieldAddr 104 v35 1) (fun v36 =>
 S.ld (.load 3 v36) w.drew (fun v37 =>
 S.pur (.bin .neq 3 false false v32 v37) (fun v38 =>
 Br v38 (
 K (.bool false) w.drew) (
 S.pur (.indexAddr 28 a0 s13) (fun v43 =>
 S.pur (.fieldAddr 56 v43 2) (fun v44 =>
 S.ld (.load 4 v44) w.drew (fun v45 =>
 S.pur (.indexAddr 35 a1 s13) (fun v48 =>
 S.pur (.fieldAddr 104 v48 2) (fun v49 =>
 S.ld (.load 4 v49) w.drew (fun v50 =>
 S.pur (.bin .neq 4 false false v45 v50) (fun v51 =>
 Br v51 (
 K (.bool false) w.drew) (
 S.pur (.indexAddr 28 a0 s13) (fun v56 =>
 S.pur (.fieldAddr 56 v56 3) (fun v57 =>
 S.ld (.load 46 v57) w.drew (fun v58 =>
 S.pur (.indexAddr 35 a1 s13) (fun v61 =>
 S.pur (.fieldAddr 104 v61 3) (fun v62 =>
 S.ld (.load 38 v62) w.drew (fun v63 =>
 S.call (.fn 32) [v58, v63] w.drew (fun v64 w =>
 S.pur (.un .not v64) (fun v65 =>
 Br v65 (
 K (.bool false) w) (
 S.op (.bin .add 3 false true s13 (.int .i64 1)) w (fun v67 w =>
 I4 v67 w ∧ μ4 v67 w < μ4 s13 wl4) Kp))) Kp))))))))))))))))))))))))))))))) (
 K (.bool true) w)) Kp) Kp)) Kp) Kp) Kp
theorem vc17_eq : vc17 S a0 a1 w K Kp = fVC S [(4, [13])] [] Tryz.f17 [a0, a1] w K Kp := by kernel_rfl
theorem vc17_calls (h : vc17 nP a0 a1 w K Kp) : Calls Tryz.prog 17 #[a0, a1] w (ret K Kp) :=
 fVC_sound (args := [a0, a1]) nice_le follows_BVcS Tryz.func17 (by kernel_rfl) (Eq.mp vc17_eq h)
def vc3 (S : Sig) (a0 a1 a2 : Value) (w : World) (K : KV) (Kp : KP) : Prop :=
 S.op (.box 23 a1) w (fun v4 w =>
 S.call (.fn 12) [a2] w (fun v10 w =>
 S.op (.un .not v10) w (fun v11 w =>
 Br v11 (
 K (.bool true) w) (
 S.op (.load 23 v4) w (fun v12 w =>
 S.call (.fn 13) [v12, a2] w (fun v14 w =>
 S.op (.un .not v14) w (fun v15 w =>
 Br v15 (
 S.call (.fn 14) [] w (fun v16 w =>
 K v16 w) Kp) (
 S.ld (.load 23 v4) w.drew (fun v19 =>
 S.call (.fn 16) [a2] w.drew (fun v21 w =>
 S.same (.load 23 v4) v19 w ∧
 S.call (.fn 15) [a0, v19, v21] w (fun v22 w =>
 S.pur (.extract v22 0) (fun v23 =>
 S.pur (.extract v22 1) (fun v24 =>
 S.call (.fn 14) [] w (fun v25 w =>
 Br v25 (
 Br v24 (
 S.op (.load 23 v4) w (fun v32 w =>
 S.call (.fn 18) [a0, (.bool false), v32, a2] w (fun v34 w =>
 S.call (.fn 17) [v23, v34] w (fun v35 w =>
 K v35 w) Kp) Kp) Kp) (
 K (.bool false) w)) (
 K (.bool false) w)) Kp))) Kp) Kp))) Kp) Kp) Kp)) Kp) Kp) Kp
theorem vc3_eq : vc3 S a0 a1 a2 w K Kp = fVC S [] [] Tryz.f3 [a0, a1, a2] w K Kp := by kernel_rfl
theorem vc3_calls (h : vc3 nP a0 a1 a2 w K Kp) : Calls Tryz.prog 3 #[a0, a1, a2] w (ret K Kp) :=
 fVC_sound (args := [a0, a1, a2]) nice_le follows_BVcS Tryz.func3 (by kernel_rfl) (Eq.mp vc3_eq h)
end Go.Proofs.YtodjijfblgnfmaaGreatDoor
end
section
namespace Go.Proofs.YtodjijfblgnfmaaGreatDoor
open Go.Vc Go.Proofs Go.Vc.Bt
variable {w w' : World} {K : KV} {Kp : KP} {K1 : Value → Prop} {n : Int}
theorem op_add_s {t : TypeId} {xc yc : Bool} {a b : ByteArray} : nP.op (.bin .add t xc yc (.string a) (.string b)) w K Kp = ((((a.size + b.size : Nat) : Int) ≤ 9223372036854775807) ∧ K (.string (a ++ b)) w) := op_of (by simp only [pv, binV, strV])
theorem pur_add_s {t : TypeId} {xc yc : Bool} {a b : ByteArray} : nP.pur (.bin .add t xc yc (.string a) (.string b)) K1 = ((((a.size + b.size : Nat) : Int) ≤ 9223372036854775807) ∧ K1 (.string (a ++ b))) := pur_of (by simp only [pv, binV, strV])
theorem cat_list (a b : List UInt8) : (⟨a.toArray⟩ : ByteArray) ++ ⟨b.toArray⟩ = ⟨(a ++ b).toArray⟩ := by
  apply ByteArray.ext
  rw [ByteArray.data_append]
  simp
theorem conv_byte {b : Nat} {d : Nat} (hd : d < 256) (hb : w.heap[b]? = some (.cells #[.int .u8 d] 5 (0, 0))) (hK : K (.string ⟨[UInt8.ofNat d].toArray⟩) w) :
    nP.op (.conv 228 9 (.slice (some ⟨b, 0, none⟩) 1 1)) w K Kp := by
  show outOf Tryz.prog (VOp.conv 228 9 (.slice (some ⟨b, 0, none⟩) 1 1)).sem w K Kp
  refine out_ok (w' := w) ?_ hK
  refine run_convert_bytes_back w _ _ 5 ⟨b, 0, none⟩ 1 [UInt8.ofNat d] Tryz.underlying228 Tryz.underlying5 Tryz.underlying9 fun j hj => ?_
  have hj0 : j = 0 := by simpa using hj
  subst hj0
  have e : ((UInt8.ofNat d).toNat : Int) = d := by simp [UInt8.toNat_ofNat']; omega
  show w.cell? ((⟨b, 0, none⟩ : Addr).add 0) = _
  simp [World.cell?, Addr.add, hb]
  omega
theorem digits_loop {A : Nat} {neg : Bool} {a0 : Int} (hA : A ≤ 9223372036854775808) (hneg : neg = decide (a0 < 0)) (hK : ∀ w', Frm (fun _ => False) w w' → K (.string ⟨((if neg then [45] else []) ++ Lib.decDigits A).toArray⟩) w') :
    Lp fun (I4 : Value → KV) (μ4 : Value → Value → World → Nat) => I4 (.int .u64 A) (Value.string { data := #[] }) w ∧
    ∀ (wl4 : World) (junk : Nat → Value) (s3_u : Value) (s4_out : Value), I4 s3_u s4_out wl4 →
      nP.op (.bin BinOp.rem 227 false true s3_u (Value.int IntKind.u64 10)) wl4 (fun v12 w =>
      nP.op (.bin BinOp.add 227 true false (Value.int IntKind.u64 48) v12) w (fun v13 w =>
      nP.op (.conv 227 5 v13) w (fun v14 w =>
      nP.op (.buildSlice 228 1 [(0, v14)]) w (fun v15 w =>
      nP.op (.conv 228 9 v15) w (fun v16 w =>
      nP.op (.bin BinOp.add 9 false false v16 s4_out) w (fun v18 w =>
      nP.op (.bin BinOp.quo 227 false true s3_u (Value.int IntKind.u64 10)) w (fun v20 w =>
      nP.op (.bin BinOp.eql 227 false true v20 (Value.int IntKind.u64 0)) w (fun v22 w =>
      Br v22 (
        nP.op (.bin BinOp.lss 2 false true (.int .i64 a0) (Value.int IntKind.i64 0)) w (fun v24 w =>
        Br v24 (
          nP.op (.bin BinOp.add 9 true false (Value.string { data := #[45] }) v18) w (fun v26 w =>
          K v26 w) Kp) (
          K v18 w)) Kp) (
        I4 v20 v18 w ∧ μ4 v20 v18 w < μ4 s3_u s4_out wl4)) Kp) Kp) Kp) Kp) Kp) Kp) Kp) Kp := by
  obtain ⟨I, hI⟩ : ∃ I : Value → KV, ∀ u v wl, I u v wl ↔ ∃ (m : Nat) (D : List UInt8), u = .int .u64 m ∧ v = .string ⟨D.toArray⟩ ∧ m * 10 ^ D.length ≤ A ∧ (m = 0 → D = []) ∧ Frm (fun _ => False) w wl ∧ Lib.decDigits A = Lib.decDigits m ++ D := ⟨_, fun _ _ _ => Iff.rfl⟩
  refine Lp.intro I (fun u _ _ => nOf u) ⟨(hI _ _ _).2 ⟨A, [], rfl, rfl, by simp, fun _ => rfl, Frm.refl, by simp⟩, ?_⟩
  intro wl _ u v hv
  obtain ⟨m, D, rfl, rfl, hm, hz, kl, hdec⟩ := (hI _ _ _).1 hv
  have hDl : D.length ≤ 19 := by
    by_cases h0 : m = 0
    · rw [hz h0]; simp
    · refine Classical.byContradiction fun hn => ?_
      have h1 : 10 ^ 20 ≤ 10 ^ D.length := Nat.pow_le_pow_right (by decide) (by omega)
      have h2 : 10 ^ D.length ≤ m * 10 ^ D.length := Nat.le_mul_of_pos_left _ (by omega)
      have e : (10 : Nat) ^ 20 = 100000000000000000000 := by decide
      omega
  have hmA : m ≤ A := Nat.le_trans (Nat.le_mul_of_pos_right _ (Nat.pow_pos (by decide))) hm
  obtain ⟨d, hd⟩ : ∃ d, d = m % 10 := ⟨_, rfl⟩
  obtain ⟨q, hq⟩ : ∃ q, q = m / 10 := ⟨_, rfl⟩
  have e1 : (m : Int).tmod 10 = (d : Int) := by rw [Int.tmod_eq_emod_of_nonneg (by omega)]; omega
  have e2 : IntKind.u64.wrap (48 + (d : Int)) = ((48 + d : Nat) : Int) := by rw [IntKind.wrap_u64]; omega
  have e3 : IntKind.u8.wrap ((48 + d : Nat) : Int) = ((48 + d : Nat) : Int) := by rw [IntKind.wrap_u8]; omega
  have e4 : IntKind.u64.wrap ((m : Int).tdiv 10) = (q : Int) := by rw [Int.tdiv_eq_ediv_of_nonneg (by omega), IntKind.wrap_u64]; omega
  have e4' : IntKind.u64.wrap ((m : Int) / 10) = (q : Int) := by rw [IntKind.wrap_u64]; omega
  simp only [op_rem, e1]
  refine ⟨by decide, ?_⟩
  simp only [op_add, e2, op_conv_227_5, e3]
  refine op_lit_ok (lit_228_1 rfl) fun w5 k5 z5 b5 => conv_byte (by omega) b5 ?_
  have k5' := kl.no k5
  simp only [op_add_s, cat_list, List.singleton_append]
  refine ⟨by simp [ByteArray.size]; omega, ?_⟩
  simp only [op_quo, e4, op_eql, Br_dec, op_lss]
  refine ⟨by decide, fun h0 => ?_, fun h0 => ?_⟩
  · have hm10 : m < 10 := by omega
    have hdd : Lib.decDigits m = [UInt8.ofNat (48 + d)] := by rw [Lib.decDigits, dif_pos hm10, show d = m from by omega]
    rw [hdd] at hdec
    have hfin := hK w5 k5'
    rw [hdec] at hfin
    refine ⟨fun hn => ?_, fun hn => ?_⟩
    · have e : (⟨#[45]⟩ : ByteArray) = ⟨[(45 : UInt8)].toArray⟩ := rfl
      rw [hneg, decide_eq_true hn, if_pos rfl] at hfin
      refine ⟨by simp [ByteArray.size]; omega, by simpa using hfin⟩
    · rw [hneg, decide_eq_false hn] at hfin
      simpa using hfin
  · have hm10 : ¬ m < 10 := by omega
    have hdd : Lib.decDigits m = Lib.decDigits q ++ [UInt8.ofNat (48 + d)] := by rw [Lib.decDigits, dif_neg hm10, hq, hd]
    refine ⟨(hI _ _ _).2 ⟨q, UInt8.ofNat (48 + d) :: D, rfl, rfl, ?_, fun h => by omega, k5', by rw [hdec, hdd]; simp⟩, by simp only [nOf_int]; omega⟩
    rw [List.length_cons, Nat.pow_succ, ← Nat.mul_assoc, Nat.mul_right_comm]
    refine Nat.le_trans (Nat.mul_le_mul_right _ ?_) hm
    omega
theorem digits_ok (h1 : -9223372036854775808 ≤ n) (h2 : n ≤ 9223372036854775807) (hK : ∀ w', Frm (fun _ => False) w w' → K (.string (decI n)) w') : Calls Tryz.prog 92 #[.int .i64 n] w (ret K Kp) := by
  refine vc92_calls ?_
  delta vc92
  rw [op_conv_2_227, op_lss, Br_dec]
  refine ⟨fun hn => ?_, fun hn => ?_⟩
  · rw [op_neg]
    rw [show IntKind.u64.wrap (0 - (IntKind.u64.wrap n)) = ((n.natAbs : Nat) : Int) from by rw [IntKind.wrap_u64, IntKind.wrap_u64]; omega]
    refine digits_loop (neg := true) (by omega) (by simp [hn]) fun w' hf => ?_
    have := hK w' hf
    unfold decI Lib.itoa at this
    rw [if_pos hn] at this
    exact this
  · rw [show IntKind.u64.wrap n = ((n.natAbs : Nat) : Int) from by rw [IntKind.wrap_u64]; omega]
    refine digits_loop (neg := false) (by omega) (by simp; omega) fun w' hf => ?_
    have := hK w' hf
    unfold decI Lib.itoa at this
    rw [if_neg hn, show n.toNat = n.natAbs from by omega] at this
    exact this
end Go.Proofs.YtodjijfblgnfmaaGreatDoor
end
section
namespace Go.Proofs.YtodjijfblgnfmaaGreatDoor
open Go.Vc Go.Proofs
variable {w : World} {K : KV} {Kp : KP} {K1 : Value → Prop}
@[simp] theorem call_145 {args : List Value} : nP.call (.fn 145) args w K Kp = Calls Tryz.prog 145 args.toArray w (ret K Kp) := call_fn (by kernel_rfl)
end Go.Proofs.YtodjijfblgnfmaaGreatDoor
end
section
namespace Go.Proofs.YtodjijfblgnfmaaGreatDoor
open Go.Vc Go.Proofs
variable {S : Sig} {a0 a1 a2 a3 a4 a5 a6 a7 a8 a9 : Value} {w : World} {K : KV} {Kp : KP}
private theorem follows_BVcF : Tryz.prog.follows .mixedOrders = true := by kernel_rfl
def vc77 (S : Sig) (a0 a1 : Value) (w : World) (K : KV) (Kp : KP) : Prop :=
 S.call (.fn 145) [a0, a1] w (fun v7 w =>
 K v7 w) Kp
theorem vc77_eq : vc77 S a0 a1 w K Kp = fVC S [] [] Tryz.f77 [a0, a1] w K Kp := by kernel_rfl
theorem vc77_calls (h : vc77 nP a0 a1 w K Kp) : Calls Tryz.prog 77 #[a0, a1] w (ret K Kp) :=
 fVC_sound (args := [a0, a1]) nice_le follows_BVcF Tryz.func77 (by kernel_rfl) (Eq.mp vc77_eq h)
end Go.Proofs.YtodjijfblgnfmaaGreatDoor
end
section
/-
  DERIVED: THE SHELF's CONTRACTS AT THIS DUMP, IN PLAIN WORDS (tools/lay-plain.mjs out of 'TryzShelf.lean', which tools/lay-shelf.mjs wrote): THE SAME DECLARATIONS UNDER THE SAME NAMES: 'import', 'namespace', 'open', 'def', 'theorem' AND NOTHING ELSE: no command of the shelf's: FOR A HAND-IN. Each laying: the table of numbers ('.._ren') and one theorem, a field a fact of the dump's own or the kernel's comparison; each contract: ONE APPLICATION.
-/
namespace Go.Proofs
open Go.Shelf
open Go.RowKit in
open Go.RowKit in
open Go.Lib in
open Go.Lib in
open Go.Lib in
open Go.Lib in
open Go.RowKit Go.Sort Go.Lib in
def Tryz.laysM246_ren : Go.Shelf.Ren := ⟨fun | 246 => 145 | 283 => 186 | 284 => 187 | 285 => 188 | 286 => 189 | 129 => 210 | 317 => 209 | 318 => 211 | 319 => 212 | 320 => 213 | 337 => 214 | 338 => 215 | n => n, fun | 2 => 2 | 3 => 3 | 9 => 9 | 4 => 4 | 171 => 271 | 0 => 0 | 53 => 227 | 37 => 228 | 5 => 5 | 173 => 274 | 212 => 347 | 51 => 340 | 20 => 20 | 213 => 348 | 46 => 339 | 232 => 370 | 233 => 371 | n => n, fun | 17 => 0 | 18 => 1 | 19 => 2 | n => n⟩
theorem Tryz.laysM246 : Go.Proofs.LaysM.n246 Tryz.prog Tryz.laysM246_ren := {
  mixed := by kernel_rfl
  f129 := Tryz.func210.trans (congrArg some (by kernel_rfl))
  f246 := Tryz.func145.trans (congrArg some (by kernel_rfl))
  f283 := Tryz.func186.trans (congrArg some (by kernel_rfl))
  f284 := Tryz.func187.trans (congrArg some (by kernel_rfl))
  f285 := Tryz.func188.trans (congrArg some (by kernel_rfl))
  f286 := Tryz.func189.trans (congrArg some (by kernel_rfl))
  f317 := Tryz.func209.trans (congrArg some (by kernel_rfl))
  f318 := Tryz.func211.trans (congrArg some (by kernel_rfl))
  f319 := Tryz.func212.trans (congrArg some (by kernel_rfl))
  f320 := Tryz.func213.trans (congrArg some (by kernel_rfl))
  f337 := Tryz.func214.trans (congrArg some (by kernel_rfl))
  f338 := Tryz.func215.trans (congrArg some (by kernel_rfl))
  t0 := Tryz.underlying0
  a0 := Tryz.isAgg0
  z0 := Tryz.sizeOf0
  v0 := Tryz.zeroValue0
  t2 := Tryz.underlying2
  a2 := Tryz.isAgg2
  z2 := Tryz.sizeOf2
  v2 := Tryz.zeroValue2
  t3 := Tryz.underlying3
  a3 := Tryz.isAgg3
  z3 := Tryz.sizeOf3
  v3 := Tryz.zeroValue3
  t4 := Tryz.underlying4
  a4 := Tryz.isAgg4
  z4 := Tryz.sizeOf4
  v4 := Tryz.zeroValue4
  t5 := Tryz.underlying5
  a5 := Tryz.isAgg5
  z5 := Tryz.sizeOf5
  v5 := Tryz.zeroValue5
  t9 := Tryz.underlying9
  a9 := Tryz.isAgg9
  z9 := Tryz.sizeOf9
  v9 := Tryz.zeroValue9
  t20 := Tryz.underlying20
  a20 := Tryz.isAgg20
  z20 := Tryz.sizeOf20
  v20 := Tryz.zeroValue20
  t37 := Tryz.underlying228
  a37 := Tryz.isAgg228
  z37 := Tryz.sizeOf228
  v37 := Tryz.zeroValue228
  t46 := Tryz.underlying339
  a46 := Tryz.isAgg339
  z46 := Tryz.sizeOf339
  v46 := Tryz.zeroValue339
  t51 := Tryz.underlying340
  a51 := Tryz.isAgg340
  z51 := Tryz.sizeOf340
  v51 := Tryz.zeroValue340
  t53 := Tryz.underlying227
  a53 := Tryz.isAgg227
  z53 := Tryz.sizeOf227
  v53 := Tryz.zeroValue227
  t171 := Tryz.underlying271
  a171 := Tryz.isAgg271
  z171 := Tryz.sizeOf271
  v171 := Tryz.zeroValue271
  t173 := Tryz.underlying274
  a173 := Tryz.isAgg274
  z173 := Tryz.sizeOf274
  v173 := Tryz.zeroValue274
  t212 := Tryz.underlying347
  a212 := Tryz.isAgg347
  z212 := Tryz.sizeOf347
  v212 := Tryz.zeroValue347
  t213 := Tryz.underlying348
  a213 := Tryz.isAgg348
  z213 := Tryz.sizeOf348
  t232 := Tryz.underlying370
  a232 := Tryz.isAgg370
  z232 := Tryz.sizeOf370
  v232 := Tryz.zeroValue370
  t233 := Tryz.underlying371
  a233 := Tryz.isAgg371
  z233 := Tryz.sizeOf371
  v233 := Tryz.zeroValue371
  g17 := by kernel_rfl
  g18 := by kernel_rfl
  g19 := by kernel_rfl
  i0 := by kernel_rfl
  i2 := by kernel_rfl
  i3 := by kernel_rfl
  i4 := by kernel_rfl
  i5 := by kernel_rfl
  i9 := by kernel_rfl
  i20 := by kernel_rfl
  i37 := by kernel_rfl
  i46 := by kernel_rfl
  i51 := by kernel_rfl
  i53 := by kernel_rfl
  i171 := by kernel_rfl
  i173 := by kernel_rfl
  i212 := by kernel_rfl
  i232 := by kernel_rfl
  i233 := by kernel_rfl
  m17 := by kernel_rfl
  m18 := by kernel_rfl
  m19 := by kernel_rfl }
open Go.RowKit Go.Sort Go.Lib in
theorem Tryz.internal_strconv_FormatInt_10 (n : Int) (h0 : -9223372036854775808 ≤ n) (h1 : n ≤ 9223372036854775807) (w : World) (htab : Lib.TabIs Tryz.prog w "internal/strconv.uint64pow10" .u64 Lib.pow10Tab) :
    Calls Tryz.prog 145 #[.int .i64 n, .int .i64 10] w fun e w' => e = .returned (.string ⟨(Lib.itoa n).toArray⟩) ∧ ∃ k os, w' = grow (w.drewN k) os := Any.internal_strconv_FormatInt_10 Tryz.laysM246 n h0 h1 w htab
end Go.Proofs
end
section
namespace Go.Proofs.YtodjijfblgnfmaaGreatDoor
open Go.Vc Go.Proofs Go.Vc.Bt
variable {w w' : World} {K : KV} {Kp : KP} {n : Int}
def Tab (w : World) : Prop := Lib.TabIs Tryz.prog w "internal/strconv.uint64pow10" .u64 Lib.pow10Tab
theorem Tab.still (h : Tab w) (hf : Frm (fun _ => False) w w') : Tab w' := by
  unfold Tab Lib.TabIs World.var? at *
  cases hg : Tryz.prog.globalNamed "internal/strconv.uint64pow10" with
  | none => rw [hg] at h; cases h
  | some g =>
    rw [hg] at h
    simp only [Option.bind_some] at h ⊢
    cases hb : w.heap[g]? with
    | none => rw [hb] at h; cases h
    | some o =>
      rw [hb] at h
      cases o with
      | cells cs e fz => rw [hf.get hb fun h => h]; exact h
      | _ => cases h
theorem frm_grow {os : Array Obj} {k : Nat} : Frm (fun _ => False) w (Go.Sort.grow (w.drewN k) os) :=
  ⟨rfl, rfl, rfl, by show w.heap.size ≤ (w.heap ++ os).size; simp, fun j hj _ => by show (w.heap ++ os)[j]? = w.heap[j]?; rw [Array.getElem?_append_left hj]⟩
theorem dec_len : ∀ (k u : Nat), u < 10 ^ (k + 1) → (Lib.decDigits u).length ≤ k + 1
  | k, u, hu => by
    rw [Lib.decDigits]
    split
    · simp
    · rename_i h
      cases k with
      | zero => simp at hu; omega
      | succ k =>
        have := dec_len k (u / 10) (by rw [Nat.pow_succ] at hu; omega)
        rw [List.length_append, List.length_singleton]; omega
theorem decI_len (h1 : -9223372036854775808 ≤ n) (h2 : n ≤ 9223372036854775807) : (decI n).size ≤ 21 := by
  have e : (10 : Nat) ^ (19 + 1) = 100000000000000000000 := by decide
  unfold decI Lib.itoa
  show ((if n < 0 then 45 :: Lib.decDigits n.natAbs else Lib.decDigits n.toNat).toArray).size ≤ 21
  rw [List.size_toArray]
  split
  · have := dec_len 19 n.natAbs (by omega)
    rw [List.length_cons]; omega
  · have := dec_len 19 n.toNat (by omega)
    omega
theorem format_ok (ht : Tab w) (h1 : -9223372036854775808 ≤ n) (h2 : n ≤ 9223372036854775807) (hK : ∀ w', Frm (fun _ => False) w w' → K (.string (decI n)) w') : Calls Tryz.prog 77 #[.int .i64 n, .int .i64 10] w (ret K Kp) := by
  refine vc77_calls ?_
  delta vc77
  simp only [call_145]
  refine calls_of (Tryz.internal_strconv_FormatInt_10 n h1 h2 w ht) fun e w' h => ?_
  obtain ⟨rfl, k, os, rfl⟩ := h
  exact hK _ frm_grow
theorem many_text (w0 : World) (ht : Tab w0) : T.ManyOk w0 := fun {s i w K Kp} hs hf hK => by
  refine vc76_calls ?_
  delta vc76
  refine op_box_ok fun w1 k1 z1 b1 => ?_
  simp only [cells_agg, SSt.cells] at b1
  simp [-getElem?_pos, -Array.getElem?_eq_getElem, -Int.natCast_add, b1]
  have hw : ∀ x : Int, -9223372036854775808 ≤ IntKind.i64.wrap x ∧ IntKind.i64.wrap x ≤ 9223372036854775807 := fun x => by rw [IntKind.wrap_i64]; omega
  refine format_ok (ht.still (hf.no (k1.no (Frm.drew _)))) (hw _).1 (hw _).2 fun w2 k2 => ?_
  have k2 := Frm.dr k2
  have b2 := k2.get b1 fun h => h
  simp [-getElem?_pos, -Array.getElem?_eq_getElem, -Int.natCast_add, b2, pur_add_s]
  have hsz : (s.text ++ decI (IntKind.i64.wrap (s.key + IntKind.i64.wrap ((i : Int) * s.by')))).size ≤ 200 := by
    rw [ByteArray.size_append]
    have := decI_len (hw (s.key + IntKind.i64.wrap ((i : Int) * s.by'))).1 (hw _).2
    omega
  have hsz2 := decI_len (hw (s.key + IntKind.i64.wrap ((i : Int) * s.by'))).1 (hw _).2
  refine ⟨by omega, ?_⟩
  have := hK w2 (k1.no k2)
  rw [show T.ek (T.kd.many s i) = .string (T.kd.many s i).1 from rfl, show (T.kd.many s i).1 = s.text ++ decI (IntKind.i64.wrap (s.key + IntKind.i64.wrap ((i : Int) * s.by'))) from T.tk_val (by omega)] at this
  exact this
end Go.Proofs.YtodjijfblgnfmaaGreatDoor
end
section
namespace Go.Proofs.YtodjijfblgnfmaaGreatDoor
open Go.Vc Go.Proofs Go.Vc.Bt Go.ChangeShapes Go.WideShapes Go.ChangeAt Go.RowKit
variable {H : Type} {enc : TypeId × Value → H} {W : World}
theorem sst_of {n : Nat} {cs : List Value} {x : DataW H × List MemPlace} (hl : cs.length = 7) (h : DataW.trod enc Tryz.prog W 0 (fun _ => true) true n 64 cs = some x) : ∃ s : SSt, cs = s.cells := by
  match cs, hl, h with
  | [u0, u1, u2, u3, u4, u5, u6], _, h =>
    have hu := Tryz.underlying64
    obtain ⟨n0, y0, z0⟩ := open_fields hu h (i := 0) rfl rfl (by kernel_rfl) (by simp)
    obtain ⟨n1, y1, z1⟩ := open_fields hu h (i := 1) rfl rfl (by kernel_rfl) (by simp)
    obtain ⟨n2, y2, z2⟩ := open_fields hu h (i := 2) rfl rfl (by kernel_rfl) (by simp)
    obtain ⟨n3, y3, z3⟩ := open_fields hu h (i := 3) rfl rfl (by kernel_rfl) (by simp)
    obtain ⟨n4, y4, z4⟩ := open_fields hu h (i := 4) rfl rfl (by kernel_rfl) (by simp)
    obtain ⟨n5, y5, z5⟩ := open_fields hu h (i := 5) rfl rfl (by kernel_rfl) (by simp)
    obtain ⟨n6, y6, z6⟩ := open_fields hu h (i := 6) rfl rfl (by kernel_rfl) (by simp)
    obtain ⟨m0, e0, l0, _⟩ := field_int Tryz.underlying5 z0
    obtain ⟨m1, e1, _⟩ := field_int Tryz.underlying3 z1
    obtain ⟨m2, e2, _⟩ := field_int Tryz.underlying2 z2
    obtain ⟨m3, e3, _⟩ := DataW.trod_string Tryz.underlying9 z3
    obtain ⟨m4, e4, _⟩ := field_int Tryz.underlying2 z4
    obtain ⟨m5, e5, _⟩ := field_int Tryz.underlying3 z5
    obtain ⟨m6, e6, _⟩ := field_int Tryz.underlying2 z6
    have h0 : (m0.toNat : Int) = m0 := Int.toNat_of_nonneg l0
    refine ⟨⟨m0.toNat, m1, m2, m3, m4, m5, m6⟩, ?_⟩
    simp only [List.getElem_cons_zero, List.getElem_cons_succ] at e0 e1 e2 e3 e4 e5 e6
    obtain ⟨rfl, _⟩ := List.cons.inj e3
    simp only [SSt.cells, h0, e0, e1, e2, e4, e5, e6]
theorem open_steps {base : Nat} {v : Value} {d : DataW H} {ps : List MemPlace} (hok : Value.okWide Tryz.prog W .any base 24 v) (h : DataW.Trod enc Tryz.prog W 0 (fun _ => true) true 24 v d ps) :
    ∃ (a : Option Addr) (cap : Nat) (xs : List SSt), v = .slice a xs.length cap ∧ xs.length ≤ cap ∧ cap ≤ maxLen ∧ (a = none → xs.length = 0) ∧ Row W a (xs.flatMap SSt.cells) := by
  obtain ⟨a, len, cap, f, rfl, h1, h2, h3, h4, h6, h7, h8⟩ := open_rows Tryz.underlying24 (c := 7) (by kernel_rfl) (by decide) hok h
  obtain ⟨xs, rfl, hr⟩ := rows_of (c := SSt.cells) ⟨0, 0, 0, ⟨#[]⟩, 0, 0, 0⟩ h6 fun i hi => by
    obtain ⟨n, x, hx⟩ := h8 i hi
    exact sst_of (h7 i) hx
  exact ⟨a, cap, xs, rfl, h1, h2, h3, hr⟩
theorem tab_of_laid (h : laidMetH Tryz.prog laid3 W) : Tab W := by
  rw [Go.MakeChecks.laidMetH_plain _ _ _ (by kernel_rfl)] at h
  obtain ⟨ps, ⟨g0, t0, cs0, f0, p0, q0, _, _, _, _, ⟨g1, t1, cs1, f1, p1, q1, _, _, _, _, ⟨g, t, cs, fuel, p, q, hg, ht, hvar, hd, _, _⟩, _⟩, _⟩, _⟩ := h
  have hg' : Tryz.prog.globalNamed "internal/strconv.uint64pow10" = some 0 := by kernel_rfl
  have ht' : (Tryz.prog.globals[0]?).map (·.type) = some 347 := by kernel_rfl
  obtain rfl := Option.some.inj (hg'.symm.trans hg)
  obtain rfl := Option.some.inj (ht'.symm.trans ht)
  have hdat : (Rows.laid_internal_strconv_uint64pow10 : DataW Unit) = Lib.tabData .u64 Lib.pow10Tab := by kernel_rfl
  rw [hdat] at hd
  unfold Tab Lib.TabIs
  rw [hvar, ← Lib.cells_of_tab (n := 20) (e := 227) (by kernel_rfl) (by kernel_rfl) (by kernel_rfl) (by kernel_rfl) hd]
end Go.Proofs.YtodjijfblgnfmaaGreatDoor
end
section
namespace Go.Vc
variable {P : Program} {w w' : World} {K : Value → World → Prop} {Kp : KP} {e : TypeId} {k : Nat}
theorem wrap_small64 {n : Int} (h0 : 0 ≤ n) (h1 : n < 9223372036854775808) : IntKind.i64.wrap n = n := by rw [IntKind.wrap_i64]; omega
theorem conv_ok {α : Type} {f : α → List Value} {tin tel tout e s : TypeId} {bytes : Nat} {z : Value} (hk : ∀ x, (f x).length = k) (hk0 : 0 < k) (hone : ∀ x, ∀ u ∈ f x, u.oneCell' = true) (hin : sliceOf P tin = some (e, k)) (hkd : kd P tin = .slice) (hel : ldk P tel = some (.agg k))
    (hz : zeroOf P tel = some z) (hzk : z.cells.size = k) (ha : apOf P tout = some (s, k, bytes)) (hl : ∀ x, sliceLit P tout 1 [(0, .agg (f x).toArray)] = some (s, (f x).toArray)) {a : Option Addr} {c : Nat} {xs : List α} (h : Row w a (xs.flatMap f)) (hn : (xs.length + 1) * (bytes + 1) ≤ 140737488355328)
    (hK : ∀ l w', Frm (fun _ => False) w w' → RowsOf (Flat f) w' w.heap.size s k l xs (fun _ => False) → K l w') :
    (nice P).op (.blt .len [tin] 3 [.slice a xs.length c]) w (fun v7 w =>
    Lp fun (I3 : Value → Value → World → Prop) (μ3 : Value → Value → World → Nat) => I3 (Value.slice none 0 0) (Value.int IntKind.i64 0) w ∧
    ∀ (wl3 : World) (junk : Nat → Value) (s3_out : Value) (s8_ : Value), I3 s3_out s8_ wl3 →
      (nice P).op (.bin BinOp.lss 3 false false s8_ v7) wl3 (fun v9 w =>
      Br v9 (
        (nice P).op (.indexAddr tin (.slice a xs.length c) s8_) w (fun v10 w =>
        (nice P).op (.load tel v10) w (fun v11 w =>
        (nice P).op (.alloc tel) w (fun v5_p w =>
        (nice P).op (.store tel v5_p v11) w (fun _ w =>
        (nice P).op (.load tel v5_p) w (fun v13 w =>
        (nice P).op (.buildSlice tout 1 [(0, v13)]) w (fun v14 w =>
        (nice P).op (.blt Builtin.append [tout, tout] tout [s3_out, v14]) w (fun v15 w =>
        (nice P).op (.bin BinOp.add 3 false true s8_ (Value.int IntKind.i64 1)) w (fun v16 w =>
        I3 v15 v16 w ∧ μ3 v15 v16 w < μ3 s3_out s8_ wl3) Kp) Kp) Kp) Kp) Kp) Kp) Kp) Kp) (
        K s3_out w)) Kp) Kp := by
  have hb0 : 0 < bytes + 1 := by omega
  have hmax : xs.length + 1 ≤ 140737488355328 := Nat.le_trans (Nat.le_mul_of_pos_right _ hb0) hn
  rw [op_len_slice hkd]
  obtain ⟨I, hI⟩ : ∃ I : Value → Value → World → Prop, ∀ l v wl, I l v wl ↔ ∃ i : Nat, v = .int .i64 i ∧ i ≤ xs.length ∧ Frm (fun _ => False) w wl ∧ RowsOf (Flat f) wl w.heap.size s k l (xs.take i) (fun _ => False) := ⟨_, fun _ _ _ => Iff.rfl⟩
  refine Lp.intro I (fun _ v _ => xs.length - (match v with | .int _ j => j.toNat | _ => 0)) ⟨(hI _ _ _).2 ⟨0, rfl, by omega, Frm.refl, rows_nil⟩, ?_⟩
  intro wl _ l v hl'
  obtain ⟨i, rfl, hi, kl, hR⟩ := (hI _ _ _).1 hl'
  simp only [op_lss, Br_dec]
  refine ⟨fun hlt => ?_, fun hge => ?_⟩
  · have hi' : i < xs.length := by omega
    obtain ⟨b, o, cs, e', fz, rfl, hcs, hsz, hext⟩ := (h.frame kl fun _ _ h => h).part hk hk0 hi'
    rw [op_ix_slice hin]
    refine ⟨⟨by omega, by omega⟩, ?_⟩
    rw [add_spot rfl, op_ldn hel]
    simp only [Int.toNat_natCast]
    refine ⟨cs, e', fz, hcs, by first | rfl | trivial, hsz, ?_⟩
    show (nice P).op (.alloc tel) wl _ Kp
    rw [hext]
    refine op_alloc_ok hz fun w1 k1 z1 b1 => ?_
    refine op_storeN_ok (n := k) hel b1 (by simp [hk]) (by rw [hzk]; omega) (fun u hu => hone _ u (by simpa using hu)) fun w2 k2 z2 b2 => ?_
    have hb2 : w2.heap[wl.heap.size]? = some (.cells (f xs[i]).toArray tel (0, 0)) := by
      rw [ow_all (by simp [hk, hzk])] at b2; exact b2
    rw [op_ldn hel]
    refine ⟨_, _, _, hb2, rfl, by simp [hk], ?_⟩
    have hx : (f xs[i]).toArray.extract 0 (0 + k) = (f xs[i]).toArray := extract_self (by simp [hk])
    rw [hx]
    have k12 : Frm (fun _ => False) wl w2 := k1.old k2 fun c hc => .inr (by omega)
    have hR2 := hR.still (flat_ok f) k12
    have hlow := hR.own_lt
    have htl : (xs.take i).length = i := by simp; omega
    have hmul : (i + 1) * (bytes + 1) ≤ (xs.length + 1) * (bytes + 1) := Nat.mul_le_mul_right _ (by omega)
    refine op_push (flat_ok f) ha (hl _) (hk _) (hone _) hR2 rfl (G2 := fun _ => False) (fun _ h => h.elim) (fun _ _ h => h) (by rw [htl]; omega) (by have := kl.size; have := k12.size; omega) fun l' w3 k3 hR3 ho3 => ?_
    rw [op_add, wrap_small64 (by omega) (by omega)]
    have hlow2 := hR2.own_lt
    refine ⟨(hI _ _ _).2 ⟨i + 1, by simp, by omega, (kl.no k12).old k3 fun c hc => .inr (by have := hlow2 c hc.symm; omega), ?_⟩, ?_⟩
    · rw [List.take_succ_eq_append_getElem hi']
      exact hR3.mono (flat_ok f) (fun c h => h.elim (fun h => h) fun h => h) (fun _ h => h.elim) fun _ _ h => h
    · have : ((i : Int) + 1).toNat = i + 1 := by omega
      simp only [Int.toNat_natCast, this]; omega
  · have : i = xs.length := by omega
    subst this
    rw [List.take_length] at hR
    exact hK l wl kl hR
end Go.Vc
namespace Go.Vc
section
variable {P : Program} {w : World} {K : Value → World → Prop} {K1 : Value → Prop} {Kp : KP} {a b c d e : Value}
@[simp] theorem pur_ext4_0 : (nice P).pur (.extract (.tuple #[a, b, c, d]) 0) K1 = K1 a := pur_ext rfl
@[simp] theorem pur_ext4_1 : (nice P).pur (.extract (.tuple #[a, b, c, d]) 1) K1 = K1 b := pur_ext rfl
@[simp] theorem pur_ext4_2 : (nice P).pur (.extract (.tuple #[a, b, c, d]) 2) K1 = K1 c := pur_ext rfl
@[simp] theorem pur_ext4_3 : (nice P).pur (.extract (.tuple #[a, b, c, d]) 3) K1 = K1 d := pur_ext rfl
@[simp] theorem pur_ext5_0 : (nice P).pur (.extract (.tuple #[a, b, c, d, e]) 0) K1 = K1 a := pur_ext rfl
@[simp] theorem pur_ext5_1 : (nice P).pur (.extract (.tuple #[a, b, c, d, e]) 1) K1 = K1 b := pur_ext rfl
@[simp] theorem pur_ext5_2 : (nice P).pur (.extract (.tuple #[a, b, c, d, e]) 2) K1 = K1 c := pur_ext rfl
@[simp] theorem pur_ext5_3 : (nice P).pur (.extract (.tuple #[a, b, c, d, e]) 3) K1 = K1 d := pur_ext rfl
@[simp] theorem pur_ext5_4 : (nice P).pur (.extract (.tuple #[a, b, c, d, e]) 4) K1 = K1 e := pur_ext rfl
@[simp] theorem op_ext4_0 : (nice P).op (.extract (.tuple #[a, b, c, d]) 0) w K Kp = K a w := op_ext rfl
@[simp] theorem op_ext4_1 : (nice P).op (.extract (.tuple #[a, b, c, d]) 1) w K Kp = K b w := op_ext rfl
@[simp] theorem op_ext4_2 : (nice P).op (.extract (.tuple #[a, b, c, d]) 2) w K Kp = K c w := op_ext rfl
@[simp] theorem op_ext4_3 : (nice P).op (.extract (.tuple #[a, b, c, d]) 3) w K Kp = K d w := op_ext rfl
@[simp] theorem op_ext5_0 : (nice P).op (.extract (.tuple #[a, b, c, d, e]) 0) w K Kp = K a w := op_ext rfl
@[simp] theorem op_ext5_1 : (nice P).op (.extract (.tuple #[a, b, c, d, e]) 1) w K Kp = K b w := op_ext rfl
@[simp] theorem op_ext5_2 : (nice P).op (.extract (.tuple #[a, b, c, d, e]) 2) w K Kp = K c w := op_ext rfl
@[simp] theorem op_ext5_3 : (nice P).op (.extract (.tuple #[a, b, c, d, e]) 3) w K Kp = K d w := op_ext rfl
@[simp] theorem op_ext5_4 : (nice P).op (.extract (.tuple #[a, b, c, d, e]) 4) w K Kp = K e w := op_ext rfl
end
end Go.Vc
end
section
namespace Go.Vc
variable {P : Program} {w w' : World} {K : Value → World → Prop} {Kp : KP} {t e tin tel : TypeId} {s base g c : Nat} {α : Type} {f : α → List Value} {ys : List α} {l : Value}
theorem lw_flat (hf : ∀ x, (f x).length = s) : ∀ (ys : List α) (j : Nat) (y : α), j < ys.length → lw (ys.map f).flatten (j * s) (f y) = ((ys.set j y).map f).flatten
  | [], j, y, h => by simp at h
  | x :: ys, 0, y, _ => by
    simp only [List.map_cons, List.flatten_cons, List.set_cons_zero, Nat.zero_mul, lw, List.take_zero, List.nil_append, Nat.zero_add]
    rw [hf y, ← hf x, List.drop_left]
  | x :: ys, j + 1, y, h => by
    have ih := lw_flat hf ys j y (by simpa using h)
    simp only [lw] at ih ⊢
    have e1 : (j + 1) * s = (f x).length + j * s := by rw [hf, Nat.add_mul]; omega
    simp only [List.map_cons, List.flatten_cons, List.set_cons_succ]
    rw [e1, List.take_length_add_append, Nat.add_assoc, List.drop_length_add_append, ← ih]
    simp
theorem op_store_frow {j : Nat} {y : α} (hel : ldk P tel = some (.agg s)) (hf : ∀ x, (f x).length = s) (hone : ∀ x, ∀ u ∈ f x, u.oneCell' = true) (hR : FRow f w base e s (.slice (some ⟨g, 0, none⟩) ys.length c) ys) (hj : j < ys.length)
    (hK : ∀ w', Frm (· = g) w w' → w'.heap.size = w.heap.size → FRow f w' base e s (.slice (some ⟨g, 0, none⟩) ys.length c) (ys.set j y) → K undef w') : (nice P).op (.store tel (.pointer (some ⟨g, j * s, none⟩)) (.agg (f y).toArray)) w K Kp := by
  obtain ⟨⟨us, h1, h3, h4, h5⟩, h6, h7⟩ := hR
  have hus : us = ys.map f := by
    apply List.ext_getElem?
    intro i
    by_cases hi : i < us.length
    · rw [List.getElem?_eq_getElem hi, List.getElem?_map, List.getElem?_eq_getElem (by omega)]
      have := h5 i us[i] (ys[i]'(by omega)) (List.getElem?_eq_getElem _) (List.getElem?_eq_getElem _)
      rw [this]; rfl
    · rw [List.getElem?_eq_none (by omega), List.getElem?_eq_none (by simp; omega)]
  subst hus
  obtain ⟨g', cap', hv, hc, hrw, hb⟩ := Rw.of_own (n := ys.length) (own_base h4 (Nat.zero_le _)) (by omega)
  cases hv
  have hlow := Go.Vc.own_lt h4 g rfl
  have hle : (j + 1) * s ≤ ys.length * s := Nat.mul_le_mul_right _ hj
  rw [Nat.add_mul, Nat.one_mul] at hle
  have hfl := h4.1
  refine op_storeRN (n := s) hel (by simp [hf]) hrw (by omega) (fun u hu => hone y u (by simpa using hu)) fun w' k' z' hrw' => ?_
  have e1 := lw_flat hf ys j y hj
  rw [List.toList_toArray, e1] at hrw'
  refine hK w' k' z' ⟨⟨(ys.set j y).map f, by simp, fun u hu => by obtain ⟨x, _, rfl⟩ := List.mem_map.1 hu; exact hf x, ?_, fun i u y' hu hy => ?_⟩, fun _ h => h.elim, fun _ _ h => h⟩
  · rw [List.length_set]
    have hn : ((ys.set j y).map f).flatten.length = ys.length * s := by
      rw [flatten_len (k := s) fun u hu => by obtain ⟨x, _, rfl⟩ := List.mem_map.1 hu; exact hf x]; simp
    obtain ⟨q1, ⟨_, q2⟩ | ⟨g2, cap2, cur2, q2, q3, q4⟩⟩ := hrw'.own hn hc
    · omega
    · cases q2
      exact ⟨q1, .inr ⟨g, c, cur2, rfl, hlow.1, q4⟩⟩
  · rw [List.getElem?_map, hy] at hu
    exact (Option.some.inj hu).symm
end Go.Vc
namespace Go.Vc
variable {P : Program} {w w' : World} {K : Value → World → Prop} {K1 : Value → Prop} {Kp : KP} {t e : TypeId} {s base : Nat} {α : Type} {f : α → List Value} {xs : List α} {v : Value}
theorem row_off {w : World} {b o : Nat} {A B : List Value} (h : Row w (some ⟨b, o, none⟩) (A ++ B)) : Row w (some ⟨b, o + A.length, none⟩) B := by
  rcases h with h | ⟨b', o', cs, e, fz, h1, h2, h3⟩
  · exact .inl (List.append_eq_nil_iff.1 h).2
  · cases h1
    refine .inr ⟨b, o + A.length, cs, e, fz, rfl, h2, fun j u hj => ?_⟩
    have := h3 (A.length + j) u (by rw [List.getElem?_append_right (by omega)]; simpa using hj)
    rw [Nat.add_assoc]; exact this
theorem cut_lo {k : IntKind} {i : Nat} (h : sliceOf P t = some (e, s)) (hf : ∀ x, (f x).length = s) (hi : i ≤ xs.length) (hs : IsSl w v xs.length (xs.flatMap f)) (h0s : 0 < s)
    (hK : ∀ v', IsSl w v' (xs.drop i).length ((xs.drop i).flatMap f) → K1 v') : (nice P).pur (.slice t v (some (.int k (i : Int))) none none) K1 := by
  obtain ⟨a, c, rfl, hc, hm, hr, hn⟩ := hs
  have hx : xs.flatMap f = (xs.take i).flatMap f ++ (xs.drop i).flatMap f := by rw [← List.flatMap_append, List.take_append_drop]
  have hlen : ((xs.take i).flatMap f).length = i * s := by rw [flatMap_len hf, List.length_take, Nat.min_eq_left hi]
  by_cases hx0 : xs = []
  · subst hx0
    have hi0 : i = 0 := by simpa using hi
    subst hi0
    rw [pur_of (c := (0 : Int) ≤ 0 ∧ (0 : Int) ≤ 0 ∧ (0 : Int) ≤ (c : Int)) (v := .slice (if c = 0 then a else a.map (·.add (0 * s))) 0 c)]
    · exact ⟨by omega, hK _ ⟨_, c, rfl, by simp, hm, .inl rfl, fun _ => rfl⟩⟩
    · simp only [pv, h, cutV, lowV, upV]
      simp
  · have hx1 : xs.flatMap f ≠ [] := fun h0 => by
      have := congrArg List.length h0
      rw [flatMap_len hf] at this
      have h3 : 0 < xs.length := List.length_pos_iff.2 hx0
      have := Nat.mul_pos h3 h0s
      simp_all
    obtain ⟨b, o, rfl⟩ : ∃ b o, a = some ⟨b, o, none⟩ := by
      rcases hr with h | ⟨b, o, _, _, _, h, _⟩
      · exact absurd h hx1
      · exact ⟨b, o, h⟩
    rw [pur_cut_lo h]
    refine ⟨⟨by omega, by omega, by omega⟩, hK _ ?_⟩
    simp only [Int.toNat_natCast, List.length_drop]
    rw [hx] at hr
    refine ⟨_, _, rfl, Nat.sub_le_sub_right hc i, Nat.le_trans (Nat.sub_le c i) hm, ?_, fun hz => by split at hz <;> cases hz⟩
    by_cases he : c = i
    · rw [if_pos he]
      have : xs.drop i = [] := by rw [List.drop_eq_nil_iff]; omega
      rw [this]; exact .inl rfl
    · rw [if_neg he]
      have := row_off hr
      rwa [hlen] at this
theorem IsSl.old {M : Nat → Prop} {n : Nat} {vs : List Value} (h : IsSl w v n vs) (hf : Frm M w w') (hM : ∀ b, M b → w.heap.size ≤ b) : IsSl w' v n vs := by
  obtain ⟨a, c, rfl, hc, hm, hr, hn⟩ := h
  exact ⟨a, c, rfl, hc, hm, hr.old hf hM, hn⟩
theorem op_row0 {bytes : Nat} (ha : apOf P t = some (e, s, bytes)) (hl : sliceLit P t 0 [] = some (e, #[])) (hbase : base ≤ w.heap.size) (hK : ∀ l' w', Frm (fun _ => False) w w' → FRow f w' base e s l' [] → l'.ownBlock = some w.heap.size → K l' w') : (nice P).op (.buildSlice t 0 []) w K Kp := by
  refine op_lit_ok hl fun w1 k1 z1 b1 => ?_
  have hr : Rw w1 e s w.heap.size 0 [] := ⟨_, b1, by simp, by simp, by simp, by simp [maxLen]⟩
  refine hK _ w1 k1 ⟨⟨[], rfl, by simp, ?_, fun j u y hu => by simp at hu⟩, fun _ h => h.elim, fun _ _ h => h⟩ rfl
  obtain ⟨h1, ⟨h2, _⟩ | ⟨g, cap, cur, h2, h3, h4⟩⟩ := hr.own (n := 0) (by simp) (Nat.le_refl _)
  · cases h2
  · cases h2
    exact ⟨h1, .inr ⟨_, _, cur, rfl, hbase, h4⟩⟩
end Go.Vc
end
section
namespace Go.Vc
variable {P : Program} {w w' : World} {K : Value → World → Prop} {Kp : KP} {t e : TypeId} {s base : Nat} {α : Type} {f : α → List Value} {ys zs : List α} {l v2 : Value}
theorem op_concatF {bytes : Nat} (ha : apOf P t = some (e, s, bytes)) (hf : ∀ x, (f x).length = s) (hone : ∀ x, ∀ u ∈ f x, u.oneCell' = true) (hR : FRow f w base e s l ys) (h2 : IsSl w v2 zs.length (zs.flatMap f))
    (h63 : (ys.length + zs.length) * (bytes + 1) ≤ 140737488355328) (hbase : base ≤ w.heap.size)
    (hK : ∀ l' w', Frm (fun b => some b = l.ownBlock) w w' → FRow f w' base e s l' (ys ++ zs) → (l'.ownBlock = l.ownBlock ∨ ∃ b, l'.ownBlock = some b ∧ w.heap.size ≤ b) → K l' w') : (nice P).op (.blt .append [t, t] t [l, v2]) w K Kp := by
  obtain ⟨⟨us, h1, h3, h4, h5⟩, h6, h7⟩ := hR
  obtain ⟨a, c, rfl, hc, hm, hr, hn⟩ := h2
  refine op_append (base := base) (n := ys.length) (m := zs.length) ha h4 hr (flatMap_len hf zs) (fun u hu => by obtain ⟨x, _, hx⟩ := List.mem_flatMap.1 hu; exact hone x u hx) hn h63 hbase fun l' w' ho hfr hb => ?_
  have hus : us = ys.map f := by
    apply List.ext_getElem?
    intro j
    by_cases hj : j < us.length
    · rw [List.getElem?_eq_getElem hj, List.getElem?_map, List.getElem?_eq_getElem (by omega)]
      have := h5 j us[j] (ys[j]'(by omega)) (List.getElem?_eq_getElem _) (List.getElem?_eq_getElem _)
      rw [this]; rfl
    · rw [List.getElem?_eq_none (by omega), List.getElem?_eq_none (by simp; omega)]
  refine hK l' w' hfr ⟨⟨(ys ++ zs).map f, by simp, fun u hu => by obtain ⟨x, _, rfl⟩ := List.mem_map.1 hu; exact hf x, ?_, fun j u y hu hy => ?_⟩, fun _ h => h.elim, fun _ _ h => h⟩ ?_
  · rw [List.length_append]
    rw [hus] at ho
    have e1 : ((ys ++ zs).map f).flatten = (ys.map f).flatten ++ zs.flatMap f := by simp [List.flatMap_def]
    rw [e1]; exact ho
  · rw [List.getElem?_map, hy] at hu
    exact (Option.some.inj hu).symm
  · rcases hb with h | h
    · exact .inl h
    · exact .inr ⟨_, h, Nat.le_refl _⟩
end Go.Vc
end
section
namespace Go.Vc
variable {P : Program} {w w' : World} {K : Value → World → Prop} {K1 : Value → Prop} {Kp : KP} {t e : TypeId} {s base g c : Nat} {α : Type} {f : α → List Value} {ys : List α} {l : Value}
theorem FRow.flatten (h : FRow f w base e s l ys) : w.ownsRow base e s l ys.length (ys.flatMap f) := by
  obtain ⟨⟨us, h1, h3, h4, h5⟩, h6, h7⟩ := h
  have hus : us = ys.map f := by
    apply List.ext_getElem?
    intro i
    by_cases hi : i < us.length
    · rw [List.getElem?_eq_getElem hi, List.getElem?_map, List.getElem?_eq_getElem (by omega)]
      have := h5 i us[i] (ys[i]'(by omega)) (List.getElem?_eq_getElem _) (List.getElem?_eq_getElem _)
      rw [this]; rfl
    · rw [List.getElem?_eq_none (by omega), List.getElem?_eq_none (by simp; omega)]
  subst hus
  rw [List.flatMap_def]; exact h4
theorem FRow.of_flat (hf : ∀ x, (f x).length = s) (h : w.ownsRow base e s l ys.length (ys.flatMap f)) : FRow f w base e s l ys :=
  ⟨⟨ys.map f, by simp, fun u hu => by obtain ⟨x, _, rfl⟩ := List.mem_map.1 hu; exact hf x, by rw [List.flatMap_def] at h; exact h, fun i u y' hu hy => by
    rw [List.getElem?_map, hy] at hu
    exact (Option.some.inj hu).symm⟩, fun _ h => h.elim, fun _ _ h => h⟩
theorem FRow.rw' (h : FRow f w base e s l ys) (hn : 0 < ys.length) : ∃ g cap, l = .slice (some ⟨g, 0, none⟩) ys.length cap ∧ base ≤ g ∧ g < w.heap.size ∧ ys.length ≤ cap ∧ Rw w e s g cap (ys.flatMap f) := by
  have ho := h.flatten
  obtain ⟨g, cap, rfl, h1, h2, h3⟩ := Rw.of_own (own_base ho (Nat.zero_le _)) hn
  have := h.own_lt g h3
  exact ⟨g, cap, rfl, this.1, this.2, h1, h2⟩
theorem FRow.of_rw (hf : ∀ x, (f x).length = s) (h : Rw w e s g c (ys.flatMap f)) (hb : base ≤ g) (hc : ys.length ≤ c) : FRow f w base e s (.slice (some ⟨g, 0, none⟩) ys.length c) ys := by
  refine FRow.of_flat hf ?_
  obtain ⟨q1, ⟨q2, q3⟩ | ⟨g2, cap2, cur2, q2, q3, q4⟩⟩ := h.own (flatMap_len hf ys) hc
  · cases q2
  · cases q2
    exact ⟨q1, .inr ⟨g, c, cur2, rfl, hb, q4⟩⟩
theorem flatMap_take (hf : ∀ x, (f x).length = s) (i : Nat) : ∀ ys : List α, (ys.take i).flatMap f = (ys.flatMap f).take (i * s) := by
  induction i with
  | zero => intro ys; simp
  | succ i ih =>
    intro ys
    cases ys with
    | nil => simp
    | cons y ys =>
      rw [List.take_succ_cons, List.flatMap_cons, List.flatMap_cons, ih, show (i + 1) * s = (f y).length + i * s from by rw [hf, Nat.add_mul]; omega, List.take_length_add_append]
theorem row_ins (hf : ∀ x, (f x).length = s) {i : Nat} (hi : i ≤ ys.length) (z y : α) :
    lw (lw ((ys ++ [z]).flatMap f) ((i + 1) * s) ((((ys ++ [z]).flatMap f).drop (i * s)).take ((ys.length - i) * s))) (i * s) (f y) = (ys.take i ++ y :: ys.drop i).flatMap f := by
  have hz := hf z
  have hy := hf y
  have e1 : ys = ys.take i ++ ys.drop i := (List.take_append_drop i ys).symm
  have lp : ((ys.take i).flatMap f).length = i * s := by rw [flatMap_len hf, List.length_take, Nat.min_eq_left hi]
  have lq : ((ys.drop i).flatMap f).length = (ys.length - i) * s := by rw [flatMap_len hf, List.length_drop]
  have hX : (ys ++ [z]).flatMap f = (ys.take i).flatMap f ++ ((ys.drop i).flatMap f ++ f z) := by
    have e2 : ys.flatMap f = (ys.take i).flatMap f ++ (ys.drop i).flatMap f := by rw [← List.flatMap_append, ← e1]
    rw [List.flatMap_append, e2, List.append_assoc]
    simp
  rw [hX, List.flatMap_append, List.flatMap_cons]
  generalize (ys.take i).flatMap f = A at *
  generalize (ys.drop i).flatMap f = B at *
  have hd : (A ++ (B ++ f z)).drop (i * s) = B ++ f z := by rw [← lp]; exact List.drop_left ..
  rw [hd, ← lq, List.take_left]
  have hs1 : (i + 1) * s = i * s + s := by rw [Nat.add_mul, Nat.one_mul]
  obtain ⟨H, hH, hHl⟩ : ∃ H, lw (A ++ (B ++ f z)) ((i + 1) * s) B = A ++ (H ++ B) ∧ H.length = s := by
    refine ⟨(B ++ f z).take s, ?_, by simp [hz]⟩
    unfold lw
    rw [List.drop_of_length_le (by simp; omega), List.append_nil, hs1, ← lp, List.take_length_add_append, List.append_assoc]
  rw [hH]
  exact lw_mid' rfl lp.symm (by omega)
end Go.Vc
end
section
namespace Go.Proofs.YtodjijfblgnfmaaGreatDoor.I
open Go.Vc Go.Proofs Go.Proofs.YtodjijfblgnfmaaGreatDoor Go.Vc.Bt
variable {w w' : World} {K : KV} {Kp : KP} {n : Int} {kn : Nat} {k k' : Ky} {x x' : Vl} {V : List (Ky × Vl)} {lv : Value}
abbrev tx : Bool := false
theorem cmpP : cmpS tx kn n (kd.pair k x) (kd.pair k' x') = Bt.cmp (ordI kn n) k k' := rfl
theorem compareP_ok (hR : Right kn n) (hK : ∀ w', Frm (fun _ => False) w w' → K (.int .i64 (Bt.cmp (ordI kn n) k k')) w') : Calls Tryz.prog 34 #[orderV kn n, .bool tx, .agg (kd.pair k x).cells.toArray, .agg (kd.pair k' x').cells.toArray] w (ret K Kp) := by
  refine compareS_ok hR fun w' hf => ?_
  rw [cmpP]
  exact hK w' hf
theorem cmp_lt0 {lt : Ky → Ky → Bool} {a b : Ky} : (Bt.cmp lt a b < 0) ↔ lt a b = true := by
  unfold Bt.cmp
  split
  · rename_i h; simp [h]
  · rename_i h; split <;> simp [h]
theorem place_eq {lt : Ky → Ky → Bool} {i : Nat} (hi : i ≤ V.length) (h0 : ∀ j (hj : j < V.length), j < i → lt V[j].1 k = true) (h1 : ∀ hi : i < V.length, lt V[i].1 k = false) : place lt V k = i := by
  unfold place
  by_cases hl : i < V.length
  · rw [List.findIdx_eq hl]
    refine ⟨by simp [h1 hl], fun j hj => by simp [h0 j (by omega) hj]⟩
  · rw [show i = V.length from by omega, List.findIdx_eq_length]
    intro e he
    obtain ⟨j, hj, rfl⟩ := List.mem_iff_getElem.1 he
    simp [h0 j hj (by omega)]
theorem place_ok (hR : Right kn n) (hs : Sd (ordI kn n) V) (hl : IsSl w lv V.length ((prsOf kd V).flatMap SPr.cells)) (hn : V.length < 2 ^ 40)
    (hK : ∀ w', Frm (fun _ => False) w w' → K (.tuple #[.int .i64 (place (ordI kn n) V k : Nat), .bool (has (ordI kn n) V k)]) w') :
    Calls Tryz.prog 48 #[orderV kn n, .bool tx, lv, .agg (kd.pair k x).cells.toArray] w (ret K Kp) := by
  obtain ⟨a, c, rfl, hc, hm, hr, _⟩ := hl
  refine vc48_calls ?_
  delta vc48 orderV
  refine op_box_ok fun w1 k1 z1 b1 => op_box_ok fun w2 k2 z2 b2 => ?_
  simp only [cells_agg] at b1 b2
  have b1 := k2.get b1 fun h => h
  have k12 := k1.no k2
  have hx2 : (#[.int .u8 kn, .int .i64 n] : Array Value).extract 0 2 = #[.int .u8 kn, .int .i64 n] := rfl
  have hx3 : ∀ p : SPr, p.cells.toArray.extract 0 3 = p.cells.toArray := fun p => extract_self (by simp [SPr.cells])
  have hs3 : ∀ p : SPr, 3 ≤ p.cells.length := fun p => Nat.le_refl _
  have hpl : (prsOf kd V).length = V.length := by simp [prsOf]
  have hpg : ∀ i (hi : i < V.length), (prsOf kd V)[i]'(by omega) = kd.pair V[i].1 V[i].2 := fun i hi => by simp [prsOf]
  simp [-getElem?_pos, -Array.getElem?_eq_getElem, -Int.natCast_add, add_spot, and_assoc, Br_dec]
  obtain ⟨I, hI⟩ : ∃ I : Value → KV, ∀ u v wl, I u v wl ↔ ∃ i j : Nat, u = .int .i64 i ∧ v = .int .i64 j ∧ i ≤ j ∧ j ≤ V.length ∧ Frm (fun _ => False) w2 wl ∧ (∀ q (hq : q < V.length), q < i → ordI kn n V[q].1 k = true) ∧ ∀ q (hq : q < V.length), j ≤ q → ordI kn n V[q].1 k = false := ⟨_, fun _ _ _ => Iff.rfl⟩
  refine Lp.intro I (fun u v _ => nOf v - nOf u) ⟨(hI _ _ _).2 ⟨0, V.length, rfl, rfl, by omega, by omega, Frm.refl, fun q hq h => by omega, fun q hq h => by omega⟩, ?_⟩
  intro wl u v hv
  obtain ⟨i, j, rfl, rfl, hij, hjl, kl, hlo, hhi⟩ := (hI _ _ _).1 hv
  have b1l := kl.get b1 fun h => h
  have b2l := kl.get b2 fun h => h
  simp only [op_lss, Br_dec]
  refine ⟨fun hlt => ?_, fun hge => ?_⟩
  · have e0 : IntKind.i64.wrap ((i : Int) + j) = ((i + j : Nat) : Int) := by rw [IntKind.wrap_i64]; omega
    obtain ⟨q, hqd⟩ : ∃ q, q = (i + j) / 2 := ⟨_, rfl⟩
    have hq : q < V.length := by omega
    have e1 : IntKind.i64.wrap (((i + j : Nat) : Int) / 2) = (q : Int) := by rw [IntKind.wrap_i64]; omega
    obtain ⟨b, o, cs, e, fz, rfl, q1, q2, q3⟩ := (hr.frame ((k12.no kl).no (Frm.drew wl)) fun _ _ h => h).part SPr.len (by decide) (i := q) (by omega)
    rw [hpg _ hq] at q3
    have q1' : wl.heap[b]? = some (.cells cs e fz) := by simpa using q1
    simp [-getElem?_pos, -Array.getElem?_eq_getElem, -Int.natCast_add, e0, e1, b1l, b2l, hx2, hx3, hs3, q1', q2, q3]
    have hqi : i ≤ q := by omega
    have hqj : q < j := by omega
    refine ⟨hq, compareP_ok hR fun w5 k5 => ?_⟩
    have k5 := kl.no (Frm.dr k5)
    have elt := cmp_lt0 (lt := ordI kn n) (a := V[q].1) (b := k)
    simp [-getElem?_pos, -Array.getElem?_eq_getElem, -Int.natCast_add, elt]
    refine ⟨fun h => ⟨(hI _ _ _).2 ⟨q + 1, j, by rw [show IntKind.i64.wrap ((q : Int) + 1) = ((q + 1 : Nat) : Int) from by rw [IntKind.wrap_i64]; omega], rfl, by omega, hjl, k5, fun p hp hpq => ?_, hhi⟩, ?_⟩, fun h => ⟨(hI _ _ _).2 ⟨i, q, rfl, rfl, by omega, by omega, k5, hlo, fun p hp hpq => ?_⟩, by simp only [nOf_int]; omega⟩⟩
    · by_cases e : p = q
      · subst e; exact h
      · have h1 := List.pairwise_iff_getElem.1 hs p q hp hq (by omega)
        exact ordI_lin.tr h1 h
    · rw [show IntKind.i64.wrap ((q : Int) + 1) = ((q + 1 : Nat) : Int) from by rw [IntKind.wrap_i64]; omega]
      simp only [nOf_int]; omega
    · by_cases e : p = q
      · subst e; exact h
      · have h1 := List.pairwise_iff_getElem.1 hs q p hq hp (by omega)
        cases hc : ordI kn n V[p].1 k with
        | false => rfl
        | true => rw [ordI_lin.tr h1 hc] at h; cases h
  · have hij' : i = j := by omega
    subst hij'
    have hp : place (ordI kn n) V k = i := place_eq hjl (fun j hj h => hlo j hj h) (fun hi => hhi i hi (Nat.le_refl _))
    rw [hp] at hK
    have hhas : has (ordI kn n) V k = if h : i < V.length then decide (V[i].1 = k) else false := by
      unfold has
      rw [hp]
      split
      · rename_i e h
        obtain ⟨h1, h2⟩ := List.getElem?_eq_some_iff.1 h
        rw [dif_pos h1, h2]
      · rename_i h
        rw [dif_neg (by rw [List.getElem?_eq_none_iff] at h; omega)]
    simp [-getElem?_pos, -Array.getElem?_eq_getElem, -Int.natCast_add, add_spot, and_assoc, Br_dec]
    refine ⟨fun hil => ?_, fun hge => ?_⟩
    · have hil : i < V.length := by omega
      rw [dif_pos hil] at hhas
      obtain ⟨b, o, cs, e, fz, rfl, q1, q2, q3⟩ := (hr.frame (k12.no kl) fun _ _ h => h).part SPr.len (by decide) (i := i) (by omega)
      rw [hpg _ hil] at q3
      simp [-getElem?_pos, -Array.getElem?_eq_getElem, -Int.natCast_add, b1l, b2l, hx2, hx3, hs3, q1, q2, q3]
      refine ⟨hil, compareP_ok hR fun w5 k5 => ?_⟩
      have ez : decide (Bt.cmp (ordI kn n) V[i].1 k = 0) = decide (V[i].1 = k) := decide_eq_decide.2 (cmp_zero ordI_lin)
      simp [-getElem?_pos, -Array.getElem?_eq_getElem, -Int.natCast_add, add_spot, and_assoc, Br_dec]
      rw [ez, ← hhas]
      exact hK w5 ((k12.no kl).no (Frm.dr k5))
    · rw [dif_neg (by omega)] at hhas
      rw [hhas] at hK
      exact hK _ ((k12.no kl).no (Frm.drew _))
end Go.Proofs.YtodjijfblgnfmaaGreatDoor.I
end
section
namespace Go.Proofs.YtodjijfblgnfmaaGreatDoor.I
open Go.Vc Go.Proofs Go.Proofs.YtodjijfblgnfmaaGreatDoor Go.Vc.Bt
variable {w w' : World} {K : KV} {Kp : KP} {n : Int} {kn base : Nat} {k : Ky} {x : Vl} {V : List (Ky × Vl)} {l : Value} {p : SPr}
abbrev PRow (w : World) (base : Nat) (l : Value) (L : List SPr) : Prop := FRow SPr.cells w base 45 3 l L
theorem apP : apOf Tryz.prog 38 = some (45, 3, 32) := by kernel_rfl
theorem lit_pr (p : SPr) : sliceLit Tryz.prog 38 1 [(0, .agg p.cells.toArray)] = some (45, p.cells.toArray) := lit_38_1
theorem prs_set {i : Nat} : prsOf kd (V.set i (k, x)) = (prsOf kd V).set i (kd.pair k x) := by simp [prsOf, List.map_set]
theorem prs_ins {i : Nat} : prsOf kd (V.take i ++ (k, x) :: V.drop i) = (prsOf kd V).take i ++ kd.pair k x :: (prsOf kd V).drop i := by simp [prsOf, List.map_take, List.map_drop]
theorem prs_len : (prsOf kd V).length = V.length := by simp [prsOf]
theorem put_ok (hR : Right kn n) (hs : Sd (ordI kn n) V) (hl : PRow w base l (prsOf kd V)) (hn : V.length < 2 ^ 40) (hb : base ≤ w.heap.size)
    (hK : ∀ l' w', Frm (fun b => some b = l.ownBlock) w w' → PRow w' base l' (prsOf kd (Bt.put (ordI kn n) V k x)) → K l' w') :
    Calls Tryz.prog 46 #[orderV kn n, .bool tx, l, .agg (kd.pair k x).cells.toArray] w (ret K Kp) := by
  refine vc46_calls ?_
  delta vc46 orderV
  refine op_box_ok fun w1 k1 z1 b1 => op_box_ok fun w2 k2 z2 b2 => ?_
  simp only [cells_agg] at b1 b2
  have b1 := k2.get b1 fun h => h
  have k12 := k1.no k2
  have hx2 : (#[.int .u8 kn, .int .i64 n] : Array Value).extract 0 2 = #[.int .u8 kn, .int .i64 n] := rfl
  have hx3 : ∀ p : SPr, p.cells.toArray.extract 0 3 = p.cells.toArray := fun p => extract_self (by simp [SPr.cells])
  have hs3 : ∀ p : SPr, 3 ≤ p.cells.length := fun p => Nat.le_refl _
  have hpl := prs_len (V := V)
  simp [-getElem?_pos, -Array.getElem?_eq_getElem, -Int.natCast_add, -op_lit_38_1, -op_st_45, b1, b2, hx2, hx3, hs3]
  have hfl := (frow_still hl k12).flat
  rw [hpl] at hfl
  refine place_ok (k := k) (x := x) hR hs hfl hn fun w3 k3 => ?_
  have k13 := k12.no k3
  have b13 := k3.get b1 fun h => h
  have b23 := k3.get b2 fun h => h
  have hl3 := frow_still hl k13
  have hlow := hl3.own_lt
  have n3 := k13.size
  have hlow0 := hl.own_lt
  cases hh : has (ordI kn n) V k with
  | true =>
    have hi := has_lt hh
    obtain ⟨g, cap, rfl, hg1, hg2, hg3, hg4⟩ := FRow.rw' hl3 (by omega)
    have hput : Bt.put (ordI kn n) V k x = V.set (place (ordI kn n) V k) (k, x) := by unfold Bt.put; rw [if_pos hh]
    rw [hput] at hK
    have hi' : place (ordI kn n) V k < (prsOf kd V).length := by omega
    generalize place (ordI kn n) V k = i at *
    simp [-getElem?_pos, -Array.getElem?_eq_getElem, -Int.natCast_add, -op_lit_38_1, -op_st_45, b23, hx3, hs3]
    refine ⟨hi', ?_⟩
    refine op_store_frow (f := SPr.cells) (by kernel_rfl) SPr.len (fun p => SPr.one p) hl3 hi' fun w4 k4 z4 hl4 => ?_
    rw [← prs_set] at hl4
    refine hK _ w4 (k13.fst (k4.to fun b hb => by subst hb; rfl)) ?_
    rw [show (prsOf kd V).length = (prsOf kd (V.set i (k, x))).length from by simp [prsOf]] at hl4
    rw [show (prsOf kd V).length = (prsOf kd (V.set i (k, x))).length from by simp [prsOf]]
    exact hl4
  | false =>
    have hi := place_le (lt := ordI kn n) V k
    have hput : Bt.put (ordI kn n) V k x = V.take (place (ordI kn n) V k) ++ (k, x) :: V.drop (place (ordI kn n) V k) := by unfold Bt.put; rw [if_neg (by simp [hh])]
    rw [hput] at hK
    generalize place (ordI kn n) V k = i at *
    simp [-getElem?_pos, -Array.getElem?_eq_getElem, -Int.natCast_add, -op_lit_38_1, -op_st_45]
    have ez : (#[.int .i64 0, .string ByteArray.empty, .int .i64 0] : Array Value) = (⟨0, ByteArray.empty, 0⟩ : SPr).cells.toArray := by simp [SPr.cells]
    rw [ez]
    generalize hz0 : (⟨0, ByteArray.empty, 0⟩ : SPr) = z at *
    refine op_push (u := z.cells) (y := z) (G2 := fun _ => False) (flat_ok SPr.cells) apP (lit_pr z) rfl (SPr.one _) hl3 rfl (fun _ h => h.elim) (fun _ _ h => h) (by rw [hpl]; omega) (by omega) fun l4 w4 k4 hl4 ho4 => ?_
    have hl4 : PRow w4 base l4 (prsOf kd V ++ [z]) := hl4.mono (flat_ok _) (fun _ h => h.elim id fun h => h) (fun _ h => h.elim) fun _ _ h => h
    obtain ⟨g, cap, rfl, hg1, hg2, hg3, hg4⟩ := FRow.rw' hl4 (by simp)
    have hlen4 : (prsOf kd V ++ [z]).length = V.length + 1 := by simp [hpl]
    rw [hlen4] at hg3
    have b24 : w4.heap[w1.heap.size]? = some (.cells (kd.pair k x).cells.toArray 45 (0, 0)) := k4.get b23 fun he => by have := hlow0 _ he.symm; have := k1.size; omega
    have e1 : IntKind.i64.wrap ((i : Int) + 1) = ((i + 1 : Nat) : Int) := by rw [IntKind.wrap_i64]; omega
    rw [hlen4]
    simp [-getElem?_pos, -Array.getElem?_eq_getElem, -Int.natCast_add, -op_lit_38_1, -op_st_45, e1, pur_cut_lo (P := Tryz.prog) (t := 38) (e := 45) (s := 3) (by kernel_rfl)]
    refine ⟨hi, hg3, by omega, hg3, ?_⟩
    have hfl4 : ((prsOf kd V ++ [z]).flatMap SPr.cells).length = (V.length + 1) * 3 := by rw [flatMap_len SPr.len, hlen4]
    refine op_copyX (s := 3) (x1 := i + 1) (x2 := i) (n := V.length - i) (g := g) (q := g) (by kernel_rfl) hg4.drew hg4.drew ?_ ?_ (by omega) (by omega) (by omega) (fun v hv => ?_) fun w5 k5 z5 r5 => ?_
    · split
      · exact .inr ⟨rfl, by omega⟩
      · exact .inl rfl
    · rw [if_neg (by omega)]; exact .inl rfl
    · obtain ⟨q, _, hq⟩ := List.mem_flatMap.1 hv
      exact SPr.one q v hq
    have k45 : Frm (· = g) w4 w5 := (Frm.drew _).fst k5
    have hne : ¬ w1.heap.size = g := by
      have := k1.size
      rcases ho4 with h | ⟨b, h, h'⟩
      · have := hlow0 g (by rw [← h]; rfl); omega
      · have : g = b := Option.some.inj h
        have := lt_of_get b23; omega
    have b25 := k45.get b24 hne
    simp [-getElem?_pos, -Array.getElem?_eq_getElem, -Int.natCast_add, -op_lit_38_1, -op_st_45, b25, hx3, hs3]
    refine ⟨by omega, ?_⟩
    refine op_storeRN (n := 3) (by kernel_rfl) (by simp [SPr.cells]) r5 (by rw [lw_len (by simp only [List.length_take, List.length_drop]; omega)]; omega) (fun u hu => SPr.one _ u (by simpa using hu)) fun w6 k6 z6 r6 => ?_
    have hri := row_ins (f := SPr.cells) SPr.len (ys := prsOf kd V) (i := i) (by omega) z (kd.pair k x)
    rw [hpl] at hri
    rw [show (kd.pair k x).cells.toArray.toList = (kd.pair k x).cells from rfl, hri, ← prs_ins] at r6
    have hlr : (prsOf kd (V.take i ++ (k, x) :: V.drop i)).length = V.length + 1 := by rw [prs_len]; simp; omega
    have hfin := FRow.of_rw SPr.len r6 hg1 (by rw [hlr]; exact hg3)
    rw [hlr] at hfin
    have k46 : Frm (· = g) w4 w6 := k45.trans k6 fun _ h _ => h
    refine hK _ w6 ((k13.fst k4).old k46 fun b hb => ?_) hfin
    rcases ho4 with h | ⟨q, h, h'⟩
    · exact .inl (by rw [hb, ← h]; rfl)
    · have : g = q := Option.some.inj h
      exact .inr (by omega)
end Go.Proofs.YtodjijfblgnfmaaGreatDoor.I
end
section
namespace Go.Proofs.YtodjijfblgnfmaaGreatDoor.I
open Go.Vc Go.Proofs Go.Proofs.YtodjijfblgnfmaaGreatDoor Go.Vc.Bt
variable {w w' : World} {K : KV} {Kp : KP} {n : Int} {kn base : Nat} {k : Ky} {x : Vl} {V : List (Ky × Vl)} {l : Value} {p : SPr} {s : SSt}
theorem drop_ok (hR : Right kn n) (hs : Sd (ordI kn n) V) (hl : PRow w base l (prsOf kd V)) (hn : V.length < 2 ^ 40) (hb : base ≤ w.heap.size)
    (hK : ∀ l' w', Frm (fun b => some b = l.ownBlock) w w' → PRow w' base l' (prsOf kd (rem (ordI kn n) V k)) → K l' w') :
    Calls Tryz.prog 47 #[orderV kn n, .bool tx, l, .agg (kd.pair k x).cells.toArray] w (ret K Kp) := by
  refine vc47_calls ?_
  delta vc47 orderV
  refine op_box_ok fun w1 k1 z1 b1 => op_box_ok fun w2 k2 z2 b2 => ?_
  simp only [cells_agg] at b1 b2
  have b1 := k2.get b1 fun h => h
  have k12 := k1.no k2
  have hx2 : (#[.int .u8 kn, .int .i64 n] : Array Value).extract 0 2 = #[.int .u8 kn, .int .i64 n] := rfl
  have hx3 : ∀ p : SPr, p.cells.toArray.extract 0 3 = p.cells.toArray := fun p => extract_self (by simp [SPr.cells])
  have hs3 : ∀ p : SPr, 3 ≤ p.cells.length := fun p => Nat.le_refl _
  have hpl := prs_len (V := V)
  simp [-getElem?_pos, -Array.getElem?_eq_getElem, -Int.natCast_add, -op_lit_38_1, b1, b2, hx2, hx3, hs3]
  have hfl := (frow_still hl k12).flat
  rw [hpl] at hfl
  refine place_ok (k := k) (x := x) hR hs hfl hn fun w3 k3 => ?_
  have k13 := k12.no k3
  have hl3 := frow_still hl k13
  have n3 := k13.size
  cases hh : has (ordI kn n) V k with
  | false =>
    rw [rem_absent hh] at hK
    simp [-getElem?_pos, -Array.getElem?_eq_getElem, -Int.natCast_add, -op_lit_38_1]
    exact hK l w3 (k13.to fun _ h => h.elim) hl3
  | true =>
    have hi := has_lt hh
    have hrem : rem (ordI kn n) V k = V.eraseIdx (place (ordI kn n) V k) := by rw [rem, if_pos hh]
    rw [hrem] at hK
    generalize place (ordI kn n) V k = i at *
    obtain ⟨g, cap, rfl, hg1, hg2, hg3, hg4⟩ := FRow.rw' hl3 (by omega)
    simp [-getElem?_pos, -Array.getElem?_eq_getElem, -Int.natCast_add, -op_lit_38_1]
    have e1 : IntKind.i64.wrap ((i : Int) + 1) = ((i + 1 : Nat) : Int) := by rw [IntKind.wrap_i64]; omega
    rw [pur_cut_hi (P := Tryz.prog) (t := 38) (e := 45) (s := 3) (by kernel_rfl), e1]
    refine ⟨⟨by omega, by omega⟩, ?_⟩
    refine cut_lo (P := Tryz.prog) (t := 38) (e := 45) (s := 3) (xs := prsOf kd V) (by kernel_rfl) SPr.len (by omega) (hl3.still (flat_ok _) (Frm.drew _)).flat (by decide) fun v' hv' => ?_
    have htl : ((prsOf kd V).take i).length = i := by rw [List.length_take]; omega
    have hpre : PRow w3.drew base (.slice (some ⟨g, 0, none⟩) i cap) ((prsOf kd V).take i) := by
      have hr := (hg4.drew.take (i * 3))
      rw [← flatMap_take SPr.len] at hr
      have := FRow.of_rw (base := base) SPr.len hr hg1 (by rw [htl]; omega)
      rw [htl] at this
      exact this
    refine op_concatF apP SPr.len (fun p => SPr.one p) hpre hv' (by rw [htl, List.length_drop]; omega) (by have : w3.drew.heap.size = w3.heap.size := rfl; omega) fun l5 w5 k5 hl5 ho5 => ?_
    rw [← List.eraseIdx_eq_take_drop_succ] at hl5
    refine hK l5 w5 (((k13.no (Frm.drew _)).fst k5).to fun b hb => by rw [hb]; rfl) ?_
    rw [show prsOf kd (V.eraseIdx i) = (prsOf kd V).eraseIdx i from by rw [List.eraseIdx_eq_take_drop_succ, List.eraseIdx_eq_take_drop_succ]; simp [prsOf, List.map_take, List.map_drop]]
    exact hl5
def keyL (s : SSt) : List (Ky × Vl) := if s.op = 5 ∨ s.op = 6 then (List.range s.count.toNat).map fun i => (kd.many s i, IntKind.i64.wrap (s.value + i)) else [(kd.key s.key s.text, s.value)]
theorem many_loop {sb : Nat} (hb : w.heap[sb]? = some (.cells #[.int .u8 s.op, .int .i64 s.fro, .int .i64 s.key, .string s.text, .int .i64 s.value, .int .i64 s.count, .int .i64 s.by'] 64 (0, 0))) (hop : s.op = 5 ∨ s.op = 6) (ht : s.text.size ≤ 100) (h0 : 0 ≤ s.count) (hc : s.count ≤ 3000)
    (hK : ∀ l w', Frm (fun _ => False) w w' → PRow w' w.heap.size l (prsOf kd (keyL s)) → K l w') :
    (Lp fun (I7 : Value → KV) (μ7 : Value → Value → World → Nat) => I7 (Value.slice none 0 0) (Value.int IntKind.i64 0) w ∧
      ∀ (wl7 : World) (junk : Nat → Value) (s5_out : Value) (s31_ : Value), I7 s5_out s31_ wl7 →
        nP.op (.bin BinOp.lss 2 false false s31_ (.int .i64 s.count)) wl7 (fun v32 w =>
        Br v32 (
          nP.op (.fieldAddr 64 (.pointer (some ⟨sb, 0, none⟩)) 2) w (fun v34 w =>
          nP.op (.load 2 v34) w (fun v35 w =>
          nP.op (.fieldAddr 64 (.pointer (some ⟨sb, 0, none⟩)) 6) w (fun v37 w =>
          nP.op (.load 2 v37) w (fun v38 w =>
          nP.op (.bin BinOp.mul 2 false false s31_ v38) w (fun v39 w =>
          nP.op (.bin BinOp.add 2 false false v35 v39) w (fun v40 w =>
          Br (.bool tx) (
            nP.pur (.fieldAddr 64 (.pointer (some ⟨sb, 0, none⟩)) 3) (fun v43 =>
            nP.ld (.load 9 v43) w.drew (fun v44 =>
            nP.pur (.fieldAddr 64 (.pointer (some ⟨sb, 0, none⟩)) 4) (fun v48 =>
            nP.ld (.load 2 v48) w.drew (fun v49 =>
            nP.pur (.bin BinOp.add 2 false false v49 s31_) (fun v51 =>
            nP.call (.fn 92) [v40] w.drew (fun v46 w =>
            nP.same (.load 2 v48) v49 w ∧
            nP.same (.load 9 v43) v44 w ∧
            nP.pur (.bin BinOp.add 9 false false v44 v46) (fun v47 =>
            nP.pur (.build 45 [(1, v47), (2, v51)]) (fun v52 =>
            nP.op (.buildSlice 38 1 [(0, v52)]) w (fun v53 w =>
            nP.op (.blt Builtin.append [38, 38] 38 [s5_out, v53]) w (fun v54 w =>
            nP.op (.bin BinOp.add 2 false true s31_ (Value.int IntKind.i64 1)) w (fun v64 w =>
            I7 v54 v64 w ∧ μ7 v54 v64 w < μ7 s5_out s31_ wl7) Kp) Kp) Kp))) Kp)))))) (
            nP.op (.fieldAddr 64 (.pointer (some ⟨sb, 0, none⟩)) 4) w (fun v57 w =>
            nP.op (.load 2 v57) w (fun v58 w =>
            nP.op (.bin BinOp.add 2 false false v58 s31_) w (fun v60 w =>
            nP.op (.build 45 [(0, v40), (2, v60)]) w (fun v61 w =>
            nP.op (.buildSlice 38 1 [(0, v61)]) w (fun v62 w =>
            nP.op (.blt Builtin.append [38, 38] 38 [s5_out, v62]) w (fun v63 w =>
            nP.op (.bin BinOp.add 2 false true s31_ (Value.int IntKind.i64 1)) w (fun v64 w =>
            I7 v63 v64 w ∧ μ7 v63 v64 w < μ7 s5_out s31_ wl7) Kp) Kp) Kp) Kp) Kp) Kp) Kp)) Kp) Kp) Kp) Kp) Kp) Kp) (
          K s5_out w)) Kp) := by
  obtain ⟨I, hI⟩ : ∃ I : Value → KV, ∀ l v wl, I l v wl ↔ ∃ i : Nat, v = .int .i64 i ∧ i ≤ s.count.toNat ∧ Frm (fun _ => False) w wl ∧ PRow wl w.heap.size l (prsOf kd ((List.range i).map fun i => (kd.many s i, IntKind.i64.wrap (s.value + i)))) := ⟨_, fun _ _ _ => Iff.rfl⟩
  refine Lp.intro I (fun _ v _ => s.count.toNat - nOf v) ⟨(hI _ _ _).2 ⟨0, rfl, by omega, Frm.refl, rows_nil⟩, ?_⟩
  intro wl _ l v hv
  obtain ⟨i, rfl, hi, kl, hR⟩ := (hI _ _ _).1 hv
  have nl := kl.size
  have bl := kl.get hb fun h => h
  have hlow := hR.own_lt
  have hlen : (prsOf kd ((List.range i).map fun i => (kd.many s i, IntKind.i64.wrap (s.value + i)))).length = i := by simp [prsOf]
  have hnext : ∀ {v' : Value} {w' : World} {G : Nat → Prop}, Frm (fun _ => False) w w' → RowsOf (Flat SPr.cells) w' w.heap.size 45 3 v' (prsOf kd ((List.range i).map fun i => (kd.many s i, IntKind.i64.wrap (s.value + i))) ++ [kd.pair (kd.many s i) (IntKind.i64.wrap (s.value + i))]) (fun c => False ∨ False) → (i : Int) < s.count →
      I v' (.int .i64 (IntKind.i64.wrap ((i : Int) + 1))) w' ∧ s.count.toNat - nOf (.int .i64 (IntKind.i64.wrap ((i : Int) + 1))) < s.count.toNat - nOf (.int .i64 (i : Int)) := fun {v' w' G} hf hr hlt => by
    rw [show IntKind.i64.wrap ((i : Int) + 1) = ((i + 1 : Nat) : Int) from by rw [IntKind.wrap_i64]; omega]
    refine ⟨(hI _ _ _).2 ⟨i + 1, rfl, by omega, hf, ?_⟩, by simp only [nOf_int]; omega⟩
    rw [List.range_succ, List.map_append, show ∀ A B : List (Ky × Vl), prsOf kd (A ++ B) = prsOf kd A ++ prsOf kd B from fun A B => by simp [prsOf]]
    exact hr.mono (flat_ok _) (fun _ h => h.elim id fun h => h) (fun _ h => h.elim) fun _ _ h => h
  simp only [op_lss, Br_dec]
  refine ⟨fun hlt => ?_, fun hge => ?_⟩
  · simp [-getElem?_pos, -Array.getElem?_eq_getElem, -Int.natCast_add, -op_lit_38_1, bl]
    have e0 : (#[.int .i64 (IntKind.i64.wrap (s.key + IntKind.i64.wrap ((i : Int) * s.by'))), .string ByteArray.empty, .int .i64 (IntKind.i64.wrap (s.value + i))] : Array Value) = (kd.pair (kd.many s i) (IntKind.i64.wrap (s.value + i))).cells.toArray := rfl
    rw [e0]
    refine op_push (u := (kd.pair (kd.many s i) (IntKind.i64.wrap (s.value + i))).cells) (y := kd.pair (kd.many s i) (IntKind.i64.wrap (s.value + i))) (G2 := fun _ => False) (flat_ok SPr.cells) apP (lit_pr _) rfl (SPr.one _) hR rfl (fun _ h => h.elim) (fun _ _ h => h) (by rw [hlen]; omega) (by omega) fun l' w7 k7 hR7 ho7 => ?_
    try simp [-getElem?_pos, -Array.getElem?_eq_getElem, -Int.natCast_add, -op_lit_38_1]
    exact hnext (G := fun _ => False) (kl.old k7 fun c hc => .inr (hlow c hc.symm).1) hR7 hlt
  · have : i = s.count.toNat := by omega
    subst this
    refine hK l wl kl ?_
    rw [keyL, if_pos hop]
    exact hR
end Go.Proofs.YtodjijfblgnfmaaGreatDoor.I
end
section
namespace Go.Proofs.YtodjijfblgnfmaaGreatDoor.I
open Go.Vc Go.Proofs Go.Proofs.YtodjijfblgnfmaaGreatDoor Go.Vc.Bt
variable {w w' : World} {K : KV} {Kp : KP} {base : Nat} {l : Value} {p : SPr} {s : SSt}
theorem sortedKeys_ok (ht : s.text.size ≤ 100) (h0 : 0 ≤ s.count) (hc : s.count ≤ 3000) (hK : ∀ l w', Frm (fun _ => False) w w' → PRow w' w.heap.size l (prsOf kd (keyL s)) → K l w') :
    Calls Tryz.prog 45 #[.bool tx, .agg s.cells.toArray] w (ret K Kp) := by
  refine vc45_calls ?_
  delta vc45
  refine op_box_ok fun w1 k1 z1 b1 => ?_
  simp only [cells_agg, SSt.cells] at b1
  have n1 := k1.size
  have hloop := fun hop => many_loop (K := K) (Kp := Kp) b1 hop ht h0 hc fun l w' hf hr => hK l w' (k1.no hf) (hr.base_le n1)
  have hone : ∀ (p : SPr), p = kd.pair (kd.key s.key s.text) s.value → ¬ (s.op = 5 ∨ s.op = 6) → nP.op (.buildSlice 38 1 [(0, .agg p.cells.toArray)]) w1 (fun v22 w => K v22 w) Kp := fun p hp ho => by
    refine op_row1 (base := w1.heap.size) (u := p.cells) (y := p) (G2 := fun _ => False) (flat_ok SPr.cells) apP (lit_pr p) rfl rfl (fun _ h => h.elim) (Nat.le_refl _) fun l w2 k2 hR2 _ => ?_
    refine hK l w2 (k1.no k2) ?_
    rw [keyL, if_neg ho]
    subst hp
    exact hR2.base_le n1
  by_cases h5 : s.op = 5
  · have h := hloop (.inl h5)
    simp [-getElem?_pos, -Array.getElem?_eq_getElem, -Int.natCast_add, -op_lit_38_1, b1, h5] at h
    simp [-getElem?_pos, -Array.getElem?_eq_getElem, -Int.natCast_add, -op_lit_38_1, b1, h5]
    exact h
  · have g5 : ¬ (s.op : Int) = 5 := by omega
    by_cases h6 : s.op = 6
    · have h := hloop (.inr h6)
      simp [-getElem?_pos, -Array.getElem?_eq_getElem, -Int.natCast_add, -op_lit_38_1, b1, g5, h6] at h
      simp [-getElem?_pos, -Array.getElem?_eq_getElem, -Int.natCast_add, -op_lit_38_1, b1, g5, h6]
      exact h
    · have g6 : ¬ (s.op : Int) = 6 := by omega
      simp [-getElem?_pos, -Array.getElem?_eq_getElem, -Int.natCast_add, -op_lit_38_1, b1, g5, g6]
      have e0 : (#[.int .i64 s.key, .string ByteArray.empty, .int .i64 s.value] : Array Value) = (kd.pair (kd.key s.key s.text) s.value).cells.toArray := rfl
      rw [e0]
      exact hone _ rfl (by omega)
theorem putN_all (lt : Ky → Ky → Bool) (s : SSt) (L : List (Ky × Vl)) : ∀ m, putN lt kd s m L = putAll lt L ((List.range m).map fun i => (kd.many s i, IntKind.i64.wrap (s.value + i)))
  | 0 => rfl
  | m + 1 => by rw [List.range_succ, List.map_append, List.map_singleton, putAll_snoc, ← putN_all lt s L m]; rfl
def remAll (lt : Ky → Ky → Bool) (L ps : List (Ky × Vl)) : List (Ky × Vl) := ps.foldl (fun L p => rem lt L p.1) L
theorem remAll_snoc (lt : Ky → Ky → Bool) (L ps : List (Ky × Vl)) (p : Ky × Vl) : remAll lt L (ps ++ [p]) = rem lt (remAll lt L ps) p.1 := by simp [remAll]
theorem remN_all (lt : Ky → Ky → Bool) (s : SSt) (L : List (Ky × Vl)) : ∀ m, remN lt kd s m L = remAll lt L ((List.range m).map fun i => (kd.many s i, IntKind.i64.wrap (s.value + i)))
  | 0 => rfl
  | m + 1 => by rw [List.range_succ, List.map_append, List.map_singleton, remAll_snoc, ← remN_all lt s L m]; rfl
theorem newV_put {lt : Ky → Ky → Bool} {L : List (Ky × Vl)} (h : s.op = 0 ∨ s.op = 5) : newV lt kd s L = some (putAll lt L (keyL s)) := by
  unfold newV keyL
  rcases h with h | h
  · rw [if_pos h, if_neg (by omega)]; rfl
  · rw [if_neg (by omega), if_neg (by omega), if_pos h, if_pos (.inl h), putN_all]
theorem newV_rem {lt : Ky → Ky → Bool} {L : List (Ky × Vl)} (h : s.op = 1 ∨ s.op = 6) : newV lt kd s L = some (remAll lt L (keyL s)) := by
  unfold newV keyL
  rcases h with h | h
  · rw [if_neg (by omega), if_pos h, if_neg (by omega)]; rfl
  · rw [if_neg (by omega), if_neg (by omega), if_neg (by omega), if_pos h, if_pos (.inr h), remN_all]
theorem remAll_sd {lt : Ky → Ky → Bool} : ∀ (ps : List (Ky × Vl)) {L : List (Ky × Vl)}, Sd lt L → Sd lt (remAll lt L ps)
  | [], L, h => h
  | p :: ps, L, h => remAll_sd ps (rem_sd h p.1)
theorem remAll_len {lt : Ky → Ky → Bool} : ∀ (ps : List (Ky × Vl)) (L : List (Ky × Vl)), (remAll lt L ps).length ≤ L.length
  | [], L => Nat.le_refl _
  | p :: ps, L => Nat.le_trans (remAll_len ps _) rem_le
theorem keyL_le (hc : s.count ≤ 3000) : (keyL s).length ≤ 3000 := by
  unfold keyL
  split
  · simp; omega
  · simp
end Go.Proofs.YtodjijfblgnfmaaGreatDoor.I
end
section
namespace Go.Vc.Bt
open Go.Vc
section
variable {κ : Type} [DecidableEq κ] {lt : κ → κ → Bool} {kd : Kd κ}
theorem runS_sd (hl : Lin lt) (steps : List SSt) : ∀ L ∈ (runS lt kd steps).1, Sd lt L := by
  rw [← List.reverse_reverse steps]
  generalize steps.reverse = r
  induction r with
  | nil => intro L hL; simp [runS] at hL; subst hL; exact List.Pairwise.nil
  | cons s r ih =>
    intro L hL
    rw [List.reverse_cons, runS_snoc] at hL
    unfold oneS at hL
    rcases List.mem_append.1 hL with h | h
    · exact ih L h
    · generalize hq : (runS lt kd r.reverse).1[atV s (runS lt kd r.reverse).1.length]?.getD [] = q at h
      have hql : Sd lt q := by
        cases hg : (runS lt kd r.reverse).1[atV s (runS lt kd r.reverse).1.length]? with
        | none => rw [hg] at hq; subst hq; exact List.Pairwise.nil
        | some x => rw [hg] at hq; subst hq; exact ih x (List.mem_of_getElem? hg)
      cases hn : newV lt kd s q with
      | none => rw [hn] at h; simp at h
      | some m =>
        rw [hn] at h
        simp only [Option.toList_some, List.mem_singleton] at h
        subst h
        exact newV_sd hl hn hql
end
end Go.Vc.Bt
end
section
namespace Go.Proofs.YtodjijfblgnfmaaGreatDoor.I
open Go.Vc Go.Proofs Go.Proofs.YtodjijfblgnfmaaGreatDoor Go.Vc.Bt
variable {w w' : World} {n : Int} {kn base : Nat} {V : List (Ky × Vl)} {s : SSt}
def ElV : World → List Value → List (Ky × Vl) → (Nat → Prop) → Prop := fun w u V G => ∃ pv, u = [pv] ∧ IsSl w pv V.length ((prsOf kd V).flatMap SPr.cells) ∧ ∀ b, pv.ownBlock = some b → G b
theorem elV_ok : ElOk ElV :=
  ⟨fun ⟨pv, hu, h, hG⟩ hf hM => ⟨pv, hu, h.frame hf fun b hb => hM b (hG b hb), hG⟩, fun ⟨pv, hu, h, hG⟩ hG' => ⟨pv, hu, h, fun b hb => hG' b (hG b hb)⟩⟩
theorem apV : apOf Tryz.prog 65 = some (38, 1, 24) := by kernel_rfl
theorem apB : apOf Tryz.prog 35 = some (104, 4, 48) := by kernel_rfl
theorem lit_pr0 : sliceLit Tryz.prog 38 0 [] = some (45, #[]) := by kernel_rfl
theorem lit_an (a b c d : Value) : sliceLit Tryz.prog 35 1 [(0, .agg #[a, b, c, d])] = some (104, [a, b, c, d].toArray) := lit_35_1
def Prs (w : World) (G : Nat → Prop) : Prop := ∀ c, G c → ∃ cs, w.heap[c]? = some (.cells cs 45 (0, 0))
theorem Prs.keep {G M : Nat → Prop} (h : Prs w G) (hf : Frm M w w') (hM : ∀ c cs e, w.heap[c]? = some (.cells cs e (0, 0)) → M c → e ≠ 45) : Prs w' G := fun c hc => by
  obtain ⟨cs, h1⟩ := h c hc
  exact ⟨cs, hf.get h1 fun hm => hM c cs _ h1 hm rfl⟩
theorem Prs.still {G : Nat → Prop} (h : Prs w G) (hf : Frm (fun _ => False) w w') : Prs w' G := h.keep hf fun _ _ _ _ h => h.elim
def stepL (lt : Ky → Ky → Bool) (s : SSt) (L : List (Ky × Vl)) (j : Nat) : List (Ky × Vl) := if s.op = 0 ∨ s.op = 5 then putAll lt L ((keyL s).take j) else remAll lt L ((keyL s).take j)
theorem stepL_zero {lt : Ky → Ky → Bool} {L : List (Ky × Vl)} : stepL lt s L 0 = L := by unfold stepL; split <;> rfl
theorem stepL_all {lt : Ky → Ky → Bool} {L : List (Ky × Vl)} (h : s.op = 0 ∨ s.op = 5 ∨ s.op = 1 ∨ s.op = 6) : newV lt kd s L = some (stepL lt s L (keyL s).length) := by
  unfold stepL
  rw [List.take_length]
  split
  · rename_i h0; exact newV_put h0
  · exact newV_rem (by omega)
theorem stepL_le {lt : Ky → Ky → Bool} {L : List (Ky × Vl)} {j : Nat} (hc : s.count ≤ 3000) : (stepL lt s L j).length ≤ L.length + 3000 := by
  have h1 := keyL_le (s := s) hc
  have h2 : ((keyL s).take j).length ≤ (keyL s).length := by rw [List.length_take]; omega
  unfold stepL
  split
  · have := putAll_len (lt := lt) ((keyL s).take j) L; omega
  · have := remAll_len (lt := lt) ((keyL s).take j) L; omega
theorem stepL_sd {lt : Ky → Ky → Bool} (hl : Lin lt) {L : List (Ky × Vl)} {j : Nat} (h : Sd lt L) : Sd lt (stepL lt s L j) := by
  unfold stepL
  split
  · exact putAll_sd hl _ h
  · exact remAll_sd _ h
theorem stepL_succ {lt : Ky → Ky → Bool} {L : List (Ky × Vl)} {j : Nat} (hj : j < (keyL s).length) : stepL lt s L (j + 1) = if s.op = 0 ∨ s.op = 5 then Bt.put lt (stepL lt s L j) (keyL s)[j].1 (keyL s)[j].2 else rem lt (stepL lt s L j) (keyL s)[j].1 := by
  unfold stepL
  rw [List.take_succ_eq_append_getElem hj]
  split
  · rw [putAll_snoc]
  · rw [remAll_snoc]
structure MidS (base : Nat) (vs : List (List (Ky × Vl))) (an : List SAns) (L0 : List (Ky × Vl)) (n : Int) (kn : Nat) (s : SSt) (ab : Nat) (w1 wz : World) (out l' pv : Value) (G1 G2 : Nat → Prop) : Prop where
  frm : Frm (fun _ => False) w1 wz
  vers : RowsOf ElV wz base 38 1 l' (vs ++ (newV (ordI kn n) kd s L0).toList) G1
  prs : Prs wz G1
  outs : RowsOf ElA wz base 104 4 out an G2
  prs2 : Prs wz G2
  cell : wz.heap[ab]? = some (.cells #[.int .i64 (ansV (ordI kn n) kd s L0).value, .int .i64 (ansV (ordI kn n) kd s L0).n, .bool (ansV (ordI kn n) kd s L0).ok, pv] 104 (0, 0))
  row : IsSl wz pv (ansV (ordI kn n) kd s L0).list.length ((ansV (ordI kn n) kd s L0).list.flatMap SPr.cells)
  own : ∀ c, pv.ownBlock = some c → base ≤ c ∧ ∃ cs, wz.heap[c]? = some (.cells cs 45 (0, 0))
end Go.Proofs.YtodjijfblgnfmaaGreatDoor.I
end
section
namespace Go.Proofs.YtodjijfblgnfmaaGreatDoor.I
open Go.Vc Go.Proofs Go.Proofs.YtodjijfblgnfmaaGreatDoor Go.Vc.Bt
variable {w w' : World} {K : KV} {Kp : KP} {n : Int} {kn base : Nat} {l : Value} {p : SPr} {s : SSt}
theorem sortedS_ok {a2 : Option Addr} {c2 : Nat} {steps : List SSt} (hRt : Right kn n) (h2 : Row w a2 (steps.flatMap SSt.cells)) (hs : ∀ s ∈ steps, s.text.size ≤ 100 ∧ 0 ≤ s.count ∧ s.count ≤ 3000 ∧ s.op ≤ 6) (hc : scost steps < 2 ^ 30)
    (hK : ∀ l w' G, Frm (fun _ => False) w w' → RowsOf ElA w' w.heap.size 104 4 l (runS (ordI kn n) kd steps).2 G → K l w') :
    Calls Tryz.prog 18 #[.bool tx, .bool false, orderV kn n, .slice a2 steps.length c2] w (ret K Kp) := by
  refine vc18_calls ?_
  delta vc18 orderV
  refine op_box_ok fun w1 k1 z1 b1 => ?_
  simp only [cells_agg] at b1
  have n1 := k1.size
  have hx2 : (#[.int .u8 kn, .int .i64 n] : Array Value).extract 0 2 = #[.int .u8 kn, .int .i64 n] := rfl
  refine op_row1 (base := w1.heap.size) (El := ElV) (u := [.slice none 0 0]) (y := []) (G2 := fun _ => False) elV_ok apV (lit_65_1 rfl) rfl ⟨_, rfl, IsSl.nil, fun _ h => nomatch h⟩ (fun _ h => h.elim) (by omega) fun l3 w3 k3 hR3 ho3 => ?_
  simp [-getElem?_pos, -Array.getElem?_eq_getElem, -Int.natCast_add, -op_lit_38_1, -op_lit_38_0, -op_lit_65_1, -op_lit_35_1, -op_st_45, -op_alloc_45, -op_st_64, -op_alloc_64, -op_st_104, -op_alloc_104, -op_st_2, -op_st_3, -op_st_4, -op_st_38]
  obtain ⟨I, hI⟩ : ∃ I : Value → Value → KV, ∀ l out v wl, I l out v wl ↔ ∃ (i : Nat) (G1 G2 : Nat → Prop), v = .int .i64 i ∧ i ≤ steps.length ∧ Frm (fun _ => False) w1 wl ∧
      RowsOf ElV wl w1.heap.size 38 1 l (runS (ordI kn n) kd (steps.take i)).1 G1 ∧ Prs wl G1 ∧
      RowsOf ElA wl w1.heap.size 104 4 out (runS (ordI kn n) kd (steps.take i)).2 G2 ∧ Prs wl G2 := ⟨_, fun _ _ _ _ => Iff.rfl⟩
  refine Lp.intro I (fun _ _ v _ => steps.length - nOf v) ⟨(hI _ _ _ _).2 ⟨0, _, fun _ => False, rfl, by omega, k3, hR3, fun _ h => h.elim, rows_nil, fun _ h => h.elim⟩, ?_⟩
  intro wl l out v hlv
  obtain ⟨i, G1, G2, rfl, hi, kl, hR, hP1, hO, hP2⟩ := (hI _ _ _ _).1 hlv
  clear hlv hR3 k3
  simp only [op_lss, Br_dec]
  refine ⟨fun hlt' => ?_, fun hnl' => ?_⟩
  rotate_left
  · have : i = steps.length := by omega
    subst this
    rw [List.take_length] at hO
    exact hK out wl G2 (k1.no kl) (hO.base_le n1)
  have hi' : i < steps.length := by omega
  have htk : steps.take (i + 1) = steps.take i ++ [steps[i]] := List.take_succ_eq_append_getElem hi'
  have hmem : steps[i] ∈ steps := List.getElem_mem hi'
  have hctk := scost_take steps (i + 1)
  have hsl := scost_len steps
  have hlenr := runS_len (lt := ordI kn n) (kd := kd) (steps.take i)
  have hle := runS_le (lt := ordI kn n) (kd := kd) (steps.take i)
  have hsda := runS_sd (lt := ordI kn n) (kd := kd) ordI_lin (steps.take i)
  have hsnoc := runS_snoc (lt := ordI kn n) (kd := kd) (steps.take i) steps[i]
  rw [← htk] at hsnoc
  rw [htk, scost_snoc] at hctk
  rw [List.length_take] at hlenr
  obtain ⟨bp, o, cs, e, fz, rfl, hcs, hsz, hext⟩ := (h2.frame (k1.no kl) (fun _ _ h => h)).part SSt.len (by decide) hi'
  obtain ⟨ht, h0, hc3, hop⟩ := hs _ hmem
  generalize steps[i] = s at *
  generalize hvs : runS (ordI kn n) kd (steps.take i) = vs at *
  obtain ⟨vs, an⟩ := vs
  simp only at hR hO hlenr hle hsda
  generalize hNn : scost (steps.take i) = N at *
  have hq : atV s vs.length < vs.length := atV_lt hlenr.1
  have bO := kl.get b1 fun h => h
  have nl := kl.size
  have hlow := hR.own_lt
  have hlowO := hO.own_lt
  simp [-getElem?_pos, -Array.getElem?_eq_getElem, -Int.natCast_add, -op_lit_38_1, -op_lit_38_0, -op_lit_65_1, -op_lit_35_1, -op_st_45, -op_alloc_45, -op_st_64, -op_alloc_64, -op_st_104, -op_alloc_104, -op_st_2, -op_st_3, -op_st_4, -op_st_38, hcs, hsz, hext]
  refine ⟨hi', ?_⟩
  refine op_alloc_ok (z := .agg #[.int .u8 0, .int .i64 0, .int .i64 0, .string ByteArray.empty, .int .i64 0, .int .i64 0, .int .i64 0]) (by kernel_rfl) fun w5 k5 z5 b5 => ?_
  simp only [cells_agg] at b5
  refine op_storeN_ok (n := 7) (by kernel_rfl) b5 rfl (by decide) (by simp [SSt.cells]) fun w6 k6 z6 b6 => ?_
  have b6 : w6.heap[wl.heap.size]? = some (.cells s.cells.toArray 64 (0, 0)) := by
    rw [ow_all (by simp [SSt.cells])] at b6; simpa [SSt.cells] using b6
  simp only [SSt.cells] at b6
  have k56 : Frm (fun _ => False) wl w6 := k5.old k6 fun c hc => .inr (by omega)
  have hR6 := hR.still elV_ok k56
  have hO6 := hO.still elA_ok k56
  have hP16 := hP1.still k56
  have hP26 := hP2.still k56
  obtain ⟨u, g, cV, cur, hlg, hg1, hu, hg3, hg4, hg5, pv0, hup, hpv, hpG⟩ := hR6.get hq
  subst hlg hup
  have hg0 : cur[atV s vs.length]? = some pv0 := by have := hg3 0 (by decide); simpa using this
  have hL0N : vs[atV s vs.length].length ≤ N := hle _ (List.getElem_mem hq)
  have hsd := hsda _ (List.getElem_mem hq)
  have hL0 : vs[atV s vs.length]? = some vs[atV s vs.length] := List.getElem?_eq_getElem hq
  have hone1 : oneS (ordI kn n) kd (vs, an) s = (vs ++ (newV (ordI kn n) kd s vs[atV s vs.length]).toList, an ++ [ansV (ordI kn n) kd s vs[atV s vs.length]]) := by
    unfold oneS
    rw [hL0]; rfl
  rw [hone1] at hsnoc
  generalize vs[atV s vs.length] = L0 at *
  obtain ⟨t1, t2, t3⟩ := tmod_pos (a := s.fro) (m := (vs.length : Int)) (by omega)
  have hat : (atV s vs.length : Int) = s.fro % (vs.length : Int) := by
    have hp := Int.emod_nonneg s.fro (b := (vs.length : Int)) (by omega)
    unfold atV; omega
  have hne0 : vs ≠ [] := fun h => by rw [h] at hq; simp at hq
  simp [-getElem?_pos, -Array.getElem?_eq_getElem, -Int.natCast_add, -op_lit_38_1, -op_lit_38_0, -op_lit_65_1, -op_lit_35_1, -op_st_45, -op_alloc_45, -op_st_64, -op_alloc_64, -op_st_104, -op_alloc_104, -op_st_2, -op_st_3, -op_st_4, -op_st_38, b6]
  refine ⟨hne0, ?_⟩
  refine Jn.intro (fun v wz => v = .int .i64 (atV s vs.length : Nat) ∧ wz = w6) ⟨fun h => ?_, fun h => ?_, ?_⟩
  · rw [if_pos h] at t3
    refine ⟨?_, rfl⟩
    rw [show IntKind.i64.wrap (s.fro.tmod vs.length + vs.length) = (atV s vs.length : Int) from by rw [IntKind.wrap_i64]; omega]
  · rw [if_neg (by omega)] at t3
    exact ⟨by rw [hat, t3], rfl⟩
  rintro wz v ⟨rfl, rfl⟩
  generalize atV s vs.length = at0 at *
  simp [-getElem?_pos, -Array.getElem?_eq_getElem, -Int.natCast_add, -op_lit_38_1, -op_lit_38_0, -op_lit_65_1, -op_lit_35_1, -op_st_45, -op_alloc_45, -op_st_64, -op_alloc_64, -op_st_104, -op_alloc_104, -op_st_2, -op_st_3, -op_st_4, -op_st_38, hg1, hg0]
  refine ⟨hq, ?_⟩
  refine op_alloc_ok (z := .agg #[.int .i64 0, .int .i64 0, .bool false, .slice none 0 0]) (by kernel_rfl) fun w7 k7 z7 b7 => ?_
  simp only [cells_agg] at b7
  refine op_storeN_ok (n := 4) (by kernel_rfl) b7 rfl (by decide) (by simp) fun wA k8 z8 bA => ?_
  rw [ow_all (by simp)] at bA
  have hlS := lt_of_get b6
  have k6A : Frm (fun _ => False) wz wA := k7.old k8 fun c hc => .inr (by omega)
  have bS := k6A.get b6 fun h => h
  have hx7 : (#[.int .u8 s.op, .int .i64 s.fro, .int .i64 s.key, .string s.text, .int .i64 s.value, .int .i64 s.count, .int .i64 s.by'] : Array Value).extract 0 7 = s.cells.toArray := rfl
  simp [-getElem?_pos, -Array.getElem?_eq_getElem, -Int.natCast_add, -op_lit_38_1, -op_lit_38_0, -op_lit_65_1, -op_lit_35_1, -op_st_45, -op_alloc_45, -op_st_64, -op_alloc_64, -op_st_104, -op_alloc_104, -op_st_2, -op_st_3, -op_st_4, -op_st_38, bS, hx7]
  refine sortedKeys_ok ht h0 hc3 fun kv wK kK hKR => ?_
  refine Jn.intro (fun wy => wy = wK) ⟨rfl, ?_⟩
  rintro wy rfl
  generalize hab : wz.heap.size = ab at *
  have kzK : Frm (fun _ => False) wz wy := k6A.no kK
  have bSK := kK.get bS fun h => h
  have bAK := kK.get bA fun h => h
  have k1K : Frm (fun _ => False) w1 wy := kl.no (k56.no kzK)
  have bOK := k1K.get b1 fun h => h
  have hRK := hR6.still elV_ok kzK
  have hOK := hO6.still elA_ok kzK
  have hPK1 := hP16.still kzK
  have hPK2 := hP26.still kzK
  have hpvK := hpv.still kzK
  obtain ⟨J, hJ⟩ : ∃ J : KV, ∀ e wz, J e wz ↔ ∃ pv G1 G2, MidS w1.heap.size vs an L0 n kn s ab w1 wz out e pv G1 G2 := ⟨_, fun _ _ => Iff.rfl⟩
  refine Jn.intro J ⟨?_, ?_⟩
  · have hsame : ∀ {wx : World} {M : Nat → Prop} {pv : Value}, newV (ordI kn n) kd s L0 = none → Frm M wy wx → (∀ c cs e, wy.heap[c]? = some (.cells cs e (0, 0)) → M c → c = ab) → (∀ c, M c → ab ≤ c) →
        wx.heap[ab]? = some (.cells #[.int .i64 (ansV (ordI kn n) kd s L0).value, .int .i64 (ansV (ordI kn n) kd s L0).n, .bool (ansV (ordI kn n) kd s L0).ok, pv] 104 (0, 0)) → IsSl wx pv (ansV (ordI kn n) kd s L0).list.length ((ansV (ordI kn n) kd s L0).list.flatMap SPr.cells) →
        (∀ c, pv.ownBlock = some c → wy.heap.size ≤ c ∧ ∃ cs, wx.heap[c]? = some (.cells cs 45 (0, 0))) → J (.slice (some ⟨g, 0, none⟩) vs.length cV) wx := fun {wx M pv} hn hf hM hMb hcell hrow hown => by
      have hy := kzK.size
      have hno : ∀ c cs e, wy.heap[c]? = some (.cells cs e (0, 0)) → M c → e ≠ 45 := fun c cs e h1 h2 he => by
        have := hM c cs e h1 h2
        subst this
        rw [bAK] at h1; cases h1; cases he
      refine (hJ _ _).2 ⟨pv, G1, G2, ⟨k1K.old hf fun c hc => .inr ?_, ?_, hPK1.keep hf hno, hOK.frame elA_ok hf (fun c hc hm => ?_) (fun b hb hm => ?_), hPK2.keep hf hno, hcell, hrow, fun c hc => ⟨?_, (hown c hc).2⟩⟩⟩
      · have := hMb c hc; have := (kl.no k56).size; omega
      · rw [hn, Option.toList_none, List.append_nil]
        refine hRK.frame elV_ok hf (fun c hc hm => ?_) fun b hb hm => ?_
        · obtain ⟨cs, h1⟩ := hPK1 c hc
          exact hno _ _ _ h1 hm rfl
        · have := hlow b hb; have := hMb b hm; have := k56.size; omega
      · obtain ⟨cs, h1⟩ := hPK2 c hc
        exact hno _ _ _ h1 hm rfl
      · have := hlowO b hb; have := hMb b hm; have := k56.size; omega
      · have := (hown c hc).1; have := k1K.size; omega
    by_cases hh : s.op = 0 ∨ s.op = 5 ∨ s.op = 1 ∨ s.op = 6
    · have hnv := stepL_all (lt := ordI kn n) (L := L0) hh
      have hany := ansV_new hnv
      have hkl := keyL_le (s := s) hc3
      obtain ⟨ak, ck, rfl, _⟩ := hKR.slice
      rw [prs_len] at hKR ⊢
      have hpkey : ∀ j (hj : j < (keyL s).length), (prsOf kd (keyL s))[j]'(by rw [prs_len]; exact hj) = kd.pair (keyL s)[j].1 (keyL s)[j].2 := fun j hj => by simp [prsOf]
      have hx3 : ∀ p : SPr, p.cells.toArray.extract 0 3 = p.cells.toArray := fun p => extract_self (by simp [SPr.cells])
      have hs3 : ∀ p : SPr, 3 ≤ p.cells.length := fun p => Nat.le_refl _
      rcases hh with h | h | h | h
      all_goals
        simp [-getElem?_pos, -Array.getElem?_eq_getElem, -Int.natCast_add, -op_lit_38_1, -op_lit_38_0, -op_lit_65_1, -op_lit_35_1, -op_st_45, -op_alloc_45, -op_st_64, -op_alloc_64, -op_st_104, -op_alloc_104, -op_st_2, -op_st_3, -op_st_4, -op_st_38, bSK, h]
        refine Jn.intro (fun v wx => v = .bool true ∧ wy = wx) ⟨⟨rfl, rfl⟩, ?_⟩
        rintro wx v ⟨rfl, rfl⟩
        try simp [-getElem?_pos, -Array.getElem?_eq_getElem, -Int.natCast_add, -op_lit_38_1, -op_lit_38_0, -op_lit_65_1, -op_lit_35_1, -op_st_45, -op_alloc_45, -op_st_64, -op_alloc_64, -op_st_104, -op_alloc_104, -op_st_2, -op_st_3, -op_st_4, -op_st_38]
        refine op_row0 (f := SPr.cells) (base := wy.heap.size) apP lit_pr0 (Nat.le_refl _) fun l4 w4 k4 hR4 ho4 => ?_
        refine op_concatF apP SPr.len (fun p => SPr.one p) hR4 (zs := prsOf kd L0) (by rw [prs_len]; exact hpvK.still k4) (by simp [prs_len]; omega) k4.size fun l5 w5 k5 hR5 ho5 => ?_
        rw [List.nil_append] at hR5
        have hlow4 := hR4.own_lt
        have k45 : Frm (fun _ => False) wy w5 := k4.old k5 fun c hc => .inr (hlow4 c hc.symm).1
        try simp [-getElem?_pos, -Array.getElem?_eq_getElem, -Int.natCast_add, -op_lit_38_1, -op_lit_38_0, -op_lit_65_1, -op_lit_35_1, -op_st_45, -op_alloc_45, -op_st_64, -op_alloc_64, -op_st_104, -op_alloc_104, -op_st_2, -op_st_3, -op_st_4, -op_st_38, prs_len]
        obtain ⟨I2, hI2⟩ : ∃ I2 : Value → KV, ∀ m v wz, I2 m v wz ↔ ∃ j : Nat, v = .int .i64 j ∧ j ≤ (keyL s).length ∧ Frm (fun _ => False) wy wz ∧ PRow wz wy.heap.size m (prsOf kd (stepL (ordI kn n) s L0 j)) := ⟨_, fun _ _ _ => Iff.rfl⟩
        refine Lp.intro I2 (fun _ v _ => (keyL s).length - nOf v) ⟨(hI2 _ _ _).2 ⟨0, rfl, by omega, k45, by rw [stepL_zero]; exact hR5⟩, ?_⟩
        intro wq m v hm
        obtain ⟨j, rfl, hj, kq, hRq⟩ := (hI2 _ _ _).1 hm
        have bSq := kq.get bSK fun h => h
        have bOq := kq.get bOK fun h => h
        have hle1 := stepL_le (lt := ordI kn n) (s := s) (L := L0) (j := j) hc3
        have nq := kq.size
        simp only [op_lss, Br_dec]
        refine ⟨fun hlt2 => ?_, fun hge => ?_⟩
        · have hj' : j < (keyL s).length := by omega
          obtain ⟨gk, ck2, csk, q1, q2, q3, q4, q5⟩ := frow_get (frow_still hKR kq) (j := j) (by rw [prs_len]; exact hj')
          rw [hpkey j hj'] at q5
          rw [prs_len] at q1; cases q1
          simp [-getElem?_pos, -Array.getElem?_eq_getElem, -Int.natCast_add, -op_lit_38_1, -op_lit_38_0, -op_lit_65_1, -op_lit_35_1, -op_st_45, -op_alloc_45, -op_st_64, -op_alloc_64, -op_st_104, -op_alloc_104, -op_st_2, -op_st_3, -op_st_4, -op_st_38, q2, q4, q5]
          refine ⟨hj', ?_⟩
          refine op_alloc_ok (z := .agg #[.int .i64 0, .string ByteArray.empty, .int .i64 0]) (by kernel_rfl) fun w7 k7 z7 b7 => ?_
          simp only [cells_agg] at b7
          refine op_storeN_ok (n := 3) (by kernel_rfl) b7 rfl (by decide) (by simpa using SPr.one _) fun w8 k8 z8 b8 => ?_
          have b8 : w8.heap[wq.heap.size]? = some (.cells (kd.pair (keyL s)[j].1 (keyL s)[j].2).cells.toArray 45 (0, 0)) := by
            rw [ow_all (by simp [SPr.cells])] at b8; simpa using b8
          have k78 : Frm (fun _ => False) wq w8 := k7.old k8 fun c hc => .inr (by omega)
          have bS8 := k78.get bSq fun h => h
          have bO8 := k78.get bOq fun h => h
          simp [-getElem?_pos, -Array.getElem?_eq_getElem, -Int.natCast_add, -op_lit_38_1, -op_lit_38_0, -op_lit_65_1, -op_lit_35_1, -op_st_45, -op_alloc_45, -op_st_64, -op_alloc_64, -op_st_104, -op_alloc_104, -op_st_2, -op_st_3, -op_st_4, -op_st_38, bS8, h, bO8, hx2, b8, hx3, hs3]
          have hR8 := frow_still hRq k78
          have hlow8 := hR8.own_lt
          have hsucc := stepL_succ (s := s) (lt := ordI kn n) (L := L0) hj'
          first
          | refine put_ok (base := wy.heap.size) hRt (stepL_sd ordI_lin hsd) hR8 (by omega) (by have := k78.size; omega) fun l9 w9 k9 hR9 => ?_
            rw [if_pos (by omega)] at hsucc
            try simp [-getElem?_pos, -Array.getElem?_eq_getElem, -Int.natCast_add, -op_lit_38_1, -op_lit_38_0, -op_lit_65_1, -op_lit_35_1, -op_st_45, -op_alloc_45, -op_st_64, -op_alloc_64, -op_st_104, -op_alloc_104, -op_st_2, -op_st_3, -op_st_4, -op_st_38]
            rw [← hsucc] at hR9
            rw [show IntKind.i64.wrap ((j : Int) + 1) = ((j + 1 : Nat) : Int) from by rw [IntKind.wrap_i64]; omega]
            exact ⟨(hI2 _ _ _).2 ⟨j + 1, rfl, by omega, (kq.no k78).old k9 fun c hc => .inr (hlow8 c hc.symm).1, hR9⟩, by simp only [nOf_int]; omega⟩
          | refine drop_ok (base := wy.heap.size) hRt (stepL_sd ordI_lin hsd) hR8 (by omega) (by have := k78.size; omega) fun l9 w9 k9 hR9 => ?_
            rw [if_neg (by omega)] at hsucc
            try simp [-getElem?_pos, -Array.getElem?_eq_getElem, -Int.natCast_add, -op_lit_38_1, -op_lit_38_0, -op_lit_65_1, -op_lit_35_1, -op_st_45, -op_alloc_45, -op_st_64, -op_alloc_64, -op_st_104, -op_alloc_104, -op_st_2, -op_st_3, -op_st_4, -op_st_38]
            rw [← hsucc] at hR9
            rw [show IntKind.i64.wrap ((j : Int) + 1) = ((j + 1 : Nat) : Int) from by rw [IntKind.wrap_i64]; omega]
            exact ⟨(hI2 _ _ _).2 ⟨j + 1, rfl, by omega, (kq.no k78).old k9 fun c hc => .inr (hlow8 c hc.symm).1, hR9⟩, by simp only [nOf_int]; omega⟩
        · have : j = (keyL s).length := by omega
          subst this
          have hRqv := hRK.still elV_ok kq
          have hOq := hOK.still elA_ok kq
          have hPq1 := hPK1.still kq
          have hPq2 := hPK2.still kq
          have bAq := kq.get bAK fun h => h
          have hown := hRq.own_lt
          have hmty := rows_ty hRq
          have hvty := rows_ty hRqv
          have m1 := k1K.size
          have m2 := kzK.size
          have m3 := k56.size
          refine op_push (El := ElV) (u := [m]) (y := stepL (ordI kn n) s L0 (keyL s).length) (G2 := fun c => m.ownBlock = some c) elV_ok apV (lit_65_1 hRq.one) rfl (by simpa using hRq.one) hRqv ⟨m, rfl, by have := hRq.flat; rwa [prs_len] at this, fun _ h => h⟩ (fun c hc => by have := hown c hc; omega) (fun b hb hc => by have := hown b hc; have := hlow b hb; omega) (by omega) (by omega) fun l' w10 k10 hR10 ho10 => ?_
          have b10 := k10.get bAq (fun he => by have := hlow ab he.symm; omega)
          have hoff : ∀ c cs e, wq.heap[c]? = some (.cells cs e (0, 0)) → some c = (Value.slice (some ⟨g, 0, none⟩) vs.length cV).ownBlock → e = 38 := fun c cs e h1 h2 => by
            obtain ⟨cs2, t2⟩ := hvty c h2.symm
            rw [h1] at t2; cases t2; rfl
          have hP10 : Prs w10 (fun c => G1 c ∨ m.ownBlock = some c) := Prs.keep (w := wq) (fun c hc => hc.elim (fun h => hPq1 c h) fun h => hmty c h) k10 fun c cs e h1 h2 he => by rw [hoff c cs e h1 h2] at he; cases he
          have hP10' := hPq2.keep k10 fun c cs e h1 h2 he => by rw [hoff c cs e h1 h2] at he; cases he
          have hO10 := hOq.frame elA_ok k10 (fun c hc hm => by
            obtain ⟨cs, h1⟩ := hPq2 c hc
            have := hoff c cs _ h1 hm
            cases this) fun b hb hm => by
            obtain ⟨c1, t1⟩ := rows_ty hOq b hb
            have := hoff b c1 _ t1 hm
            cases this
          obtain ⟨am, cm, rfl, _⟩ := hRq.slice
          try simp [-getElem?_pos, -Array.getElem?_eq_getElem, -Int.natCast_add, -op_lit_38_1, -op_lit_38_0, -op_lit_65_1, -op_lit_35_1, -op_st_45, -op_alloc_45, -op_st_64, -op_alloc_64, -op_st_104, -op_alloc_104, -op_st_2, -op_st_3, -op_st_4, -op_st_38, prs_len]
          refine op_store_ok (by kernel_rfl) b10 (by simp) rfl fun w11 k11 z11 b11 => ?_
          have hab3 : ∀ c cs e, w10.heap[c]? = some (.cells cs e (0, 0)) → c = ab → e ≠ 45 := fun c cs e h1 h2 he => by
            subst h2
            rw [b10] at h1; cases h1; cases he
          refine (hJ _ _).2 ⟨.slice none 0 0, _, G2, ⟨((k1K.no kq).old k10 fun c hc => .inr (hlow c hc.symm).1).old k11 fun c hc => .inr (by omega), ?_, hP10.keep k11 hab3, hO10.frame elA_ok k11 (fun c hc hm => ?_) (fun b hb hm => ?_), hP10'.keep k11 hab3, ?_, ?_, fun c hc => nomatch hc⟩⟩
          · rw [hnv]
            refine hR10.frame elV_ok k11 (fun c hc hm => ?_) fun b hb hm => ?_
            · obtain ⟨cs, h1⟩ := hP10 c hc
              exact hab3 _ _ _ h1 hm rfl
            · rcases ho10 with h | ⟨b', h, h'⟩
              · rw [h] at hb; have := hlow b hb; omega
              · rw [h] at hb; cases hb; have := lt_of_get bAq; omega
          · obtain ⟨cs, h1⟩ := hP10' c hc
            exact hab3 _ _ _ h1 hm rfl
          · have := hlowO b hb; omega
          · rw [hany]; simpa using b11
          · rw [hany]; exact IsSl.nil
    have hnone : newV (ordI kn n) kd s L0 = none := by unfold newV; rw [if_neg (by omega), if_neg (by omega), if_neg (by omega), if_neg (by omega)]
    have hx3 : ∀ p : SPr, p.cells.toArray.extract 0 3 = p.cells.toArray := fun p => extract_self (by simp [SPr.cells])
    have hs3 : ∀ p : SPr, 3 ≤ p.cells.length := fun p => Nat.le_refl _
    have nK := kzK.size
    have hlA := lt_of_get bAK
    by_cases h2 : s.op = 2
    · simp [-getElem?_pos, -Array.getElem?_eq_getElem, -Int.natCast_add, -op_lit_38_1, -op_lit_38_0, -op_lit_65_1, -op_lit_35_1, -op_st_45, -op_alloc_45, -op_st_64, -op_alloc_64, -op_st_104, -op_alloc_104, -op_st_2, -op_st_3, -op_st_4, -op_st_38, bSK, h2]
      refine Jn.intro (fun v wx => v = .bool false ∧ wy = wx) ⟨⟨rfl, rfl⟩, ?_⟩
      rintro wx v ⟨rfl, rfl⟩
      have hkl : keyL s = [(kd.key s.key s.text, s.value)] := by unfold keyL; rw [if_neg (by omega)]
      rw [hkl] at hKR
      obtain ⟨gk, ck2, csk, q1, q2, q3, q4, q5⟩ := frow_get hKR (j := 0) (by simp [prsOf])
      subst q1
      simp only [prsOf, List.map_cons, List.map_nil, List.getElem_cons_zero, Nat.zero_mul, Nat.zero_add] at q4 q5
      simp [-getElem?_pos, -Array.getElem?_eq_getElem, -Int.natCast_add, -op_lit_38_1, -op_lit_38_0, -op_lit_65_1, -op_lit_35_1, -op_st_45, -op_alloc_45, -op_st_64, -op_alloc_64, -op_st_104, -op_alloc_104, -op_st_2, -op_st_3, -op_st_4, -op_st_38, bOK, hx2, q2, q4, q5, prs_len]
      refine place_ok hRt hsd (hpvK.still (Frm.drew _)) (by omega) fun w5 k5 => ?_
      have k5 := Frm.dr k5
      have b5 := k5.get bAK fun h => h
      have hansg : ∀ g, got (ordI kn n) L0 (kd.key s.key s.text) = g → ansV (ordI kn n) kd s L0 = match g with | some v => ⟨v, 0, true, []⟩ | none => zeroA := fun g hg => by unfold ansV; rw [if_pos h2, hg]; cases g <;> rfl
      cases hh : has (ordI kn n) L0 (kd.key s.key s.text) with
      | false =>
        have ea := hansg none (by unfold got; rw [if_neg (by simp [hh])])
        simp [-getElem?_pos, -Array.getElem?_eq_getElem, -Int.natCast_add, -op_lit_38_1, -op_lit_38_0, -op_lit_65_1, -op_lit_35_1, -op_st_45, -op_alloc_45, -op_st_64, -op_alloc_64, -op_st_104, -op_alloc_104, -op_st_2, -op_st_3, -op_st_4, -op_st_38]
        exact hsame (pv := .slice none 0 0) hnone k5 (fun _ _ _ _ h => h.elim) (fun _ h => h.elim) (by rw [ea]; exact b5) (by rw [ea]; exact IsSl.nil) fun c hc => nomatch hc
      | true =>
        have hil := has_lt hh
        have ea := hansg (some (L0[place (ordI kn n) L0 (kd.key s.key s.text)]).2) (by unfold got; rw [if_pos hh, List.getElem?_eq_getElem hil]; rfl)
        generalize place (ordI kn n) L0 (kd.key s.key s.text) = j at *
        obtain ⟨a0, c0, rfl, _, _, hr0, _⟩ := hpvK.still k5
        obtain ⟨b, o2, cs2, e2, fz2, rfl, r1, r2, r3⟩ := hr0.part SPr.len (by decide) (i := j) (by rw [prs_len]; exact hil)
        have r4 : cs2[o2 + j * 3 + 2]? = some (.int .i64 (L0[j]).2) := by
          have := congrArg (fun a : Array Value => a[2]?) r3
          simp only [Array.getElem?_extract, prsOf, List.getElem_map] at this
          rw [if_pos (by omega)] at this
          rw [this]; rfl
        simp [-getElem?_pos, -Array.getElem?_eq_getElem, -Int.natCast_add, -op_lit_38_1, -op_lit_38_0, -op_lit_65_1, -op_lit_35_1, -op_st_45, -op_alloc_45, -op_st_64, -op_alloc_64, -op_st_104, -op_alloc_104, -op_st_2, -op_st_3, -op_st_4, -op_st_38, r1, r4]
        refine ⟨hil, ?_⟩
        refine op_store_ok (by kernel_rfl) b5 (by simp) rfl fun w8 k8 z8 b8 => ?_
        refine op_store_ok (by kernel_rfl) b8 (by simp) rfl fun w9 k9 z9 b9 => ?_
        refine hsame (M := (· = ab)) (pv := .slice none 0 0) hnone ((k5.fst k8).trans k9 fun _ h _ => h) (fun _ _ _ _ h => h) (fun _ h => by omega) (by rw [ea]; simpa using b9) (by rw [ea]; exact IsSl.nil) fun c hc => nomatch hc
    by_cases h3 : s.op = 3
    · have ea : ansV (ordI kn n) kd s L0 = ⟨0, L0.length, false, prsOf kd L0⟩ := by unfold ansV; rw [if_neg h2, if_pos h3]; rfl
      simp [-getElem?_pos, -Array.getElem?_eq_getElem, -Int.natCast_add, -op_lit_38_1, -op_lit_38_0, -op_lit_65_1, -op_lit_35_1, -op_st_45, -op_alloc_45, -op_st_64, -op_alloc_64, -op_st_104, -op_alloc_104, -op_st_2, -op_st_3, -op_st_4, -op_st_38, bSK, h3]
      refine Jn.intro (fun v wx => v = .bool false ∧ wy = wx) ⟨⟨rfl, rfl⟩, ?_⟩
      rintro wx v ⟨rfl, rfl⟩
      try simp [-getElem?_pos, -Array.getElem?_eq_getElem, -Int.natCast_add, -op_lit_38_1, -op_lit_38_0, -op_lit_65_1, -op_lit_35_1, -op_st_45, -op_alloc_45, -op_st_64, -op_alloc_64, -op_st_104, -op_alloc_104, -op_st_2, -op_st_3, -op_st_4, -op_st_38]
      refine op_row0 (f := SPr.cells) (base := wy.heap.size) apP lit_pr0 (Nat.le_refl _) fun l4 w4 k4 hR4 ho4 => ?_
      refine op_concatF apP SPr.len (fun p => SPr.one p) hR4 (zs := prsOf kd L0) (by rw [prs_len]; exact hpvK.still k4) (by simp [prs_len]; omega) k4.size fun l5 w5 k5 hR5 ho5 => ?_
      rw [List.nil_append] at hR5
      have hlow4 := hR4.own_lt
      have k45 : Frm (fun _ => False) wy w5 := k4.old k5 fun c hc => .inr (hlow4 c hc.symm).1
      have b5 := k45.get bAK fun h => h
      obtain ⟨a0, c0, rfl, _⟩ := id hpvK
      try simp [-getElem?_pos, -Array.getElem?_eq_getElem, -Int.natCast_add, -op_lit_38_1, -op_lit_38_0, -op_lit_65_1, -op_lit_35_1, -op_st_45, -op_alloc_45, -op_st_64, -op_alloc_64, -op_st_104, -op_alloc_104, -op_st_2, -op_st_3, -op_st_4, -op_st_38, prs_len]
      refine op_store_ok (by kernel_rfl) b5 (by simp) hR5.one fun w8 k8 z8 b8 => ?_
      refine op_store_ok (by kernel_rfl) b8 (by simp) rfl fun w9 k9 z9 b9 => ?_
      have k59 : Frm (· = ab) w5 w9 := k8.trans k9 fun _ h _ => h
      have hlow5 := hR5.own_lt
      have hty5 := rows_ty hR5
      refine hsame (M := (· = ab)) (pv := l5) hnone (k45.fst k59) (fun _ _ _ _ h => h) (fun _ h => by omega) (by rw [ea]; simpa using b9) ?_ fun c hc => ?_
      · rw [ea]; exact hR5.flat.frame k59 fun c hc => by have := hlow5 c hc; omega
      · have := hlow5 c hc
        obtain ⟨cs', h1⟩ := hty5 c hc
        exact ⟨by omega, cs', k59.get h1 (by omega)⟩
    by_cases h4 : s.op = 4
    · have ea : ansV (ordI kn n) kd s L0 = ⟨0, L0.length, false, prsOf kd L0.reverse⟩ := by unfold ansV; rw [if_neg h2, if_neg h3, if_pos h4]; rfl
      simp [-getElem?_pos, -Array.getElem?_eq_getElem, -Int.natCast_add, -op_lit_38_1, -op_lit_38_0, -op_lit_65_1, -op_lit_35_1, -op_st_45, -op_alloc_45, -op_st_64, -op_alloc_64, -op_st_104, -op_alloc_104, -op_st_2, -op_st_3, -op_st_4, -op_st_38, bSK, h4]
      refine Jn.intro (fun v wx => v = .bool false ∧ wy = wx) ⟨⟨rfl, rfl⟩, ?_⟩
      rintro wx v ⟨rfl, rfl⟩
      obtain ⟨a0, c0, rfl, _, _, hr0, _⟩ := id hpvK
      try simp [-getElem?_pos, -Array.getElem?_eq_getElem, -Int.natCast_add, -op_lit_38_1, -op_lit_38_0, -op_lit_65_1, -op_lit_35_1, -op_st_45, -op_alloc_45, -op_st_64, -op_alloc_64, -op_st_104, -op_alloc_104, -op_st_2, -op_st_3, -op_st_4, -op_st_38]
      obtain ⟨I2, hI2⟩ : ∃ I2 : KV, ∀ v wz, I2 v wz ↔ ∃ (q : Nat) (pv : Value), v = .int .i64 q ∧ q ≤ L0.length ∧ Frm (· = ab) wy wz ∧
          wz.heap[ab]? = some (.cells #[.int .i64 0, .int .i64 0, .bool false, pv] 104 (0, 0)) ∧ PRow wz wy.heap.size pv (prsOf kd (L0.reverse.take q)) := ⟨_, fun _ _ => Iff.rfl⟩
      refine Lp.intro I2 (fun v _ => L0.length - nOf v) ⟨(hI2 _ _).2 ⟨0, _, rfl, by omega, Frm.refl, bAK, rows_nil⟩, ?_⟩
      intro wq v hm
      obtain ⟨q, pv, rfl, hq2, kq, bq, hRq⟩ := (hI2 _ _).1 hm
      have nq := kq.size
      have hlowq := hRq.own_lt
      simp only [op_lss, Br_dec]
      refine ⟨fun hlt2 => ?_, fun hge => ?_⟩
      · have hq' : q < L0.length := by omega
        have kd0 : Frm (fun _ => False) wq wq.drew := Frm.drew wq
        have e1 : IntKind.i64.wrap (IntKind.i64.wrap ((L0.length : Int) - 1) - q) = ((L0.length - 1 - q : Nat) : Int) := by rw [IntKind.wrap_i64, IntKind.wrap_i64]; omega
        obtain ⟨b, o2, cs2, e2, fz2, rfl, r1, r2, r3⟩ := (hr0.frame (kq.trans kd0 fun _ h _ => h.elim) fun p hp he => by
          obtain ⟨csp, hp1⟩ := hPK1 p.block (hpG _ (by subst hp; rfl))
          rw [show p.block = ab from he, bAK] at hp1; cases hp1).part SPr.len (by decide) (i := L0.length - 1 - q) (by rw [prs_len]; omega)
        have hel : (prsOf kd L0)[L0.length - 1 - q]'(by rw [prs_len]; omega) = kd.pair (L0.reverse[q]'(by rw [List.length_reverse]; exact hq')).1 (L0.reverse[q]'(by rw [List.length_reverse]; exact hq')).2 := by
          simp [prsOf]
        have htq : L0.reverse.take (q + 1) = L0.reverse.take q ++ [L0.reverse[q]'(by rw [List.length_reverse]; exact hq')] := List.take_succ_eq_append_getElem _
        rw [hel] at r3
        generalize L0.reverse[q]'(by rw [List.length_reverse]; exact hq') = el at *
        have r1' : wq.heap[b]? = some (.cells cs2 e2 fz2) := by simpa using r1
        simp [-getElem?_pos, -Array.getElem?_eq_getElem, -Int.natCast_add, -op_lit_38_1, -op_lit_38_0, -op_lit_65_1, -op_lit_35_1, -op_st_45, -op_alloc_45, -op_st_64, -op_alloc_64, -op_st_104, -op_alloc_104, -op_st_2, -op_st_3, -op_st_4, -op_st_38, bq, e1, r1', r2, r3]
        refine ⟨by omega, ?_⟩
        have bqd : wq.drew.heap[ab]? = some (.cells #[.int .i64 0, .int .i64 0, .bool false, pv] 104 (0, 0)) := kd0.get bq fun h => h
        have hlen : (prsOf kd (L0.reverse.take q)).length = q := by rw [prs_len, List.length_take, List.length_reverse]; omega
        have hsm : ∀ {wu : World}, Frm (fun b => some b = pv.ownBlock) wq.drew wu ∨ Frm (fun _ => False) wq.drew wu → wu.heap[ab]? = some (.cells #[.int .i64 0, .int .i64 0, .bool false, pv] 104 (0, 0)) := fun {wu} h => by
          rcases h with h | h
          · exact h.get bqd fun he => by have := hlowq ab he.symm; omega
          · exact h.get bqd fun h => h
        refine op_pushQ (lit_pr (kd.pair el.1 el.2)) (fun w1 h1 => ⟨_, ⟨_, _, _, hsm (.inr h1)⟩, rfl⟩) ?_
        refine op_push (u := (kd.pair el.1 el.2).cells) (y := kd.pair el.1 el.2) (flat_ok SPr.cells) apP (lit_pr _) rfl (SPr.one _) (frow_still hRq (Frm.drew wq)) rfl (G2 := fun _ => False) (fun _ h => h.elim) (fun _ _ h => h) (by omega) nq fun l' w12 k12 hR12 ho12 => ?_
        have b12 := hsm (.inl k12)
        have n12 := k12.size
        have hlow12 := hR12.own_lt
        refine op_store_ok (by kernel_rfl) b12 (by simp) hR12.one fun w13 k13 z13 b13 => ?_
        try simp [-getElem?_pos, -Array.getElem?_eq_getElem, -Int.natCast_add, -op_lit_38_1, -op_lit_38_0, -op_lit_65_1, -op_lit_35_1, -op_st_45, -op_alloc_45, -op_st_64, -op_alloc_64, -op_st_104, -op_alloc_104, -op_st_2, -op_st_3, -op_st_4, -op_st_38]
        rw [show IntKind.i64.wrap ((q : Int) + 1) = ((q + 1 : Nat) : Int) from by rw [IntKind.wrap_i64]; omega]
        refine ⟨(hI2 _ _).2 ⟨q + 1, l', rfl, by omega, ?_, by simpa using b13, ?_⟩, by simp only [nOf_int]; omega⟩
        · exact ((kq.trans kd0 fun _ h _ => h.elim).old k12 fun c hc => .inr (hlowq c hc.symm).1).trans k13 fun _ h _ => h
        · rw [htq, show ∀ A B : List (Ky × Vl), prsOf kd (A ++ B) = prsOf kd A ++ prsOf kd B from fun A B => by simp [prsOf]]
          have hR12' : PRow w12 wy.heap.size l' (prsOf kd (L0.reverse.take q) ++ [kd.pair el.1 el.2]) := hR12.mono (flat_ok _) (fun _ h => h.elim id fun h => h) (fun _ h => h.elim) fun _ _ h => h
          exact frow_frame hR12' k13 fun b hb he => by have := hlow12 b hb; omega
      · have : q = L0.length := by omega
        subst this
        rw [List.take_of_length_le (by rw [List.length_reverse]; omega)] at hRq
        try simp [-getElem?_pos, -Array.getElem?_eq_getElem, -Int.natCast_add, -op_lit_38_1, -op_lit_38_0, -op_lit_65_1, -op_lit_35_1, -op_st_45, -op_alloc_45, -op_st_64, -op_alloc_64, -op_st_104, -op_alloc_104, -op_st_2, -op_st_3, -op_st_4, -op_st_38]
        refine op_store_ok (by kernel_rfl) bq (by simp) rfl fun w9 k9 z9 b9 => ?_
        have hty := rows_ty hRq
        refine hsame (M := (· = ab)) (pv := pv) hnone (kq.trans k9 fun _ h _ => h) (fun _ _ _ _ h => h) (fun _ h => by omega) (by rw [ea]; simpa using b9) ?_ fun c hc => ?_
        · rw [ea]; exact hRq.flat.frame k9 fun c hc => by have := hlowq c hc; omega
        · have := hlowq c hc
          obtain ⟨cs', h1⟩ := hty c hc
          exact ⟨by omega, cs', k9.get h1 (by omega)⟩
    · omega
  · intro w9 l' hm
    obtain ⟨pv, G1', G2', hmid⟩ := (hJ _ _).1 hm
    obtain ⟨kf, hvs, hp1, hos, hp2, hcell, hrow, hown⟩ := hmid
    have hlA := lt_of_get hcell
    have n9 := kf.size
    have hla : an.length = i := by omega
    have hlowO9 := hos.own_lt
    have hoty := rows_ty hos
    have hvty := rows_ty hvs
    have hx4 : (#[.int .i64 (ansV (ordI kn n) kd s L0).value, .int .i64 (ansV (ordI kn n) kd s L0).n, .bool (ansV (ordI kn n) kd s L0).ok, pv] : Array Value).extract 0 4 = #[.int .i64 (ansV (ordI kn n) kd s L0).value, .int .i64 (ansV (ordI kn n) kd s L0).n, .bool (ansV (ordI kn n) kd s L0).ok, pv] := rfl
    simp [-getElem?_pos, -Array.getElem?_eq_getElem, -Int.natCast_add, -op_lit_38_1, -op_lit_38_0, -op_lit_65_1, -op_lit_35_1, -op_st_45, -op_alloc_45, -op_st_64, -op_alloc_64, -op_st_104, -op_alloc_104, -op_st_2, -op_st_3, -op_st_4, -op_st_38, hcell, hx4]
    refine op_push (u := [.int .i64 (ansV (ordI kn n) kd s L0).value, .int .i64 (ansV (ordI kn n) kd s L0).n, .bool (ansV (ordI kn n) kd s L0).ok, pv]) (y := ansV (ordI kn n) kd s L0) (G2 := fun c => pv.ownBlock = some c) elA_ok apB (lit_an _ _ _ _) rfl (fun u hu => ?_) hos ⟨pv, rfl, hrow, fun _ h => h⟩ (fun c hc => ?_) (fun b hb hc => ?_) (by omega) (by omega) fun o' w12 k12 hO12 ho12 => ?_
    · simp only [List.mem_cons, List.not_mem_nil, or_false] at hu
      rcases hu with rfl | rfl | rfl | rfl
      · rfl
      · rfl
      · rfl
      · exact hrow.one
    · obtain ⟨h1, cs', h2⟩ := hown c hc; have := lt_of_get h2; omega
    · obtain ⟨c2, t2⟩ := hoty b hb
      obtain ⟨h1, cs', h2⟩ := hown b hc
      rw [h2] at t2; cases t2
    · try simp [-getElem?_pos, -Array.getElem?_eq_getElem, -Int.natCast_add, -op_lit_38_1, -op_lit_38_0, -op_lit_65_1, -op_lit_35_1, -op_st_45, -op_alloc_45, -op_st_64, -op_alloc_64, -op_st_104, -op_alloc_104, -op_st_2, -op_st_3, -op_st_4, -op_st_38]
      rw [show IntKind.i64.wrap ((i : Int) + 1) = ((i + 1 : Nat) : Int) from by rw [IntKind.wrap_i64]; omega]
      have hno : ∀ c cs e, w9.heap[c]? = some (.cells cs e (0, 0)) → some c = out.ownBlock → e ≠ 45 := fun c cs e h1 h2 he => by
        obtain ⟨c2, t2⟩ := hoty c h2.symm
        rw [h1] at t2; cases t2; cases he
      refine ⟨(hI _ _ _ _).2 ⟨i + 1, G1', fun c => G2' c ∨ pv.ownBlock = some c, rfl, by omega, kf.old k12 fun c hc => .inr (hlowO9 c hc.symm).1, ?_, hp1.keep k12 hno, ?_, ?_⟩, by simp only [nOf_int]; omega⟩
      · rw [hsnoc]
        refine hvs.frame elV_ok k12 (fun c hc hm => ?_) fun b hb hm => ?_
        · obtain ⟨cs, h1⟩ := hp1 c hc
          exact hno _ _ _ h1 hm rfl
        · obtain ⟨c1, t1⟩ := hvty b hb
          obtain ⟨c2, t2⟩ := hoty b hm.symm
          rw [t1] at t2; cases t2
      · rw [hsnoc]; exact hO12
      · exact Prs.keep (w := w9) (fun c hc => hc.elim (fun h => hp2 c h) fun h => (hown c h).2) k12 hno
end Go.Proofs.YtodjijfblgnfmaaGreatDoor.I
end
section
namespace Go.Proofs.YtodjijfblgnfmaaGreatDoor.T
open Go.Vc Go.Proofs Go.Proofs.YtodjijfblgnfmaaGreatDoor Go.Vc.Bt
variable {w w' : World} {K : KV} {Kp : KP} {n : Int} {kn : Nat} {k k' : Ky} {x x' : Vl} {V : List (Ky × Vl)} {lv : Value}
abbrev tx : Bool := true
theorem cmpP : cmpS tx kn n (kd.pair k x) (kd.pair k' x') = Bt.cmp (ordI kn n) k k' := rfl
theorem compareP_ok (hR : Right kn n) (hK : ∀ w', Frm (fun _ => False) w w' → K (.int .i64 (Bt.cmp (ordI kn n) k k')) w') : Calls Tryz.prog 34 #[orderV kn n, .bool tx, .agg (kd.pair k x).cells.toArray, .agg (kd.pair k' x').cells.toArray] w (ret K Kp) := by
  refine compareS_ok hR fun w' hf => ?_
  rw [cmpP]
  exact hK w' hf
theorem cmp_lt0 {lt : Ky → Ky → Bool} {a b : Ky} : (Bt.cmp lt a b < 0) ↔ lt a b = true := by
  unfold Bt.cmp
  split
  · rename_i h; simp [h]
  · rename_i h; split <;> simp [h]
theorem place_eq {lt : Ky → Ky → Bool} {i : Nat} (hi : i ≤ V.length) (h0 : ∀ j (hj : j < V.length), j < i → lt V[j].1 k = true) (h1 : ∀ hi : i < V.length, lt V[i].1 k = false) : place lt V k = i := by
  unfold place
  by_cases hl : i < V.length
  · rw [List.findIdx_eq hl]
    refine ⟨by simp [h1 hl], fun j hj => by simp [h0 j (by omega) hj]⟩
  · rw [show i = V.length from by omega, List.findIdx_eq_length]
    intro e he
    obtain ⟨j, hj, rfl⟩ := List.mem_iff_getElem.1 he
    simp [h0 j hj (by omega)]
theorem place_ok (hR : Right kn n) (hs : Sd (ordI kn n) V) (hl : IsSl w lv V.length ((prsOf kd V).flatMap SPr.cells)) (hn : V.length < 2 ^ 40)
    (hK : ∀ w', Frm (fun _ => False) w w' → K (.tuple #[.int .i64 (place (ordI kn n) V k : Nat), .bool (has (ordI kn n) V k)]) w') :
    Calls Tryz.prog 48 #[orderV kn n, .bool tx, lv, .agg (kd.pair k x).cells.toArray] w (ret K Kp) := by
  obtain ⟨a, c, rfl, hc, hm, hr, _⟩ := hl
  refine vc48_calls ?_
  delta vc48 orderV
  refine op_box_ok fun w1 k1 z1 b1 => op_box_ok fun w2 k2 z2 b2 => ?_
  simp only [cells_agg] at b1 b2
  have b1 := k2.get b1 fun h => h
  have k12 := k1.no k2
  have hx2 : (#[.int .u8 kn, .int .i64 n] : Array Value).extract 0 2 = #[.int .u8 kn, .int .i64 n] := rfl
  have hx3 : ∀ p : SPr, p.cells.toArray.extract 0 3 = p.cells.toArray := fun p => extract_self (by simp [SPr.cells])
  have hs3 : ∀ p : SPr, 3 ≤ p.cells.length := fun p => Nat.le_refl _
  have hpl : (prsOf kd V).length = V.length := by simp [prsOf]
  have hpg : ∀ i (hi : i < V.length), (prsOf kd V)[i]'(by omega) = kd.pair V[i].1 V[i].2 := fun i hi => by simp [prsOf]
  simp [-getElem?_pos, -Array.getElem?_eq_getElem, -Int.natCast_add, add_spot, and_assoc, Br_dec]
  obtain ⟨I, hI⟩ : ∃ I : Value → KV, ∀ u v wl, I u v wl ↔ ∃ i j : Nat, u = .int .i64 i ∧ v = .int .i64 j ∧ i ≤ j ∧ j ≤ V.length ∧ Frm (fun _ => False) w2 wl ∧ (∀ q (hq : q < V.length), q < i → ordI kn n V[q].1 k = true) ∧ ∀ q (hq : q < V.length), j ≤ q → ordI kn n V[q].1 k = false := ⟨_, fun _ _ _ => Iff.rfl⟩
  refine Lp.intro I (fun u v _ => nOf v - nOf u) ⟨(hI _ _ _).2 ⟨0, V.length, rfl, rfl, by omega, by omega, Frm.refl, fun q hq h => by omega, fun q hq h => by omega⟩, ?_⟩
  intro wl u v hv
  obtain ⟨i, j, rfl, rfl, hij, hjl, kl, hlo, hhi⟩ := (hI _ _ _).1 hv
  have b1l := kl.get b1 fun h => h
  have b2l := kl.get b2 fun h => h
  simp only [op_lss, Br_dec]
  refine ⟨fun hlt => ?_, fun hge => ?_⟩
  · have e0 : IntKind.i64.wrap ((i : Int) + j) = ((i + j : Nat) : Int) := by rw [IntKind.wrap_i64]; omega
    obtain ⟨q, hqd⟩ : ∃ q, q = (i + j) / 2 := ⟨_, rfl⟩
    have hq : q < V.length := by omega
    have e1 : IntKind.i64.wrap (((i + j : Nat) : Int) / 2) = (q : Int) := by rw [IntKind.wrap_i64]; omega
    obtain ⟨b, o, cs, e, fz, rfl, q1, q2, q3⟩ := (hr.frame ((k12.no kl).no (Frm.drew wl)) fun _ _ h => h).part SPr.len (by decide) (i := q) (by omega)
    rw [hpg _ hq] at q3
    have q1' : wl.heap[b]? = some (.cells cs e fz) := by simpa using q1
    simp [-getElem?_pos, -Array.getElem?_eq_getElem, -Int.natCast_add, e0, e1, b1l, b2l, hx2, hx3, hs3, q1', q2, q3]
    have hqi : i ≤ q := by omega
    have hqj : q < j := by omega
    refine ⟨hq, compareP_ok hR fun w5 k5 => ?_⟩
    have k5 := kl.no (Frm.dr k5)
    have elt := cmp_lt0 (lt := ordI kn n) (a := V[q].1) (b := k)
    simp [-getElem?_pos, -Array.getElem?_eq_getElem, -Int.natCast_add, elt]
    refine ⟨fun h => ⟨(hI _ _ _).2 ⟨q + 1, j, by rw [show IntKind.i64.wrap ((q : Int) + 1) = ((q + 1 : Nat) : Int) from by rw [IntKind.wrap_i64]; omega], rfl, by omega, hjl, k5, fun p hp hpq => ?_, hhi⟩, ?_⟩, fun h => ⟨(hI _ _ _).2 ⟨i, q, rfl, rfl, by omega, by omega, k5, hlo, fun p hp hpq => ?_⟩, by simp only [nOf_int]; omega⟩⟩
    · by_cases e : p = q
      · subst e; exact h
      · have h1 := List.pairwise_iff_getElem.1 hs p q hp hq (by omega)
        exact ordI_lin.tr h1 h
    · rw [show IntKind.i64.wrap ((q : Int) + 1) = ((q + 1 : Nat) : Int) from by rw [IntKind.wrap_i64]; omega]
      simp only [nOf_int]; omega
    · by_cases e : p = q
      · subst e; exact h
      · have h1 := List.pairwise_iff_getElem.1 hs q p hq hp (by omega)
        cases hc : ordI kn n V[p].1 k with
        | false => rfl
        | true => rw [ordI_lin.tr h1 hc] at h; cases h
  · have hij' : i = j := by omega
    subst hij'
    have hp : place (ordI kn n) V k = i := place_eq hjl (fun j hj h => hlo j hj h) (fun hi => hhi i hi (Nat.le_refl _))
    rw [hp] at hK
    have hhas : has (ordI kn n) V k = if h : i < V.length then decide (V[i].1 = k) else false := by
      unfold has
      rw [hp]
      split
      · rename_i e h
        obtain ⟨h1, h2⟩ := List.getElem?_eq_some_iff.1 h
        rw [dif_pos h1, h2]
      · rename_i h
        rw [dif_neg (by rw [List.getElem?_eq_none_iff] at h; omega)]
    simp [-getElem?_pos, -Array.getElem?_eq_getElem, -Int.natCast_add, add_spot, and_assoc, Br_dec]
    refine ⟨fun hil => ?_, fun hge => ?_⟩
    · have hil : i < V.length := by omega
      rw [dif_pos hil] at hhas
      obtain ⟨b, o, cs, e, fz, rfl, q1, q2, q3⟩ := (hr.frame (k12.no kl) fun _ _ h => h).part SPr.len (by decide) (i := i) (by omega)
      rw [hpg _ hil] at q3
      simp [-getElem?_pos, -Array.getElem?_eq_getElem, -Int.natCast_add, b1l, b2l, hx2, hx3, hs3, q1, q2, q3]
      refine ⟨hil, compareP_ok hR fun w5 k5 => ?_⟩
      have ez : decide (Bt.cmp (ordI kn n) V[i].1 k = 0) = decide (V[i].1 = k) := decide_eq_decide.2 (cmp_zero ordI_lin)
      simp [-getElem?_pos, -Array.getElem?_eq_getElem, -Int.natCast_add, add_spot, and_assoc, Br_dec]
      rw [ez, ← hhas]
      exact hK w5 ((k12.no kl).no (Frm.dr k5))
    · rw [dif_neg (by omega)] at hhas
      rw [hhas] at hK
      exact hK _ ((k12.no kl).no (Frm.drew _))
end Go.Proofs.YtodjijfblgnfmaaGreatDoor.T
end
section
namespace Go.Proofs.YtodjijfblgnfmaaGreatDoor.T
open Go.Vc Go.Proofs Go.Proofs.YtodjijfblgnfmaaGreatDoor Go.Vc.Bt
variable {w w' : World} {K : KV} {Kp : KP} {n : Int} {kn base : Nat} {k : Ky} {x : Vl} {V : List (Ky × Vl)} {l : Value} {p : SPr}
abbrev PRow (w : World) (base : Nat) (l : Value) (L : List SPr) : Prop := FRow SPr.cells w base 45 3 l L
theorem apP : apOf Tryz.prog 38 = some (45, 3, 32) := by kernel_rfl
theorem lit_pr (p : SPr) : sliceLit Tryz.prog 38 1 [(0, .agg p.cells.toArray)] = some (45, p.cells.toArray) := lit_38_1
theorem prs_set {i : Nat} : prsOf kd (V.set i (k, x)) = (prsOf kd V).set i (kd.pair k x) := by simp [prsOf, List.map_set]
theorem prs_ins {i : Nat} : prsOf kd (V.take i ++ (k, x) :: V.drop i) = (prsOf kd V).take i ++ kd.pair k x :: (prsOf kd V).drop i := by simp [prsOf, List.map_take, List.map_drop]
theorem prs_len : (prsOf kd V).length = V.length := by simp [prsOf]
theorem put_ok (hR : Right kn n) (hs : Sd (ordI kn n) V) (hl : PRow w base l (prsOf kd V)) (hn : V.length < 2 ^ 40) (hb : base ≤ w.heap.size)
    (hK : ∀ l' w', Frm (fun b => some b = l.ownBlock) w w' → PRow w' base l' (prsOf kd (Bt.put (ordI kn n) V k x)) → K l' w') :
    Calls Tryz.prog 46 #[orderV kn n, .bool tx, l, .agg (kd.pair k x).cells.toArray] w (ret K Kp) := by
  refine vc46_calls ?_
  delta vc46 orderV
  refine op_box_ok fun w1 k1 z1 b1 => op_box_ok fun w2 k2 z2 b2 => ?_
  simp only [cells_agg] at b1 b2
  have b1 := k2.get b1 fun h => h
  have k12 := k1.no k2
  have hx2 : (#[.int .u8 kn, .int .i64 n] : Array Value).extract 0 2 = #[.int .u8 kn, .int .i64 n] := rfl
  have hx3 : ∀ p : SPr, p.cells.toArray.extract 0 3 = p.cells.toArray := fun p => extract_self (by simp [SPr.cells])
  have hs3 : ∀ p : SPr, 3 ≤ p.cells.length := fun p => Nat.le_refl _
  have hpl := prs_len (V := V)
  simp [-getElem?_pos, -Array.getElem?_eq_getElem, -Int.natCast_add, -op_lit_38_1, -op_st_45, b1, b2, hx2, hx3, hs3]
  have hfl := (frow_still hl k12).flat
  rw [hpl] at hfl
  refine place_ok (k := k) (x := x) hR hs hfl hn fun w3 k3 => ?_
  have k13 := k12.no k3
  have b13 := k3.get b1 fun h => h
  have b23 := k3.get b2 fun h => h
  have hl3 := frow_still hl k13
  have hlow := hl3.own_lt
  have n3 := k13.size
  have hlow0 := hl.own_lt
  cases hh : has (ordI kn n) V k with
  | true =>
    have hi := has_lt hh
    obtain ⟨g, cap, rfl, hg1, hg2, hg3, hg4⟩ := FRow.rw' hl3 (by omega)
    have hput : Bt.put (ordI kn n) V k x = V.set (place (ordI kn n) V k) (k, x) := by unfold Bt.put; rw [if_pos hh]
    rw [hput] at hK
    have hi' : place (ordI kn n) V k < (prsOf kd V).length := by omega
    generalize place (ordI kn n) V k = i at *
    simp [-getElem?_pos, -Array.getElem?_eq_getElem, -Int.natCast_add, -op_lit_38_1, -op_st_45, b23, hx3, hs3]
    refine ⟨hi', ?_⟩
    refine op_store_frow (f := SPr.cells) (by kernel_rfl) SPr.len (fun p => SPr.one p) hl3 hi' fun w4 k4 z4 hl4 => ?_
    rw [← prs_set] at hl4
    refine hK _ w4 (k13.fst (k4.to fun b hb => by subst hb; rfl)) ?_
    rw [show (prsOf kd V).length = (prsOf kd (V.set i (k, x))).length from by simp [prsOf]] at hl4
    rw [show (prsOf kd V).length = (prsOf kd (V.set i (k, x))).length from by simp [prsOf]]
    exact hl4
  | false =>
    have hi := place_le (lt := ordI kn n) V k
    have hput : Bt.put (ordI kn n) V k x = V.take (place (ordI kn n) V k) ++ (k, x) :: V.drop (place (ordI kn n) V k) := by unfold Bt.put; rw [if_neg (by simp [hh])]
    rw [hput] at hK
    generalize place (ordI kn n) V k = i at *
    simp [-getElem?_pos, -Array.getElem?_eq_getElem, -Int.natCast_add, -op_lit_38_1, -op_st_45]
    have ez : (#[.int .i64 0, .string ByteArray.empty, .int .i64 0] : Array Value) = (⟨0, ByteArray.empty, 0⟩ : SPr).cells.toArray := by simp [SPr.cells]
    rw [ez]
    generalize hz0 : (⟨0, ByteArray.empty, 0⟩ : SPr) = z at *
    refine op_push (u := z.cells) (y := z) (G2 := fun _ => False) (flat_ok SPr.cells) apP (lit_pr z) rfl (SPr.one _) hl3 rfl (fun _ h => h.elim) (fun _ _ h => h) (by rw [hpl]; omega) (by omega) fun l4 w4 k4 hl4 ho4 => ?_
    have hl4 : PRow w4 base l4 (prsOf kd V ++ [z]) := hl4.mono (flat_ok _) (fun _ h => h.elim id fun h => h) (fun _ h => h.elim) fun _ _ h => h
    obtain ⟨g, cap, rfl, hg1, hg2, hg3, hg4⟩ := FRow.rw' hl4 (by simp)
    have hlen4 : (prsOf kd V ++ [z]).length = V.length + 1 := by simp [hpl]
    rw [hlen4] at hg3
    have b24 : w4.heap[w1.heap.size]? = some (.cells (kd.pair k x).cells.toArray 45 (0, 0)) := k4.get b23 fun he => by have := hlow0 _ he.symm; have := k1.size; omega
    have e1 : IntKind.i64.wrap ((i : Int) + 1) = ((i + 1 : Nat) : Int) := by rw [IntKind.wrap_i64]; omega
    rw [hlen4]
    simp [-getElem?_pos, -Array.getElem?_eq_getElem, -Int.natCast_add, -op_lit_38_1, -op_st_45, e1, pur_cut_lo (P := Tryz.prog) (t := 38) (e := 45) (s := 3) (by kernel_rfl)]
    refine ⟨hi, hg3, by omega, hg3, ?_⟩
    have hfl4 : ((prsOf kd V ++ [z]).flatMap SPr.cells).length = (V.length + 1) * 3 := by rw [flatMap_len SPr.len, hlen4]
    refine op_copyX (s := 3) (x1 := i + 1) (x2 := i) (n := V.length - i) (g := g) (q := g) (by kernel_rfl) hg4.drew hg4.drew ?_ ?_ (by omega) (by omega) (by omega) (fun v hv => ?_) fun w5 k5 z5 r5 => ?_
    · split
      · exact .inr ⟨rfl, by omega⟩
      · exact .inl rfl
    · rw [if_neg (by omega)]; exact .inl rfl
    · obtain ⟨q, _, hq⟩ := List.mem_flatMap.1 hv
      exact SPr.one q v hq
    have k45 : Frm (· = g) w4 w5 := (Frm.drew _).fst k5
    have hne : ¬ w1.heap.size = g := by
      have := k1.size
      rcases ho4 with h | ⟨b, h, h'⟩
      · have := hlow0 g (by rw [← h]; rfl); omega
      · have : g = b := Option.some.inj h
        have := lt_of_get b23; omega
    have b25 := k45.get b24 hne
    simp [-getElem?_pos, -Array.getElem?_eq_getElem, -Int.natCast_add, -op_lit_38_1, -op_st_45, b25, hx3, hs3]
    refine ⟨by omega, ?_⟩
    refine op_storeRN (n := 3) (by kernel_rfl) (by simp [SPr.cells]) r5 (by rw [lw_len (by simp only [List.length_take, List.length_drop]; omega)]; omega) (fun u hu => SPr.one _ u (by simpa using hu)) fun w6 k6 z6 r6 => ?_
    have hri := row_ins (f := SPr.cells) SPr.len (ys := prsOf kd V) (i := i) (by omega) z (kd.pair k x)
    rw [hpl] at hri
    rw [show (kd.pair k x).cells.toArray.toList = (kd.pair k x).cells from rfl, hri, ← prs_ins] at r6
    have hlr : (prsOf kd (V.take i ++ (k, x) :: V.drop i)).length = V.length + 1 := by rw [prs_len]; simp; omega
    have hfin := FRow.of_rw SPr.len r6 hg1 (by rw [hlr]; exact hg3)
    rw [hlr] at hfin
    have k46 : Frm (· = g) w4 w6 := k45.trans k6 fun _ h _ => h
    refine hK _ w6 ((k13.fst k4).old k46 fun b hb => ?_) hfin
    rcases ho4 with h | ⟨q, h, h'⟩
    · exact .inl (by rw [hb, ← h]; rfl)
    · have : g = q := Option.some.inj h
      exact .inr (by omega)
end Go.Proofs.YtodjijfblgnfmaaGreatDoor.T
end
section
namespace Go.Proofs.YtodjijfblgnfmaaGreatDoor.T
open Go.Vc Go.Proofs Go.Proofs.YtodjijfblgnfmaaGreatDoor Go.Vc.Bt
variable {w w' : World} {K : KV} {Kp : KP} {n : Int} {kn base : Nat} {k : Ky} {x : Vl} {V : List (Ky × Vl)} {l : Value} {p : SPr} {s : SSt}
theorem drop_ok (hR : Right kn n) (hs : Sd (ordI kn n) V) (hl : PRow w base l (prsOf kd V)) (hn : V.length < 2 ^ 40) (hb : base ≤ w.heap.size)
    (hK : ∀ l' w', Frm (fun b => some b = l.ownBlock) w w' → PRow w' base l' (prsOf kd (rem (ordI kn n) V k)) → K l' w') :
    Calls Tryz.prog 47 #[orderV kn n, .bool tx, l, .agg (kd.pair k x).cells.toArray] w (ret K Kp) := by
  refine vc47_calls ?_
  delta vc47 orderV
  refine op_box_ok fun w1 k1 z1 b1 => op_box_ok fun w2 k2 z2 b2 => ?_
  simp only [cells_agg] at b1 b2
  have b1 := k2.get b1 fun h => h
  have k12 := k1.no k2
  have hx2 : (#[.int .u8 kn, .int .i64 n] : Array Value).extract 0 2 = #[.int .u8 kn, .int .i64 n] := rfl
  have hx3 : ∀ p : SPr, p.cells.toArray.extract 0 3 = p.cells.toArray := fun p => extract_self (by simp [SPr.cells])
  have hs3 : ∀ p : SPr, 3 ≤ p.cells.length := fun p => Nat.le_refl _
  have hpl := prs_len (V := V)
  simp [-getElem?_pos, -Array.getElem?_eq_getElem, -Int.natCast_add, -op_lit_38_1, b1, b2, hx2, hx3, hs3]
  have hfl := (frow_still hl k12).flat
  rw [hpl] at hfl
  refine place_ok (k := k) (x := x) hR hs hfl hn fun w3 k3 => ?_
  have k13 := k12.no k3
  have hl3 := frow_still hl k13
  have n3 := k13.size
  cases hh : has (ordI kn n) V k with
  | false =>
    rw [rem_absent hh] at hK
    simp [-getElem?_pos, -Array.getElem?_eq_getElem, -Int.natCast_add, -op_lit_38_1]
    exact hK l w3 (k13.to fun _ h => h.elim) hl3
  | true =>
    have hi := has_lt hh
    have hrem : rem (ordI kn n) V k = V.eraseIdx (place (ordI kn n) V k) := by rw [rem, if_pos hh]
    rw [hrem] at hK
    generalize place (ordI kn n) V k = i at *
    obtain ⟨g, cap, rfl, hg1, hg2, hg3, hg4⟩ := FRow.rw' hl3 (by omega)
    simp [-getElem?_pos, -Array.getElem?_eq_getElem, -Int.natCast_add, -op_lit_38_1]
    have e1 : IntKind.i64.wrap ((i : Int) + 1) = ((i + 1 : Nat) : Int) := by rw [IntKind.wrap_i64]; omega
    rw [pur_cut_hi (P := Tryz.prog) (t := 38) (e := 45) (s := 3) (by kernel_rfl), e1]
    refine ⟨⟨by omega, by omega⟩, ?_⟩
    refine cut_lo (P := Tryz.prog) (t := 38) (e := 45) (s := 3) (xs := prsOf kd V) (by kernel_rfl) SPr.len (by omega) (hl3.still (flat_ok _) (Frm.drew _)).flat (by decide) fun v' hv' => ?_
    have htl : ((prsOf kd V).take i).length = i := by rw [List.length_take]; omega
    have hpre : PRow w3.drew base (.slice (some ⟨g, 0, none⟩) i cap) ((prsOf kd V).take i) := by
      have hr := (hg4.drew.take (i * 3))
      rw [← flatMap_take SPr.len] at hr
      have := FRow.of_rw (base := base) SPr.len hr hg1 (by rw [htl]; omega)
      rw [htl] at this
      exact this
    refine op_concatF apP SPr.len (fun p => SPr.one p) hpre hv' (by rw [htl, List.length_drop]; omega) (by have : w3.drew.heap.size = w3.heap.size := rfl; omega) fun l5 w5 k5 hl5 ho5 => ?_
    rw [← List.eraseIdx_eq_take_drop_succ] at hl5
    refine hK l5 w5 (((k13.no (Frm.drew _)).fst k5).to fun b hb => by rw [hb]; rfl) ?_
    rw [show prsOf kd (V.eraseIdx i) = (prsOf kd V).eraseIdx i from by rw [List.eraseIdx_eq_take_drop_succ, List.eraseIdx_eq_take_drop_succ]; simp [prsOf, List.map_take, List.map_drop]]
    exact hl5
def keyL (s : SSt) : List (Ky × Vl) := if s.op = 5 ∨ s.op = 6 then (List.range s.count.toNat).map fun i => (kd.many s i, IntKind.i64.wrap (s.value + i)) else [(kd.key s.key s.text, s.value)]
theorem many_loop {sb : Nat} (hb : w.heap[sb]? = some (.cells #[.int .u8 s.op, .int .i64 s.fro, .int .i64 s.key, .string s.text, .int .i64 s.value, .int .i64 s.count, .int .i64 s.by'] 64 (0, 0))) (hop : s.op = 5 ∨ s.op = 6) (ht : s.text.size ≤ 100) (h0 : 0 ≤ s.count) (hc : s.count ≤ 3000)
    (hK : ∀ l w', Frm (fun _ => False) w w' → PRow w' w.heap.size l (prsOf kd (keyL s)) → K l w') :
    (Lp fun (I7 : Value → KV) (μ7 : Value → Value → World → Nat) => I7 (Value.slice none 0 0) (Value.int IntKind.i64 0) w ∧
      ∀ (wl7 : World) (junk : Nat → Value) (s5_out : Value) (s31_ : Value), I7 s5_out s31_ wl7 →
        nP.op (.bin BinOp.lss 2 false false s31_ (.int .i64 s.count)) wl7 (fun v32 w =>
        Br v32 (
          nP.op (.fieldAddr 64 (.pointer (some ⟨sb, 0, none⟩)) 2) w (fun v34 w =>
          nP.op (.load 2 v34) w (fun v35 w =>
          nP.op (.fieldAddr 64 (.pointer (some ⟨sb, 0, none⟩)) 6) w (fun v37 w =>
          nP.op (.load 2 v37) w (fun v38 w =>
          nP.op (.bin BinOp.mul 2 false false s31_ v38) w (fun v39 w =>
          nP.op (.bin BinOp.add 2 false false v35 v39) w (fun v40 w =>
          Br (.bool tx) (
            nP.pur (.fieldAddr 64 (.pointer (some ⟨sb, 0, none⟩)) 3) (fun v43 =>
            nP.ld (.load 9 v43) w.drew (fun v44 =>
            nP.pur (.fieldAddr 64 (.pointer (some ⟨sb, 0, none⟩)) 4) (fun v48 =>
            nP.ld (.load 2 v48) w.drew (fun v49 =>
            nP.pur (.bin BinOp.add 2 false false v49 s31_) (fun v51 =>
            nP.call (.fn 92) [v40] w.drew (fun v46 w =>
            nP.same (.load 2 v48) v49 w ∧
            nP.same (.load 9 v43) v44 w ∧
            nP.pur (.bin BinOp.add 9 false false v44 v46) (fun v47 =>
            nP.pur (.build 45 [(1, v47), (2, v51)]) (fun v52 =>
            nP.op (.buildSlice 38 1 [(0, v52)]) w (fun v53 w =>
            nP.op (.blt Builtin.append [38, 38] 38 [s5_out, v53]) w (fun v54 w =>
            nP.op (.bin BinOp.add 2 false true s31_ (Value.int IntKind.i64 1)) w (fun v64 w =>
            I7 v54 v64 w ∧ μ7 v54 v64 w < μ7 s5_out s31_ wl7) Kp) Kp) Kp))) Kp)))))) (
            nP.op (.fieldAddr 64 (.pointer (some ⟨sb, 0, none⟩)) 4) w (fun v57 w =>
            nP.op (.load 2 v57) w (fun v58 w =>
            nP.op (.bin BinOp.add 2 false false v58 s31_) w (fun v60 w =>
            nP.op (.build 45 [(0, v40), (2, v60)]) w (fun v61 w =>
            nP.op (.buildSlice 38 1 [(0, v61)]) w (fun v62 w =>
            nP.op (.blt Builtin.append [38, 38] 38 [s5_out, v62]) w (fun v63 w =>
            nP.op (.bin BinOp.add 2 false true s31_ (Value.int IntKind.i64 1)) w (fun v64 w =>
            I7 v63 v64 w ∧ μ7 v63 v64 w < μ7 s5_out s31_ wl7) Kp) Kp) Kp) Kp) Kp) Kp) Kp)) Kp) Kp) Kp) Kp) Kp) Kp) (
          K s5_out w)) Kp) := by
  obtain ⟨I, hI⟩ : ∃ I : Value → KV, ∀ l v wl, I l v wl ↔ ∃ i : Nat, v = .int .i64 i ∧ i ≤ s.count.toNat ∧ Frm (fun _ => False) w wl ∧ PRow wl w.heap.size l (prsOf kd ((List.range i).map fun i => (kd.many s i, IntKind.i64.wrap (s.value + i)))) := ⟨_, fun _ _ _ => Iff.rfl⟩
  refine Lp.intro I (fun _ v _ => s.count.toNat - nOf v) ⟨(hI _ _ _).2 ⟨0, rfl, by omega, Frm.refl, rows_nil⟩, ?_⟩
  intro wl _ l v hv
  obtain ⟨i, rfl, hi, kl, hR⟩ := (hI _ _ _).1 hv
  have nl := kl.size
  have bl := kl.get hb fun h => h
  have hlow := hR.own_lt
  have hlen : (prsOf kd ((List.range i).map fun i => (kd.many s i, IntKind.i64.wrap (s.value + i)))).length = i := by simp [prsOf]
  have hnext : ∀ {v' : Value} {w' : World} {G : Nat → Prop}, Frm (fun _ => False) w w' → RowsOf (Flat SPr.cells) w' w.heap.size 45 3 v' (prsOf kd ((List.range i).map fun i => (kd.many s i, IntKind.i64.wrap (s.value + i))) ++ [kd.pair (kd.many s i) (IntKind.i64.wrap (s.value + i))]) (fun c => False ∨ False) → (i : Int) < s.count →
      I v' (.int .i64 (IntKind.i64.wrap ((i : Int) + 1))) w' ∧ s.count.toNat - nOf (.int .i64 (IntKind.i64.wrap ((i : Int) + 1))) < s.count.toNat - nOf (.int .i64 (i : Int)) := fun {v' w' G} hf hr hlt => by
    rw [show IntKind.i64.wrap ((i : Int) + 1) = ((i + 1 : Nat) : Int) from by rw [IntKind.wrap_i64]; omega]
    refine ⟨(hI _ _ _).2 ⟨i + 1, rfl, by omega, hf, ?_⟩, by simp only [nOf_int]; omega⟩
    rw [List.range_succ, List.map_append, show ∀ A B : List (Ky × Vl), prsOf kd (A ++ B) = prsOf kd A ++ prsOf kd B from fun A B => by simp [prsOf]]
    exact hr.mono (flat_ok _) (fun _ h => h.elim id fun h => h) (fun _ h => h.elim) fun _ _ h => h
  simp only [op_lss, Br_dec]
  refine ⟨fun hlt => ?_, fun hge => ?_⟩
  · simp [-getElem?_pos, -Array.getElem?_eq_getElem, -Int.natCast_add, -op_lit_38_1, bl]
    have hw : ∀ x : Int, -9223372036854775808 ≤ IntKind.i64.wrap x ∧ IntKind.i64.wrap x ≤ 9223372036854775807 := fun x => by rw [IntKind.wrap_i64]; omega
    refine digits_ok (hw _).1 (hw _).2 fun w6 k6 => ?_
    have k6 := Frm.dr k6
    have b6 := k6.get bl fun h => h
    have hz := decI_len (hw (s.key + IntKind.i64.wrap ((i : Int) * s.by'))).1 (hw _).2
    simp [-getElem?_pos, -Array.getElem?_eq_getElem, -Int.natCast_add, -op_lit_38_1, b6, pur_add_s]
    refine ⟨by omega, ?_⟩
    have hk1 : (kd.many s i).1 = s.text ++ decI (IntKind.i64.wrap (s.key + IntKind.i64.wrap ((i : Int) * s.by'))) := tk_val (by rw [ByteArray.size_append]; omega)
    rw [← hk1]
    have e0 : (#[.int .i64 0, .string (kd.many s i).1, .int .i64 (IntKind.i64.wrap (s.value + i))] : Array Value) = (kd.pair (kd.many s i) (IntKind.i64.wrap (s.value + i))).cells.toArray := rfl
    rw [e0]
    have hR6 := frow_still hR k6
    refine op_push (u := (kd.pair (kd.many s i) (IntKind.i64.wrap (s.value + i))).cells) (y := kd.pair (kd.many s i) (IntKind.i64.wrap (s.value + i))) (G2 := fun _ => False) (flat_ok SPr.cells) apP (lit_pr _) rfl (SPr.one _) hR6 rfl (fun _ h => h.elim) (fun _ _ h => h) (by rw [hlen]; omega) (by have := k6.size; omega) fun l' w7 k7 hR7 ho7 => ?_
    try simp [-getElem?_pos, -Array.getElem?_eq_getElem, -Int.natCast_add, -op_lit_38_1]
    exact hnext (G := fun _ => False) ((kl.no k6).old k7 fun c hc => .inr (hlow c hc.symm).1) hR7 hlt
  · have : i = s.count.toNat := by omega
    subst this
    refine hK l wl kl ?_
    rw [keyL, if_pos hop]
    exact hR
end Go.Proofs.YtodjijfblgnfmaaGreatDoor.T
end
section
namespace Go.Proofs.YtodjijfblgnfmaaGreatDoor.T
open Go.Vc Go.Proofs Go.Proofs.YtodjijfblgnfmaaGreatDoor Go.Vc.Bt
variable {w w' : World} {K : KV} {Kp : KP} {base : Nat} {l : Value} {p : SPr} {s : SSt}
theorem sortedKeys_ok (ht : s.text.size ≤ 100) (h0 : 0 ≤ s.count) (hc : s.count ≤ 3000) (hK : ∀ l w', Frm (fun _ => False) w w' → PRow w' w.heap.size l (prsOf kd (keyL s)) → K l w') :
    Calls Tryz.prog 45 #[.bool tx, .agg s.cells.toArray] w (ret K Kp) := by
  refine vc45_calls ?_
  delta vc45
  refine op_box_ok fun w1 k1 z1 b1 => ?_
  simp only [cells_agg, SSt.cells] at b1
  have n1 := k1.size
  have hloop := fun hop => many_loop (K := K) (Kp := Kp) b1 hop ht h0 hc fun l w' hf hr => hK l w' (k1.no hf) (hr.base_le n1)
  have hone : ∀ (p : SPr), p = kd.pair (kd.key s.key s.text) s.value → ¬ (s.op = 5 ∨ s.op = 6) → nP.op (.buildSlice 38 1 [(0, .agg p.cells.toArray)]) w1 (fun v22 w => K v22 w) Kp := fun p hp ho => by
    refine op_row1 (base := w1.heap.size) (u := p.cells) (y := p) (G2 := fun _ => False) (flat_ok SPr.cells) apP (lit_pr p) rfl rfl (fun _ h => h.elim) (Nat.le_refl _) fun l w2 k2 hR2 _ => ?_
    refine hK l w2 (k1.no k2) ?_
    rw [keyL, if_neg ho]
    subst hp
    exact hR2.base_le n1
  by_cases h5 : s.op = 5
  · have h := hloop (.inl h5)
    simp [-getElem?_pos, -Array.getElem?_eq_getElem, -Int.natCast_add, -op_lit_38_1, b1, h5] at h
    simp [-getElem?_pos, -Array.getElem?_eq_getElem, -Int.natCast_add, -op_lit_38_1, b1, h5]
    exact h
  · have g5 : ¬ (s.op : Int) = 5 := by omega
    by_cases h6 : s.op = 6
    · have h := hloop (.inr h6)
      simp [-getElem?_pos, -Array.getElem?_eq_getElem, -Int.natCast_add, -op_lit_38_1, b1, g5, h6] at h
      simp [-getElem?_pos, -Array.getElem?_eq_getElem, -Int.natCast_add, -op_lit_38_1, b1, g5, h6]
      exact h
    · have g6 : ¬ (s.op : Int) = 6 := by omega
      simp [-getElem?_pos, -Array.getElem?_eq_getElem, -Int.natCast_add, -op_lit_38_1, b1, g5, g6]
      have hk1 : (kd.key s.key s.text).1 = s.text := tk_val (by omega)
      have e0 : (#[.int .i64 0, .string s.text, .int .i64 s.value] : Array Value) = (kd.pair (kd.key s.key s.text) s.value).cells.toArray := by rw [show kd.pair (kd.key s.key s.text) s.value = ⟨0, (kd.key s.key s.text).1, s.value⟩ from rfl, hk1]; rfl
      rw [e0]
      exact hone _ rfl (by omega)
theorem putN_all (lt : Ky → Ky → Bool) (s : SSt) (L : List (Ky × Vl)) : ∀ m, putN lt kd s m L = putAll lt L ((List.range m).map fun i => (kd.many s i, IntKind.i64.wrap (s.value + i)))
  | 0 => rfl
  | m + 1 => by rw [List.range_succ, List.map_append, List.map_singleton, putAll_snoc, ← putN_all lt s L m]; rfl
def remAll (lt : Ky → Ky → Bool) (L ps : List (Ky × Vl)) : List (Ky × Vl) := ps.foldl (fun L p => rem lt L p.1) L
theorem remAll_snoc (lt : Ky → Ky → Bool) (L ps : List (Ky × Vl)) (p : Ky × Vl) : remAll lt L (ps ++ [p]) = rem lt (remAll lt L ps) p.1 := by simp [remAll]
theorem remN_all (lt : Ky → Ky → Bool) (s : SSt) (L : List (Ky × Vl)) : ∀ m, remN lt kd s m L = remAll lt L ((List.range m).map fun i => (kd.many s i, IntKind.i64.wrap (s.value + i)))
  | 0 => rfl
  | m + 1 => by rw [List.range_succ, List.map_append, List.map_singleton, remAll_snoc, ← remN_all lt s L m]; rfl
theorem newV_put {lt : Ky → Ky → Bool} {L : List (Ky × Vl)} (h : s.op = 0 ∨ s.op = 5) : newV lt kd s L = some (putAll lt L (keyL s)) := by
  unfold newV keyL
  rcases h with h | h
  · rw [if_pos h, if_neg (by omega)]; rfl
  · rw [if_neg (by omega), if_neg (by omega), if_pos h, if_pos (.inl h), putN_all]
theorem newV_rem {lt : Ky → Ky → Bool} {L : List (Ky × Vl)} (h : s.op = 1 ∨ s.op = 6) : newV lt kd s L = some (remAll lt L (keyL s)) := by
  unfold newV keyL
  rcases h with h | h
  · rw [if_neg (by omega), if_pos h, if_neg (by omega)]; rfl
  · rw [if_neg (by omega), if_neg (by omega), if_neg (by omega), if_pos h, if_pos (.inr h), remN_all]
theorem remAll_sd {lt : Ky → Ky → Bool} : ∀ (ps : List (Ky × Vl)) {L : List (Ky × Vl)}, Sd lt L → Sd lt (remAll lt L ps)
  | [], L, h => h
  | p :: ps, L, h => remAll_sd ps (rem_sd h p.1)
theorem remAll_len {lt : Ky → Ky → Bool} : ∀ (ps : List (Ky × Vl)) (L : List (Ky × Vl)), (remAll lt L ps).length ≤ L.length
  | [], L => Nat.le_refl _
  | p :: ps, L => Nat.le_trans (remAll_len ps _) rem_le
theorem keyL_le (hc : s.count ≤ 3000) : (keyL s).length ≤ 3000 := by
  unfold keyL
  split
  · simp; omega
  · simp
end Go.Proofs.YtodjijfblgnfmaaGreatDoor.T
end
section
namespace Go.Proofs.YtodjijfblgnfmaaGreatDoor.T
open Go.Vc Go.Proofs Go.Proofs.YtodjijfblgnfmaaGreatDoor Go.Vc.Bt
variable {w w' : World} {n : Int} {kn base : Nat} {V : List (Ky × Vl)} {s : SSt}
def ElV : World → List Value → List (Ky × Vl) → (Nat → Prop) → Prop := fun w u V G => ∃ pv, u = [pv] ∧ IsSl w pv V.length ((prsOf kd V).flatMap SPr.cells) ∧ ∀ b, pv.ownBlock = some b → G b
theorem elV_ok : ElOk ElV :=
  ⟨fun ⟨pv, hu, h, hG⟩ hf hM => ⟨pv, hu, h.frame hf fun b hb => hM b (hG b hb), hG⟩, fun ⟨pv, hu, h, hG⟩ hG' => ⟨pv, hu, h, fun b hb => hG' b (hG b hb)⟩⟩
theorem apV : apOf Tryz.prog 65 = some (38, 1, 24) := by kernel_rfl
theorem apB : apOf Tryz.prog 35 = some (104, 4, 48) := by kernel_rfl
theorem lit_pr0 : sliceLit Tryz.prog 38 0 [] = some (45, #[]) := by kernel_rfl
theorem lit_an (a b c d : Value) : sliceLit Tryz.prog 35 1 [(0, .agg #[a, b, c, d])] = some (104, [a, b, c, d].toArray) := lit_35_1
def Prs (w : World) (G : Nat → Prop) : Prop := ∀ c, G c → ∃ cs, w.heap[c]? = some (.cells cs 45 (0, 0))
theorem Prs.keep {G M : Nat → Prop} (h : Prs w G) (hf : Frm M w w') (hM : ∀ c cs e, w.heap[c]? = some (.cells cs e (0, 0)) → M c → e ≠ 45) : Prs w' G := fun c hc => by
  obtain ⟨cs, h1⟩ := h c hc
  exact ⟨cs, hf.get h1 fun hm => hM c cs _ h1 hm rfl⟩
theorem Prs.still {G : Nat → Prop} (h : Prs w G) (hf : Frm (fun _ => False) w w') : Prs w' G := h.keep hf fun _ _ _ _ h => h.elim
def stepL (lt : Ky → Ky → Bool) (s : SSt) (L : List (Ky × Vl)) (j : Nat) : List (Ky × Vl) := if s.op = 0 ∨ s.op = 5 then putAll lt L ((keyL s).take j) else remAll lt L ((keyL s).take j)
theorem stepL_zero {lt : Ky → Ky → Bool} {L : List (Ky × Vl)} : stepL lt s L 0 = L := by unfold stepL; split <;> rfl
theorem stepL_all {lt : Ky → Ky → Bool} {L : List (Ky × Vl)} (h : s.op = 0 ∨ s.op = 5 ∨ s.op = 1 ∨ s.op = 6) : newV lt kd s L = some (stepL lt s L (keyL s).length) := by
  unfold stepL
  rw [List.take_length]
  split
  · rename_i h0; exact newV_put h0
  · exact newV_rem (by omega)
theorem stepL_le {lt : Ky → Ky → Bool} {L : List (Ky × Vl)} {j : Nat} (hc : s.count ≤ 3000) : (stepL lt s L j).length ≤ L.length + 3000 := by
  have h1 := keyL_le (s := s) hc
  have h2 : ((keyL s).take j).length ≤ (keyL s).length := by rw [List.length_take]; omega
  unfold stepL
  split
  · have := putAll_len (lt := lt) ((keyL s).take j) L; omega
  · have := remAll_len (lt := lt) ((keyL s).take j) L; omega
theorem stepL_sd {lt : Ky → Ky → Bool} (hl : Lin lt) {L : List (Ky × Vl)} {j : Nat} (h : Sd lt L) : Sd lt (stepL lt s L j) := by
  unfold stepL
  split
  · exact putAll_sd hl _ h
  · exact remAll_sd _ h
theorem stepL_succ {lt : Ky → Ky → Bool} {L : List (Ky × Vl)} {j : Nat} (hj : j < (keyL s).length) : stepL lt s L (j + 1) = if s.op = 0 ∨ s.op = 5 then Bt.put lt (stepL lt s L j) (keyL s)[j].1 (keyL s)[j].2 else rem lt (stepL lt s L j) (keyL s)[j].1 := by
  unfold stepL
  rw [List.take_succ_eq_append_getElem hj]
  split
  · rw [putAll_snoc]
  · rw [remAll_snoc]
structure MidS (base : Nat) (vs : List (List (Ky × Vl))) (an : List SAns) (L0 : List (Ky × Vl)) (n : Int) (kn : Nat) (s : SSt) (ab : Nat) (w1 wz : World) (out l' pv : Value) (G1 G2 : Nat → Prop) : Prop where
  frm : Frm (fun _ => False) w1 wz
  vers : RowsOf ElV wz base 38 1 l' (vs ++ (newV (ordI kn n) kd s L0).toList) G1
  prs : Prs wz G1
  outs : RowsOf ElA wz base 104 4 out an G2
  prs2 : Prs wz G2
  cell : wz.heap[ab]? = some (.cells #[.int .i64 (ansV (ordI kn n) kd s L0).value, .int .i64 (ansV (ordI kn n) kd s L0).n, .bool (ansV (ordI kn n) kd s L0).ok, pv] 104 (0, 0))
  row : IsSl wz pv (ansV (ordI kn n) kd s L0).list.length ((ansV (ordI kn n) kd s L0).list.flatMap SPr.cells)
  own : ∀ c, pv.ownBlock = some c → base ≤ c ∧ ∃ cs, wz.heap[c]? = some (.cells cs 45 (0, 0))
end Go.Proofs.YtodjijfblgnfmaaGreatDoor.T
end
