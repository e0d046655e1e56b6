import Derived.Test.YtodjijfblgnfmaaGreatDoorX3
import Derived.Test.YtodjijfblgnfmaaGreatDoorX0
import Derived.ProofKit
import Derived.WideKeyArgs
import Derived.Deep.Slices
import Derived.Carry
import Derived.LaidMore
import Derived.OpenShut
import Derived.Stop.Joined
import Derived.Test.YtodjijfblgnfmaaGreatDoorRows
import Derived.Test.YtodjijfblgnfmaaGreatDoorCards
import Derived.Test.YtodjijfblgnfmaaGreatDoorTie
import Derived.Laws.IdiomStrings
import Derived.Shelf.Small.Strs
import Derived.Shelf.Strconv.Itoa0
import Derived.Shelf.Strconv.Itoa1
import Derived.Shelf.LaysM
import Derived.Shelf.Strconv.Itoa2
import Derived.Shelf.Strconv.Itoa3
import Derived.Test.YtodjijfblgnfmaaGreatDoorProg
import Derived.Lib.LaidTab
import Derived.MakeChecks
import Derived.Test.YtodjijfblgnfmaaGreatDoorX2
import Derived.Test.YtodjijfblgnfmaaGreatDoorX1
set_option linter.unusedSimpArgs false
set_option linter.unusedVariables false
set_option linter.unusedSectionVars false
set_option maxRecDepth 100000
set_option maxHeartbeats 4000000
section
namespace Go.Proofs.YtodjijfblgnfmaaGreatDoor
open Go.Vc Go.Proofs Go.Vc.Bt
variable {w w' : World} {K : KV} {Kp : KP} {n : Int} {a1 : Option Addr} {c1 : Nat} {ps : List SPr}
theorem apS : apOf Tryz.prog 32 = some (54, 7, 64) := by kernel_rfl
theorem lit_st (s : SSt) : sliceLit Tryz.prog 32 1 [(0, .agg s.cells.toArray)] = some (54, s.cells.toArray) := lit_32_1
theorem sortedPut_ok {m : List SSt} {v2 : Value} (hr : Row w a1 (ps.flatMap SPr.cells)) (hm : IsSl w v2 m.length (m.flatMap SSt.cells)) (hn : ps.length ≤ 2 ^ 20) (hml : m.length ≤ 1000)
    (hK : ∀ l w', Frm (fun _ => False) w w' → RowsOf (Flat SSt.cells) w' w.heap.size 54 7 l (putSteps ps ++ m.map (SSt.later ps.length)) (fun _ => False) → K l w') :
    Calls Tryz.prog 23 #[.slice a1 ps.length c1, v2] w (ret K Kp) := by
  have hE := flat_ok SSt.cells
  obtain ⟨a2, c2, rfl, hc2, hm2, hr2, _⟩ := hm
  refine vc23_calls ?_
  delta vc23
  simp [-getElem?_pos, -Array.getElem?_eq_getElem, -Int.natCast_add]
  obtain ⟨I, hI⟩ : ∃ I : Value → KV, ∀ l v wl, I l v wl ↔ ∃ i : Nat, v = .int .i64 i ∧ i ≤ ps.length ∧ Frm (fun _ => False) w wl ∧ RowsOf (Flat SSt.cells) wl w.heap.size 54 7 l (putSteps (ps.take i)) (fun _ => False) := ⟨_, fun _ _ _ => Iff.rfl⟩
  refine Lp.intro I (fun _ v _ => ps.length - nOf v) ⟨(hI _ _ _).2 ⟨0, rfl, by omega, Frm.refl, rows_nil⟩, ?_⟩
  intro wl l v hv
  obtain ⟨i, rfl, hi, kl, hR⟩ := (hI _ _ _).1 hv
  have hlow := hR.own_lt
  have nl := kl.size
  simp only [op_lss, Br_dec]
  refine ⟨fun hlt => ?_, fun hge => ?_⟩
  · have hi' : i < ps.length := by omega
    obtain ⟨b, o, cs, e, fz, rfl, q1, q2, q3⟩ := (hr.frame kl fun _ _ h => h).part SPr.len (by decide) hi'
    simp [-getElem?_pos, -Array.getElem?_eq_getElem, -Int.natCast_add, q1, q2, q3]
    refine ⟨hi', ?_⟩
    refine op_alloc_ok (z := .agg #[.int .i64 0, .string ByteArray.empty, .int .i64 0]) (by kernel_rfl) fun w5 k5 z5 b5 => ?_
    simp only [cells_agg] at b5
    refine op_storeN_ok (n := 3) (by kernel_rfl) b5 rfl (by decide) (by simp [SPr.cells]) fun w6 k6 z6 b6 => ?_
    have b6 : w6.heap[wl.heap.size]? = some (.cells #[.int .i64 ps[i].key, .string ps[i].text, .int .i64 ps[i].val] 45 (0, 0)) := by
      rw [ow_all (by simp [SPr.cells])] at b6; exact b6
    have k6' := k5.old k6 fun c hc => .inr (by omega)
    have hR6 := hR.still hE k6'
    have n6 := k6'.size
    simp [-getElem?_pos, -Array.getElem?_eq_getElem, -Int.natCast_add, b6]
    have htl : (putSteps (ps.take i)).length = i := by rw [putSteps_len, List.length_take]; omega
    have e0 : (#[.int .u8 0, .int .i64 (i : Nat), .int .i64 ps[i].key, .string ps[i].text, .int .i64 ps[i].val, .int .i64 0, .int .i64 0] : Array Value) = (⟨0, (i : Nat), ps[i].key, ps[i].text, ps[i].val, 0, 0⟩ : SSt).cells.toArray := by simp [SSt.cells]
    rw [e0]
    generalize hs0 : (⟨0, (i : Nat), ps[i].key, ps[i].text, ps[i].val, 0, 0⟩ : SSt) = s0 at *
    refine op_push (u := s0.cells) (y := s0) (G2 := fun _ => False) hE apS (lit_st _) rfl (SSt.one _) hR6 rfl (fun _ h => h.elim) (fun _ _ h => h) (by rw [htl]; omega) (by omega) fun l' w7 k7 hR7 ho7 => ?_
    try simp [-getElem?_pos, -Array.getElem?_eq_getElem, -Int.natCast_add]
    rw [show IntKind.i64.wrap ((i : Int) + 1) = ((i + 1 : Nat) : Int) from by rw [IntKind.wrap_i64]; omega]
    refine ⟨(hI _ _ _).2 ⟨i + 1, rfl, by omega, (kl.no k6').old k7 fun c hc => .inr (hlow c hc.symm).1, ?_⟩, by simp only [nOf_int]; omega⟩
    rw [List.take_succ_eq_append_getElem hi', putSteps_snoc, List.length_take, Nat.min_eq_left (by omega), hs0]
    exact hR7.mono hE (fun _ h => h.elim id fun h => h) (fun _ h => h.elim) fun _ _ h => h
  · have : i = ps.length := by omega
    subst this
    rw [List.take_length] at hR
    clear hI I hv
    try simp [-getElem?_pos, -Array.getElem?_eq_getElem, -Int.natCast_add]
    obtain ⟨I, hI⟩ : ∃ I : Value → KV, ∀ l v wl, I l v wl ↔ ∃ i : Nat, v = .int .i64 i ∧ i ≤ m.length ∧ Frm (fun _ => False) w wl ∧ RowsOf (Flat SSt.cells) wl w.heap.size 54 7 l (putSteps ps ++ (m.take i).map (SSt.later ps.length)) (fun _ => False) := ⟨_, fun _ _ _ => Iff.rfl⟩
    refine Lp.intro I (fun _ v _ => m.length - nOf v) ⟨(hI _ _ _).2 ⟨0, rfl, by omega, kl, by simpa using hR⟩, ?_⟩
    clear hlow nl kl hR hi hge
    intro wl l v hv
    obtain ⟨i, rfl, hi, kl, hR⟩ := (hI _ _ _).1 hv
    have hlow := hR.own_lt
    have nl := kl.size
    simp only [op_lss, Br_dec]
    refine ⟨fun hlt => ?_, fun hge => ?_⟩
    · have hi' : i < m.length := by omega
      obtain ⟨b, o, cs, e, fz, rfl, q1, q2, q3⟩ := (hr2.frame kl fun _ _ h => h).part SSt.len (by decide) hi'
      simp [-getElem?_pos, -Array.getElem?_eq_getElem, -Int.natCast_add, q1, q2, q3]
      refine ⟨hi', ?_⟩
      refine op_alloc_ok (z := .agg #[.int .u8 0, .int .i64 0, .int .i64 0, .string ByteArray.empty, .int .i64 0, .int .i64 0, .int .i64 0]) (by kernel_rfl) fun w5 k5 z5 b5 => ?_
      simp only [cells_agg] at b5
      refine op_storeN_ok (n := 7) (by kernel_rfl) b5 rfl (by decide) (by simp [SSt.cells]) fun w6 k6 z6 b6 => ?_
      have b6 : w6.heap[wl.heap.size]? = some (.cells #[.int .u8 m[i].op, .int .i64 m[i].fro, .int .i64 m[i].key, .string m[i].text, .int .i64 m[i].value, .int .i64 m[i].count, .int .i64 m[i].by'] 54 (0, 0)) := by
        rw [ow_all (by simp [SSt.cells])] at b6; exact b6
      have k6' := k5.old k6 fun c hc => .inr (by omega)
      simp [-getElem?_pos, -Array.getElem?_eq_getElem, -Int.natCast_add, b6]
      refine op_store_ok (by kernel_rfl) b6 (by simp) rfl fun w7 k7 z7 b7 => ?_
      have b7 : w7.heap[wl.heap.size]? = some (.cells (m[i].later ps.length).cells.toArray 54 (0, 0)) := by simpa [SSt.later, SSt.cells] using b7
      have k7' := k6'.old k7 fun c hc => .inr (by omega)
      have hR7 := hR.still hE k7'
      have n7 := k7'.size
      have hx : (m[i].later ps.length).cells.toArray.extract 0 7 = (m[i].later ps.length).cells.toArray := extract_self (by simp [SSt.cells])
      have hs7 : 7 ≤ (m[i].later ps.length).cells.length := Nat.le_refl _
      simp [-getElem?_pos, -Array.getElem?_eq_getElem, -Int.natCast_add, b7, hx, hs7]
      have htl : (putSteps ps ++ (m.take i).map (SSt.later ps.length)).length = ps.length + i := by rw [List.length_append, putSteps_len, List.length_map, List.length_take]; omega
      refine op_push (u := (m[i].later ps.length).cells) (y := m[i].later ps.length) (G2 := fun _ => False) hE apS (lit_st _) rfl (SSt.one _) hR7 rfl (fun _ h => h.elim) (fun _ _ h => h) (by rw [htl]; omega) (by omega) fun l' w8 k8 hR8 ho8 => ?_
      try simp [-getElem?_pos, -Array.getElem?_eq_getElem, -Int.natCast_add]
      rw [show IntKind.i64.wrap ((i : Int) + 1) = ((i + 1 : Nat) : Int) from by rw [IntKind.wrap_i64]; omega]
      refine ⟨(hI _ _ _).2 ⟨i + 1, rfl, by omega, (kl.no k7').old k8 fun c hc => .inr (hlow c hc.symm).1, ?_⟩, by simp only [nOf_int]; omega⟩
      rw [List.take_succ_eq_append_getElem hi', List.map_append, ← List.append_assoc]
      exact hR8.mono hE (fun _ h => h.elim id fun h => h) (fun _ h => h.elim) fun _ _ h => h
    · have : i = m.length := by omega
      subst this
      rw [List.take_length] at hR
      exact hK l wl kl hR
end Go.Proofs.YtodjijfblgnfmaaGreatDoor
end
section
namespace Go.Proofs.YtodjijfblgnfmaaGreatDoor
open Go.Vc Go.Proofs Go.Vc.Bt
variable {w w' : World} {K : KV} {Kp : KP} {a1 : Option Addr} {c1 : Nat}
theorem samePairs_ok {v1 v2 : Value} {xs : List SPr} (h1 : IsSl w v1 xs.length (xs.flatMap SPr.cells)) (h2 : IsSl w v2 xs.length (xs.flatMap SPr.cells)) (hn : xs.length < 2 ^ 60) (hK : ∀ w', Frm (fun _ => False) w w' → K (.bool true) w') :
    Calls Tryz.prog 32 #[v1, v2] w (ret K Kp) := by
  refine vc32_calls ?_
  delta vc32
  obtain ⟨a2, c2, rfl, _⟩ := id h2
  obtain ⟨a1, c1, rfl, _⟩ := id h1
  rw [op_len_slice (by kernel_rfl), op_len_slice (by kernel_rfl), op_neq, decide_eq_true rfl, Bool.not_true, Br_false]
  exact sameLoop (by kernel_rfl) (by kernel_rfl) (by kernel_rfl) (by kernel_rfl) (by kernel_rfl) (by kernel_rfl) (by kernel_rfl) h1 h2 hn hK
end Go.Proofs.YtodjijfblgnfmaaGreatDoor
end
section
namespace Go.Vc
open Go.ChangeShapes Go.WideShapes Go.ChangeAt Go.RowKit Go.WideElems
variable {H : Type} {enc : TypeId × Value → H} {P : Program} {W W' : World}
def typed (P : Program) (ts : List TypeId) : Bool := ts.all fun t => P.readableRec t && decide (t < P.types.size)
theorem below_of (h : ∀ {M}, Frm M W W') : Below W.heap.size W W' := ⟨(h (M := fun _ => False)).os, (h (M := fun _ => False)).tape, (h (M := fun _ => False)).output, (h (M := fun _ => False)).size, fun k hk => (h (M := fun _ => False)).block k hk (fun h => h)⟩
theorem trodAll_below (hl : laidOutB P = true) {sp : Nat → Bool} (hb : Below W.heap.size W W') :
    ∀ {ts : List TypeId} {vs : List Value} {ds : List (DataW H)} {ps : List MemPlace}, typed P ts = true → (∀ p ∈ ps, p.block < W.heap.size) → (∀ p ∈ ps, sp p.block = true) →
      DataW.TrodAll enc P W 0 (fun _ => true) true ts vs ds ps → DataW.TrodAll enc P W' 0 sp true ts vs ds ps
  | [], [], [], _, _, _, _, h => h
  | t :: ts, v :: vs, d :: ds, ps, ht, h1, h2, h => by
    obtain ⟨p, q, hd, hr, rfl⟩ := h
    simp only [typed, List.all_cons, Bool.and_eq_true, decide_eq_true_eq] at ht
    refine ⟨p, q, Trod_stays hl ht.1.1 ht.1.2 hd (fun x hx => hb.same (h1 x (by simp [hx]))) (fun x hx => h2 x (by simp [hx])), ?_, rfl⟩
    exact trodAll_below hl hb (by simpa [typed] using ht.2) (fun x hx => h1 x (by simp [hx])) (fun x hx => h2 x (by simp [hx])) hr
  | [], [], _ :: _, _, _, _, _, h => h.elim
  | [], _ :: _, _, _, _, _, _, h => h.elim
  | _ :: _, [], _, _, _, _, _, h => h.elim
  | _ :: _, _ :: _, [], _, _, _, _, h => h.elim
theorem trodAll_len : ∀ {ts : List TypeId} {vs : List Value} {ds : List (DataW H)} {ps : List MemPlace} {b : Nat} {sp : Nat → Bool} {hd : Bool}, DataW.TrodAll enc P W b sp hd ts vs ds ps → ds.length = ts.length
  | [], [], [], _, _, _, _, _ => rfl
  | t :: ts, v :: vs, d :: ds, ps, _, _, _, h => by
    obtain ⟨p, q, hd, hr, rfl⟩ := h
    simp [trodAll_len hr]
  | [], [], _ :: _, _, _, _, _, h => h.elim
  | [], _ :: _, _, _, _, _, _, h => h.elim
  | _ :: _, [], _, _, _, _, _, h => h.elim
  | _ :: _, _ :: _, [], _, _, _, _, h => h.elim
/-! ### arguments -/
theorem open_rows {t e : TypeId} {base : Nat} {v : Value} {d : DataW H} {ps : List MemPlace} (ht : P.underlying t = some (.slice e)) {c : Nat} (hc : P.cellsOf e = c) (hc0 : 0 < c)
    (hok : Value.okWide P W .any base t v) (h : DataW.Trod enc P W 0 (fun _ => true) true t v d ps) :
    ∃ (a : Option Addr) (len cap : Nat) (f : Nat → List Value), v = .slice a len cap ∧ len ≤ cap ∧ cap ≤ maxLen ∧ (a = none → len = 0) ∧ (∀ p, a = some p → p.spot = none ∧ p.block < W.heap.size) ∧
      Row W a ((List.range len).flatMap f) ∧ (∀ i, (f i).length = c) ∧ ∀ i, i < len → ∃ n x, DataW.trod enc P W 0 (fun _ => true) true n e (f i) = some x := by
  have hv : v = .slice none 0 0 ∨ ∃ p len cap, v = .slice (some p) len cap ∧ p.spot = none ∧ p.block < W.heap.size := by
    unfold Value.okWide at hok
    rw [ht] at hok
    simp only [Cell.okWide, ht] at hok
    unfold Cell.ok at hok
    rw [ht] at hok
    cases v with
    | slice a len cap =>
      cases a with
      | none =>
        match len, cap, hok with
        | 0, 0, _ => exact .inl rfl
      | some p =>
        refine .inr ⟨p, len, cap, rfl, hok.2.2.2.1, ?_⟩
        obtain ⟨row, cells, hsh, _⟩ := hok.2.2.2.2
        unfold World.shape? at hsh
        split at hsh
        · rename_i hb; exact lt_of_get hb
        · cases hsh
    | _ => exact hok.elim
  obtain ⟨fuel, hf⟩ := h
  rcases hv with rfl | ⟨p, len, cap, rfl, hs, hbl⟩
  · exact ⟨none, 0, 0, fun _ => List.replicate c undef, rfl, Nat.le_refl _, by simp [maxLen], fun _ => rfl, (fun p h => nomatch h), .inl rfl, fun i => by simp, fun i hi => by omega⟩
  · have hf' : DataW.trod enc P W 0 (fun _ => true) true fuel t [.slice (some p) len cap] = some (d, ps) := hf
    rcases Go.Deep.open_slice ht hf' with ⟨h0, _⟩ | ⟨a, len', cap', m, n, D, Pl, hcs, _, hl, hm, hmm, _, hx⟩
    · cases h0
    · simp only [List.cons.injEq, Value.slice.injEq, Option.some.injEq, and_true] at hcs
      obtain ⟨rfl, rfl, rfl⟩ := hcs
      obtain ⟨b, o, sp⟩ := p
      simp only at hs
      subst hs
      have hle : ∀ i, i < len → ∃ cs', W.cells? 0 ((⟨b, o, none⟩ : Addr).add (i * c)) c = some cs' ∧ DataW.trod enc P W 0 (fun _ => true) true n e cs' = some (D i, Pl i) := fun i hi => by
        have := hx i (by rw [hmm]; simp; omega)
        rwa [hc] at this
      have hcell : ∀ i, i < len → ∃ cs' : List Value, cs'.length = c ∧ (∀ r, r < c → W.cell? ⟨b, o + (i * c + r), none⟩ = cs'[r]?) ∧ DataW.trod enc P W 0 (fun _ => true) true n e cs' = some (D i, Pl i) := fun i hi => by
        obtain ⟨cs', h1, h2⟩ := hle i hi
        obtain ⟨_, h3, h4⟩ := World.cells?_some h1
        refine ⟨cs', h3, fun r hr => ?_, h2⟩
        rw [← h4 r hr, Go.Deep.add_add, add_spot rfl]
      have hch : ∃ f : Nat → List Value, (∀ i, (f i).length = c) ∧ ∀ i, i < len → (∀ r, r < c → W.cell? ⟨b, o + (i * c + r), none⟩ = (f i)[r]?) ∧ DataW.trod enc P W 0 (fun _ => true) true n e (f i) = some (D i, Pl i) := by
        classical
        refine ⟨fun i => if hi : i < len then Classical.choose (hcell i hi) else List.replicate c undef, fun i => ?_, fun i hi => ?_⟩
        · by_cases hi : i < len
          · simp only [dif_pos hi]; exact (Classical.choose_spec (hcell i hi)).1
          · simp only [dif_neg hi]; simp
        · simp only [dif_pos hi]; exact (Classical.choose_spec (hcell i hi)).2
      obtain ⟨f, hf1, hf2⟩ := hch
      have hrow : Row W (some ⟨b, o, none⟩) ((List.range len).flatMap f) ∧ (len ≠ 0 → b < W.heap.size) := by
        by_cases h0 : len = 0
        · subst h0; exact ⟨.inl rfl, fun h => absurd rfl h⟩
        · have hz := (hf2 0 (by omega)).1 0 hc0
          rw [List.getElem?_eq_getElem (by rw [hf1]; exact hc0)] at hz
          have hb : ∃ cs e' fz, W.heap[b]? = some (.cells cs e' fz) := by
            unfold World.cell? at hz
            split at hz
            · rename_i c' e' fz hb; exact ⟨_, _, _, hb⟩
            · cases hz
          obtain ⟨cs, e', fz, hb⟩ := hb
          refine ⟨.inr ⟨b, o, cs, e', fz, rfl, hb, fun j v hj => ?_⟩, fun _ => lt_of_get hb⟩
          have hjl : j < len * c := by
            have := (List.getElem?_eq_some_iff.1 hj).1
            rwa [flatMap_len hf1, List.length_range] at this
          have hjc : j = j / c * c + j % c := by rw [Nat.mul_comm]; exact (Nat.div_add_mod j c).symm
          have hi : j / c < len := Nat.div_lt_of_lt_mul (by rw [Nat.mul_comm]; exact hjl)
          have hr : j % c < c := Nat.mod_lt _ hc0
          have hg := flatMap_get hf1 (List.range len) (j / c) (j % c) (by simpa using hi) hr
          rw [← hjc] at hg
          rw [hg] at hj
          simp only [List.getElem_range] at hj
          have := (hf2 _ hi).1 _ hr
          rw [← hjc, hj] at this
          rw [← this]
          exact (cell_of (p := ⟨b, o + j, none⟩) hb rfl).symm
      exact ⟨some ⟨b, o, none⟩, len, cap, f, rfl, hl, hm, (fun h => nomatch h), fun p hp => by cases hp; exact ⟨rfl, hbl⟩, hrow.1, hf1, fun i hi => ⟨n, _, (hf2 i hi).2⟩⟩
theorem open_fields {t : TypeId} {fs : Array Field} {n : Nat} {cs : List Value} {x : DataW H × List MemPlace} (ht : P.underlying t = some (.struct fs)) (h : DataW.trod enc P W 0 (fun _ => true) true n t cs = some x)
    {i : Nat} {f : Field} (hf : fs[i]? = some f) (ho : f.offset = i) (hc : P.cellsOf f.type = 1) (hi : i < cs.length) :
    ∃ n y, DataW.trod enc P W 0 (fun _ => true) true n f.type [cs[i]] = some y := by
  obtain ⟨xs, k, rfl, rfl, hl, hxl, hx⟩ := DataW.trod_struct ht h
  have h1 := hx i f hf
  have hi2 : i < xs.length := by rw [hxl]; exact (Array.getElem?_eq_some_iff.1 hf).1
  rw [ho, hc, List.getElem?_eq_getElem hi2, List.drop_eq_getElem_cons hi, List.take_succ_cons, List.take_zero] at h1
  exact ⟨k, _, h1⟩
theorem field_int {t : TypeId} {k : IntKind} {n : Nat} {u : Value} {x : DataW H × List MemPlace} (ht : P.underlying t = some (.int k)) (h : DataW.trod enc P W 0 (fun _ => true) true n t [u] = some x) : ∃ m, u = .int k m ∧ k.min ≤ m ∧ m ≤ k.max := by
  obtain ⟨m, hm, _, hw⟩ := DataW.trod_int ht h
  simp only [Lit.wf, Bool.and_eq_true, decide_eq_true_eq] at hw
  exact ⟨m, by simpa using hm, hw.1, hw.2⟩
end Go.Vc
end
section
namespace Go.RowKit
open Go.ChangeShapes Go.WideShapes Go.ChangeAt Go.WideElems
variable {H : Type} {enc : TypeId × Value → H} {P : Program} {w : World} {base : Nat} {spare : Nat → Bool} {held : Bool}
end Go.RowKit
end
section
namespace Go.Vc
open Go.ChangeShapes Go.WideShapes Go.ChangeAt Go.RowKit Go.WideElems
variable {H : Type} {enc : TypeId × Value → H} {P : Program} {W W' : World}
theorem open_agg {t : TypeId} {fs : Array Field} {base n : Nat} {v : Value} {d : DataW H} {ps : List MemPlace} (ht : P.underlying t = some (.struct fs)) (hc : P.cellsOf t = n)
    (hok : Value.okWide P W .any base t v) (h : DataW.Trod enc P W 0 (fun _ => true) true t v d ps) :
    ∃ cs : List Value, v = .agg cs.toArray ∧ cs.length = n ∧ ∃ m x, DataW.trod enc P W 0 (fun _ => true) true m t cs = some x := by
  unfold Value.okWide at hok
  rw [ht] at hok
  obtain ⟨cs, rfl, hs, _⟩ := hok
  obtain ⟨fuel, hf⟩ := h
  exact ⟨cs.toList, by simp, by simp [hs, hc], fuel, _, hf⟩
theorem rows_of {α : Type} {f : Nat → List Value} {c : α → List Value} {len : Nat} {a : Option Addr} (d : α) (h : Row W a ((List.range len).flatMap f)) (hf : ∀ i, i < len → ∃ s, f i = c s) : ∃ xs : List α, xs.length = len ∧ Row W a (xs.flatMap c) := by
  obtain ⟨g, hg⟩ := Classical.axiomOfChoice (r := fun i (s : α) => i < len → f i = c s) fun i => by
    by_cases hi : i < len
    · obtain ⟨s, hs⟩ := hf i hi
      exact ⟨s, fun _ => hs⟩
    · exact ⟨d, fun h => absurd h hi⟩
  refine ⟨(List.range len).map g, by simp, ?_⟩
  rw [Go.Deep.flatMap_congr_range hg] at h
  rwa [List.flatMap_map]
end Go.Vc
end
section
namespace Go.Vc
open Go.ChangeShapes Go.WideShapes Go.ChangeAt Go.RowKit
variable {H : Type} {enc : TypeId × Value → H} {P : Program} {W W' : World}
theorem returns_true_laid {C : Checked} {os : Os} {f : FuncId} {fn : Func} {s : ChangeSpec} {tb : TypeId} {laid : List (String × DataW Unit)}
    (own : ownKnob C.prog.godebug = none) (started : os.Started) (noInit : C.prog.inits.idxOf? f = none) (hfn : C.prog.funcs[f]? = some fn)
    (witness : ∃ (w : World) (tape : Tape) (i : Input), w.os = os ∧ (w.forCall tape i).Shaped C.prog ∧ i.vars = [] ∧ Input.okWide C.prog (w.forCall tape i) .any w.heap.size f i ∧
      ((s.pre enc C.prog fn [] false (w.forCall tape i).memory i.args ∧ laidMetH C.prog laid (w.forCall tape i).memory) ∧ sizedMet enc C.prog fn (OpenSpec.ofChange s) false (w.forCall tape i).memory i.args) ∧ ({} : Assume).holds C.prog (lone (Frame.enter C.prog f i.args .normal) [] (w.forCall tape i)))
    (hl : laidOutB C.prog = true) (ht : typed C.prog fn.params.toList = true) (hv : s.vars = []) (hres : fn.resultTypes = #[tb]) (hb : C.prog.underlying tb = some .bool)
    (hs : ∀ ds : List (DataW H), ds.length = fn.params.toList.length → s.fn H ds = { results := [.lit (.bool true)], args := ds })
    (contract : ∀ (W : World) (base : Nat) (args : Array Value) (ds : List (DataW H)) (before : List MemPlace), W.ShapedOpen C.prog → laidMetH C.prog laid W →
      (∀ (j : Nat) t v, fn.params[j]? = some t → args[j]? = some v → Value.okWide C.prog W .any base t v) →
      DataW.TrodAll enc C.prog W 0 (fun _ => true) true fn.params.toList args.toList ds before → (∀ p ∈ before, p.block < W.heap.size) →
      Calls C.prog f args W (ret (fun v W' => v = .bool true ∧ ∀ M, Frm M W W') fun _ _ => False)) :
    ReturnsInHanded {} C os f .any (fun w args => (s.pre enc C.prog fn [] false w args ∧ laidMetH C.prog laid w) ∧ sizedMet enc C.prog fn (OpenSpec.ofChange s) false w args) (s.post enc C.prog fn false true false false) := by
  refine returnsInHanded_of_calls own started noInit witness ?_
  intro w tape i _ hsh _ hok hpre hholds
  obtain ⟨_, _, _, fn', hfn', _, _, _, _, hval⟩ := hok
  have e : fn' = fn := Option.some.inj (hfn'.symm.trans hfn)
  subst e
  obtain ⟨⟨⟨ds, gs, before, hw, hc⟩, hL⟩, hz⟩ := hpre
  have hL' : laidMetH C.prog laid (w.forCall tape i) := hL.of_heap (by rfl)
  have hw' := DataW.Whole.of_heap (w' := w.forCall tape i) (by rfl) hw
  have hlt := hw'.lt
  have hw'' := hw'
  obtain ⟨p, q, hA, hV, rfl, hfz, hnd⟩ := hw'
  rw [hv] at hV
  obtain ⟨rfl, rfl⟩ := trodVars_none hV
  rw [List.append_nil] at hlt hw''
  refine (contract (w.forCall tape i) w.heap.size i.args ds p hsh hL' hval hA hlt).mono fun e W' he => ?_
  cases e with
  | returned v =>
    obtain ⟨rfl, hf⟩ := he
    have hb' := below_of (fun {M} => hf M)
    have hlen := trodAll_len hA
    have hsd : s.fn H (ds ++ []) = { results := [.lit (.bool true)], args := ds } := by rw [List.append_nil]; exact hs ds hlen
    refine ChangeSpec.post_blind ⟨ds, [], p, [], p, [], hw'', ?_, ?_, ?_, World.keptBut_mono (fun x hx => ⟨hx, .inr (.inl hx)⟩) (hb'.frame (· ∈ p)), (fun h => nomatch h)⟩
    · rw [hsd, hres]; exact trodAll_mk1 (shut_bool hb _)
    · rw [hsd]; exact trodAll_below hl hb' ht hlt (fun x hx => by simpa using hlt x hx) hA
    · rw [hsd, hv]; rfl
  | panicked _ => exact he.elim
  | outgrown => exact he.elim
end Go.Vc
end
section
namespace Go.Proofs.YtodjijfblgnfmaaGreatDoor
open Go.Vc Go.Proofs Go.Vc.Bt Go.ChangeShapes Go.WideShapes Go.ChangeAt Go.RowKit
variable {H : Type} {enc : TypeId × Value → H} {W : World}
theorem row_own : ownKnob Tryz.prog.godebug = none := by kernel_rfl
theorem row_laid : laidOutB Tryz.prog = true := by kernel_rfl
abbrev laid3 : List (String × DataW Unit) := [("math/bits.deBruijn32tab", Rows.laid_math_bits_deBruijn32tab), ("math/bits.deBruijn64tab", Rows.laid_math_bits_deBruijn64tab), ("internal/strconv.uint64pow10", Rows.laid_internal_strconv_uint64pow10)]
theorem door_met (os : Os) (args : Array Value) : laidMetH Tryz.prog laid3 ((World.doorLaid Tryz.prog 24 os).forCall (fun _ _ => 0) ⟨#[], args, []⟩).memory :=
  laidMetH_of_parts3 (fuel := 8) (laidMet_of_run' 8 (by kernel_rfl) (by kernel_rfl)) (by kernel_rfl) (by kernel_rfl)
theorem open_order {base : Nat} {v : Value} {d : DataW H} {ps : List MemPlace} (hok : Value.okWide Tryz.prog W .any base 23 v) (h : DataW.Trod enc Tryz.prog W 0 (fun _ => true) true 23 v d ps) :
    ∃ (kn : Nat) (n : Int), v = orderV kn n ∧ -9223372036854775808 ≤ n ∧ n ≤ 9223372036854775807 := by
  obtain ⟨cs, rfl, hl, n, x, hx⟩ := open_agg Tryz.underlying23 (n := 2) (by kernel_rfl) hok h
  match cs, hl, hx with
  | [u0, u1], _, hx =>
    have hu := Tryz.underlying23
    obtain ⟨n0, y0, z0⟩ := open_fields hu hx (i := 0) rfl rfl (by kernel_rfl) (by simp)
    obtain ⟨n1, y1, z1⟩ := open_fields hu hx (i := 1) rfl rfl (by kernel_rfl) (by simp)
    obtain ⟨m0, e0, b0, _⟩ := field_int Tryz.underlying5 z0
    obtain ⟨m1, e1, b1, b2⟩ := field_int Tryz.underlying2 z1
    have h0 : (m0.toNat : Int) = m0 := Int.toNat_of_nonneg b0
    refine ⟨m0.toNat, m1, ?_, b1, b2⟩
    simp only [List.getElem_cons_zero, List.getElem_cons_succ] at e0 e1
    simp only [orderV, h0, e0, e1]
theorem open_flag {base : Nat} {v : Value} {d : DataW H} {ps : List MemPlace} (hok : Value.okWide Tryz.prog W .any base 4 v) (h : DataW.Trod enc Tryz.prog W 0 (fun _ => true) true 4 v d ps) : ∃ b : Bool, v = .bool b := by
  obtain ⟨b, h1, _⟩ := open_bool Tryz.underlying4 hok h
  exact ⟨b, h1⟩
end Go.Proofs.YtodjijfblgnfmaaGreatDoor
end
section
namespace Go.Proofs.YtodjijfblgnfmaaGreatDoor
open Go.Vc Go.Proofs Go.Vc.Bt Go.ChangeShapes Go.WideShapes Go.ChangeAt Go.RowKit

end Go.Proofs.YtodjijfblgnfmaaGreatDoor
end
section
namespace Go.Proofs.YtodjijfblgnfmaaGreatDoor
open Go.Vc Go.Proofs
variable {S : Sig} {a0 a1 a2 a3 a4 a5 a6 a7 a8 a9 : Value} {w : World} {K : KV} {Kp : KP}
private theorem follows_BVcLP : Tryz.prog.follows .mixedOrders = true := by kernel_rfl
def vc34 (S : Sig) (a0 a1 a2 a3 : Value) (w : World) (K : KV) (Kp : KP) : Prop :=
 S.op (.box 23 a0) w (fun v4 w =>
 S.op (.box 45 a2) w (fun v6 w =>
 S.op (.box 45 a3) w (fun v7 w =>
 Jn fun (J4 : KV) =>
 (S.op (.fieldAddr 23 v4 0) w (fun v14 w =>
 S.op (.load 5 v14) w (fun v15 w =>
 S.op (.bin .eql 5 false true v15 (.int .u8 2)) w (fun v16 w =>
 Br v16 (
 J4 (.int .i64 (-1)) w) (
 J4 (.int .i64 1) w)) Kp) Kp) Kp) ∧
 (∀ (w : World) (_ : Nat → Value) (j9 : Value), J4 j9 w →
 S.pur (.fieldAddr 45 v6 0) (fun v17 =>
 S.ld (.load 2 v17) w.drew (fun v18 =>
 S.pur (.fieldAddr 45 v7 0) (fun v19 =>
 S.ld (.load 2 v19) w.drew (fun v20 =>
 S.pur (.bin .lss 2 false false v18 v20) (fun v21 =>
 S.pur (.fieldAddr 45 v6 0) (fun v22 =>
 S.ld (.load 2 v22) w.drew (fun v23 =>
 S.pur (.fieldAddr 45 v7 0) (fun v24 =>
 S.ld (.load 2 v24) w.drew (fun v25 =>
 S.pur (.bin .gtr 2 false false v23 v25) (fun v26 =>
 S.same (.load 2 v24) v25 w.drew ∧
 S.same (.load 2 v22) v23 w.drew ∧
 Jn fun (J9 : Value → KV) =>
 (S.op (.fieldAddr 23 v4 0) w.drew (fun v27 w =>
 S.op (.load 5 v27) w (fun v28 w =>
 S.op (.bin .eql 5 false true v28 (.int .u8 3)) w (fun v29 w =>
 Br v29 (
 S.pur (.fieldAddr 45 v6 0) (fun v30 =>
 S.ld (.load 2 v30) w.drew (fun v31 =>
 S.pur (.fieldAddr 23 v4 1) (fun v32 =>
 S.ld (.load 2 v32) w.drew (fun v33 =>
 S.pur (.fieldAddr 45 v7 0) (fun v35 =>
 S.ld (.load 2 v35) w.drew (fun v36 =>
 S.pur (.fieldAddr 23 v4 1) (fun v37 =>
 S.ld (.load 2 v37) w.drew (fun v38 =>
 S.call (.fn 59) [v31, v33] w.drew (fun v34 w =>
 S.same (.load 2 v37) v38 w ∧
 S.same (.load 2 v35) v36 w ∧
 S.call (.fn 59) [v36, v38] w (fun v39 w =>
 S.op (.bin .neq 2 false false v34 v39) w (fun v42 w =>
 Br v42 (
 S.op (.bin .lss 2 false false v34 v39) w (fun v45 w =>
 S.op (.bin .gtr 2 false false v34 v39) w (fun v48 w =>
 J9 v45 v48 w) Kp) Kp) (
 J9 v21 v26 w)) Kp) Kp) Kp))))))))) (
 J9 v21 v26 w)) Kp) Kp) Kp) ∧
 (∀ (w : World) (_ : Nat → Value) (j10 : Value) (j11 : Value), J9 j10 j11 w →
 Br a1 (
 S.pur (.fieldAddr 45 v6 1) (fun v50 =>
 S.ld (.load 9 v50) w.drew (fun v51 =>
 S.pur (.fieldAddr 45 v7 1) (fun v52 =>
 S.ld (.load 9 v52) w.drew (fun v53 =>
 S.pur (.bin .lss 9 false false v51 v53) (fun v54 =>
 S.pur (.fieldAddr 45 v6 1) (fun v55 =>
 S.ld (.load 9 v55) w.drew (fun v56 =>
 S.pur (.fieldAddr 45 v7 1) (fun v57 =>
 S.ld (.load 9 v57) w.drew (fun v58 =>
 S.pur (.bin .gtr 9 false false v56 v58) (fun v59 =>
 S.same (.load 9 v57) v58 w.drew ∧
 S.same (.load 9 v55) v56 w.drew ∧
 S.op (.fieldAddr 23 v4 0) w.drew (fun v60 w =>
 S.op (.load 5 v60) w (fun v61 w =>
 S.op (.bin .eql 5 false true v61 (.int .u8 3)) w (fun v62 w =>
 Br v62 (
 S.op (.fieldAddr 45 v6 1) w (fun v64 w =>
 S.op (.load 9 v64) w (fun v65 w =>
 S.op (.blt .len [9] 3 [v65]) w (fun v66 w =>
 S.op (.fieldAddr 45 v7 1) w (fun v67 w =>
 S.op (.load 9 v67) w (fun v68 w =>
 S.op (.blt .len [9] 3 [v68]) w (fun v69 w =>
 S.op (.bin .neq 3 false false v66 v69) w (fun v70 w =>
 Br v70 (
 S.pur (.fieldAddr 45 v6 1) (fun v72 =>
 S.ld (.load 9 v72) w.drew (fun v73 =>
 S.ld (.blt .len [9] 3 [v73]) w.drew (fun v74 =>
 S.pur (.fieldAddr 45 v7 1) (fun v75 =>
 S.ld (.load 9 v75) w.drew (fun v76 =>
 S.ld (.blt .len [9] 3 [v76]) w.drew (fun v77 =>
 S.pur (.bin .lss 3 false false v74 v77) (fun v78 =>
 S.pur (.fieldAddr 45 v6 1) (fun v79 =>
 S.ld (.load 9 v79) w.drew (fun v80 =>
 S.ld (.blt .len [9] 3 [v80]) w.drew (fun v81 =>
 S.pur (.fieldAddr 45 v7 1) (fun v82 =>
 S.ld (.load 9 v82) w.drew (fun v83 =>
 S.ld (.blt .len [9] 3 [v83]) w.drew (fun v84 =>
 S.pur (.bin .gtr 3 false false v81 v84) (fun v85 =>
 S.same (.blt .len [9] 3 [v83]) v84 w.drew ∧
 S.same (.load 9 v82) v83 w.drew ∧
 S.same (.blt .len [9] 3 [v80]) v81 w.drew ∧
 S.same (.load 9 v79) v80 w.drew ∧
 Br v78 (
 S.op (.un .neg j9) w.drew (fun v89 w =>
 K v89 w) Kp) (
 Br v85 (
 K j9 w.drew) (
 K (.int .i64 0) w.drew))))))))))))))))) (
 Br v54 (
 S.op (.un .neg j9) w (fun v89 w =>
 K v89 w) Kp) (
 Br v59 (
 K j9 w) (
 K (.int .i64 0) w)))) Kp) Kp) Kp) Kp) Kp) Kp) Kp) (
 Br v54 (
 S.op (.un .neg j9) w (fun v89 w =>
 K v89 w) Kp) (
 Br v59 (
 K j9 w) (
 K (.int .i64 0) w)))) Kp) Kp) Kp))))))))))) (
 Br j10 (
 S.op (.un .neg j9) w (fun v89 w =>
 K v89 w) Kp) (
 Br j11 (
 K j9 w) (
 K (.int .i64 0) w)))))))))))))))) Kp) Kp) Kp
theorem vc34_eq : vc34 S a0 a1 a2 a3 w K Kp = fVC S [] [(4, [9]), (9, [10, 11])] Tryz.f34 [a0, a1, a2, a3] w K Kp := by kernel_rfl
theorem vc34_calls (h : vc34 nP a0 a1 a2 a3 w K Kp) : Calls Tryz.prog 34 #[a0, a1, a2, a3] w (ret K Kp) :=
 fVC_sound (args := [a0, a1, a2, a3]) nice_le follows_BVcLP Tryz.func34 (by kernel_rfl) (Eq.mp vc34_eq h)
def vc59 (S : Sig) (a0 a1 : Value) (w : World) (K : KV) (Kp : KP) : Prop :=
 S.op (.bin .rem 2 false false a0 a1) w (fun v8 w =>
 S.op (.bin .lss 2 false true v8 (.int .i64 0)) w (fun v10 w =>
 Br v10 (
 S.op (.bin .add 2 false false v8 a1) w (fun v13 w =>
 K v13 w) Kp) (
 K v8 w)) Kp) Kp
theorem vc59_eq : vc59 S a0 a1 w K Kp = fVC S [] [] Tryz.f59 [a0, a1] w K Kp := by kernel_rfl
theorem vc59_calls (h : vc59 nP a0 a1 w K Kp) : Calls Tryz.prog 59 #[a0, a1] w (ret K Kp) :=
 fVC_sound (args := [a0, a1]) nice_le follows_BVcLP Tryz.func59 (by kernel_rfl) (Eq.mp vc59_eq h)
def vc48 (S : Sig) (a0 a1 a2 a3 : Value) (w : World) (K : KV) (Kp : KP) : Prop :=
 S.op (.box 23 a0) w (fun v4 w =>
 S.op (.box 45 a3) w (fun v7 w =>
 S.op (.blt .len [38] 3 [a2]) w (fun v14 w =>
 Lp fun (I2 : Value → KV) (μ2 : Value → Value → World → Nat) => I2 (.int .i64 0) v14 w ∧
 ∀ (wl2 : World) (_ : Nat → Value) (s10 : Value) (s11 : Value), I2 s10 s11 wl2 →
 S.op (.bin .lss 3 false false s10 s11) wl2 (fun v17 w =>
 Br v17 (
 S.op (.bin .add 3 false false s10 s11) w (fun v20 w =>
 S.op (.bin .quo 3 false true v20 (.int .i64 2)) w (fun v21 w =>
 S.ld (.load 23 v4) w.drew (fun v22 =>
 S.pur (.indexAddr 38 a2 v21) (fun v26 =>
 S.ld (.load 45 v26) w.drew (fun v27 =>
 S.ld (.load 45 v7) w.drew (fun v28 =>
 S.call (.fn 34) [v22, a1, v27, v28] w.drew (fun v29 w =>
 S.pur (.bin .lss 3 false true v29 (.int .i64 0)) (fun v30 =>
 Br v30 (
 S.op (.bin .add 3 false true v21 (.int .i64 1)) w (fun v32 w =>
 I2 v32 s11 w ∧ μ2 v32 s11 w < μ2 s10 s11 wl2) Kp) (
 I2 s10 v21 w ∧ μ2 s10 v21 w < μ2 s10 s11 wl2))) Kp))))) Kp) Kp) (
 S.ld (.blt .len [38] 3 [a2]) w.drew (fun v37 =>
 S.pur (.bin .lss 3 false false s10 v37) (fun v38 =>
 Br v38 (
 S.ld (.load 23 v4) w.drew (fun v40 =>
 S.pur (.indexAddr 38 a2 s10) (fun v44 =>
 S.ld (.load 45 v44) w.drew (fun v45 =>
 S.ld (.load 45 v7) w.drew (fun v46 =>
 S.call (.fn 34) [v40, a1, v45, v46] w.drew (fun v47 w =>
 S.pur (.bin .eql 3 false true v47 (.int .i64 0)) (fun v48 =>
 K (.tuple #[s10, v48]) w)) Kp))))) (
 K (.tuple #[s10, (.bool false)]) w.drew))))) Kp) Kp) Kp) Kp
theorem vc48_eq : vc48 S a0 a1 a2 a3 w K Kp = fVC S [(2, [10, 11])] [] Tryz.f48 [a0, a1, a2, a3] w K Kp := by kernel_rfl
theorem vc48_calls (h : vc48 nP a0 a1 a2 a3 w K Kp) : Calls Tryz.prog 48 #[a0, a1, a2, a3] w (ret K Kp) :=
 fVC_sound (args := [a0, a1, a2, a3]) nice_le follows_BVcLP Tryz.func48 (by kernel_rfl) (Eq.mp vc48_eq h)
def vc46 (S : Sig) (a0 a1 a2 a3 : Value) (w : World) (K : KV) (Kp : KP) : Prop :=
 S.op (.box 23 a0) w (fun v4 w =>
 S.op (.box 45 a3) w (fun v7 w =>
 S.op (.load 23 v4) w (fun v12 w =>
 S.op (.load 45 v7) w (fun v15 w =>
 S.call (.fn 48) [v12, a1, a2, v15] w (fun v16 w =>
 S.op (.extract v16 0) w (fun v17 w =>
 S.op (.extract v16 1) w (fun v18 w =>
 Br v18 (
 S.op (.load 45 v7) w (fun v22 w =>
 S.op (.indexAddr 38 a2 v17) w (fun v23 w =>
 S.op (.store 45 v23 v22) w (fun _ w =>
 K a2 w) Kp) Kp) Kp) (
 S.op (.build 45 []) w (fun v26 w =>
 S.op (.buildSlice 38 1 [(0, v26)]) w (fun v27 w =>
 S.op (.blt .append [38, 38] 38 [a2, v27]) w (fun v28 w =>
 S.pur (.bin .add 3 false true v17 (.int .i64 1)) (fun v31 =>
 S.pur (.slice 38 v28 (some v31) none none) (fun v32 =>
 S.pur (.slice 38 v28 (some v17) none none) (fun v35 =>
 S.op (.blt .copy [38, 38] 3 [v32, v35]) w.drew (fun v36 w =>
 S.op (.load 45 v7) w (fun v39 w =>
 S.op (.indexAddr 38 v28 v17) w (fun v40 w =>
 S.op (.store 45 v40 v39) w (fun _ w =>
 K v28 w) Kp) Kp) Kp) Kp)))) Kp) Kp) Kp)) Kp) Kp) Kp) Kp) Kp) Kp) Kp
theorem vc46_eq : vc46 S a0 a1 a2 a3 w K Kp = fVC S [] [] Tryz.f46 [a0, a1, a2, a3] w K Kp := by kernel_rfl
theorem vc46_calls (h : vc46 nP a0 a1 a2 a3 w K Kp) : Calls Tryz.prog 46 #[a0, a1, a2, a3] w (ret K Kp) :=
 fVC_sound (args := [a0, a1, a2, a3]) nice_le follows_BVcLP Tryz.func46 (by kernel_rfl) (Eq.mp vc46_eq h)
def vc49 (S : Sig) (a0 a1 : Value) (w : World) (K : KV) (Kp : KP) : Prop :=
 S.op (.box 45 a1) w (fun v3 w =>
 S.op (.alloc 45) w (fun v4 w =>
 Br a0 (
 S.op (.fieldAddr 45 v3 0) w (fun v6 w =>
 S.op (.store 2 v6 (.int .i64 0)) w (fun _ w =>
 S.op (.load 45 v3) w (fun v8 w =>
 S.op (.store 45 v4 v8) w (fun _ w =>
 S.ld (.load 45 v4) w (fun r0 =>
 K r0 w)) Kp) Kp) Kp) Kp) (
 S.op (.fieldAddr 45 v3 1) w (fun v7 w =>
 S.op (.store 9 v7 (.string { data := #[] })) w (fun _ w =>
 S.op (.load 45 v3) w (fun v8 w =>
 S.op (.store 45 v4 v8) w (fun _ w =>
 S.ld (.load 45 v4) w (fun r0 =>
 K r0 w)) Kp) Kp) Kp) Kp)) Kp) Kp
theorem vc49_eq : vc49 S a0 a1 w K Kp = fVC S [] [] Tryz.f49 [a0, a1] w K Kp := by kernel_rfl
theorem vc49_calls (h : vc49 nP a0 a1 w K Kp) : Calls Tryz.prog 49 #[a0, a1] w (ret K Kp) :=
 fVC_sound (args := [a0, a1]) nice_le follows_BVcLP Tryz.func49 (by kernel_rfl) (Eq.mp vc49_eq h)
end Go.Proofs.YtodjijfblgnfmaaGreatDoor
end
section
namespace Go.Proofs.YtodjijfblgnfmaaGreatDoor
open Go.Vc Go.Proofs Go.Vc.Bt
variable {w w' : World} {K : KV} {Kp : KP} {K1 : Value → Prop} {n : Int} {kn : Nat} {text : Bool} {a b : SPr}
theorem pur_lss_s {t : TypeId} {xc yc : Bool} {a b : ByteArray} : nP.pur (.bin .lss t xc yc (.string a) (.string b)) K1 = K1 (.bool (lessB a b)) := pur_of' (by simp [pv, binV, strV, lessB])
theorem pur_gtr_s {t : TypeId} {xc yc : Bool} {a b : ByteArray} : nP.pur (.bin .gtr t xc yc (.string a) (.string b)) K1 = K1 (.bool (lessB b a)) := by
  have h : (!(lessB a b || decide (a = b))) = lessB b a := by
    cases h1 : lessB a b with
    | true => rw [lin_lessB.asym h1]; rfl
    | false =>
      cases h2 : lessB b a with
      | true =>
        have hne : ¬ a = b := fun e => by rw [e, lin_lessB.irr] at h2; cases h2
        simp [hne]
      | false => simp [lin_lessB.tri h1 h2]
  rw [← h]
  exact pur_of' (by simp [pv, binV, strV, lessB])
theorem rest_ok {a : Int} (h1 : 1 ≤ n) (h2 : n ≤ 1000) (hK : K (.int .i64 (a % n)) w) : Calls Tryz.prog 59 #[.int .i64 a, .int .i64 n] w (ret K Kp) := by
  refine vc59_calls ?_
  delta vc59
  obtain ⟨t1, t2, t3⟩ := I.tmod_pos (a := a) (m := n) (by omega)
  simp [-getElem?_pos, -Array.getElem?_eq_getElem, -Int.natCast_add, add_spot, and_assoc, Br_dec]
  refine ⟨by omega, fun h => ?_, fun h => ?_⟩
  · rw [if_pos h] at t3
    rw [show IntKind.i64.wrap (a.tmod n + n) = a % n from by rw [IntKind.wrap_i64]; omega]
    exact hK
  · rw [if_neg (by omega)] at t3
    rw [← t3]; exact hK
def ltS (text : Bool) (kn : Nat) (n : Int) (a b : SPr) : Bool := if text then T.ordB kn a.text b.text else I.ordI kn n a.key b.key
def cmpS (text : Bool) (kn : Nat) (n : Int) (a b : SPr) : Int := if ltS text kn n a b then -1 else if ltS text kn n b a then 1 else 0
theorem ltS_asym (h : ltS text kn n a b = true) : ltS text kn n b a = false := by
  unfold ltS at *
  cases text
  · exact I.ordI_lin.asym h
  · exact T.ordB_lin.asym h
theorem c_lt (h : ltS text kn n a b = true) : cmpS text kn n a b = -1 := by unfold cmpS; rw [if_pos h]
theorem c_gt (h : ltS text kn n b a = true) : cmpS text kn n a b = 1 := by unfold cmpS; rw [if_neg (by rw [ltS_asym h]; simp), if_pos h]
theorem c_eq (h : ltS text kn n a b = false) (h' : ltS text kn n b a = false) : cmpS text kn n a b = 0 := by unfold cmpS; rw [if_neg (by simp [h]), if_neg (by simp [h'])]
theorem compareS_ok (hR : Right kn n) (hK : ∀ w', Frm (fun _ => False) w w' → K (.int .i64 (cmpS text kn n a b)) w') : Calls Tryz.prog 34 #[orderV kn n, .bool text, .agg a.cells.toArray, .agg b.cells.toArray] w (ret K Kp) := by
  refine vc34_calls ?_
  delta vc34 orderV
  refine op_box_ok fun w1 k1 z1 b1 => op_box_ok fun w2 k2 z2 b2 => op_box_ok fun w3 k3 z3 b3 => ?_
  simp only [cells_agg, SPr.cells] at b1 b2 b3
  have k13 := (k1.no k2).no k3
  have c1 := k3.get (k2.get b1 fun h => h) fun h => h
  have c2 := k3.get b2 fun h => h
  have kd : ∀ {wz}, Frm (fun _ => False) w3 wz → K (.int .i64 (cmpS text kn n a b)) wz := fun hf => hK _ (k13.no hf)
  have dr := Frm.drew (M := fun _ => False) w3
  have dd := dr.no (Frm.drew (M := fun _ => False) w3.drew)
  clear hK
  have klt : ∀ {wz : World} {m : Int}, Frm (fun _ => False) w3 wz → ltS text kn n a b = true → m = -1 → K (.int .i64 m) wz := fun hf h e => by have := kd hf; rw [c_lt h] at this; rw [e]; exact this
  have kgt : ∀ {wz : World} {m : Int}, Frm (fun _ => False) w3 wz → ltS text kn n b a = true → m = 1 → K (.int .i64 m) wz := fun hf h e => by have := kd hf; rw [c_gt h] at this; rw [e]; exact this
  have keq : ∀ {wz : World}, Frm (fun _ => False) w3 wz → ltS text kn n a b = false → ltS text kn n b a = false → K (.int .i64 0) wz := fun hf h h' => by have := kd hf; rw [c_eq h h'] at this; exact this
  clear kd
  by_cases e2 : kn = 2
  · subst e2
    simp [-getElem?_pos, -Array.getElem?_eq_getElem, -Int.natCast_add, c1]
    refine Jn.intro (fun v wz => v = .int .i64 (-1) ∧ wz = w3) ⟨⟨rfl, rfl⟩, ?_⟩
    rintro wz _ ⟨rfl, rfl⟩
    obtain ⟨J, hJ⟩ : ∃ J : Value → KV, ∀ u v wq, J u v wq ↔ u = .bool (decide (a.key < b.key)) ∧ v = .bool (decide (b.key < a.key)) ∧ Frm (fun _ => False) wz wq := ⟨_, fun _ _ _ => Iff.rfl⟩
    simp [-getElem?_pos, -Array.getElem?_eq_getElem, -Int.natCast_add, c1, c2, b3]
    refine Jn.intro J ⟨(hJ _ _ _).2 ⟨rfl, by simp, dr⟩, ?_⟩
    intro wq u v hq
    obtain ⟨rfl, rfl, kq⟩ := (hJ _ _ _).1 hq
    have q1 := kq.get c1 fun h => h
    have q2 := kq.get c2 fun h => h
    have q3 := kq.get b3 fun h => h
    have kqd := kq.no (Frm.drew wq)
    cases text with
    | true =>
      have hlt : ltS true 2 n b a = lessB a.text b.text := rfl
      have hgt : ltS true 2 n a b = lessB b.text a.text := rfl
      rw [hgt] at klt keq
      rw [hlt] at kgt keq
      simp [-getElem?_pos, -Array.getElem?_eq_getElem, -Int.natCast_add, q1, q2, q3, pur_lss_s, pur_gtr_s]
      exact ⟨fun h => kgt kqd h (by decide), fun h => ⟨fun h' => klt kqd h' rfl, fun h' => keq kqd h' h⟩⟩
    | false =>
      have hlt : ltS false 2 n b a = decide (a.key < b.key) := by simp [ltS, I.ordI, ltInt]
      have hgt : ltS false 2 n a b = decide (b.key < a.key) := by simp [ltS, I.ordI, ltInt]
      rw [hgt] at klt keq
      rw [hlt] at kgt keq
      simp [-getElem?_pos, -Array.getElem?_eq_getElem, -Int.natCast_add, add_spot, and_assoc, Br_dec]
      exact ⟨fun h => kgt kq (by simpa using h) (by decide), fun h => ⟨fun h' => klt kq (by simpa using h') rfl, fun h' => keq kq (by simpa using h') (by simpa using h)⟩⟩
  have g2 : ¬ (kn : Int) = 2 := by omega
  simp [-getElem?_pos, -Array.getElem?_eq_getElem, -Int.natCast_add, c1, g2]
  refine Jn.intro (fun v wz => v = .int .i64 1 ∧ wz = w3) ⟨⟨rfl, rfl⟩, ?_⟩
  rintro wz _ ⟨rfl, rfl⟩
  by_cases e3 : kn = 3
  · subst e3
    obtain ⟨r1, r2⟩ := hR.2 rfl
    have hby : ∀ x y : Int, by1 (· % n) ltInt x y = if x % n = y % n then decide (x < y) else decide (x % n < y % n) := fun x y => rfl
    obtain ⟨J, hJ⟩ : ∃ J : Value → KV, ∀ u v wq, J u v wq ↔ u = .bool (by1 (· % n) ltInt a.key b.key) ∧ v = .bool (by1 (· % n) ltInt b.key a.key) ∧ Frm (fun _ => False) wz wq := ⟨_, fun _ _ _ => Iff.rfl⟩
    simp [-getElem?_pos, -Array.getElem?_eq_getElem, -Int.natCast_add, c1, c2, b3]
    refine Jn.intro J ⟨?_, ?_⟩
    · refine rest_ok r1 r2 ?_
      simp [-getElem?_pos, -Array.getElem?_eq_getElem, -Int.natCast_add, c1, b3]
      refine rest_ok r1 r2 ?_
      simp [-getElem?_pos, -Array.getElem?_eq_getElem, -Int.natCast_add, add_spot, and_assoc, Br_dec]
      refine ⟨fun h => (hJ _ _ _).2 ⟨?_, ?_, dd⟩, fun h => (hJ _ _ _).2 ⟨?_, ?_, dd⟩⟩
      · rw [hby, if_neg h]
      · rw [hby, if_neg (fun e => h e.symm)]
      · rw [hby, if_pos h]
      · rw [hby, if_pos h.symm]
    intro wq u v hq
    obtain ⟨rfl, rfl, kq⟩ := (hJ _ _ _).1 hq
    have q1 := kq.get c1 fun h => h
    have q2 := kq.get c2 fun h => h
    have q3 := kq.get b3 fun h => h
    have kqd := kq.no (Frm.drew wq)
    have kqdd := kqd.no (Frm.drew wq.drew)
    cases text with
    | true =>
      have hlt : ltS true 3 n a b = if (a.text.size : Int) = b.text.size then lessB a.text b.text else decide ((a.text.size : Int) < b.text.size) := rfl
      have hgt : ltS true 3 n b a = if (b.text.size : Int) = a.text.size then lessB b.text a.text else decide ((b.text.size : Int) < a.text.size) := rfl
      simp [-getElem?_pos, -Array.getElem?_eq_getElem, -Int.natCast_add, q1, q2, q3, pur_lss_s, pur_gtr_s]
      refine ⟨fun hne => ?_, fun he => ?_⟩
      · rw [if_neg (by omega)] at hlt hgt
        rw [hlt] at klt keq
        rw [hgt] at kgt keq
        exact ⟨fun h => klt kqdd (decide_eq_true (by omega)) (by decide), fun h => ⟨fun h' => kgt kqdd (decide_eq_true (by omega)) rfl, fun h' => keq kqdd (decide_eq_false (by omega)) (decide_eq_false (by omega))⟩⟩
      · rw [if_pos (by omega)] at hlt hgt
        rw [hlt] at klt keq
        rw [hgt] at kgt keq
        exact ⟨fun h => klt kqd h (by decide), fun h => ⟨fun h' => kgt kqd h' rfl, fun h' => keq kqd h h'⟩⟩
    | false =>
      have hlt : ltS false 3 n a b = by1 (· % n) ltInt a.key b.key := by simp only [ltS, I.ordI]; rw [if_neg (by simp)]; rw [if_neg (by decide), if_pos ⟨by trivial, by omega⟩]
      have hgt : ltS false 3 n b a = by1 (· % n) ltInt b.key a.key := by simp only [ltS, I.ordI]; rw [if_neg (by simp)]; rw [if_neg (by decide), if_pos ⟨by trivial, by omega⟩]
      rw [hlt] at klt keq
      rw [hgt] at kgt keq
      simp [-getElem?_pos, -Array.getElem?_eq_getElem, -Int.natCast_add, add_spot, and_assoc, Br_dec]
      exact ⟨fun h => klt kq h (by decide), fun h => ⟨fun h' => kgt kq h' rfl, fun h' => keq kq h h'⟩⟩
  · have g3 : ¬ (kn : Int) = 3 := by omega
    obtain ⟨J, hJ⟩ : ∃ J : Value → KV, ∀ u v wq, J u v wq ↔ u = .bool (decide (a.key < b.key)) ∧ v = .bool (decide (b.key < a.key)) ∧ Frm (fun _ => False) wz wq := ⟨_, fun _ _ _ => Iff.rfl⟩
    simp [-getElem?_pos, -Array.getElem?_eq_getElem, -Int.natCast_add, c1, c2, b3, g3]
    refine Jn.intro J ⟨(hJ _ _ _).2 ⟨rfl, by simp, dr⟩, ?_⟩
    intro wq u v hq
    obtain ⟨rfl, rfl, kq⟩ := (hJ _ _ _).1 hq
    have q1 := kq.get c1 fun h => h
    have q2 := kq.get c2 fun h => h
    have q3 := kq.get b3 fun h => h
    have kqd := kq.no (Frm.drew wq)
    cases text with
    | true =>
      have hlt : ltS true kn n a b = lessB a.text b.text := by simp [ltS, T.ordB, e2, e3]
      have hgt : ltS true kn n b a = lessB b.text a.text := by simp [ltS, T.ordB, e2, e3]
      rw [hlt] at klt keq
      rw [hgt] at kgt keq
      simp [-getElem?_pos, -Array.getElem?_eq_getElem, -Int.natCast_add, q1, q2, q3, g3, pur_lss_s, pur_gtr_s]
      exact ⟨fun h => klt kqd h (by decide), fun h => ⟨fun h' => kgt kqd h' rfl, fun h' => keq kqd h h'⟩⟩
    | false =>
      have hlt : ltS false kn n a b = decide (a.key < b.key) := by simp [ltS, I.ordI, ltInt, e2, e3]
      have hgt : ltS false kn n b a = decide (b.key < a.key) := by simp [ltS, I.ordI, ltInt, e2, e3]
      rw [hlt] at klt keq
      rw [hgt] at kgt keq
      simp [-getElem?_pos, -Array.getElem?_eq_getElem, -Int.natCast_add, add_spot, and_assoc, Br_dec]
      exact ⟨fun h => klt kq (by simpa using h) (by decide), fun h => ⟨fun h' => kgt kq (by simpa using h') rfl, fun h' => keq kq (by simpa using h) (by simpa using h')⟩⟩
end Go.Proofs.YtodjijfblgnfmaaGreatDoor
end
section
namespace Go.Proofs.YtodjijfblgnfmaaGreatDoor
open Go.Vc Go.Proofs
variable {w : World} {K : KV} {Kp : KP} {K1 : Value → Prop}
@[simp] theorem op_fa_64_0 {p : Addr} : nP.op (.fieldAddr 64 (.pointer (some p)) 0) w K Kp = K (.pointer (some (p.add 0))) w := op_fa (k := .one) (by kernel_rfl)
@[simp] theorem pur_fa_64_0 {p : Addr} : nP.pur (.fieldAddr 64 (.pointer (some p)) 0) K1 = K1 (.pointer (some (p.add 0))) := pur_fa (k := .one) (by kernel_rfl)
@[simp] theorem op_fa_64_3 {p : Addr} : nP.op (.fieldAddr 64 (.pointer (some p)) 3) w K Kp = K (.pointer (some (p.add 3))) w := op_fa (k := .one) (by kernel_rfl)
@[simp] theorem pur_fa_64_3 {p : Addr} : nP.pur (.fieldAddr 64 (.pointer (some p)) 3) K1 = K1 (.pointer (some (p.add 3))) := pur_fa (k := .one) (by kernel_rfl)
@[simp] theorem op_fa_64_4 {p : Addr} : nP.op (.fieldAddr 64 (.pointer (some p)) 4) w K Kp = K (.pointer (some (p.add 4))) w := op_fa (k := .one) (by kernel_rfl)
@[simp] theorem pur_fa_64_4 {p : Addr} : nP.pur (.fieldAddr 64 (.pointer (some p)) 4) K1 = K1 (.pointer (some (p.add 4))) := pur_fa (k := .one) (by kernel_rfl)
theorem build_45_1_2 {x1 : Value} {x2 : Value} (h1 : x1.oneCell' = true) (h2 : x2.oneCell' = true) : buildV Tryz.prog 45 [(1, x1), (2, x2)] = some (.agg (#[Value.int IntKind.i64 0, x1, x2])) := by
  have e : buildV Tryz.prog 45 [(1, x1), (2, x2)] = (Instr.fill ((#[(0, 1), (1, 1), (2, 1)] : Array (Nat × Nat))[·]?) (#[Value.int IntKind.i64 0, Value.string ByteArray.empty, Value.int IntKind.i64 0]) [(1, x1), (2, x2)]).map .agg := by kernel_rfl
  rw [e]; simp [Instr.fill, cells_of_one h1, cells_of_one h2]
@[simp] theorem op_build_45_1_2 {x1 : Value} {x2 : Value} (h1 : x1.oneCell' = true) (h2 : x2.oneCell' = true) : nP.op (.build 45 [(1, x1), (2, x2)]) w K Kp = K (.agg (#[Value.int IntKind.i64 0, x1, x2])) w := op_build (build_45_1_2 h1 h2)
@[simp] theorem pur_build_45_1_2 {x1 : Value} {x2 : Value} (h1 : x1.oneCell' = true) (h2 : x2.oneCell' = true) : nP.pur (.build 45 [(1, x1), (2, x2)]) K1 = K1 (.agg (#[Value.int IntKind.i64 0, x1, x2])) := pur_build (build_45_1_2 h1 h2)
@[simp] theorem op_fa_64_2 {p : Addr} : nP.op (.fieldAddr 64 (.pointer (some p)) 2) w K Kp = K (.pointer (some (p.add 2))) w := op_fa (k := .one) (by kernel_rfl)
@[simp] theorem pur_fa_64_2 {p : Addr} : nP.pur (.fieldAddr 64 (.pointer (some p)) 2) K1 = K1 (.pointer (some (p.add 2))) := pur_fa (k := .one) (by kernel_rfl)
@[simp] theorem op_fa_64_5 {p : Addr} : nP.op (.fieldAddr 64 (.pointer (some p)) 5) w K Kp = K (.pointer (some (p.add 5))) w := op_fa (k := .one) (by kernel_rfl)
@[simp] theorem pur_fa_64_5 {p : Addr} : nP.pur (.fieldAddr 64 (.pointer (some p)) 5) K1 = K1 (.pointer (some (p.add 5))) := pur_fa (k := .one) (by kernel_rfl)
@[simp] theorem op_fa_64_6 {p : Addr} : nP.op (.fieldAddr 64 (.pointer (some p)) 6) w K Kp = K (.pointer (some (p.add 6))) w := op_fa (k := .one) (by kernel_rfl)
@[simp] theorem pur_fa_64_6 {p : Addr} : nP.pur (.fieldAddr 64 (.pointer (some p)) 6) K1 = K1 (.pointer (some (p.add 6))) := pur_fa (k := .one) (by kernel_rfl)
theorem lit_65_1 {x0 : Value} (h0 : x0.oneCell' = true) : sliceLit Tryz.prog 65 1 [(0, x0)] = some (38, #[x0]) := by
  have e : sliceLit Tryz.prog 65 1 [(0, x0)] = (Instr.fill (fun i => some (i * 1, 1)) (#[Value.slice none 0 0]) [(0, x0)]).map fun cs => (38, cs) := by kernel_rfl
  rw [e]; simp [Instr.fill, cells_of_one h0]
@[simp] theorem op_len_24 {a : Option Addr} {n c ty : Nat} : nP.op (.blt .len [24] ty [.slice a n c]) w K Kp = K (.int .i64 n) w := op_len_slice (by kernel_rfl)
@[simp] theorem pur_len_24 {a : Option Addr} {n c ty : Nat} : nP.pur (.blt .len [24] ty [.slice a n c]) K1 = K1 (.int .i64 n) := pur_len_slice (by kernel_rfl)
@[simp] theorem ld_len_24 {a : Option Addr} {n c ty : Nat} : nP.ld (.blt .len [24] ty [.slice a n c]) w K1 = K1 (.int .i64 n) := ld_len_slice (by kernel_rfl)
@[simp] theorem same_len_24 {a : Option Addr} {n c ty : Nat} {u : Value} : nP.same (.blt .len [24] ty [.slice a n c]) u w = (.int .i64 n = u) := same_len_slice (by kernel_rfl)
@[simp] theorem op_ix_24 {p : Addr} {len cap : Nat} {k : IntKind} {j : Int} : nP.op (.indexAddr 24 (.slice (some p) len cap) (.int k j)) w K Kp = ((0 ≤ j ∧ j < (len : Int)) ∧ K (.pointer (some (p.add (j.toNat * 7)))) w) := op_ix_slice (e := 64) (by kernel_rfl)
@[simp] theorem pur_ix_24 {p : Addr} {len cap : Nat} {k : IntKind} {j : Int} : nP.pur (.indexAddr 24 (.slice (some p) len cap) (.int k j)) K1 = ((0 ≤ j ∧ j < (len : Int)) ∧ K1 (.pointer (some (p.add (j.toNat * 7))))) := pur_ix_slice (e := 64) (by kernel_rfl)
@[simp] theorem op_ld_64 {p : Addr} : nP.op (.load 64 (.pointer (some p))) w K Kp = ∃ cs e fz, w.heap[p.block]? = some (.cells cs e fz) ∧ p.spot = none ∧ p.off + 7 ≤ cs.size ∧ K (.agg (cs.extract p.off (p.off + 7))) w := op_ldn (by kernel_rfl)
@[simp] theorem ld_ld_64 {p : Addr} : nP.ld (.load 64 (.pointer (some p))) w K1 = ∃ cs e fz, w.heap[p.block]? = some (.cells cs e fz) ∧ p.spot = none ∧ p.off + 7 ≤ cs.size ∧ K1 (.agg (cs.extract p.off (p.off + 7))) := ld_ldn (by kernel_rfl)
@[simp] theorem same_ld_64 {p : Addr} {v : Value} : nP.same (.load 64 (.pointer (some p))) v w = ∃ cs e fz, w.heap[p.block]? = some (.cells cs e fz) ∧ p.spot = none ∧ p.off + 7 ≤ cs.size ∧ .agg (cs.extract p.off (p.off + 7)) = v := same_ldn (by kernel_rfl)
@[simp] theorem op_fa_64_1 {p : Addr} : nP.op (.fieldAddr 64 (.pointer (some p)) 1) w K Kp = K (.pointer (some (p.add 1))) w := op_fa (k := .one) (by kernel_rfl)
@[simp] theorem pur_fa_64_1 {p : Addr} : nP.pur (.fieldAddr 64 (.pointer (some p)) 1) K1 = K1 (.pointer (some (p.add 1))) := pur_fa (k := .one) (by kernel_rfl)
@[simp] theorem op_len_65 {a : Option Addr} {n c ty : Nat} : nP.op (.blt .len [65] ty [.slice a n c]) w K Kp = K (.int .i64 n) w := op_len_slice (by kernel_rfl)
@[simp] theorem pur_len_65 {a : Option Addr} {n c ty : Nat} : nP.pur (.blt .len [65] ty [.slice a n c]) K1 = K1 (.int .i64 n) := pur_len_slice (by kernel_rfl)
@[simp] theorem ld_len_65 {a : Option Addr} {n c ty : Nat} : nP.ld (.blt .len [65] ty [.slice a n c]) w K1 = K1 (.int .i64 n) := ld_len_slice (by kernel_rfl)
@[simp] theorem same_len_65 {a : Option Addr} {n c ty : Nat} {u : Value} : nP.same (.blt .len [65] ty [.slice a n c]) u w = (.int .i64 n = u) := same_len_slice (by kernel_rfl)
@[simp] theorem op_ix_65 {p : Addr} {len cap : Nat} {k : IntKind} {j : Int} : nP.op (.indexAddr 65 (.slice (some p) len cap) (.int k j)) w K Kp = ((0 ≤ j ∧ j < (len : Int)) ∧ K (.pointer (some (p.add (j.toNat * 1)))) w) := op_ix_slice (e := 38) (by kernel_rfl)
@[simp] theorem pur_ix_65 {p : Addr} {len cap : Nat} {k : IntKind} {j : Int} : nP.pur (.indexAddr 65 (.slice (some p) len cap) (.int k j)) K1 = ((0 ≤ j ∧ j < (len : Int)) ∧ K1 (.pointer (some (p.add (j.toNat * 1))))) := pur_ix_slice (e := 38) (by kernel_rfl)
@[simp] theorem op_ld_38 {p : Addr} : nP.op (.load 38 (.pointer (some p))) w K Kp = ∃ cs e fz, w.heap[p.block]? = some (.cells cs e fz) ∧ p.spot = none ∧ ∃ v, cs[p.off]? = some v ∧ K v w := op_ld (by kernel_rfl)
@[simp] theorem ld_ld_38 {p : Addr} : nP.ld (.load 38 (.pointer (some p))) w K1 = ∃ cs e fz, w.heap[p.block]? = some (.cells cs e fz) ∧ p.spot = none ∧ ∃ v, cs[p.off]? = some v ∧ K1 v := ld_ld (by kernel_rfl)
@[simp] theorem same_ld_38 {p : Addr} {v : Value} : nP.same (.load 38 (.pointer (some p))) v w = ∃ cs e fz, w.heap[p.block]? = some (.cells cs e fz) ∧ p.spot = none ∧ cs[p.off]? = some v := same_ld (by kernel_rfl)
theorem build_104_  : buildV Tryz.prog 104 [] = some (.agg (#[Value.int IntKind.i64 0, Value.int IntKind.i64 0, Value.bool false, Value.slice none 0 0])) := by
  have e : buildV Tryz.prog 104 [] = (Instr.fill ((#[(0, 1), (1, 1), (2, 1), (3, 1)] : Array (Nat × Nat))[·]?) (#[Value.int IntKind.i64 0, Value.int IntKind.i64 0, Value.bool false, Value.slice none 0 0]) []).map .agg := by kernel_rfl
  rw [e]; simp [Instr.fill]
@[simp] theorem op_build_104_  : nP.op (.build 104 []) w K Kp = K (.agg (#[Value.int IntKind.i64 0, Value.int IntKind.i64 0, Value.bool false, Value.slice none 0 0])) w := op_build (build_104_)
@[simp] theorem pur_build_104_  : nP.pur (.build 104 []) K1 = K1 (.agg (#[Value.int IntKind.i64 0, Value.int IntKind.i64 0, Value.bool false, Value.slice none 0 0])) := pur_build (build_104_)
@[simp] theorem op_ld_104 {p : Addr} : nP.op (.load 104 (.pointer (some p))) w K Kp = ∃ cs e fz, w.heap[p.block]? = some (.cells cs e fz) ∧ p.spot = none ∧ p.off + 4 ≤ cs.size ∧ K (.agg (cs.extract p.off (p.off + 4))) w := op_ldn (by kernel_rfl)
@[simp] theorem ld_ld_104 {p : Addr} : nP.ld (.load 104 (.pointer (some p))) w K1 = ∃ cs e fz, w.heap[p.block]? = some (.cells cs e fz) ∧ p.spot = none ∧ p.off + 4 ≤ cs.size ∧ K1 (.agg (cs.extract p.off (p.off + 4))) := ld_ldn (by kernel_rfl)
@[simp] theorem same_ld_104 {p : Addr} {v : Value} : nP.same (.load 104 (.pointer (some p))) v w = ∃ cs e fz, w.heap[p.block]? = some (.cells cs e fz) ∧ p.spot = none ∧ p.off + 4 ≤ cs.size ∧ .agg (cs.extract p.off (p.off + 4)) = v := same_ldn (by kernel_rfl)
@[simp] theorem call_47 {args : List Value} : nP.call (.fn 47) args w K Kp = Calls Tryz.prog 47 args.toArray w (ret K Kp) := call_fn (by kernel_rfl)
@[simp] theorem op_fa_104_1 {p : Addr} : nP.op (.fieldAddr 104 (.pointer (some p)) 1) w K Kp = K (.pointer (some (p.add 1))) w := op_fa (k := .one) (by kernel_rfl)
@[simp] theorem pur_fa_104_1 {p : Addr} : nP.pur (.fieldAddr 104 (.pointer (some p)) 1) K1 = K1 (.pointer (some (p.add 1))) := pur_fa (k := .one) (by kernel_rfl)
@[simp] theorem op_fa_104_0 {p : Addr} : nP.op (.fieldAddr 104 (.pointer (some p)) 0) w K Kp = K (.pointer (some (p.add 0))) w := op_fa (k := .one) (by kernel_rfl)
@[simp] theorem pur_fa_104_0 {p : Addr} : nP.pur (.fieldAddr 104 (.pointer (some p)) 0) K1 = K1 (.pointer (some (p.add 0))) := pur_fa (k := .one) (by kernel_rfl)
@[simp] theorem op_fa_104_2 {p : Addr} : nP.op (.fieldAddr 104 (.pointer (some p)) 2) w K Kp = K (.pointer (some (p.add 2))) w := op_fa (k := .one) (by kernel_rfl)
@[simp] theorem pur_fa_104_2 {p : Addr} : nP.pur (.fieldAddr 104 (.pointer (some p)) 2) K1 = K1 (.pointer (some (p.add 2))) := pur_fa (k := .one) (by kernel_rfl)
@[simp] theorem op_fa_104_3 {p : Addr} : nP.op (.fieldAddr 104 (.pointer (some p)) 3) w K Kp = K (.pointer (some (p.add 3))) w := op_fa (k := .one) (by kernel_rfl)
@[simp] theorem pur_fa_104_3 {p : Addr} : nP.pur (.fieldAddr 104 (.pointer (some p)) 3) K1 = K1 (.pointer (some (p.add 3))) := pur_fa (k := .one) (by kernel_rfl)
theorem lit_35_1 {y0_0 y0_1 y0_2 y0_3 : Value} : sliceLit Tryz.prog 35 1 [(0, .agg #[y0_0, y0_1, y0_2, y0_3])] = some (104, #[y0_0, y0_1, y0_2, y0_3]) := by
  have e : sliceLit Tryz.prog 35 1 [(0, .agg #[y0_0, y0_1, y0_2, y0_3])] = (Instr.fill (fun i => some (i * 4, 4)) (#[Value.int IntKind.i64 0, Value.int IntKind.i64 0, Value.bool false, Value.slice none 0 0]) [(0, .agg #[y0_0, y0_1, y0_2, y0_3])]).map fun cs => (104, cs) := by kernel_rfl
  rw [e]; simp [Instr.fill, Value.cells]
@[simp] theorem call_36 {args : List Value} : nP.call (.fn 36) args w K Kp = Calls Tryz.prog 36 args.toArray w (ret K Kp) := call_fn (by kernel_rfl)
@[simp] theorem op_len_35 {a : Option Addr} {n c ty : Nat} : nP.op (.blt .len [35] ty [.slice a n c]) w K Kp = K (.int .i64 n) w := op_len_slice (by kernel_rfl)
@[simp] theorem pur_len_35 {a : Option Addr} {n c ty : Nat} : nP.pur (.blt .len [35] ty [.slice a n c]) K1 = K1 (.int .i64 n) := pur_len_slice (by kernel_rfl)
@[simp] theorem ld_len_35 {a : Option Addr} {n c ty : Nat} : nP.ld (.blt .len [35] ty [.slice a n c]) w K1 = K1 (.int .i64 n) := ld_len_slice (by kernel_rfl)
@[simp] theorem same_len_35 {a : Option Addr} {n c ty : Nat} {u : Value} : nP.same (.blt .len [35] ty [.slice a n c]) u w = (.int .i64 n = u) := same_len_slice (by kernel_rfl)
@[simp] theorem op_ix_35 {p : Addr} {len cap : Nat} {k : IntKind} {j : Int} : nP.op (.indexAddr 35 (.slice (some p) len cap) (.int k j)) w K Kp = ((0 ≤ j ∧ j < (len : Int)) ∧ K (.pointer (some (p.add (j.toNat * 4)))) w) := op_ix_slice (e := 104) (by kernel_rfl)
@[simp] theorem pur_ix_35 {p : Addr} {len cap : Nat} {k : IntKind} {j : Int} : nP.pur (.indexAddr 35 (.slice (some p) len cap) (.int k j)) K1 = ((0 ≤ j ∧ j < (len : Int)) ∧ K1 (.pointer (some (p.add (j.toNat * 4))))) := pur_ix_slice (e := 104) (by kernel_rfl)
@[simp] theorem op_neq_4 {xc yc x y : Bool} : nP.op (.bin BinOp.neq 4 xc yc (.bool x) (.bool y)) w K Kp = K (.bool (!(x == y))) w := op_eq_bool (by kernel_rfl) rfl
@[simp] theorem pur_neq_4 {xc yc x y : Bool} : nP.pur (.bin BinOp.neq 4 xc yc (.bool x) (.bool y)) K1 = K1 (.bool (!(x == y))) := pur_eq_bool (by kernel_rfl) rfl
@[simp] theorem call_12 {args : List Value} : nP.call (.fn 12) args w K Kp = Calls Tryz.prog 12 args.toArray w (ret K Kp) := call_fn (by kernel_rfl)
@[simp] theorem call_16 {args : List Value} : nP.call (.fn 16) args w K Kp = Calls Tryz.prog 16 args.toArray w (ret K Kp) := call_fn (by kernel_rfl)
@[simp] theorem call_17 {args : List Value} : nP.call (.fn 17) args w K Kp = Calls Tryz.prog 17 args.toArray w (ret K Kp) := call_fn (by kernel_rfl)
end Go.Proofs.YtodjijfblgnfmaaGreatDoor
end
section
namespace Go.Proofs.YtodjijfblgnfmaaGreatDoor
open Go.Vc Go.Proofs
variable {S : Sig} {a0 a1 a2 a3 a4 a5 a6 a7 a8 a9 : Value} {w : World} {K : KV} {Kp : KP}
private theorem follows_BVcS : Tryz.prog.follows .mixedOrders = true := by kernel_rfl
def vc47 (S : Sig) (a0 a1 a2 a3 : Value) (w : World) (K : KV) (Kp : KP) : Prop :=
 S.op (.box 23 a0) w (fun v4 w =>
 S.op (.box 45 a3) w (fun v7 w =>
 S.op (.load 23 v4) w (fun v12 w =>
 S.op (.load 45 v7) w (fun v15 w =>
 S.call (.fn 48) [v12, a1, a2, v15] w (fun v16 w =>
 S.op (.extract v16 0) w (fun v17 w =>
 S.op (.extract v16 1) w (fun v18 w =>
 Br v18 (
 S.pur (.slice 38 a2 none (some v17) none) (fun v22 =>
 S.pur (.bin .add 3 false true v17 (.int .i64 1)) (fun v25 =>
 S.pur (.slice 38 a2 (some v25) none none) (fun v26 =>
 S.op (.blt .append [38, 38] 38 [v22, v26]) w.drew (fun v27 w =>
 K v27 w) Kp)))) (
 K a2 w)) Kp) Kp) Kp) Kp) Kp) Kp) Kp
theorem vc47_eq : vc47 S a0 a1 a2 a3 w K Kp = fVC S [] [] Tryz.f47 [a0, a1, a2, a3] w K Kp := by kernel_rfl
theorem vc47_calls (h : vc47 nP a0 a1 a2 a3 w K Kp) : Calls Tryz.prog 47 #[a0, a1, a2, a3] w (ret K Kp) :=
 fVC_sound (args := [a0, a1, a2, a3]) nice_le follows_BVcS Tryz.func47 (by kernel_rfl) (Eq.mp vc47_eq h)
def vc12 (S : Sig) (a0 : Value) (w : World) (K : KV) (Kp : KP) : Prop :=
 S.op (.blt .len [24] 3 [a0]) w (fun v6 w =>
 S.op (.bin .gtr 3 false true v6 (.int .i64 2147483647)) w (fun v7 w =>
 Br v7 (
 K (.bool false) w) (
 S.op (.blt .len [24] 3 [a0]) w (fun v9 w =>
 Lp fun (I4 : KV) (μ4 : Value → World → Nat) => I4 (.int .i64 0) w ∧
 ∀ (wl4 : World) (_ : Nat → Value) (s10 : Value), I4 s10 wl4 →
 S.op (.bin .lss 3 false false s10 v9) wl4 (fun v11 w =>
 Br v11 (
 S.op (.indexAddr 24 a0 s10) w (fun v12 w =>
 S.op (.load 64 v12) w (fun v13 w =>
 S.op (.alloc 64) w (fun v4 w =>
 S.op (.store 64 v4 v13) w (fun _ w =>
 S.op (.load 64 v4) w (fun v14 w =>
 S.call (.fn 36) [v14] w (fun v15 w =>
 S.op (.un .not v15) w (fun v16 w =>
 Br v16 (
 K (.bool false) w) (
 S.op (.bin .add 3 false true s10 (.int .i64 1)) w (fun v17 w =>
 I4 v17 w ∧ μ4 v17 w < μ4 s10 wl4) Kp)) Kp) Kp) Kp) Kp) Kp) Kp) Kp) (
 K (.bool true) w)) Kp) Kp)) Kp) Kp
theorem vc12_eq : vc12 S a0 w K Kp = fVC S [(4, [10])] [] Tryz.f12 [a0] w K Kp := by kernel_rfl
theorem vc12_calls (h : vc12 nP a0 w K Kp) : Calls Tryz.prog 12 #[a0] w (ret K Kp) :=
 fVC_sound (args := [a0]) nice_le follows_BVcS Tryz.func12 (by kernel_rfl) (Eq.mp vc12_eq h)
def vc36 (S : Sig) (a0 : Value) (w : World) (K : KV) (Kp : KP) : Prop :=
 S.op (.box 64 a0) w (fun v1 w =>
 S.op (.fieldAddr 64 v1 3) w (fun v3 w =>
 S.op (.load 9 v3) w (fun v4 w =>
 S.op (.blt .len [9] 3 [v4]) w (fun v5 w =>
 S.op (.bin .gtr 3 false true v5 (.int .i64 2147483647)) w (fun v6 w =>
 Br v6 (
 K (.bool false) w) (
 K (.bool true) w)) Kp) Kp) Kp) Kp) Kp
theorem vc36_eq : vc36 S a0 w K Kp = fVC S [] [] Tryz.f36 [a0] w K Kp := by kernel_rfl
theorem vc36_calls (h : vc36 nP a0 w K Kp) : Calls Tryz.prog 36 #[a0] w (ret K Kp) :=
 fVC_sound (args := [a0]) nice_le follows_BVcS Tryz.func36 (by kernel_rfl) (Eq.mp vc36_eq h)
def vc16 (S : Sig) (a0 : Value) (w : World) (K : KV) (Kp : KP) : Prop :=
 S.op (.blt .len [24] 3 [a0]) w (fun v7 w =>
 Lp fun (I3 : Value → KV) (μ3 : Value → Value → World → Nat) => I3 (.slice none 0 0) (.int .i64 0) w ∧
 ∀ (wl3 : World) (_ : Nat → Value) (s3 : Value) (s8 : Value), I3 s3 s8 wl3 →
 S.op (.bin .lss 3 false false s8 v7) wl3 (fun v9 w =>
 Br v9 (
 S.op (.indexAddr 24 a0 s8) w (fun v10 w =>
 S.op (.load 64 v10) w (fun v11 w =>
 S.op (.alloc 64) w (fun v5 w =>
 S.op (.store 64 v5 v11) w (fun _ w =>
 S.op (.load 64 v5) w (fun v13 w =>
 S.op (.buildSlice 32 1 [(0, v13)]) w (fun v14 w =>
 S.op (.blt .append [32, 32] 32 [s3, v14]) w (fun v15 w =>
 S.op (.bin .add 3 false true s8 (.int .i64 1)) w (fun v16 w =>
 I3 v15 v16 w ∧ μ3 v15 v16 w < μ3 s3 s8 wl3) Kp) Kp) Kp) Kp) Kp) Kp) Kp) Kp) (
 K s3 w)) Kp) Kp
theorem vc16_eq : vc16 S a0 w K Kp = fVC S [(3, [3, 8])] [] Tryz.f16 [a0] w K Kp := by kernel_rfl
theorem vc16_calls (h : vc16 nP a0 w K Kp) : Calls Tryz.prog 16 #[a0] w (ret K Kp) :=
 fVC_sound (args := [a0]) nice_le follows_BVcS Tryz.func16 (by kernel_rfl) (Eq.mp vc16_eq h)
def vc17 (S : Sig) (a0 a1 : Value) (w : World) (K : KV) (Kp : KP) : Prop :=
 S.op (.blt .len [28] 3 [a0]) w (fun v7 w =>
 S.op (.blt .len [35] 3 [a1]) w (fun v9 w =>
 S.op (.bin .neq 3 false false v7 v9) w (fun v10 w =>
 Br v10 (
 K (.bool false) w) (
 S.op (.blt .len [28] 3 [a0]) w (fun v12 w =>
 Lp fun (I4 : KV) (μ4 : Value → World → Nat) => I4 (.int .i64 0) w ∧
 ∀ (wl4 : World) (_ : Nat → Value) (s13 : Value), I4 s13 wl4 →
 S.op (.bin .lss 3 false false s13 v12) wl4 (fun v14 w =>
 Br v14 (
 S.pur (.indexAddr 28 a0 s13) (fun v18 =>
 S.pur (.fieldAddr 56 v18 0) (fun v19 =>
 S.ld (.load 2 v19) w.drew (fun v20 =>
 S.pur (.indexAddr 35 a1 s13) (fun v23 =>
 S.pur (.fieldAddr 104 v23 0) (fun v24 =>
 S.ld (.load 2 v24) w.drew (fun v25 =>
 S.pur (.bin .neq 2 false false v20 v25) (fun v26 =>
 Br v26 (
 K (.bool false) w.drew) (
 S.pur (.indexAddr 28 a0 s13) (fun v30 =>
 S.pur (.fieldAddr 56 v30 1) (fun v31 =>
 S.ld (.load 3 v31) w.drew (fun v32 =>
 S.pur (.indexAddr 35 a1 s13) (fun v35 =>
 S.pur (.fieldAddr 104 v35 1) (fun v36 =>
 S.ld (.load 3 v36) w.drew (fun v37 =>
 S.pur (.bin .neq 3 false false v32 v37) (fun v38 =>
 Br v38 (
 K (.bool false) w.drew) (
 S.pur (.indexAddr 28 a0 s13) (fun v43 =>
 S.pur (.fieldAddr 56 v43 2) (fun v44 =>
 S.ld (.load 4 v44) w.drew (fun v45 =>
 S.pur (.indexAddr 35 a1 s13) (fun v48 =>
 S.pur (.fieldAddr 104 v48 2) (fun v49 =>
 S.ld (.load 4 v49) w.drew (fun v50 =>
 S.pur (.bin .neq 4 false false v45 v50) (fun v51 =>
 Br v51 (
 K (.bool false) w.drew) (
 S.pur (.indexAddr 28 a0 s13) (fun v56 =>
 S.pur (.fieldAddr 56 v56 3) (fun v57 =>
 S.ld (.load 46 v57) w.drew (fun v58 =>
 S.pur (.indexAddr 35 a1 s13) (fun v61 =>
 S.pur (.fieldAddr 104 v61 3) (fun v62 =>
 S.ld (.load 38 v62) w.drew (fun v63 =>
 S.call (.fn 32) [v58, v63] w.drew (fun v64 w =>
 S.pur (.un .not v64) (fun v65 =>
 Br v65 (
 K (.bool false) w) (
 S.op (.bin .add 3 false true s13 (.int .i64 1)) w (fun v67 w =>
 I4 v67 w ∧ μ4 v67 w < μ4 s13 wl4) Kp))) Kp))))))))))))))))))))))))))))))) (
 K (.bool true) w)) Kp) Kp)) Kp) Kp) Kp
theorem vc17_eq : vc17 S a0 a1 w K Kp = fVC S [(4, [13])] [] Tryz.f17 [a0, a1] w K Kp := by kernel_rfl
theorem vc17_calls (h : vc17 nP a0 a1 w K Kp) : Calls Tryz.prog 17 #[a0, a1] w (ret K Kp) :=
 fVC_sound (args := [a0, a1]) nice_le follows_BVcS Tryz.func17 (by kernel_rfl) (Eq.mp vc17_eq h)
end Go.Proofs.YtodjijfblgnfmaaGreatDoor
end
section
namespace Go.Proofs.YtodjijfblgnfmaaGreatDoor
open Go.Vc Go.Proofs Go.Vc.Bt

end Go.Proofs.YtodjijfblgnfmaaGreatDoor
end
section
namespace Go.Proofs.YtodjijfblgnfmaaGreatDoor
open Go.Vc Go.Proofs
variable {w : World} {K : KV} {Kp : KP} {K1 : Value → Prop}
end Go.Proofs.YtodjijfblgnfmaaGreatDoor
end
section
namespace Go.Proofs.YtodjijfblgnfmaaGreatDoor
open Go.Vc Go.Proofs
variable {S : Sig} {a0 a1 a2 a3 a4 a5 a6 a7 a8 a9 : Value} {w : World} {K : KV} {Kp : KP}
private theorem follows_BVcF : Tryz.prog.follows .mixedOrders = true := by kernel_rfl
end Go.Proofs.YtodjijfblgnfmaaGreatDoor
end
section
/-
  DERIVED: THE SHELF's CONTRACTS AT THIS DUMP, IN PLAIN WORDS (tools/lay-plain.mjs out of 'TryzShelf.lean', which tools/lay-shelf.mjs wrote): THE SAME DECLARATIONS UNDER THE SAME NAMES: 'import', 'namespace', 'open', 'def', 'theorem' AND NOTHING ELSE: no command of the shelf's: FOR A HAND-IN. Each laying: the table of numbers ('.._ren') and one theorem, a field a fact of the dump's own or the kernel's comparison; each contract: ONE APPLICATION.
-/
namespace Go.Proofs
open Go.Shelf
end Go.Proofs
end
section
namespace Go.Proofs.YtodjijfblgnfmaaGreatDoor
open Go.Vc Go.Proofs Go.Vc.Bt
variable {w w' : World}
def Tab (w : World) : Prop := Lib.TabIs Tryz.prog w "internal/strconv.uint64pow10" .u64 Lib.pow10Tab
theorem Tab.still (h : Tab w) (hf : Frm (fun _ => False) w w') : Tab w' := by
  unfold Tab Lib.TabIs World.var? at *
  cases hg : Tryz.prog.globalNamed "internal/strconv.uint64pow10" with
  | none => rw [hg] at h; cases h
  | some g =>
    rw [hg] at h
    simp only [Option.bind_some] at h ⊢
    cases hb : w.heap[g]? with
    | none => rw [hb] at h; cases h
    | some o =>
      rw [hb] at h
      cases o with
      | cells cs e fz => rw [hf.get hb fun h => h]; exact h
      | _ => cases h
end Go.Proofs.YtodjijfblgnfmaaGreatDoor
end
section
namespace Go.Proofs.YtodjijfblgnfmaaGreatDoor
open Go.Vc Go.Proofs Go.Vc.Bt Go.ChangeShapes Go.WideShapes Go.ChangeAt Go.RowKit
variable {H : Type} {enc : TypeId × Value → H} {W : World}
theorem sst_of {n : Nat} {cs : List Value} {x : DataW H × List MemPlace} (hl : cs.length = 7) (h : DataW.trod enc Tryz.prog W 0 (fun _ => true) true n 64 cs = some x) : ∃ s : SSt, cs = s.cells := by
  match cs, hl, h with
  | [u0, u1, u2, u3, u4, u5, u6], _, h =>
    have hu := Tryz.underlying64
    obtain ⟨n0, y0, z0⟩ := open_fields hu h (i := 0) rfl rfl (by kernel_rfl) (by simp)
    obtain ⟨n1, y1, z1⟩ := open_fields hu h (i := 1) rfl rfl (by kernel_rfl) (by simp)
    obtain ⟨n2, y2, z2⟩ := open_fields hu h (i := 2) rfl rfl (by kernel_rfl) (by simp)
    obtain ⟨n3, y3, z3⟩ := open_fields hu h (i := 3) rfl rfl (by kernel_rfl) (by simp)
    obtain ⟨n4, y4, z4⟩ := open_fields hu h (i := 4) rfl rfl (by kernel_rfl) (by simp)
    obtain ⟨n5, y5, z5⟩ := open_fields hu h (i := 5) rfl rfl (by kernel_rfl) (by simp)
    obtain ⟨n6, y6, z6⟩ := open_fields hu h (i := 6) rfl rfl (by kernel_rfl) (by simp)
    obtain ⟨m0, e0, l0, _⟩ := field_int Tryz.underlying5 z0
    obtain ⟨m1, e1, _⟩ := field_int Tryz.underlying3 z1
    obtain ⟨m2, e2, _⟩ := field_int Tryz.underlying2 z2
    obtain ⟨m3, e3, _⟩ := DataW.trod_string Tryz.underlying9 z3
    obtain ⟨m4, e4, _⟩ := field_int Tryz.underlying2 z4
    obtain ⟨m5, e5, _⟩ := field_int Tryz.underlying3 z5
    obtain ⟨m6, e6, _⟩ := field_int Tryz.underlying2 z6
    have h0 : (m0.toNat : Int) = m0 := Int.toNat_of_nonneg l0
    refine ⟨⟨m0.toNat, m1, m2, m3, m4, m5, m6⟩, ?_⟩
    simp only [List.getElem_cons_zero, List.getElem_cons_succ] at e0 e1 e2 e3 e4 e5 e6
    obtain ⟨rfl, _⟩ := List.cons.inj e3
    simp only [SSt.cells, h0, e0, e1, e2, e4, e5, e6]
theorem open_steps {base : Nat} {v : Value} {d : DataW H} {ps : List MemPlace} (hok : Value.okWide Tryz.prog W .any base 24 v) (h : DataW.Trod enc Tryz.prog W 0 (fun _ => true) true 24 v d ps) :
    ∃ (a : Option Addr) (cap : Nat) (xs : List SSt), v = .slice a xs.length cap ∧ xs.length ≤ cap ∧ cap ≤ maxLen ∧ (a = none → xs.length = 0) ∧ Row W a (xs.flatMap SSt.cells) := by
  obtain ⟨a, len, cap, f, rfl, h1, h2, h3, h4, h6, h7, h8⟩ := open_rows Tryz.underlying24 (c := 7) (by kernel_rfl) (by decide) hok h
  obtain ⟨xs, rfl, hr⟩ := rows_of (c := SSt.cells) ⟨0, 0, 0, ⟨#[]⟩, 0, 0, 0⟩ h6 fun i hi => by
    obtain ⟨n, x, hx⟩ := h8 i hi
    exact sst_of (h7 i) hx
  exact ⟨a, cap, xs, rfl, h1, h2, h3, hr⟩
end Go.Proofs.YtodjijfblgnfmaaGreatDoor
end
section
namespace Go.Vc
variable {P : Program} {w w' : World} {K : Value → World → Prop} {Kp : KP} {e : TypeId} {k : Nat}
theorem wrap_small64 {n : Int} (h0 : 0 ≤ n) (h1 : n < 9223372036854775808) : IntKind.i64.wrap n = n := by rw [IntKind.wrap_i64]; omega
theorem conv_ok {α : Type} {f : α → List Value} {tin tel tout e s : TypeId} {bytes : Nat} {z : Value} (hk : ∀ x, (f x).length = k) (hk0 : 0 < k) (hone : ∀ x, ∀ u ∈ f x, u.oneCell' = true) (hin : sliceOf P tin = some (e, k)) (hkd : kd P tin = .slice) (hel : ldk P tel = some (.agg k))
    (hz : zeroOf P tel = some z) (hzk : z.cells.size = k) (ha : apOf P tout = some (s, k, bytes)) (hl : ∀ x, sliceLit P tout 1 [(0, .agg (f x).toArray)] = some (s, (f x).toArray)) {a : Option Addr} {c : Nat} {xs : List α} (h : Row w a (xs.flatMap f)) (hn : (xs.length + 1) * (bytes + 1) ≤ 140737488355328)
    (hK : ∀ l w', Frm (fun _ => False) w w' → RowsOf (Flat f) w' w.heap.size s k l xs (fun _ => False) → K l w') :
    (nice P).op (.blt .len [tin] 3 [.slice a xs.length c]) w (fun v7 w =>
    Lp fun (I3 : Value → Value → World → Prop) (μ3 : Value → Value → World → Nat) => I3 (Value.slice none 0 0) (Value.int IntKind.i64 0) w ∧
    ∀ (wl3 : World) (junk : Nat → Value) (s3_out : Value) (s8_ : Value), I3 s3_out s8_ wl3 →
      (nice P).op (.bin BinOp.lss 3 false false s8_ v7) wl3 (fun v9 w =>
      Br v9 (
        (nice P).op (.indexAddr tin (.slice a xs.length c) s8_) w (fun v10 w =>
        (nice P).op (.load tel v10) w (fun v11 w =>
        (nice P).op (.alloc tel) w (fun v5_p w =>
        (nice P).op (.store tel v5_p v11) w (fun _ w =>
        (nice P).op (.load tel v5_p) w (fun v13 w =>
        (nice P).op (.buildSlice tout 1 [(0, v13)]) w (fun v14 w =>
        (nice P).op (.blt Builtin.append [tout, tout] tout [s3_out, v14]) w (fun v15 w =>
        (nice P).op (.bin BinOp.add 3 false true s8_ (Value.int IntKind.i64 1)) w (fun v16 w =>
        I3 v15 v16 w ∧ μ3 v15 v16 w < μ3 s3_out s8_ wl3) Kp) Kp) Kp) Kp) Kp) Kp) Kp) Kp) (
        K s3_out w)) Kp) Kp := by
  have hb0 : 0 < bytes + 1 := by omega
  have hmax : xs.length + 1 ≤ 140737488355328 := Nat.le_trans (Nat.le_mul_of_pos_right _ hb0) hn
  rw [op_len_slice hkd]
  obtain ⟨I, hI⟩ : ∃ I : Value → Value → World → Prop, ∀ l v wl, I l v wl ↔ ∃ i : Nat, v = .int .i64 i ∧ i ≤ xs.length ∧ Frm (fun _ => False) w wl ∧ RowsOf (Flat f) wl w.heap.size s k l (xs.take i) (fun _ => False) := ⟨_, fun _ _ _ => Iff.rfl⟩
  refine Lp.intro I (fun _ v _ => xs.length - (match v with | .int _ j => j.toNat | _ => 0)) ⟨(hI _ _ _).2 ⟨0, rfl, by omega, Frm.refl, rows_nil⟩, ?_⟩
  intro wl _ l v hl'
  obtain ⟨i, rfl, hi, kl, hR⟩ := (hI _ _ _).1 hl'
  simp only [op_lss, Br_dec]
  refine ⟨fun hlt => ?_, fun hge => ?_⟩
  · have hi' : i < xs.length := by omega
    obtain ⟨b, o, cs, e', fz, rfl, hcs, hsz, hext⟩ := (h.frame kl fun _ _ h => h).part hk hk0 hi'
    rw [op_ix_slice hin]
    refine ⟨⟨by omega, by omega⟩, ?_⟩
    rw [add_spot rfl, op_ldn hel]
    simp only [Int.toNat_natCast]
    refine ⟨cs, e', fz, hcs, by first | rfl | trivial, hsz, ?_⟩
    show (nice P).op (.alloc tel) wl _ Kp
    rw [hext]
    refine op_alloc_ok hz fun w1 k1 z1 b1 => ?_
    refine op_storeN_ok (n := k) hel b1 (by simp [hk]) (by rw [hzk]; omega) (fun u hu => hone _ u (by simpa using hu)) fun w2 k2 z2 b2 => ?_
    have hb2 : w2.heap[wl.heap.size]? = some (.cells (f xs[i]).toArray tel (0, 0)) := by
      rw [ow_all (by simp [hk, hzk])] at b2; exact b2
    rw [op_ldn hel]
    refine ⟨_, _, _, hb2, rfl, by simp [hk], ?_⟩
    have hx : (f xs[i]).toArray.extract 0 (0 + k) = (f xs[i]).toArray := extract_self (by simp [hk])
    rw [hx]
    have k12 : Frm (fun _ => False) wl w2 := k1.old k2 fun c hc => .inr (by omega)
    have hR2 := hR.still (flat_ok f) k12
    have hlow := hR.own_lt
    have htl : (xs.take i).length = i := by simp; omega
    have hmul : (i + 1) * (bytes + 1) ≤ (xs.length + 1) * (bytes + 1) := Nat.mul_le_mul_right _ (by omega)
    refine op_push (flat_ok f) ha (hl _) (hk _) (hone _) hR2 rfl (G2 := fun _ => False) (fun _ h => h.elim) (fun _ _ h => h) (by rw [htl]; omega) (by have := kl.size; have := k12.size; omega) fun l' w3 k3 hR3 ho3 => ?_
    rw [op_add, wrap_small64 (by omega) (by omega)]
    have hlow2 := hR2.own_lt
    refine ⟨(hI _ _ _).2 ⟨i + 1, by simp, by omega, (kl.no k12).old k3 fun c hc => .inr (by have := hlow2 c hc.symm; omega), ?_⟩, ?_⟩
    · rw [List.take_succ_eq_append_getElem hi']
      exact hR3.mono (flat_ok f) (fun c h => h.elim (fun h => h) fun h => h) (fun _ h => h.elim) fun _ _ h => h
    · have : ((i : Int) + 1).toNat = i + 1 := by omega
      simp only [Int.toNat_natCast, this]; omega
  · have : i = xs.length := by omega
    subst this
    rw [List.take_length] at hR
    exact hK l wl kl hR
end Go.Vc
namespace Go.Vc
section
variable {P : Program} {w : World} {K : Value → World → Prop} {K1 : Value → Prop} {Kp : KP} {a b c d e : Value}
@[simp] theorem pur_ext4_0 : (nice P).pur (.extract (.tuple #[a, b, c, d]) 0) K1 = K1 a := pur_ext rfl
@[simp] theorem pur_ext4_1 : (nice P).pur (.extract (.tuple #[a, b, c, d]) 1) K1 = K1 b := pur_ext rfl
@[simp] theorem pur_ext4_2 : (nice P).pur (.extract (.tuple #[a, b, c, d]) 2) K1 = K1 c := pur_ext rfl
@[simp] theorem pur_ext4_3 : (nice P).pur (.extract (.tuple #[a, b, c, d]) 3) K1 = K1 d := pur_ext rfl
@[simp] theorem pur_ext5_0 : (nice P).pur (.extract (.tuple #[a, b, c, d, e]) 0) K1 = K1 a := pur_ext rfl
@[simp] theorem pur_ext5_1 : (nice P).pur (.extract (.tuple #[a, b, c, d, e]) 1) K1 = K1 b := pur_ext rfl
@[simp] theorem pur_ext5_2 : (nice P).pur (.extract (.tuple #[a, b, c, d, e]) 2) K1 = K1 c := pur_ext rfl
@[simp] theorem pur_ext5_3 : (nice P).pur (.extract (.tuple #[a, b, c, d, e]) 3) K1 = K1 d := pur_ext rfl
@[simp] theorem pur_ext5_4 : (nice P).pur (.extract (.tuple #[a, b, c, d, e]) 4) K1 = K1 e := pur_ext rfl
@[simp] theorem op_ext4_0 : (nice P).op (.extract (.tuple #[a, b, c, d]) 0) w K Kp = K a w := op_ext rfl
@[simp] theorem op_ext4_1 : (nice P).op (.extract (.tuple #[a, b, c, d]) 1) w K Kp = K b w := op_ext rfl
@[simp] theorem op_ext4_2 : (nice P).op (.extract (.tuple #[a, b, c, d]) 2) w K Kp = K c w := op_ext rfl
@[simp] theorem op_ext4_3 : (nice P).op (.extract (.tuple #[a, b, c, d]) 3) w K Kp = K d w := op_ext rfl
@[simp] theorem op_ext5_0 : (nice P).op (.extract (.tuple #[a, b, c, d, e]) 0) w K Kp = K a w := op_ext rfl
@[simp] theorem op_ext5_1 : (nice P).op (.extract (.tuple #[a, b, c, d, e]) 1) w K Kp = K b w := op_ext rfl
@[simp] theorem op_ext5_2 : (nice P).op (.extract (.tuple #[a, b, c, d, e]) 2) w K Kp = K c w := op_ext rfl
@[simp] theorem op_ext5_3 : (nice P).op (.extract (.tuple #[a, b, c, d, e]) 3) w K Kp = K d w := op_ext rfl
@[simp] theorem op_ext5_4 : (nice P).op (.extract (.tuple #[a, b, c, d, e]) 4) w K Kp = K e w := op_ext rfl
end
end Go.Vc
end
section
namespace Go.Vc
variable {P : Program} {w w' : World} {K : Value → World → Prop} {Kp : KP} {t e tin tel : TypeId} {s base g c : Nat} {α : Type} {f : α → List Value} {ys : List α} {l : Value}
theorem lw_flat (hf : ∀ x, (f x).length = s) : ∀ (ys : List α) (j : Nat) (y : α), j < ys.length → lw (ys.map f).flatten (j * s) (f y) = ((ys.set j y).map f).flatten
  | [], j, y, h => by simp at h
  | x :: ys, 0, y, _ => by
    simp only [List.map_cons, List.flatten_cons, List.set_cons_zero, Nat.zero_mul, lw, List.take_zero, List.nil_append, Nat.zero_add]
    rw [hf y, ← hf x, List.drop_left]
  | x :: ys, j + 1, y, h => by
    have ih := lw_flat hf ys j y (by simpa using h)
    simp only [lw] at ih ⊢
    have e1 : (j + 1) * s = (f x).length + j * s := by rw [hf, Nat.add_mul]; omega
    simp only [List.map_cons, List.flatten_cons, List.set_cons_succ]
    rw [e1, List.take_length_add_append, Nat.add_assoc, List.drop_length_add_append, ← ih]
    simp
theorem op_store_frow {j : Nat} {y : α} (hel : ldk P tel = some (.agg s)) (hf : ∀ x, (f x).length = s) (hone : ∀ x, ∀ u ∈ f x, u.oneCell' = true) (hR : FRow f w base e s (.slice (some ⟨g, 0, none⟩) ys.length c) ys) (hj : j < ys.length)
    (hK : ∀ w', Frm (· = g) w w' → w'.heap.size = w.heap.size → FRow f w' base e s (.slice (some ⟨g, 0, none⟩) ys.length c) (ys.set j y) → K undef w') : (nice P).op (.store tel (.pointer (some ⟨g, j * s, none⟩)) (.agg (f y).toArray)) w K Kp := by
  obtain ⟨⟨us, h1, h3, h4, h5⟩, h6, h7⟩ := hR
  have hus : us = ys.map f := by
    apply List.ext_getElem?
    intro i
    by_cases hi : i < us.length
    · rw [List.getElem?_eq_getElem hi, List.getElem?_map, List.getElem?_eq_getElem (by omega)]
      have := h5 i us[i] (ys[i]'(by omega)) (List.getElem?_eq_getElem _) (List.getElem?_eq_getElem _)
      rw [this]; rfl
    · rw [List.getElem?_eq_none (by omega), List.getElem?_eq_none (by simp; omega)]
  subst hus
  obtain ⟨g', cap', hv, hc, hrw, hb⟩ := Rw.of_own (n := ys.length) (own_base h4 (Nat.zero_le _)) (by omega)
  cases hv
  have hlow := Go.Vc.own_lt h4 g rfl
  have hle : (j + 1) * s ≤ ys.length * s := Nat.mul_le_mul_right _ hj
  rw [Nat.add_mul, Nat.one_mul] at hle
  have hfl := h4.1
  refine op_storeRN (n := s) hel (by simp [hf]) hrw (by omega) (fun u hu => hone y u (by simpa using hu)) fun w' k' z' hrw' => ?_
  have e1 := lw_flat hf ys j y hj
  rw [List.toList_toArray, e1] at hrw'
  refine hK w' k' z' ⟨⟨(ys.set j y).map f, by simp, fun u hu => by obtain ⟨x, _, rfl⟩ := List.mem_map.1 hu; exact hf x, ?_, fun i u y' hu hy => ?_⟩, fun _ h => h.elim, fun _ _ h => h⟩
  · rw [List.length_set]
    have hn : ((ys.set j y).map f).flatten.length = ys.length * s := by
      rw [flatten_len (k := s) fun u hu => by obtain ⟨x, _, rfl⟩ := List.mem_map.1 hu; exact hf x]; simp
    obtain ⟨q1, ⟨_, q2⟩ | ⟨g2, cap2, cur2, q2, q3, q4⟩⟩ := hrw'.own hn hc
    · omega
    · cases q2
      exact ⟨q1, .inr ⟨g, c, cur2, rfl, hlow.1, q4⟩⟩
  · rw [List.getElem?_map, hy] at hu
    exact (Option.some.inj hu).symm
end Go.Vc
namespace Go.Vc
variable {P : Program} {w w' : World} {K : Value → World → Prop} {K1 : Value → Prop} {Kp : KP} {t e : TypeId} {s base : Nat} {α : Type} {f : α → List Value} {xs : List α} {v : Value}
theorem row_off {w : World} {b o : Nat} {A B : List Value} (h : Row w (some ⟨b, o, none⟩) (A ++ B)) : Row w (some ⟨b, o + A.length, none⟩) B := by
  rcases h with h | ⟨b', o', cs, e, fz, h1, h2, h3⟩
  · exact .inl (List.append_eq_nil_iff.1 h).2
  · cases h1
    refine .inr ⟨b, o + A.length, cs, e, fz, rfl, h2, fun j u hj => ?_⟩
    have := h3 (A.length + j) u (by rw [List.getElem?_append_right (by omega)]; simpa using hj)
    rw [Nat.add_assoc]; exact this
theorem cut_lo {k : IntKind} {i : Nat} (h : sliceOf P t = some (e, s)) (hf : ∀ x, (f x).length = s) (hi : i ≤ xs.length) (hs : IsSl w v xs.length (xs.flatMap f)) (h0s : 0 < s)
    (hK : ∀ v', IsSl w v' (xs.drop i).length ((xs.drop i).flatMap f) → K1 v') : (nice P).pur (.slice t v (some (.int k (i : Int))) none none) K1 := by
  obtain ⟨a, c, rfl, hc, hm, hr, hn⟩ := hs
  have hx : xs.flatMap f = (xs.take i).flatMap f ++ (xs.drop i).flatMap f := by rw [← List.flatMap_append, List.take_append_drop]
  have hlen : ((xs.take i).flatMap f).length = i * s := by rw [flatMap_len hf, List.length_take, Nat.min_eq_left hi]
  by_cases hx0 : xs = []
  · subst hx0
    have hi0 : i = 0 := by simpa using hi
    subst hi0
    rw [pur_of (c := (0 : Int) ≤ 0 ∧ (0 : Int) ≤ 0 ∧ (0 : Int) ≤ (c : Int)) (v := .slice (if c = 0 then a else a.map (·.add (0 * s))) 0 c)]
    · exact ⟨by omega, hK _ ⟨_, c, rfl, by simp, hm, .inl rfl, fun _ => rfl⟩⟩
    · simp only [pv, h, cutV, lowV, upV]
      simp
  · have hx1 : xs.flatMap f ≠ [] := fun h0 => by
      have := congrArg List.length h0
      rw [flatMap_len hf] at this
      have h3 : 0 < xs.length := List.length_pos_iff.2 hx0
      have := Nat.mul_pos h3 h0s
      simp_all
    obtain ⟨b, o, rfl⟩ : ∃ b o, a = some ⟨b, o, none⟩ := by
      rcases hr with h | ⟨b, o, _, _, _, h, _⟩
      · exact absurd h hx1
      · exact ⟨b, o, h⟩
    rw [pur_cut_lo h]
    refine ⟨⟨by omega, by omega, by omega⟩, hK _ ?_⟩
    simp only [Int.toNat_natCast, List.length_drop]
    rw [hx] at hr
    refine ⟨_, _, rfl, Nat.sub_le_sub_right hc i, Nat.le_trans (Nat.sub_le c i) hm, ?_, fun hz => by split at hz <;> cases hz⟩
    by_cases he : c = i
    · rw [if_pos he]
      have : xs.drop i = [] := by rw [List.drop_eq_nil_iff]; omega
      rw [this]; exact .inl rfl
    · rw [if_neg he]
      have := row_off hr
      rwa [hlen] at this
theorem IsSl.old {M : Nat → Prop} {n : Nat} {vs : List Value} (h : IsSl w v n vs) (hf : Frm M w w') (hM : ∀ b, M b → w.heap.size ≤ b) : IsSl w' v n vs := by
  obtain ⟨a, c, rfl, hc, hm, hr, hn⟩ := h
  exact ⟨a, c, rfl, hc, hm, hr.old hf hM, hn⟩
theorem op_row0 {bytes : Nat} (ha : apOf P t = some (e, s, bytes)) (hl : sliceLit P t 0 [] = some (e, #[])) (hbase : base ≤ w.heap.size) (hK : ∀ l' w', Frm (fun _ => False) w w' → FRow f w' base e s l' [] → l'.ownBlock = some w.heap.size → K l' w') : (nice P).op (.buildSlice t 0 []) w K Kp := by
  refine op_lit_ok hl fun w1 k1 z1 b1 => ?_
  have hr : Rw w1 e s w.heap.size 0 [] := ⟨_, b1, by simp, by simp, by simp, by simp [maxLen]⟩
  refine hK _ w1 k1 ⟨⟨[], rfl, by simp, ?_, fun j u y hu => by simp at hu⟩, fun _ h => h.elim, fun _ _ h => h⟩ rfl
  obtain ⟨h1, ⟨h2, _⟩ | ⟨g, cap, cur, h2, h3, h4⟩⟩ := hr.own (n := 0) (by simp) (Nat.le_refl _)
  · cases h2
  · cases h2
    exact ⟨h1, .inr ⟨_, _, cur, rfl, hbase, h4⟩⟩
end Go.Vc
end
section
namespace Go.Vc
variable {P : Program} {w w' : World} {K : Value → World → Prop} {Kp : KP} {t e : TypeId} {s base : Nat} {α : Type} {f : α → List Value} {ys zs : List α} {l v2 : Value}
theorem op_concatF {bytes : Nat} (ha : apOf P t = some (e, s, bytes)) (hf : ∀ x, (f x).length = s) (hone : ∀ x, ∀ u ∈ f x, u.oneCell' = true) (hR : FRow f w base e s l ys) (h2 : IsSl w v2 zs.length (zs.flatMap f))
    (h63 : (ys.length + zs.length) * (bytes + 1) ≤ 140737488355328) (hbase : base ≤ w.heap.size)
    (hK : ∀ l' w', Frm (fun b => some b = l.ownBlock) w w' → FRow f w' base e s l' (ys ++ zs) → (l'.ownBlock = l.ownBlock ∨ ∃ b, l'.ownBlock = some b ∧ w.heap.size ≤ b) → K l' w') : (nice P).op (.blt .append [t, t] t [l, v2]) w K Kp := by
  obtain ⟨⟨us, h1, h3, h4, h5⟩, h6, h7⟩ := hR
  obtain ⟨a, c, rfl, hc, hm, hr, hn⟩ := h2
  refine op_append (base := base) (n := ys.length) (m := zs.length) ha h4 hr (flatMap_len hf zs) (fun u hu => by obtain ⟨x, _, hx⟩ := List.mem_flatMap.1 hu; exact hone x u hx) hn h63 hbase fun l' w' ho hfr hb => ?_
  have hus : us = ys.map f := by
    apply List.ext_getElem?
    intro j
    by_cases hj : j < us.length
    · rw [List.getElem?_eq_getElem hj, List.getElem?_map, List.getElem?_eq_getElem (by omega)]
      have := h5 j us[j] (ys[j]'(by omega)) (List.getElem?_eq_getElem _) (List.getElem?_eq_getElem _)
      rw [this]; rfl
    · rw [List.getElem?_eq_none (by omega), List.getElem?_eq_none (by simp; omega)]
  refine hK l' w' hfr ⟨⟨(ys ++ zs).map f, by simp, fun u hu => by obtain ⟨x, _, rfl⟩ := List.mem_map.1 hu; exact hf x, ?_, fun j u y hu hy => ?_⟩, fun _ h => h.elim, fun _ _ h => h⟩ ?_
  · rw [List.length_append]
    rw [hus] at ho
    have e1 : ((ys ++ zs).map f).flatten = (ys.map f).flatten ++ zs.flatMap f := by simp [List.flatMap_def]
    rw [e1]; exact ho
  · rw [List.getElem?_map, hy] at hu
    exact (Option.some.inj hu).symm
  · rcases hb with h | h
    · exact .inl h
    · exact .inr ⟨_, h, Nat.le_refl _⟩
end Go.Vc
end
section
namespace Go.Vc
variable {P : Program} {w w' : World} {K : Value → World → Prop} {K1 : Value → Prop} {Kp : KP} {t e : TypeId} {s base g c : Nat} {α : Type} {f : α → List Value} {ys : List α} {l : Value}
theorem FRow.flatten (h : FRow f w base e s l ys) : w.ownsRow base e s l ys.length (ys.flatMap f) := by
  obtain ⟨⟨us, h1, h3, h4, h5⟩, h6, h7⟩ := h
  have hus : us = ys.map f := by
    apply List.ext_getElem?
    intro i
    by_cases hi : i < us.length
    · rw [List.getElem?_eq_getElem hi, List.getElem?_map, List.getElem?_eq_getElem (by omega)]
      have := h5 i us[i] (ys[i]'(by omega)) (List.getElem?_eq_getElem _) (List.getElem?_eq_getElem _)
      rw [this]; rfl
    · rw [List.getElem?_eq_none (by omega), List.getElem?_eq_none (by simp; omega)]
  subst hus
  rw [List.flatMap_def]; exact h4
theorem FRow.of_flat (hf : ∀ x, (f x).length = s) (h : w.ownsRow base e s l ys.length (ys.flatMap f)) : FRow f w base e s l ys :=
  ⟨⟨ys.map f, by simp, fun u hu => by obtain ⟨x, _, rfl⟩ := List.mem_map.1 hu; exact hf x, by rw [List.flatMap_def] at h; exact h, fun i u y' hu hy => by
    rw [List.getElem?_map, hy] at hu
    exact (Option.some.inj hu).symm⟩, fun _ h => h.elim, fun _ _ h => h⟩
theorem FRow.rw' (h : FRow f w base e s l ys) (hn : 0 < ys.length) : ∃ g cap, l = .slice (some ⟨g, 0, none⟩) ys.length cap ∧ base ≤ g ∧ g < w.heap.size ∧ ys.length ≤ cap ∧ Rw w e s g cap (ys.flatMap f) := by
  have ho := h.flatten
  obtain ⟨g, cap, rfl, h1, h2, h3⟩ := Rw.of_own (own_base ho (Nat.zero_le _)) hn
  have := h.own_lt g h3
  exact ⟨g, cap, rfl, this.1, this.2, h1, h2⟩
theorem FRow.of_rw (hf : ∀ x, (f x).length = s) (h : Rw w e s g c (ys.flatMap f)) (hb : base ≤ g) (hc : ys.length ≤ c) : FRow f w base e s (.slice (some ⟨g, 0, none⟩) ys.length c) ys := by
  refine FRow.of_flat hf ?_
  obtain ⟨q1, ⟨q2, q3⟩ | ⟨g2, cap2, cur2, q2, q3, q4⟩⟩ := h.own (flatMap_len hf ys) hc
  · cases q2
  · cases q2
    exact ⟨q1, .inr ⟨g, c, cur2, rfl, hb, q4⟩⟩
theorem flatMap_take (hf : ∀ x, (f x).length = s) (i : Nat) : ∀ ys : List α, (ys.take i).flatMap f = (ys.flatMap f).take (i * s) := by
  induction i with
  | zero => intro ys; simp
  | succ i ih =>
    intro ys
    cases ys with
    | nil => simp
    | cons y ys =>
      rw [List.take_succ_cons, List.flatMap_cons, List.flatMap_cons, ih, show (i + 1) * s = (f y).length + i * s from by rw [hf, Nat.add_mul]; omega, List.take_length_add_append]
theorem row_ins (hf : ∀ x, (f x).length = s) {i : Nat} (hi : i ≤ ys.length) (z y : α) :
    lw (lw ((ys ++ [z]).flatMap f) ((i + 1) * s) ((((ys ++ [z]).flatMap f).drop (i * s)).take ((ys.length - i) * s))) (i * s) (f y) = (ys.take i ++ y :: ys.drop i).flatMap f := by
  have hz := hf z
  have hy := hf y
  have e1 : ys = ys.take i ++ ys.drop i := (List.take_append_drop i ys).symm
  have lp : ((ys.take i).flatMap f).length = i * s := by rw [flatMap_len hf, List.length_take, Nat.min_eq_left hi]
  have lq : ((ys.drop i).flatMap f).length = (ys.length - i) * s := by rw [flatMap_len hf, List.length_drop]
  have hX : (ys ++ [z]).flatMap f = (ys.take i).flatMap f ++ ((ys.drop i).flatMap f ++ f z) := by
    have e2 : ys.flatMap f = (ys.take i).flatMap f ++ (ys.drop i).flatMap f := by rw [← List.flatMap_append, ← e1]
    rw [List.flatMap_append, e2, List.append_assoc]
    simp
  rw [hX, List.flatMap_append, List.flatMap_cons]
  generalize (ys.take i).flatMap f = A at *
  generalize (ys.drop i).flatMap f = B at *
  have hd : (A ++ (B ++ f z)).drop (i * s) = B ++ f z := by rw [← lp]; exact List.drop_left ..
  rw [hd, ← lq, List.take_left]
  have hs1 : (i + 1) * s = i * s + s := by rw [Nat.add_mul, Nat.one_mul]
  obtain ⟨H, hH, hHl⟩ : ∃ H, lw (A ++ (B ++ f z)) ((i + 1) * s) B = A ++ (H ++ B) ∧ H.length = s := by
    refine ⟨(B ++ f z).take s, ?_, by simp [hz]⟩
    unfold lw
    rw [List.drop_of_length_le (by simp; omega), List.append_nil, hs1, ← lp, List.take_length_add_append, List.append_assoc]
  rw [hH]
  exact lw_mid' rfl lp.symm (by omega)
end Go.Vc
end
section
namespace Go.Proofs.YtodjijfblgnfmaaGreatDoor.I
open Go.Vc Go.Proofs Go.Proofs.YtodjijfblgnfmaaGreatDoor Go.Vc.Bt
variable {w w' : World} {K : KV} {Kp : KP} {n : Int} {kn : Nat} {k k' : Ky} {x x' : Vl} {V : List (Ky × Vl)} {lv : Value}
abbrev tx : Bool := false
theorem cmpP : cmpS tx kn n (kd.pair k x) (kd.pair k' x') = Bt.cmp (ordI kn n) k k' := rfl
theorem compareP_ok (hR : Right kn n) (hK : ∀ w', Frm (fun _ => False) w w' → K (.int .i64 (Bt.cmp (ordI kn n) k k')) w') : Calls Tryz.prog 34 #[orderV kn n, .bool tx, .agg (kd.pair k x).cells.toArray, .agg (kd.pair k' x').cells.toArray] w (ret K Kp) := by
  refine compareS_ok hR fun w' hf => ?_
  rw [cmpP]
  exact hK w' hf
theorem cmp_lt0 {lt : Ky → Ky → Bool} {a b : Ky} : (Bt.cmp lt a b < 0) ↔ lt a b = true := by
  unfold Bt.cmp
  split
  · rename_i h; simp [h]
  · rename_i h; split <;> simp [h]
theorem place_eq {lt : Ky → Ky → Bool} {i : Nat} (hi : i ≤ V.length) (h0 : ∀ j (hj : j < V.length), j < i → lt V[j].1 k = true) (h1 : ∀ hi : i < V.length, lt V[i].1 k = false) : place lt V k = i := by
  unfold place
  by_cases hl : i < V.length
  · rw [List.findIdx_eq hl]
    refine ⟨by simp [h1 hl], fun j hj => by simp [h0 j (by omega) hj]⟩
  · rw [show i = V.length from by omega, List.findIdx_eq_length]
    intro e he
    obtain ⟨j, hj, rfl⟩ := List.mem_iff_getElem.1 he
    simp [h0 j hj (by omega)]
theorem place_ok (hR : Right kn n) (hs : Sd (ordI kn n) V) (hl : IsSl w lv V.length ((prsOf kd V).flatMap SPr.cells)) (hn : V.length < 2 ^ 40)
    (hK : ∀ w', Frm (fun _ => False) w w' → K (.tuple #[.int .i64 (place (ordI kn n) V k : Nat), .bool (has (ordI kn n) V k)]) w') :
    Calls Tryz.prog 48 #[orderV kn n, .bool tx, lv, .agg (kd.pair k x).cells.toArray] w (ret K Kp) := by
  obtain ⟨a, c, rfl, hc, hm, hr, _⟩ := hl
  refine vc48_calls ?_
  delta vc48 orderV
  refine op_box_ok fun w1 k1 z1 b1 => op_box_ok fun w2 k2 z2 b2 => ?_
  simp only [cells_agg] at b1 b2
  have b1 := k2.get b1 fun h => h
  have k12 := k1.no k2
  have hx2 : (#[.int .u8 kn, .int .i64 n] : Array Value).extract 0 2 = #[.int .u8 kn, .int .i64 n] := rfl
  have hx3 : ∀ p : SPr, p.cells.toArray.extract 0 3 = p.cells.toArray := fun p => extract_self (by simp [SPr.cells])
  have hs3 : ∀ p : SPr, 3 ≤ p.cells.length := fun p => Nat.le_refl _
  have hpl : (prsOf kd V).length = V.length := by simp [prsOf]
  have hpg : ∀ i (hi : i < V.length), (prsOf kd V)[i]'(by omega) = kd.pair V[i].1 V[i].2 := fun i hi => by simp [prsOf]
  simp [-getElem?_pos, -Array.getElem?_eq_getElem, -Int.natCast_add, add_spot, and_assoc, Br_dec]
  obtain ⟨I, hI⟩ : ∃ I : Value → KV, ∀ u v wl, I u v wl ↔ ∃ i j : Nat, u = .int .i64 i ∧ v = .int .i64 j ∧ i ≤ j ∧ j ≤ V.length ∧ Frm (fun _ => False) w2 wl ∧ (∀ q (hq : q < V.length), q < i → ordI kn n V[q].1 k = true) ∧ ∀ q (hq : q < V.length), j ≤ q → ordI kn n V[q].1 k = false := ⟨_, fun _ _ _ => Iff.rfl⟩
  refine Lp.intro I (fun u v _ => nOf v - nOf u) ⟨(hI _ _ _).2 ⟨0, V.length, rfl, rfl, by omega, by omega, Frm.refl, fun q hq h => by omega, fun q hq h => by omega⟩, ?_⟩
  intro wl u v hv
  obtain ⟨i, j, rfl, rfl, hij, hjl, kl, hlo, hhi⟩ := (hI _ _ _).1 hv
  have b1l := kl.get b1 fun h => h
  have b2l := kl.get b2 fun h => h
  simp only [op_lss, Br_dec]
  refine ⟨fun hlt => ?_, fun hge => ?_⟩
  · have e0 : IntKind.i64.wrap ((i : Int) + j) = ((i + j : Nat) : Int) := by rw [IntKind.wrap_i64]; omega
    obtain ⟨q, hqd⟩ : ∃ q, q = (i + j) / 2 := ⟨_, rfl⟩
    have hq : q < V.length := by omega
    have e1 : IntKind.i64.wrap (((i + j : Nat) : Int) / 2) = (q : Int) := by rw [IntKind.wrap_i64]; omega
    obtain ⟨b, o, cs, e, fz, rfl, q1, q2, q3⟩ := (hr.frame ((k12.no kl).no (Frm.drew wl)) fun _ _ h => h).part SPr.len (by decide) (i := q) (by omega)
    rw [hpg _ hq] at q3
    have q1' : wl.heap[b]? = some (.cells cs e fz) := by simpa using q1
    simp [-getElem?_pos, -Array.getElem?_eq_getElem, -Int.natCast_add, e0, e1, b1l, b2l, hx2, hx3, hs3, q1', q2, q3]
    have hqi : i ≤ q := by omega
    have hqj : q < j := by omega
    refine ⟨hq, compareP_ok hR fun w5 k5 => ?_⟩
    have k5 := kl.no (Frm.dr k5)
    have elt := cmp_lt0 (lt := ordI kn n) (a := V[q].1) (b := k)
    simp [-getElem?_pos, -Array.getElem?_eq_getElem, -Int.natCast_add, elt]
    refine ⟨fun h => ⟨(hI _ _ _).2 ⟨q + 1, j, by rw [show IntKind.i64.wrap ((q : Int) + 1) = ((q + 1 : Nat) : Int) from by rw [IntKind.wrap_i64]; omega], rfl, by omega, hjl, k5, fun p hp hpq => ?_, hhi⟩, ?_⟩, fun h => ⟨(hI _ _ _).2 ⟨i, q, rfl, rfl, by omega, by omega, k5, hlo, fun p hp hpq => ?_⟩, by simp only [nOf_int]; omega⟩⟩
    · by_cases e : p = q
      · subst e; exact h
      · have h1 := List.pairwise_iff_getElem.1 hs p q hp hq (by omega)
        exact ordI_lin.tr h1 h
    · rw [show IntKind.i64.wrap ((q : Int) + 1) = ((q + 1 : Nat) : Int) from by rw [IntKind.wrap_i64]; omega]
      simp only [nOf_int]; omega
    · by_cases e : p = q
      · subst e; exact h
      · have h1 := List.pairwise_iff_getElem.1 hs q p hq hp (by omega)
        cases hc : ordI kn n V[p].1 k with
        | false => rfl
        | true => rw [ordI_lin.tr h1 hc] at h; cases h
  · have hij' : i = j := by omega
    subst hij'
    have hp : place (ordI kn n) V k = i := place_eq hjl (fun j hj h => hlo j hj h) (fun hi => hhi i hi (Nat.le_refl _))
    rw [hp] at hK
    have hhas : has (ordI kn n) V k = if h : i < V.length then decide (V[i].1 = k) else false := by
      unfold has
      rw [hp]
      split
      · rename_i e h
        obtain ⟨h1, h2⟩ := List.getElem?_eq_some_iff.1 h
        rw [dif_pos h1, h2]
      · rename_i h
        rw [dif_neg (by rw [List.getElem?_eq_none_iff] at h; omega)]
    simp [-getElem?_pos, -Array.getElem?_eq_getElem, -Int.natCast_add, add_spot, and_assoc, Br_dec]
    refine ⟨fun hil => ?_, fun hge => ?_⟩
    · have hil : i < V.length := by omega
      rw [dif_pos hil] at hhas
      obtain ⟨b, o, cs, e, fz, rfl, q1, q2, q3⟩ := (hr.frame (k12.no kl) fun _ _ h => h).part SPr.len (by decide) (i := i) (by omega)
      rw [hpg _ hil] at q3
      simp [-getElem?_pos, -Array.getElem?_eq_getElem, -Int.natCast_add, b1l, b2l, hx2, hx3, hs3, q1, q2, q3]
      refine ⟨hil, compareP_ok hR fun w5 k5 => ?_⟩
      have ez : decide (Bt.cmp (ordI kn n) V[i].1 k = 0) = decide (V[i].1 = k) := decide_eq_decide.2 (cmp_zero ordI_lin)
      simp [-getElem?_pos, -Array.getElem?_eq_getElem, -Int.natCast_add, add_spot, and_assoc, Br_dec]
      rw [ez, ← hhas]
      exact hK w5 ((k12.no kl).no (Frm.dr k5))
    · rw [dif_neg (by omega)] at hhas
      rw [hhas] at hK
      exact hK _ ((k12.no kl).no (Frm.drew _))
end Go.Proofs.YtodjijfblgnfmaaGreatDoor.I
end
section
namespace Go.Proofs.YtodjijfblgnfmaaGreatDoor.I
open Go.Vc Go.Proofs Go.Proofs.YtodjijfblgnfmaaGreatDoor Go.Vc.Bt
variable {w w' : World} {K : KV} {Kp : KP} {n : Int} {kn base : Nat} {k : Ky} {x : Vl} {V : List (Ky × Vl)} {l : Value} {p : SPr}
abbrev PRow (w : World) (base : Nat) (l : Value) (L : List SPr) : Prop := FRow SPr.cells w base 45 3 l L
theorem apP : apOf Tryz.prog 38 = some (45, 3, 32) := by kernel_rfl
theorem lit_pr (p : SPr) : sliceLit Tryz.prog 38 1 [(0, .agg p.cells.toArray)] = some (45, p.cells.toArray) := lit_38_1
theorem prs_set {i : Nat} : prsOf kd (V.set i (k, x)) = (prsOf kd V).set i (kd.pair k x) := by simp [prsOf, List.map_set]
theorem prs_ins {i : Nat} : prsOf kd (V.take i ++ (k, x) :: V.drop i) = (prsOf kd V).take i ++ kd.pair k x :: (prsOf kd V).drop i := by simp [prsOf, List.map_take, List.map_drop]
theorem prs_len : (prsOf kd V).length = V.length := by simp [prsOf]
theorem put_ok (hR : Right kn n) (hs : Sd (ordI kn n) V) (hl : PRow w base l (prsOf kd V)) (hn : V.length < 2 ^ 40) (hb : base ≤ w.heap.size)
    (hK : ∀ l' w', Frm (fun b => some b = l.ownBlock) w w' → PRow w' base l' (prsOf kd (Bt.put (ordI kn n) V k x)) → K l' w') :
    Calls Tryz.prog 46 #[orderV kn n, .bool tx, l, .agg (kd.pair k x).cells.toArray] w (ret K Kp) := by
  refine vc46_calls ?_
  delta vc46 orderV
  refine op_box_ok fun w1 k1 z1 b1 => op_box_ok fun w2 k2 z2 b2 => ?_
  simp only [cells_agg] at b1 b2
  have b1 := k2.get b1 fun h => h
  have k12 := k1.no k2
  have hx2 : (#[.int .u8 kn, .int .i64 n] : Array Value).extract 0 2 = #[.int .u8 kn, .int .i64 n] := rfl
  have hx3 : ∀ p : SPr, p.cells.toArray.extract 0 3 = p.cells.toArray := fun p => extract_self (by simp [SPr.cells])
  have hs3 : ∀ p : SPr, 3 ≤ p.cells.length := fun p => Nat.le_refl _
  have hpl := prs_len (V := V)
  simp [-getElem?_pos, -Array.getElem?_eq_getElem, -Int.natCast_add, b1, b2, hx2, hx3, hs3]
  have hfl := (frow_still hl k12).flat
  rw [hpl] at hfl
  refine place_ok (k := k) (x := x) hR hs hfl hn fun w3 k3 => ?_
  have k13 := k12.no k3
  have b13 := k3.get b1 fun h => h
  have b23 := k3.get b2 fun h => h
  have hl3 := frow_still hl k13
  have hlow := hl3.own_lt
  have n3 := k13.size
  have hlow0 := hl.own_lt
  cases hh : has (ordI kn n) V k with
  | true =>
    have hi := has_lt hh
    obtain ⟨g, cap, rfl, hg1, hg2, hg3, hg4⟩ := FRow.rw' hl3 (by omega)
    have hput : Bt.put (ordI kn n) V k x = V.set (place (ordI kn n) V k) (k, x) := by unfold Bt.put; rw [if_pos hh]
    rw [hput] at hK
    have hi' : place (ordI kn n) V k < (prsOf kd V).length := by omega
    generalize place (ordI kn n) V k = i at *
    simp [-getElem?_pos, -Array.getElem?_eq_getElem, -Int.natCast_add, b23, hx3, hs3]
    refine ⟨hi', ?_⟩
    refine op_store_frow (f := SPr.cells) (by kernel_rfl) SPr.len (fun p => SPr.one p) hl3 hi' fun w4 k4 z4 hl4 => ?_
    rw [← prs_set] at hl4
    refine hK _ w4 (k13.fst (k4.to fun b hb => by subst hb; rfl)) ?_
    rw [show (prsOf kd V).length = (prsOf kd (V.set i (k, x))).length from by simp [prsOf]] at hl4
    rw [show (prsOf kd V).length = (prsOf kd (V.set i (k, x))).length from by simp [prsOf]]
    exact hl4
  | false =>
    have hi := place_le (lt := ordI kn n) V k
    have hput : Bt.put (ordI kn n) V k x = V.take (place (ordI kn n) V k) ++ (k, x) :: V.drop (place (ordI kn n) V k) := by unfold Bt.put; rw [if_neg (by simp [hh])]
    rw [hput] at hK
    generalize place (ordI kn n) V k = i at *
    simp [-getElem?_pos, -Array.getElem?_eq_getElem, -Int.natCast_add]
    have ez : (#[.int .i64 0, .string ByteArray.empty, .int .i64 0] : Array Value) = (⟨0, ByteArray.empty, 0⟩ : SPr).cells.toArray := by simp [SPr.cells]
    rw [ez]
    generalize hz0 : (⟨0, ByteArray.empty, 0⟩ : SPr) = z at *
    refine op_push (u := z.cells) (y := z) (G2 := fun _ => False) (flat_ok SPr.cells) apP (lit_pr z) rfl (SPr.one _) hl3 rfl (fun _ h => h.elim) (fun _ _ h => h) (by rw [hpl]; omega) (by omega) fun l4 w4 k4 hl4 ho4 => ?_
    have hl4 : PRow w4 base l4 (prsOf kd V ++ [z]) := hl4.mono (flat_ok _) (fun _ h => h.elim id fun h => h) (fun _ h => h.elim) fun _ _ h => h
    obtain ⟨g, cap, rfl, hg1, hg2, hg3, hg4⟩ := FRow.rw' hl4 (by simp)
    have hlen4 : (prsOf kd V ++ [z]).length = V.length + 1 := by simp [hpl]
    rw [hlen4] at hg3
    have b24 : w4.heap[w1.heap.size]? = some (.cells (kd.pair k x).cells.toArray 45 (0, 0)) := k4.get b23 fun he => by have := hlow0 _ he.symm; have := k1.size; omega
    have e1 : IntKind.i64.wrap ((i : Int) + 1) = ((i + 1 : Nat) : Int) := by rw [IntKind.wrap_i64]; omega
    rw [hlen4]
    simp [-getElem?_pos, -Array.getElem?_eq_getElem, -Int.natCast_add, e1, pur_cut_lo (P := Tryz.prog) (t := 38) (e := 45) (s := 3) (by kernel_rfl)]
    refine ⟨hi, hg3, by omega, hg3, ?_⟩
    have hfl4 : ((prsOf kd V ++ [z]).flatMap SPr.cells).length = (V.length + 1) * 3 := by rw [flatMap_len SPr.len, hlen4]
    refine op_copyX (s := 3) (x1 := i + 1) (x2 := i) (n := V.length - i) (g := g) (q := g) (by kernel_rfl) hg4.drew hg4.drew ?_ ?_ (by omega) (by omega) (by omega) (fun v hv => ?_) fun w5 k5 z5 r5 => ?_
    · split
      · exact .inr ⟨rfl, by omega⟩
      · exact .inl rfl
    · rw [if_neg (by omega)]; exact .inl rfl
    · obtain ⟨q, _, hq⟩ := List.mem_flatMap.1 hv
      exact SPr.one q v hq
    have k45 : Frm (· = g) w4 w5 := (Frm.drew _).fst k5
    have hne : ¬ w1.heap.size = g := by
      have := k1.size
      rcases ho4 with h | ⟨b, h, h'⟩
      · have := hlow0 g (by rw [← h]; rfl); omega
      · have : g = b := Option.some.inj h
        have := lt_of_get b23; omega
    have b25 := k45.get b24 hne
    simp [-getElem?_pos, -Array.getElem?_eq_getElem, -Int.natCast_add, b25, hx3, hs3]
    refine ⟨by omega, ?_⟩
    refine op_storeRN (n := 3) (by kernel_rfl) (by simp [SPr.cells]) r5 (by rw [lw_len (by simp only [List.length_take, List.length_drop]; omega)]; omega) (fun u hu => SPr.one _ u (by simpa using hu)) fun w6 k6 z6 r6 => ?_
    have hri := row_ins (f := SPr.cells) SPr.len (ys := prsOf kd V) (i := i) (by omega) z (kd.pair k x)
    rw [hpl] at hri
    rw [show (kd.pair k x).cells.toArray.toList = (kd.pair k x).cells from rfl, hri, ← prs_ins] at r6
    have hlr : (prsOf kd (V.take i ++ (k, x) :: V.drop i)).length = V.length + 1 := by rw [prs_len]; simp; omega
    have hfin := FRow.of_rw SPr.len r6 hg1 (by rw [hlr]; exact hg3)
    rw [hlr] at hfin
    have k46 : Frm (· = g) w4 w6 := k45.trans k6 fun _ h _ => h
    refine hK _ w6 ((k13.fst k4).old k46 fun b hb => ?_) hfin
    rcases ho4 with h | ⟨q, h, h'⟩
    · exact .inl (by rw [hb, ← h]; rfl)
    · have : g = q := Option.some.inj h
      exact .inr (by omega)
theorem sortedKey_ok (ht : p.text.size ≤ 1000) (hK : ∀ w', Frm (fun _ => False) w w' → K (.agg (kd.pair (kd.key p.key p.text) p.val).cells.toArray) w') :
    Calls Tryz.prog 49 #[.bool tx, .agg p.cells.toArray] w (ret K Kp) := by
  refine vc49_calls ?_
  delta vc49
  refine op_box_ok fun w1 k1 z1 b1 => ?_
  simp only [cells_agg, SPr.cells] at b1
  refine op_alloc_ok (z := .agg #[.int .i64 0, .string ByteArray.empty, .int .i64 0]) (by kernel_rfl) fun w2 k2 z2 b2 => ?_
  simp only [cells_agg] at b2
  have b1 := k2.get b1 fun h => h
  have k12 := k1.no k2
  have hx : ∀ a b c : Value, (#[a, b, c] : Array Value).extract 0 3 = #[a, b, c] := fun a b c => rfl
  simp [-getElem?_pos, -Array.getElem?_eq_getElem, -Int.natCast_add]
  refine op_store_ok (by kernel_rfl) b1 (by simp) rfl fun w3 k3 z3 b3 => ?_
  have b3 : w3.heap[w.heap.size]? = some (.cells #[.int .i64 p.key, .string ByteArray.empty, .int .i64 p.val] 45 (0, 0)) := by simp at b3; exact b3
  have hl1 := lt_of_get b1
  have b23 := k3.get b2 (by omega)
  simp [-getElem?_pos, -Array.getElem?_eq_getElem, -Int.natCast_add, b3, hx]
  refine op_storeN_ok (n := 3) (by kernel_rfl) b23 rfl (by simp) (by simp) fun w4 k4 z4 b4 => ?_
  rw [ow_all (by simp)] at b4
  have := hK w4 ((k12.old k3 fun c hc => .inr (by omega)).old k4 fun c hc => .inr (by omega))
  simp [-getElem?_pos, -Array.getElem?_eq_getElem, -Int.natCast_add, b4, hx]
  exact this
end Go.Proofs.YtodjijfblgnfmaaGreatDoor.I
end
section
namespace Go.Proofs.YtodjijfblgnfmaaGreatDoor.I
open Go.Vc Go.Proofs Go.Proofs.YtodjijfblgnfmaaGreatDoor Go.Vc.Bt
variable {w w' : World} {K : KV} {Kp : KP} {n : Int} {kn base : Nat} {k : Ky} {x : Vl} {V : List (Ky × Vl)} {l : Value} {p : SPr} {s : SSt}
theorem drop_ok (hR : Right kn n) (hs : Sd (ordI kn n) V) (hl : PRow w base l (prsOf kd V)) (hn : V.length < 2 ^ 40) (hb : base ≤ w.heap.size)
    (hK : ∀ l' w', Frm (fun b => some b = l.ownBlock) w w' → PRow w' base l' (prsOf kd (rem (ordI kn n) V k)) → K l' w') :
    Calls Tryz.prog 47 #[orderV kn n, .bool tx, l, .agg (kd.pair k x).cells.toArray] w (ret K Kp) := by
  refine vc47_calls ?_
  delta vc47 orderV
  refine op_box_ok fun w1 k1 z1 b1 => op_box_ok fun w2 k2 z2 b2 => ?_
  simp only [cells_agg] at b1 b2
  have b1 := k2.get b1 fun h => h
  have k12 := k1.no k2
  have hx2 : (#[.int .u8 kn, .int .i64 n] : Array Value).extract 0 2 = #[.int .u8 kn, .int .i64 n] := rfl
  have hx3 : ∀ p : SPr, p.cells.toArray.extract 0 3 = p.cells.toArray := fun p => extract_self (by simp [SPr.cells])
  have hs3 : ∀ p : SPr, 3 ≤ p.cells.length := fun p => Nat.le_refl _
  have hpl := prs_len (V := V)
  simp [-getElem?_pos, -Array.getElem?_eq_getElem, -Int.natCast_add, b1, b2, hx2, hx3, hs3]
  have hfl := (frow_still hl k12).flat
  rw [hpl] at hfl
  refine place_ok (k := k) (x := x) hR hs hfl hn fun w3 k3 => ?_
  have k13 := k12.no k3
  have hl3 := frow_still hl k13
  have n3 := k13.size
  cases hh : has (ordI kn n) V k with
  | false =>
    rw [rem_absent hh] at hK
    simp [-getElem?_pos, -Array.getElem?_eq_getElem, -Int.natCast_add]
    exact hK l w3 (k13.to fun _ h => h.elim) hl3
  | true =>
    have hi := has_lt hh
    have hrem : rem (ordI kn n) V k = V.eraseIdx (place (ordI kn n) V k) := by rw [rem, if_pos hh]
    rw [hrem] at hK
    generalize place (ordI kn n) V k = i at *
    obtain ⟨g, cap, rfl, hg1, hg2, hg3, hg4⟩ := FRow.rw' hl3 (by omega)
    simp [-getElem?_pos, -Array.getElem?_eq_getElem, -Int.natCast_add]
    have e1 : IntKind.i64.wrap ((i : Int) + 1) = ((i + 1 : Nat) : Int) := by rw [IntKind.wrap_i64]; omega
    rw [pur_cut_hi (P := Tryz.prog) (t := 38) (e := 45) (s := 3) (by kernel_rfl), e1]
    refine ⟨⟨by omega, by omega⟩, ?_⟩
    refine cut_lo (P := Tryz.prog) (t := 38) (e := 45) (s := 3) (xs := prsOf kd V) (by kernel_rfl) SPr.len (by omega) (hl3.still (flat_ok _) (Frm.drew _)).flat (by decide) fun v' hv' => ?_
    have htl : ((prsOf kd V).take i).length = i := by rw [List.length_take]; omega
    have hpre : PRow w3.drew base (.slice (some ⟨g, 0, none⟩) i cap) ((prsOf kd V).take i) := by
      have hr := (hg4.drew.take (i * 3))
      rw [← flatMap_take SPr.len] at hr
      have := FRow.of_rw (base := base) SPr.len hr hg1 (by rw [htl]; omega)
      rw [htl] at this
      exact this
    refine op_concatF apP SPr.len (fun p => SPr.one p) hpre hv' (by rw [htl, List.length_drop]; omega) (by have : w3.drew.heap.size = w3.heap.size := rfl; omega) fun l5 w5 k5 hl5 ho5 => ?_
    rw [← List.eraseIdx_eq_take_drop_succ] at hl5
    refine hK l5 w5 (((k13.no (Frm.drew _)).fst k5).to fun b hb => by rw [hb]; rfl) ?_
    rw [show prsOf kd (V.eraseIdx i) = (prsOf kd V).eraseIdx i from by rw [List.eraseIdx_eq_take_drop_succ, List.eraseIdx_eq_take_drop_succ]; simp [prsOf, List.map_take, List.map_drop]]
    exact hl5
end Go.Proofs.YtodjijfblgnfmaaGreatDoor.I
end
section
namespace Go.Proofs.YtodjijfblgnfmaaGreatDoor.I
open Go.Vc Go.Proofs Go.Proofs.YtodjijfblgnfmaaGreatDoor Go.Vc.Bt

end Go.Proofs.YtodjijfblgnfmaaGreatDoor.I
end
section
namespace Go.Vc.Bt
open Go.Vc
section
variable {κ : Type} [DecidableEq κ] {lt : κ → κ → Bool} {kd : Kd κ}
end
end Go.Vc.Bt
end
section
namespace Go.Proofs.YtodjijfblgnfmaaGreatDoor.I
open Go.Vc Go.Proofs Go.Proofs.YtodjijfblgnfmaaGreatDoor Go.Vc.Bt
variable {w w' : World} {n : Int} {kn base : Nat} {V : List (Ky × Vl)} {s : SSt}
def ElV : World → List Value → List (Ky × Vl) → (Nat → Prop) → Prop := fun w u V G => ∃ pv, u = [pv] ∧ IsSl w pv V.length ((prsOf kd V).flatMap SPr.cells) ∧ ∀ b, pv.ownBlock = some b → G b
theorem apV : apOf Tryz.prog 65 = some (38, 1, 24) := by kernel_rfl
theorem apB : apOf Tryz.prog 35 = some (104, 4, 48) := by kernel_rfl
theorem lit_pr0 : sliceLit Tryz.prog 38 0 [] = some (45, #[]) := by kernel_rfl
theorem lit_an (a b c d : Value) : sliceLit Tryz.prog 35 1 [(0, .agg #[a, b, c, d])] = some (104, [a, b, c, d].toArray) := lit_35_1
def Prs (w : World) (G : Nat → Prop) : Prop := ∀ c, G c → ∃ cs, w.heap[c]? = some (.cells cs 45 (0, 0))
theorem Prs.keep {G M : Nat → Prop} (h : Prs w G) (hf : Frm M w w') (hM : ∀ c cs e, w.heap[c]? = some (.cells cs e (0, 0)) → M c → e ≠ 45) : Prs w' G := fun c hc => by
  obtain ⟨cs, h1⟩ := h c hc
  exact ⟨cs, hf.get h1 fun hm => hM c cs _ h1 hm rfl⟩
theorem Prs.still {G : Nat → Prop} (h : Prs w G) (hf : Frm (fun _ => False) w w') : Prs w' G := h.keep hf fun _ _ _ _ h => h.elim
structure MidS (base : Nat) (vs : List (List (Ky × Vl))) (an : List SAns) (L0 : List (Ky × Vl)) (n : Int) (kn : Nat) (s : SSt) (ab : Nat) (w1 wz : World) (out l' pv : Value) (G1 G2 : Nat → Prop) : Prop where
  frm : Frm (fun _ => False) w1 wz
  vers : RowsOf ElV wz base 38 1 l' (vs ++ (newV (ordI kn n) kd s L0).toList) G1
  prs : Prs wz G1
  outs : RowsOf ElA wz base 104 4 out an G2
  prs2 : Prs wz G2
  cell : wz.heap[ab]? = some (.cells #[.int .i64 (ansV (ordI kn n) kd s L0).value, .int .i64 (ansV (ordI kn n) kd s L0).n, .bool (ansV (ordI kn n) kd s L0).ok, pv] 104 (0, 0))
  row : IsSl wz pv (ansV (ordI kn n) kd s L0).list.length ((ansV (ordI kn n) kd s L0).list.flatMap SPr.cells)
  own : ∀ c, pv.ownBlock = some c → base ≤ c ∧ ∃ cs, wz.heap[c]? = some (.cells cs 45 (0, 0))
end Go.Proofs.YtodjijfblgnfmaaGreatDoor.I
end
section
namespace Go.Proofs.YtodjijfblgnfmaaGreatDoor.I
open Go.Vc Go.Proofs Go.Proofs.YtodjijfblgnfmaaGreatDoor Go.Vc.Bt

end Go.Proofs.YtodjijfblgnfmaaGreatDoor.I
end
section
namespace Go.Proofs.YtodjijfblgnfmaaGreatDoor.T
open Go.Vc Go.Proofs Go.Proofs.YtodjijfblgnfmaaGreatDoor Go.Vc.Bt
variable {w w' : World} {K : KV} {Kp : KP} {n : Int} {kn : Nat} {k k' : Ky} {x x' : Vl} {V : List (Ky × Vl)} {lv : Value}
abbrev tx : Bool := true
theorem cmpP : cmpS tx kn n (kd.pair k x) (kd.pair k' x') = Bt.cmp (ordI kn n) k k' := rfl
theorem compareP_ok (hR : Right kn n) (hK : ∀ w', Frm (fun _ => False) w w' → K (.int .i64 (Bt.cmp (ordI kn n) k k')) w') : Calls Tryz.prog 34 #[orderV kn n, .bool tx, .agg (kd.pair k x).cells.toArray, .agg (kd.pair k' x').cells.toArray] w (ret K Kp) := by
  refine compareS_ok hR fun w' hf => ?_
  rw [cmpP]
  exact hK w' hf
theorem cmp_lt0 {lt : Ky → Ky → Bool} {a b : Ky} : (Bt.cmp lt a b < 0) ↔ lt a b = true := by
  unfold Bt.cmp
  split
  · rename_i h; simp [h]
  · rename_i h; split <;> simp [h]
theorem place_eq {lt : Ky → Ky → Bool} {i : Nat} (hi : i ≤ V.length) (h0 : ∀ j (hj : j < V.length), j < i → lt V[j].1 k = true) (h1 : ∀ hi : i < V.length, lt V[i].1 k = false) : place lt V k = i := by
  unfold place
  by_cases hl : i < V.length
  · rw [List.findIdx_eq hl]
    refine ⟨by simp [h1 hl], fun j hj => by simp [h0 j (by omega) hj]⟩
  · rw [show i = V.length from by omega, List.findIdx_eq_length]
    intro e he
    obtain ⟨j, hj, rfl⟩ := List.mem_iff_getElem.1 he
    simp [h0 j hj (by omega)]
theorem place_ok (hR : Right kn n) (hs : Sd (ordI kn n) V) (hl : IsSl w lv V.length ((prsOf kd V).flatMap SPr.cells)) (hn : V.length < 2 ^ 40)
    (hK : ∀ w', Frm (fun _ => False) w w' → K (.tuple #[.int .i64 (place (ordI kn n) V k : Nat), .bool (has (ordI kn n) V k)]) w') :
    Calls Tryz.prog 48 #[orderV kn n, .bool tx, lv, .agg (kd.pair k x).cells.toArray] w (ret K Kp) := by
  obtain ⟨a, c, rfl, hc, hm, hr, _⟩ := hl
  refine vc48_calls ?_
  delta vc48 orderV
  refine op_box_ok fun w1 k1 z1 b1 => op_box_ok fun w2 k2 z2 b2 => ?_
  simp only [cells_agg] at b1 b2
  have b1 := k2.get b1 fun h => h
  have k12 := k1.no k2
  have hx2 : (#[.int .u8 kn, .int .i64 n] : Array Value).extract 0 2 = #[.int .u8 kn, .int .i64 n] := rfl
  have hx3 : ∀ p : SPr, p.cells.toArray.extract 0 3 = p.cells.toArray := fun p => extract_self (by simp [SPr.cells])
  have hs3 : ∀ p : SPr, 3 ≤ p.cells.length := fun p => Nat.le_refl _
  have hpl : (prsOf kd V).length = V.length := by simp [prsOf]
  have hpg : ∀ i (hi : i < V.length), (prsOf kd V)[i]'(by omega) = kd.pair V[i].1 V[i].2 := fun i hi => by simp [prsOf]
  simp [-getElem?_pos, -Array.getElem?_eq_getElem, -Int.natCast_add, add_spot, and_assoc, Br_dec]
  obtain ⟨I, hI⟩ : ∃ I : Value → KV, ∀ u v wl, I u v wl ↔ ∃ i j : Nat, u = .int .i64 i ∧ v = .int .i64 j ∧ i ≤ j ∧ j ≤ V.length ∧ Frm (fun _ => False) w2 wl ∧ (∀ q (hq : q < V.length), q < i → ordI kn n V[q].1 k = true) ∧ ∀ q (hq : q < V.length), j ≤ q → ordI kn n V[q].1 k = false := ⟨_, fun _ _ _ => Iff.rfl⟩
  refine Lp.intro I (fun u v _ => nOf v - nOf u) ⟨(hI _ _ _).2 ⟨0, V.length, rfl, rfl, by omega, by omega, Frm.refl, fun q hq h => by omega, fun q hq h => by omega⟩, ?_⟩
  intro wl u v hv
  obtain ⟨i, j, rfl, rfl, hij, hjl, kl, hlo, hhi⟩ := (hI _ _ _).1 hv
  have b1l := kl.get b1 fun h => h
  have b2l := kl.get b2 fun h => h
  simp only [op_lss, Br_dec]
  refine ⟨fun hlt => ?_, fun hge => ?_⟩
  · have e0 : IntKind.i64.wrap ((i : Int) + j) = ((i + j : Nat) : Int) := by rw [IntKind.wrap_i64]; omega
    obtain ⟨q, hqd⟩ : ∃ q, q = (i + j) / 2 := ⟨_, rfl⟩
    have hq : q < V.length := by omega
    have e1 : IntKind.i64.wrap (((i + j : Nat) : Int) / 2) = (q : Int) := by rw [IntKind.wrap_i64]; omega
    obtain ⟨b, o, cs, e, fz, rfl, q1, q2, q3⟩ := (hr.frame ((k12.no kl).no (Frm.drew wl)) fun _ _ h => h).part SPr.len (by decide) (i := q) (by omega)
    rw [hpg _ hq] at q3
    have q1' : wl.heap[b]? = some (.cells cs e fz) := by simpa using q1
    simp [-getElem?_pos, -Array.getElem?_eq_getElem, -Int.natCast_add, e0, e1, b1l, b2l, hx2, hx3, hs3, q1', q2, q3]
    have hqi : i ≤ q := by omega
    have hqj : q < j := by omega
    refine ⟨hq, compareP_ok hR fun w5 k5 => ?_⟩
    have k5 := kl.no (Frm.dr k5)
    have elt := cmp_lt0 (lt := ordI kn n) (a := V[q].1) (b := k)
    simp [-getElem?_pos, -Array.getElem?_eq_getElem, -Int.natCast_add, elt]
    refine ⟨fun h => ⟨(hI _ _ _).2 ⟨q + 1, j, by rw [show IntKind.i64.wrap ((q : Int) + 1) = ((q + 1 : Nat) : Int) from by rw [IntKind.wrap_i64]; omega], rfl, by omega, hjl, k5, fun p hp hpq => ?_, hhi⟩, ?_⟩, fun h => ⟨(hI _ _ _).2 ⟨i, q, rfl, rfl, by omega, by omega, k5, hlo, fun p hp hpq => ?_⟩, by simp only [nOf_int]; omega⟩⟩
    · by_cases e : p = q
      · subst e; exact h
      · have h1 := List.pairwise_iff_getElem.1 hs p q hp hq (by omega)
        exact ordI_lin.tr h1 h
    · rw [show IntKind.i64.wrap ((q : Int) + 1) = ((q + 1 : Nat) : Int) from by rw [IntKind.wrap_i64]; omega]
      simp only [nOf_int]; omega
    · by_cases e : p = q
      · subst e; exact h
      · have h1 := List.pairwise_iff_getElem.1 hs q p hq hp (by omega)
        cases hc : ordI kn n V[p].1 k with
        | false => rfl
        | true => rw [ordI_lin.tr h1 hc] at h; cases h
  · have hij' : i = j := by omega
    subst hij'
    have hp : place (ordI kn n) V k = i := place_eq hjl (fun j hj h => hlo j hj h) (fun hi => hhi i hi (Nat.le_refl _))
    rw [hp] at hK
    have hhas : has (ordI kn n) V k = if h : i < V.length then decide (V[i].1 = k) else false := by
      unfold has
      rw [hp]
      split
      · rename_i e h
        obtain ⟨h1, h2⟩ := List.getElem?_eq_some_iff.1 h
        rw [dif_pos h1, h2]
      · rename_i h
        rw [dif_neg (by rw [List.getElem?_eq_none_iff] at h; omega)]
    simp [-getElem?_pos, -Array.getElem?_eq_getElem, -Int.natCast_add, add_spot, and_assoc, Br_dec]
    refine ⟨fun hil => ?_, fun hge => ?_⟩
    · have hil : i < V.length := by omega
      rw [dif_pos hil] at hhas
      obtain ⟨b, o, cs, e, fz, rfl, q1, q2, q3⟩ := (hr.frame (k12.no kl) fun _ _ h => h).part SPr.len (by decide) (i := i) (by omega)
      rw [hpg _ hil] at q3
      simp [-getElem?_pos, -Array.getElem?_eq_getElem, -Int.natCast_add, b1l, b2l, hx2, hx3, hs3, q1, q2, q3]
      refine ⟨hil, compareP_ok hR fun w5 k5 => ?_⟩
      have ez : decide (Bt.cmp (ordI kn n) V[i].1 k = 0) = decide (V[i].1 = k) := decide_eq_decide.2 (cmp_zero ordI_lin)
      simp [-getElem?_pos, -Array.getElem?_eq_getElem, -Int.natCast_add, add_spot, and_assoc, Br_dec]
      rw [ez, ← hhas]
      exact hK w5 ((k12.no kl).no (Frm.dr k5))
    · rw [dif_neg (by omega)] at hhas
      rw [hhas] at hK
      exact hK _ ((k12.no kl).no (Frm.drew _))
end Go.Proofs.YtodjijfblgnfmaaGreatDoor.T
end
section
namespace Go.Proofs.YtodjijfblgnfmaaGreatDoor.T
open Go.Vc Go.Proofs Go.Proofs.YtodjijfblgnfmaaGreatDoor Go.Vc.Bt
variable {w w' : World} {K : KV} {Kp : KP} {n : Int} {kn base : Nat} {k : Ky} {x : Vl} {V : List (Ky × Vl)} {l : Value} {p : SPr}
abbrev PRow (w : World) (base : Nat) (l : Value) (L : List SPr) : Prop := FRow SPr.cells w base 45 3 l L
theorem apP : apOf Tryz.prog 38 = some (45, 3, 32) := by kernel_rfl
theorem lit_pr (p : SPr) : sliceLit Tryz.prog 38 1 [(0, .agg p.cells.toArray)] = some (45, p.cells.toArray) := lit_38_1
theorem prs_set {i : Nat} : prsOf kd (V.set i (k, x)) = (prsOf kd V).set i (kd.pair k x) := by simp [prsOf, List.map_set]
theorem prs_ins {i : Nat} : prsOf kd (V.take i ++ (k, x) :: V.drop i) = (prsOf kd V).take i ++ kd.pair k x :: (prsOf kd V).drop i := by simp [prsOf, List.map_take, List.map_drop]
theorem prs_len : (prsOf kd V).length = V.length := by simp [prsOf]
theorem put_ok (hR : Right kn n) (hs : Sd (ordI kn n) V) (hl : PRow w base l (prsOf kd V)) (hn : V.length < 2 ^ 40) (hb : base ≤ w.heap.size)
    (hK : ∀ l' w', Frm (fun b => some b = l.ownBlock) w w' → PRow w' base l' (prsOf kd (Bt.put (ordI kn n) V k x)) → K l' w') :
    Calls Tryz.prog 46 #[orderV kn n, .bool tx, l, .agg (kd.pair k x).cells.toArray] w (ret K Kp) := by
  refine vc46_calls ?_
  delta vc46 orderV
  refine op_box_ok fun w1 k1 z1 b1 => op_box_ok fun w2 k2 z2 b2 => ?_
  simp only [cells_agg] at b1 b2
  have b1 := k2.get b1 fun h => h
  have k12 := k1.no k2
  have hx2 : (#[.int .u8 kn, .int .i64 n] : Array Value).extract 0 2 = #[.int .u8 kn, .int .i64 n] := rfl
  have hx3 : ∀ p : SPr, p.cells.toArray.extract 0 3 = p.cells.toArray := fun p => extract_self (by simp [SPr.cells])
  have hs3 : ∀ p : SPr, 3 ≤ p.cells.length := fun p => Nat.le_refl _
  have hpl := prs_len (V := V)
  simp [-getElem?_pos, -Array.getElem?_eq_getElem, -Int.natCast_add, b1, b2, hx2, hx3, hs3]
  have hfl := (frow_still hl k12).flat
  rw [hpl] at hfl
  refine place_ok (k := k) (x := x) hR hs hfl hn fun w3 k3 => ?_
  have k13 := k12.no k3
  have b13 := k3.get b1 fun h => h
  have b23 := k3.get b2 fun h => h
  have hl3 := frow_still hl k13
  have hlow := hl3.own_lt
  have n3 := k13.size
  have hlow0 := hl.own_lt
  cases hh : has (ordI kn n) V k with
  | true =>
    have hi := has_lt hh
    obtain ⟨g, cap, rfl, hg1, hg2, hg3, hg4⟩ := FRow.rw' hl3 (by omega)
    have hput : Bt.put (ordI kn n) V k x = V.set (place (ordI kn n) V k) (k, x) := by unfold Bt.put; rw [if_pos hh]
    rw [hput] at hK
    have hi' : place (ordI kn n) V k < (prsOf kd V).length := by omega
    generalize place (ordI kn n) V k = i at *
    simp [-getElem?_pos, -Array.getElem?_eq_getElem, -Int.natCast_add, b23, hx3, hs3]
    refine ⟨hi', ?_⟩
    refine op_store_frow (f := SPr.cells) (by kernel_rfl) SPr.len (fun p => SPr.one p) hl3 hi' fun w4 k4 z4 hl4 => ?_
    rw [← prs_set] at hl4
    refine hK _ w4 (k13.fst (k4.to fun b hb => by subst hb; rfl)) ?_
    rw [show (prsOf kd V).length = (prsOf kd (V.set i (k, x))).length from by simp [prsOf]] at hl4
    rw [show (prsOf kd V).length = (prsOf kd (V.set i (k, x))).length from by simp [prsOf]]
    exact hl4
  | false =>
    have hi := place_le (lt := ordI kn n) V k
    have hput : Bt.put (ordI kn n) V k x = V.take (place (ordI kn n) V k) ++ (k, x) :: V.drop (place (ordI kn n) V k) := by unfold Bt.put; rw [if_neg (by simp [hh])]
    rw [hput] at hK
    generalize place (ordI kn n) V k = i at *
    simp [-getElem?_pos, -Array.getElem?_eq_getElem, -Int.natCast_add]
    have ez : (#[.int .i64 0, .string ByteArray.empty, .int .i64 0] : Array Value) = (⟨0, ByteArray.empty, 0⟩ : SPr).cells.toArray := by simp [SPr.cells]
    rw [ez]
    generalize hz0 : (⟨0, ByteArray.empty, 0⟩ : SPr) = z at *
    refine op_push (u := z.cells) (y := z) (G2 := fun _ => False) (flat_ok SPr.cells) apP (lit_pr z) rfl (SPr.one _) hl3 rfl (fun _ h => h.elim) (fun _ _ h => h) (by rw [hpl]; omega) (by omega) fun l4 w4 k4 hl4 ho4 => ?_
    have hl4 : PRow w4 base l4 (prsOf kd V ++ [z]) := hl4.mono (flat_ok _) (fun _ h => h.elim id fun h => h) (fun _ h => h.elim) fun _ _ h => h
    obtain ⟨g, cap, rfl, hg1, hg2, hg3, hg4⟩ := FRow.rw' hl4 (by simp)
    have hlen4 : (prsOf kd V ++ [z]).length = V.length + 1 := by simp [hpl]
    rw [hlen4] at hg3
    have b24 : w4.heap[w1.heap.size]? = some (.cells (kd.pair k x).cells.toArray 45 (0, 0)) := k4.get b23 fun he => by have := hlow0 _ he.symm; have := k1.size; omega
    have e1 : IntKind.i64.wrap ((i : Int) + 1) = ((i + 1 : Nat) : Int) := by rw [IntKind.wrap_i64]; omega
    rw [hlen4]
    simp [-getElem?_pos, -Array.getElem?_eq_getElem, -Int.natCast_add, e1, pur_cut_lo (P := Tryz.prog) (t := 38) (e := 45) (s := 3) (by kernel_rfl)]
    refine ⟨hi, hg3, by omega, hg3, ?_⟩
    have hfl4 : ((prsOf kd V ++ [z]).flatMap SPr.cells).length = (V.length + 1) * 3 := by rw [flatMap_len SPr.len, hlen4]
    refine op_copyX (s := 3) (x1 := i + 1) (x2 := i) (n := V.length - i) (g := g) (q := g) (by kernel_rfl) hg4.drew hg4.drew ?_ ?_ (by omega) (by omega) (by omega) (fun v hv => ?_) fun w5 k5 z5 r5 => ?_
    · split
      · exact .inr ⟨rfl, by omega⟩
      · exact .inl rfl
    · rw [if_neg (by omega)]; exact .inl rfl
    · obtain ⟨q, _, hq⟩ := List.mem_flatMap.1 hv
      exact SPr.one q v hq
    have k45 : Frm (· = g) w4 w5 := (Frm.drew _).fst k5
    have hne : ¬ w1.heap.size = g := by
      have := k1.size
      rcases ho4 with h | ⟨b, h, h'⟩
      · have := hlow0 g (by rw [← h]; rfl); omega
      · have : g = b := Option.some.inj h
        have := lt_of_get b23; omega
    have b25 := k45.get b24 hne
    simp [-getElem?_pos, -Array.getElem?_eq_getElem, -Int.natCast_add, b25, hx3, hs3]
    refine ⟨by omega, ?_⟩
    refine op_storeRN (n := 3) (by kernel_rfl) (by simp [SPr.cells]) r5 (by rw [lw_len (by simp only [List.length_take, List.length_drop]; omega)]; omega) (fun u hu => SPr.one _ u (by simpa using hu)) fun w6 k6 z6 r6 => ?_
    have hri := row_ins (f := SPr.cells) SPr.len (ys := prsOf kd V) (i := i) (by omega) z (kd.pair k x)
    rw [hpl] at hri
    rw [show (kd.pair k x).cells.toArray.toList = (kd.pair k x).cells from rfl, hri, ← prs_ins] at r6
    have hlr : (prsOf kd (V.take i ++ (k, x) :: V.drop i)).length = V.length + 1 := by rw [prs_len]; simp; omega
    have hfin := FRow.of_rw SPr.len r6 hg1 (by rw [hlr]; exact hg3)
    rw [hlr] at hfin
    have k46 : Frm (· = g) w4 w6 := k45.trans k6 fun _ h _ => h
    refine hK _ w6 ((k13.fst k4).old k46 fun b hb => ?_) hfin
    rcases ho4 with h | ⟨q, h, h'⟩
    · exact .inl (by rw [hb, ← h]; rfl)
    · have : g = q := Option.some.inj h
      exact .inr (by omega)
theorem sortedKey_ok (ht : p.text.size ≤ 1000) (hK : ∀ w', Frm (fun _ => False) w w' → K (.agg (kd.pair (kd.key p.key p.text) p.val).cells.toArray) w') :
    Calls Tryz.prog 49 #[.bool tx, .agg p.cells.toArray] w (ret K Kp) := by
  refine vc49_calls ?_
  delta vc49
  refine op_box_ok fun w1 k1 z1 b1 => ?_
  simp only [cells_agg, SPr.cells] at b1
  refine op_alloc_ok (z := .agg #[.int .i64 0, .string ByteArray.empty, .int .i64 0]) (by kernel_rfl) fun w2 k2 z2 b2 => ?_
  simp only [cells_agg] at b2
  have b1 := k2.get b1 fun h => h
  have k12 := k1.no k2
  have hx : ∀ a b c : Value, (#[a, b, c] : Array Value).extract 0 3 = #[a, b, c] := fun a b c => rfl
  simp [-getElem?_pos, -Array.getElem?_eq_getElem, -Int.natCast_add]
  refine op_store_ok (by kernel_rfl) b1 (by simp) rfl fun w3 k3 z3 b3 => ?_
  have b3 : w3.heap[w.heap.size]? = some (.cells #[.int .i64 0, .string p.text, .int .i64 p.val] 45 (0, 0)) := by simp at b3; exact b3
  have hl1 := lt_of_get b1
  have b23 := k3.get b2 (by omega)
  simp [-getElem?_pos, -Array.getElem?_eq_getElem, -Int.natCast_add, b3, hx]
  refine op_storeN_ok (n := 3) (by kernel_rfl) b23 rfl (by simp) (by simp) fun w4 k4 z4 b4 => ?_
  rw [ow_all (by simp)] at b4
  have := hK w4 ((k12.old k3 fun c hc => .inr (by omega)).old k4 fun c hc => .inr (by omega))
  have e : kd.pair (kd.key p.key p.text) p.val = ⟨0, p.text, p.val⟩ := by show (⟨0, (tk p.text).1, p.val⟩ : SPr) = _; rw [tk_val ht]
  rw [e] at this
  simp [-getElem?_pos, -Array.getElem?_eq_getElem, -Int.natCast_add, b4, hx]
  exact this
end Go.Proofs.YtodjijfblgnfmaaGreatDoor.T
end
section
namespace Go.Proofs.YtodjijfblgnfmaaGreatDoor.T
open Go.Vc Go.Proofs Go.Proofs.YtodjijfblgnfmaaGreatDoor Go.Vc.Bt
variable {w w' : World} {K : KV} {Kp : KP} {n : Int} {kn base : Nat} {k : Ky} {x : Vl} {V : List (Ky × Vl)} {l : Value} {p : SPr} {s : SSt}
theorem drop_ok (hR : Right kn n) (hs : Sd (ordI kn n) V) (hl : PRow w base l (prsOf kd V)) (hn : V.length < 2 ^ 40) (hb : base ≤ w.heap.size)
    (hK : ∀ l' w', Frm (fun b => some b = l.ownBlock) w w' → PRow w' base l' (prsOf kd (rem (ordI kn n) V k)) → K l' w') :
    Calls Tryz.prog 47 #[orderV kn n, .bool tx, l, .agg (kd.pair k x).cells.toArray] w (ret K Kp) := by
  refine vc47_calls ?_
  delta vc47 orderV
  refine op_box_ok fun w1 k1 z1 b1 => op_box_ok fun w2 k2 z2 b2 => ?_
  simp only [cells_agg] at b1 b2
  have b1 := k2.get b1 fun h => h
  have k12 := k1.no k2
  have hx2 : (#[.int .u8 kn, .int .i64 n] : Array Value).extract 0 2 = #[.int .u8 kn, .int .i64 n] := rfl
  have hx3 : ∀ p : SPr, p.cells.toArray.extract 0 3 = p.cells.toArray := fun p => extract_self (by simp [SPr.cells])
  have hs3 : ∀ p : SPr, 3 ≤ p.cells.length := fun p => Nat.le_refl _
  have hpl := prs_len (V := V)
  simp [-getElem?_pos, -Array.getElem?_eq_getElem, -Int.natCast_add, b1, b2, hx2, hx3, hs3]
  have hfl := (frow_still hl k12).flat
  rw [hpl] at hfl
  refine place_ok (k := k) (x := x) hR hs hfl hn fun w3 k3 => ?_
  have k13 := k12.no k3
  have hl3 := frow_still hl k13
  have n3 := k13.size
  cases hh : has (ordI kn n) V k with
  | false =>
    rw [rem_absent hh] at hK
    simp [-getElem?_pos, -Array.getElem?_eq_getElem, -Int.natCast_add]
    exact hK l w3 (k13.to fun _ h => h.elim) hl3
  | true =>
    have hi := has_lt hh
    have hrem : rem (ordI kn n) V k = V.eraseIdx (place (ordI kn n) V k) := by rw [rem, if_pos hh]
    rw [hrem] at hK
    generalize place (ordI kn n) V k = i at *
    obtain ⟨g, cap, rfl, hg1, hg2, hg3, hg4⟩ := FRow.rw' hl3 (by omega)
    simp [-getElem?_pos, -Array.getElem?_eq_getElem, -Int.natCast_add]
    have e1 : IntKind.i64.wrap ((i : Int) + 1) = ((i + 1 : Nat) : Int) := by rw [IntKind.wrap_i64]; omega
    rw [pur_cut_hi (P := Tryz.prog) (t := 38) (e := 45) (s := 3) (by kernel_rfl), e1]
    refine ⟨⟨by omega, by omega⟩, ?_⟩
    refine cut_lo (P := Tryz.prog) (t := 38) (e := 45) (s := 3) (xs := prsOf kd V) (by kernel_rfl) SPr.len (by omega) (hl3.still (flat_ok _) (Frm.drew _)).flat (by decide) fun v' hv' => ?_
    have htl : ((prsOf kd V).take i).length = i := by rw [List.length_take]; omega
    have hpre : PRow w3.drew base (.slice (some ⟨g, 0, none⟩) i cap) ((prsOf kd V).take i) := by
      have hr := (hg4.drew.take (i * 3))
      rw [← flatMap_take SPr.len] at hr
      have := FRow.of_rw (base := base) SPr.len hr hg1 (by rw [htl]; omega)
      rw [htl] at this
      exact this
    refine op_concatF apP SPr.len (fun p => SPr.one p) hpre hv' (by rw [htl, List.length_drop]; omega) (by have : w3.drew.heap.size = w3.heap.size := rfl; omega) fun l5 w5 k5 hl5 ho5 => ?_
    rw [← List.eraseIdx_eq_take_drop_succ] at hl5
    refine hK l5 w5 (((k13.no (Frm.drew _)).fst k5).to fun b hb => by rw [hb]; rfl) ?_
    rw [show prsOf kd (V.eraseIdx i) = (prsOf kd V).eraseIdx i from by rw [List.eraseIdx_eq_take_drop_succ, List.eraseIdx_eq_take_drop_succ]; simp [prsOf, List.map_take, List.map_drop]]
    exact hl5
end Go.Proofs.YtodjijfblgnfmaaGreatDoor.T
end
section
namespace Go.Proofs.YtodjijfblgnfmaaGreatDoor.T
open Go.Vc Go.Proofs Go.Proofs.YtodjijfblgnfmaaGreatDoor Go.Vc.Bt

end Go.Proofs.YtodjijfblgnfmaaGreatDoor.T
end
section
namespace Go.Proofs.YtodjijfblgnfmaaGreatDoor.T
open Go.Vc Go.Proofs Go.Proofs.YtodjijfblgnfmaaGreatDoor Go.Vc.Bt
variable {w w' : World} {n : Int} {kn base : Nat} {V : List (Ky × Vl)} {s : SSt}
def ElV : World → List Value → List (Ky × Vl) → (Nat → Prop) → Prop := fun w u V G => ∃ pv, u = [pv] ∧ IsSl w pv V.length ((prsOf kd V).flatMap SPr.cells) ∧ ∀ b, pv.ownBlock = some b → G b
theorem apV : apOf Tryz.prog 65 = some (38, 1, 24) := by kernel_rfl
theorem apB : apOf Tryz.prog 35 = some (104, 4, 48) := by kernel_rfl
theorem lit_pr0 : sliceLit Tryz.prog 38 0 [] = some (45, #[]) := by kernel_rfl
theorem lit_an (a b c d : Value) : sliceLit Tryz.prog 35 1 [(0, .agg #[a, b, c, d])] = some (104, [a, b, c, d].toArray) := lit_35_1
def Prs (w : World) (G : Nat → Prop) : Prop := ∀ c, G c → ∃ cs, w.heap[c]? = some (.cells cs 45 (0, 0))
theorem Prs.keep {G M : Nat → Prop} (h : Prs w G) (hf : Frm M w w') (hM : ∀ c cs e, w.heap[c]? = some (.cells cs e (0, 0)) → M c → e ≠ 45) : Prs w' G := fun c hc => by
  obtain ⟨cs, h1⟩ := h c hc
  exact ⟨cs, hf.get h1 fun hm => hM c cs _ h1 hm rfl⟩
theorem Prs.still {G : Nat → Prop} (h : Prs w G) (hf : Frm (fun _ => False) w w') : Prs w' G := h.keep hf fun _ _ _ _ h => h.elim
structure MidS (base : Nat) (vs : List (List (Ky × Vl))) (an : List SAns) (L0 : List (Ky × Vl)) (n : Int) (kn : Nat) (s : SSt) (ab : Nat) (w1 wz : World) (out l' pv : Value) (G1 G2 : Nat → Prop) : Prop where
  frm : Frm (fun _ => False) w1 wz
  vers : RowsOf ElV wz base 38 1 l' (vs ++ (newV (ordI kn n) kd s L0).toList) G1
  prs : Prs wz G1
  outs : RowsOf ElA wz base 104 4 out an G2
  prs2 : Prs wz G2
  cell : wz.heap[ab]? = some (.cells #[.int .i64 (ansV (ordI kn n) kd s L0).value, .int .i64 (ansV (ordI kn n) kd s L0).n, .bool (ansV (ordI kn n) kd s L0).ok, pv] 104 (0, 0))
  row : IsSl wz pv (ansV (ordI kn n) kd s L0).list.length ((ansV (ordI kn n) kd s L0).list.flatMap SPr.cells)
  own : ∀ c, pv.ownBlock = some c → base ≤ c ∧ ∃ cs, wz.heap[c]? = some (.cells cs 45 (0, 0))
end Go.Proofs.YtodjijfblgnfmaaGreatDoor.T
end
section
namespace Go.Proofs.YtodjijfblgnfmaaGreatDoor.T
open Go.Vc Go.Proofs Go.Proofs.YtodjijfblgnfmaaGreatDoor Go.Vc.Bt

end Go.Proofs.YtodjijfblgnfmaaGreatDoor.T
end
section
namespace Go.Proofs.YtodjijfblgnfmaaGreatDoor
open Go.Vc Go.Proofs Go.Vc.Bt
variable {w w' : World} {K : KV} {Kp : KP} {n : Int} {a2 : Option Addr} {c2 : Nat} {steps : List SSt} {s : SSt}
theorem fits5_ok (hK : ∀ b w', Frm (fun _ => False) w w' → K (.bool b) w') : Calls Tryz.prog 36 #[.agg s.cells.toArray] w (ret K Kp) := by
  refine vc36_calls ?_
  delta vc36
  refine op_box_ok fun w1 k1 z1 b1 => ?_
  simp only [cells_agg, SSt.cells] at b1
  have h0 := hK true w1 k1
  have h1 := hK false w1 k1
  simp [-getElem?_pos, -Array.getElem?_eq_getElem, -Int.natCast_add, b1]
  exact ⟨fun _ => h1, fun _ => h0⟩
theorem fits4_ok (hr : Row w a2 (steps.flatMap SSt.cells)) (hK : ∀ b w', Frm (fun _ => False) w w' → K (.bool b) w') : Calls Tryz.prog 12 #[.slice a2 steps.length c2] w (ret K Kp) := by
  refine vc12_calls ?_
  delta vc12
  simp [-getElem?_pos, -Array.getElem?_eq_getElem, -Int.natCast_add]
  refine ⟨fun _ => hK false w Frm.refl, fun hle => ?_⟩
  obtain ⟨I, hI⟩ : ∃ I : KV, ∀ v wl, I v wl ↔ ∃ i : Nat, v = .int .i64 i ∧ i ≤ steps.length ∧ Frm (fun _ => False) w wl := ⟨_, fun _ _ => Iff.rfl⟩
  refine Lp.intro I (fun v _ => steps.length - nOf v) ⟨(hI _ _).2 ⟨0, rfl, by omega, Frm.refl⟩, ?_⟩
  intro wl v hv
  obtain ⟨i, rfl, hi, kl⟩ := (hI _ _).1 hv
  simp only [op_lss, Br_dec]
  refine ⟨fun hlt => ?_, fun hge => hK true wl kl⟩
  have hi' : i < steps.length := by omega
  obtain ⟨b, o, cs, e, fz, rfl, q1, q2, q3⟩ := (hr.frame kl fun _ _ h => h).part SSt.len (by decide) hi'
  simp [-getElem?_pos, -Array.getElem?_eq_getElem, -Int.natCast_add, q1, q2, q3]
  refine ⟨hi', ?_⟩
  refine op_alloc_ok (z := .agg #[.int .u8 0, .int .i64 0, .int .i64 0, .string ByteArray.empty, .int .i64 0, .int .i64 0, .int .i64 0]) (by kernel_rfl) fun w5 k5 z5 b5 => ?_
  simp only [cells_agg] at b5
  refine op_storeN_ok (n := 7) (by kernel_rfl) b5 rfl (by decide) (by simp [SSt.cells]) fun w6 k6 z6 b6 => ?_
  have b6 : w6.heap[wl.heap.size]? = some (.cells steps[i].cells.toArray 64 (0, 0)) := by
    rw [ow_all (by simp [SSt.cells])] at b6; exact b6
  have hx : steps[i].cells.toArray.extract 0 7 = steps[i].cells.toArray := extract_self (by simp [SSt.cells])
  have hs7 : 7 ≤ steps[i].cells.length := Nat.le_refl _
  simp [-getElem?_pos, -Array.getElem?_eq_getElem, -Int.natCast_add, b6, hx, hs7]
  refine fits5_ok fun b w7 k7 => ?_
  have k67 := (kl.no (k5.old k6 fun c hc => .inr (by omega))).no k7
  cases b with
  | false =>
    simp [-getElem?_pos, -Array.getElem?_eq_getElem, -Int.natCast_add]
    exact hK false w7 k67
  | true =>
    simp [-getElem?_pos, -Array.getElem?_eq_getElem, -Int.natCast_add]
    rw [show IntKind.i64.wrap ((i : Int) + 1) = ((i + 1 : Nat) : Int) from by rw [IntKind.wrap_i64]; omega]
    exact ⟨(hI _ _).2 ⟨i + 1, rfl, by omega, k67⟩, by simp only [nOf_int]; omega⟩
theorem sameAnswers_ok {v1 v2 : Value} {b1 b2 : Nat} {G1 G2 : Nat → Prop} {A : List SAns} (h1 : RowsOf ElA w b1 56 4 v1 A G1) (h2 : RowsOf ElA w b2 104 4 v2 A G2) (hn : A.length < 2 ^ 60) (hA : ∀ a ∈ A, a.list.length < 2 ^ 60) (hK : ∀ w', Frm (fun _ => False) w w' → K (.bool true) w') :
    Calls Tryz.prog 17 #[v1, v2] w (ret K Kp) := by
  refine vc17_calls ?_
  delta vc17
  obtain ⟨a1, c1, rfl, _⟩ := h1.slice
  obtain ⟨a2, c2, rfl, _⟩ := h2.slice
  simp [-getElem?_pos, -Array.getElem?_eq_getElem, -Int.natCast_add]
  obtain ⟨I, hI⟩ : ∃ I : KV, ∀ v wl, I v wl ↔ ∃ i : Nat, v = .int .i64 i ∧ i ≤ A.length ∧ Frm (fun _ => False) w wl := ⟨_, fun _ _ => Iff.rfl⟩
  refine Lp.intro I (fun v _ => A.length - nOf v) ⟨(hI _ _).2 ⟨0, rfl, by omega, Frm.refl⟩, ?_⟩
  intro wl v hv
  obtain ⟨i, rfl, hi, kl⟩ := (hI _ _).1 hv
  simp only [op_lss, Br_dec]
  refine ⟨fun hlt => ?_, fun hge => hK wl kl⟩
  have hi' : i < A.length := by omega
  have hmem : A[i] ∈ A := List.getElem_mem hi'
  obtain ⟨u1, g1, cc1, cs1, e1, p1, _, p3, _, _, pv1, hu1, hs1, _⟩ := (h1.still elA_ok kl).get hi'
  obtain ⟨u2, g2, cc2, cs2, e2, q1, _, q3, _, _, pv2, hu2, hs2, _⟩ := (h2.still elA_ok kl).get hi'
  cases e1
  cases e2
  subst hu1 hu2
  have hAi := hA _ hmem
  generalize A[i] = a at *
  have p0' : cs1[i * 4]? = some (.int .i64 a.value) := by have := p3 0 (by decide); simpa using this
  have p1' : cs1[i * 4 + 1]? = some (.int .i64 a.n) := by have := p3 1 (by decide); simpa using this
  have p2' : cs1[i * 4 + 2]? = some (.bool a.ok) := by have := p3 2 (by decide); simpa using this
  have p3' : cs1[i * 4 + 3]? = some pv1 := by have := p3 3 (by decide); simpa using this
  have q0' : cs2[i * 4]? = some (.int .i64 a.value) := by have := q3 0 (by decide); simpa using this
  have q1' : cs2[i * 4 + 1]? = some (.int .i64 a.n) := by have := q3 1 (by decide); simpa using this
  have q2' : cs2[i * 4 + 2]? = some (.bool a.ok) := by have := q3 2 (by decide); simpa using this
  have q3' : cs2[i * 4 + 3]? = some pv2 := by have := q3 3 (by decide); simpa using this
  simp [-getElem?_pos, -Array.getElem?_eq_getElem, -Int.natCast_add, p1, q1, p0', p1', p2', p3', q0', q1', q2', q3', hi']
  have hd : Frm (fun _ => False) wl wl.drew := Frm.drew wl
  refine samePairs_ok (hs1.still hd) (hs2.still hd) hAi fun w5 k5 => ?_
  simp [-getElem?_pos, -Array.getElem?_eq_getElem, -Int.natCast_add]
  rw [show IntKind.i64.wrap ((i : Int) + 1) = ((i + 1 : Nat) : Int) from by rw [IntKind.wrap_i64]; omega]
  exact ⟨(hI _ _).2 ⟨i + 1, rfl, by omega, kl.no (hd.no k5)⟩, by simp only [nOf_int]; omega⟩
end Go.Proofs.YtodjijfblgnfmaaGreatDoor
end
section
namespace Go.Vc
variable {P : Program} {w w' w'' : World} {K : Value → World → Prop} {Kp : KP} {t e e' : TypeId} {s g o n c cap : Nat} {xs : List Value} {M M' : Nat → Nat → Prop}
structure CFrm (M : Nat → Nat → Prop) (w w' : World) : Prop where
  frm : Frm (fun b => ∃ j, M b j) w w'
  cells : ∀ b cs e, w.heap[b]? = some (.cells cs e (0, 0)) → ∃ cs', w'.heap[b]? = some (.cells cs' e (0, 0)) ∧ cs'.size = cs.size ∧ ∀ j, ¬ M b j → cs'[j]? = cs[j]?
theorem CFrm.refl : CFrm M w w := ⟨Frm.refl, fun b cs e h => ⟨cs, h, rfl, fun _ _ => rfl⟩⟩
theorem CFrm.of (h : Frm (fun _ => False) w w') : CFrm M w w' := ⟨h.to fun _ h => h.elim, fun b cs e hb => ⟨cs, h.get hb fun h => h, rfl, fun _ _ => rfl⟩⟩
theorem CFrm.trans (h : CFrm M w w') (k : CFrm M' w' w'') (hM : ∀ b j, M' b j → b < w.heap.size → M b j) : CFrm M w w'' := by
  refine ⟨h.frm.trans k.frm fun b ⟨j, hj⟩ hb => ⟨j, hM b j hj hb⟩, fun b cs e hb => ?_⟩
  obtain ⟨c1, h1, h2, h3⟩ := h.cells b cs e hb
  obtain ⟨c2, h4, h5, h6⟩ := k.cells b c1 e h1
  exact ⟨c2, h4, by omega, fun j hj => by rw [h6 j fun hm => hj (hM b j hm (lt_of_get hb)), h3 j hj]⟩
theorem CFrm.mono (h : CFrm M w w') (hM : ∀ b j, M b j → b < w.heap.size → M' b j) : CFrm M' w w' := by
  refine ⟨h.frm.mono fun b ⟨j, hj⟩ hb => ⟨j, hM b j hj hb⟩, fun b cs e hb => ?_⟩
  obtain ⟨c1, h1, h2, h3⟩ := h.cells b cs e hb
  exact ⟨c1, h1, h2, fun j hj => h3 j fun hm => hj (hM b j hm (lt_of_get hb))⟩
theorem CFrm.no (h : CFrm M w w') (k : Frm (fun _ => False) w' w'') : CFrm M w w'' := h.trans (CFrm.of (M := fun _ _ => False) k) fun _ _ h => h.elim
theorem CFrm.fst (h : Frm (fun _ => False) w w') (k : CFrm M w' w'') : CFrm M w w'' := (CFrm.of h).trans k fun _ _ h _ => h
theorem CFrm.size (h : CFrm M w w') : w.heap.size ≤ w'.heap.size := h.frm.size
theorem CFrm.old (h : CFrm M w w') (k : CFrm M' w' w'') (hM : ∀ b j, M' b j → M b j ∨ w.heap.size ≤ b) : CFrm M w w'' := h.trans k fun b j hj hb => (hM b j hj).resolve_right (by omega)
theorem CFrm.get {b : Nat} {cs : Array Value} {e : TypeId} (h : CFrm M w w') (hb : w.heap[b]? = some (.cells cs e (0, 0))) (hn : ∀ j, ¬ M b j) : w'.heap[b]? = some (.cells cs e (0, 0)) := h.frm.get hb fun ⟨j, hj⟩ => hn j hj
theorem CFrm.one {cs cs' : Array Value} {I : Nat → Prop} (h : Frm (· = g) w w') (h1 : w.heap[g]? = some (.cells cs e (0, 0))) (h2 : w'.heap[g]? = some (.cells cs' e (0, 0))) (hs : cs'.size = cs.size) (hI : ∀ j, ¬ I j → cs'[j]? = cs[j]?) (hne : ∃ j, I j) : CFrm (fun b j => b = g ∧ I j) w w' := by
  refine ⟨h.to fun b hb => by obtain ⟨j, hj⟩ := hne; exact ⟨j, hb, hj⟩, fun b c e' hb => ?_⟩
  by_cases hg : b = g
  · subst hg
    rw [h1] at hb; cases hb
    exact ⟨cs', h2, hs, fun j hj => hI j fun hi => hj ⟨rfl, hi⟩⟩
  · exact ⟨c, h.get hb hg, rfl, fun _ _ => rfl⟩
theorem Sg.cframe (h : Sg w e s g o n c xs) (hf : CFrm M w w') (hM : ∀ j, o ≤ j → j < o + c * s → ¬ M g j) : Sg w' e s g o n c xs := by
  obtain ⟨cs, h1, h2, h3, h4, h5, h6⟩ := h
  obtain ⟨cs', k1, k2, k3⟩ := hf.cells g cs e h1
  refine ⟨cs', k1, h2, h3, by omega, ?_, h6⟩
  have hnc : n * s ≤ c * s := Nat.mul_le_mul_right _ h3
  rw [← h5]
  refine List.ext_getElem? fun j => ?_
  simp only [List.getElem?_take, List.getElem?_drop, Array.getElem?_toList]
  split
  · exact k3 _ (hM _ (by omega) (by omega))
  · rfl
theorem Sg.write {cur : Array Value} {l : List Value} {x : Nat} (h : Sg w e s g o n c xs) (hb : w.heap[g]? = some (.cells cur e (0, 0))) (hx : x + l.length ≤ n * s) (hl : 0 < l.length) :
    Sg (w.upd g (.cells (ow cur (o + x) l) e (0, 0))) e s g o n c (lw xs x l) ∧ CFrm (fun b j => b = g ∧ o ≤ j ∧ j < o + c * s) w (w.upd g (.cells (ow cur (o + x) l) e (0, 0))) := by
  obtain ⟨cs, h1, h2, h3, h4, h5, h6⟩ := h
  rw [hb] at h1; cases h1
  have hnc : n * s ≤ c * s := Nat.mul_le_mul_right _ h3
  have hg := heap_upd_same (o := .cells (ow cur (o + x) l) e (0, 0)) hb
  refine ⟨⟨_, hg, by rw [lw_len (by omega), h2], h3, by rw [ow_size]; exact h4, ?_, h6⟩, CFrm.one (Frm.upd _ _ fun _ => rfl) hb hg (by rw [ow_size]) (fun j hj => ?_) ⟨o, by omega, by omega⟩⟩
  · rw [ow_lw l cur (o + x) (by omega)]
    have h7 : (lw cur.toList (o + x) l).drop o = lw (cur.toList.drop o) x l := by
      unfold lw
      rw [List.append_assoc, List.drop_append_of_le_length (by rw [List.length_take, Array.length_toList]; omega), List.drop_take, List.drop_drop, List.append_assoc, show o + x - o = x from by omega, show o + x + l.length = o + (x + l.length) from by omega]
    rw [h7, lw_take (by omega) (by rw [List.length_drop, Array.length_toList]; omega), h5]
  · rw [ow_get (by omega), if_neg (by omega)]
theorem op_storeSg {vs : Array Value} {m : Nat} {p : Addr} {x : Nat} (h : ldk P t = some (.agg m)) (hn : vs.size = m) (hm : 0 < m) (hr : Sg w e s g o n c xs) (hp : p = ⟨g, o + x, none⟩) (ho : x + m ≤ n * s) (h1 : ∀ u ∈ vs, u.oneCell' = true)
    (hK : ∀ w', CFrm (fun b j => b = g ∧ o ≤ j ∧ j < o + c * s) w w' → w'.heap.size = w.heap.size → Sg w' e s g o n c (lw xs x vs.toList) → K undef w') : (nice P).op (.store t (.pointer (some p)) (.agg vs)) w K Kp := by
  subst hp
  obtain ⟨cs, h2, h3, h4, h5, h6, h7⟩ := id hr
  have hnc : n * s ≤ c * s := Nat.mul_le_mul_right _ h4
  rw [op_stn h]
  obtain ⟨k1, k2⟩ := hr.write (l := vs.toList) h2 (by rw [Array.length_toList, hn]; exact ho) (by rw [Array.length_toList, hn]; exact hm)
  exact ⟨hn, fun u hu => h1 u (by simpa using hu), cs, e, h2, rfl, by show o + x + m ≤ cs.size; omega, hK _ k2 (by simp) k1⟩
theorem op_copyIn {dT sT ty : TypeId} {a1 a2 : Addr} {x1 x2 dl dc sl sc m : Nat} (hc : (sliceOf P dT).map (·.2) = some s) (hs0 : 0 < s) (hr : Sg w e s g o n c xs) (h1 : a1 = partAt g o c x1 s) (h2 : a2 = partAt g o c x2 s) (hn : m = min sl dl)
    (hd : x1 + m ≤ n) (hs : x2 + m ≤ n) (ho : ∀ v ∈ xs, v.oneCell' = true)
    (hK : ∀ w', CFrm (fun b j => b = g ∧ o ≤ j ∧ j < o + c * s) w w' → w'.heap.size = w.heap.size → Sg w' e s g o n c (lw xs (x1 * s) ((xs.drop (x2 * s)).take (m * s))) → K (.int .i64 m) w') :
    (nice P).op (.blt .copy [dT, sT] ty [.slice (some a1) dl dc, .slice (some a2) sl sc]) w K Kp := by
  cases hq : sliceOf P dT with
  | none => simp [hq] at hc
  | some es =>
    obtain ⟨el, s'⟩ := es
    have : s' = s := by simpa [hq] using hc
    subst this
    obtain ⟨hu, hs'⟩ := slice_spec hq
    obtain ⟨cs, k2, k3, k4, k5, k6, k7⟩ := id hr
    have hnc : n * s' ≤ c * s' := Nat.mul_le_mul_right _ k4
    have e1 : x1 * s' + m * s' ≤ n * s' := by rw [← Nat.add_mul]; exact Nat.mul_le_mul_right _ hd
    have e2 : x2 * s' + m * s' ≤ n * s' := by rw [← Nat.add_mul]; exact Nat.mul_le_mul_right _ hs
    by_cases hm : m = 0
    · subst hm
      obtain ⟨o1, p1, q1⟩ : ∃ o1, partAt g o c x1 s' = ⟨g, o1, none⟩ ∧ o1 ≤ cs.size := by
        unfold partAt; split
        · exact ⟨o, rfl, by omega⟩
        · exact ⟨_, rfl, by omega⟩
      obtain ⟨o2, p2, q2⟩ : ∃ o2, partAt g o c x2 s' = ⟨g, o2, none⟩ ∧ o2 ≤ cs.size := by
        unfold partAt; split
        · exact ⟨o, rfl, by omega⟩
        · exact ⟨_, rfl, by omega⟩
      rw [h1, h2, p1, p2]
      refine op_copyN (n := 0) hu hs' k2 k2 hn (by omega) (by omega) (fun v hv => by simp at hv) ?_
      have hid : w.upd g (.cells (ow cs o1 ((cs.toList.drop o2).take (0 * s'))) e (0, 0)) = w := by
        rw [Nat.zero_mul, List.take_zero]; exact upd_id k2
      rw [hid]
      have := hK w CFrm.refl rfl (by rw [Nat.zero_mul, List.take_zero, lw_nil]; exact hr)
      exact this
    · have hm0 : 0 < m * s' := Nat.mul_pos (by omega) hs0
      have hx1 : partAt g o c x1 s' = ⟨g, o + x1 * s', none⟩ := by unfold partAt; rw [if_neg (by omega)]
      have hx2 : partAt g o c x2 s' = ⟨g, o + x2 * s', none⟩ := by unfold partAt; rw [if_neg (by omega)]
      rw [h1, h2, hx1, hx2]
      have hseg : (cs.toList.drop (o + x2 * s')).take (m * s') = (xs.drop (x2 * s')).take (m * s') := by
        rw [← k6, List.drop_take, List.take_take, List.drop_drop]; congr 1; omega
      have hlen : ((xs.drop (x2 * s')).take (m * s')).length = m * s' := by rw [List.length_take, List.length_drop]; omega
      refine op_copyN hu hs' k2 k2 hn (by omega) (by omega) (fun v hv => ?_) ?_
      · rw [hseg] at hv; exact ho v (List.mem_of_mem_drop (List.mem_of_mem_take hv))
      · rw [hseg]
        obtain ⟨q1, q2⟩ := hr.write (l := (xs.drop (x2 * s')).take (m * s')) (x := x1 * s') k2 (by omega) (by omega)
        exact hK _ q2 (by simp) q1
theorem ins_place {A z v : List Value} {r q : Nat} (h : r ≤ A.length) (hz : z.length = q) (hv : v.length = q) : lw (lw (A ++ z) (r + q) (((A ++ z).drop r).take (A.length - r))) r v = A.take r ++ (v ++ A.drop r) := by
  have e1 : ((A ++ z).drop r).take (A.length - r) = A.drop r := by
    rw [List.drop_append_of_le_length h, List.take_append_of_le_length (by rw [List.length_drop]; exact Nat.le_refl _), List.take_of_length_le (by rw [List.length_drop]; exact Nat.le_refl _)]
  rw [e1]
  have hd : ((A ++ z).drop (r + q + (A.drop r).length)) = [] := List.drop_of_length_le (by rw [List.length_append, List.length_drop]; omega)
  have e2 : lw (A ++ z) (r + q) (A.drop r) = (A ++ z).take (r + q) ++ A.drop r := by
    unfold lw
    rw [hd, List.append_nil]
  rw [e2]
  have hl : ((A ++ z).take (r + q)).length = r + q := by rw [List.length_take, List.length_append]; omega
  have h0 : ((A ++ z).take (r + q)).take r = A.take r := by rw [List.take_take, Nat.min_eq_left (by omega), List.take_append_of_le_length h]
  generalize (A ++ z).take (r + q) = B at *
  unfold lw
  rw [List.take_append_of_le_length (by omega), h0, hv, ← hl, List.drop_left, List.append_assoc]
theorem op_growSg {bytes m c2 : Nat} {ty : TypeId} {p : Addr} {news : List Value} (ha : apOf P t = some (e, s, bytes)) (hr : Sg w e s g o n c xs) (hw : Row w (some p) news) (hm : news.length = m * s) (hm0 : 0 < m) (h1 : ∀ u ∈ news, u.oneCell' = true) (hx : ∀ u ∈ xs, u.oneCell' = true)
    (h63 : (n + m) * (bytes + 1) ≤ 140737488355328)
    (hK : ∀ w' g' o' c', CFrm (fun b j => b = g ∧ o ≤ j ∧ j < o + c * s) w w' → Sg w' e s g' o' (n + m) c' (xs ++ news) → (g' = g ∧ o' = o ∧ c' = c ∨ w.heap.size ≤ g') → w.heap.size ≤ w'.heap.size → K (.slice (some ⟨g', o', none⟩) (n + m) c') w') :
    (nice P).op (.blt .append [t, t] ty [.slice (some ⟨g, o, none⟩) n c, .slice (some p) m c2]) w K Kp := by
  obtain ⟨i, z, ht, hi, hz, hsize, hby, hzs, hsz⟩ := apOf_spec ha
  subst hsize hby
  have hb1 : (n + m) * i.bytes ≤ 140737488355328 := Nat.le_trans (Nat.mul_le_mul_left _ (by omega)) h63
  have hb2 : n + m ≤ 140737488355328 := Nat.le_trans (Nat.le_mul_of_pos_right _ (by omega)) h63
  have h63' : n + m ≤ maxLen := by unfold maxLen; omega
  show outOf P _ w K Kp
  have hcells : ∀ j u, news[j]? = some u → w.cell? (p.add j) = some u := fun j u hu => by
    rcases hw with rfl | ⟨b, o, cs, e', fz, h1, h2, h3⟩
    · simp at hu
    · obtain rfl := Option.some.inj h1
      rw [add_spot rfl, World.cell?, h2]
      exact h3 j u hu
  obtain ⟨cs, k2, k3, k4, k5, k6, k7⟩ := id hr
  have hnc : n * i.size ≤ c * i.size := Nat.mul_le_mul_right _ k4
  by_cases hroom : n + m ≤ c
  · have hmul : (n + m) * i.size ≤ c * i.size := Nat.mul_le_mul_right _ hroom
    rw [Nat.add_mul] at hmul
    have hf := run_firstCells_some (P := P) w i.size m p m c2 news hm hcells
    have hst := run_storeCells (P := P) news (w := w) (p := ⟨g, o + n * i.size, none⟩) 0 k2 rfl (by show o + n * i.size + 0 + news.length ≤ cs.size; omega) h1
    have hrun : (Builtin.append_ #[t, t] ty #[.slice (some ⟨g, o, none⟩) n c, .slice (some p) m c2]).run P w = .ok (.slice (some ⟨g, o, none⟩) (n + m) c) (w.upd g (.cells (ow cs (o + n * i.size) news) e (0, 0))) := by
      have hadd : (⟨g, o, none⟩ : Addr).add (n * i.size) = ⟨g, o + n * i.size, none⟩ := add_spot rfl _
      simp [Builtin.append_, run_underlying ht, sizeOf, typeInfo, hi, Builtin.lenOf, hroom, hf, hadd, hst, storeCells]
    refine out_ok hrun (hK _ g o c ?_ ?_ (.inl ⟨rfl, rfl, rfl⟩) (by simp))
    · refine (CFrm.one (I := fun j => o ≤ j ∧ j < o + c * i.size) (Frm.upd _ _ fun _ => rfl) k2 (heap_upd_same k2) (by rw [ow_size]) (fun j hj => ?_) ⟨o, by omega, ?_⟩)
      · rw [ow_get (by omega), if_neg (by omega)]
      · have : 0 < m * i.size := Nat.mul_pos hm0 hsz
        omega
    · refine ⟨_, heap_upd_same k2, by rw [List.length_append, k3, hm, Nat.add_mul], hroom, by rw [ow_size]; exact k5, ?_, k7⟩
      rw [ow_lw news cs (o + n * i.size) (by omega)]
      have : (lw cs.toList (o + n * i.size) news).drop o = (cs.toList.drop o).take (n * i.size) ++ (news ++ cs.toList.drop (o + n * i.size + news.length)) := by
        unfold lw
        rw [List.append_assoc, List.drop_append_of_le_length (by rw [List.length_take, Array.length_toList]; omega), List.drop_take, show o + n * i.size - o = n * i.size from by omega]
      rw [this, k6, ← List.append_assoc, List.take_append_of_le_length (by rw [List.length_append, k3, hm, Nat.add_mul]; exact Nat.le_refl _), List.take_of_length_le (by rw [List.length_append, k3, hm, Nat.add_mul]; exact Nat.le_refl _)]
  · have holds : ∀ j u, xs[j]? = some u → w.cell? ((⟨g, o, none⟩ : Addr).add j) = some u := fun j u hu => by
      obtain ⟨cs', q1, q2, q3⟩ := hr.cells
      rw [add_spot rfl, World.cell?, q1]
      show cs'[o + j]? = some u
      rw [q3 j (List.getElem?_eq_some_iff.1 hu).1]; exact hu
    have hrun := run_append_grow (P := P) w t ty e i z ht hi hz ⟨g, o, none⟩ n c xs k3 holds p m c2 news hm hcells (by omega) (by omega) (growslice_fits (by omega) hb1)
    have hge := grownCap_ge w (n + m) c e
    refine out_ok hrun (hK _ w.heap.size 0 (grownCap w (n + m) c e) (CFrm.of ((Frm.drew w).no (Frm.alloc _ _))) ?_ (.inr (Nat.le_refl _)) (by simp))
    refine ⟨_, heap_alloc_new w.drew _, by rw [List.length_append, k3, hm, Nat.add_mul], hge, ?_, ?_, grownCap_le_maxLen w (n + m) c e h63'⟩
    · simp only [Array.size_append, List.size_toArray, size_zeroCells, hzs, k3, hm, ← Nat.add_mul]
      rw [Nat.zero_add]
      exact Nat.mul_le_mul_right _ (by omega)
    · simp only [Array.toList_append, List.append_assoc, List.drop_zero]
      rw [← List.append_assoc, show (n + m) * i.size = (xs ++ news).length from by rw [List.length_append, k3, hm, Nat.add_mul]]
      exact List.take_left
end Go.Vc
end
section
namespace Go.Proofs.YtodjijfblgnfmaaGreatDoor.I
open Go.Vc Go.Proofs Go.Proofs.YtodjijfblgnfmaaGreatDoor Go.Vc.Bt
variable {w w' : World} {v : Value} {t : Tr} {K : KV} {Kp : KP} {rb : Nat} {b g o c h : Nat} {es : List (Ky × Vl)}
abbrev Foot := Nat → Nat → Prop
def own1 (b g o c s : Nat) : Foot := fun y j => y = b ∨ y = g ∧ o ≤ j ∧ j < o + c * s
abbrev Nd := Tr × Value × Foot
def Disj (F G : Foot) : Prop := ∀ b j, F b j → ¬ G b j
theorem Disj.symm {F G : Foot} (h : Disj F G) : Disj G F := fun b j hg hf => h b j hf hg
def vals (N : List Nd) : List (Tr × Value) := N.map fun p => (p.1, p.2.1)
def RepC (w : World) : Nat → Tr → Value → Foot → Prop
  | 0, .leaf es, v, F => ∃ b g o c, v = .iface 220 (ptr b) ∧ w.heap[b]? = some (.cells #[.slice (some ⟨g, o, none⟩) es.length c] 226 (0, 0)) ∧ Sg w 223 2 g o es.length c (ents es) ∧ F = own1 b g o c 2
  | h + 1, .br ks, v, F => ∃ b g o c, ∃ N : List Nd, v = .iface 279 (ptr b) ∧ w.heap[b]? = some (.cells #[.slice (some ⟨g, o, none⟩) N.length c] 284 (0, 0)) ∧ ks = N.map (·.1) ∧ Sg w 286 2 g o N.length c (els h (vals N)) ∧
      (∀ p ∈ N, RepC w h p.1 p.2.1 p.2.2) ∧ N.Pairwise (fun a b => Disj a.2.2 b.2.2) ∧ (∀ p ∈ N, Disj (own1 b g o c 2) p.2.2) ∧ F = fun y j => own1 b g o c 2 y j ∨ ∃ p ∈ N, p.2.2 y j
  | _, _, _, _ => False
def Own (w : World) (h : Nat) (N : List Nd) : Prop := (∀ p ∈ N, RepC w h p.1 p.2.1 p.2.2) ∧ N.Pairwise fun a b => Disj a.2.2 b.2.2
theorem RepC.cframe {M : Foot} : ∀ {h : Nat} {t : Tr} {v : Value} {F : Foot}, RepC w h t v F → CFrm M w w' → Disj F M → RepC w' h t v F
  | 0, .leaf es, v, F, hr, hf, hM => by
    obtain ⟨b, g, o, c, h1, h2, h3, rfl⟩ := hr
    exact ⟨b, g, o, c, h1, hf.get h2 fun j => hM b j (.inl rfl), h3.cframe hf fun j h h' => hM g j (.inr ⟨rfl, h, h'⟩), rfl⟩
  | h + 1, .br ks, v, F, hr, hf, hM => by
    obtain ⟨b, g, o, c, N, h1, h2, h3, h4, h5, h6, h7, rfl⟩ := hr
    exact ⟨b, g, o, c, N, h1, hf.get h2 fun j => hM b j (.inl (.inl rfl)), h3, h4.cframe hf fun j h h' => hM g j (.inl (.inr ⟨rfl, h, h'⟩)), fun p hp => (h5 p hp).cframe hf fun y j hy => hM y j (.inr ⟨p, hp, hy⟩), h6, h7, rfl⟩
  | 0, .br ks, v, F, hr, hf, hM => hr.elim
  | h + 1, .leaf es, v, F, hr, hf, hM => hr.elim
theorem RepC.still {F : Foot} (hr : RepC w h t v F) (hf : Frm (fun _ => False) w w') : RepC w' h t v F := hr.cframe (CFrm.of (M := fun _ _ => False) hf) fun _ _ _ h => h
theorem Own.cframe {M : Foot} {N : List Nd} (hr : Own w h N) (hf : CFrm M w w') (hM : ∀ p ∈ N, Disj p.2.2 M) : Own w' h N := ⟨fun p hp => (hr.1 p hp).cframe hf (hM p hp), hr.2⟩
theorem Own.still {N : List Nd} (hr : Own w h N) (hf : Frm (fun _ => False) w w') : Own w' h N := hr.cframe (CFrm.of (M := fun _ _ => False) hf) fun _ _ _ _ _ h => h
theorem RepC.rep : ∀ {h : Nat} {t : Tr} {v : Value} {F : Foot}, RepC w h t v F → Rep w h t v
  | 0, .leaf es, v, F, hr => by
    obtain ⟨b, g, o, c, h1, h2, h3, _⟩ := hr
    exact ⟨b, g, o, c, h1, h2, h3⟩
  | h + 1, .br ks, v, F, hr => by
    obtain ⟨b, g, o, c, N, h1, h2, h3, h4, h5, _⟩ := hr
    have e : ks.length = N.length := by rw [h3, List.length_map]
    refine ⟨b, g, o, c, vals N, h1, by rw [e]; exact h2, by rw [h3]; simp [vals], by rw [e]; exact h4, fun p hp => ?_⟩
    obtain ⟨q, hq, rfl⟩ := List.mem_map.1 hp
    exact (h5 q hq).rep
  | 0, .br ks, v, F, hr => hr.elim
  | h + 1, .leaf es, v, F, hr => hr.elim
theorem RepC.low : ∀ {h : Nat} {t : Tr} {v : Value} {F : Foot}, RepC w h t v F → ∀ y j, F y j → y < w.heap.size
  | 0, .leaf es, v, F, hr, y, j, hy => by
    obtain ⟨b, g, o, c, h1, h2, h3, rfl⟩ := hr
    rcases hy with rfl | ⟨rfl, _⟩
    · exact lt_of_get h2
    · exact h3.lt
  | h + 1, .br ks, v, F, hr, y, j, hy => by
    obtain ⟨b, g, o, c, N, h1, h2, h3, h4, h5, h6, h7, rfl⟩ := hr
    rcases hy with (rfl | ⟨rfl, _⟩) | ⟨p, hp, hy⟩
    · exact lt_of_get h2
    · exact h4.lt
    · exact (h5 p hp).low y j hy
  | 0, .br ks, v, F, hr, y, j, hy => hr.elim
  | h + 1, .leaf es, v, F, hr, y, j, hy => hr.elim
theorem RepC.ty : ∀ {h : Nat} {t : Tr} {v : Value} {F : Foot}, RepC w h t v F → ∀ y j, F y j → ∃ cs e, w.heap[y]? = some (.cells cs e (0, 0)) ∧ (e = 226 ∨ e = 223 ∨ e = 284 ∨ e = 286)
  | 0, .leaf es, v, F, hr, y, j, hy => by
    obtain ⟨b, g, o, c, h1, h2, ⟨cs, h3, _⟩, rfl⟩ := hr
    rcases hy with rfl | ⟨rfl, _⟩
    · exact ⟨_, _, h2, .inl rfl⟩
    · exact ⟨_, _, h3, .inr (.inl rfl)⟩
  | h + 1, .br ks, v, F, hr, y, j, hy => by
    obtain ⟨b, g, o, c, N, h1, h2, h3, ⟨cs, h4, _⟩, h5, h6, h7, rfl⟩ := hr
    rcases hy with (rfl | ⟨rfl, _⟩) | ⟨p, hp, hy⟩
    · exact ⟨_, _, h2, .inr (.inr (.inl rfl))⟩
    · exact ⟨_, _, h4, .inr (.inr (.inr rfl))⟩
    · exact (h5 p hp).ty y j hy
  | 0, .br ks, v, F, hr, y, j, hy => hr.elim
  | h + 1, .leaf es, v, F, hr, y, j, hy => hr.elim
theorem flag.cfrm {b b' : Bool} (h : flag w rb b) (hf : Frm (· = rb) w w') (h' : flag w' rb b') : CFrm (fun y _ => y = rb) w w' :=
  (CFrm.one (I := fun _ => True) hf h h' rfl (fun j hj => absurd trivial hj) ⟨0, trivial⟩).mono fun b j h _ => h.1
theorem RepC.flag {F : Foot} {b : Bool} (h1 : RepC w h t v F) (h2 : flag w rb b) : ∀ j, ¬ F rb j := fun j hj => by
  obtain ⟨cs, e, h3, h4⟩ := h1.ty rb j hj
  unfold I.flag at h2
  rw [h2] at h3
  cases h3
  rcases h4 with h | h | h | h <;> cases h
theorem zero_ent : ∃ z : List Value, z.length = 2 ∧ (∀ u ∈ z, u.oneCell' = true) ∧ sliceLit Tryz.prog 224 1 [(0, .agg z.toArray)] = some (223, z.toArray) ∧ ∀ {w : World} {K : KV} {Kp : KP}, nP.op (.build 223 []) w K Kp = K (.agg z.toArray) w :=
  ⟨[zk, zv], rfl, fun u hu => by simp only [List.mem_cons, List.not_mem_nil, or_false] at hu; rcases hu with rfl | rfl <;> rfl, lit_224_1, op_build_223_⟩
end Go.Proofs.YtodjijfblgnfmaaGreatDoor.I
end
section
namespace Go.Proofs.YtodjijfblgnfmaaGreatDoor.I
open Go.Vc Go.Proofs Go.Proofs.YtodjijfblgnfmaaGreatDoor Go.Vc.Bt
variable {w w' : World} {v cv : Value} {K : KV} {Kp : KP} {lt : Ky → Ky → Bool} {k : Ky} {x : Vl} {rb : Nat} {r0 : Bool} {b g o c h : Nat} {es : List (Ky × Vl)} {F : Foot}
theorem leafSetM_ok (hC : IsC cv lt) (hr : RepC w 0 (.leaf es) v F) (hw : WF 0 (.leaf es)) (hs : Sd lt es) (hfl : flag w rb r0)
    (hK : ∀ w' N, CFrm (fun y j => F y j ∨ y = rb) w w' → flag w' rb (r0 || !has lt es k) → Own w' 0 N → N.map (·.1) = (split (Bt.put lt es k x)).map .leaf → (∀ p ∈ N, ∀ y j, p.2.2 y j → F y j ∨ w.heap.size ≤ y) → K (two (N.map (·.2.1))) w') :
    nP.call (.inv v "pub-bracken/pub/immutable.set") [ek k, ev x, cv, .bool true, .pointer (some ⟨rb, 0, none⟩)] w K Kp := by
  obtain ⟨h1, h2⟩ : es ≠ [] ∧ es.length ≤ 32 := hw
  have hrb := hr.flag hfl
  have hlow := hr.low
  obtain ⟨b, g, o, c, rfl, hb, hg, hF⟩ := hr
  have hFb : ∀ j, F b j := fun j => by rw [hF]; exact .inl rfl
  have hFg : ∀ j, o ≤ j → j < o + c * 2 → F g j := fun j h h' => by rw [hF]; exact .inr ⟨rfl, h, h'⟩
  simp only [inv_220_249]
  refine vc249_calls ?_
  delta vc249
  simp only [call_247]
  refine leafIdx_ok hC hs (by omega) hb hg fun w1 f1 => ?_
  have hb1 := f1.get hb fun h => h
  have hg1 := hg.still f1
  have hfl1 := hfl.frame f1 fun h => h
  have hp := place_le (lt := lt) es k
  obtain ⟨J, hJ⟩ : ∃ J : KV, ∀ e wl, J e wl ↔ e = .bool (has lt es k) ∧ Frm (fun _ => False) w wl := ⟨_, fun _ _ => Iff.rfl⟩
  refine Jn.intro J ⟨?_, ?_⟩
  · simp [-getElem?_pos, -Array.getElem?_eq_getElem, -Int.natCast_add, -op_st_224, -op_build_223_, -pur_build_223_, -op_lit_224_1, ptr, hb1]
    refine ⟨fun hlt => ?_, fun hge => (hJ _ _).2 ⟨?_, Frm.no f1 (Frm.drew _)⟩⟩
    · have hlt' : place lt es k < es.length := by omega
      obtain ⟨cur, hcur, hk⟩ := leafKey hg1
      have hki := hk _ hlt'
      simp [-getElem?_pos, -Array.getElem?_eq_getElem, -Int.natCast_add, -op_st_224, -op_build_223_, -pur_build_223_, -op_lit_224_1, hcur, hki, hC.nilC]
      refine ⟨hlt', hC.cmp fun w2 f2 => ?_⟩
      simp [-getElem?_pos, -Array.getElem?_eq_getElem, -Int.natCast_add, -op_st_224, -op_build_223_, -pur_build_223_, -op_lit_224_1]
      refine (hJ _ _).2 ⟨?_, Frm.no f1 (Frm.dr f2)⟩
      have hz : Bt.cmp lt es[place lt es k].1 k = 0 ↔ es[place lt es k].1 = k := cmp_zero hC.lin
      unfold has
      rw [List.getElem?_eq_getElem hlt']
      simp [hz]
    · unfold has
      rw [List.getElem?_eq_none (by omega)]
  intro w3 junk j hj
  obtain ⟨rfl, f3⟩ := (hJ _ _).1 hj
  have hb3 := f3.get hb fun h => h
  have hg3 := hg.still f3
  have hfl3 := hfl.frame f3 fun h => h
  have n3 := f3.size
  clear hb1 hg1 hfl1 f1 hj hJ J
  have hpl := put_len (lt := lt) (L := es) (k := k) (v := x)
  have hel := ents_len es
  -- the row with a place for the key
  obtain ⟨J, hJ⟩ : ∃ J : World → Prop, ∀ wl, J wl ↔ ∃ g' o' c' xs, CFrm (fun y j => F y j ∨ y = rb) w wl ∧ flag wl rb (r0 || !has lt es k) ∧ wl.heap[b]? = some (.cells #[.slice (some ⟨g', o', none⟩) (Bt.put lt es k x).length c'] 226 (0, 0)) ∧ Sg wl 223 2 g' o' (Bt.put lt es k x).length c' xs ∧
      (g' = g ∧ o' = o ∧ c' = c ∨ w.heap.size ≤ g') ∧ g' ≠ rb ∧ lw xs (place lt es k * 2) (ent (k, x)) = ents (Bt.put lt es k x) ∧ place lt es k < (Bt.put lt es k x).length := ⟨_, fun _ => Iff.rfl⟩
  simp only [Br_true]
  refine Jn.intro J ⟨?_, ?_⟩
  · cases hh : has lt es k with
    | true =>
      have hlt := has_lt hh
      rw [hh] at hpl
      have hpl : (Bt.put lt es k x).length = es.length := by rw [hpl]; rfl
      simp [-getElem?_pos, -Array.getElem?_eq_getElem, -Int.natCast_add, -op_st_224, -op_build_223_, -pur_build_223_, -op_lit_224_1]
      refine (hJ _).2 ⟨g, o, c, ents es, CFrm.of f3, by rw [hh]; simpa using hfl3, by rw [hpl]; exact hb3, by rw [hpl]; exact hg3, .inl ⟨rfl, rfl, rfl⟩, fun e => ?_, ?_, by omega⟩
      · obtain ⟨cs, e1, _⟩ := hg3
        exact hfl3.typed e1 (by decide) e
      · unfold Bt.put; rw [hh]; exact (fm_set ent_len hlt).symm
    | false =>
      rw [hh] at hpl
      have hpl : (Bt.put lt es k x).length = es.length + 1 := by rw [hpl]; rfl
      have hpe : ents (Bt.put lt es k x) = (ents es).take (place lt es k * 2) ++ (ent (k, x) ++ (ents es).drop (place lt es k * 2)) := by
        unfold Bt.put; rw [hh]; exact fm_ins ent_len
      have hpm : place lt es k * 2 ≤ es.length * 2 := Nat.mul_le_mul_right _ hp
      obtain ⟨z, hz1, hz2, hz3, hz4⟩ := zero_ent
      simp [-getElem?_pos, -Array.getElem?_eq_getElem, -Int.natCast_add, -op_st_224, -op_build_223_, -pur_build_223_, -op_lit_224_1]
      refine raise_ok hfl3 fun w4 k4 z4 fl4 => ?_
      have c4 : CFrm (fun y j => F y j ∨ y = rb) w w4 := CFrm.fst f3 ((hfl3.cfrm k4 fl4).mono fun _ _ h _ => .inr h)
      have hb4 := k4.get hb3 (hfl3.typed hb3 (by decide))
      have hg4 := Sg.past hg3 hfl3 (by decide) k4
      simp [-getElem?_pos, -Array.getElem?_eq_getElem, -Int.natCast_add, -op_st_224, -op_build_223_, -pur_build_223_, -op_lit_224_1, ptr, hb4, hz4]
      refine op_lit_ok hz3 fun w5 k5 z5 b5 => ?_
      have hb5 := k5.get hb4 fun h => h
      have hg5 := hg4.still k5
      have fl5 := fl4.frame k5 fun h => h
      have c5 := c4.no k5
      have n5 := c5.size
      have hcg := hg5.le
      refine op_growSg (m := 1) apE hg5 (.inr ⟨_, 0, _, _, _, rfl, b5, fun j v hj => by simpa using hj⟩) (by rw [Nat.one_mul]; exact hz1) (by decide) hz2 ents_one (by omega) fun w6 g' o' c' k6 hg6 hgg n6 => ?_
      have c6 : CFrm (fun y j => F y j ∨ y = rb) w w6 := c5.old k6 fun y j hy => .inl (.inl (by obtain ⟨rfl, h⟩ := hy; exact hFg j h.1 h.2))
      have hnb : b ≠ g := fun e => by
        obtain ⟨cs, e1, _⟩ := hg3
        rw [← e, hb3] at e1; cases e1
      have hnr : rb ≠ g := fun e => by
        obtain ⟨cs, e1, _⟩ := hg3
        exact hfl3.typed e1 (by decide) e.symm
      have hb6 := k6.get hb5 fun j hj => hnb hj.1
      have fl6 : flag w6 rb true := k6.get fl5 fun j hj => hnr hj.1
      have hrb6 := hfl.below
      have hlg : g' ≠ rb := by rcases hgg with h | h; rw [h.1]; exact fun e => hnr e.symm; omega
      have hlb : g' ≠ b := by
        have := lt_of_get hb
        rcases hgg with h | h
        · rw [h.1]; exact fun e => hnb e.symm
        · omega
      have ew1 : IntKind.i64.wrap ((place lt es k : Int) + 1) = ((place lt es k + 1 : Nat) : Int) := by rw [IntKind.wrap_i64]; omega
      try simp [-getElem?_pos, -Array.getElem?_eq_getElem, -Int.natCast_add, -op_st_224, -op_build_223_, -pur_build_223_, -op_lit_224_1]
      refine op_store_ok (by kernel_rfl) hb6 (by simp) rfl fun w7 k7 z7 b7 => ?_
      have b7 : w7.heap[b]? = some (.cells #[.slice (some ⟨g', o', none⟩) (es.length + 1) c'] 226 (0, 0)) := by simpa using b7
      have hg7 := hg6.frame k7 hlb
      have c7 : CFrm (fun y j => F y j ∨ y = rb) w w7 := c6.trans (CFrm.one (I := fun _ => True) k7 hb6 b7 rfl (fun j hj => absurd trivial hj) ⟨0, trivial⟩) fun y j hy _ => .inl (by rw [hy.1]; exact hFb j)
      have fl7 : flag w7 rb true := k7.get fl6 fun e => hfl3.typed hb3 (by decide) e.symm
      simp [-getElem?_pos, -Array.getElem?_eq_getElem, -Int.natCast_add, -op_st_224, -op_build_223_, -pur_build_223_, -op_lit_224_1, b7, ew1]
      have hc7 := hg7.le
      refine ⟨by omega, by omega, by omega, by omega, ?_⟩
      refine op_copyIn (m := es.length - place lt es k) (x1 := place lt es k + 1) (x2 := place lt es k) (by kernel_rfl) (by decide) (hg7.still (Frm.drew _)) rfl rfl (by omega) (by omega) (by omega) (fun u hu => (List.mem_append.1 hu).elim (ents_one u) (hz2 u)) fun w8 k8 z8 hg8 => ?_
      have c78 : CFrm (fun y j => y = g' ∧ o' ≤ j ∧ j < o' + c' * 2) w7 w8 := CFrm.fst (Frm.drew w7) k8
      have hgF : ∀ y j, (y = g' ∧ o' ≤ j ∧ j < o' + c' * 2) → (F y j ∨ y = rb) ∨ w.heap.size ≤ y := fun y j ⟨e1, e2, e3⟩ => by
        subst e1
        rcases hgg with ⟨rfl, rfl, rfl⟩ | h
        · exact .inl (.inl (hFg j e2 e3))
        · exact .inr (by omega)
      refine (hJ _).2 ⟨g', o', c', lw (ents es ++ z) ((place lt es k + 1) * 2) (((ents es ++ z).drop (place lt es k * 2)).take ((es.length - place lt es k) * 2)), c7.old c78 hgF, by rw [hh, Bool.not_false, Bool.or_true]; exact c78.get fl7 fun j hj => hlg hj.1.symm, ?_, ?_, ?_, hlg, ?_, by omega⟩
      · rw [hpl]; exact c78.get b7 fun j hj => hlb hj.1.symm
      · rw [hpl]; exact hg8
      · rcases hgg with h | h
        · exact .inl h
        · exact .inr (by omega)
      · rw [hpe]
        have e1 : (place lt es k + 1) * 2 = place lt es k * 2 + 2 := by rw [Nat.succ_mul]
        have e2 : (es.length - place lt es k) * 2 = (ents es).length - place lt es k * 2 := by rw [hel, Nat.sub_mul]
        rw [e1, e2]
        exact ins_place (by omega) hz1 (ent_len _)
  intro w9 junk hj
  obtain ⟨g', o', c', xs, c9, fl9, b9, hg9, hgg, hgr, hxs, hpp⟩ := (hJ _).1 hj
  clear hj hJ J hg3 hb3 hfl3 f3
  have h33 : (Bt.put lt es k x).length ≤ 33 := by rw [put_len]; split <;> omega
  have hgb : g' ≠ b := fun e => by
    obtain ⟨cs, e1, _⟩ := hg9
    rw [e, b9] at e1; cases e1
  have hgF : ∀ y j, (y = g' ∧ o' ≤ j ∧ j < o' + c' * 2) → (F y j ∨ y = rb) ∨ w.heap.size ≤ y := fun y j ⟨e1, e2, e3⟩ => by
    subst e1
    rcases hgg with ⟨rfl, rfl, rfl⟩ | h
    · exact .inl (.inl (hFg j e2 e3))
    · exact .inr h
  have hwb := lt_of_get hb
  have hxl := hg9.len
  generalize hpq : place lt es k = p at *
  generalize hfq : (r0 || !has lt es k) = fq at *
  generalize Bt.put lt es k x = es' at *
  have hpm : (p + 1) * 2 ≤ es'.length * 2 := Nat.mul_le_mul_right _ hpp
  rw [Nat.succ_mul] at hpm
  simp [-getElem?_pos, -Array.getElem?_eq_getElem, -Int.natCast_add, -op_st_224, -op_build_223_, -pur_build_223_, -op_lit_224_1, ptr, b9]
  refine ⟨by omega, op_storeSg (n := es'.length) (m := 2) (by kernel_rfl) rfl (by decide) hg9 rfl hpm (fun u hu => by simp only [List.mem_toArray, List.mem_cons, List.not_mem_nil, or_false] at hu; rcases hu with rfl | rfl <;> rfl) fun w10 k10 z10 hg10 => ?_⟩
  have b10 := k10.get b9 fun j hj => hgb hj.1.symm
  have fl10 : flag w10 rb fq := k10.get fl9 fun j hj => hgr hj.1.symm
  have c10 := c9.old k10 hgF
  have hg10 : Sg w10 223 2 g' o' es'.length c' (ents es') := by rw [← hxs]; exact hg10
  have hcc := hg10.le
  clear hg9 b9 fl9 k10 c9
  have n10 := c10.size
  have hlg' := hg10.lt
  simp [-getElem?_pos, -Array.getElem?_eq_getElem, -Int.natCast_add, -op_st_224, -op_build_223_, -pur_build_223_, -op_lit_224_1, ptr, b10]
  refine ⟨fun hgt => ?_, fun hle => ?_⟩
  · have e33 : es'.length = 33 := by omega
    rw [split_two e33] at hK
    rw [e33] at hg10 b10
    have e16 : IntKind.i64.wrap (((33 : Nat) : Int).tdiv 2) = 16 := by rw [IntKind.wrap_i64]; rfl
    have a1 := Sg.mx (i := 16) hg10 (by omega)
    have a2 := Sg.lo (i := 16) hg10 (by omega)
    have e16' : IntKind.i64.wrap 16 = 16 := by rw [IntKind.wrap_i64]; rfl
    simp [-getElem?_pos, -Array.getElem?_eq_getElem, -Int.natCast_add, -op_st_224, -op_build_223_, -pur_build_223_, -op_lit_224_1, ptr, b10, e33, e16, e16']
    refine ⟨by omega, ?_⟩
    refine op_box_ok fun w11 k11 z11 b11 => ?_
    have hb11 := k11.get b10 fun h => h
    simp [-getElem?_pos, -Array.getElem?_eq_getElem, -Int.natCast_add, -op_st_224, -op_build_223_, -pur_build_223_, -op_lit_224_1, hb11, e33, e16, e16']
    refine ⟨by omega, ?_⟩
    refine op_box_ok fun w12 k12 z12 b12 => ?_
    try simp [-getElem?_pos, -Array.getElem?_eq_getElem, -Int.natCast_add, -op_st_224, -op_build_223_, -pur_build_223_, -op_lit_224_1]
    have c11 := k12.get b11 fun h => h
    have f12 := k11.no k12
    have q1 : Sg w12 223 2 g' o' 16 16 (ents (es'.take 16)) := by rw [ents_take]; exact a1.still f12
    have q2 : Sg w12 223 2 g' (o' + 16 * 2) 17 (c' - 16) (ents (es'.drop 16)) := by rw [ents_drop]; exact a2.still f12
    have n11 := k11.size
    have l1 : (es'.take 16).length = 16 := by rw [List.length_take]; omega
    have l2 : (es'.drop 16).length = 17 := by rw [List.length_drop]; omega
    have hc16 : 16 * 2 + (c' - 16) * 2 = c' * 2 := by rw [← Nat.add_mul]; congr 1; omega
    refine hK w12 [(.leaf (es'.take 16), .iface 220 (ptr w10.heap.size), own1 w10.heap.size g' o' 16 2), (.leaf (es'.drop 16), .iface 220 (ptr w11.heap.size), own1 w11.heap.size g' (o' + 16 * 2) (c' - 16) 2)] (c10.no f12) (fl10.frame f12 fun h => h) ⟨fun p hp => ?_, ?_⟩ rfl fun p hp y j hy => ?_
    · simp only [List.mem_cons, List.not_mem_nil, or_false] at hp
      rcases hp with rfl | rfl
      · exact ⟨_, g', o', 16, rfl, by rw [l1]; simpa [cells_agg, e33] using c11, by rw [l1]; exact q1, rfl⟩
      · exact ⟨_, g', o' + 16 * 2, c' - 16, rfl, by rw [l2]; simpa [cells_agg, e33, show ¬ c' = 16 from by omega] using b12, by rw [l2]; exact q2, rfl⟩
    · simp only [List.pairwise_cons, List.mem_cons, List.not_mem_nil, or_false, forall_eq, false_imp_iff, implies_true, and_true, List.Pairwise.nil]
      rintro y j (rfl | ⟨rfl, h1, h2⟩) (h | ⟨h, h3, h4⟩)
      · omega
      · omega
      · omega
      · omega
    · simp only [List.mem_cons, List.not_mem_nil, or_false] at hp
      have key : (y = g' ∧ o' ≤ j ∧ j < o' + c' * 2) → F y j ∨ w.heap.size ≤ y := fun hy => by
        rcases hgF y j hy with (h | h) | h
        · exact .inl h
        · exact absurd (hy.1.symm.trans h) hgr
        · exact .inr h
      rcases hp with rfl | rfl
      · rcases hy with rfl | ⟨e1, e2, e3⟩
        · exact .inr n10
        · exact key ⟨e1, e2, by omega⟩
      · rcases hy with rfl | ⟨e1, e2, e3⟩
        · exact .inr (by omega)
        · exact key ⟨e1, by omega, by omega⟩
  · rw [split_one (by omega)] at hK
    refine hK w10 [(.leaf es', .iface 220 (ptr b), own1 b g' o' c' 2)] c10 fl10 ⟨fun p hp => ?_, List.pairwise_singleton _ _⟩ rfl fun p hp y j hy => ?_
    · rw [List.mem_singleton.1 hp]
      exact ⟨b, g', o', c', rfl, b10, hg10, rfl⟩
    · rw [List.mem_singleton.1 hp] at hy
      rcases hy with rfl | hy
      · exact .inl (hFb j)
      · rcases hgF y j hy with (h | h) | h
        · exact .inl h
        · exact absurd (hy.1.symm.trans h) hgr
        · exact .inr h
end Go.Proofs.YtodjijfblgnfmaaGreatDoor.I
end
section
namespace Go.Proofs.YtodjijfblgnfmaaGreatDoor.I
open Go.Vc Go.Proofs Go.Proofs.YtodjijfblgnfmaaGreatDoor Go.Vc.Bt
variable {w w' : World} {v : Value} {K : KV} {Kp : KP} {rb : Nat} {b g o c h i : Nat} {F : Foot} {N N2 : List Nd}
theorem mem_put {p : Nd} (hp : p ∈ N.take i ++ N2 ++ N.drop (i + 1)) (hi : i < N.length) : p ∈ N2 ∨ p ∈ N := by
  rcases List.mem_append.1 hp with hp | hp
  · rcases List.mem_append.1 hp with hp | hp
    · exact .inr (List.mem_of_mem_take hp)
    · exact .inl hp
  · exact .inr (List.mem_of_mem_drop hp)
theorem pw_apart (hpw : N.Pairwise fun a b => Disj a.2.2 b.2.2) (hi : i < N.length) : (∀ p ∈ N.take i, Disj p.2.2 N[i].2.2) ∧ (∀ p ∈ N.drop (i + 1), Disj p.2.2 N[i].2.2) ∧ (N.take i ++ N.drop (i + 1)).Pairwise fun a b => Disj a.2.2 b.2.2 := by
  have e : N = N.take i ++ N[i] :: N.drop (i + 1) := by rw [← List.drop_eq_getElem_cons hi, List.take_append_drop]
  rw [e] at hpw
  obtain ⟨h1, h2, h3⟩ := List.pairwise_append.1 hpw
  obtain ⟨h4, h5⟩ := List.pairwise_cons.1 h2
  exact ⟨fun p hp => h3 p hp _ List.mem_cons_self, fun p hp => (h4 p hp).symm, List.pairwise_append.2 ⟨h1, h5, fun a ha b hb => h3 a ha b (List.mem_cons_of_mem _ hb)⟩⟩
theorem own_put (hi : i < N.length) (hO : Own w h N) (h2 : Own w' h N2) (hf : CFrm (fun y j => N[i].2.2 y j ∨ y = rb) w w') (hrb : ∀ p ∈ N, ∀ j, ¬ p.2.2 rb j) (hsub : ∀ q ∈ N2, ∀ y j, q.2.2 y j → N[i].2.2 y j ∨ w.heap.size ≤ y) : Own w' h (N.take i ++ N2 ++ N.drop (i + 1)) := by
  obtain ⟨a1, a2, a3⟩ := pw_apart hO.2 hi
  have hap : ∀ p ∈ N, Disj p.2.2 N[i].2.2 → ∀ q ∈ N2, Disj p.2.2 q.2.2 := fun p hp hd q hq y j hy hz => by
    rcases hsub q hq y j hz with h | h
    · exact hd y j hy h
    · have := (hO.1 p hp).low y j hy; omega
  have hst : ∀ p ∈ N, Disj p.2.2 N[i].2.2 → RepC w' h p.1 p.2.1 p.2.2 := fun p hp hd => (hO.1 p hp).cframe hf fun y j hy hz => by
    rcases hz with h | rfl
    · exact hd y j hy h
    · exact hrb p hp j hy
  refine ⟨fun p hp => ?_, ?_⟩
  · rcases List.mem_append.1 hp with hp | hp
    · rcases List.mem_append.1 hp with hp | hp
      · exact hst p (List.mem_of_mem_take hp) (a1 p hp)
      · exact h2.1 p hp
    · exact hst p (List.mem_of_mem_drop hp) (a2 p hp)
  · obtain ⟨b1, b2, b3⟩ := List.pairwise_append.1 a3
    refine List.pairwise_append.2 ⟨List.pairwise_append.2 ⟨b1, h2.2, fun a ha q hq => hap a (List.mem_of_mem_take ha) (a1 a ha) q hq⟩, b2, fun a ha q hq => ?_⟩
    rcases List.mem_append.1 ha with ha | ha
    · exact b3 a ha q hq
    · exact (hap q (List.mem_of_mem_drop hq) (a2 q hq) a ha).symm
theorem vals_put : vals (N.take i ++ N2 ++ N.drop (i + 1)) = (vals N).take i ++ vals N2 ++ (vals N).drop (i + 1) := by simp [vals, List.map_take, List.map_drop]
theorem vals_len : (vals N).length = N.length := by simp [vals]
theorem zero_el : ∃ z : List Value, z.length = 2 ∧ (∀ u ∈ z, u.oneCell' = true) ∧ sliceLit Tryz.prog 282 1 [(0, .agg z.toArray)] = some (286, z.toArray) ∧ ∀ {w : World} {K : KV} {Kp : KP}, nP.op (.build 286 []) w K Kp = K (.agg z.toArray) w :=
  ⟨[zk, .nilIface], rfl, fun u hu => by simp only [List.mem_cons, List.not_mem_nil, or_false] at hu; rcases hu with rfl | rfl <;> rfl, lit_282_1, op_build_286_⟩
theorem ins_place2 {A z v : List Value} {r q : Nat} (h : r + q ≤ A.length) (hz : z.length = q) (hv : v.length = q) : lw (lw (A ++ z) (r + q) (((A ++ z).drop r).take (A.length - r))) (r + q) v = A.take (r + q) ++ (v ++ A.drop (r + q)) := by
  have e1 : ((A ++ z).drop r).take (A.length - r) = A.drop r := by
    rw [List.drop_append_of_le_length (by omega), List.take_append_of_le_length (by rw [List.length_drop]; exact Nat.le_refl _), List.take_of_length_le (by rw [List.length_drop]; exact Nat.le_refl _)]
  rw [e1]
  have hd : ((A ++ z).drop (r + q + (A.drop r).length)) = [] := List.drop_of_length_le (by rw [List.length_append, List.length_drop]; omega)
  have e2 : lw (A ++ z) (r + q) (A.drop r) = A.take (r + q) ++ A.drop r := by
    unfold lw
    rw [hd, List.append_nil, List.take_append_of_le_length h]
  rw [e2]
  have hl : (A.take (r + q)).length = r + q := by rw [List.length_take]; omega
  have h0 : (A.drop r).drop q = A.drop (r + q) := List.drop_drop
  generalize A.take (r + q) = B at *
  unfold lw
  rw [List.take_append_of_le_length (by omega), List.take_of_length_le (by omega), hv, List.drop_append, List.drop_of_length_le (by omega), List.nil_append, show r + q + q - B.length = q from by omega, h0, List.append_assoc]
theorem Own.one (hr : Own w h N) (hl : N.length = 1) : ∃ s n f, N = [(s, n, f)] ∧ RepC w h s n f := by
  match N, hl with
  | [(s, n, f)], _ => exact ⟨s, n, f, rfl, hr.1 _ (List.mem_singleton.2 rfl)⟩
theorem Own.pair (hr : Own w h N) (hl : N.length = 2) : ∃ s n f s2 n2 f2, N = [(s, n, f), (s2, n2, f2)] ∧ RepC w h s n f ∧ RepC w h s2 n2 f2 := by
  match N, hl with
  | [(s, n, f), (s2, n2, f2)], _ => exact ⟨s, n, f, s2, n2, f2, rfl, hr.1 (s, n, f) (by simp), hr.1 (s2, n2, f2) (by simp)⟩
def MadeM (w0 w : World) (F : Foot) (rb : Nat) (h b : Nat) (new : List Tr) : Prop := ∃ g o c, ∃ N : List Nd, CFrm (fun y j => F y j ∨ y = rb) w0 w ∧ w.heap[b]? = some (.cells #[.slice (some ⟨g, o, none⟩) N.length c] 284 (0, 0)) ∧ N.map (·.1) = new ∧ Sg w 286 2 g o N.length c (els h (vals N)) ∧ Own w h N ∧ (∀ p ∈ N, Disj (own1 b g o c 2) p.2.2) ∧
  (∀ y j, own1 b g o c 2 y j → F y j ∨ w0.heap.size ≤ y) ∧ (∀ p ∈ N, ∀ y j, p.2.2 y j → F y j ∨ w0.heap.size ≤ y) ∧ g ≠ rb ∧ b ≠ g
end Go.Proofs.YtodjijfblgnfmaaGreatDoor.I
end
section
namespace Go.Proofs.YtodjijfblgnfmaaGreatDoor.I
open Go.Vc Go.Proofs Go.Proofs.YtodjijfblgnfmaaGreatDoor Go.Vc.Bt
variable {w w' : World} {v cv : Value} {t : Tr} {K : KV} {Kp : KP} {lt : Ky → Ky → Bool} {k : Ky} {x : Vl} {rb : Nat} {r0 : Bool} {b g o c h i : Nat} {ks : List Tr} {F : Foot} {N N2 : List Nd}
theorem els_oneM (hO : Own w h N) : ∀ u ∈ els h (vals N), u.oneCell' = true := els_one (w := w) fun p hp => by
  obtain ⟨q, hq, rfl⟩ := List.mem_map.1 hp
  exact (hO.1 q hq).rep
theorem brSetM_ok (hC : IsC cv lt) (hr : RepC w (h + 1) (.br ks) v F) (hw : WF (h + 1) (.br ks)) (hs : Sd lt (toL (h + 1) (.br ks))) (hfl : flag w rb r0)
    (ih : ∀ {t : Tr} {v : Value} {F : Foot} {w : World} {K : KV} {Kp : KP}, RepC w h t v F → WF h t → Sd lt (toL h t) → flag w rb r0 →
      (∀ w' N, CFrm (fun y j => F y j ∨ y = rb) w w' → flag w' rb (r0 || !has lt (toL h t) k) → Own w' h N → N.map (·.1) = setT lt h t k x → (∀ p ∈ N, ∀ y j, p.2.2 y j → F y j ∨ w.heap.size ≤ y) → K (two (N.map (·.2.1))) w') →
      nP.call (.inv v "pub-bracken/pub/immutable.set") [ek k, ev x, cv, .bool true, .pointer (some ⟨rb, 0, none⟩)] w K Kp)
    (hK : ∀ w' N, CFrm (fun y j => F y j ∨ y = rb) w w' → flag w' rb (r0 || !has lt (toL (h + 1) (.br ks)) k) → Own w' (h + 1) N → N.map (·.1) = setT lt (h + 1) (.br ks) k x → (∀ p ∈ N, ∀ y j, p.2.2 y j → F y j ∨ w.heap.size ≤ y) → K (two (N.map (·.2.1))) w') :
    nP.call (.inv v "pub-bracken/pub/immutable.set") [ek k, ev x, cv, .bool true, .pointer (some ⟨rb, 0, none⟩)] w K Kp := by
  obtain ⟨h1, h2, h3⟩ : ks ≠ [] ∧ ks.length ≤ 32 ∧ ∀ t ∈ ks, WF h t := id hw
  have hrb := hr.flag hfl
  have hlow := hr.low
  obtain ⟨b, g, o, c, N, rfl, hb, hks, hg, hN, hpw, hdj, hF⟩ := hr
  have hFo : ∀ y j, own1 b g o c 2 y j → F y j := fun y j h => by rw [hF]; exact .inl h
  have hFb : ∀ j, F b j := fun j => hFo b j (.inl rfl)
  have hFg : ∀ j, o ≤ j → j < o + c * 2 → F g j := fun j h h' => hFo g j (.inr ⟨rfl, h, h'⟩)
  have hFN : ∀ p ∈ N, ∀ y j, p.2.2 y j → F y j := fun p hp y j h => by rw [hF]; exact .inr ⟨p, hp, h⟩
  have hl : N.length = ks.length := by rw [hks, List.length_map]
  have hps : ks = (vals N).map (·.1) := by rw [hks]; simp [vals]
  rw [← vals_len] at hb hg
  simp only [inv_279_261]
  refine vc261_calls ?_
  delta vc261
  simp only [call_259]
  refine brIdx_ok hC hw hs hps hb hg fun w1 f1 => ?_
  have hi := kid_lt (lt := lt) (h := h) (k := k) h1
  have hA := kid_ahead hC.lin hw hs k
  have hB := kid_behind hC.lin hw hs k
  have hsp := toL_split (h := h) hi
  rw [setT_succ hi] at hK
  generalize kid lt h ks k = i at *
  have hs2 : Sd lt (toL h ks[i]) := by
    rw [hsp] at hs
    exact (List.pairwise_append.1 (List.pairwise_append.1 hs).2.1).1
  rw [hsp, has_mid hC.lin hA hB] at hK
  have hiN : i < N.length := by omega
  have hip : i < (vals N).length := by rw [vals_len]; exact hiN
  have hb1 := f1.get hb fun h => h
  have hg1 := hg.still f1
  have hfl1 := hfl.frame f1 fun h => h
  obtain ⟨cur, hcur, hk⟩ := elCells hg1
  have hki := (hk i hip).2
  have hvi : (vals N)[i] = (N[i].1, N[i].2.1) := by simp [vals]
  rw [hvi] at hki
  have hpi : N[i].1 = ks[i] := by simp [hks]
  have hmem : N[i] ∈ N := List.getElem_mem hiN
  have hO1 : Own w1 h N := Own.still ⟨hN, hpw⟩ f1
  have hr' := hO1.1 _ hmem
  rw [hpi] at hr'
  obtain ⟨g1, g2, g3, g4⟩ := setT_spec hC.lin h ks[i] k x (h3 _ (List.getElem_mem hi)) hs2
  simp [-getElem?_pos, -Array.getElem?_eq_getElem, -Int.natCast_add, -op_build_286_, -pur_build_286_, -op_lit_282_1, ptr, hb1, hcur, hki]
  refine ⟨by rw [vals_len]; exact hiN, ih hr' (h3 _ (List.getElem_mem hi)) hs2 hfl1 fun w2 N2 f2 fl2 hO2 hN2 hsub => ?_⟩
  have n1 := f1.size
  have hO3 := own_put hiN hO1 hO2 f2 (fun p hp j hj => hrb j (hFN p hp _ _ hj)) hsub
  have c2 : CFrm (fun y j => F y j ∨ y = rb) w w2 := CFrm.fst f1 (f2.mono fun y j hy _ => hy.imp (hFN _ hmem y j) id)
  have hnrb : b ≠ rb := hfl.typed hb (by decide)
  have hown2 : ∀ y j, own1 b g o c 2 y j → ¬ (N[i].2.2 y j ∨ y = rb) := fun y j hy hz => by
    rcases hz with hz | rfl
    · exact hdj _ hmem y j hy hz
    · exact hrb j (hFo _ j hy)
  have hb2 := f2.get hb1 fun j => hown2 b j (.inl rfl)
  have hg2 := hg1.cframe f2 fun j h h' => hown2 g j (.inr ⟨rfl, h, h'⟩)
  have hgr : g ≠ rb := fun e => by
    obtain ⟨cs, e1, _⟩ := hg1
    exact hfl1.typed e1 (by decide) e
  have hbg : b ≠ g := fun e => by
    obtain ⟨cs, e1, _⟩ := hg1
    rw [← e, hb1] at e1; cases e1
  have hdj3 : ∀ p ∈ N.take i ++ N2 ++ N.drop (i + 1), ∀ y j, (own1 b g o c 2 y j ∨ y = rb) → ¬ p.2.2 y j := fun p hp y j hy hz => by
    rcases mem_put hp hiN with hp | hp
    · rcases hsub p hp y j hz with h | h
      · rcases hy with hy | rfl
        · exact hdj _ hmem y j hy h
        · exact hrb j (hFN _ hmem _ _ h)
      · rcases hy with hy | rfl
        · have := hlow y j (hFo y j hy); omega
        · have := hfl.below; omega
    · rcases hy with hy | rfl
      · exact hdj p hp y j hy hz
      · exact hrb j (hFN p hp _ _ hz)
  have hft3 : ∀ p ∈ N.take i ++ N2 ++ N.drop (i + 1), ∀ y j, p.2.2 y j → F y j ∨ w.heap.size ≤ y := fun p hp y j hy => by
    rcases mem_put hp hiN with hp | hp
    · exact (hsub p hp y j hy).imp (hFN _ hmem y j) fun h => by omega
    · exact .inl (hFN p hp y j hy)
  have hel := els_len h (vals N)
  have hxN := els_oneM hO1
  have hf2b := hfl.below
  generalize hfq : (r0 || !has lt (toL h ks[i]) k) = fl at *
  generalize hlq : setT lt h ks[i] k x = l at *
  have hl12 : l.length = 1 ∨ l.length = 2 := by have := List.length_pos_iff.2 g4; omega
  have hnl : N2.length = l.length := by rw [← hN2, List.length_map]
  have hks' : (N.take i ++ N2 ++ N.drop (i + 1)).map (·.1) = ks.take i ++ l ++ ks.drop (i + 1) := by rw [hks]; simp [List.map_take, List.map_drop, hN2]
  obtain ⟨J, hJ⟩ : ∃ J : World → Prop, ∀ wl, J wl ↔ MadeM w wl F rb h b (ks.take i ++ l ++ ks.drop (i + 1)) ∧ flag wl rb fl := ⟨_, fun _ => Iff.rfl⟩
  have hgF : ∀ {g' o' c' : Nat}, (g' = g ∧ o' = o ∧ c' = c ∨ w.heap.size ≤ g') → ∀ y j, own1 b g' o' c' 2 y j → F y j ∨ w.heap.size ≤ y := fun {g' o' c'} hgg y j hy => by
    rcases hy with rfl | ⟨rfl, e2, e3⟩
    · exact .inl (hFb j)
    · rcases hgg with ⟨rfl, rfl, rfl⟩ | h
      · exact .inl (hFg j e2 e3)
      · exact .inr h
  rw [vals_len] at hb2 hg2
  obtain ⟨s, un, pn, f, y, htwo, hn, hy⟩ : ∃ s un pn f y, two (N2.map (·.2.1)) = .tuple #[.iface un pn, y] ∧ (s, Value.iface un pn, f) ∈ N2 ∧ (y = .nilIface ∧ N2 = [(s, .iface un pn, f)] ∨ ∃ s2 u2 p2 f2, y = .iface u2 p2 ∧ N2 = [(s, .iface un pn, f), (s2, .iface u2 p2, f2)]) := by
    rcases hl12 with hl1 | hl1
    · obtain ⟨s, n, f, rfl, hn⟩ := hO2.one (by omega)
      obtain ⟨un, pn, rfl⟩ := hn.rep.iface
      exact ⟨s, un, pn, f, _, rfl, by simp, .inl ⟨rfl, rfl⟩⟩
    · obtain ⟨s, n, f, s2, n2, f2, rfl, hn, hn2⟩ := hO2.pair (by omega)
      obtain ⟨un, pn, rfl⟩ := hn.rep.iface
      obtain ⟨u2, p2, rfl⟩ := hn2.rep.iface
      exact ⟨s, un, pn, f, _, rfl, by simp, .inr ⟨s2, u2, p2, f2, rfl, rfl⟩⟩
  have hns : (RepC w2 h s (.iface un pn) f) := hO2.1 _ hn
  have hsl : s ∈ l := by rw [← hN2]; exact List.mem_map.2 ⟨_, hn, rfl⟩
  rw [htwo]
  simp [-getElem?_pos, -Array.getElem?_eq_getElem, -Int.natCast_add, -op_build_286_, -pur_build_286_, -op_lit_282_1, hb2]
  refine minKey_ok ((hns.rep).still (Frm.drew _)) (g2 s hsl) fun w3 m k3 hm => ?_
  have k3 := Frm.dr k3
  have hb3 := k3.get hb2 fun h => h
  have hg3 := hg2.still k3
  have fl3 := fl2.frame k3 fun h => h
  simp [-getElem?_pos, -Array.getElem?_eq_getElem, -Int.natCast_add, -op_build_286_, -pur_build_286_, -op_lit_282_1, hb3]
  refine ⟨hiN, op_storeSg (n := N.length) (m := 2) (by kernel_rfl) rfl (by decide) hg3 rfl (by omega) (fun u hu => by simp only [List.mem_toArray, List.mem_cons, List.not_mem_nil, or_false] at hu; rcases hu with rfl | rfl <;> rfl) fun w4 k4 z4 hg4 => ?_⟩
  have hb4 := k4.get hb3 fun j h => hbg h.1
  have fl4 : flag w4 rb fl := k4.get fl3 fun j h => hgr h.1.symm
  have c4 : CFrm (fun y j => F y j ∨ y = rb) w w4 := (c2.no k3).trans k4 fun y j hy _ => .inl (by obtain ⟨rfl, h⟩ := hy; exact hFg j h.1 h.2)
  have hO4 : Own w4 h (N.take i ++ N2 ++ N.drop (i + 1)) := (hO3.still k3).cframe k4 fun p hp y j hy hz => hdj3 p hp y j (.inl (.inr hz)) hy
  have hrow : lw (els h (vals N)) (i * 2) [ek m, .iface un pn] = els h ((vals N).set i (s, .iface un pn)) := by rw [← el_of hm]; exact (fm_set (el_len h) hip).symm
  have hg4 : Sg w4 286 2 g o N.length c (els h ((vals N).set i (s, .iface un pn))) := by rw [← hrow]; exact hg4
  have n4 := c4.size
  clear hrow hg3 hb3 fl3 hO3 hg2 hb2 fl2 c2 hO2 hr' hO1 hfl1 hg1 hb1
  refine Jn.intro J ⟨?_, fun wl hj => ?_⟩
  · rcases hy with ⟨rfl, rfl⟩ | ⟨s2, u2, p2, f2', rfl, rfl⟩
    · try simp [-getElem?_pos, -Array.getElem?_eq_getElem, -Int.natCast_add, -op_build_286_, -pur_build_286_, -op_lit_282_1]
      have hlen : (N.take i ++ [(s, Value.iface un pn, f)] ++ N.drop (i + 1)).length = N.length := by simp; omega
      refine (hJ _).2 ⟨⟨g, o, c, N.take i ++ [(s, Value.iface un pn, f)] ++ N.drop (i + 1), c4, by rw [hlen]; exact hb4, hks', ?_, hO4, fun p hp y j hy => hdj3 p hp y j (.inl hy), hgF (.inl ⟨rfl, rfl, rfl⟩), hft3, hgr, hbg⟩, fl4⟩
      rw [hlen, vals_put]
      have : (vals N).take i ++ vals [(s, Value.iface un pn, f)] ++ (vals N).drop (i + 1) = (vals N).set i (s, .iface un pn) := by
        rw [List.set_eq_take_append_cons_drop, if_pos hip]; simp [vals]
      rw [this]; exact hg4
    · obtain ⟨z, hz1, hz2, hz3, hz4⟩ := zero_el
      have ew1 : IntKind.i64.wrap ((i : Int) + 1) = ((i + 1 : Nat) : Int) := by rw [IntKind.wrap_i64]; omega
      have hRl : (els h ((vals N).set i (s, Value.iface un pn))).length = N.length * 2 := by rw [els_len, List.length_set, vals_len]
      have hR1 : ∀ u ∈ els h ((vals N).set i (s, Value.iface un pn)), u.oneCell' = true := fun u hu => by
        obtain ⟨p, hp, hu⟩ := List.mem_flatMap.1 hu
        rcases List.mem_or_eq_of_mem_set hp with hp | rfl
        · exact hxN u (List.mem_flatMap.2 ⟨p, hp, hu⟩)
        · rw [el_of hm] at hu
          simp only [List.mem_cons, List.not_mem_nil, or_false] at hu
          rcases hu with rfl | rfl <;> rfl
      generalize hRq : els h ((vals N).set i (s, Value.iface un pn)) = R at *
      simp [-getElem?_pos, -Array.getElem?_eq_getElem, -Int.natCast_add, -op_build_286_, -pur_build_286_, -op_lit_282_1, hb4, hz4]
      refine op_lit_ok hz3 fun w5 k5 z5 b5 => ?_
      have hb5 := k5.get hb4 fun h => h
      have hg5 := hg4.still k5
      have fl5 := fl4.frame k5 fun h => h
      refine op_growSg (m := 1) apX hg5 (.inr ⟨_, 0, _, _, _, rfl, b5, fun j v hj => by simpa using hj⟩) (by rw [Nat.one_mul]; exact hz1) (by decide) hz2 hR1 (by omega) fun w6 g' o' c' k6 hg6 hgg n6 => ?_
      have n5 := k5.size
      have hb6 := k6.get hb5 fun j hj => hbg hj.1
      have fl6 : flag w6 rb fl := k6.get fl5 fun j hj => hgr hj.1.symm
      have hlb4 := lt_of_get hb4
      have hlr4 := fl4.below
      have hlg : g' ≠ rb := by rcases hgg with h | h; rw [h.1]; exact hgr; omega
      have hlb : b ≠ g' := by rcases hgg with h | h; rw [h.1]; exact hbg; omega
      try simp [-getElem?_pos, -Array.getElem?_eq_getElem, -Int.natCast_add, -op_build_286_, -pur_build_286_, -op_lit_282_1]
      refine op_store_ok (by kernel_rfl) hb6 (by simp) rfl fun w7 k7 z7 b7 => ?_
      have b7 : w7.heap[b]? = some (.cells #[.slice (some ⟨g', o', none⟩) (N.length + 1) c'] 284 (0, 0)) := by simpa using b7
      have hg7 := hg6.frame k7 fun e => hlb e.symm
      have fl7 : flag w7 rb fl := k7.get fl6 fun e => hnrb e.symm
      have hcc7 := hg7.le
      simp [-getElem?_pos, -Array.getElem?_eq_getElem, -Int.natCast_add, -op_build_286_, -pur_build_286_, -op_lit_282_1, b7, ew1]
      refine ⟨by omega, by omega, by omega, by omega, ?_⟩
      refine op_copyIn (m := N.length - i) (x1 := i + 1) (x2 := i) (by kernel_rfl) (by decide) (hg7.still (Frm.drew _)) rfl rfl (by omega) (by omega) (by omega) (fun u hu => (List.mem_append.1 hu).elim (hR1 u) (hz2 u)) fun w8 k8 z8 hg8 => ?_
      have k8 := CFrm.fst (Frm.drew w7) k8
      have b8 := k8.get b7 fun j hj => hlb hj.1
      have fl8 : flag w8 rb fl := k8.get fl7 fun j hj => hlg hj.1.symm
      have hreg : ∀ y j, (y = g' ∧ o' ≤ j ∧ j < o' + c' * 2) → own1 b g o c 2 y j ∨ w4.heap.size ≤ y := fun y j ⟨e1, e2, e3⟩ => by
        subst e1
        rcases hgg with ⟨rfl, rfl, rfl⟩ | h
        · exact .inl (.inr ⟨rfl, e2, e3⟩)
        · exact .inr (by omega)
      have c48 : CFrm (own1 b g o c 2) w4 w8 := (((CFrm.of (M := own1 b g o c 2) k5).old k6 fun y j hy => .inl (.inr hy)).trans (CFrm.one (I := fun _ => True) k7 hb6 b7 rfl (fun j hj => absurd trivial hj) ⟨0, trivial⟩) fun y j hy _ => .inl hy.1).old k8 hreg
      have hO8 := hO4.cframe c48 fun p hp y j hy hz => hdj3 p hp y j (.inl hz) hy
      have hn2 := hO8.1 (s2, .iface u2 p2, f2') (by simp)
      simp [-getElem?_pos, -Array.getElem?_eq_getElem, -Int.natCast_add, -op_build_286_, -pur_build_286_, -op_lit_282_1, b8, ew1]
      refine minKey_ok (hn2.rep.still (Frm.drew _)) (g2 s2 (by rw [← hN2]; simp)) fun w9 m2 k9 hm2 => ?_
      have k9 := Frm.dr k9
      have b9 := k9.get b8 fun h => h
      have fl9 := fl8.frame k9 fun h => h
      simp [-getElem?_pos, -Array.getElem?_eq_getElem, -Int.natCast_add, -op_build_286_, -pur_build_286_, -op_lit_282_1, b9, ew1]
      refine ⟨by omega, op_storeSg (n := N.length + 1) (m := 2) (by kernel_rfl) rfl (by decide) (hg8.still k9) rfl (by omega) (fun u hu => by simp only [List.mem_toArray, List.mem_cons, List.not_mem_nil, or_false] at hu; rcases hu with rfl | rfl <;> rfl) fun w10 k10 z10 hg10 => ?_⟩
      have n8 := c48.size
      have c410 : CFrm (own1 b g o c 2) w4 w10 := (c48.no k9).old k10 hreg
      have hlen : (N.take i ++ [(s, Value.iface un pn, f), (s2, Value.iface u2 p2, f2')] ++ N.drop (i + 1)).length = N.length + 1 := by simp; omega
      refine (hJ _).2 ⟨⟨g', o', c', N.take i ++ [(s, Value.iface un pn, f), (s2, Value.iface u2 p2, f2')] ++ N.drop (i + 1), c4.old c410 fun y j hy => .inl (.inl (hFo y j hy)), by rw [hlen]; exact k10.get b9 fun j hj => hlb hj.1, hks', ?_, hO4.cframe c410 fun p hp y j hy hz => hdj3 p hp y j (.inl hz) hy, fun p hp y j hy hz => ?_, hgF (hgg.imp id fun h => by omega), hft3, hlg, hlb⟩, k10.get fl9 fun j hj => hlg hj.1.symm⟩
      · rw [hlen, vals_put]
        have hA : lw (lw (R ++ z) ((i + 1) * 2) (((R ++ z).drop (i * 2)).take ((N.length - i) * 2))) ((i + 1) * 2) [ek m2, .iface u2 p2] = R.take ((i + 1) * 2) ++ ([ek m2, .iface u2 p2] ++ R.drop ((i + 1) * 2)) := by
          have e1 : (i + 1) * 2 = i * 2 + 2 := by omega
          have e2 : (N.length - i) * 2 = R.length - i * 2 := by omega
          rw [e1, e2]
          exact ins_place2 (by omega) hz1 rfl
        have hB : els h ((vals N).take i ++ vals [(s, Value.iface un pn, f), (s2, Value.iface u2 p2, f2')] ++ (vals N).drop (i + 1)) = R.take ((i + 1) * 2) ++ ([ek m2, .iface u2 p2] ++ R.drop ((i + 1) * 2)) := by
          rw [← hRq, ← els_take, ← els_drop, ← el_of hm2]
          have e1 : ((vals N).set i (s, Value.iface un pn)).take (i + 1) = (vals N).take i ++ [(s, .iface un pn)] := by
            rw [List.take_set, List.take_succ_eq_append_getElem hip, List.set_append_right _ _ (by rw [List.length_take]; omega)]
            rw [show i - ((vals N).take i).length = 0 from by rw [List.length_take]; omega]; rfl
          have e2 : ((vals N).set i (s, Value.iface un pn)).drop (i + 1) = (vals N).drop (i + 1) := by rw [List.drop_set_of_lt (by omega)]
          rw [e1, e2]
          simp [els, vals]
        rw [hB, ← hA]; exact hg10
      · rcases hy with rfl | hy
        · exact hdj3 p hp _ j (.inl (.inl rfl)) hz
        · rcases hreg y j hy with h | h
          · exact hdj3 p hp y j (.inl h) hz
          · have := (hO4.1 p hp).low y j hz; omega
  · obtain ⟨⟨g', o', c', N', c9, b9, hks9, hg9, hO9, hd9, hf9, hft9, hgr9, hbg9⟩, fl9⟩ := (hJ _).1 hj
    rw [← hks9] at hK
    have h33 : N'.length ≤ 33 := by
      have := congrArg List.length hks9
      simp only [List.length_map, List.length_append, List.length_take, List.length_drop] at this
      omega
    have hlg' := hg9.lt
    have hcc := hg9.le
    have n9 := c9.size
    clear hj hJ
    simp [-getElem?_pos, -Array.getElem?_eq_getElem, -Int.natCast_add, -op_build_286_, -pur_build_286_, -op_lit_282_1, ptr, b9]
    refine ⟨fun hgt => ?_, fun hle => ?_⟩
    · have e33 : N'.length = 33 := by omega
      rw [split_two (by rw [List.length_map]; exact e33)] at hK
      rw [e33] at hg9 b9
      have e16 : IntKind.i64.wrap (((33 : Nat) : Int).tdiv 2) = 16 := by rw [IntKind.wrap_i64]; rfl
      have e16' : IntKind.i64.wrap 16 = 16 := by rw [IntKind.wrap_i64]; rfl
      have a1 := Sg.mx (i := 16) hg9 (by omega)
      have a2 := Sg.lo (i := 16) hg9 (by omega)
      have hc16' : ¬ c' = 16 := by omega
      simp [-getElem?_pos, -Array.getElem?_eq_getElem, -Int.natCast_add, -op_build_286_, -pur_build_286_, -op_lit_282_1, b9, e33, e16, e16']
      refine ⟨by omega, ?_⟩
      refine op_box_ok fun w11 k11 z11 b11 => ?_
      have hb11 := k11.get b9 fun h => h
      simp [-getElem?_pos, -Array.getElem?_eq_getElem, -Int.natCast_add, -op_build_286_, -pur_build_286_, -op_lit_282_1, hb11, e33, e16, e16']
      refine ⟨by omega, ?_⟩
      refine op_box_ok fun w12 k12 z12 b12 => ?_
      try simp [-getElem?_pos, -Array.getElem?_eq_getElem, -Int.natCast_add, -op_build_286_, -pur_build_286_, -op_lit_282_1]
      have c11 := k12.get b11 fun h => h
      have f12 := k11.no k12
      have n11 := k11.size
      have hO12 := hO9.still f12
      have q1 : Sg w12 286 2 g' o' 16 16 (els h (vals (N'.take 16))) := by
        have := a1.still f12
        rw [← els_take] at this
        rw [show vals (N'.take 16) = (vals N').take 16 from by simp [vals, List.map_take]]; exact this
      have q2 : Sg w12 286 2 g' (o' + 16 * 2) 17 (c' - 16) (els h (vals (N'.drop 16))) := by
        have := a2.still f12
        rw [← els_drop] at this
        rw [show vals (N'.drop 16) = (vals N').drop 16 from by simp [vals, List.map_drop]]; exact this
      have l1 : (N'.take 16).length = 16 := by rw [List.length_take]; omega
      have l2 : (N'.drop 16).length = 17 := by rw [List.length_drop]; omega
      have hpw := List.pairwise_append.1 (show (N'.take 16 ++ N'.drop 16).Pairwise _ by rw [List.take_append_drop]; exact hO12.2)
      have hlow9 : ∀ p ∈ N', ∀ y j, p.2.2 y j → y < wl.heap.size := fun p hp => (hO9.1 p hp).low
      have hreg : ∀ y j, (y = g' ∧ o' ≤ j ∧ j < o' + c' * 2) → own1 b g' o' c' 2 y j := fun y j h => .inr h
      have hc16 : 16 * 2 + (c' - 16) * 2 = c' * 2 := by omega
      have ap : ∀ {nb o2 c2 : Nat}, wl.heap.size ≤ nb → o' ≤ o2 → o2 + c2 * 2 ≤ o' + c' * 2 → ∀ p ∈ N', Disj (own1 nb g' o2 c2 2) p.2.2 := fun {nb o2 c2} h1 h2 h3 p hp y j hy hz => by
        rcases hy with rfl | ⟨e1, e2, e3⟩
        · have := hlow9 p hp _ j hz; omega
        · exact hd9 p hp y j (hreg y j ⟨e1, by omega, by omega⟩) hz
      have ft : ∀ {nb o2 c2 : Nat}, wl.heap.size ≤ nb → o' ≤ o2 → o2 + c2 * 2 ≤ o' + c' * 2 → ∀ y j, own1 nb g' o2 c2 2 y j → F y j ∨ w.heap.size ≤ y := fun {nb o2 c2} h1 h2 h3 y j hy => by
        rcases hy with rfl | ⟨e1, e2, e3⟩
        · exact .inr (by omega)
        · exact hf9 y j (hreg y j ⟨e1, by omega, by omega⟩)
      refine hK w12 [(.br ((N'.take 16).map (·.1)), .iface 279 (ptr wl.heap.size), fun y j => own1 wl.heap.size g' o' 16 2 y j ∨ ∃ p ∈ N'.take 16, p.2.2 y j), (.br ((N'.drop 16).map (·.1)), .iface 279 (ptr w11.heap.size), fun y j => own1 w11.heap.size g' (o' + 16 * 2) (c' - 16) 2 y j ∨ ∃ p ∈ N'.drop 16, p.2.2 y j)] (c9.no f12) (fl9.frame f12 fun h => h) ⟨fun p hp => ?_, ?_⟩ (by simp [List.map_take, List.map_drop]) fun p hp y j hy => ?_
      · simp only [List.mem_cons, List.not_mem_nil, or_false] at hp
        rcases hp with rfl | rfl
        · exact ⟨_, g', o', 16, N'.take 16, rfl, by rw [l1]; simpa [cells_agg, e33] using c11, rfl, by rw [l1]; exact q1, fun p hp => hO12.1 p (List.mem_of_mem_take hp), hpw.1, fun p hp => ap (Nat.le_refl _) (Nat.le_refl _) (by omega) p (List.mem_of_mem_take hp), rfl⟩
        · exact ⟨_, g', o' + 16 * 2, c' - 16, N'.drop 16, rfl, by rw [l2]; simpa [cells_agg, e33, hc16'] using b12, rfl, by rw [l2]; exact q2, fun p hp => hO12.1 p (List.mem_of_mem_drop hp), hpw.2.1, fun p hp => ap n11 (by omega) (by omega) p (List.mem_of_mem_drop hp), rfl⟩
      · simp only [List.pairwise_cons, List.mem_cons, List.not_mem_nil, or_false, forall_eq, false_imp_iff, implies_true, and_true, List.Pairwise.nil]
        rintro y j (h1 | ⟨p, hp, h1⟩) (h2 | ⟨q, hq, h2⟩)
        · rcases h1 with rfl | ⟨rfl, h3, h4⟩
          · rcases h2 with h | ⟨h, _⟩ <;> omega
          · rcases h2 with h | ⟨_, h5, h6⟩ <;> omega
        · exact ap (Nat.le_refl _) (Nat.le_refl _) (by omega) q (List.mem_of_mem_drop hq) y j h1 h2
        · exact ap n11 (by omega) (by omega) p (List.mem_of_mem_take hp) y j h2 h1
        · exact hpw.2.2 p hp q hq y j h1 h2
      · simp only [List.mem_cons, List.not_mem_nil, or_false] at hp
        rcases hp with rfl | rfl
        · rcases hy with hy | ⟨q, hq, hy⟩
          · exact ft (Nat.le_refl _) (Nat.le_refl _) (by omega) y j hy
          · exact hft9 q (List.mem_of_mem_take hq) y j hy
        · rcases hy with hy | ⟨q, hq, hy⟩
          · exact ft n11 (by omega) (by omega) y j hy
          · exact hft9 q (List.mem_of_mem_drop hq) y j hy
    · rw [split_one (by rw [List.length_map]; omega)] at hK
      refine hK wl [(.br (N'.map (·.1)), .iface 279 (ptr b), fun y j => own1 b g' o' c' 2 y j ∨ ∃ p ∈ N', p.2.2 y j)] c9 fl9 ⟨fun p hp => ?_, List.pairwise_singleton _ _⟩ rfl fun p hp y j hy => ?_
      · rw [List.mem_singleton.1 hp]
        exact ⟨b, g', o', c', N', rfl, b9, rfl, hg9, hO9.1, hO9.2, hd9, rfl⟩
      · rw [List.mem_singleton.1 hp] at hy
        rcases hy with hy | ⟨q, hq, hy⟩
        · exact hf9 y j hy
        · exact hft9 q hq y j hy
theorem setM_ok (hC : IsC cv lt) : ∀ {h : Nat} {t : Tr} {v : Value} {F : Foot} {w : World} {K : KV} {Kp : KP}, RepC w h t v F → WF h t → Sd lt (toL h t) → flag w rb r0 →
      (∀ w' N, CFrm (fun y j => F y j ∨ y = rb) w w' → flag w' rb (r0 || !has lt (toL h t) k) → Own w' h N → N.map (·.1) = setT lt h t k x → (∀ p ∈ N, ∀ y j, p.2.2 y j → F y j ∨ w.heap.size ≤ y) → K (two (N.map (·.2.1))) w') →
      nP.call (.inv v "pub-bracken/pub/immutable.set") [ek k, ev x, cv, .bool true, .pointer (some ⟨rb, 0, none⟩)] w K Kp
  | 0, t, v, F, w, K, Kp, hr, hw, hs, hfl, hK => by
    obtain ⟨es, rfl, h1, h2⟩ := wf_zero.1 hw
    exact leafSetM_ok hC hr hw hs hfl hK
  | h + 1, t, v, F, w, K, Kp, hr, hw, hs, hfl, hK => by
    obtain ⟨ks, rfl, h1, h2, h3⟩ := wf_succ.1 hw
    exact brSetM_ok hC hr hw hs hfl (fun hr' hw' hs' hfl' hK' => setM_ok hC hr' hw' hs' hfl' hK') hK
end Go.Proofs.YtodjijfblgnfmaaGreatDoor.I
end
section
namespace Go.Proofs.YtodjijfblgnfmaaGreatDoor.I
open Go.Vc Go.Proofs Go.Proofs.YtodjijfblgnfmaaGreatDoor Go.Vc.Bt
variable {w w' : World} {v cv : Value} {t : Tr} {K : KV} {Kp : KP} {lt : Ky → Ky → Bool} {k : Ky} {x : Vl} {rb n : Nat} {r0 : Bool} {b c h : Nat} {r : Root Ky Vl} {F : Foot}
def RepRC (w : World) : Root Ky Vl → Value → Foot → Prop
  | none, v, F => v = .nilIface ∧ F = fun _ _ => False
  | some (h, t), v, F => RepC w h t v F
theorem RepRC.cframe {M : Foot} (h : RepRC w r v F) (hf : CFrm M w w') (hM : Disj F M) : RepRC w' r v F := by
  match r, h with
  | none, h => exact h
  | some (h, t), hr => exact RepC.cframe hr hf hM
theorem RepRC.rep (h : RepRC w r v F) : RepR w r v := by
  match r, h with
  | none, h => exact h.1
  | some (h, t), hr => exact RepC.rep hr
theorem RepRC.ty (h : RepRC w r v F) : ∀ y j, F y j → ∃ cs e, w.heap[y]? = some (.cells cs e (0, 0)) ∧ (e = 226 ∨ e = 223 ∨ e = 284 ∨ e = 286) := by
  match r, h with
  | none, h => intro y j hy; rw [h.2] at hy; exact hy.elim
  | some (h, t), hr => exact RepC.ty hr
theorem RepRC.low (h : RepRC w r v F) : ∀ y j, F y j → y < w.heap.size := fun y j hy => by obtain ⟨cs, e, h1, _⟩ := h.ty y j hy; exact lt_of_get h1
theorem RepRC.not {c : Nat} {cs : Array Value} {e : TypeId} {fz : Nat × Nat} (h : RepRC w r v F) (hc : w.heap[c]? = some (.cells cs e fz)) (he : e ≠ 226 ∧ e ≠ 223 ∧ e ≠ 284 ∧ e ≠ 286) : ∀ j, ¬ F c j := fun j hj => by
  obtain ⟨cs', e', h1, h2⟩ := h.ty c j hj
  rw [hc] at h1
  cases h1
  rcases h2 with rfl | rfl | rfl | rfl
  · exact he.1 rfl
  · exact he.2.1 rfl
  · exact he.2.2.1 rfl
  · exact he.2.2.2 rfl
def RepMC (w : World) (b : Nat) (lt : Ky → Ky → Bool) (r : Root Ky Vl) (F : Foot) : Prop := ∃ rv cv, w.heap[b]? = some (.cells #[.int .i64 (rL r).length, rv, cv] 210 (0, 0)) ∧ RepRC w r rv F ∧ CmpOk cv lt r
theorem RepMC.rep (h : RepMC w b lt r F) : RepM w b lt r := by
  obtain ⟨rv, cv, h1, h2, h3⟩ := h
  exact ⟨rv, cv, h1, h2.rep, h3⟩
theorem RepMC.cframe {M : Foot} (h : RepMC w b lt r F) (hf : CFrm M w w') (hM : Disj F M) (hb : ∀ j, ¬ M b j) : RepMC w' b lt r F := by
  obtain ⟨rv, cv, h1, h2, h3⟩ := h
  exact ⟨rv, cv, hf.get h1 hb, h2.cframe hf hM, h3⟩
theorem cell_frm {cs cs' : Array Value} {e : TypeId} (hf : Frm (· = c) w w') (h1 : w.heap[c]? = some (.cells cs e (0, 0))) (h2 : w'.heap[c]? = some (.cells cs' e (0, 0))) (hs : cs'.size = cs.size) : CFrm (fun y _ => y = c) w w' :=
  (CFrm.one (I := fun _ => True) hf h1 h2 hs (fun j hj => absurd trivial hj) ⟨0, trivial⟩).mono fun b j h _ => h.1
theorem mapSetM_ok (hl : Lin lt) (hm : RepMC w b lt r F) (hok : Ok lt n r) (hn : (rL r).length < 2 ^ 60)
    (hK : ∀ w' F', CFrm (fun y j => F y j ∨ y = b) w w' → RepMC w' b lt (some (setR lt r k x)) F' → (∀ y j, F' y j → F y j ∨ w.heap.size ≤ y) → K (ptr b) w') : Calls Tryz.prog 146 #[ptr b, ek k, ev x, .bool true] w (ret K Kp) := by
  refine vc146_calls ?_
  delta vc146
  obtain ⟨rv, cv, h1, h2, h3⟩ := hm
  have hsz := put_len (lt := lt) (L := rL r) (k := k) (v := x)
  have hspec := setR_spec hl hok k x
  have hbF := h2.not h1 (by decide)
  have hlb := lt_of_get h1
  simp [-getElem?_pos, -Array.getElem?_eq_getElem, -Int.natCast_add, -op_lit_224_1, ptr, h1]
  obtain ⟨J, hJ⟩ : ∃ J : KV, ∀ e wl, J e wl ↔ IsC e lt ∧ Frm (fun _ => False) w wl := ⟨_, fun _ _ => Iff.rfl⟩
  refine Jn.intro J ⟨?_, ?_⟩
  · rcases h3 with h3 | ⟨rfl, hd, _⟩
    · obtain ⟨u, p, rfl⟩ := h3.iface
      simp [-getElem?_pos, -Array.getElem?_eq_getElem, -Int.natCast_add, -op_lit_224_1]
      exact (hJ _ _).2 ⟨h3, Frm.refl⟩
    · simp [-getElem?_pos, -Array.getElem?_eq_getElem, -Int.natCast_add, -op_lit_224_1]
      exact hd fun w' cv hf hc => (hJ _ _).2 ⟨hc, hf⟩
  intro w1 cv1 hj
  obtain ⟨hC, f1⟩ := (hJ _ _).1 hj
  clear hJ hj J
  have a1 := f1.get h1 fun h => h
  have c1 := CmpOk.one (lt := lt) (r := none) (.inl hC)
  have s1 := f1.size
  obtain ⟨J, hJ⟩ : ∃ J : KV, ∀ e wl, J e wl ↔ e = ptr b ∧ wl = w1 := ⟨_, fun _ _ => Iff.rfl⟩
  refine Jn.intro J ⟨(hJ _ _).2 ⟨rfl, rfl⟩, ?_⟩
  intro w2 o2 hj
  obtain ⟨rfl, rfl⟩ := (hJ _ _).1 hj
  clear hJ hj J
  simp [-getElem?_pos, -Array.getElem?_eq_getElem, -Int.natCast_add, -op_lit_224_1, ptr]
  refine op_store_ok (by kernel_rfl) a1 (by simp) c1 fun w3 k3 z3 b3 => ?_
  have b3 : w3.heap[b]? = some (.cells #[.int .i64 (rL r).length, rv, cv1] 210 (0, 0)) := by simpa using b3
  have g3 : CFrm (fun y _ => y = b) w w3 := CFrm.fst f1 (cell_frm k3 a1 b3 rfl)
  have r3 := h2.cframe g3 fun y j hy e => hbF j (by rw [← e]; exact hy)
  match r, h2, hok, r3 with
  | none, h2, _, r3 =>
    obtain ⟨rfl, hF⟩ : rv = .nilIface ∧ F = fun _ _ => False := h2
    simp [-getElem?_pos, -Array.getElem?_eq_getElem, -Int.natCast_add, -op_lit_224_1, b3]
    refine op_store_ok (by kernel_rfl) b3 (by simp) rfl fun w4 k4 z4 b4 => ?_
    refine op_lit_ok lit_224_1 fun w5 k5 z5 b5 => ?_
    simp [-getElem?_pos, -Array.getElem?_eq_getElem, -Int.natCast_add, -op_lit_224_1]
    refine op_box_ok fun w6 k6 z6 b6 => ?_
    simp only [cells_agg] at b6
    have g4 : CFrm (fun y _ => y = b) w w4 := g3.trans (cell_frm k4 b3 b4 (by simp)) fun _ _ h _ => h
    have g56 := k5.no k6
    have b4' := g56.get b4 fun h => h
    have hl4 := lt_of_get b4
    refine op_store_ok (by kernel_rfl) b4' (by simp) rfl fun w7 k7 z7 b7 => ?_
    have n4 := g4.size
    refine hK w7 (own1 w5.heap.size w4.heap.size 0 1 2) (((g4.no g56).trans (cell_frm k7 b4' b7 (by simp)) fun _ _ h _ => h).mono fun _ _ h _ => .inr h) ⟨.iface 220 (ptr w5.heap.size), cv1, by simpa [rL, setR, toL, ptr] using b7, ?_, .inl hC⟩ fun y j hy => ?_
    · refine ⟨_, w4.heap.size, 0, 1, rfl, k7.get b6 (by omega), ?_, rfl⟩
      exact ⟨_, (k6.get b5 fun h => h) |> fun q => k7.get q (by omega), rfl, Nat.le_refl _, by simp, rfl, by decide⟩
    · rcases hy with rfl | ⟨rfl, _⟩
      · exact .inr (by omega)
      · exact .inr n4
  | some (h, t), h2, hok, r3 =>
    obtain ⟨o1, o2, o3, o4⟩ := hok
    have hr : RepC w3 h t rv F := r3
    obtain ⟨u, p, rfl⟩ := hr.rep.iface
    simp [-getElem?_pos, -Array.getElem?_eq_getElem, -Int.natCast_add, -op_lit_224_1, b3]
    refine op_alloc_ok (z := .bool false) (by kernel_rfl) fun w4 k4 z4 fl4 => ?_
    have hl3 := lt_of_get b3
    have b4 := k4.get b3 fun h => h
    simp [-getElem?_pos, -Array.getElem?_eq_getElem, -Int.natCast_add, -op_lit_224_1, b4]
    obtain ⟨g1, g2, g3', g4⟩ := setT_spec hl h t k x o1 o2
    have hl12 : (setT lt h t k x).length = 1 ∨ (setT lt h t k x).length = 2 := by have := List.length_pos_iff.2 g4; omega
    have n3 := g3.size
    refine setM_ok (rb := w3.heap.size) (r0 := false) hC (hr.still k4) o1 o2 fl4 fun w5 N k5 fl5 hO hN hsub => ?_
    have hb3r : b ≠ w3.heap.size := by omega
    have b5 := k5.get b4 fun j hj => hj.elim (hbF j) fun e => hb3r e
    have g5 : CFrm (fun y j => F y j ∨ y = b) w w5 := ((g3.no k4).mono fun _ _ h _ => .inr h).old k5 fun y j hy => hy.elim (fun h => .inl (.inl h)) fun e => .inr (by omega)
    rw [Bool.false_or] at fl5
    have hft : ∀ q ∈ N, ∀ y j, q.2.2 y j → F y j ∨ w.heap.size ≤ y := fun q hq y j hy => (hsub q hq y j hy).imp id fun h => by omega
    have n5 := g5.size
    obtain ⟨J, hJ⟩ : ∃ J : KV, ∀ e wl, J e wl ↔ Frm (fun _ => False) w5 wl ∧ ∃ F', RepRC wl (some (setR lt (some (h, t)) k x)) e F' ∧ ∀ y j, F' y j → F y j ∨ w.heap.size ≤ y := ⟨_, fun _ _ => Iff.rfl⟩
    obtain ⟨e1, e2, he, hcase⟩ : ∃ e1 e2, two (N.map (·.2.1)) = .tuple #[e1, e2] ∧ ((∃ s f, N = [(s, e1, f)] ∧ e2 = .nilIface) ∨ ∃ s f s2 f2, N = [(s, e1, f), (s2, e2, f2)]) := by
      rcases hl12 with h' | h'
      · obtain ⟨s, n, f, rfl, _⟩ := hO.one (by rw [← hN, List.length_map] at h'; exact h'); exact ⟨_, _, rfl, .inl ⟨s, f, rfl, rfl⟩⟩
      · obtain ⟨s, n, f, s2, n2, f2, rfl, _⟩ := hO.pair (by rw [← hN, List.length_map] at h'; exact h'); exact ⟨_, _, rfl, .inr ⟨s, f, s2, f2, rfl⟩⟩
    rw [he]
    simp [-getElem?_pos, -Array.getElem?_eq_getElem, -Int.natCast_add, -op_lit_224_1]
    refine Jn.intro J ⟨?_, ?_⟩
    · rcases hcase with ⟨s, f, rfl, rfl⟩ | ⟨s, f, s2, f2, rfl⟩
      · simp [-getElem?_pos, -Array.getElem?_eq_getElem, -Int.natCast_add, -op_lit_224_1]
        refine (hJ _ _).2 ⟨Frm.refl, f, ?_, hft (s, e1, f) (by simp)⟩
        rw [setR, ← hN]; exact hO.1 _ (List.mem_singleton.2 rfl)
      · have hn1 := hO.1 (s, e1, f) (by simp)
        have hn2 := hO.1 (s2, e2, f2) (by simp)
        obtain ⟨u1, p1, rfl⟩ := hn1.rep.iface
        obtain ⟨u2, p2, rfl⟩ := hn2.rep.iface
        simp [-getElem?_pos, -Array.getElem?_eq_getElem, -Int.natCast_add, -op_lit_224_1]
        refine op_lit_ok (lit_353_2 rfl rfl) fun w6 k6 z6 b6 => ?_
        refine newBr0_ok b6 (hn1.still k6).rep (hn2.still k6).rep (g2 s (by rw [← hN]; simp)) (g2 s2 (by rw [← hN]; simp)) fun w7 b' k7 hb' hb7 hg7 => ?_
        have hO7 := (hO.still k6).still k7
        have n6 := k6.size
        have hdj : ∀ q ∈ [(s, Value.iface u1 p1, f), (s2, Value.iface u2 p2, f2)], Disj (own1 b' w6.heap.size 0 2 2) q.2.2 := fun q hq y j hy hz => by
          have h1 := (hO.1 q hq).low y j hz
          rcases hy with rfl | ⟨rfl, _⟩ <;> omega
        refine (hJ _ _).2 ⟨k6.no k7, fun y j => own1 b' w6.heap.size 0 2 2 y j ∨ ∃ q ∈ [(s, Value.iface u1 p1, f), (s2, Value.iface u2 p2, f2)], q.2.2 y j, ?_, fun y j hy => ?_⟩
        · rw [setR, ← hN]
          exact ⟨b', w6.heap.size, 0, 2, [(s, Value.iface u1 p1, f), (s2, Value.iface u2 p2, f2)], rfl, hb7, rfl, hg7, hO7.1, hO7.2, hdj, rfl⟩
        · rcases hy with (rfl | ⟨rfl, _⟩) | ⟨q, hq, hy⟩
          · exact .inr (by omega)
          · exact .inr (by omega)
          · exact hft q hq y j hy
    · intro w6 rt hj
      obtain ⟨f6, F', hr6, hF'⟩ := (hJ _ _).1 hj
      have one6 := hr6.rep.one
      have g6 := g5.no f6
      have b6 := f6.get b5 fun h => h
      have fl6 := f6.get (show w5.heap[w3.heap.size]? = _ from fl5) fun h => h
      have hbF' := hr6.not b6 (by decide)
      simp [-getElem?_pos, -Array.getElem?_eq_getElem, -Int.natCast_add, -op_lit_224_1, b6]
      refine op_store_ok (by kernel_rfl) b6 (by simp) rfl fun w7 k7 z7 b7 => ?_
      have b7 : w7.heap[b]? = some (.cells #[.int .i64 (rL (some (h, t))).length, .iface u p, cv1] 210 (0, 0)) := by simpa using b7
      refine op_store_ok (by kernel_rfl) b7 (by simp) one6 fun w8 k8 z8 b8 => ?_
      have b8 : w8.heap[b]? = some (.cells #[.int .i64 (rL (some (h, t))).length, rt, cv1] 210 (0, 0)) := by simpa using b8
      have c68 : CFrm (fun y _ => y = b) w6 w8 := (cell_frm k7 b6 b7 rfl).trans (cell_frm k8 b7 b8 rfl) fun _ _ h _ => h
      have g8 : CFrm (fun y j => F y j ∨ y = b) w w8 := g6.trans c68 fun _ _ h _ => .inr h
      have fl8 := k8.get (k7.get fl6 (by omega)) (by omega)
      have hr8 := hr6.cframe c68 fun y j hy e => hbF' j (by rw [← e]; exact hy)
      have hlen : (rL (some (setR lt (some (h, t)) k x))).length = (rL (some (h, t))).length + if has lt (toL h t) k then 0 else 1 := by rw [hspec.1, hsz]; rfl
      simp [-getElem?_pos, -Array.getElem?_eq_getElem, -Int.natCast_add, -op_lit_224_1, fl8]
      cases hh : has lt (toL h t) k with
      | true =>
        simp [-getElem?_pos, -Array.getElem?_eq_getElem, -Int.natCast_add, -op_lit_224_1]
        rw [hh] at hlen
        refine hK w8 F' g8 ⟨rt, cv1, ?_, hr8, .inl hC⟩ hF'
        rw [hlen]; simpa using b8
      | false =>
        rw [hh] at hlen
        simp [-getElem?_pos, -Array.getElem?_eq_getElem, -Int.natCast_add, -op_lit_224_1, b8]
        refine op_store_ok (by kernel_rfl) b8 (by simp) rfl fun w9 k9 z9 b9 => ?_
        have hr9 := hr8.cframe (cell_frm k9 b8 b9 (by simp)) fun y j hy e => hbF' j (by rw [← e]; exact hy)
        refine hK w9 F' (g8.trans (cell_frm k9 b8 b9 (by simp)) fun _ _ h _ => .inr h) ⟨rt, cv1, ?_, hr9, .inl hC⟩ hF'
        rw [hlen]
        rw [show IntKind.i64.wrap (((rL (some (h, t))).length : Int) + 1) = (((rL (some (h, t))).length + 1 : Nat) : Int) from by rw [IntKind.wrap_i64]; omega] at b9
        simpa using b9
end Go.Proofs.YtodjijfblgnfmaaGreatDoor.I
end
section
namespace Go.Proofs.YtodjijfblgnfmaaGreatDoor.I
open Go.Vc Go.Proofs Go.Proofs.YtodjijfblgnfmaaGreatDoor Go.Vc.Bt
variable {w w' : World} {v cv : Value} {t : Tr} {K : KV} {Kp : KP} {lt : Ky → Ky → Bool} {k : Ky} {rb : Nat} {b g o c h : Nat} {es : List (Ky × Vl)} {F : Foot}
def RepOC (w : World) (h : Nat) : Option Tr → Value → Foot → Prop
  | none, v, F => v = .nilIface ∧ F = fun _ _ => False
  | some t, v, F => RepC w h t v F
theorem del_place {A z : List Value} {r q : Nat} (h : r + q ≤ A.length) : (lw (lw A r ((A.drop (r + q)).take (A.length - (r + q)))) (A.length - q) z).take (A.length - q) = A.take r ++ A.drop (r + q) := by
  have e1 : (A.drop (r + q)).take (A.length - (r + q)) = A.drop (r + q) := List.take_of_length_le (by rw [List.length_drop]; exact Nat.le_refl _)
  rw [e1]
  have l1 : (A.take r).length = r := by rw [List.length_take]; omega
  have l2 : (A.drop (r + q)).length = A.length - (r + q) := List.length_drop
  generalize hB : A.take r = B at *
  generalize A.drop (r + q) = C at *
  have l3 : (lw A r C).take (A.length - q) = B ++ C := by
    unfold lw
    rw [hB]
    rw [List.take_append_of_le_length (by rw [List.length_append]; omega), List.take_of_length_le (by rw [List.length_append]; omega)]
  have l4 : (lw A r C).length = A.length := lw_len (by omega)
  generalize lw A r C = D at *
  unfold lw
  rw [List.append_assoc, List.take_append_of_le_length (by rw [List.length_take]; omega), List.take_take, Nat.min_self, l3]
theorem leafDelM_ok (hC : IsC cv lt) (hr : RepC w 0 (.leaf es) v F) (hw : WF 0 (.leaf es)) (hs : Sd lt es) (hfl : flag w rb false)
    (hN : ∀ w', Frm (fun _ => False) w w' → has lt es k = false → K v w')
    (hY : ∀ w' v' F', CFrm (fun y j => F y j ∨ y = rb) w w' → has lt es k = true → flag w' rb true → RepOC w' 0 (delT lt 0 (.leaf es) k) v' F' → (∀ y j, F' y j → F y j) → K v' w') :
    nP.call (.inv v "pub-bracken/pub/immutable.delete") [ek k, cv, .bool true, .pointer (some ⟨rb, 0, none⟩)] w K Kp := by
  obtain ⟨h1, h2⟩ : es ≠ [] ∧ es.length ≤ 32 := hw
  have hrb := hr.flag hfl
  have hlow := hr.low
  obtain ⟨b, g, o, c, rfl, hb, hg, hF⟩ := hr
  have hFb : ∀ j, F b j := fun j => by rw [hF]; exact .inl rfl
  have hFg : ∀ j, o ≤ j → j < o + c * 2 → F g j := fun j h h' => by rw [hF]; exact .inr ⟨rfl, h, h'⟩
  have h0 : 0 < es.length := List.length_pos_iff.2 h1
  simp only [inv_220_245]
  refine vc245_calls ?_
  delta vc245
  simp only [call_247]
  refine leafIdx_ok hC hs (by omega) hb hg fun w1 f1 => ?_
  have hb1 := f1.get hb fun h => h
  have hg1 := hg.still f1
  have hfl1 := hfl.frame f1 fun h => h
  have hp := place_le (lt := lt) es k
  simp [-getElem?_pos, -Array.getElem?_eq_getElem, -Int.natCast_add, -op_st_224, ptr, hb1]
  refine ⟨fun hge => ?_, fun hlt => ?_⟩
  · have hh : has lt es k = false := by unfold has; rw [List.getElem?_eq_none (by omega)]
    exact hN w1.drew (Frm.no f1 (Frm.drew _)) hh
  · have hlt' : place lt es k < es.length := by omega
    obtain ⟨cur, hcur, hk⟩ := leafKey hg1
    have hki := hk _ hlt'
    simp [-getElem?_pos, -Array.getElem?_eq_getElem, -Int.natCast_add, -op_st_224, hcur, hki, hC.nilC]
    refine ⟨hlt', hC.cmp fun w2 f2 => ?_⟩
    have f2' := Frm.no f1 (Frm.dr f2)
    have hfl2 := hfl.frame f2' fun h => h
    have hz : Bt.cmp lt es[place lt es k].1 k = 0 ↔ es[place lt es k].1 = k := cmp_zero hC.lin
    have hhi : has lt es k = decide (es[place lt es k].1 = k) := by unfold has; rw [List.getElem?_eq_getElem hlt']
    by_cases e : es[place lt es k].1 = k
    · have hh : has lt es k = true := by rw [hhi]; exact decide_eq_true e
      rw [hz.2 e]
      have hY := fun w' v' F' hf => hY w' v' F' hf hh
      have hrm : rem lt es k = es.eraseIdx (place lt es k) := by unfold rem; rw [if_pos hh]
      rw [delT, hrm] at hY
      clear hz hhi e hki hk hN
      generalize place lt es k = p at *
      simp [-getElem?_pos, -Array.getElem?_eq_getElem, -Int.natCast_add, -op_st_224]
      refine raise_ok hfl2 fun w3 k3 z3 fl3 => ?_
      have f3 : Frm (· = rb) w w3 := f2'.fst k3
      have c3 : CFrm (fun y j => F y j ∨ y = rb) w w3 := CFrm.fst f2' ((hfl2.cfrm k3 fl3).mono fun _ _ h _ => .inr h)
      have hb3 := f3.get hb (hfl.typed hb (by decide))
      have hg3 := Sg.past hg hfl (by decide) f3
      have hnb : b ≠ g := fun e => by
        obtain ⟨cs, e1, _⟩ := hg3
        rw [← e, hb3] at e1; cases e1
      have hnr : rb ≠ g := fun e => by
        obtain ⟨cs, e1, _⟩ := hg3
        exact fl3.typed e1 (by decide) e.symm
      simp [-getElem?_pos, -Array.getElem?_eq_getElem, -Int.natCast_add, -op_st_224, hb3]
      refine ⟨fun h1' => ?_, fun hn1 => ?_⟩
      · refine hY w3 .nilIface (fun _ _ => False) c3 fl3 ?_ fun _ _ h => h.elim
        have hle : es.length = 1 := by omega
        have : es.eraseIdx p = [] := List.eq_nil_of_length_eq_zero (by rw [List.length_eraseIdx, if_pos hlt']; omega)
        rw [this]; exact ⟨rfl, rfl⟩
      · have hel := ents_len es
        have hpm : p * 2 + 2 ≤ es.length * 2 := by rw [← Nat.succ_mul]; exact Nat.mul_le_mul_right _ hlt'
        have hdl : (es.eraseIdx p).length = es.length - 1 := by rw [List.length_eraseIdx, if_pos hlt']
        have hY : ∀ w' v' F', CFrm (fun y j => F y j ∨ y = rb) w w' → flag w' rb true → RepC w' 0 (.leaf (es.eraseIdx p)) v' F' → (∀ y j, F' y j → F y j) → K v' w' := fun w' v' F' hf hfl' hr => hY w' v' F' hf hfl' (by
          rw [if_neg (by cases hq : es.eraseIdx p with
            | nil => rw [hq] at hdl; simp at hdl; omega
            | cons a l => simp)]; exact hr)
        have ewl : IntKind.i64.wrap ((es.length : Int) - 1) = ((es.length - 1 : Nat) : Int) := by rw [IntKind.wrap_i64]; omega
        have ewp : IntKind.i64.wrap ((p : Int) + 1) = ((p + 1 : Nat) : Int) := by rw [IntKind.wrap_i64]; omega
        have hgl := hg.le
        simp [-getElem?_pos, -Array.getElem?_eq_getElem, -Int.natCast_add, -op_st_224, ewl, ewp]
        refine ⟨by omega, by omega, by omega, by omega, ?_⟩
        refine op_copyIn (m := es.length - (p + 1)) (x1 := p) (x2 := p + 1) (by kernel_rfl) (by decide) (hg3.still (Frm.drew _)) rfl rfl (by omega) (by omega) (by omega) (fun u hu => ents_one u hu) fun w4 k4 z4 hg4 => ?_
        have k4 := CFrm.fst (Frm.drew w3) k4
        have hgF : ∀ y j, (y = g ∧ o ≤ j ∧ j < o + c * 2) → F y j ∨ y = rb := fun y j ⟨e1, e2, e3⟩ => by subst e1; exact .inl (hFg j e2 e3)
        have c4 : CFrm (fun y j => F y j ∨ y = rb) w w4 := c3.trans k4 fun y j hy _ => hgF y j hy
        have hb4 := k4.get hb3 fun j hj => hnb hj.1
        have fl4 : flag w4 rb true := k4.get fl3 fun j hj => hnr hj.1
        simp [-getElem?_pos, -Array.getElem?_eq_getElem, -Int.natCast_add, -op_st_224, hb4, ewl]
        refine ⟨by omega, op_storeSg (n := es.length) (m := 2) (by kernel_rfl) rfl (by decide) (hg4.still (Frm.drew _)) rfl (by rw [Nat.sub_mul]; omega) (fun u hu => by simp only [List.mem_toArray, List.mem_cons, List.not_mem_nil, or_false] at hu; rcases hu with rfl | rfl <;> rfl) fun w5 k5 z5 hg5 => ?_⟩
        have k5 := CFrm.fst (Frm.drew w4) k5
        have c5 : CFrm (fun y j => F y j ∨ y = rb) w w5 := c4.trans k5 fun y j hy _ => hgF y j hy
        have hb5 := k5.get hb4 fun j hj => hnb hj.1
        have fl5 : flag w5 rb true := k5.get fl4 fun j hj => hnr hj.1
        simp [-getElem?_pos, -Array.getElem?_eq_getElem, -Int.natCast_add, -op_st_224, hb5, ewl]
        refine ⟨by omega, ?_⟩
        have hb5d : w5.drew.heap[b]? = some (.cells #[.slice (some ⟨g, o, none⟩) es.length c] 226 (0, 0)) := hb5
        refine op_store_ok (by kernel_rfl) hb5d (by simp) rfl fun w6 k6 z6 b6 => ?_
        have b6 : w6.heap[b]? = some (.cells #[.slice (some ⟨g, o, none⟩) (es.length - 1) c] 226 (0, 0)) := by simpa using b6
        have k6 : Frm (· = b) w5 w6 := (Frm.drew w5).fst k6
        have hg6 := (hg5.frame k6 fun e => hnb e.symm).hi (i := es.length - 1) (by omega)
        have c6 : CFrm (fun y j => F y j ∨ y = rb) w w6 := c5.trans (CFrm.one (I := fun _ => True) k6 hb5 b6 rfl (fun j hj => absurd trivial hj) ⟨0, trivial⟩) fun y j hy _ => .inl (by rw [hy.1]; exact hFb j)
        have fl6 : flag w6 rb true := k6.get fl5 fun e => fl3.typed hb3 (by decide) e.symm
        have e1 : ents (es.eraseIdx p) = (ents es).take (p * 2) ++ (ents es).drop (p * 2 + 2) := fm_del ent_len
        refine hY w6 (.iface 220 (ptr b)) F c6 fl6 ⟨b, g, o, c, rfl, by rw [hdl]; exact b6, ?_, hF⟩ fun _ _ h => h
        rw [hdl, e1, ← del_place (z := _) (by omega)]
        rw [hel, show es.length * 2 - 2 = (es.length - 1) * 2 from by rw [Nat.sub_mul, Nat.one_mul], show es.length * 2 - (p * 2 + 2) = (es.length - (p + 1)) * 2 from by rw [Nat.sub_mul, Nat.succ_mul], show p * 2 + 2 = (p + 1) * 2 from by rw [Nat.succ_mul]]
        exact hg6
    · have hh : has lt es k = false := by rw [hhi]; exact decide_eq_false e
      have he : ¬ Bt.cmp lt es[place lt es k].1 k = 0 := fun h => e (hz.1 h)
      simp [-getElem?_pos, -Array.getElem?_eq_getElem, -Int.natCast_add, -op_st_224, he]
      exact hN w2 f2' hh
end Go.Proofs.YtodjijfblgnfmaaGreatDoor.I
end
section
namespace Go.Proofs.YtodjijfblgnfmaaGreatDoor.I
open Go.Vc Go.Proofs Go.Proofs.YtodjijfblgnfmaaGreatDoor Go.Vc.Bt
variable {w w' : World} {v cv : Value} {t : Tr} {K : KV} {Kp : KP} {lt : Ky → Ky → Bool} {k : Ky} {rb : Nat} {b g o c h i : Nat} {ks : List Tr} {F : Foot} {N N2 : List Nd}
theorem brDelM_ok (hC : IsC cv lt) (hr : RepC w (h + 1) (.br ks) v F) (hw : WF (h + 1) (.br ks)) (hs : Sd lt (toL (h + 1) (.br ks))) (hfl : flag w rb false)
    (ih : ∀ {t : Tr} {v : Value} {F : Foot} {w : World} {K : KV} {Kp : KP}, RepC w h t v F → WF h t → Sd lt (toL h t) → flag w rb false → (∀ w', Frm (fun _ => False) w w' → has lt (toL h t) k = false → K v w') →
      (∀ w' v' F', CFrm (fun y j => F y j ∨ y = rb) w w' → has lt (toL h t) k = true → flag w' rb true → RepOC w' h (delT lt h t k) v' F' → (∀ y j, F' y j → F y j) → K v' w') →
      nP.call (.inv v "pub-bracken/pub/immutable.delete") [ek k, cv, .bool true, .pointer (some ⟨rb, 0, none⟩)] w K Kp)
    (hNo : ∀ w', Frm (fun _ => False) w w' → has lt (toL (h + 1) (.br ks)) k = false → K v w')
    (hY : ∀ w' v' F', CFrm (fun y j => F y j ∨ y = rb) w w' → has lt (toL (h + 1) (.br ks)) k = true → flag w' rb true → RepOC w' (h + 1) (delT lt (h + 1) (.br ks) k) v' F' → (∀ y j, F' y j → F y j) → K v' w') :
    nP.call (.inv v "pub-bracken/pub/immutable.delete") [ek k, cv, .bool true, .pointer (some ⟨rb, 0, none⟩)] w K Kp := by
  obtain ⟨h1, h2, h3⟩ : ks ≠ [] ∧ ks.length ≤ 32 ∧ ∀ t ∈ ks, WF h t := id hw
  have hrb := hr.flag hfl
  have hlow := hr.low
  obtain ⟨b, g, o, c, N, rfl, hb, hks, hg, hN, hpw, hdj, hF⟩ := hr
  have hFo : ∀ y j, own1 b g o c 2 y j → F y j := fun y j h => by rw [hF]; exact .inl h
  have hFb : ∀ j, F b j := fun j => hFo b j (.inl rfl)
  have hFg : ∀ j, o ≤ j → j < o + c * 2 → F g j := fun j h h' => hFo g j (.inr ⟨rfl, h, h'⟩)
  have hFN : ∀ p ∈ N, ∀ y j, p.2.2 y j → F y j := fun p hp y j h => by rw [hF]; exact .inr ⟨p, hp, h⟩
  have hl : N.length = ks.length := by rw [hks, List.length_map]
  have hps : ks = (vals N).map (·.1) := by rw [hks]; simp [vals]
  rw [← vals_len] at hb hg
  simp only [inv_279_257]
  refine vc257_calls ?_
  delta vc257
  simp only [call_259]
  refine brIdx_ok hC hw hs hps hb hg fun w1 f1 => ?_
  have hi := kid_lt (lt := lt) (h := h) (k := k) h1
  have hA := kid_ahead hC.lin hw hs k
  have hB := kid_behind hC.lin hw hs k
  have hsp := toL_split (h := h) hi
  have hdt : delT lt (h + 1) (.br ks) k = match delT lt h ks[kid lt h ks k] k with
    | some t => some (.br (ks.set (kid lt h ks k) t))
    | none => if (ks.eraseIdx (kid lt h ks k)).isEmpty then none else some (.br (ks.eraseIdx (kid lt h ks k))) := by
    rw [delT, List.getElem?_eq_getElem hi, Option.bind_some]
    cases delT lt h ks[kid lt h ks k] k <;> rfl
  rw [hdt] at hY
  clear hdt
  generalize kid lt h ks k = i at *
  have hs2 : Sd lt (toL h ks[i]) := by
    rw [hsp] at hs
    exact (List.pairwise_append.1 (List.pairwise_append.1 hs).2.1).1
  rw [hsp, has_mid hC.lin hA hB] at hNo hY
  have hiN : i < N.length := by omega
  have hip : i < (vals N).length := by rw [vals_len]; exact hiN
  have hb1 := f1.get hb fun h => h
  have hg1 := hg.still f1
  have hfl1 := hfl.frame f1 fun h => h
  obtain ⟨cur, hcur, hk⟩ := elCells hg1
  have hki := (hk i hip).2
  have hvi : (vals N)[i] = (N[i].1, N[i].2.1) := by simp [vals]
  rw [hvi] at hki
  have hpi : N[i].1 = ks[i] := by simp [hks]
  have hmem : N[i] ∈ N := List.getElem_mem hiN
  have hO1 : Own w1 h N := Own.still ⟨hN, hpw⟩ f1
  have hr' := hO1.1 _ hmem
  rw [hpi] at hr'
  obtain ⟨g1, g2⟩ := delT_spec hC.lin h ks[i] k (h3 _ (List.getElem_mem hi)) hs2
  simp [-getElem?_pos, -Array.getElem?_eq_getElem, -Int.natCast_add, ptr, hb1, hcur, hki]
  refine ⟨by rw [vals_len]; exact hiN, ih hr' (h3 _ (List.getElem_mem hi)) hs2 hfl1 (fun w2 f2 hh => ?_) fun w2 v2 F2 f2 hh fl2 hr2 hsub => ?_⟩
  · have fl2' : w2.heap[rb]? = some (.cells #[.bool false] 4 (0, 0)) := hfl1.frame f2 fun h => h
    simp [-getElem?_pos, -Array.getElem?_eq_getElem, -Int.natCast_add, fl2']
    exact hNo w2 (f1.no f2) hh
  have fl2' : w2.heap[rb]? = some (.cells #[.bool true] 4 (0, 0)) := fl2
  have n1 := f1.size
  have hY := fun w' v' F' hf => hY w' v' F' hf hh
  clear hNo
  have c2 : CFrm (fun y j => F y j ∨ y = rb) w w2 := CFrm.fst f1 (f2.mono fun y j hy _ => hy.imp (hFN _ hmem y j) id)
  have hnrb : b ≠ rb := hfl.typed hb (by decide)
  have hown2 : ∀ y j, own1 b g o c 2 y j → ¬ (N[i].2.2 y j ∨ y = rb) := fun y j hy hz => by
    rcases hz with hz | rfl
    · exact hdj _ hmem y j hy hz
    · exact hrb j (hFo _ j hy)
  have hb2 := f2.get hb1 fun j => hown2 b j (.inl rfl)
  have hg2 := hg1.cframe f2 fun j h h' => hown2 g j (.inr ⟨rfl, h, h'⟩)
  have hgr : g ≠ rb := fun e => by
    obtain ⟨cs, e1, _⟩ := hg1
    exact hfl1.typed e1 (by decide) e
  have hbg : b ≠ g := fun e => by
    obtain ⟨cs, e1, _⟩ := hg1
    rw [← e, hb1] at e1; cases e1
  have hel := els_len h (vals N)
  have hxN := els_oneM hO1
  have hgF : ∀ y j, (y = g ∧ o ≤ j ∧ j < o + c * 2) → F y j ∨ y = rb := fun y j ⟨e1, e2, e3⟩ => by subst e1; exact .inl (hFg j e2 e3)
  have hdjN : ∀ N2 : List Nd, (∀ q ∈ N2, ∀ y j, q.2.2 y j → N[i].2.2 y j) → ∀ p ∈ N.take i ++ N2 ++ N.drop (i + 1), Disj (own1 b g o c 2) p.2.2 := fun N2 hs2 p hp y j hy hz => by
    rcases mem_put hp hiN with hp | hp
    · exact hdj _ hmem y j hy (hs2 p hp y j hz)
    · exact hdj p hp y j hy hz
  have hsubN : ∀ N2 : List Nd, (∀ q ∈ N2, ∀ y j, q.2.2 y j → N[i].2.2 y j) → ∀ p ∈ N.take i ++ N2 ++ N.drop (i + 1), ∀ y j, p.2.2 y j → F y j := fun N2 hs2 p hp y j hy => by
    rcases mem_put hp hiN with hp | hp
    · exact hFN _ hmem y j (hs2 p hp y j hy)
    · exact hFN p hp y j hy
  have hgl := hg2.le
  rw [vals_len] at hb2 hg2 hel hgl
  have hOp := fun (N2 : List Nd) (h2 : Own w2 h N2) (hq : ∀ q ∈ N2, ∀ y j, q.2.2 y j → N[i].2.2 y j) => own_put hiN hO1 h2 f2 (fun p hp j hj => hrb j (hFN p hp _ _ hj)) fun q hqm y j hy => .inl (hq q hqm y j hy)
  generalize delT lt h ks[i] k = d at *
  cases d with
  | none =>
    obtain ⟨rfl, _⟩ : v2 = .nilIface ∧ _ := hr2
    dsimp only at hY
    simp [-getElem?_pos, -Array.getElem?_eq_getElem, -Int.natCast_add, fl2', hb2]
    refine ⟨fun h1' => ?_, fun hn1 => ?_⟩
    · refine hY w2 .nilIface (fun _ _ => False) c2 fl2 ?_ fun _ _ h => h.elim
      have : ks.eraseIdx i = [] := List.eq_nil_of_length_eq_zero (by rw [List.length_eraseIdx, if_pos hi]; omega)
      rw [this]; exact ⟨rfl, rfl⟩
    · have hdl : (ks.eraseIdx i).length = N.length - 1 := by rw [List.length_eraseIdx, if_pos hi]; omega
      have hY : ∀ w' v' F', CFrm (fun y j => F y j ∨ y = rb) w w' → flag w' rb true → RepC w' (h + 1) (.br (ks.eraseIdx i)) v' F' → (∀ y j, F' y j → F y j) → K v' w' := fun w' v' F' hf hfl' hr => hY w' v' F' hf hfl' (by
        rw [if_neg (by cases hq : ks.eraseIdx i with
          | nil => rw [hq] at hdl; simp at hdl; omega
          | cons a l => simp)]; exact hr)
      have hO2 := hOp [] ⟨(fun _ h => nomatch h), List.Pairwise.nil⟩ (fun _ h => nomatch h)
      have hd2 := hdjN [] (fun _ h => nomatch h)
      have hsb2 := hsubN [] (fun _ h => nomatch h)
      have eN : N.take i ++ [] ++ N.drop (i + 1) = N.eraseIdx i := by rw [List.append_nil, List.eraseIdx_eq_take_drop_succ]
      rw [eN] at hO2 hd2 hsb2
      have eV : vals (N.eraseIdx i) = (vals N).eraseIdx i := by rw [List.eraseIdx_eq_take_drop_succ, List.eraseIdx_eq_take_drop_succ]; simp [vals, List.map_take, List.map_drop]
      have hNl : (N.eraseIdx i).length = N.length - 1 := by rw [List.length_eraseIdx, if_pos hiN]
      have ewl : IntKind.i64.wrap ((N.length : Int) - 1) = ((N.length - 1 : Nat) : Int) := by rw [IntKind.wrap_i64]; omega
      have ewp : IntKind.i64.wrap ((i : Int) + 1) = ((i + 1 : Nat) : Int) := by rw [IntKind.wrap_i64]; omega
      simp [-getElem?_pos, -Array.getElem?_eq_getElem, -Int.natCast_add, ewl, ewp]
      refine ⟨by omega, by omega, by omega, by omega, ?_⟩
      refine op_copyIn (m := N.length - (i + 1)) (x1 := i) (x2 := i + 1) (by kernel_rfl) (by decide) (hg2.still (Frm.drew _)) rfl rfl (by omega) (by omega) (by omega) hxN fun w4 k4 z4 hg4 => ?_
      have k4 := CFrm.fst (Frm.drew w2) k4
      have hb4 := k4.get hb2 fun j hj => hbg hj.1
      have fl4 : flag w4 rb true := k4.get fl2 fun j hj => hgr hj.1.symm
      simp [-getElem?_pos, -Array.getElem?_eq_getElem, -Int.natCast_add, hb4, ewl]
      refine ⟨by omega, op_storeSg (n := N.length) (m := 2) (by kernel_rfl) rfl (by decide) (hg4.still (Frm.drew _)) rfl (by omega) (fun u hu => by simp only [List.mem_toArray, List.mem_cons, List.not_mem_nil, or_false] at hu; rcases hu with rfl | rfl <;> rfl) fun w5 k5 z5 hg5 => ?_⟩
      have k5 := CFrm.fst (Frm.drew w4) k5
      have k45 : CFrm (fun y j => y = g ∧ o ≤ j ∧ j < o + c * 2) w2 w5 := k4.trans k5 fun _ _ h _ => h
      have hb5 := k5.get hb4 fun j hj => hbg hj.1
      have fl5 : flag w5 rb true := k5.get fl4 fun j hj => hgr hj.1.symm
      simp [-getElem?_pos, -Array.getElem?_eq_getElem, -Int.natCast_add, hb5, ewl]
      refine ⟨by omega, ?_⟩
      have hb5d : w5.drew.heap[b]? = some (.cells #[.slice (some ⟨g, o, none⟩) N.length c] 284 (0, 0)) := hb5
      refine op_store_ok (by kernel_rfl) hb5d (by simp) rfl fun w6 k6 z6 b6 => ?_
      have b6 : w6.heap[b]? = some (.cells #[.slice (some ⟨g, o, none⟩) (N.length - 1) c] 284 (0, 0)) := by simpa using b6
      have k6 : Frm (· = b) w5 w6 := (Frm.drew w5).fst k6
      have hg6 := (hg5.frame k6 fun e => hbg e.symm).hi (i := N.length - 1) (by omega)
      have c26 : CFrm (own1 b g o c 2) w2 w6 := (k45.mono fun y j hy _ => .inr hy).trans (CFrm.one (I := fun _ => True) k6 hb5 b6 rfl (fun j hj => absurd trivial hj) ⟨0, trivial⟩) fun y j hy _ => .inl hy.1
      have fl6 : flag w6 rb true := k6.get fl5 fun e => hnrb e.symm
      have e1 : els h ((vals N).eraseIdx i) = (els h (vals N)).take (i * 2) ++ (els h (vals N)).drop (i * 2 + 2) := fm_del (el_len h)
      refine hY w6 (.iface 279 (ptr b)) (fun y j => own1 b g o c 2 y j ∨ ∃ p ∈ N.eraseIdx i, p.2.2 y j) (c2.trans c26 fun y j hy _ => .inl (hFo y j hy)) fl6 ⟨b, g, o, c, N.eraseIdx i, rfl, by rw [hNl]; exact b6, ?_, ?_, fun p hp => (hO2.1 p hp).cframe c26 (hd2 p hp).symm, hO2.2, hd2, rfl⟩ fun y j hy => ?_
      · rw [hks, List.eraseIdx_eq_take_drop_succ, List.eraseIdx_eq_take_drop_succ, List.map_append, List.map_take, List.map_drop]
      · rw [hNl, eV, e1, ← del_place (z := _) (by omega)]
        rw [hel, show N.length * 2 - 2 = (N.length - 1) * 2 from by omega, show N.length * 2 - (i * 2 + 2) = (N.length - (i + 1)) * 2 from by omega, show i * 2 + 2 = (i + 1) * 2 from by omega]
        exact hg6
      · rcases hy with hy | ⟨p, hp, hy⟩
        · exact hFo y j hy
        · exact hsb2 p hp y j hy
  | some t' =>
    have hn : RepC w2 h t' v2 F2 := hr2
    obtain ⟨un, pn, rfl⟩ := hn.rep.iface
    dsimp only at hY
    have hq : ∀ q ∈ [(t', Value.iface un pn, F2)], ∀ y j, q.2.2 y j → N[i].2.2 y j := fun q hq y j hy => by rw [List.mem_singleton.1 hq] at hy; exact hsub y j hy
    have hO2 := hOp [(t', .iface un pn, F2)] ⟨fun q hq => by rw [List.mem_singleton.1 hq]; exact hn, List.pairwise_singleton _ _⟩ hq
    have hd2 := hdjN _ hq
    have hsb2 := hsubN _ hq
    simp [-getElem?_pos, -Array.getElem?_eq_getElem, -Int.natCast_add, fl2', hb2]
    refine minKey_ok (hn.rep.still (Frm.drew _)) (g2 t' rfl) fun w7 m f7 hm => ?_
    have f7 := Frm.dr f7
    have b7 := f7.get hb2 fun h => h
    have hg7 := hg2.still f7
    have fl7 := fl2.frame f7 fun h => h
    simp [-getElem?_pos, -Array.getElem?_eq_getElem, -Int.natCast_add, b7]
    refine ⟨hiN, op_storeSg (n := N.length) (m := 2) (by kernel_rfl) rfl (by decide) hg7 rfl (by omega) (fun u hu => by simp only [List.mem_toArray, List.mem_cons, List.not_mem_nil, or_false] at hu; rcases hu with rfl | rfl <;> rfl) fun w8 k8 z8 hg8 => ?_⟩
    have b8 := k8.get b7 fun j h => hbg h.1
    have fl8 : flag w8 rb true := k8.get fl7 fun j h => hgr h.1.symm
    have c28 : CFrm (own1 b g o c 2) w2 w8 := CFrm.fst f7 (k8.mono fun y j hy _ => .inr hy)
    have hrow : lw (els h (vals N)) (i * 2) [ek m, .iface un pn] = els h ((vals N).set i (t', .iface un pn)) := by rw [← el_of hm]; exact (fm_set (el_len h) hip).symm
    have hg8 : Sg w8 286 2 g o N.length c (els h ((vals N).set i (t', .iface un pn))) := by rw [← hrow]; exact hg8
    have hlen : (N.take i ++ [(t', Value.iface un pn, F2)] ++ N.drop (i + 1)).length = N.length := by simp; omega
    have eV : vals (N.take i ++ [(t', Value.iface un pn, F2)] ++ N.drop (i + 1)) = (vals N).set i (t', .iface un pn) := by
      rw [vals_put, List.set_eq_take_append_cons_drop, if_pos hip]; simp [vals]
    have eK : ks.set i t' = (N.take i ++ [(t', Value.iface un pn, F2)] ++ N.drop (i + 1)).map (·.1) := by
      rw [List.set_eq_take_append_cons_drop, if_pos hi, hks]; simp [List.map_take, List.map_drop]
    refine hY w8 (.iface 279 (ptr b)) (fun y j => own1 b g o c 2 y j ∨ ∃ p ∈ N.take i ++ [(t', Value.iface un pn, F2)] ++ N.drop (i + 1), p.2.2 y j) (c2.trans c28 fun y j hy _ => .inl (hFo y j hy)) fl8 ⟨b, g, o, c, _, rfl, by rw [hlen]; exact b8, eK, by rw [hlen, eV]; exact hg8, fun p hp => (hO2.1 p hp).cframe c28 (hd2 p hp).symm, hO2.2, hd2, rfl⟩ fun y j hy => ?_
    rcases hy with hy | ⟨p, hp, hy⟩
    · exact hFo y j hy
    · exact hsb2 p hp y j hy
theorem delM_ok (hC : IsC cv lt) : ∀ {h : Nat} {t : Tr} {v : Value} {F : Foot} {w : World} {K : KV} {Kp : KP}, RepC w h t v F → WF h t → Sd lt (toL h t) → flag w rb false → (∀ w', Frm (fun _ => False) w w' → has lt (toL h t) k = false → K v w') →
      (∀ w' v' F', CFrm (fun y j => F y j ∨ y = rb) w w' → has lt (toL h t) k = true → flag w' rb true → RepOC w' h (delT lt h t k) v' F' → (∀ y j, F' y j → F y j) → K v' w') →
      nP.call (.inv v "pub-bracken/pub/immutable.delete") [ek k, cv, .bool true, .pointer (some ⟨rb, 0, none⟩)] w K Kp
  | 0, t, v, F, w, K, Kp, hr, hw, hs, hfl, hN, hY => by
    obtain ⟨es, rfl, h1, h2⟩ := wf_zero.1 hw
    exact leafDelM_ok hC hr hw hs hfl hN hY
  | h + 1, t, v, F, w, K, Kp, hr, hw, hs, hfl, hN, hY => by
    obtain ⟨ks, rfl, h1, h2, h3⟩ := wf_succ.1 hw
    exact brDelM_ok hC hr hw hs hfl (fun a b c d e f => delM_ok hC a b c d e f) hN hY
end Go.Proofs.YtodjijfblgnfmaaGreatDoor.I
end
