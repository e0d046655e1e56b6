/- From calls that answer true and write nothing that was there to the contract of a law's row; arguments in the heap. -/
import Derived.Test.YtjlaclgikmmmlaaVcApp
import Derived.ProofKit
import Derived.WideKeyArgs
import Derived.Deep.Slices
namespace Go.Vc
open Go.ChangeShapes Go.WideShapes Go.ChangeAt Go.RowKit Go.WideElems
variable {H : Type} {enc : TypeId × Value → H} {P : Program} {W W' : World}

def typed (P : Program) (ts : List TypeId) : Bool := ts.all fun t => P.readableRec t && decide (t < P.types.size)

theorem below_of (h : ∀ {M}, Frm M W W') : Below W.heap.size W W' := ⟨(h (M := fun _ => False)).os, (h (M := fun _ => False)).tape, (h (M := fun _ => False)).output, (h (M := fun _ => False)).size, fun k hk => (h (M := fun _ => False)).block k hk (fun h => h)⟩

theorem trodAll_below (hl : laidOutB P = true) {sp : Nat → Bool} (hb : Below W.heap.size W W') :
    ∀ {ts : List TypeId} {vs : List Value} {ds : List (DataW H)} {ps : List MemPlace}, typed P ts = true → (∀ p ∈ ps, p.block < W.heap.size) → (∀ p ∈ ps, sp p.block = true) →
      DataW.TrodAll enc P W 0 (fun _ => true) true ts vs ds ps → DataW.TrodAll enc P W' 0 sp true ts vs ds ps
  | [], [], [], _, _, _, _, h => h
  | t :: ts, v :: vs, d :: ds, ps, ht, h1, h2, h => by
    obtain ⟨p, q, hd, hr, rfl⟩ := h
    simp only [typed, List.all_cons, Bool.and_eq_true, decide_eq_true_eq] at ht
    refine ⟨p, q, Trod_stays hl ht.1.1 ht.1.2 hd (fun x hx => hb.same (h1 x (by simp [hx]))) (fun x hx => h2 x (by simp [hx])), ?_, rfl⟩
    exact trodAll_below hl hb (by simpa [typed] using ht.2) (fun x hx => h1 x (by simp [hx])) (fun x hx => h2 x (by simp [hx])) hr
  | [], [], _ :: _, _, _, _, _, h => h.elim
  | [], _ :: _, _, _, _, _, _, h => h.elim
  | _ :: _, [], _, _, _, _, _, h => h.elim
  | _ :: _, _ :: _, [], _, _, _, _, h => h.elim

theorem trodAll_len : ∀ {ts : List TypeId} {vs : List Value} {ds : List (DataW H)} {ps : List MemPlace} {b : Nat} {sp : Nat → Bool} {hd : Bool}, DataW.TrodAll enc P W b sp hd ts vs ds ps → ds.length = ts.length
  | [], [], [], _, _, _, _, _ => rfl
  | t :: ts, v :: vs, d :: ds, ps, _, _, _, h => by
    obtain ⟨p, q, hd, hr, rfl⟩ := h
    simp [trodAll_len hr]
  | [], [], _ :: _, _, _, _, _, h => h.elim
  | [], _ :: _, _, _, _, _, _, h => h.elim
  | _ :: _, [], _, _, _, _, _, h => h.elim
  | _ :: _, _ :: _, [], _, _, _, _, h => h.elim

theorem returns_true {C : Checked} {os : Os} {f : FuncId} {fn : Func} {s : ChangeSpec} {tb : TypeId}
    (own : ownKnob C.prog.godebug = none) (started : os.Started) (noInit : C.prog.inits.idxOf? f = none) (hfn : C.prog.funcs[f]? = some fn)
    (witness : ∃ (w : World) (tape : Tape) (i : Input), w.os = os ∧ (w.forCall tape i).Shaped C.prog ∧ i.vars = [] ∧ Input.okWide C.prog (w.forCall tape i) .any w.heap.size f i ∧
      s.pre6 enc C.prog fn [] false (w.forCall tape i).memory i.args ∧ ({} : Assume).holds C.prog (lone (Frame.enter C.prog f i.args .normal) [] (w.forCall tape i)))
    (hl : laidOutB C.prog = true) (ht : typed C.prog fn.params.toList = true) (hv : s.vars = []) (hres : fn.resultTypes = #[tb]) (hb : C.prog.underlying tb = some .bool)
    (hs : ∀ ds : List (DataW H), ds.length = fn.params.toList.length → s.fn H ds = { results := [.lit (.bool true)], args := ds })
    (contract : ∀ (W : World) (base : Nat) (args : Array Value) (ds : List (DataW H)) (before : List MemPlace), W.ShapedOpen C.prog →
      (∀ (j : Nat) t v, fn.params[j]? = some t → args[j]? = some v → Value.okWide C.prog W .any base t v) →
      DataW.TrodAll enc C.prog W 0 (fun _ => true) true fn.params.toList args.toList ds before → (∀ p ∈ before, p.block < W.heap.size) →
      Calls C.prog f args W (ret (fun v W' => v = .bool true ∧ ∀ M, Frm M W W') fun _ _ => False)) :
    ReturnsInHanded {} C os f .any (s.pre6 enc C.prog fn [] false) (s.post enc C.prog fn false true false false) := by
  refine returnsInHanded_of_calls own started noInit witness ?_
  intro w tape i _ hsh _ hok hpre hholds
  obtain ⟨_, _, _, fn', hfn', _, _, _, _, hval⟩ := hok
  have e : fn' = fn := Option.some.inj (hfn'.symm.trans hfn)
  subst e
  obtain ⟨⟨ds, gs, before, hw, hc⟩, hz⟩ := hpre
  have hw' := DataW.Whole.of_heap (w' := w.forCall tape i) (by rfl) hw
  have hlt := hw'.lt
  have hw'' := hw'
  obtain ⟨p, q, hA, hV, rfl, hfz, hnd⟩ := hw'
  rw [hv] at hV
  obtain ⟨rfl, rfl⟩ := trodVars_none hV
  rw [List.append_nil] at hlt hw''
  refine (contract (w.forCall tape i) w.heap.size i.args ds p hsh hval hA hlt).mono fun e W' he => ?_
  cases e with
  | returned v =>
    obtain ⟨rfl, hf⟩ := he
    have hb' := below_of (fun {M} => hf M)
    have hlen := trodAll_len hA
    have hsd : s.fn H (ds ++ []) = { results := [.lit (.bool true)], args := ds } := by rw [List.append_nil]; exact hs ds hlen
    refine ChangeSpec.post_blind ⟨ds, [], p, [], p, [], hw'', ?_, ?_, ?_, World.keptBut_mono (fun x hx => ⟨hx, .inr (.inl hx)⟩) (hb'.frame (· ∈ p)), (fun h => nomatch h)⟩
    · rw [hsd, hres]; exact trodAll_mk1 (shut_bool hb _)
    · rw [hsd]; exact trodAll_below hl hb' ht hlt (fun x hx => by simpa using hlt x hx) hA
    · rw [hsd, hv]; rfl
  | panicked _ => exact he.elim
  | outgrown => exact he.elim

/-! ### arguments -/
/-- A slice: its elements' cells, one behind the other; each reads by the element's type. -/
theorem open_rows {t e : TypeId} {base : Nat} {v : Value} {d : DataW H} {ps : List MemPlace} (ht : P.underlying t = some (.slice e)) {c : Nat} (hc : P.cellsOf e = c) (hc0 : 0 < c)
    (hok : Value.okWide P W .any base t v) (h : DataW.Trod enc P W 0 (fun _ => true) true t v d ps) :
    ∃ (a : Option Addr) (len cap : Nat) (f : Nat → List Value), v = .slice a len cap ∧ len ≤ cap ∧ cap ≤ maxLen ∧ (a = none → len = 0) ∧ (∀ p, a = some p → p.spot = none ∧ p.block < W.heap.size) ∧
      Row W a ((List.range len).flatMap f) ∧ (∀ i, (f i).length = c) ∧ ∀ i, i < len → ∃ n x, DataW.trod enc P W 0 (fun _ => true) true n e (f i) = some x := by
  have hv : v = .slice none 0 0 ∨ ∃ p len cap, v = .slice (some p) len cap ∧ p.spot = none ∧ p.block < W.heap.size := by
    unfold Value.okWide at hok
    rw [ht] at hok
    simp only [Cell.okWide, ht] at hok
    unfold Cell.ok at hok
    rw [ht] at hok
    cases v with
    | slice a len cap =>
      cases a with
      | none =>
        match len, cap, hok with
        | 0, 0, _ => exact .inl rfl
      | some p =>
        refine .inr ⟨p, len, cap, rfl, hok.2.2.2.1, ?_⟩
        obtain ⟨row, cells, hsh, _⟩ := hok.2.2.2.2
        unfold World.shape? at hsh
        split at hsh
        · rename_i hb; exact lt_of_get hb
        · cases hsh
    | _ => exact hok.elim
  obtain ⟨fuel, hf⟩ := h
  rcases hv with rfl | ⟨p, len, cap, rfl, hs, hbl⟩
  · exact ⟨none, 0, 0, fun _ => List.replicate c undef, rfl, Nat.le_refl _, by simp [maxLen], fun _ => rfl, (fun p h => nomatch h), .inl rfl, fun i => by simp, fun i hi => by omega⟩
  · have hf' : DataW.trod enc P W 0 (fun _ => true) true fuel t [.slice (some p) len cap] = some (d, ps) := hf
    rcases Go.Deep.open_slice ht hf' with ⟨h0, _⟩ | ⟨a, len', cap', m, n, D, Pl, hcs, _, hl, hm, hmm, _, hx⟩
    · cases h0
    · simp only [List.cons.injEq, Value.slice.injEq, Option.some.injEq, and_true] at hcs
      obtain ⟨rfl, rfl, rfl⟩ := hcs
      obtain ⟨b, o, sp⟩ := p
      simp only at hs
      subst hs
      have hle : ∀ i, i < len → ∃ cs', W.cells? 0 ((⟨b, o, none⟩ : Addr).add (i * c)) c = some cs' ∧ DataW.trod enc P W 0 (fun _ => true) true n e cs' = some (D i, Pl i) := fun i hi => by
        have := hx i (by rw [hmm]; simp; omega)
        rwa [hc] at this
      have hcell : ∀ i, i < len → ∃ cs' : List Value, cs'.length = c ∧ (∀ r, r < c → W.cell? ⟨b, o + (i * c + r), none⟩ = cs'[r]?) ∧ DataW.trod enc P W 0 (fun _ => true) true n e cs' = some (D i, Pl i) := fun i hi => by
        obtain ⟨cs', h1, h2⟩ := hle i hi
        obtain ⟨_, h3, h4⟩ := World.cells?_some h1
        refine ⟨cs', h3, fun r hr => ?_, h2⟩
        rw [← h4 r hr, Go.Deep.add_add, add_spot rfl]
      have hch : ∃ f : Nat → List Value, (∀ i, (f i).length = c) ∧ ∀ i, i < len → (∀ r, r < c → W.cell? ⟨b, o + (i * c + r), none⟩ = (f i)[r]?) ∧ DataW.trod enc P W 0 (fun _ => true) true n e (f i) = some (D i, Pl i) := by
        classical
        refine ⟨fun i => if hi : i < len then Classical.choose (hcell i hi) else List.replicate c undef, fun i => ?_, fun i hi => ?_⟩
        · by_cases hi : i < len
          · simp only [dif_pos hi]; exact (Classical.choose_spec (hcell i hi)).1
          · simp only [dif_neg hi]; simp
        · simp only [dif_pos hi]; exact (Classical.choose_spec (hcell i hi)).2
      obtain ⟨f, hf1, hf2⟩ := hch
      have hrow : Row W (some ⟨b, o, none⟩) ((List.range len).flatMap f) ∧ (len ≠ 0 → b < W.heap.size) := by
        by_cases h0 : len = 0
        · subst h0; exact ⟨.inl rfl, fun h => absurd rfl h⟩
        · have hz := (hf2 0 (by omega)).1 0 hc0
          rw [List.getElem?_eq_getElem (by rw [hf1]; exact hc0)] at hz
          have hb : ∃ cs e' fz, W.heap[b]? = some (.cells cs e' fz) := by
            unfold World.cell? at hz
            split at hz
            · rename_i c' e' fz hb; exact ⟨_, _, _, hb⟩
            · cases hz
          obtain ⟨cs, e', fz, hb⟩ := hb
          refine ⟨.inr ⟨b, o, cs, e', fz, rfl, hb, fun j v hj => ?_⟩, fun _ => lt_of_get hb⟩
          have hjl : j < len * c := by
            have := (List.getElem?_eq_some_iff.1 hj).1
            rwa [flatMap_len hf1, List.length_range] at this
          have hjc : j = j / c * c + j % c := by rw [Nat.mul_comm]; exact (Nat.div_add_mod j c).symm
          have hi : j / c < len := Nat.div_lt_of_lt_mul (by rw [Nat.mul_comm]; exact hjl)
          have hr : j % c < c := Nat.mod_lt _ hc0
          have hg := flatMap_get hf1 (List.range len) (j / c) (j % c) (by simpa using hi) hr
          rw [← hjc] at hg
          rw [hg] at hj
          simp only [List.getElem_range] at hj
          have := (hf2 _ hi).1 _ hr
          rw [← hjc, hj] at this
          rw [← this]
          exact (cell_of (p := ⟨b, o + j, none⟩) hb rfl).symm
      exact ⟨some ⟨b, o, none⟩, len, cap, f, rfl, hl, hm, (fun h => nomatch h), fun p hp => by cases hp; exact ⟨rfl, hbl⟩, hrow.1, hf1, fun i hi => ⟨n, _, (hf2 i hi).2⟩⟩

/-- The cells of a struct whose fields are one cell each. -/
theorem open_fields {t : TypeId} {fs : Array Field} {n : Nat} {cs : List Value} {x : DataW H × List MemPlace} (ht : P.underlying t = some (.struct fs)) (h : DataW.trod enc P W 0 (fun _ => true) true n t cs = some x)
    {i : Nat} {f : Field} (hf : fs[i]? = some f) (ho : f.offset = i) (hc : P.cellsOf f.type = 1) (hi : i < cs.length) :
    ∃ n y, DataW.trod enc P W 0 (fun _ => true) true n f.type [cs[i]] = some y := by
  obtain ⟨xs, k, rfl, rfl, hl, hxl, hx⟩ := DataW.trod_struct ht h
  have h1 := hx i f hf
  have hi2 : i < xs.length := by rw [hxl]; exact (Array.getElem?_eq_some_iff.1 hf).1
  rw [ho, hc, List.getElem?_eq_getElem hi2, List.drop_eq_getElem_cons hi, List.take_succ_cons, List.take_zero] at h1
  exact ⟨k, _, h1⟩
theorem field_int {t : TypeId} {k : IntKind} {n : Nat} {u : Value} {x : DataW H × List MemPlace} (ht : P.underlying t = some (.int k)) (h : DataW.trod enc P W 0 (fun _ => true) true n t [u] = some x) : ∃ m, u = .int k m ∧ k.min ≤ m ∧ m ≤ k.max := by
  obtain ⟨m, hm, _, hw⟩ := DataW.trod_int ht h
  simp only [Lit.wf, Bool.and_eq_true, decide_eq_true_eq] at hw
  exact ⟨m, by simpa using hm, hw.1, hw.2⟩
theorem open_i64s {t e : TypeId} {k : IntKind} {base : Nat} {v : Value} {d : DataW H} {ps : List MemPlace} (ht : P.underlying t = some (.slice e)) (he : P.underlying e = some (.int k)) (hc : P.cellsOf e = 1)
    (hok : Value.okWide P W .any base t v) (h : DataW.Trod enc P W 0 (fun _ => true) true t v d ps) :
    ∃ (a : Option Addr) (cap : Nat) (xs : List Int), v = .slice a xs.length cap ∧ xs.length ≤ cap ∧ cap ≤ maxLen ∧ (a = none → xs = []) ∧ (∀ p, a = some p → p.spot = none ∧ p.block < W.heap.size) ∧
      Row W a (xs.map (.int k)) ∧ ∀ x ∈ xs, k.min ≤ x ∧ x ≤ k.max := by
  obtain ⟨a, len, cap, f, rfl, h1, h2, h3, h4, h6, h7, h8⟩ := open_rows ht hc (by decide) hok h
  have hx : ∀ i, i < len → ∃ m, f i = [.int k m] ∧ k.min ≤ m ∧ m ≤ k.max := fun i hi => by
    obtain ⟨n, x, hx⟩ := h8 i hi
    match hfi : f i, h7 i with
    | [u], _ =>
      rw [hfi] at hx
      obtain ⟨m, rfl, hm⟩ := field_int he hx
      exact ⟨m, rfl, hm⟩
  obtain ⟨g, hg⟩ := Go.Deep.choose_lt hx
  have hxs : (List.range len).flatMap f = ((List.range len).map g).map (.int k) := by
    rw [Go.Deep.flatMap_congr_range fun i hi => (hg i hi).1]
    rw [List.map_map]
    clear hg
    generalize List.range len = l
    induction l with
    | nil => rfl
    | cons x l ih => simpa [List.flatMap_cons] using ih
  have hl : ((List.range len).map g).length = len := by simp
  refine ⟨a, cap, (List.range len).map g, by rw [hl], by rw [hl]; exact h1, h2, fun e => by rw [h3 e]; rfl, h4, by rw [← hxs]; exact h6, fun x hx => ?_⟩
  obtain ⟨i, hi, rfl⟩ := List.mem_map.1 hx
  exact (hg i (List.mem_range.1 hi)).2
end Go.Vc
