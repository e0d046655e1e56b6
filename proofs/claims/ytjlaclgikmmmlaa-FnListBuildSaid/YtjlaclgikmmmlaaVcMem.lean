/- The operations on memory in handy form; the signature of conditions that the proofs use, and that it is enough. -/
import Derived.Test.YtjlaclgikmmmlaaVcPure

/-- A block gets a new content. -/
def Go.World.upd (w : Go.World) (b : Nat) (o : Go.Obj) : Go.World := { w with heap := w.heap.setIfInBounds b o }

namespace Go.Vc
variable {P : Program}

/-- Cells from off on are overwritten. -/
def ow (cs : Array Value) (off : Nat) : List Value → Array Value
  | [] => cs
  | v :: l => ow (cs.setIfInBounds off v) (off + 1) l
@[simp] theorem size_ow (l : List Value) : ∀ (cs : Array Value) (off : Nat), (ow cs off l).size = cs.size := by
  induction l with
  | nil => intro cs off; rfl
  | cons v l ih => intro cs off; simp [ow, ih]

def loadN (P : Program) (t : TypeId) (p : Addr) (w : World) (K : Value → Prop) : Prop :=
  match ldk P t with
  | some .one => ∃ cs e fz, w.heap[p.block]? = some (.cells cs e fz) ∧ p.spot = none ∧ ∃ v, cs[p.off]? = some v ∧ K v
  | some (.agg n) => ∃ cs e fz, w.heap[p.block]? = some (.cells cs e fz) ∧ p.spot = none ∧ p.off + n ≤ cs.size ∧ K (.agg (cs.extract p.off (p.off + n)))
  | none => False

def storeN (P : Program) (t : TypeId) (p : Addr) (v : Value) (w : World) (K : World → Prop) : Prop :=
  match ldk P t with
  | some .one => ∃ cs e, w.heap[p.block]? = some (.cells cs e (0, 0)) ∧ p.spot = none ∧ p.off < cs.size ∧ v.oneCell' = true ∧ K (w.upd p.block (.cells (cs.setIfInBounds p.off v) e (0, 0)))
  | some (.agg n) => ∃ vs, v = .agg vs ∧ vs.size = n ∧ (∀ u ∈ vs.toList, u.oneCell' = true) ∧
      ∃ cs e, w.heap[p.block]? = some (.cells cs e (0, 0)) ∧ p.spot = none ∧ p.off + n ≤ cs.size ∧ K (w.upd p.block (.cells (ow cs p.off vs.toList) e (0, 0)))
  | none => False

def placesOf (P : Program) (fs : Array Field) : Option (Array (Nat × Nat)) := fs.mapM fun f => (szOf P f.type).map fun s => (f.offset, s)
def buildV (P : Program) (t : TypeId) (ps : List (Nat × Value)) : Option Value :=
  match P.underlying t, zeroOf P t with
  | some (.struct fs), some z => match placesOf P fs with
    | some pl => (Instr.fill (pl[·]?) z.cells ps).map .agg
    | none => none
  | some (.array _ e), some z => match szOf P e with
    | some s => (Instr.fill (fun i => some (i * s, s)) z.cells ps).map .agg
    | none => none
  | _, _ => none
/-- A slice literal: its element's type and its cells. -/
def sliceLit (P : Program) (t : TypeId) (n : Nat) (ps : List (Nat × Value)) : Option (TypeId × Array Value) :=
  match sliceOf P t with
  | some (e, s) => if n * s = 0 then (Instr.fill (fun i => some (i * s, s)) #[] ps).map (fun cs => (e, cs)) else if 16777216 < n * s then none else match zeroOf P e with
    | some z => (Instr.fill (fun i => some (i * s, s)) ((Array.range (n * s)).map (z.cells[· % z.cells.size]!)) ps).map fun cs => (e, cs)
    | none => none
  | none => none

def memOp (P : Program) (x : VOp) (w : World) (K : Value → World → Prop) (Kp : KP) : Prop :=
  match x with
  | .load t (.pointer (some p)) => loadN P t p w fun v => K v w
  | .store t (.pointer (some p)) v => storeN P t p v w fun w' => K undef w'
  | .alloc t => match zeroOf P t with
    | some z => K (.pointer (some ⟨w.heap.size, 0, none⟩)) (w.alloc (.cells z.cells t))
    | none => False
  | .box t v => K (.pointer (some ⟨w.heap.size, 0, none⟩)) (w.alloc (.cells v.cells t))
  | .build t ps => match buildV P t ps with
    | some v => K v w
    | none => False
  | .buildSlice t n ps => match sliceLit P t n ps with
    | some (e, cs) => K (.slice (some ⟨w.heap.size, 0, none⟩) n n) (w.alloc (.cells cs e))
    | none => False
  | .panic (.iface t v) => Kp [{ v := .iface t v, recovered := false }] w
  | x => outOf P x.sem w K Kp

def niceOp (P : Program) (x : VOp) (w : World) (K : Value → World → Prop) (Kp : KP) : Prop :=
  match pv P x with
  | some (c, v) => c ∧ K v w
  | none => memOp P x w K Kp
def nicePur (P : Program) (x : VOp) (K : Value → Prop) : Prop :=
  match pv P x with
  | some (c, v) => c ∧ K v
  | none => match x with
    | .build t ps => match buildV P t ps with
      | some v => K v
      | none => False
    | x => ∃ v, (∀ w, x.sem.run P w = .ok v w) ∧ K v
def niceLd (P : Program) (x : VOp) (w : World) (K : Value → Prop) : Prop :=
  match x with
  | .load t (.pointer (some p)) => loadN P t p w K
  | x => ∃ v, x.sem.run P w = .ok v w ∧ K v
def niceSame (P : Program) (x : VOp) (v : Value) (w : World) : Prop :=
  match x with
  | .load t (.pointer (some p)) => loadN P t p w fun u => u = v
  | x => x.sem.run P w = .ok v w

def nice (P : Program) : Sig where
  op := niceOp P
  call c args w K Kp := callOut P (c.deferred args.toArray >>= fun d => invoke d.target d.args) w K Kp
  pur := nicePur P
  ld := niceLd P
  same := niceSame P

theorem ldk_one {t : TypeId} (h : ldk P t = some .one) : szOf P t = some 1 ∧ ∀ w, (isAgg t).run P w = .ok false w := by
  unfold ldk at h
  cases hu : P.underlying t with
  | none => rw [hu] at h; cases h
  | some d =>
    rw [hu] at h
    have hr := fun w => run_und hu w
    cases d <;> simp only [Option.map_eq_some_iff, reduceCtorEq, and_false, exists_false] at h
    all_goals
      split at h
      · rename_i hs; exact ⟨hs, fun w => by simp [isAgg, hr]⟩
      · cases h
theorem ldk_agg {t : TypeId} {n : Nat} (h : ldk P t = some (.agg n)) : szOf P t = some n ∧ ∀ w, (isAgg t).run P w = .ok true w := by
  unfold ldk at h
  cases hu : P.underlying t with
  | none => rw [hu] at h; cases h
  | some d =>
    rw [hu] at h
    have hr := fun w => run_und hu w
    cases d <;> simp only [Option.map_eq_some_iff] at h
    case struct fs =>
      obtain ⟨m, hm, he⟩ := h
      injection he with he
      subst he
      exact ⟨hm, fun w => by simp [isAgg, hr]⟩
    case array k e =>
      obtain ⟨m, hm, he⟩ := h
      injection he with he
      subst he
      exact ⟨hm, fun w => by simp [isAgg, hr]⟩
    all_goals
      split at h
      · cases h
      · cases h

theorem cell_of {w : World} {p : Addr} {cs : Array Value} {e : TypeId} {fz : Nat × Nat} (h : w.heap[p.block]? = some (.cells cs e fz)) (hs : p.spot = none) : w.cell? p = cs[p.off]? := by
  simp [World.cell?, h, hs]

theorem add_spot {p : Addr} (hs : p.spot = none) (i : Nat) : p.add i = ⟨p.block, p.off + i, none⟩ := by
  obtain ⟨b, o, s⟩ := p
  simp only at hs
  subst hs
  unfold Addr.add
  split
  · subst_vars; rfl
  · rfl

theorem run_cells {w : World} {p : Addr} {cs : Array Value} {e : TypeId} {fz : Nat × Nat} (h : w.heap[p.block]? = some (.cells cs e fz)) (hs : p.spot = none) :
    ∀ (n i : Nat) (acc : Array Value), p.off + i + n ≤ cs.size → (loadCellsFrom p i n acc).run P w = .ok (acc ++ cs.extract (p.off + i) (p.off + i + n)) w := by
  intro n
  induction n with
  | zero => intro i acc _; simp [loadCellsFrom]; omega
  | succ n ih =>
    intro i acc hle
    have hc : w.cell? (p.add i) = some cs[p.off + i] := by
      rw [add_spot hs, cell_of (p := ⟨p.block, p.off + i, none⟩) h rfl]
      exact Array.getElem?_eq_getElem (show p.off + i < cs.size by omega)
    simp only [loadCellsFrom, Sem.run_bind, load, Sem.run, hc, Result.andThen_ok]
    rw [ih (i + 1) _ (by omega)]
    congr 1
    apply Array.toList_inj.1
    simp only [Array.toList_append, Array.toList_push, Array.toList_extract, List.append_assoc]
    congr 1
    have : p.off + (i + 1) = p.off + i + 1 := by omega
    rw [this, show p.off + i + 1 + n = p.off + i + (n + 1) from by omega]
    have hlt : p.off + i < cs.toList.length := by simp; omega
    rw [List.extract_eq_take_drop, List.extract_eq_take_drop, List.drop_eq_getElem_cons hlt, show p.off + i + (n + 1) - (p.off + i) = n + 1 from by omega,
      show p.off + i + (n + 1) - (p.off + i + 1) = n from by omega]
    simp

theorem loadN_run {t : TypeId} {p : Addr} {w : World} {K : Value → Prop} (h : loadN P t p w K) : ∃ v, (VOp.load t (.pointer (some p))).sem.run P w = .ok v w ∧ K v := by
  unfold loadN at h
  split at h
  · rename_i hk
    obtain ⟨cs, e, fz, hb, hs, v, hv, hK⟩ := h
    obtain ⟨hz, ha⟩ := ldk_one hk
    refine ⟨v, ?_, hK⟩
    have hc : w.cell? p = some v := by rw [cell_of hb hs, hv]
    simp [VOp.sem, Instr.loadAt, Instr.sureAddr, loadVar, ha, load, Sem.run, hc]
  · rename_i n hk
    obtain ⟨cs, e, fz, hb, hs, hle, hK⟩ := h
    obtain ⟨hz, ha⟩ := ldk_agg hk
    refine ⟨_, ?_, hK⟩
    have := run_cells (P := P) hb hs n 0 #[] (by omega)
    simp [VOp.sem, Instr.loadAt, Instr.sureAddr, loadVar, ha, run_sz hz, loadCells, this]
  · exact h.elim

theorem setCell_upd {w : World} {p : Addr} {cs : Array Value} {e : TypeId} {fz : Nat × Nat} (h : w.heap[p.block]? = some (.cells cs e fz)) (hs : p.spot = none) (v : Value) :
    w.setCell p v = w.upd p.block (.cells (cs.setIfInBounds p.off v) e fz) := by
  unfold World.setCell World.upd
  congr 1
  have hlt : p.block < w.heap.size := by
    rcases Nat.lt_or_ge p.block w.heap.size with h1 | h1
    · exact h1
    · rw [Array.getElem?_eq_none h1] at h; cases h
  apply Array.ext_getElem?
  intro i
  rw [Array.getElem?_modify, Array.getElem?_setIfInBounds]
  by_cases hi : p.block = i
  · subst hi
    have hg : w.heap[p.block] = .cells cs e fz := by
      have := h; rw [Array.getElem?_eq_getElem hlt] at this; exact Option.some.inj this
    simp [hlt, hg, hs]
  · simp [hi]

theorem upd_upd (w : World) (b : Nat) (o o' : Obj) : (w.upd b o).upd b o' = w.upd b o' := by
  unfold World.upd
  congr 1
  apply Array.ext_getElem?
  intro i
  simp only [Array.getElem?_setIfInBounds, Array.size_setIfInBounds]
  by_cases hi : b = i <;> simp [hi]
theorem heap_upd_same {w : World} {b : Nat} {o o' : Obj} (h : w.heap[b]? = some o') : (w.upd b o).heap[b]? = some o := by
  have hlt : b < w.heap.size := by
    rcases Nat.lt_or_ge b w.heap.size with h1 | h1
    · exact h1
    · rw [Array.getElem?_eq_none h1] at h; cases h
  simp [World.upd, hlt]
theorem heap_upd_ne {w : World} {b b' : Nat} {o : Obj} (h : b ≠ b') : (w.upd b o).heap[b']? = w.heap[b']? := by
  simp [World.upd, Array.getElem?_setIfInBounds_ne h]
@[simp] theorem size_upd (w : World) (b : Nat) (o : Obj) : (w.upd b o).heap.size = w.heap.size := by simp [World.upd]
theorem upd_id {w : World} {b : Nat} {o : Obj} (h : w.heap[b]? = some o) : w.upd b o = w := by
  unfold World.upd
  have : w.heap.setIfInBounds b o = w.heap := by
    apply Array.ext_getElem?
    intro i
    rw [Array.getElem?_setIfInBounds]
    by_cases hi : b = i
    · subst hi
      have hlt : b < w.heap.size := by
        rcases Nat.lt_or_ge b w.heap.size with h1 | h1
        · exact h1
        · rw [Array.getElem?_eq_none h1] at h; cases h
      have hg : w.heap[b] = o := by
        have := h; rw [Array.getElem?_eq_getElem hlt] at this; exact Option.some.inj this
      simp [hlt, hg]
    · simp [hi]
  rw [this]

theorem run_storeCells (l : List Value) : ∀ {w : World} {p : Addr} {cs : Array Value} {e : TypeId} (i : Nat), w.heap[p.block]? = some (.cells cs e (0, 0)) → p.spot = none → p.off + i + l.length ≤ cs.size → (∀ u ∈ l, u.oneCell' = true) →
    (storeCells p l i).run P w = .ok () (w.upd p.block (.cells (ow cs (p.off + i) l) e (0, 0))) := by
  induction l with
  | nil => intro w p cs e i h hs _ _; simp [storeCells, ow, upd_id h]
  | cons v l ih =>
    intro w p cs e i h hs hle h1
    have hv := h1 v List.mem_cons_self
    simp only [List.length_cons] at hle
    have hc : w.cell? (p.add i) = some cs[p.off + i] := by
      rw [add_spot hs, cell_of (p := ⟨p.block, p.off + i, none⟩) h rfl]
      exact Array.getElem?_eq_getElem (show p.off + i < cs.size by omega)
    have hf : w.frozen? (p.add i) = false := by
      rw [add_spot hs]
      simp [World.frozen?, h]
    have hst : (store (p.add i) v .plain).run P w = .ok () (w.upd p.block (.cells (cs.setIfInBounds (p.off + i) v) e (0, 0))) := by
      rw [run_store _ _ _ _ _ hv, hc, hf]
      simp only [Bool.false_eq_true, if_false]
      rw [add_spot hs, setCell_upd (p := ⟨p.block, p.off + i, none⟩) h rfl]
    simp only [storeCells, Sem.run_bind, hst, Result.andThen_ok]
    rw [ih (i + 1) (heap_upd_same h) hs (by simp; omega) (fun u hu => h1 u (List.mem_cons_of_mem _ hu)), upd_upd]
    rfl

theorem cells_of_one {v : Value} (h : v.oneCell' = true) : v.cells = #[v] := by cases v <;> first | rfl | cases h

theorem storeN_run {t : TypeId} {p : Addr} {v : Value} {w : World} {K : World → Prop} (h : storeN P t p v w K) : ∃ w', (VOp.store t (.pointer (some p)) v).sem.run P w = .ok undef w' ∧ K w' := by
  unfold storeN at h
  split at h
  · rename_i hk
    obtain ⟨cs, e, hb, hs, hlt, hv, hK⟩ := h
    obtain ⟨hz, ha⟩ := ldk_one hk
    refine ⟨_, ?_, hK⟩
    have := run_storeCells (P := P) [v] 0 hb hs (by simp; omega) (by simpa using hv)
    simp [VOp.sem, Instr.storeAt, Instr.sureAddr, storeVar, cells_of_one hv, run_sz hz, this, ow]
  · rename_i n hk
    obtain ⟨vs, rfl, hn, h1, cs, e, hb, hs, hle, hK⟩ := h
    obtain ⟨hz, ha⟩ := ldk_agg hk
    refine ⟨_, ?_, hK⟩
    have := run_storeCells (P := P) vs.toList 0 hb hs (by simpa [hn] using hle) h1
    simp [VOp.sem, Instr.storeAt, Instr.sureAddr, storeVar, Value.cells, run_sz hz, hn, this]
  · exact h.elim

theorem zero_run {t : TypeId} {z : Value} (h : zeroOf P t = some z) (w : World) : (zeroValue t).run P w = .ok z w := by
  unfold zeroOf at h
  cases hi : P.info? t with
  | none => simp [hi] at h
  | some i => simp [hi] at h; simp [zeroValue, typeInfo, program, Sem.run, hi, h]

theorem places_run {fs : Array Field} {pl : Array (Nat × Nat)} (h : placesOf P fs = some pl) (w : World) : (fs.mapM fun f => Prod.mk f.offset <$> sizeOf f.type : Sem (Array (Nat × Nat))).run P w = .ok pl w := by
  unfold placesOf at h
  rw [Array.mapM_eq_mapM_toList] at h ⊢
  have gen : ∀ (l : List Field) (r : List (Nat × Nat)), (l.mapM fun f => (szOf P f.type).map fun s => (f.offset, s)) = some r → (l.mapM fun f => Prod.mk f.offset <$> sizeOf f.type : Sem (List (Nat × Nat))).run P w = .ok r w := by
    intro l
    induction l with
    | nil => intro r hr; simp at hr; subst hr; simp
    | cons f l ih =>
      intro r hr
      rw [List.mapM_cons] at hr
      cases hs : szOf P f.type with
      | none => rw [hs] at hr; simp at hr
      | some s =>
        rw [hs] at hr
        simp only [Option.map_some, Option.pure_def, Option.bind_eq_bind, Option.bind_some] at hr
        cases hm : (l.mapM fun f => (szOf P f.type).map fun s => (f.offset, s)) with
        | none => rw [hm] at hr; simp at hr
        | some r' =>
          rw [hm] at hr
          simp at hr
          subst hr
          rw [List.mapM_cons]
          simp [run_sz hs, ih r' hm]
  cases hl : (fs.toList.mapM fun f => (szOf P f.type).map fun s => (f.offset, s)) with
  | none => rw [hl] at h; simp at h
  | some r =>
    rw [hl] at h
    simp at h
    subst h
    simp [gen _ _ hl]

theorem build_run {t : TypeId} {ps : List (Nat × Value)} {v : Value} (h : buildV P t ps = some v) (w : World) : (VOp.build t ps).sem.run P w = .ok v w := by
  unfold buildV at h
  split at h
  · rename_i fs z hu hz
    split at h
    · rename_i pl hpl
      simp only [Option.map_eq_some_iff] at h
      obtain ⟨cs, hcs, rfl⟩ := h
      simp [VOp.sem, Instr.build, zero_run hz, run_und hu, places_run hpl, hcs]
    · cases h
  · rename_i n e z hu hz
    split at h
    · rename_i s hs
      simp only [Option.map_eq_some_iff] at h
      obtain ⟨cs, hcs, rfl⟩ := h
      simp [VOp.sem, Instr.build, zero_run hz, run_und hu, run_sz hs, hcs]
    · cases h
  · cases h

theorem sliceLit_run {t e : TypeId} {n : Nat} {ps : List (Nat × Value)} {cs : Array Value} (h : sliceLit P t n ps = some (e, cs)) (w : World) :
    (VOp.buildSlice t n ps).sem.run P w = .ok (.slice (some ⟨w.heap.size, 0, none⟩) n n) (w.alloc (.cells cs e)) := by
  unfold sliceLit at h
  split at h
  · rename_i e' s hs
    obtain ⟨hu, hz⟩ := slice_spec hs
    split at h
    · rename_i hn
      simp only [Option.map_eq_some_iff, Prod.mk.injEq] at h
      obtain ⟨cs', hcs, rfl, rfl⟩ := h
      have e0 : ∀ f : Nat → Value, Array.map f (Array.range 0) = #[] := fun f => by simp
      simp [VOp.sem, Instr.buildSlice, run_und hu, run_sz hz, hn, e0, hcs, newRow]
    · rename_i hn1
      split at h
      · cases h
      · rename_i hn
        split at h
        · rename_i z hzz
          simp only [Option.map_eq_some_iff, Prod.mk.injEq] at h
          obtain ⟨cs', hcs, rfl, rfl⟩ := h
          have hn2 : ¬ n * s > 2 ^ 24 := fun h => hn (by omega)
          simp [VOp.sem, Instr.buildSlice, run_und hu, run_sz hz, hn2, zero_run hzz, hcs, newRow]
          exact fun h => absurd h hn1
        · cases h
  · cases h

theorem out_ok {s : Sem Value} {w w' : World} {v : Value} {K : Value → World → Prop} {Kp : KP} (h : s.run P w = .ok v w') (hK : K v w') : outOf P s w K Kp := by
  unfold outOf; rw [h]; exact hK

theorem memOp_run {x : VOp} {w : World} {K : Value → World → Prop} {Kp : KP} (h : memOp P x w K Kp) : outOf P x.sem w K Kp := by
  unfold memOp at h
  split at h
  · obtain ⟨v, hv, hK⟩ := loadN_run h; exact out_ok hv hK
  · obtain ⟨w', hw, hK⟩ := storeN_run h; exact out_ok hw hK
  · split at h
    · rename_i z hz; exact out_ok (by simp [VOp.sem, Instr.alloc, zero_run hz, newVar, newRow]) h
    · exact h.elim
  · exact out_ok (by simp [VOp.sem, Instr.box, newVar, newRow]) h
  · split at h
    · rename_i v hv; exact out_ok (build_run hv w) h
    · exact h.elim
  · split at h
    · rename_i e cs hcs; exact out_ok (sliceLit_run hcs w) h
    · exact h.elim
  · simpa [outOf, VOp.sem, Instr.panic, goPanic, Sem.run] using h
  · exact h

theorem nice_le : Le (nice P) P where
  op {x w K Kp} h := by
    simp only [nice, niceOp] at h
    split at h
    · rename_i c v hp; exact out_ok (pv_good hp h.1 w) h.2
    · exact memOp_run h
  call h := h
  pur {x K} h := by
    simp only [nice, nicePur] at h
    split at h
    · rename_i c v hp; exact ⟨v, pv_good hp h.1, h.2⟩
    · split at h
      · split at h
        · rename_i v hv; exact ⟨v, build_run hv, h⟩
        · exact h.elim
      · exact h
  ld {x w K} h := by
    simp only [nice, niceLd] at h
    split at h
    · exact loadN_run h
    · exact h
  same {x v w} h := by
    simp only [nice, niceSame] at h
    split at h
    · obtain ⟨u, hu, rfl⟩ := loadN_run h; exact hu
    · exact h
end Go.Vc
