import Derived.Test.YtbghmbbhkoniiaaB0
import Derived.Maps.AppendAt
import Derived.Laws.OwnMore
import Derived.Maps.RangeRun
section
/- More rules of single operations: slices of arrays and of slices, copying, and the frame of a walk. -/
namespace Go.Vc
variable {P : Program} {w : World} {K : Value → World → Prop} {Kp : KP} {K1 : Value → Prop} {t : TypeId}

/-! ### slice expressions -/
theorem pur_slice_hi {n s b o : Nat} {k : IntKind} {x : Int} (h : arrOf P t = some (n, s)) :
    (nice P).pur (.slice t (.pointer (some ⟨b, o, none⟩)) none (some (.int k x)) none) K1 = ((0 ≤ x ∧ x ≤ (n : Int)) ∧ K1 (.slice (some ⟨b, o, none⟩) x.toNat n)) := by
  rw [pur_of (c := (0 : Int) ≤ 0 ∧ 0 ≤ x ∧ x ≤ (n : Int)) (v := .slice (some ⟨b, o, none⟩) x.toNat n)]
  · simp
  · simp [pv, h, cutV, lowV, upV, Addr.add]
theorem pur_slice_lo {n s b o : Nat} {k : IntKind} {x : Int} (h : arrOf P t = some (n, s)) :
    (nice P).pur (.slice t (.pointer (some ⟨b, o, none⟩)) (some (.int k x)) none none) K1 =
      ((0 ≤ x ∧ x ≤ (n : Int)) ∧ K1 (.slice (some (if n = x.toNat then ⟨b, o, none⟩ else ⟨b, o + x.toNat * s, none⟩)) (n - x.toNat) (n - x.toNat))) := by
  rw [pur_of (c := (0 : Int) ≤ x ∧ x ≤ (n : Int) ∧ (n : Int) ≤ n) (v := .slice (some (if n = x.toNat then ⟨b, o, none⟩ else ⟨b, o + x.toNat * s, none⟩)) (n - x.toNat) (n - x.toNat))]
  · simp
  · simp only [pv, h, cutV, lowV, upV, Option.bind_some]
    have : (⟨b, o, none⟩ : Addr).add (x.toNat * s) = ⟨b, o + x.toNat * s, none⟩ := add_spot rfl _
    simp [this]
theorem map_add_zero (a : Option Addr) : (a.map fun p => p.add 0) = a := by cases a <;> simp [Addr.add]
theorem pur_slice_all {len cap s : Nat} {e : TypeId} {a : Option Addr} (h : sliceOf P t = some (e, s)) :
    (nice P).pur (.slice t (.slice a len cap) none none none) K1 = (len ≤ cap ∧ K1 (.slice a len cap)) := by
  rw [pur_of (c := (0 : Int) ≤ 0 ∧ (0 : Int) ≤ (len : Int) ∧ (len : Int) ≤ (cap : Int)) (v := .slice a len cap)]
  · simp
  · simp [pv, h, cutV, lowV, upV, map_add_zero]
theorem op_slice_lohi {len cap s b o : Nat} {e : TypeId} {k k' : IntKind} {x y : Int} (h : sliceOf P t = some (e, s)) :
    (nice P).op (.slice t (.slice (some ⟨b, o, none⟩) len cap) (some (.int k x)) (some (.int k' y)) none) w K Kp =
      ((0 ≤ x ∧ x ≤ y ∧ y ≤ (cap : Int)) ∧ K (.slice (some (if cap = x.toNat then ⟨b, o, none⟩ else ⟨b, o + x.toNat * s, none⟩)) (y.toNat - x.toNat) (cap - x.toNat)) w) := by
  rw [op_of (c := 0 ≤ x ∧ x ≤ y ∧ y ≤ (cap : Int)) (v := .slice (some (if cap = x.toNat then ⟨b, o, none⟩ else ⟨b, o + x.toNat * s, none⟩)) (y.toNat - x.toNat) (cap - x.toNat))]
  have : (⟨b, o, none⟩ : Addr).add (x.toNat * s) = ⟨b, o + x.toNat * s, none⟩ := add_spot rfl _
  simp only [pv, h, cutV, lowV, upV, Option.map_some, this]
  split <;> rfl
theorem op_slice_lo {len cap s b o : Nat} {e : TypeId} {k : IntKind} {x : Int} (h : sliceOf P t = some (e, s)) :
    (nice P).op (.slice t (.slice (some ⟨b, o, none⟩) len cap) (some (.int k x)) none none) w K Kp =
      ((0 ≤ x ∧ x ≤ (len : Int) ∧ (len : Int) ≤ (cap : Int)) ∧ K (.slice (some (if cap = x.toNat then ⟨b, o, none⟩ else ⟨b, o + x.toNat * s, none⟩)) (len - x.toNat) (cap - x.toNat)) w) := by
  rw [op_of (c := 0 ≤ x ∧ x ≤ (len : Int) ∧ (len : Int) ≤ (cap : Int)) (v := .slice (some (if cap = x.toNat then ⟨b, o, none⟩ else ⟨b, o + x.toNat * s, none⟩)) (len - x.toNat) (cap - x.toNat))]
  have : (⟨b, o, none⟩ : Addr).add (x.toNat * s) = ⟨b, o + x.toNat * s, none⟩ := add_spot rfl _
  simp only [pv, h, cutV, lowV, upV, Option.map_some, this, Int.toNat_natCast]
  split <;> rfl

/-! ### copying -/
theorem setRow_upd {w : World} {g : Nat} {cs cs' : Array Value} {e : TypeId} {fz : Nat × Nat} (h : w.heap[g]? = some (.cells cs e fz)) : w.setRow g cs' = w.upd g (.cells cs' e fz) := by
  obtain ⟨hlt, hg⟩ := Array.getElem?_eq_some_iff.1 h
  unfold World.setRow World.upd
  congr 1
  apply Array.ext_getElem?
  intro i
  rw [Array.getElem?_modify, Array.getElem?_setIfInBounds]
  by_cases hi : g = i
  · subst hi; simp [hlt, hg]
  · simp [hi]
/-- Cells of a row of one-celled values are copied onto cells of another one. -/
theorem op_copy {dT sT ty elem : TypeId} {g o dl dc b oo sl sc n : Nat} {cur cs : Array Value} {t e : TypeId} {fz : Nat × Nat}
    (hu : P.underlying dT = some (.slice elem)) (hs : szOf P elem = some 1)
    (hg : w.heap[g]? = some (.cells cur t (0, 0))) (hb : w.heap[b]? = some (.cells cs e fz)) (hn : n = min sl dl)
    (hd : o + n ≤ cur.size) (hsr : oo + n ≤ cs.size) (h1 : ∀ v ∈ cs, v.oneCell' = true)
    (hK : ∀ cur' : Array Value, cur'.size = cur.size → (∀ j, cur'[j]? = if o ≤ j ∧ j < o + n then cs[oo + (j - o)]? else cur[j]?) → K (.int .i64 n) (w.upd g (.cells cur' t (0, 0)))) :
    (nice P).op (.blt .copy [dT, sT] ty [.slice (some ⟨g, o, none⟩) dl dc, .slice (some ⟨b, oo, none⟩) sl sc]) w K Kp := by
  have hlen : (cs.toList.drop oo |>.take n).length = n := by simp; omega
  have hrun := Go.run_copy_row (P := P) w dT sT ty elem g o dl dc ⟨b, oo, none⟩ sl sc cur t ((cs.toList.drop oo).take n) hu hs hg
    (by rw [hlen, hn]) (fun j v hj => by
      rw [add_spot rfl, World.cell?, hb]
      rw [List.getElem?_take] at hj
      split at hj
      · rw [List.getElem?_drop] at hj
        simpa using hj
      · cases hj) (by rw [hlen]; exact hd) (fun v hv => h1 v (by
        have := List.mem_of_mem_drop (List.mem_of_mem_take hv)
        simpa using this))
  show outOf P _ w K Kp
  refine out_ok hrun ?_
  rw [setRow_upd hg, hlen]
  refine hK _ (by simp [hlen]; omega) (fun j => ?_)
  simp only [List.getElem?_toArray]
  by_cases h1 : j < o
  · rw [if_neg (by omega), List.append_assoc, List.getElem?_append_left (by simp; omega), List.getElem?_take, if_pos h1]; simp
  · by_cases h2 : j < o + n
    · rw [if_pos (by omega), List.getElem?_append_left (by simp [hlen]; omega), List.getElem?_append_right (by simp; omega), List.getElem?_take, if_pos (by simp; omega), List.getElem?_drop]
      simp only [List.length_take, Array.length_toList, Array.getElem?_toList]
      congr 1; omega
    · rw [if_neg (by omega), List.getElem?_append_right (by simp [hlen]; omega), List.getElem?_drop]
      simp only [List.length_append, List.length_take, Array.length_toList, Array.getElem?_toList, List.length_drop]
      congr 1; omega

theorem heap_alloc' (w : World) (o : Obj) : (w.alloc o).heap = w.heap.push o := rfl
/-! ### the frame of a walk: blocks outside M stay -/
structure Frm (M : Nat → Prop) (w w' : World) : Prop where
  os : w'.os = w.os
  tape : w'.tape = w.tape
  output : w'.output = w.output
  size : w.heap.size ≤ w'.heap.size
  block : ∀ k, k < w.heap.size → ¬ M k → w'.heap[k]? = w.heap[k]?
namespace Frm
variable {M M' : Nat → Prop} {w w' w'' : World}
theorem refl : Frm M w w := ⟨rfl, rfl, rfl, Nat.le_refl _, fun _ _ _ => rfl⟩
theorem trans (h : Frm M w w') (k : Frm M' w' w'') (hM : ∀ b, M' b → b < w.heap.size → M b) : Frm M w w'' :=
  ⟨k.os.trans h.os, k.tape.trans h.tape, k.output.trans h.output, Nat.le_trans h.size k.size, fun i hi hn => by
    rw [k.block i (Nat.lt_of_lt_of_le hi h.size) (fun hm => hn (hM i hm hi)), h.block i hi hn]⟩
theorem mono (h : Frm M w w') (hM : ∀ b, M b → b < w.heap.size → M' b) : Frm M' w w' :=
  ⟨h.os, h.tape, h.output, h.size, fun i hi hn => h.block i hi fun hm => hn (hM i hm hi)⟩
theorem alloc (w : World) (o : Obj) : Frm M w (w.alloc o) := ⟨rfl, rfl, rfl, by rw [heap_alloc']; simp, fun k hk _ => by rw [heap_alloc']; simp [Array.getElem?_push, Nat.ne_of_lt hk]⟩
theorem upd (w : World) {b : Nat} (o : Obj) (h : b < w.heap.size → M b) : Frm M w (w.upd b o) :=
  ⟨rfl, rfl, rfl, by simp, fun k hk hn => heap_upd_ne (fun e => hn (e ▸ h (e ▸ hk)))⟩
theorem drew (w : World) : Frm M w w.drew := ⟨rfl, rfl, rfl, Nat.le_refl _, fun _ _ _ => rfl⟩
theorem get (h : Frm M w w') {b : Nat} {o : Obj} (hb : w.heap[b]? = some o) (hn : ¬ M b) : w'.heap[b]? = some o := by
  rw [h.block b (Array.getElem?_eq_some_iff.1 hb).1 hn, hb]
end Frm
theorem hp_alloc_lt {w : World} {o : Obj} {b : Nat} {o' : Obj} (h : w.heap[b]? = some o') : (w.alloc o).heap[b]? = some o' := by
  have := (Array.getElem?_eq_some_iff.1 h).1
  rw [heap_alloc']; simp [Array.getElem?_push, Nat.ne_of_lt this, h]
theorem hp_alloc_new {w : World} {o : Obj} : (w.alloc o).heap[w.heap.size]? = some o := by rw [heap_alloc']; simp
@[simp] theorem size_alloc {w : World} {o : Obj} : (w.alloc o).heap.size = w.heap.size + 1 := by rw [heap_alloc']; simp
@[simp] theorem heap_drew {w : World} : w.drew.heap = w.heap := by have h := rfl (a := w.heap); exact h
theorem lt_of_get {w : World} {b : Nat} {o : Obj} (h : w.heap[b]? = some o) : b < w.heap.size := (Array.getElem?_eq_some_iff.1 h).1
theorem getElem?_ow (l : List Value) : ∀ (cs : Array Value) (o : Nat), o + l.length ≤ cs.size → ∀ j : Nat, (ow cs o l)[j]? = if o ≤ j ∧ j < o + l.length then l[j - o]? else cs[j]? := by
  induction l with
  | nil => intro cs o _ j; rw [ow, if_neg (by simp only [List.length_nil]; omega)]
  | cons v l ih =>
    intro cs o h j
    simp only [List.length_cons] at h ⊢
    rw [ow, ih _ _ (by simp; omega), Array.getElem?_setIfInBounds]
    by_cases h1 : j = o
    · subst h1; rw [if_neg (by omega), if_pos rfl, if_pos (by omega), if_pos (by omega)]; simp
    · by_cases h2 : o ≤ j ∧ j < o + (l.length + 1)
      · rw [if_pos (by omega), if_pos h2, show j - o = (j - (o + 1)) + 1 from by omega]; simp
      · rw [if_neg (by omega), if_neg (by omega), if_neg h2]
theorem ow_all {cs : Array Value} {l : List Value} (h : l.length = cs.size) : ow cs 0 l = l.toArray := by
  apply Array.ext_getElem?
  intro j
  rw [getElem?_ow l cs 0 (by omega) j]
  by_cases hj : j < l.length
  · rw [if_pos (by omega)]; simp
  · rw [if_neg (by omega), Array.getElem?_eq_none (by omega), Array.getElem?_eq_none (by simp; omega)]
theorem extract_self {cs : Array Value} {n : Nat} (h : cs.size = n) : cs.extract 0 n = cs := by subst h; simp
@[simp] theorem cells_agg {cs : Array Value} : (Value.agg cs).cells = cs := rfl
@[simp] theorem drew_upd {w : World} {b : Nat} {o : Obj} : (w.upd b o).drew = w.drew.upd b o := rfl
@[simp] theorem drew_alloc {w : World} {o : Obj} : (w.alloc o).drew = w.drew.alloc o := rfl
section
variable {k : IntKind} {n : Int} {a : Option Addr} {t : TypeId} {v : Value} {l c : Nat} {b : Bool} {s : ByteArray}
@[simp] theorem one_int : (Value.int k n).oneCell' = true := by have h : (Value.int k n).oneCell' = true := rfl; exact h
@[simp] theorem one_ptr : (Value.pointer a).oneCell' = true := by have h : (Value.pointer a).oneCell' = true := rfl; exact h
@[simp] theorem one_iface : (Value.iface t v).oneCell' = true := by have h : (Value.iface t v).oneCell' = true := rfl; exact h
@[simp] theorem one_niface : Value.nilIface.oneCell' = true := by have h : Value.nilIface.oneCell' = true := rfl; exact h
@[simp] theorem one_slice : (Value.slice a l c).oneCell' = true := by have h : (Value.slice a l c).oneCell' = true := rfl; exact h
@[simp] theorem one_bool : (Value.bool b).oneCell' = true := by have h : (Value.bool b).oneCell' = true := rfl; exact h
@[simp] theorem one_str : (Value.string s).oneCell' = true := by have h : (Value.string s).oneCell' = true := rfl; exact h
end
theorem alloc_upd {w : World} {b : Nat} {o o' : Obj} (h : b = w.heap.size) : (w.alloc o).upd b o' = w.alloc o' := by
  subst h
  show ({ w.alloc o with heap := (w.alloc o).heap.setIfInBounds w.heap.size o' } : World) = w.alloc o'
  rw [heap_alloc']
  have : (w.heap.push o).setIfInBounds w.heap.size o' = w.heap.push o' := by
    apply Array.ext_getElem?
    intro i
    rw [Array.getElem?_setIfInBounds, Array.getElem?_push, Array.getElem?_push]
    by_cases hi : w.heap.size = i
    · simp [hi]
    · rw [if_neg hi, if_neg (by omega), if_neg (by omega)]
  rw [this]; rfl
theorem hp_alloc_eq {w : World} {b : Nat} {o : Obj} (h : b = w.heap.size) : (w.alloc o).heap[b]? = some o := by subst h; exact hp_alloc_new
theorem hp_alloc_ne {w : World} {b : Nat} {o : Obj} (h : b ≠ w.heap.size) : (w.alloc o).heap[b]? = w.heap[b]? := by
  rw [heap_alloc', Array.getElem?_push, if_neg (by omega)]
end Go.Vc
end
section
/- append onto a row that the call has made. -/
set_option linter.unusedSimpArgs false
namespace Go.Vc
variable {P : Program} {w w' : World} {K : Value → World → Prop} {Kp : KP} {t : TypeId}

/-- Values stand one behind the other from a place on. -/
def Row (w : World) (a : Option Addr) (vs : List Value) : Prop :=
  vs = [] ∨ ∃ b o cs e fz, a = some ⟨b, o, none⟩ ∧ w.heap[b]? = some (.cells cs e fz) ∧ ∀ j v, vs[j]? = some v → cs[o + j]? = some v
theorem Row.frame {M : Nat → Prop} {a : Option Addr} {vs : List Value} (h : Row w a vs) (hf : Frm M w w') (hM : ∀ p, a = some p → ¬ M p.block) : Row w' a vs := by
  rcases h with h | ⟨b, o, cs, e, fz, h1, h2, h3⟩
  · exact .inl h
  · exact .inr ⟨b, o, cs, e, fz, h1, hf.get h2 (hM _ h1), h3⟩
theorem Row.get {a : Option Addr} {vs : List Value} (h : Row w a vs) {j : Nat} (hj : j < vs.length) :
    ∃ b o cs e fz, a = some ⟨b, o, none⟩ ∧ w.heap[b]? = some (.cells cs e fz) ∧ cs[o + j]? = some vs[j] := by
  rcases h with h | ⟨b, o, cs, e, fz, h1, h2, h3⟩
  · subst h; simp at hj
  · exact ⟨b, o, cs, e, fz, h1, h2, h3 j _ (by simp [hj])⟩

def apOf (P : Program) (t : TypeId) : Option (TypeId × Nat × Nat) := match P.underlying t with
  | some (.slice e) => match P.info? e with
    | some i => match i.zero with
      | some z => if z.cells.size = i.size ∧ 0 < i.size then some (e, i.size, i.bytes) else none
      | none => none
    | none => none
  | _ => none
theorem apOf_spec {e : TypeId} {size bytes : Nat} (h : apOf P t = some (e, size, bytes)) :
    ∃ i z, P.underlying t = some (.slice e) ∧ P.info? e = some i ∧ i.zero = some z ∧ i.size = size ∧ i.bytes = bytes ∧ z.cells.size = size ∧ 0 < size := by
  unfold apOf at h
  cases hu : P.underlying t with
  | none => simp [hu] at h
  | some d =>
    rw [hu] at h
    cases d with
    | slice e' =>
      cases hi : P.info? e' with
      | none => simp [hi] at h
      | some i =>
        cases hz : i.zero with
        | none => simp [hi, hz] at h
        | some z =>
          simp only [hi, hz, Option.ite_none_right_eq_some, Option.some.injEq, Prod.mk.injEq] at h
          obtain ⟨⟨h1, h2⟩, rfl, rfl, rfl⟩ := h
          exact ⟨i, z, rfl, hi, hz, rfl, rfl, h1, h2⟩
    | _ => simp at h

theorem run_append_empty {base e size n c : Nat} {ty : TypeId} {i : TypeInfo} {v : Value} {xs : List Value} (ht : P.underlying t = some (.slice e)) (hi : P.info? e = some i)
    (h : w.ownsRow base e size v n xs) : (Builtin.append_ #[t, t] ty #[v, .slice none 0 c]).run P w = .ok v w := by
  obtain ⟨_, ⟨rfl, rfl⟩ | ⟨g, cap, cur, rfl, _, _, hle, _⟩⟩ := h <;>
    simp [Builtin.append_, run_underlying ht, sizeOf, typeInfo, hi, Builtin.lenOf, Builtin.firstCells, storeCells]
  omega

/-- A row of the call's own grows. -/
theorem op_append {base e size bytes n m c : Nat} {ty : TypeId} {v : Value} {a : Option Addr} {xs news : List Value} (ha : apOf P t = some (e, size, bytes))
    (hown : w.ownsRow base e size v n xs) (hr : Row w a news) (hm : news.length = m * size) (h1 : ∀ u ∈ news, u.oneCell' = true) (hnone : a = none → m = 0)
    (h63 : (n + m) * (bytes + 1) ≤ 140737488355328) (hbase : base ≤ w.heap.size)
    (hK : ∀ v' w', w'.ownsRow base e size v' (n + m) (xs ++ news) → Frm (fun b => some b = v.ownBlock) w w' → (v'.ownBlock = v.ownBlock ∨ v'.ownBlock = some w.heap.size) → K v' w') :
    (nice P).op (.blt .append [t, t] ty [v, .slice a m c]) w K Kp := by
  obtain ⟨i, z, ht, hi, hz, hsize, hby, hzs, hsz⟩ := apOf_spec ha
  have hb1 : (n + m) * bytes ≤ 140737488355328 := Nat.le_trans (Nat.mul_le_mul_left _ (by omega)) h63
  have hb2 : n + m ≤ 140737488355328 := Nat.le_trans (Nat.le_mul_of_pos_right _ (by omega)) h63
  show outOf P _ w K Kp
  cases a with
  | none =>
    have hm0 := hnone rfl
    subst hm0
    have hn : news = [] := List.eq_nil_of_length_eq_zero (by simpa using hm)
    subst hn
    exact out_ok (run_append_empty (ty := ty) ht hi hown) (hK _ _ (by simpa using hown) Frm.refl (.inl rfl))
  | some p =>
    have hcells : ∀ j u, news[j]? = some u → w.cell? (p.add j) = some u := fun j u hu => by
      rcases hr with rfl | ⟨b, o, cs, e', fz, h1, h2, h3⟩
      · simp at hu
      · obtain rfl := Option.some.inj h1
        rw [add_spot rfl, World.cell?, h2]
        exact h3 j u hu
    obtain ⟨v', w', hrun, h2, h3, _, h5⟩ := Go.run_append_own_at (P := P) w base t ty e i z size bytes ht hi hz hsize hby hzs hsz v n xs hown p m c news hm hcells h1 (by unfold maxLen; omega) hb1 hbase
    exact out_ok hrun (hK _ _ h2 ⟨h3.os, h3.tape, h3.output, h3.size, fun k hk hn => h3.block k hk hn⟩ h5)

theorem own_nil {base e size : Nat} : w.ownsRow base e size (.slice none 0 0) 0 [] := ⟨by simp, .inl ⟨rfl, rfl⟩⟩
theorem own_frame {base e size n : Nat} {v : Value} {xs : List Value} {M : Nat → Prop} (h : w.ownsRow base e size v n xs) (hf : Frm M w w') (hM : ∀ b, v.ownBlock = some b → ¬ M b) : w'.ownsRow base e size v n xs := by
  obtain ⟨h1, h2 | ⟨g, cap, cur, rfl, h3, h4, h5⟩⟩ := h
  · exact ⟨h1, .inl h2⟩
  · exact ⟨h1, .inr ⟨g, cap, cur, rfl, h3, hf.get h4 (hM g rfl), h5⟩⟩
theorem own_base {base base' e size n : Nat} {v : Value} {xs : List Value} (h : w.ownsRow base e size v n xs) (hb : base' ≤ base) : w.ownsRow base' e size v n xs := by
  obtain ⟨h1, h2 | ⟨g, cap, cur, rfl, h3, h4, h5⟩⟩ := h
  · exact ⟨h1, .inl h2⟩
  · exact ⟨h1, .inr ⟨g, cap, cur, rfl, by omega, h4, h5⟩⟩
theorem own_lt {base e size n : Nat} {v : Value} {xs : List Value} (h : w.ownsRow base e size v n xs) : ∀ b, v.ownBlock = some b → base ≤ b ∧ b < w.heap.size := by
  obtain ⟨h1, ⟨rfl, _⟩ | ⟨g, cap, cur, rfl, h3, h4, h5⟩⟩ := h
  · intro b hb; cases hb
  · intro b hb; cases hb; exact ⟨h3, lt_of_get h4⟩
/-- A row of one's own as a slice. -/
theorem own_slice {base e size n : Nat} {v : Value} {xs : List Value} (h : w.ownsRow base e size v n xs) : ∃ a c, v = .slice a n c ∧ n ≤ c ∧ Row w a xs ∧ (a = none → n = 0) ∧ (∀ p, a = some p → v.ownBlock = some p.block) := by
  obtain ⟨h1, ⟨rfl, rfl⟩ | ⟨g, cap, cur, rfl, h3, h4, h5, h6, h7, h8⟩⟩ := h
  · exact ⟨none, 0, rfl, by omega, .inl (List.eq_nil_of_length_eq_zero (by simpa using h1)), fun _ => rfl, fun p hp => nomatch hp⟩
  · refine ⟨_, _, rfl, h5, .inr ⟨g, 0, cur, e, (0, 0), rfl, h4, fun j v hv => ?_⟩, (fun h => nomatch h), fun p hp => by cases hp; rfl⟩
    rw [← h8, List.getElem?_take] at hv
    split at hv
    · simpa using hv
    · cases hv

/-! ### rows of values of more than one cell -/
theorem flatMap_get {α : Type} {f : α → List Value} {k : Nat} (hk : ∀ x, (f x).length = k) : ∀ (xs : List α) (i r : Nat) (hi : i < xs.length), r < k → (xs.flatMap f)[i * k + r]? = (f xs[i])[r]?
  | [], i, r, hi, _ => by simp at hi
  | x :: xs, 0, r, hi, hr => by
    rw [List.flatMap_cons, List.getElem?_append_left (by rw [hk]; omega)]
    simp
  | x :: xs, i + 1, r, hi, hr => by
    have hi' : i < xs.length := by simpa using hi
    rw [List.flatMap_cons, List.getElem?_append_right (by rw [hk, Nat.add_mul]; omega), hk, show (i + 1) * k + r - k = i * k + r from by rw [Nat.add_mul]; omega]
    exact flatMap_get hk xs i r hi' hr
theorem flatMap_len {α : Type} {f : α → List Value} {k : Nat} (hk : ∀ x, (f x).length = k) (xs : List α) : (xs.flatMap f).length = xs.length * k := by
  induction xs with
  | nil => simp
  | cons x xs ih => simp [List.flatMap_cons, ih, hk, Nat.add_mul]; omega
theorem Row.part {α : Type} {f : α → List Value} {k : Nat} (hk : ∀ x, (f x).length = k) (hk0 : 0 < k) {a : Option Addr} {xs : List α} (h : Row w a (xs.flatMap f)) {i : Nat} (hi : i < xs.length) :
    ∃ b o cs e fz, a = some ⟨b, o, none⟩ ∧ w.heap[b]? = some (.cells cs e fz) ∧ o + i * k + k ≤ cs.size ∧ cs.extract (o + i * k) (o + i * k + k) = (f xs[i]).toArray := by
  rcases h with h | ⟨b, o, cs, e, fz, h1, h2, h3⟩
  · have := flatMap_len hk xs
    rw [h] at this
    have h4 : 0 < xs.length * k := Nat.mul_pos (by omega) hk0
    simp at this
    omega
  · have hget : ∀ r, r < k → cs[o + i * k + r]? = (f xs[i])[r]? := fun r hr => by
      have := flatMap_get hk xs i r hi hr
      have hl : r < (f xs[i]).length := by rw [hk]; exact hr
      rw [Nat.add_assoc, List.getElem?_eq_getElem hl]
      exact h3 _ _ (by rw [this, List.getElem?_eq_getElem hl])
    have hsz : o + i * k + k ≤ cs.size := by
      have := hget (k - 1) (by omega)
      rw [List.getElem?_eq_getElem (by rw [hk]; omega)] at this
      have := (Array.getElem?_eq_some_iff.1 this).1
      omega
    refine ⟨b, o, cs, e, fz, h1, h2, hsz, ?_⟩
    apply Array.ext_getElem?
    intro r
    rw [Array.getElem?_extract]
    by_cases hr : r < k
    · rw [if_pos (by omega), hget r hr]; simp
    · rw [if_neg (by omega), Array.getElem?_eq_none (by simp [hk]; omega)]
end Go.Vc
end
section
/- Rows of values in the heap that are read, copied, set and grown; what a check for nil says of a method's value. -/
set_option linter.unusedSimpArgs false
set_option linter.unusedVariables false
namespace Go.Vc
variable {P : Program} {w w' : World} {K : Value → World → Prop} {Kp : KP} {K1 : Value → Prop} {t : TypeId}

theorem pur_nil_meth {u : TypeId} {v : Value} {n : String} (h : ∀ w, (nilAhead (P.types.size + Made.depth) u v n).run P w = .ok (some false) w) :
    (nice P).pur (.nilCheck (.func (.method n) #[.iface u v] #[])) K1 = K1 (.func (.method n) #[.iface u v] #[]) := by
  have hr : ∀ w, (VOp.nilCheck (.func (.method n) #[.iface u v] #[])).sem.run P w = .ok (.func (.method n) #[.iface u v] #[]) w := fun w => by
    have hp : (program : Sem Program).run P w = .ok P w := rfl
    simp only [VOp.sem, nilSem, nilMeth, execOp]
    simp [hp, h]
  have : (nice P).pur (.nilCheck (.func (.method n) #[.iface u v] #[])) K1 = ∃ x, (∀ w, (VOp.nilCheck (.func (.method n) #[.iface u v] #[])).sem.run P w = .ok x w) ∧ K1 x := rfl
  rw [this]
  apply propext
  constructor
  · rintro ⟨x, hx, hk⟩
    have := (hx default).symm.trans (hr default)
    simp only [Result.ok.injEq] at this
    rw [← this.1]; exact hk
  · exact fun hk => ⟨_, hr, hk⟩

/-! ### slices of slices -/
theorem pur_cut_lo {len cap s b o : Nat} {e : TypeId} {k : IntKind} {x : Int} (h : sliceOf P t = some (e, s)) :
    (nice P).pur (.slice t (.slice (some ⟨b, o, none⟩) len cap) (some (.int k x)) none none) K1 =
      ((0 ≤ x ∧ x ≤ (len : Int) ∧ (len : Int) ≤ (cap : Int)) ∧ K1 (.slice (some (if cap = x.toNat then ⟨b, o, none⟩ else ⟨b, o + x.toNat * s, none⟩)) (len - x.toNat) (cap - x.toNat))) := by
  rw [pur_of (c := 0 ≤ x ∧ x ≤ (len : Int) ∧ (len : Int) ≤ (cap : Int)) (v := .slice (some (if cap = x.toNat then ⟨b, o, none⟩ else ⟨b, o + x.toNat * s, none⟩)) (len - x.toNat) (cap - x.toNat))]
  have : (⟨b, o, none⟩ : Addr).add (x.toNat * s) = ⟨b, o + x.toNat * s, none⟩ := add_spot rfl _
  simp only [pv, h, cutV, lowV, upV, Option.map_some, this, Int.toNat_natCast]
  split <;> rfl
theorem pur_cut_hi {len cap s b o : Nat} {e : TypeId} {k : IntKind} {x : Int} (h : sliceOf P t = some (e, s)) :
    (nice P).pur (.slice t (.slice (some ⟨b, o, none⟩) len cap) none (some (.int k x)) none) K1 =
      ((0 ≤ x ∧ x ≤ (cap : Int)) ∧ K1 (.slice (some ⟨b, o, none⟩) x.toNat cap)) := by
  rw [pur_of (c := (0 : Int) ≤ 0 ∧ 0 ≤ x ∧ x ≤ (cap : Int)) (v := .slice (some ⟨b, o, none⟩) x.toNat cap)]
  · simp
  · simp [pv, h, cutV, lowV, upV, Addr.add]
theorem op_cut_lo {len cap s b o : Nat} {e : TypeId} {k : IntKind} {x : Int} (h : sliceOf P t = some (e, s)) :
    (nice P).op (.slice t (.slice (some ⟨b, o, none⟩) len cap) (some (.int k x)) none none) w K Kp =
      ((0 ≤ x ∧ x ≤ (len : Int) ∧ (len : Int) ≤ (cap : Int)) ∧ K (.slice (some (if cap = x.toNat then ⟨b, o, none⟩ else ⟨b, o + x.toNat * s, none⟩)) (len - x.toNat) (cap - x.toNat)) w) := op_slice_lo h
theorem op_cut_hi {len cap s b o : Nat} {e : TypeId} {k : IntKind} {x : Int} (h : sliceOf P t = some (e, s)) :
    (nice P).op (.slice t (.slice (some ⟨b, o, none⟩) len cap) none (some (.int k x)) none) w K Kp =
      ((0 ≤ x ∧ x ≤ (cap : Int)) ∧ K (.slice (some ⟨b, o, none⟩) x.toNat cap) w) := by
  rw [op_of (c := (0 : Int) ≤ 0 ∧ 0 ≤ x ∧ x ≤ (cap : Int)) (v := .slice (some ⟨b, o, none⟩) x.toNat cap)]
  · simp
  · simp [pv, h, cutV, lowV, upV, Addr.add]

/-! ### rows -/
/-- A list in which a stretch from o on is l. -/
def lw (xs : List Value) (o : Nat) (l : List Value) : List Value := xs.take o ++ l ++ xs.drop (o + l.length)
theorem lw_len {xs l : List Value} {o : Nat} (h : o + l.length ≤ xs.length) : (lw xs o l).length = xs.length := by simp [lw]; omega
theorem ow_lw (l : List Value) : ∀ (cs : Array Value) (o : Nat), o + l.length ≤ cs.size → (ow cs o l).toList = lw cs.toList o l := fun cs o h => by
  apply List.ext_getElem?
  intro j
  rw [Array.getElem?_toList, getElem?_ow l cs o h j]
  simp only [lw, List.append_assoc]
  by_cases h1 : j < o
  · rw [if_neg (by omega), List.getElem?_append_left (by simp; omega), List.getElem?_take, if_pos h1]; simp
  · by_cases h2 : j < o + l.length
    · rw [if_pos (by omega), List.getElem?_append_right (by simp; omega), List.getElem?_append_left (by simp; omega)]
      simp only [List.length_take, Array.length_toList]
      congr 1; omega
    · rw [if_neg (by omega), List.getElem?_append_right (by simp; omega), List.getElem?_append_right (by simp; omega), List.getElem?_drop]
      simp only [List.length_take, Array.length_toList, Array.getElem?_toList]
      congr 1; omega
theorem lw_take {xs l : List Value} {o n : Nat} (h : o + l.length ≤ n) (hn : n ≤ xs.length) : (lw xs o l).take n = lw (xs.take n) o l := by
  apply List.ext_getElem?
  intro j
  simp only [lw, List.getElem?_take, List.getElem?_append, List.getElem?_drop, List.length_take, List.length_append, List.length_drop]
  repeat' split
  all_goals first | rfl | omega | (congr 1; omega) | (rw [List.getElem?_eq_none]; simp; omega) | (symm; rw [List.getElem?_eq_none]; simp; omega) | skip

/-- A row of values, of size cells each, that begins block g and has room for cap. -/
def Rw (w : World) (e : TypeId) (s g cap : Nat) (xs : List Value) : Prop :=
  ∃ cur, w.heap[g]? = some (.cells cur e (0, 0)) ∧ cur.size = cap * s ∧ xs.length ≤ cap * s ∧ cur.toList.take xs.length = xs ∧ cap ≤ maxLen
variable {e : TypeId} {s g cap : Nat} {xs : List Value}
theorem Rw.frame {M : Nat → Prop} (h : Rw w e s g cap xs) (hf : Frm M w w') (hM : ¬ M g) : Rw w' e s g cap xs := by
  obtain ⟨cur, h1, h2⟩ := h
  exact ⟨cur, hf.get h1 hM, h2⟩
theorem Rw.keep (h : Rw w e s g cap xs) (hf : ∀ o, w.heap[g]? = some o → w'.heap[g]? = some o) : Rw w' e s g cap xs := by
  obtain ⟨cur, h1, h2⟩ := h
  exact ⟨cur, hf _ h1, h2⟩
theorem Rw.drew (h : Rw w e s g cap xs) : Rw w.drew e s g cap xs := h.keep fun _ h => by simpa using h
theorem Rw.lt (h : Rw w e s g cap xs) : g < w.heap.size := by obtain ⟨cur, h1, h2⟩ := h; exact lt_of_get h1
theorem Rw.fit (h : Rw w e s g cap xs) : xs.length ≤ cap * s := by obtain ⟨cur, h1, h2, h3, h4⟩ := h; exact h3
/-- The cells behind a row. -/
theorem Rw.cells (h : Rw w e s g cap xs) : ∃ cur, w.heap[g]? = some (.cells cur e (0, 0)) ∧ cur.size = cap * s ∧ ∀ j, j < xs.length → cur[j]? = xs[j]? := by
  obtain ⟨cur, h1, h2, h3, h4⟩ := h
  refine ⟨cur, h1, h2, fun j hj => ?_⟩
  have := congrArg (fun l => l[j]?) h4.1
  simp only [List.getElem?_take, if_pos hj] at this
  simpa using this
theorem Rw.part (h : Rw w e s g cap xs) : ∃ cur, w.heap[g]? = some (.cells cur e (0, 0)) ∧ cur.size = cap * s ∧ ∀ i n, i + n ≤ xs.length → i + n ≤ cur.size ∧ cur.extract i (i + n) = ((xs.drop i).take n).toArray := by
  obtain ⟨cur, h1, h2, h3, h4, h5⟩ := h
  refine ⟨cur, h1, h2, fun i n hin => ⟨by omega, ?_⟩⟩
  apply Array.ext'
  rw [Array.toList_extract, List.extract_eq_take_drop, ← h4, List.drop_take, List.take_take]
  simp only [List.length_take, Array.length_toList]
  congr 1; omega
/-- A stretch of a row is written. -/
theorem Rw.write {l : List Value} {o : Nat} {cur : Array Value} (h : Rw w e s g cap xs) (hb : w.heap[g]? = some (.cells cur e (0, 0))) (ho : o + l.length ≤ xs.length) :
    Rw (w.upd g (.cells (ow cur o l) e (0, 0))) e s g cap (lw xs o l) := by
  obtain ⟨cur', h1, h2, h3, h4, h5⟩ := h
  have : cur' = cur := by have := h1.symm.trans hb; simpa using this
  subst this
  refine ⟨_, heap_upd_same h1, by simp [h2], by rw [lw_len ho]; exact h3, ?_, h5⟩
  rw [ow_lw _ _ _ (by omega), lw_len ho, lw_take ho (by simp; omega), h4]
theorem Rw.own (h : Rw w e s g cap xs) {n : Nat} (hn : xs.length = n * s) (hc : n ≤ cap) : w.ownsRow 0 e s (.slice (some ⟨g, 0, none⟩) n cap) n xs := by
  obtain ⟨cur, h1, h2, h3, h4, h5⟩ := h
  exact ⟨hn, .inr ⟨g, cap, cur, rfl, by omega, h1, hc, h5, h2, by rw [← hn]; exact h4⟩⟩
theorem Rw.of_own {v : Value} {n : Nat} (h : w.ownsRow 0 e s v n xs) (h0 : 0 < n) : ∃ g cap, v = .slice (some ⟨g, 0, none⟩) n cap ∧ n ≤ cap ∧ Rw w e s g cap xs ∧ v.ownBlock = some g := by
  obtain ⟨h1, h2 | ⟨g, cap, cur, rfl, h3, h4, h5, h6, h7, h8⟩⟩ := h
  · omega
  · exact ⟨g, cap, rfl, h5, ⟨cur, h4, h7, by rw [h1]; exact Nat.mul_le_mul_right _ h5, by rw [h1]; exact h8, h6⟩, rfl⟩
theorem Rw.lit {xs : List Value} {n : Nat} (hn : xs.length = n * s) (h5 : n ≤ maxLen) (hg : w.heap[g]? = some (.cells xs.toArray e (0, 0))) : Rw w e s g n xs :=
  ⟨_, hg, by simp [hn], by omega, by simp, h5⟩

/-- A row is made. -/
theorem op_make {k : IntKind} {n bytes : Nat} {m : Int} (ha : apOf P t = some (e, s, bytes)) (hm : m = n) (hb : n * (bytes + 1) ≤ 140737488355328)
    (hK : ∀ zs : List Value, zs.length = n * s → n ≤ maxLen → K (.slice (some ⟨w.heap.size, 0, none⟩) n n) (w.alloc (.cells zs.toArray e))) :
    (nice P).op (.mkSlice t (.int k m) (.int k m)) w K Kp := by
  obtain ⟨i, z, ht, hi, hz, hsize, hby, hzs, hsz⟩ := apOf_spec ha
  have h1 : n * bytes ≤ 140737488355328 := Nat.le_trans (Nat.mul_le_mul_left _ (by omega)) hb
  have h2 : n ≤ 140737488355328 := Nat.le_trans (Nat.le_mul_of_pos_right _ (by omega)) hb
  subst hm
  have hr := run_make (P := P) w t e i z ht hi hz k k n n (by omega) (Int.le_refl _) (by rw [hby]; have : ((bytes * n : Nat) : Int) ≤ 140737488355328 := by rw [Nat.mul_comm]; omega
                                                                                         rw [Int.natCast_mul] at this; omega) (by omega)
  simp only [Int.toNat_natCast] at hr
  show outOf P _ w K Kp
  refine out_ok hr ?_
  have := hK (madeCells z.cells (n * i.size)).toList (by rw [Array.length_toList, size_madeCells, hsize]) (by unfold maxLen; omega)
  simpa using this

/-- Elements of a row are copied onto those of another one, or of the same one. -/
theorem op_copyN {dT sT ty elem : TypeId} {g o dl dc b oo sl sc n : Nat} {cur cs : Array Value} {t e : TypeId} {fz : Nat × Nat}
    (hu : P.underlying dT = some (.slice elem)) (hs : szOf P elem = some s)
    (hg : w.heap[g]? = some (.cells cur t (0, 0))) (hb : w.heap[b]? = some (.cells cs e fz)) (hn : n = min sl dl)
    (hd : o + n * s ≤ cur.size) (hsr : oo + n * s ≤ cs.size) (h1 : ∀ v ∈ (cs.toList.drop oo).take (n * s), v.oneCell' = true)
    (hK : K (.int .i64 n) (w.upd g (.cells (ow cur o ((cs.toList.drop oo).take (n * s))) t (0, 0)))) :
    (nice P).op (.blt .copy [dT, sT] ty [.slice (some ⟨g, o, none⟩) dl dc, .slice (some ⟨b, oo, none⟩) sl sc]) w K Kp := by
  have hlen : ((cs.toList.drop oo).take (n * s)).length = n * s := by simp; omega
  have hl := run_loadCells_list (P := P) w ⟨b, oo, none⟩ ((cs.toList.drop oo).take (n * s)) (fun j v hj => by
      rw [add_spot rfl, World.cell?, hb]
      rw [List.getElem?_take] at hj
      split at hj
      · rw [List.getElem?_drop] at hj
        simpa using hj
      · cases hj)
  have hst := run_storeCells (P := P) ((cs.toList.drop oo).take (n * s)) (w := w) (p := ⟨g, o, none⟩) 0 hg rfl (by rw [hlen]; exact hd) h1
  rw [hlen] at hl
  show outOf P _ w K Kp
  have hn' : Nat.min sl dl = n := hn.symm
  cases hq : P.info? elem with
  | none => simp [szOf, hq] at hs
  | some i =>
    have hi : i.size = s := by simpa [szOf, hq] using hs
    refine out_ok (v := .int .i64 n) ?_ hK
    simp [VOp.sem, bltSem, Builtin.copy_, run_und hu, Builtin.lenOf, Builtin.firstCells, sizeOf, typeInfo, hq, hi, hn', hl, hst, goInt]
/-- The same of rows. -/
theorem op_copyR {dT sT ty e' : TypeId} {g o dl dc b oo sl sc n cap' : Nat} {ys : List Value} (hc : (sliceOf P dT).map (·.2) = some s) 
    (hg : Rw w e s g cap xs) (hb : Rw w e' s b cap' ys) (hn : n = min sl dl) (hd : o + n * s ≤ xs.length) (hsr : oo + n * s ≤ ys.length) (h1 : ∀ v ∈ ys, v.oneCell' = true)
    (hK : ∀ w', Frm (· = g) w w' → w'.heap.size = w.heap.size → Rw w' e s g cap (lw xs o ((ys.drop oo).take (n * s))) → K (.int .i64 n) w') :
    (nice P).op (.blt .copy [dT, sT] ty [.slice (some ⟨g, o, none⟩) dl dc, .slice (some ⟨b, oo, none⟩) sl sc]) w K Kp := by
  cases hq : sliceOf P dT with
  | none => simp [hq] at hc
  | some es =>
    obtain ⟨el, s'⟩ := es
    have : s' = s := by simpa [hq] using hc
    subst this
    obtain ⟨hu, hs⟩ := slice_spec hq
    obtain ⟨cur, h2, h3, h4, h5, h6⟩ := id hg
    obtain ⟨cs, k2, k3, k4, k5, k6⟩ := id hb
    have hseg : (cs.toList.drop oo).take (n * s') = (ys.drop oo).take (n * s') := by
      rw [← k5, List.drop_take, List.take_take]; congr 1; omega
    have hlen : ((ys.drop oo).take (n * s')).length = n * s' := by simp; omega
    refine op_copyN hu hs h2 k2 hn (by omega) (by omega) (fun v hv => h1 v ?_) ?_
    · rw [hseg] at hv; exact List.mem_of_mem_drop (List.mem_of_mem_take hv)
    · rw [hseg]
      exact hK _ (Frm.upd _ _ fun _ => rfl) (by simp) (hg.write h2 (by rw [hlen]; exact hd))
end Go.Vc
end
section
/- Single steps with the world behind them under a name: what is new in it, and what stays. -/
set_option linter.unusedSimpArgs false
set_option linter.unusedVariables false
namespace Go.Vc
variable {P : Program} {w w' : World} {K : Value → World → Prop} {Kp : KP} {t e : TypeId} {b o : Nat} {cs : Array Value} {v : Value} {s g cap : Nat} {xs : List Value}

theorem Frm.dr {M : Nat → Prop} {w w' : World} (h : Frm M w.drew w') : Frm M w w' := (Frm.drew w).trans h fun _ h _ => h
theorem Frm.no {w w' w'' : World} (h : Frm (fun _ => False) w w') (k : Frm (fun _ => False) w' w'') : Frm (fun _ => False) w w'' := h.trans k fun _ h _ => h
theorem Frm.tr {M M' : Nat → Prop} {w w' w'' : World} (h : Frm M w w') (k : Frm M' w' w'') : Frm (fun b => M b ∨ M' b) w w'' :=
  (h.mono fun b hb _ => .inl hb).trans k fun b hb _ => .inr hb
/-- What is written anew is no matter. -/
theorem Frm.old {M M' : Nat → Prop} {w w' w'' : World} (h : Frm M w w') (k : Frm M' w' w'') (hM : ∀ b, M' b → M b ∨ w.heap.size ≤ b) : Frm M w w'' :=
  h.trans k fun b hb hl => (hM b hb).elim id fun h => absurd hl (by omega)

/-- A step behind one that writes nothing old. -/
theorem Frm.fst {M : Nat → Prop} {w w' w'' : World} (h : Frm (fun _ => False) w w') (k : Frm M w' w'') : Frm M w w'' := (h.mono fun _ h _ => h.elim).trans k fun _ h _ => h
theorem Frm.to {M M' : Nat → Prop} {w w' : World} (h : Frm M w w') (hM : ∀ b, M b → M' b) : Frm M' w w' := h.mono fun b hb _ => hM b hb

theorem op_box_ok (hK : ∀ w', Frm (fun _ => False) w w' → w'.heap.size = w.heap.size + 1 → w'.heap[w.heap.size]? = some (.cells v.cells t (0, 0)) → K (.pointer (some ⟨w.heap.size, 0, none⟩)) w') : (nice P).op (.box t v) w K Kp :=
  hK _ (Frm.alloc _ _) size_alloc hp_alloc_new
theorem op_alloc_ok {z : Value} (h : zeroOf P t = some z) (hK : ∀ w', Frm (fun _ => False) w w' → w'.heap.size = w.heap.size + 1 → w'.heap[w.heap.size]? = some (.cells z.cells t (0, 0)) → K (.pointer (some ⟨w.heap.size, 0, none⟩)) w') : (nice P).op (.alloc t) w K Kp := by
  rw [op_alloc h]
  exact hK _ (Frm.alloc _ _) size_alloc hp_alloc_new
theorem op_lit_ok {n : Nat} {ps : List (Nat × Value)} (h : sliceLit P t n ps = some (e, cs)) (hK : ∀ w', Frm (fun _ => False) w w' → w'.heap.size = w.heap.size + 1 → w'.heap[w.heap.size]? = some (.cells cs e (0, 0)) → K (.slice (some ⟨w.heap.size, 0, none⟩) n n) w') :
    (nice P).op (.buildSlice t n ps) w K Kp := by
  rw [op_lit h]
  exact hK _ (Frm.alloc _ _) size_alloc hp_alloc_new
theorem op_store_ok (h : ldk P t = some .one) (hb : w.heap[b]? = some (.cells cs e (0, 0))) (ho : o < cs.size) (h1 : v.oneCell' = true)
    (hK : ∀ w', Frm (· = b) w w' → w'.heap.size = w.heap.size → w'.heap[b]? = some (.cells (cs.setIfInBounds o v) e (0, 0)) → K undef w') : (nice P).op (.store t (.pointer (some ⟨b, o, none⟩)) v) w K Kp := by
  rw [op_st h]
  exact ⟨cs, e, hb, rfl, ho, h1, hK _ (Frm.upd _ _ fun _ => rfl) (by simp) (heap_upd_same hb)⟩
theorem op_make_ok {k : IntKind} {n bytes : Nat} {m : Int} (ha : apOf P t = some (e, s, bytes)) (hm : m = n) (hb : n * (bytes + 1) ≤ 140737488355328)
    (hK : ∀ w' zs, Frm (fun _ => False) w w' → w'.heap.size = w.heap.size + 1 → zs.length = n * s → Rw w' e s w.heap.size n zs → K (.slice (some ⟨w.heap.size, 0, none⟩) n n) w') :
    (nice P).op (.mkSlice t (.int k m) (.int k m)) w K Kp :=
  op_make ha hm hb fun zs hz hn => hK _ zs (Frm.alloc _ _) size_alloc hz (Rw.lit hz hn hp_alloc_new)
/-- An element of one cell is written into a row. -/
theorem op_storeR1 (h : ldk P t = some .one) (hr : Rw w e s g cap xs) (ho : o < xs.length) (h1 : v.oneCell' = true)
    (hK : ∀ w', Frm (· = g) w w' → w'.heap.size = w.heap.size → Rw w' e s g cap (xs.set o v) → K undef w') : (nice P).op (.store t (.pointer (some ⟨g, o, none⟩)) v) w K Kp := by
  obtain ⟨cur, h2, h3, h4, h5, h6⟩ := id hr
  refine op_store_ok h h2 (by omega) h1 fun w' hf hs hb => hK w' hf hs ⟨_, hb, by simp [h3], by simpa using h4, ?_, h6⟩
  rw [Array.toList_setIfInBounds, List.length_set, List.take_set, h5]
/-- An element of several cells is written into a row. -/
theorem op_storeRN {vs : Array Value} {n : Nat} (h : ldk P t = some (.agg n)) (hn : vs.size = n) (hr : Rw w e s g cap xs) (ho : o + n ≤ xs.length) (h1 : ∀ u ∈ vs, u.oneCell' = true)
    (hK : ∀ w', Frm (· = g) w w' → w'.heap.size = w.heap.size → Rw w' e s g cap (lw xs o vs.toList) → K undef w') : (nice P).op (.store t (.pointer (some ⟨g, o, none⟩)) (.agg vs)) w K Kp := by
  obtain ⟨cur, h2, h3, h4, h5, h6⟩ := id hr
  rw [op_stn h]
  exact ⟨hn, fun u hu => h1 u (by simpa using hu), cur, e, h2, rfl, by show o + n ≤ cur.size; omega, hK _ (Frm.upd w _ fun _ => rfl) (by simp) (hr.write h2 (by simpa [hn] using ho))⟩
theorem lw_nil {xs : List Value} {o : Nat} : lw xs o [] = xs := by simp [lw]
/-- Copying between slices of rows. -/
theorem op_copyX {dT sT ty e' : TypeId} {a1 a2 : Addr} {x1 x2 dl dc q sl sc n cap' : Nat} {ys : List Value} (hc : (sliceOf P dT).map (·.2) = some s)
    (hg : Rw w e s g cap xs) (hb : Rw w e' s q cap' ys) (h1 : a1 = ⟨g, x1 * s, none⟩ ∨ a1 = ⟨g, 0, none⟩ ∧ n = 0) (h2 : a2 = ⟨q, x2 * s, none⟩ ∨ a2 = ⟨q, 0, none⟩ ∧ n = 0) (hn : n = min sl dl)
    (hd : x1 * s + n * s ≤ xs.length) (hsr : x2 * s + n * s ≤ ys.length) (ho : ∀ v ∈ ys, v.oneCell' = true)
    (hK : ∀ w', Frm (· = g) w w' → w'.heap.size = w.heap.size → Rw w' e s g cap (lw xs (x1 * s) ((ys.drop (x2 * s)).take (n * s))) → K (.int .i64 n) w') :
    (nice P).op (.blt .copy [dT, sT] ty [.slice (some a1) dl dc, .slice (some a2) sl sc]) w K Kp := by
  by_cases h0 : n = 0
  · subst h0
    obtain ⟨o1, rfl⟩ : ∃ o1, a1 = ⟨g, o1, none⟩ := by rcases h1 with h | h; exact ⟨_, h⟩; exact ⟨_, h.1⟩
    obtain ⟨o2, rfl⟩ : ∃ o2, a2 = ⟨q, o2, none⟩ := by rcases h2 with h | h; exact ⟨_, h⟩; exact ⟨_, h.1⟩
    have e1 : o1 ≤ xs.length := by
      rcases h1 with h | h
      · simp only [Addr.mk.injEq] at h; omega
      · have := h.1; simp only [Addr.mk.injEq] at this; omega
    have e2 : o2 ≤ ys.length := by
      rcases h2 with h | h
      · simp only [Addr.mk.injEq] at h; omega
      · have := h.1; simp only [Addr.mk.injEq] at this; omega
    refine op_copyR hc hg hb hn (by omega) (by omega) ho fun w' k z r => hK w' k z ?_
    simpa [lw_nil] using r
  · obtain rfl : a1 = ⟨g, x1 * s, none⟩ := h1.resolve_right fun h => h0 h.2
    obtain rfl : a2 = ⟨q, x2 * s, none⟩ := h2.resolve_right fun h => h0 h.2
    exact op_copyR hc hg hb hn hd hsr ho hK
/-- A row is lengthened. -/
theorem op_appendR {bytes n m q qcap : Nat} {ty : TypeId} {news : List Value} (ha : apOf P t = some (e, s, bytes)) (hr : Rw w e s g cap xs) (hn : xs.length = n * s) (hc : n ≤ cap) (hq : Rw w e s q qcap news) (hm : news.length = m * s)
    (h1 : ∀ u ∈ news, u.oneCell' = true) (h0 : 0 < n + m) (h63 : (n + m) * (bytes + 1) ≤ 140737488355328)
    (hK : ∀ w' g' cap', Frm (· = g) w w' → Rw w' e s g' cap' (xs ++ news) → n + m ≤ cap' → (g' = g ∨ g' = w.heap.size) → K (.slice (some ⟨g', 0, none⟩) (n + m) cap') w') :
    (nice P).op (.blt .append [t, t] ty [.slice (some ⟨g, 0, none⟩) n cap, .slice (some ⟨q, 0, none⟩) m qcap]) w K Kp := by
  obtain ⟨cur, k1, k2, k3⟩ := hq.cells
  refine op_append ha (hr.own hn hc) (.inr ⟨q, 0, cur, e, (0, 0), rfl, k1, fun j u hu => ?_⟩) hm h1 (fun h => by cases h) h63 (by omega) fun v' w' ho hf hb => ?_
  · rw [Nat.zero_add, k3 j (List.getElem?_eq_some_iff.1 hu).1]; exact hu
  · obtain ⟨g', cap', rfl, hc', hr', hb'⟩ := Rw.of_own ho h0
    refine hK w' g' cap' (hf.mono fun b hb _ => ?_) hr' hc' ?_
    · exact (Option.some.inj hb)
    · rw [hb'] at hb
      exact hb.imp (fun h => Option.some.inj h) (fun h => Option.some.inj h)

/-- An element of an array. -/
theorem op_index_arr {len j : Nat} {el : TypeId} {k : IntKind} {u : Value} (ht : P.underlying t = some (.array len el)) (hl : ldk P el = some .one) (hj : j < len) (hu : cs[j]? = some u) (hK : K u w) : (nice P).op (.index t (.agg cs) (.int k (j : Int))) w K Kp := by
  show outOf P (VOp.index t (.agg cs) (.int k (j : Int))).sem w K Kp
  refine out_ok ?_ hK
  have hs := (ldk_one hl).1
  have hp := ldk_part hl (cs := cs) (off := j) (v := u) (by simp [partV, hu]) w
  cases hq : P.info? el with
  | none => simp [szOf, hq] at hs
  | some i =>
    have hi : i.size = 1 := by simpa [szOf, hq] using hs
    simp [VOp.sem, Instr.index, asIntOf, run_und ht, sizeOf, typeInfo, hq, hi, hj, hp]
/-- A row is made that has room alone. -/
theorem op_make0 {k k' : IntKind} {n bytes : Nat} (ha : apOf P t = some (e, s, bytes)) (hb : n * (bytes + 1) ≤ 140737488355328)
    (hK : ∀ w', Frm (fun _ => False) w w' → w'.heap.size = w.heap.size + 1 → Rw w' e s w.heap.size n [] → K (.slice (some ⟨w.heap.size, 0, none⟩) 0 n) w') :
    (nice P).op (.mkSlice t (.int k 0) (.int k' (n : Int))) w K Kp := by
  obtain ⟨i, z, ht, hi, hz, hsize, hby, hzs, hsz⟩ := apOf_spec ha
  have h1 : n * bytes ≤ 140737488355328 := Nat.le_trans (Nat.mul_le_mul_left _ (by omega)) hb
  have h2 : n ≤ 140737488355328 := Nat.le_trans (Nat.le_mul_of_pos_right _ (by omega)) hb
  have h3 : (i.bytes : Int) * (n : Int) ≤ 281474976710656 := by
    have : ((bytes * n : Nat) : Int) ≤ 140737488355328 := by rw [Nat.mul_comm]; omega
    rw [Int.natCast_mul] at this
    rw [hby]; omega
  have hr := run_make (P := P) w t e i z ht hi hz k k' 0 n (Int.le_refl _) (by omega) h3 (by omega)
  simp only [Int.toNat_natCast, Int.toNat_zero] at hr
  show outOf P _ w K Kp
  refine out_ok hr (hK _ (Frm.alloc _ _) size_alloc ⟨_, hp_alloc_new, ?_, by simp, by simp, by unfold maxLen; omega⟩)
  rw [size_madeCells, hsize]

/-! ### a row in which a place is made, or taken away -/
theorem set_split {α : Type} {l : List α} {r : Nat} {v : α} (h : r < l.length) : l.set r v = l.take r ++ v :: l.drop (r + 1) := by rw [List.set_eq_take_append_cons_drop, if_pos h]
theorem ins_mut {A : List Value} {r : Nat} {z v : Value} (h : r ≤ A.length) : (lw (A ++ [z]) (r + 1) (((A ++ [z]).drop r).take (A.length - r))).set r v = A.take r ++ v :: A.drop r := by
  have e : ((A ++ [z]).drop r).take (A.length - r) = A.drop r := by
    rw [List.drop_append_of_le_length h, List.take_append_of_le_length (by simp), List.take_of_length_le (by simp)]
  have el : (A.drop r).length = A.length - r := by simp
  rw [e, set_split (by rw [lw_len (by simp; omega)]; simp; omega), lw, el, List.drop_of_length_le (l := A ++ [z]) (by simp; omega), List.append_nil]
  rw [List.take_append_of_le_length (by simp; omega), List.take_take, Nat.min_eq_left (by omega), List.take_append_of_le_length h, List.drop_append_of_le_length (by simp; omega), List.drop_of_length_le (by simp; omega), List.nil_append]
theorem lw_tail {p d l : List Value} {o : Nat} (ho : o = p.length) (h : d.length = l.length) : lw (p ++ d) o l = p ++ l := by subst ho; simp [lw, ← h]
theorem ins_new {A zs : List Value} {r : Nat} {v : Value} (h : r ≤ A.length) (hz : zs.length = A.length + 1) : lw ((lw zs 0 (A.take r)).set r v) (r + 1) ((A.drop r).take (A.length - r)) = A.take r ++ v :: A.drop r := by
  have e : (A.drop r).take (A.length - r) = A.drop r := List.take_of_length_le (by simp)
  have h1 : lw zs 0 (A.take r) = A.take r ++ zs.drop r := by simp [lw, Nat.min_eq_left h]
  have ht : (A.take r).length = r := by simp; omega
  have hd : zs.drop r = zs[r] :: zs.drop (r + 1) := List.drop_eq_getElem_cons (by omega)
  have h2 : (A.take r ++ zs.drop r).set r v = (A.take r ++ [v]) ++ zs.drop (r + 1) := by
    rw [List.set_append_right _ _ (by rw [ht]; exact Nat.le_refl _), ht, Nat.sub_self, show (zs.drop r).set 0 v = v :: zs.drop (r + 1) from by rw [hd]; rfl]; simp
  rw [e, h1, h2, lw_tail (by simp; omega) (by simp; omega)]; simp
/-- Taken away in place: the row without the place, and one cell of rest. -/
theorem del_mut {A : List Value} {r m : Nat} (h : r + m ≤ A.length) : (lw A r ((A.drop (r + m)).take (A.length - r - m))).take (A.length - m) = A.take r ++ A.drop (r + m) := by
  have e : (A.drop (r + m)).take (A.length - r - m) = A.drop (r + m) := List.take_of_length_le (by simp; omega)
  rw [e, lw, List.take_append_of_le_length (by simp; omega), List.take_of_length_le (by simp; omega)]
theorem del_new {A zs : List Value} {r m : Nat} (h : r + m ≤ A.length) (hz : zs.length = A.length - m) : lw (lw zs 0 (A.take r)) r ((A.drop (r + m)).take (A.length - r - m)) = A.take r ++ A.drop (r + m) := by
  have e : (A.drop (r + m)).take (A.length - r - m) = A.drop (r + m) := List.take_of_length_le (by simp; omega)
  have h1 : lw zs 0 (A.take r) = A.take r ++ zs.drop r := by simp [lw, Nat.min_eq_left (show r ≤ A.length by omega)]
  rw [e, h1, lw_tail (by simp; omega) (by simp; omega)]
end Go.Vc
end
section
/- Hash array mapped tries as plain trees: what setting, deleting and getting make of them, and that they keep a set of pairs. -/
set_option linter.unusedSectionVars false
namespace Go.Vc
/-- A node: nothing, a row of pairs, a branch (hs: with a fixed row of 32 places, else with a bitmap), a pair, pairs with one hash. -/
inductive Nd (κ ν : Type) where
  | emp
  | arr (es : List (κ × ν))
  | br (hs : Bool) (f : Nat → Nd κ ν)
  | val (h : Nat) (k : κ) (v : ν)
  | col (h : Nat) (es : List (κ × ν))
namespace Nd
variable {κ ν : Type} [DecidableEq κ]

def isEmp : Nd κ ν → Bool
  | emp => true
  | _ => false
theorem isEmp_iff {t : Nd κ ν} : t.isEmp = true ↔ t = emp := by cases t <;> simp [isEmp]
def cnt (f : Nat → Nd κ ν) : Nat := ((List.range 32).filter fun i => !(f i).isEmp).length
/-- The part of a hash that a level goes by. -/
def frag (l h : Nat) : Nat := h / 32 ^ l % 32
theorem frag_lt (l h : Nat) : frag l h < 32 := Nat.mod_lt _ (by decide)
def put (f : Nat → Nd κ ν) (i : Nat) (t : Nd κ ν) : Nat → Nd κ ν := fun j => if j = i then t else f j
def one (i : Nat) (t : Nd κ ν) : Nat → Nd κ ν := put (fun _ => emp) i t

/-- The place of a key among pairs. -/
def find (es : List (κ × ν)) (k : κ) : Option Nat := es.findIdx? fun e => decide (e.1 = k)
def upd (es : List (κ × ν)) (k : κ) (v : ν) : List (κ × ν) := match find es k with
  | some i => es.set i (k, v)
  | none => es ++ [(k, v)]
def wipe (es : List (κ × ν)) (k : κ) : List (κ × ν) := match find es k with
  | some i => es.eraseIdx i
  | none => es

/-- A leaf and a pair with another hash, from level l on. -/
def merge (t : Nd κ ν) (h1 h2 : Nat) (k : κ) (v : ν) : Nat → Nat → Nd κ ν
  | 0, _ => emp
  | n + 1, l => if frag l h1 = frag l h2 then br false (one (frag l h1) (merge t h1 h2 k v n (l + 1))) else br false (put (one (frag l h1) t) (frag l h2) (val h2 k v))

def setIn (hk : Nat) (k : κ) (v : ν) : Nd κ ν → Nat → Nd κ ν
  | emp, _ => val hk k v
  | arr es, _ => arr es
  | br hs f, l => br (hs || (f (frag l hk)).isEmp && decide (16 < cnt f)) (put f (frag l hk) (setIn hk k v (f (frag l hk)) (l + 1)))
  | val h k' v', l => if k' = k then val h k v else if h = hk then col h [(k', v'), (k, v)] else merge (val h k' v') h hk k v (7 - l) l
  | col h es, l => if h = hk then col h (upd es k v) else merge (col h es) h hk k v (7 - l) l
def set (hash : κ → Nat) (t : Nd κ ν) (k : κ) (v : ν) : Nd κ ν := match t with
  | emp => arr [(k, v)]
  | arr es => if (find es k).isNone && decide (8 ≤ es.length) then es.foldl (fun n e => setIn (hash e.1) e.1 e.2 n 0) (val (hash k) k v) else arr (upd es k v)
  | t => setIn (hash k) k v t 0

def delIn (hk : Nat) (k : κ) : Nd κ ν → Nat → Nd κ ν
  | emp, _ => emp
  | arr es, _ => arr es
  | br hs f, l =>
    let c := delIn hk k (f (frag l hk)) (l + 1)
    if c.isEmp && !(f (frag l hk)).isEmp then (if !hs && decide (cnt f = 1) then emp else br (hs && decide (16 < cnt f)) (put f (frag l hk) emp)) else br hs (put f (frag l hk) c)
  | val h k' v', _ => if k' = k then emp else val h k' v'
  | col h es, _ => match find es k with
    | none => col h es
    | some i => if es.length = 2 then (match es.eraseIdx i with | [e] => val h e.1 e.2 | _ => emp) else col h (es.eraseIdx i)
def del (hash : κ → Nat) (t : Nd κ ν) (k : κ) : Nd κ ν := match t with
  | emp => emp
  | arr es => match find es k with
    | none => arr es
    | some i => if es.length = 1 then emp else arr (es.eraseIdx i)
  | t => delIn (hash k) k t 0

def look (es : List (κ × ν)) (k : κ) : Option ν := (es.find? fun e => decide (e.1 = k)).map (·.2)
def getIn (hk : Nat) (k : κ) : Nd κ ν → Nat → Option ν
  | emp, _ => none
  | arr es, _ => look es k
  | br _ f, l => getIn hk k (f (frag l hk)) (l + 1)
  | val _ k' v', _ => if k' = k then some v' else none
  | col _ es, _ => look es k

/-- The pairs, in order. -/
def toL : Nd κ ν → List (κ × ν)
  | emp => []
  | arr es => es
  | br _ f => (List.range 32).flatMap fun i => toL (f i)
  | val _ k v => [(k, v)]
  | col _ es => es
/-- Is the key there? -/
def has (t : Nd κ ν) (k : κ) : Bool := (getIn 0 k t 0).isSome

/-- Below a root: at level l all hashes begin with p. -/
def WF (hash : κ → Nat) : Nd κ ν → Nat → Nat → Prop
  | emp, _, _ => True
  | arr _, _, _ => False
  | br hs f, l, p => l ≤ 6 ∧ (∀ i, i < 32 → WF hash (f i) (l + 1) (p + i * 32 ^ l)) ∧ (∀ i, 32 ≤ i → f i = emp) ∧ (∃ i, i < 32 ∧ f i ≠ emp) ∧ (hs = true → 16 ≤ cnt f)
  | val h k _, l, p => h = hash k ∧ h % 32 ^ l = p
  | col h es, l, p => 2 ≤ es.length ∧ (es.map (·.1)).Nodup ∧ (∀ e ∈ es, hash e.1 = h) ∧ h % 32 ^ l = p
def WFr (hash : κ → Nat) (t : Nd κ ν) : Prop := match t with
  | arr es => es ≠ [] ∧ es.length ≤ 8 ∧ (es.map (·.1)).Nodup
  | t => WF hash t 0 0

/-! ### rows of pairs -/
theorem find_none {es : List (κ × ν)} {k : κ} : find es k = none ↔ ∀ e ∈ es, e.1 ≠ k := by simp [find, List.findIdx?_eq_none_iff]
theorem find_some {es : List (κ × ν)} {k : κ} {i : Nat} (h : find es k = some i) : ∃ hi : i < es.length, es[i].1 = k ∧ ∀ j (hj : j < i), es[j].1 ≠ k := by
  rw [find, List.findIdx?_eq_some_iff_getElem] at h
  obtain ⟨h1, h2, h3⟩ := h
  exact ⟨h1, by simpa using h2, fun j hj => by simpa using h3 j hj⟩
theorem mem_upd {es : List (κ × ν)} {k : κ} {v : ν} (hn : (es.map (·.1)).Nodup) {e : κ × ν} : e ∈ upd es k v ↔ e = (k, v) ∨ e.1 ≠ k ∧ e ∈ es := by
  unfold upd
  cases hf : find es k with
  | none =>
    have := find_none.1 hf
    simp only [List.mem_append, List.mem_singleton]
    constructor
    · rintro (h | h)
      · exact .inr ⟨this e h, h⟩
      · exact .inl h
    · rintro (h | ⟨_, h⟩)
      · exact .inr h
      · exact .inl h
  | some i =>
    obtain ⟨hi, h1, h2⟩ := find_some hf
    rw [List.mem_iff_getElem?]
    constructor
    · rintro ⟨j, hj⟩
      rw [List.getElem?_set] at hj
      split at hj
      · rename_i hij
        subst hij
        exact .inl (Option.some.inj hj).symm
      · rename_i hij
        refine .inr ⟨fun hk => hij ?_, List.mem_of_getElem? hj⟩
        obtain ⟨hj', hje⟩ := List.getElem?_eq_some_iff.1 hj
        have := List.pairwise_iff_getElem.1 hn
        rcases Nat.lt_trichotomy i j with h | h | h
        · exact (this i j (by simpa using hi) (by simpa using hj') h (by simp [h1, hje, hk])).elim
        · exact h
        · exact (this j i (by simpa using hj') (by simpa using hi) h (by simp [h1, hje, hk])).elim
    · rintro (h | ⟨h3, h⟩)
      · exact ⟨i, by rw [List.getElem?_set, if_pos rfl, if_pos hi, h]⟩
      · obtain ⟨j, hj, hje⟩ := List.mem_iff_getElem.1 h
        refine ⟨j, ?_⟩
        rw [List.getElem?_set, if_neg (fun e => h3 (by subst e; rw [← hje, h1])), List.getElem?_eq_getElem hj, hje]
theorem upd_nodup {es : List (κ × ν)} {k : κ} {v : ν} (hn : (es.map (·.1)).Nodup) : ((upd es k v).map (·.1)).Nodup := by
  unfold upd
  cases hf : find es k with
  | none =>
    have := find_none.1 hf
    rw [List.map_append, List.nodup_append]
    refine ⟨hn, by simp, ?_⟩
    intro a ha b hb
    obtain ⟨e, he, rfl⟩ := List.mem_map.1 ha
    simp at hb
    subst hb
    exact this e he
  | some i =>
    obtain ⟨hi, h1, h2⟩ := find_some hf
    have : (es.set i (k, v)).map (·.1) = es.map (·.1) := by
      rw [List.map_set]
      apply List.ext_getElem?
      intro j
      rw [List.getElem?_set]
      split
      · rename_i e; subst e; simp [hi, h1]
      · rfl
    simp only [this]; exact hn
theorem mem_erase {es : List (κ × ν)} {k : κ} {i : Nat} (hn : (es.map (·.1)).Nodup) (hf : find es k = some i) {e : κ × ν} : e ∈ es.eraseIdx i ↔ e.1 ≠ k ∧ e ∈ es := by
  obtain ⟨hi, h1, h2⟩ := find_some hf
  rw [List.mem_eraseIdx_iff_getElem]
  constructor
  · rintro ⟨j, hj, hne, rfl⟩
    refine ⟨fun hk => hne ?_, List.getElem_mem hj⟩
    have := List.pairwise_iff_getElem.1 hn
    rcases Nat.lt_trichotomy i j with h | h | h
    · exact (this i j (by simpa using hi) (by simpa using hj) h (by simp [h1, hk])).elim
    · exact h.symm
    · exact (this j i (by simpa using hj) (by simpa using hi) h (by simp [h1, hk])).elim
  · rintro ⟨h3, h⟩
    obtain ⟨j, hj, hje⟩ := List.mem_iff_getElem.1 h
    exact ⟨j, hj, fun e => h3 (by subst e; rw [← hje, h1]), hje⟩
theorem erase_nodup {es : List (κ × ν)} {i : Nat} (hn : (es.map (·.1)).Nodup) : ((es.eraseIdx i).map (·.1)).Nodup := by
  exact hn.sublist ((List.eraseIdx_sublist es i).map _)
theorem look_iff {es : List (κ × ν)} {k : κ} {v : ν} (hn : (es.map (·.1)).Nodup) : look es k = some v ↔ (k, v) ∈ es := by
  induction es with
  | nil => simp [look]
  | cons e es ih =>
    simp only [List.map_cons, List.nodup_cons] at hn
    unfold look at ih ⊢
    rw [List.find?_cons]
    by_cases h : e.1 = k
    · simp only [h, decide_true]
      subst h
      simp only [Option.map_some, Option.some.injEq, List.mem_cons]
      constructor
      · rintro rfl; exact .inl rfl
      · rintro (h | h)
        · rw [← h]
        · exact absurd (List.mem_map.2 ⟨_, h, rfl⟩) hn.1
    · simp only [h, decide_false]
      rw [ih hn.2, List.mem_cons]
      constructor
      · exact .inr
      · rintro (h1 | h1)
        · exact absurd (by rw [← h1]) h
        · exact h1

/-! ### branches -/
theorem put_same (f : Nat → Nd κ ν) (i : Nat) (t : Nd κ ν) : put f i t i = t := by simp [put]
theorem put_ne {f : Nat → Nd κ ν} {i j : Nat} {t : Nd κ ν} (h : j ≠ i) : put f i t j = f j := by simp [put, h]
theorem filter_put {p q : Nat → Bool} {i : Nat} (h : ∀ j, j ≠ i → p j = q j) (hp : p i = true) (hq : q i = false) (n : Nat) : ((List.range n).filter p).length = ((List.range n).filter q).length + if i < n then 1 else 0 := by
  induction n with
  | zero => simp
  | succ n ih =>
    rw [List.range_succ, List.filter_append, List.filter_append, List.length_append, List.length_append, ih]
    by_cases e : n = i
    · subst e; simp [hp, hq]
    · have e1 := h n e
      simp only [List.filter_cons, List.filter_nil, e1]
      have e2 : (if i < n + 1 then 1 else 0) = if i < n then 1 else 0 := by
        have : (i < n + 1) = (i < n) := propext ⟨fun h => by omega, fun h => by omega⟩
        simp only [this]
      rw [e2]; omega
theorem filter_same {p q : Nat → Bool} (h : ∀ j, p j = q j) (n : Nat) : (List.range n).filter p = (List.range n).filter q := by rw [show p = q from funext h]
theorem cnt_add {f : Nat → Nd κ ν} {i : Nat} {t : Nd κ ν} (hi : i < 32) (he : f i = emp) (ht : t ≠ emp) : cnt (put f i t) = cnt f + 1 := by
  unfold cnt
  rw [filter_put (p := fun j => !(put f i t j).isEmp) (q := fun j => !(f j).isEmp) (i := i) (fun j hj => by rw [put_ne hj]) (by rw [put_same]; cases h : t.isEmp <;> simp; exact ht (isEmp_iff.1 h)) (by simp [he, isEmp]), if_pos hi]
theorem cnt_del {f : Nat → Nd κ ν} {i : Nat} (hi : i < 32) (he : f i ≠ emp) : cnt f = cnt (put f i emp) + 1 := by
  unfold cnt
  rw [filter_put (p := fun j => !(f j).isEmp) (q := fun j => !(put f i emp j).isEmp) (i := i) (fun j hj => by rw [put_ne hj]) (by cases h : (f i).isEmp <;> simp; exact he (isEmp_iff.1 h)) (by simp [put_same, isEmp]), if_pos hi]
theorem cnt_same {f : Nat → Nd κ ν} {i : Nat} {t : Nd κ ν} (he : f i ≠ emp) (ht : t ≠ emp) : cnt (put f i t) = cnt f := by
  unfold cnt
  congr 1
  refine filter_same (fun j => ?_) 32
  by_cases h : j = i
  · subst h
    rw [put_same]
    have h1 : t.isEmp = false := by cases h : t.isEmp <;> simp; exact ht (isEmp_iff.1 h)
    have h2 : (f j).isEmp = false := by cases h : (f j).isEmp <;> simp; exact he (isEmp_iff.1 h)
    rw [h1, h2]
  · rw [put_ne h]
theorem cnt_pos {f : Nat → Nd κ ν} {i : Nat} (hi : i < 32) (he : f i ≠ emp) : 0 < cnt f := by rw [cnt_del hi he]; omega
/-- More than one child: another one. -/
theorem other {f : Nat → Nd κ ν} (h : 0 < cnt f) : ∃ j, j < 32 ∧ f j ≠ emp := by
  unfold cnt at h
  obtain ⟨j, hj⟩ := List.exists_mem_of_length_pos h
  rw [List.mem_filter, List.mem_range] at hj
  refine ⟨j, hj.1, fun e => ?_⟩
  rw [e] at hj
  simp [isEmp] at hj
theorem mem_br {hs : Bool} {f : Nat → Nd κ ν} {e : κ × ν} : e ∈ toL (br hs f) ↔ ∃ i, i < 32 ∧ e ∈ toL (f i) := by
  simp [toL, List.mem_flatMap]
theorem mod_next (l h : Nat) : h % 32 ^ (l + 1) = h % 32 ^ l + frag l h * 32 ^ l := by rw [Nat.mod_pow_succ, frag, Nat.mul_comm]
theorem next_lt {l p i : Nat} (hp : p < 32 ^ l) (hi : i < 32) : p + i * 32 ^ l < 32 ^ (l + 1) := by
  have : (i + 1) * 32 ^ l ≤ 32 * 32 ^ l := Nat.mul_le_mul_right _ (by omega)
  rw [Nat.add_mul] at this
  rw [Nat.pow_succ]; omega
theorem split_eq {l p q i j : Nat} (hp : p < 32 ^ l) (hq : q < 32 ^ l) (h : p + i * 32 ^ l = q + j * 32 ^ l) : p = q ∧ i = j := by
  have hpos : 0 < 32 ^ l := Nat.pow_pos (by decide)
  have h1 : (p + i * 32 ^ l) % 32 ^ l = p := by rw [Nat.add_mul_mod_self_right, Nat.mod_eq_of_lt hp]
  have h2 : (q + j * 32 ^ l) % 32 ^ l = q := by rw [Nat.add_mul_mod_self_right, Nat.mod_eq_of_lt hq]
  have hpq : p = q := by rw [← h1, ← h2, h]
  subst hpq
  exact ⟨rfl, Nat.eq_of_mul_eq_mul_right hpos (by omega)⟩
variable {hash : κ → Nat}
theorem WF.pre : ∀ {t : Nd κ ν} {l p : Nat}, WF hash t l p → p < 32 ^ l → ∀ e ∈ toL t, hash e.1 % 32 ^ l = p
  | emp, _, _, _, _, e, he => by simp [toL] at he
  | arr _, _, _, h, _, _, _ => h.elim
  | br hs f, l, p, h, hp, e, he => by
    obtain ⟨i, hi, hei⟩ := mem_br.1 he
    have h1 := WF.pre (h.2.1 i hi) (next_lt hp hi) e hei
    rw [mod_next] at h1
    exact (split_eq (Nat.mod_lt _ (Nat.pow_pos (by decide))) hp h1).1
  | val h' k v, l, p, h, hp, e, he => by
    simp only [toL, List.mem_singleton] at he
    subst he
    rw [← h.1]; exact h.2
  | col h' es, l, p, h, hp, e, he => by rw [h.2.2.1 e he]; exact h.2.2.2
/-- Which child a key is in. -/
theorem WF.at_ {hs : Bool} {f : Nat → Nd κ ν} {l p : Nat} (h : WF hash (br hs f) l p) (hp : p < 32 ^ l) {e : κ × ν} {i : Nat} (hi : i < 32) (he : e ∈ toL (f i)) : frag l (hash e.1) = i := by
  have h1 := WF.pre (h.2.1 i hi) (next_lt hp hi) e he
  rw [mod_next] at h1
  exact (split_eq (Nat.mod_lt _ (Nat.pow_pos (by decide))) hp h1).2
theorem WF.nodup : ∀ {t : Nd κ ν} {l p : Nat}, WF hash t l p → p < 32 ^ l → ((toL t).map (·.1)).Nodup
  | emp, _, _, _, _ => by simp [toL]
  | arr _, _, _, h, _ => h.elim
  | br hs f, l, p, h, hp => by
    simp only [toL, List.map_flatMap]
    rw [List.nodup_iff_pairwise_ne, List.pairwise_flatMap]
    refine ⟨fun i hi => ?_, ?_⟩
    · exact WF.nodup (h.2.1 i (List.mem_range.1 hi)) (next_lt hp (List.mem_range.1 hi))
    · refine List.Pairwise.imp_of_mem ?_ (List.nodup_iff_pairwise_ne.1 List.nodup_range)
      intro i j hi hj hij x hx y hy e
      obtain ⟨a, ha, rfl⟩ := List.mem_map.1 hx
      obtain ⟨b, hb, rfl⟩ := List.mem_map.1 hy
      refine hij ?_
      have h1 := h.at_ hp (List.mem_range.1 hi) ha
      have h2 := h.at_ hp (List.mem_range.1 hj) hb
      rw [← h1, ← h2, e]
  | val _ _ _, _, _, _, _ => by simp [toL]
  | col _ _, _, _, h, _ => h.2.1

theorem merge_spec {t : Nd κ ν} {h1 : Nat} {k : κ} {v : ν} (hlt : h1 < 2 ^ 32) (hlt2 : hash k < 2 ^ 32) (hne : h1 ≠ hash k) (hte : t ≠ emp) (hleaf : ∀ l, WF hash t l (h1 % 32 ^ l)) :
    ∀ (n l : Nat), n + l = 7 → h1 % 32 ^ l = hash k % 32 ^ l → WF hash (merge t h1 (hash k) k v n l) l (h1 % 32 ^ l) ∧ merge t h1 (hash k) k v n l ≠ emp ∧ ∀ e, e ∈ toL (merge t h1 (hash k) k v n l) ↔ e ∈ toL t ∨ e = (k, v)
  | 0, l, hn, he => by
    obtain rfl : l = 7 := by omega
    rw [Nat.mod_eq_of_lt (by omega), Nat.mod_eq_of_lt (by omega)] at he
    exact absurd he hne
  | n + 1, l, hn, he => by
    have hf1 := frag_lt l h1
    have hf2 := frag_lt l (hash k)
    unfold merge
    split
    · rename_i hf
      have he2 : h1 % 32 ^ (l + 1) = hash k % 32 ^ (l + 1) := by rw [mod_next, mod_next, he, hf]
      obtain ⟨i1, i2, i3⟩ := merge_spec hlt hlt2 hne hte hleaf n (l + 1) (by omega) he2
      refine ⟨⟨by omega, fun i hi => ?_, fun i hi => ?_, ⟨frag l h1, hf1, by rw [one, put_same]; exact i2⟩, fun h => nomatch h⟩, by simp, fun e => ?_⟩
      · by_cases e : i = frag l h1
        · subst e; rw [one, put_same, ← mod_next]; exact i1
        · rw [one, put_ne e]; trivial
      · rw [one, put_ne (by omega)]
      · rw [mem_br, ← i3]
        constructor
        · rintro ⟨i, hi, hie⟩
          by_cases e : i = frag l h1
          · subst e; rw [one, put_same] at hie; exact hie
          · rw [one, put_ne e] at hie; simp [toL] at hie
        · intro h; exact ⟨frag l h1, hf1, by rw [one, put_same]; exact h⟩
    · rename_i hf
      refine ⟨⟨by omega, fun i hi => ?_, fun i hi => ?_, ⟨frag l h1, hf1, by rw [put_ne hf, one, put_same]; exact hte⟩, fun h => nomatch h⟩, by simp, fun e => ?_⟩
      · by_cases e : i = frag l (hash k)
        · subst e; rw [put_same, he, ← mod_next]; exact ⟨rfl, rfl⟩
        · rw [put_ne e]
          by_cases e2 : i = frag l h1
          · subst e2; rw [one, put_same, ← mod_next]; exact hleaf _
          · rw [one, put_ne e2]; trivial
      · rw [put_ne (by omega), one, put_ne (by omega)]
      · rw [mem_br]
        constructor
        · rintro ⟨i, hi, hie⟩
          by_cases e : i = frag l (hash k)
          · subst e; rw [put_same] at hie; exact .inr (by simpa [toL] using hie)
          · rw [put_ne e] at hie
            by_cases e2 : i = frag l h1
            · subst e2; rw [one, put_same] at hie; exact .inl hie
            · rw [one, put_ne e2] at hie; simp [toL] at hie
        · rintro (h | h)
          · exact ⟨frag l h1, hf1, by rw [put_ne hf, one, put_same]; exact h⟩
          · exact ⟨frag l (hash k), hf2, by rw [put_same, h]; simp [toL]⟩

theorem setIn_spec {k : κ} {v : ν} (hh : ∀ k, hash k < 2 ^ 32) : ∀ (t : Nd κ ν) (l p : Nat), WF hash t l p → p < 32 ^ l → hash k % 32 ^ l = p → l ≤ 7 →
    WF hash (setIn (hash k) k v t l) l p ∧ setIn (hash k) k v t l ≠ emp ∧ ∀ e, e ∈ toL (setIn (hash k) k v t l) ↔ e = (k, v) ∨ e.1 ≠ k ∧ e ∈ toL t
  | emp, l, p, h, hp, hk, _ => ⟨⟨rfl, hk⟩, by simp [setIn], fun e => by simp [setIn, toL]⟩
  | arr _, _, _, h, _, _, _ => h.elim
  | br hs f, l, p, h, hp, hk, hl => by
    have hi := frag_lt l (hash k)
    have hk2 : hash k % 32 ^ (l + 1) = p + frag l (hash k) * 32 ^ l := by rw [mod_next, hk]
    obtain ⟨i1, i2, i3⟩ := setIn_spec hh (f (frag l (hash k))) (l + 1) _ (h.2.1 _ hi) (next_lt hp hi) hk2 (by have := h.1; omega)
    refine ⟨⟨h.1, fun i hi' => ?_, fun i hi' => ?_, ⟨_, hi, by rw [put_same]; exact i2⟩, fun hs' => ?_⟩, by simp [setIn], fun e => ?_⟩
    · by_cases e : i = frag l (hash k)
      · subst e; rw [put_same]; exact i1
      · rw [put_ne e]; exact h.2.1 i hi'
    · rw [put_ne (by omega)]; exact h.2.2.1 i hi'
    · by_cases he : f (frag l (hash k)) = emp
      · rw [cnt_add hi he i2]
        simp only [Bool.or_eq_true, Bool.and_eq_true, decide_eq_true_eq] at hs'
        rcases hs' with h1 | h1
        · have := h.2.2.2.2 h1; omega
        · omega
      · rw [cnt_same he i2]
        simp only [Bool.or_eq_true, Bool.and_eq_true, decide_eq_true_eq, isEmp_iff] at hs'
        rcases hs' with h1 | h1
        · exact h.2.2.2.2 h1
        · exact absurd h1.1 he
    · simp only [setIn]
      rw [mem_br, mem_br]
      constructor
      · rintro ⟨i, hi', hie⟩
        by_cases e1 : i = frag l (hash k)
        · subst e1
          rw [put_same] at hie
          rcases (i3 e).1 hie with h1 | ⟨h1, h2⟩
          · exact .inl h1
          · exact .inr ⟨h1, _, hi, h2⟩
        · rw [put_ne e1] at hie
          exact .inr ⟨fun ek => e1 (by rw [← ek]; exact (h.at_ hp hi' hie).symm), i, hi', hie⟩
      · rintro (h1 | ⟨h1, i, hi', hie⟩)
        · exact ⟨_, hi, by rw [put_same]; exact (i3 e).2 (.inl h1)⟩
        · by_cases e1 : i = frag l (hash k)
          · subst e1
            exact ⟨_, hi, by rw [put_same]; exact (i3 e).2 (.inr ⟨h1, hie⟩)⟩
          · exact ⟨i, hi', by rw [put_ne e1]; exact hie⟩
  | val h' k' v', l, p, h, hp, hk, hl => by
    simp only [setIn]
    by_cases hkk : k' = k
    · rw [if_pos hkk]
      subst hkk
      refine ⟨h, by simp, fun e => ?_⟩
      simp [toL]
      exact fun hn he => absurd (by rw [he]) hn
    · rw [if_neg hkk]
      by_cases hhh : h' = hash k
      · rw [if_pos hhh]
        refine ⟨⟨by simp, by simp [hkk], fun e he => ?_, by rw [hhh]; exact hk⟩, by simp, fun e => ?_⟩
        · simp at he; rcases he with rfl | rfl
          · exact h.1.symm
          · exact hhh.symm
        · simp only [toL, List.mem_cons, List.not_mem_nil, or_false]
          constructor
          · rintro (rfl | rfl)
            · exact .inr ⟨hkk, rfl⟩
            · exact .inl rfl
          · rintro (h1 | ⟨_, h1⟩)
            · exact .inr h1
            · exact .inl h1
      · rw [if_neg hhh]
        have hlt : h' < 2 ^ 32 := by rw [h.1]; exact hh _
        obtain ⟨m1, m2, m3⟩ := merge_spec (hash := hash) (t := val h' k' v') (v := v) hlt (hh k) hhh (by simp) (fun l' => ⟨h.1, rfl⟩) (7 - l) l (by omega) (by rw [h.2, hk])
        rw [h.2] at m1
        refine ⟨m1, m2, fun e => ?_⟩
        rw [m3]
        simp only [toL, List.mem_singleton]
        constructor
        · rintro (rfl | h1)
          · exact .inr ⟨hkk, rfl⟩
          · exact .inl h1
        · rintro (h1 | ⟨_, h1⟩)
          · exact .inr h1
          · exact .inl h1
  | col h' es, l, p, h, hp, hk, hl => by
    simp only [setIn]
    by_cases hhh : h' = hash k
    · rw [if_pos hhh]
      refine ⟨⟨?_, upd_nodup h.2.1, fun e he => ?_, h.2.2.2⟩, by simp, fun e => mem_upd h.2.1⟩
      · have := h.1
        unfold upd
        split <;> simp <;> omega
      · rcases (mem_upd h.2.1).1 he with rfl | ⟨_, h1⟩
        · exact hhh.symm
        · exact h.2.2.1 e h1
    · rw [if_neg hhh]
      have hne : es ≠ [] := fun e => by have := h.1; rw [e] at this; simp at this
      obtain ⟨e0, he0⟩ := List.exists_mem_of_ne_nil es hne
      have hlt : h' < 2 ^ 32 := by rw [← h.2.2.1 e0 he0]; exact hh _
      obtain ⟨m1, m2, m3⟩ := merge_spec (hash := hash) (t := col h' es) (v := v) hlt (hh k) hhh (by simp) (fun l' => ⟨h.1, h.2.1, h.2.2.1, rfl⟩) (7 - l) l (by omega) (by rw [h.2.2.2, hk])
      rw [h.2.2.2] at m1
      refine ⟨m1, m2, fun e => ?_⟩
      rw [m3]
      simp only [toL]
      constructor
      · rintro (h1 | h1)
        · exact .inr ⟨fun ek => hhh (by rw [← h.2.2.1 e h1, ek]), h1⟩
        · exact .inl h1
      · rintro (h1 | ⟨_, h1⟩)
        · exact .inr h1
        · exact .inl h1

theorem delIn_spec {k : κ} : ∀ (t : Nd κ ν) (l p : Nat), WF hash t l p → p < 32 ^ l → hash k % 32 ^ l = p →
    WF hash (delIn (hash k) k t l) l p ∧ ∀ e, e ∈ toL (delIn (hash k) k t l) ↔ e.1 ≠ k ∧ e ∈ toL t
  | emp, l, p, h, hp, hk => ⟨trivial, fun e => by simp [delIn, toL]⟩
  | arr _, _, _, h, _, _ => h.elim
  | br hs f, l, p, h, hp, hk => by
    have hi := frag_lt l (hash k)
    have hk2 : hash k % 32 ^ (l + 1) = p + frag l (hash k) * 32 ^ l := by rw [mod_next, hk]
    obtain ⟨i1, i3⟩ := delIn_spec (f (frag l (hash k))) (l + 1) _ (h.2.1 _ hi) (next_lt hp hi) hk2
    have mem : ∀ (hs' : Bool) (e : κ × ν), e ∈ toL (br hs' (put f (frag l (hash k)) (delIn (hash k) k (f (frag l (hash k))) (l + 1)))) ↔ e.1 ≠ k ∧ e ∈ toL (br hs f) := fun hs' e => by
      rw [mem_br, mem_br]
      constructor
      · rintro ⟨i, hi', hie⟩
        by_cases e1 : i = frag l (hash k)
        · subst e1
          rw [put_same] at hie
          obtain ⟨h1, h2⟩ := (i3 e).1 hie
          exact ⟨h1, _, hi, h2⟩
        · rw [put_ne e1] at hie
          exact ⟨fun ek => e1 (by rw [← ek]; exact (h.at_ hp hi' hie).symm), i, hi', hie⟩
      · rintro ⟨h1, i, hi', hie⟩
        by_cases e1 : i = frag l (hash k)
        · subst e1
          exact ⟨_, hi, by rw [put_same]; exact (i3 e).2 ⟨h1, hie⟩⟩
        · exact ⟨i, hi', by rw [put_ne e1]; exact hie⟩
    simp only [delIn]
    split
    · rename_i hc
      simp only [Bool.and_eq_true, Bool.not_eq_true', isEmp_iff] at hc
      have hne : f (frag l (hash k)) ≠ emp := fun e => by rw [e] at hc; simp [isEmp] at hc
      have hcd := cnt_del hi hne
      have mem' := mem false
      rw [hc.1] at mem'
      split
      · rename_i h1
        simp only [Bool.and_eq_true, Bool.not_eq_true', decide_eq_true_eq] at h1
        refine ⟨trivial, fun e => ?_⟩
        rw [← mem' e]
        simp only [toL, List.not_mem_nil, false_iff]
        intro hx
        obtain ⟨i, hi', hie⟩ := mem_br.1 (show e ∈ toL (br false (put f (frag l (hash k)) emp)) from hx)
        have := cnt_pos (f := put f (frag l (hash k)) emp) hi' (fun e0 => by rw [e0] at hie; simp [toL] at hie)
        omega
      · rename_i h1
        refine ⟨⟨h.1, fun i hi' => ?_, fun i hi' => ?_, ?_, fun hs' => ?_⟩, fun e => ?_⟩
        · by_cases e : i = frag l (hash k)
          · subst e; rw [put_same]; trivial
          · rw [put_ne e]; exact h.2.1 i hi'
        · rw [put_ne (by omega)]; exact h.2.2.1 i hi'
        · refine other ?_
          simp only [Bool.and_eq_true, Bool.not_eq_true', decide_eq_true_eq] at h1
          cases hs with
          | false => have h2 : ¬ cnt f = 1 := fun e => h1 ⟨rfl, e⟩
                     have := cnt_pos hi hne; omega
          | true => have := h.2.2.2.2 rfl; omega
        · simp only [Bool.and_eq_true, decide_eq_true_eq] at hs'; omega
        · have := mem (hs && decide (16 < cnt f)) e
          rw [hc.1] at this; exact this
    · rename_i hc
      refine ⟨⟨h.1, fun i hi' => ?_, fun i hi' => ?_, ?_, fun hs' => ?_⟩, fun e => mem hs e⟩
      · by_cases e : i = frag l (hash k)
        · subst e; rw [put_same]; exact i1
        · rw [put_ne e]; exact h.2.1 i hi'
      · rw [put_ne (by omega)]; exact h.2.2.1 i hi'
      · obtain ⟨i, hi', hie⟩ := h.2.2.2.1
        by_cases e : i = frag l (hash k)
        · subst e
          refine ⟨_, hi', ?_⟩
          rw [put_same]
          intro e0
          simp only [Bool.and_eq_true, Bool.not_eq_true', isEmp_iff, e0, true_and] at hc
          cases h1 : (f (frag l (hash k))).isEmp with
          | true => exact hie (isEmp_iff.1 h1)
          | false => exact hc h1
        · exact ⟨i, hi', by rw [put_ne e]; exact hie⟩
      · by_cases he : f (frag l (hash k)) = emp
        · have e0 : put f (frag l (hash k)) (delIn (hash k) k (f (frag l (hash k))) (l + 1)) = f := by
            funext j
            by_cases e : j = frag l (hash k)
            · subst e; rw [put_same, he]; rfl
            · rw [put_ne e]
          rw [e0]; exact h.2.2.2.2 hs'
        · rw [cnt_same he]
          · exact h.2.2.2.2 hs'
          · intro e0
            simp only [Bool.and_eq_true, Bool.not_eq_true', isEmp_iff, e0, true_and] at hc
            cases h1 : (f (frag l (hash k))).isEmp with
            | true => exact he (isEmp_iff.1 h1)
            | false => exact hc h1
  | val h' k' v', l, p, h, hp, hk => by
    simp only [delIn]
    split
    · rename_i hkk
      refine ⟨trivial, fun e => ?_⟩
      simp only [toL, List.not_mem_nil, List.mem_singleton, false_iff, not_and]
      rintro h1 rfl
      exact h1 hkk
    · rename_i hkk
      refine ⟨h, fun e => ?_⟩
      simp only [toL, List.mem_singleton]
      constructor
      · rintro rfl; exact ⟨hkk, rfl⟩
      · exact fun h => h.2
  | col h' es, l, p, h, hp, hk => by
    simp only [delIn]
    cases hf : find es k with
    | none =>
      refine ⟨h, fun e => ?_⟩
      have := find_none.1 hf
      exact ⟨fun he => ⟨this e he, he⟩, fun he => he.2⟩
    | some i =>
      have hm := fun e => mem_erase h.2.1 hf (e := e)
      obtain ⟨hi, _⟩ := find_some hf
      have hl : (es.eraseIdx i).length = es.length - 1 := List.length_eraseIdx_of_lt hi
      simp only
      split
      · rename_i h2
        match hx : es.eraseIdx i, hl with
        | [x], _ =>
          rw [hx] at hm
          have hxe : x ∈ es := ((hm x).1 (by simp)).2
          refine ⟨⟨(h.2.2.1 x hxe).symm, h.2.2.2⟩, fun e => ?_⟩
          show e ∈ toL (val h' x.1 x.2) ↔ e.1 ≠ k ∧ e ∈ es
          rw [← hm e]
          simp [toL]
        | [], hl => simp at hl; omega
        | _ :: _ :: _, hl => simp at hl; omega
      · rename_i h2
        refine ⟨⟨by have := h.1; omega, erase_nodup h.2.1, fun e he => h.2.2.1 e ((hm e).1 he).2, h.2.2.2⟩, fun e => hm e⟩

theorem getIn_spec {k : κ} {v : ν} : ∀ (t : Nd κ ν) (l p : Nat), WF hash t l p → p < 32 ^ l → hash k % 32 ^ l = p → (getIn (hash k) k t l = some v ↔ (k, v) ∈ toL t)
  | emp, _, _, _, _, _ => by simp [getIn, toL]
  | arr _, _, _, h, _, _ => h.elim
  | br hs f, l, p, h, hp, hk => by
    have hi := frag_lt l (hash k)
    have hk2 : hash k % 32 ^ (l + 1) = p + frag l (hash k) * 32 ^ l := by rw [mod_next, hk]
    rw [getIn, getIn_spec (f (frag l (hash k))) (l + 1) _ (h.2.1 _ hi) (next_lt hp hi) hk2, mem_br]
    constructor
    · exact fun h1 => ⟨_, hi, h1⟩
    · rintro ⟨i, hi', hie⟩
      have := h.at_ hp hi' hie
      simp only at this
      rw [this]; exact hie
  | val h' k' v', l, p, h, hp, hk => by
    simp only [getIn, toL, List.mem_singleton, Prod.mk.injEq]
    split
    · rename_i hkk
      subst hkk
      simp [eq_comm]
    · rename_i hkk
      simp only [reduceCtorEq, false_iff, not_and]
      exact fun e => absurd e.symm hkk
  | col h' es, l, p, h, hp, hk => look_iff h.2.1
end Nd
end Go.Vc
end
section
/- Tries from their roots: a set of pairs, each key once. -/
set_option linter.unusedSectionVars false
namespace Go.Vc
namespace Nd
variable {κ ν : Type} [DecidableEq κ] {hash : κ → Nat}

def keys (t : Nd κ ν) : List κ := (toL t).map (·.1)
theorem WFr.of {t : Nd κ ν} (h : WF hash t 0 0) : WFr hash t := by cases t <;> first | exact h | exact h.elim
theorem WFr.nodup {t : Nd κ ν} (h : WFr hash t) : (keys t).Nodup := by
  cases t with
  | arr es => exact h.2.2
  | emp => simp [keys, toL]
  | br hs f => exact WF.nodup (t := br hs f) (l := 0) (p := 0) h (by decide)
  | val h' k v => exact WF.nodup (t := val h' k v) (l := 0) (p := 0) h (by decide)
  | col h' es => exact WF.nodup (t := col h' es) (l := 0) (p := 0) h (by decide)

theorem mod_one (n : Nat) : n % 32 ^ 0 = 0 := by simp [Nat.mod_one]
theorem spread {k : κ} {v : ν} (hh : ∀ k, hash k < 2 ^ 32) (es : List (κ × ν)) : ∀ (n : Nd κ ν) (done : List (κ × ν)), WF hash n 0 0 → n ≠ emp → (∀ e, e ∈ toL n ↔ e = (k, v) ∨ e ∈ done) → (∀ e ∈ es, e.1 ≠ k) → ((done ++ es).map (·.1)).Nodup →
    WF hash (es.foldl (fun n e => setIn (hash e.1) e.1 e.2 n 0) n) 0 0 ∧ es.foldl (fun n e => setIn (hash e.1) e.1 e.2 n 0) n ≠ emp ∧ ∀ e, e ∈ toL (es.foldl (fun n e => setIn (hash e.1) e.1 e.2 n 0) n) ↔ e = (k, v) ∨ e ∈ done ++ es := by
  induction es with
  | nil => intro n done h1 h2 h3 h4 h5; exact ⟨h1, h2, by simpa using h3⟩
  | cons x es ih =>
    intro n done h1 h2 h3 h4 h5
    obtain ⟨i1, i2, i3⟩ := setIn_spec (v := x.2) (k := x.1) hh n 0 0 h1 (by decide) (mod_one _) (by decide)
    have hx : ∀ e, e ∈ done → e.1 ≠ x.1 := fun e he hek => by
      rw [List.map_append, List.nodup_append] at h5
      exact h5.2.2 e.1 (List.mem_map.2 ⟨e, he, rfl⟩) x.1 (by simp) hek
    have := ih _ (done ++ [x]) i1 i2 (fun e => ?_) (fun e he => h4 e (by simp [he])) (by simpa using h5)
    · simpa using this
    · rw [i3, h3]
      simp only [List.mem_append, List.mem_singleton]
      constructor
      · rintro (h | ⟨_, h | h⟩)
        · exact .inr (.inr h)
        · exact .inl h
        · exact .inr (.inl h)
      · rintro (h | h | h)
        · exact .inr ⟨by rw [h]; exact (h4 x (by simp)).symm, .inl h⟩
        · exact .inr ⟨hx e h, .inr h⟩
        · exact .inl h

theorem set_spec {k : κ} {v : ν} (hh : ∀ k, hash k < 2 ^ 32) {t : Nd κ ν} (h : WFr hash t) :
    WFr hash (set hash t k v) ∧ set hash t k v ≠ emp ∧ ∀ e, e ∈ toL (set hash t k v) ↔ e = (k, v) ∨ e.1 ≠ k ∧ e ∈ toL t := by
  cases t with
  | emp => exact ⟨⟨by simp, by simp, by simp⟩, by simp [set], fun e => by simp [set, toL]⟩
  | arr es =>
    unfold set
    simp only
    split
    · rename_i hc
      simp only [Bool.and_eq_true, Option.isNone_iff_eq_none, decide_eq_true_eq] at hc
      have hn := find_none.1 hc.1
      obtain ⟨i1, i2, i3⟩ := spread (k := k) (v := v) hh es (val (hash k) k v) [] ⟨rfl, mod_one _⟩ (by simp) (fun e => by simp [toL]) hn (by simpa using h.2.2)
      refine ⟨WFr.of i1, i2, fun e => ?_⟩
      rw [i3]
      simp only [List.nil_append, toL]
      exact ⟨fun h => h.imp id fun h => ⟨hn e h, h⟩, fun h => h.imp id And.right⟩
    · rename_i hc
      have hm := fun e => mem_upd (k := k) (v := v) h.2.2 (e := e)
      refine ⟨⟨?_, ?_, upd_nodup h.2.2⟩, by simp, hm⟩
      · intro e0
        have := (hm (k, v)).2 (.inl rfl)
        rw [e0] at this; simp at this
      · simp only [Bool.and_eq_true, Option.isNone_iff_eq_none, decide_eq_true_eq] at hc
        have := h.2.1
        unfold upd
        split
        · simpa using this
        · rename_i hf
          simp
          have : ¬ 8 ≤ es.length := fun h => hc ⟨hf, h⟩
          omega
  | br hs f => obtain ⟨i1, i2, i3⟩ := setIn_spec (v := v) (k := k) hh (br hs f) 0 0 h (by decide) (mod_one _) (by decide); exact ⟨WFr.of i1, i2, i3⟩
  | val h' k' v' => obtain ⟨i1, i2, i3⟩ := setIn_spec (v := v) (k := k) hh (val h' k' v') 0 0 h (by decide) (mod_one _) (by decide); exact ⟨WFr.of i1, i2, i3⟩
  | col h' es => obtain ⟨i1, i2, i3⟩ := setIn_spec (v := v) (k := k) hh (col h' es) 0 0 h (by decide) (mod_one _) (by decide); exact ⟨WFr.of i1, i2, i3⟩
theorem del_spec {k : κ} {t : Nd κ ν} (h : WFr hash t) : WFr hash (del hash t k) ∧ ∀ e, e ∈ toL (del hash t k) ↔ e.1 ≠ k ∧ e ∈ toL t := by
  cases t with
  | emp => exact ⟨trivial, fun e => by simp [del, toL]⟩
  | arr es =>
    have e1 : del hash (arr es) k = (match find es k with | none => arr es | some i => if es.length = 1 then emp else arr (es.eraseIdx i)) := rfl
    rw [e1]
    cases hf : find es k with
    | none =>
      refine ⟨h, fun e => ?_⟩
      have := find_none.1 hf
      exact ⟨fun he => ⟨this e he, he⟩, fun he => he.2⟩
    | some i =>
      have hm := fun e => mem_erase h.2.2 hf (e := e)
      obtain ⟨hi, _⟩ := find_some hf
      have hl : (es.eraseIdx i).length = es.length - 1 := List.length_eraseIdx_of_lt hi
      simp only
      split
      · rename_i h1
        refine ⟨trivial, fun e => ?_⟩
        have e0 : es.eraseIdx i = [] := List.eq_nil_of_length_eq_zero (by omega)
        rw [show toL (arr es) = es from rfl, ← hm e, e0]
        simp [toL]
      · rename_i h1
        have := h.2.1
        exact ⟨⟨fun e0 => by rw [e0] at hl; simp at hl; omega, by omega, erase_nodup h.2.2⟩, hm⟩
  | br hs f => obtain ⟨i1, i3⟩ := delIn_spec (k := k) (br hs f) 0 0 h (by decide) (mod_one _); exact ⟨WFr.of i1, i3⟩
  | val h' k' v' => obtain ⟨i1, i3⟩ := delIn_spec (k := k) (val h' k' v') 0 0 h (by decide) (mod_one _); exact ⟨WFr.of i1, i3⟩
  | col h' es => obtain ⟨i1, i3⟩ := delIn_spec (k := k) (col h' es) 0 0 h (by decide) (mod_one _); exact ⟨WFr.of i1, i3⟩
theorem get_spec {k : κ} {v : ν} {t : Nd κ ν} (h : WFr hash t) : getIn (hash k) k t 0 = some v ↔ (k, v) ∈ toL t := by
  cases t with
  | arr es => exact look_iff h.2.2
  | emp => exact getIn_spec emp 0 0 h (by decide) (mod_one _)
  | br hs f => exact getIn_spec (br hs f) 0 0 h (by decide) (mod_one _)
  | val h' k' v' => exact getIn_spec (val h' k' v') 0 0 h (by decide) (mod_one _)
  | col h' es => exact getIn_spec (col h' es) 0 0 h (by decide) (mod_one _)

theorem len_of {l l' : List (κ × ν)} (hn : (l.map (·.1)).Nodup) (hn' : (l'.map (·.1)).Nodup) (h : ∀ e, e ∈ l ↔ e ∈ l') : l.length = l'.length := by
  have n1 : l.Nodup := List.Pairwise.of_map _ (fun a b hab e => hab (congrArg Prod.fst e)) hn
  have n2 : l'.Nodup := List.Pairwise.of_map _ (fun a b hab e => hab (congrArg Prod.fst e)) hn'
  exact ((List.perm_ext_iff_of_nodup n1 n2).2 h).length_eq
theorem mem_keys {t : Nd κ ν} {k : κ} : k ∈ keys t ↔ ∃ v, (k, v) ∈ toL t := by
  unfold keys
  rw [List.mem_map]
  constructor
  · rintro ⟨⟨a, b⟩, h, rfl⟩; exact ⟨b, h⟩
  · rintro ⟨v, h⟩; exact ⟨_, h, rfl⟩
theorem set_len {k : κ} {v : ν} (hh : ∀ k, hash k < 2 ^ 32) {t : Nd κ ν} (h : WFr hash t) : (toL (set hash t k v)).length = (toL t).length + if k ∈ keys t then 0 else 1 := by
  obtain ⟨i1, _, i3⟩ := set_spec (k := k) (v := v) hh h
  by_cases hk : k ∈ keys t
  · rw [if_pos hk, Nat.add_zero]
    have hu := fun e => mem_upd (es := toL t) (k := k) (v := v) h.nodup (e := e)
    rw [len_of (l := toL (set hash t k v)) (l' := upd (toL t) k v) i1.nodup (upd_nodup h.nodup) fun e => by rw [i3, hu]]
    unfold upd
    cases hf : find (toL t) k with
    | some i => simp
    | none =>
      obtain ⟨v', hv⟩ := mem_keys.1 hk
      exact absurd rfl (find_none.1 hf _ hv)
  · rw [if_neg hk]
    have hn : ∀ e ∈ toL t, e.1 ≠ k := fun e he hek => hk (mem_keys.2 ⟨e.2, by rw [← hek]; exact he⟩)
    rw [len_of (l := toL (set hash t k v)) (l' := (k, v) :: toL t) i1.nodup (by
      simp only [List.map_cons, List.nodup_cons]
      exact ⟨hk, h.nodup⟩) fun e => by
        rw [i3, List.mem_cons]
        exact ⟨fun h => h.imp id And.right, fun h => h.imp id fun h => ⟨hn e h, h⟩⟩]
    simp
theorem del_len {k : κ} {t : Nd κ ν} (h : WFr hash t) : (toL t).length = (toL (del hash t k)).length + if k ∈ keys t then 1 else 0 := by
  obtain ⟨i1, i3⟩ := del_spec (k := k) h
  by_cases hk : k ∈ keys t
  · rw [if_pos hk]
    obtain ⟨v, hv⟩ := mem_keys.1 hk
    rw [len_of (l := toL t) (l' := (k, v) :: toL (del hash t k)) h.nodup (by
      simp only [List.map_cons, List.nodup_cons]
      refine ⟨fun hk' => ?_, i1.nodup⟩
      obtain ⟨v', hv'⟩ := mem_keys.1 hk'
      exact ((i3 _).1 hv').1 rfl) fun e => by
        rw [List.mem_cons, i3]
        constructor
        · intro he
          by_cases hek : e.1 = k
          · left
            have hn := List.pairwise_iff_getElem.1 h.nodup
            obtain ⟨i, hi, hie⟩ := List.mem_iff_getElem.1 he
            obtain ⟨j, hj, hje⟩ := List.mem_iff_getElem.1 hv
            rcases Nat.lt_trichotomy i j with hij | hij | hij
            · exact (hn i j (by simpa [keys] using hi) (by simpa [keys] using hj) hij (by simp [keys, hie, hje, hek])).elim
            · subst hij; rw [← hie, hje]
            · exact (hn j i (by simpa [keys] using hj) (by simpa [keys] using hi) hij (by simp [keys, hie, hje, hek])).elim
          · exact .inr ⟨hek, he⟩
        · rintro (h | h)
          · rw [h]; exact hv
          · exact h.2]
    simp
  · rw [if_neg hk, Nat.add_zero]
    exact len_of h.nodup i1.nodup fun e => by
      rw [i3]
      exact ⟨fun he => ⟨fun hek => hk (mem_keys.2 ⟨e.2, by rw [← hek]; exact he⟩), he⟩, And.right⟩
end Nd
end Go.Vc
end
section
/- Branches of a trie as bits and as rows without gaps: which children there are, and where they stand. -/
set_option linter.unusedSimpArgs false
set_option linter.unusedVariables false
set_option linter.unusedSectionVars false
namespace Go.Vc.Nd
variable {κ ν : Type} [DecidableEq κ] {f : Nat → Nd κ ν} {i : Nat} {t : Nd κ ν}

def full (f : Nat → Nd κ ν) (j : Nat) : Bool := !(f j).isEmp
theorem full_iff : full f i = true ↔ f i ≠ emp := by unfold full; cases h : (f i).isEmp with
  | true => simp [isEmp_iff.1 h]
  | false => simp; intro e; rw [e] at h; cases h
theorem full_not : full f i = false ↔ f i = emp := by
  have := full_iff (f := f) (i := i)
  cases h : full f i <;> simp_all
def bmN (f : Nat → Nd κ ν) : Nat → Nat
  | 0 => 0
  | n + 1 => (if full f n then 2 ^ n else 0) + bmN f n
def bm (f : Nat → Nd κ ν) : Nat := bmN f 32
def rk (f : Nat → Nd κ ν) (i : Nat) : Nat := ((List.range i).filter (full f)).length
theorem cnt_rk : cnt f = rk f 32 := rfl
theorem rk_succ (i : Nat) : rk f (i + 1) = rk f i + if full f i then 1 else 0 := by
  unfold rk
  rw [List.range_succ, List.filter_append]
  cases h : full f i <;> simp [h]
theorem rk_mono {i j : Nat} (h : i ≤ j) : rk f i ≤ rk f j := by
  induction j with
  | zero => have : i = 0 := by omega
            subst this; omega
  | succ j ih =>
    rw [rk_succ]
    by_cases e : i = j + 1
    · subst e; rw [rk_succ]; omega
    · have := ih (by omega); omega
theorem rk_lt {i j : Nat} (h : i < j) (hf : f i ≠ emp) : rk f i < rk f j := by
  have h1 := rk_mono (f := f) (show i + 1 ≤ j from h)
  rw [rk_succ, if_pos (full_iff.2 hf)] at h1
  omega
theorem rk_le (i : Nat) : rk f i ≤ i := by
  unfold rk
  exact Nat.le_trans (List.length_filter_le _ _) (by simp)
theorem bmN_lt (n : Nat) : bmN f n < 2 ^ n := by
  induction n with
  | zero => simp [bmN]
  | succ n ih => rw [bmN, Nat.pow_succ]; split <;> omega
theorem bm_lt : bm f < 2 ^ 32 := bmN_lt 32
theorem bmN_bit (n j : Nat) : (bmN f n).testBit j = (decide (j < n) && full f j) := by
  induction n with
  | zero => simp [bmN]
  | succ n ih =>
    rw [bmN]
    cases hf : full f n with
    | false =>
      simp only [Bool.false_eq_true, if_false, Nat.zero_add, ih]
      by_cases e : j = n
      · subst e; simp [hf]
      · congr 1; exact decide_eq_decide.2 (by omega)
    | true =>
      simp only [if_true]
      by_cases e : j = n
      · subst e
        rw [Nat.testBit_two_pow_add_eq, Nat.testBit_lt_two_pow (bmN_lt j)]
        simp [hf]
      · by_cases h : j < n
        · rw [Nat.testBit_two_pow_add_gt h, ih]
          congr 1; exact decide_eq_decide.2 (by omega)
        · rw [Nat.testBit_lt_two_pow, decide_eq_false (by omega)]
          · rfl
          · have := bmN_lt (f := f) n
            have : 2 ^ (n + 1) ≤ 2 ^ j := Nat.pow_le_pow_right (by decide) (by omega)
            rw [Nat.pow_succ] at this; omega
theorem bm_bit (j : Nat) : (bm f).testBit j = (decide (j < 32) && full f j) := bmN_bit 32 j
theorem full_put (j : Nat) : full (put f i t) j = if j = i then !t.isEmp else full f j := by
  unfold full put; split <;> rfl
theorem bm_or (hi : i < 32) (ht : t ≠ emp) : bm f ||| 2 ^ i = bm (put f i t) := by
  apply Nat.eq_of_testBit_eq
  intro j
  rw [Nat.testBit_or, bm_bit, bm_bit, Nat.testBit_two_pow, full_put]
  by_cases e : j = i
  · subst e
    have : t.isEmp = false := by cases h : t.isEmp; rfl; exact absurd (isEmp_iff.1 h) ht
    simp [hi, this]
  · have e' : ¬ i = j := fun h => e h.symm
    simp [e, e']
theorem bm_xor (hi : i < 32) (hf : f i ≠ emp) : bm f ^^^ 2 ^ i = bm (put f i emp) := by
  apply Nat.eq_of_testBit_eq
  intro j
  rw [Nat.testBit_xor, bm_bit, bm_bit, Nat.testBit_two_pow, full_put]
  by_cases e : j = i
  · subst e; simp [hi, full_iff.2 hf, isEmp]
  · have e' : ¬ i = j := fun h => e h.symm
    simp [e, e']
theorem bm_keep (hf : f i ≠ emp) (ht : t ≠ emp) : bm (put f i t) = bm f := by
  apply Nat.eq_of_testBit_eq
  intro j
  rw [bm_bit, bm_bit, full_put]
  by_cases e : j = i
  · subst e
    have : t.isEmp = false := by cases h : t.isEmp; rfl; exact absurd (isEmp_iff.1 h) ht
    simp [this, full_iff.2 hf]
  · simp [e]
theorem bm_and (i : Nat) (hi : i < 32) : bm f &&& 2 ^ i = if full f i then 2 ^ i else 0 := by
  apply Nat.eq_of_testBit_eq
  intro j
  rw [Nat.testBit_and, bm_bit, Nat.testBit_two_pow]
  by_cases e : i = j
  · subst e
    cases full f i <;> simp [hi]
  · cases full f i <;> simp [e, Nat.testBit_two_pow]
theorem bm_and_zero (i : Nat) (hi : i < 32) : bm f &&& 2 ^ i = 0 ↔ f i = emp := by
  rw [bm_and i hi]
  cases h : full f i with
  | true => simp only [if_true]; constructor
            · intro h'; have := Nat.pow_pos (n := i) (show 0 < 2 by decide); omega
            · intro h'; rw [full_not.2 h'] at h; cases h
  | false => simp [full_not.1 h]
theorem bm_below (i : Nat) (hi : i ≤ 32) : bm f &&& (2 ^ i - 1) = bmN f i := by
  apply Nat.eq_of_testBit_eq
  intro j
  rw [Nat.testBit_and, bm_bit, Nat.testBit_two_pow_sub_one, bmN_bit]
  by_cases h : j < i
  · simp [h, show j < 32 by omega]
  · simp [h]

/-! ### counting bits -/
def pop : Nat → Nat → Nat
  | 0, _ => 0
  | n + 1, x => x % 2 + pop n (x / 2)
theorem pop_add (a b x : Nat) : pop (a + b) x = pop a x + pop b (x / 2 ^ a) := by
  induction a generalizing x with
  | zero => simp [pop]
  | succ a ih => rw [show a + 1 + b = (a + b) + 1 from by omega, pop, pop, ih, Nat.div_div_eq_div_mul, Nat.pow_succ, Nat.mul_comm 2 (2 ^ a)]; omega
theorem pop_mod (a x : Nat) : pop a (x % 2 ^ a) = pop a x := by
  induction a generalizing x with
  | zero => simp [pop]
  | succ a ih =>
    rw [pop, pop]
    have h1 : x % 2 ^ (a + 1) % 2 = x % 2 := by rw [Nat.pow_succ, Nat.mul_comm, Nat.mod_mul_right_mod]
    have h2 : x % 2 ^ (a + 1) / 2 = x / 2 % 2 ^ a := by
      rw [Nat.pow_succ, Nat.mul_comm, Nat.mod_mul_right_div_self]
    rw [h1, h2, ih]
theorem pop_small : ∀ (a b x : Nat), x < 2 ^ a → pop (a + b) x = pop a x := fun a b x h => by
  rw [pop_add, Nat.div_eq_of_lt h]
  have : ∀ b, pop b 0 = 0 := fun b => by induction b with
    | zero => rfl
    | succ b ih => simp [pop, ih]
  rw [this]; omega
theorem pop_le (a x : Nat) : pop a x ≤ a := by
  induction a generalizing x with
  | zero => simp [pop]
  | succ a ih => rw [pop]; have := ih (x / 2); omega
theorem pop_bmN (n : Nat) : pop n (bmN f n) = rk f n := by
  induction n with
  | zero => rfl
  | succ n ih =>
    rw [rk_succ, pop_add n 1, ← ih, bmN]
    have hl := bmN_lt (f := f) n
    cases full f n with
    | false =>
      simp only [Bool.false_eq_true, if_false, Nat.zero_add, Nat.add_zero]
      rw [Nat.div_eq_of_lt hl]; simp [pop]
    | true =>
      simp only [if_true]
      rw [← pop_mod n (2 ^ n + bmN f n), Nat.add_mod_left, Nat.mod_eq_of_lt hl, Nat.add_div_left _ (Nat.pow_pos (by decide)), Nat.div_eq_of_lt hl]
      simp [pop]
theorem pop_rk (hi : i ≤ 32) : pop 32 (bm f &&& (2 ^ i - 1)) = rk f i := by
  rw [bm_below i hi, ← pop_bmN, show 32 = i + (32 - i) from by omega, pop_small _ _ _ (bmN_lt i)]
/-- By bytes. -/
theorem pop_bytes (x : Nat) (h : x < 2 ^ 32) : pop 32 x = pop 8 (x / 2 ^ 24) + pop 8 (x / 2 ^ 16 % 256) + pop 8 (x / 2 ^ 8 % 256) + pop 8 (x % 256) := by
  rw [show 32 = 8 + (8 + (8 + 8)) from rfl, pop_add, pop_add, pop_add, Nat.div_div_eq_div_mul, Nat.div_div_eq_div_mul]
  have e : ∀ y, pop 8 (y % 256) = pop 8 y := fun y => pop_mod 8 y
  rw [e, e, e]
  rw [show (2 : Nat) ^ 8 * 2 ^ 8 = 2 ^ 16 from rfl, show (2 : Nat) ^ 16 * 2 ^ 8 = 2 ^ 24 from rfl]
  omega

/-! ### the row of the children -/
variable {α : Type} {vs : Nat → α} {v : α}
def kids (f : Nat → Nd κ ν) (vs : Nat → α) : List α := ((List.range 32).filter (full f)).map vs
theorem kids_len : (kids f vs).length = cnt f := by simp [kids, cnt_rk, rk]
theorem range_split {i n : Nat} (h : i < n) : List.range n = List.range i ++ i :: (List.range' (i + 1) (n - i - 1)) := by
  rw [List.range_eq_range', List.range_eq_range', show n = i + (1 + (n - i - 1)) from by omega, ← List.range'_append_1, ← List.range'_append_1]
  simp
theorem kids_split (hi : i < 32) : kids f vs = ((List.range i).filter (full f)).map vs ++ (if full f i then [vs i] else []) ++ ((List.range' (i + 1) (32 - i - 1)).filter (full f)).map vs := by
  rw [kids, range_split hi, List.filter_append, List.filter_cons]
  cases full f i <;> simp
theorem kids_get (hi : i < 32) (hf : f i ≠ emp) : (kids f vs)[rk f i]? = some (vs i) := by
  rw [kids_split hi, if_pos (full_iff.2 hf), List.append_assoc, List.getElem?_append_right (by simp [rk])]
  simp [rk]
def putV (vs : Nat → α) (i : Nat) (v : α) : Nat → α := fun j => if j = i then v else vs j
theorem kids_take (hi : i < 32) : (kids f vs).take (rk f i) = ((List.range i).filter (full f)).map vs := by
  rw [kids_split hi, List.append_assoc, List.take_append_of_le_length (by simp [rk]), List.take_of_length_le (by simp [rk])]
theorem kids_drop (hi : i < 32) : (kids f vs).drop (rk f i) = (if full f i then [vs i] else []) ++ ((List.range' (i + 1) (32 - i - 1)).filter (full f)).map vs := by
  rw [kids_split hi, List.append_assoc, List.drop_append_of_le_length (by simp [rk]), List.drop_of_length_le (by simp [rk])]
  simp
theorem kids_put (hi : i < 32) (ht : t ≠ emp) : kids (put f i t) (putV vs i v) = (kids f vs).take (rk f i) ++ v :: (kids f vs).drop (rk f i + if full f i then 1 else 0) := by
  have hfull : full (put f i t) i = true := full_iff.2 (by rw [put_same]; exact ht)
  have h1 : ∀ l : List Nat, (∀ x ∈ l, x ≠ i) → (l.filter (full (put f i t))).map (putV vs i v) = (l.filter (full f)).map vs := fun l hl => by
    rw [List.filter_congr (q := full f) (fun x hx => by rw [full_put, if_neg (hl x hx)])]
    apply List.map_congr_left
    intro x hx
    rw [putV, if_neg (hl x ((List.mem_filter.1 hx).1))]
  rw [kids_take hi, kids_split hi, hfull, h1 _ (fun x hx => by simp at hx; omega), h1 _ (fun x hx => by simp [List.mem_range'_1] at hx; omega)]
  have h2 : (kids f vs).drop (rk f i + if full f i then 1 else 0) = ((List.range' (i + 1) (32 - i - 1)).filter (full f)).map vs := by
    rw [← List.drop_drop, kids_drop hi]
    cases full f i <;> simp
  rw [h2]
  simp [putV]
theorem kids_del (hi : i < 32) (hf : f i ≠ emp) : kids (put f i emp) (putV vs i v) = (kids f vs).take (rk f i) ++ (kids f vs).drop (rk f i + 1) := by
  have hfull : full (put f i (emp : Nd κ ν)) i = false := full_not.2 (by rw [put_same])
  have h1 : ∀ l : List Nat, (∀ x ∈ l, x ≠ i) → (l.filter (full (put f i emp))).map (putV vs i v) = (l.filter (full f)).map vs := fun l hl => by
    rw [List.filter_congr (q := full f) (fun x hx => by rw [full_put, if_neg (hl x hx)])]
    apply List.map_congr_left
    intro x hx
    rw [putV, if_neg (hl x ((List.mem_filter.1 hx).1))]
  rw [kids_take hi, kids_split hi, hfull, h1 _ (fun x hx => by simp at hx; omega), h1 _ (fun x hx => by simp [List.mem_range'_1] at hx; omega), ← List.drop_drop, kids_drop hi, if_pos (full_iff.2 hf)]
  simp
end Go.Vc.Nd
end
section
/- Maps of Go: what an update, a deletion, a look-up and a range loop do to a map that has pairs, each key once. -/
set_option linter.unusedSectionVars false
set_option linter.unusedSimpArgs false
set_option maxHeartbeats 1000000
namespace Go.Vc
variable {P : Program} {w w' : World} {K : Value → World → Prop} {Kp : KP} {κ ν : Type} [DecidableEq κ]

/-- How keys are values. -/
structure KeyEnc (P : Program) (kt : TypeId) (κ : Type) [DecidableEq κ] where
  enc : κ → Value
  desc : TypeDesc
  und : P.underlying kt = some desc
  same : ∀ a b, Instr.sameNow desc (enc a) (enc b) = some (decide (a = b))
  bits : ∀ a, Instr.sameBits 10000 (enc a) (enc a) = true
  chk : ∀ (w : World) (e : Bool) a, (Instr.checkKey e 10000 kt (enc a)).run P w = .ok () w

/-- A map in block b with the pairs D. -/
structure GMap (w : World) (ek : κ → Value) (ev : ν → Value) (b : Nat) (D : List (κ × ν)) (es : Array MapEntry) (clock : Nat) : Prop where
  heap : w.heap[b]? = some (.map es clock)
  pairs : es.toList.map (fun e => (e.key, e.val)) = D.map fun p => (ek p.1, ev p.2)
  nodup : (D.map (·.1)).Nodup
  born : ∀ x ∈ es.toList, x.born < clock
  apart : (es.toList.map (·.born)).Nodup
def HasMap (w : World) (ek : κ → Value) (ev : ν → Value) (b : Nat) (D : List (κ × ν)) : Prop := ∃ es clock, GMap w ek ev b D es clock

variable {kt : TypeId} {E : KeyEnc P kt κ} {ev : ν → Value} {b : Nat} {D : List (κ × ν)}
theorem HasMap.frame {M : Nat → Prop} {ek : κ → Value} (h : HasMap w ek ev b D) (hf : Frm M w w') (hM : ¬ M b) : HasMap w' ek ev b D := by
  obtain ⟨es, clock, h1⟩ := h
  exact ⟨es, clock, { h1 with heap := hf.get h1.heap hM }⟩
theorem HasMap.lt {ek : κ → Value} (h : HasMap w ek ev b D) : b < w.heap.size := by obtain ⟨es, clock, h1⟩ := h; exact lt_of_get h1.heap
theorem hasMap_new (w : World) (ek : κ → Value) (ev : ν → Value) : HasMap (w.alloc (.map #[] 0)) ek ev w.heap.size [] :=
  ⟨#[], 0, hp_alloc_new, rfl, by simp, by simp, by simp⟩

theorem len_pairs {es : Array MapEntry} {ek : κ → Value} (h : es.toList.map (fun e => (e.key, e.val)) = D.map fun p => (ek p.1, ev p.2)) : es.size = D.length := by
  have := congrArg List.length h
  simpa using this
theorem findNow_eq : ∀ (l : List MapEntry) (D : List (κ × ν)) (i : Nat) (k : κ), l.map (fun e => (e.key, e.val)) = D.map (fun p => (E.enc p.1, ev p.2)) →
    Instr.findNow E.desc (E.enc k) l i = some ((Nd.find D k).map fun j => (i + j, (l[j]?.map (·.val)).getD undef))
  | [], D, i, k, h => by
    have : D = [] := by simpa using h.symm
    subst this
    rfl
  | e :: l, [], i, k, h => by simp at h
  | e :: l, p :: D, i, k, h => by
    simp only [List.map_cons, List.cons.injEq, Prod.mk.injEq] at h
    obtain ⟨⟨h1, h2⟩, h3⟩ := h
    unfold Instr.findNow
    rw [h1, E.same]
    by_cases hk : k = p.1
    · subst hk
      simp [Nd.find, List.findIdx?_cons]
    · have hk' : ¬ p.1 = k := fun e => hk e.symm
      simp only [decide_eq_false hk]
      rw [findNow_eq l D (i + 1) k h3]
      simp only [Nd.find, List.findIdx?_cons, decide_eq_false hk', Bool.false_eq_true, if_false, Option.map_map]
      congr 1
      cases h4 : List.findIdx? (fun e => decide (e.1 = k)) D with
      | none => simp
      | some j => simp; omega
theorem findKey_run {es : Array MapEntry} {clock : Nat} (h : GMap w E.enc ev b D es clock) (k : κ) :
    (Instr.findKey kt (E.enc k) es.toList).run P w = .ok ((Nd.find D k).map fun j => (j, (es[j]?.map (·.val)).getD undef)) w := by
  unfold Instr.findKey
  simp only [Sem.run_bind, run_und E.und, Result.andThen_ok, findNow_eq (E := E) es.toList D 0 k h.pairs]
  simp
theorem erase_map {α β : Type} (f : α → β) : ∀ (l : List α) (i : Nat), (l.eraseIdx i).map f = (l.map f).eraseIdx i
  | [], i => by simp
  | a :: l, 0 => by simp
  | a :: l, i + 1 => by simp [erase_map f l i]
theorem get_pair {es : Array MapEntry} {ek : κ → Value} (h : es.toList.map (fun e => (e.key, e.val)) = D.map fun p => (ek p.1, ev p.2)) {j : Nat} (hj : j < D.length) :
    ∃ hj' : j < es.size, es[j].key = ek D[j].1 ∧ es[j].val = ev D[j].2 := by
  have hl := len_pairs h
  refine ⟨by omega, ?_⟩
  have := congrArg (fun l => l[j]?) h
  simp only [List.getElem?_map] at this
  rw [List.getElem?_eq_getElem (by simpa using (by omega : j < es.size)), List.getElem?_eq_getElem hj] at this
  simpa using this

theorem run_getObj_at {es : Array MapEntry} {clock : Nat} {r : Nat} (h : w.heap[r]? = some (.map es clock)) : (getObj r).run P w = .ok (.map es clock) w := by simp only [getObj, Sem.run, h]
theorem run_setObj_at' {es : Array MapEntry} {clock : Nat} {o' : Obj} {r : Nat} (h : w.heap[r]? = some (.map es clock)) : (setObj r o').run P w = .ok () (w.upd r o') := by simp only [setObj, Sem.run, h]; rfl

theorem op_mkMap {t : TypeId} (hK : K (.map (some w.heap.size)) (w.alloc (.map #[] 0))) : (nice P).op (.mkMap t none) w K Kp := by
  show outOf P (VOp.mkMap t none).sem w K Kp
  exact out_ok (w' := w.alloc (.map #[] 0)) (v := .map (some w.heap.size)) rfl hK
theorem op_mapLen {t k e ty : TypeId} {ek : κ → Value} (ht : P.underlying t = some (.map k e)) (h : HasMap w ek ev b D) (hK : K (.int .i64 D.length) w) : (nice P).op (.blt .len [t] ty [.map (some b)]) w K Kp := by
  obtain ⟨es, clock, h⟩ := h
  have h1 := h.heap
  have hl := len_pairs h.pairs
  show outOf P _ w K Kp
  refine out_ok (w' := w) (v := .int .i64 D.length) ?_ hK
  simp [VOp.sem, bltSem, Builtin.len_, Builtin.lenOf, run_und ht, run_getObj_at h1, hl, goInt]
theorem run_mapLen {t k e ty : TypeId} {ek : κ → Value} (ht : P.underlying t = some (.map k e)) (h : HasMap w ek ev b D) : (VOp.blt .len [t] ty [.map (some b)]).sem.run P w = .ok (.int .i64 D.length) w := by
  obtain ⟨es, clock, h⟩ := h
  have h1 := h.heap
  have hl := len_pairs h.pairs
  simp [VOp.sem, bltSem, Builtin.len_, Builtin.lenOf, run_und ht, run_getObj_at h1, hl, goInt]
theorem ld_mapLen {t k e ty : TypeId} {ek : κ → Value} {K1 : Value → Prop} (ht : P.underlying t = some (.map k e)) (h : HasMap w ek ev b D) (hK : K1 (.int .i64 D.length)) : (nice P).ld (.blt .len [t] ty [.map (some b)]) w K1 := ⟨_, run_mapLen ht h, hK⟩
theorem same_mapLen {t k e ty : TypeId} {ek : κ → Value} (ht : P.underlying t = some (.map k e)) (h : HasMap w ek ev b D) : (nice P).same (.blt .len [t] ty [.map (some b)]) (.int .i64 D.length) w := run_mapLen ht h
theorem op_update {t e : TypeId} {k : κ} {v : ν} (ht : P.underlying t = some (.map kt e)) (h : HasMap w E.enc ev b D) (hK : ∀ w', Frm (· = b) w w' → w'.heap.size = w.heap.size → HasMap w' E.enc ev b (Nd.upd D k v) → K undef w') :
    (nice P).op (.mapUpdate t (.map (some b)) (E.enc k) (ev v)) w K Kp := by
  obtain ⟨es, clock, h⟩ := h
  show outOf P _ w K Kp
  have hf := findKey_run h k
  have hfr : ∀ o, Frm (· = b) w (w.upd b o) := fun o => Frm.upd _ _ fun _ => rfl
  have hl := len_pairs h.pairs
  cases hx : Nd.find D k with
  | none =>
    rw [hx] at hf
    refine out_ok (w' := w.upd b (.map (es.push { key := E.enc k, val := ev v, born := clock }) (clock + 1))) (v := undef) ?_ (hK _ (hfr _) (by simp) ⟨_, _, heap_upd_same h.heap, ?_, ?_, ?_, ?_⟩)
    · simp [VOp.sem, Instr.mapUpdate, run_und ht, run_getObj_at h.heap, E.chk, hf, run_setObj_at' h.heap]
    · simp [Nd.upd, hx, h.pairs]
    · exact Nd.upd_nodup h.nodup
    · intro x hx'
      simp at hx'
      rcases hx' with hx' | rfl
      · have := h.born x (by simpa using hx'); omega
      · simp
    · simp only [Array.toList_push, List.map_append, List.map_cons, List.map_nil]
      rw [List.nodup_append]
      refine ⟨h.apart, by simp, fun a ha c hc => ?_⟩
      obtain ⟨x, hx', rfl⟩ := List.mem_map.1 ha
      simp at hc
      have := h.born x hx'; omega
  | some j =>
    rw [hx] at hf
    obtain ⟨hj, h1, h2⟩ := Nd.find_some hx
    obtain ⟨hj', hk, hv⟩ := get_pair h.pairs hj
    have hkk : es[j].key = E.enc k := by rw [hk, h1]
    refine out_ok (w' := w.upd b (.map (es.modify j fun e => { e with key := E.enc k, val := ev v }) clock)) (v := undef) ?_ (hK _ (hfr _) (by simp) ⟨_, _, heap_upd_same h.heap, ?_, ?_, ?_, ?_⟩)
    · simp [VOp.sem, Instr.mapUpdate, run_und ht, run_getObj_at h.heap, E.chk, hf, run_setObj_at' h.heap, Instr.keyThatStays, hj', hkk, E.bits]
    · simp only [Nd.upd, hx]
      rw [List.map_set, ← h.pairs]
      apply List.ext_getElem?
      intro i
      simp only [List.getElem?_map, Array.getElem?_toList, Array.getElem?_modify, List.getElem?_set, List.length_map, Array.length_toList]
      by_cases hi : j = i
      · subst hi
        simp [hj']
      · simp [hi]
    · exact Nd.upd_nodup h.nodup
    · intro x hx'
      obtain ⟨i, hi, rfl⟩ := List.mem_iff_getElem.1 hx'
      simp at hi
      simp only [Array.getElem_toList, Array.getElem_modify]
      split
      · show es[i].born < clock
        exact h.born es[i] (by simp)
      · exact h.born _ (by simp)
    · have : (es.modify j fun e => { e with key := E.enc k, val := ev v }).toList.map (·.born) = es.toList.map (·.born) := by
        apply List.ext_getElem?
        intro i
        simp only [List.getElem?_map, Array.getElem?_toList, Array.getElem?_modify]
        by_cases hi : j = i
        · subst hi; simp [Function.comp_def]
        · simp [hi]
      rw [this]; exact h.apart
theorem op_delete {t e ty : TypeId} {k : κ} (ht : P.underlying t = some (.map kt e)) (h : HasMap w E.enc ev b D) (hK : ∀ w', Frm (· = b) w w' → w'.heap.size = w.heap.size → HasMap w' E.enc ev b (Nd.wipe D k) → K (.tuple #[]) w') :
    (nice P).op (.blt .delete [t, kt] ty [.map (some b), E.enc k]) w K Kp := by
  obtain ⟨es, clock, h⟩ := h
  show outOf P _ w K Kp
  have hf := findKey_run h k
  have hfr : ∀ o, Frm (· = b) w (w.upd b o) := fun o => Frm.upd _ _ fun _ => rfl
  cases hx : Nd.find D k with
  | none =>
    rw [hx] at hf
    refine out_ok (w' := w.upd b (.map es clock)) (v := .tuple #[]) ?_ (hK _ (hfr _) (by simp) ⟨_, _, heap_upd_same h.heap, ?_, ?_, h.born, h.apart⟩)
    · simp [VOp.sem, bltSem, Builtin.delete_, run_und ht, run_getObj_at h.heap, E.chk, hf, run_setObj_at' h.heap]
    · simp [Nd.wipe, hx, h.pairs]
    · simp only [Nd.wipe, hx]; exact h.nodup
  | some j =>
    rw [hx] at hf
    obtain ⟨hj, h1, h2⟩ := Nd.find_some hx
    obtain ⟨hj', hk, hv⟩ := get_pair h.pairs hj
    have he : (es.eraseIdxIfInBounds j).toList = es.toList.eraseIdx j := by simp [Array.eraseIdxIfInBounds, hj']
    refine out_ok (w' := w.upd b (.map (es.eraseIdxIfInBounds j) clock)) (v := .tuple #[]) ?_ (hK _ (hfr _) (by simp) ⟨_, _, heap_upd_same h.heap, ?_, ?_, ?_, ?_⟩)
    · simp [VOp.sem, bltSem, Builtin.delete_, run_und ht, run_getObj_at h.heap, E.chk, hf, run_setObj_at' h.heap]
    · rw [he, erase_map, h.pairs, ← erase_map]
      simp [Nd.wipe, hx]
    · simp only [Nd.wipe, hx]; exact Nd.erase_nodup h.nodup
    · rw [he]; exact fun x hx' => h.born x ((List.eraseIdx_sublist _ _).subset hx')
    · rw [he]; exact h.apart.sublist ((List.eraseIdx_sublist _ _).map _)
theorem op_lookup {t e : TypeId} {k : κ} {z : Value} {ok : Bool} (ht : P.underlying t = some (.map kt e)) (hz : zeroOf P e = some z) (h : HasMap w E.enc ev b D)
    (hK : K (if ok then .tuple #[((Nd.look D k).map ev).getD z, .bool (Nd.look D k).isSome] else ((Nd.look D k).map ev).getD z) w) : (nice P).op (.lookup t (.map (some b)) (E.enc k) ok) w K Kp := by
  obtain ⟨es, clock, h⟩ := h
  show outOf P _ w K Kp
  have hf := findKey_run h k
  have hlook : Nd.look D k = (Nd.find D k).bind fun j => (D[j]?).map (·.2) := by
    unfold Nd.look Nd.find
    clear h hf hK
    induction D with
    | nil => rfl
    | cons p D ih =>
      rw [List.find?_cons, List.findIdx?_cons]
      by_cases hp : p.1 = k
      · simp [hp]
      · simp only [decide_eq_false hp, Bool.false_eq_true, if_false]
        rw [ih]
        cases List.findIdx? (fun e => decide (e.1 = k)) D <;> simp
  cases hx : Nd.find D k with
  | none =>
    rw [hx] at hf hlook
    simp only [Option.bind_none] at hlook
    rw [hlook] at hK
    refine out_ok (w' := w) (v := if ok then .tuple #[z, .bool false] else z) ?_ (by simpa using hK)
    cases ok <;> simp [VOp.sem, Instr.lookup, run_und ht, run_getObj_at h.heap, E.chk, hf, zero_run hz]
  | some j =>
    rw [hx] at hf hlook
    obtain ⟨hj, h1, h2⟩ := Nd.find_some hx
    obtain ⟨hj', hk, hv⟩ := get_pair h.pairs hj
    simp only [Option.bind_some, List.getElem?_eq_getElem hj, Option.map_some] at hlook
    rw [hlook] at hK
    refine out_ok (w' := w) (v := if ok then .tuple #[ev D[j].2, .bool true] else ev D[j].2) ?_ (by simpa using hK)
    cases ok <;> simp [VOp.sem, Instr.lookup, run_und ht, run_getObj_at h.heap, E.chk, hf, hj', hv]
end Go.Vc
end
section
/- Range loops over maps of Go. -/
set_option linter.unusedSectionVars false
set_option linter.unusedSimpArgs false
set_option maxHeartbeats 1000000
namespace Go.Vc
open Go.ChangeMaps (setBlock)
variable {P : Program} {w w' : World} {K : Value → World → Prop} {Kp : KP} {κ ν : Type} [DecidableEq κ]

/-- A loop over the map in block b goes on by the iterator in block r; L: the pairs to come. -/
def Ranging (w : World) (ek : κ → Value) (ev : ν → Value) (b : Nat) (D : List (κ × ν)) (r : Nat) (L : List (κ × ν)) : Prop :=
  ∃ es clock since seen c0, GMap w ek ev b D es clock ∧ w.heap[r]? = some (.mapIter (some b) since seen c0) ∧ (∀ x ∈ es.toList, x.born < since) ∧ since ≤ c0 ∧ since ≤ clock ∧
    (leftOf es seen).toList.map (fun e => (e.key, e.val)) = L.map fun p => (ek p.1, ev p.2)
variable {ek : κ → Value} {ev : ν → Value} {b r : Nat} {D L : List (κ × ν)}
theorem Ranging.frame {M : Nat → Prop} (h : Ranging w ek ev b D r L) (hf : Frm M w w') (hb : ¬ M b) (hr : ¬ M r) : Ranging w' ek ev b D r L := by
  obtain ⟨es, clock, since, seen, c0, h1, h2, h3⟩ := h
  exact ⟨es, clock, since, seen, c0, { h1 with heap := hf.get h1.heap hb }, hf.get h2 hr, h3⟩
theorem Ranging.map (h : Ranging w ek ev b D r L) : HasMap w ek ev b D := by
  obtain ⟨es, clock, since, seen, c0, h1, h2⟩ := h
  exact ⟨es, clock, h1⟩
theorem Ranging.ne (h : Ranging w ek ev b D r L) : r ≠ b := by
  obtain ⟨es, clock, since, seen, c0, h1, h2, _⟩ := h
  rintro rfl
  rw [h1.heap] at h2; cases h2
theorem Ranging.lt (h : Ranging w ek ev b D r L) : r < w.heap.size := by
  obtain ⟨es, clock, since, seen, c0, h1, h2, _⟩ := h
  exact lt_of_get h2

theorem op_range {t k e : TypeId} (ht : P.underlying t = some (.map k e)) (h : HasMap w ek ev b D) (hK : ∀ w', (∀ {M}, Frm M w w') → w'.heap.size = w.heap.size + 1 → Ranging w' ek ev b D w.heap.size D → K (.pointer (some ⟨w.heap.size, 0, none⟩)) w') :
    (nice P).op (.range t (.map (some b))) w K Kp := by
  obtain ⟨es, clock, h⟩ := h
  show outOf P (VOp.range t (.map (some b))).sem w K Kp
  refine out_ok (run_range_map w t k e b es clock ht h.heap) (hK _ (Frm.alloc _ _) (by simp) ⟨es, clock, clock, #[], clock, { h with heap := hp_alloc_lt h.heap }, hp_alloc_new, h.born, Nat.le_refl _, Nat.le_refl _, ?_⟩)
  rw [← h.pairs]
  simp only [leftOf, Array.toList_filter]
  congr 1
  rw [List.filter_eq_self]
  simp
theorem op_range_nil {t k e : TypeId} (ht : P.underlying t = some (.map k e)) (hK : K (.pointer (some ⟨w.heap.size, 0, none⟩)) (w.alloc (.mapIter none 0 #[] 0))) :
    (nice P).op (.range t (.map none)) w K Kp := by
  show outOf P (VOp.range t (.map none)).sem w K Kp
  exact out_ok (run_range_nilMap w t k e ht) hK

theorem filter_erase {es : List MapEntry} (hn : (es.map (·.born)).Nodup) : ∀ (i : Nat) (hi : i < es.length), es.filter (fun x => !(x.born == es[i].born)) = es.eraseIdx i := by
  induction es with
  | nil => intro i hi; simp at hi
  | cons a es ih =>
    intro i hi
    simp only [List.map_cons, List.nodup_cons] at hn
    match i, hi with
    | 0, _ =>
      simp only [List.getElem_cons_zero, List.eraseIdx_cons_zero, List.filter_cons, beq_self_eq_true, Bool.not_true, Bool.false_eq_true, if_false]
      rw [List.filter_eq_self]
      intro x hx
      have : x.born ≠ a.born := fun e => hn.1 (by rw [← e]; exact List.mem_map.2 ⟨x, hx, rfl⟩)
      simpa using this
    | i + 1, hi =>
      have hi' : i < es.length := by simpa using hi
      have : a.born ≠ es[i].born := fun e => hn.1 (by rw [e]; exact List.mem_map.2 ⟨_, List.getElem_mem hi', rfl⟩)
      simp only [List.getElem_cons_succ, List.eraseIdx_cons_succ, List.filter_cons]
      rw [ih hn.2 i hi']
      simp [this]

/-- The pair of the turn that the loop is in. -/
def Turn (w : World) (ek : κ → Value) (ev : ν → Value) (b r : Nat) (p : κ × ν) : Prop :=
  ∃ (es : Array MapEntry) (clock since : Nat) (seen : Array Nat) (e : MapEntry), w.heap[b]? = some (.map es clock) ∧ w.heap[r]? = some (.mapIter (some b) since (seen.push e.born) clock) ∧ e ∈ es.toList ∧ (es.toList.map (·.born)).Nodup ∧ e.key = ek p.1 ∧ e.val = ev p.2
theorem op_entry {p : κ × ν} (h : Turn w ek ev b r p) (hK : K (.tuple #[ek p.1, ev p.2]) w) : (nice P).op (.entry (.pointer (some ⟨r, 0, none⟩))) w K Kp := by
  obtain ⟨es, clock, since, seen, e, h1, h2, h3, h4, h5, h6⟩ := h
  show outOf P (VOp.entry (.pointer (some ⟨r, 0, none⟩))).sem w K Kp
  have := run_entry_at (P := P) w r b since seen es clock e h2 h1 h3 h4
  rw [h5, h6] at this
  exact out_ok this hK
theorem op_next {ty : TypeId} (h : Ranging w ek ev b D r L) (hK0 : L = [] → K (.tuple #[.bool false]) w)
    (hK1 : ∀ (i : Nat) (hi : i < L.length) (w' : World), Frm (· = r) w w' → w'.heap.size = w.heap.size → Ranging w' ek ev b D r (L.eraseIdx i) → Turn w' ek ev b r L[i] → K (.tuple #[.bool true, ek L[i].1, ev L[i].2]) w') :
    (nice P).op (.next (.pointer (some ⟨r, 0, none⟩)) false ty) w K Kp := by
  have hne := h.ne
  obtain ⟨es, clock, since, seen, c0, h1, h2, h3, h4, h5, h6⟩ := h
  show outOf P (VOp.next (.pointer (some ⟨r, 0, none⟩)) false ty).sem w K Kp
  rcases run_next_at (P := P) w ty r b since c0 seen es clock h2 h1.heap h3 h4 with ⟨h0, hrun⟩ | ⟨e, he, w1, hal, hrun⟩
  · refine out_ok hrun (hK0 ?_)
    have := congrArg List.length h6
    simp [h0] at this
    exact List.eq_nil_of_length_eq_zero this.symm
  · have he0 : e ∈ es.toList := by have := he; simp [leftOf] at this; simpa using this.1
    obtain ⟨i, hi, hie⟩ := List.mem_iff_getElem.1 he
    have hl := congrArg List.length h6
    simp only [List.length_map] at hl
    have hiL : i < L.length := by omega
    have hkv : e.key = ek L[i].1 ∧ e.val = ev L[i].2 := by
      have := congrArg (fun l => l[i]?) h6
      simp only [List.getElem?_map] at this
      rw [List.getElem?_eq_getElem hi, List.getElem?_eq_getElem hiL, hie] at this
      simpa using this
    have hfw : Frm (· = r) w (setBlock w1 r (.mapIter (some b) since (seen.push e.born) clock)) := by
      rcases hal with rfl | rfl
      · exact Frm.upd (M := (· = r)) _ _ fun _ => rfl
      · exact (Frm.drew w).trans (Frm.upd (M := (· = r)) _ _ fun _ => rfl) fun _ h _ => h
    have hw1 : w1.heap[r]? = some (.mapIter (some b) since seen c0) := by rcases hal with rfl | rfl <;> exact h2
    have hsz : (setBlock w1 r (.mapIter (some b) since (seen.push e.born) clock)).heap.size = w.heap.size := by rcases hal with rfl | rfl <;> simp [setBlock]
    have hit : (setBlock w1 r (.mapIter (some b) since (seen.push e.born) clock)).heap[r]? = some (.mapIter (some b) since (seen.push e.born) clock) := heap_upd_same (w := w1) hw1
    refine out_ok hrun ?_
    rw [hkv.1, hkv.2]
    refine hK1 i hiL _ hfw hsz ⟨es, clock, since, seen.push e.born, clock, { h1 with heap := hfw.get h1.heap (fun e => hne e.symm) }, hit, h3, h5, h5, ?_⟩ ⟨es, clock, since, seen, e, hfw.get h1.heap (fun e => hne e.symm), hit, he0, h1.apart, hkv.1, hkv.2⟩
    rw [erase_map, ← h6, ← erase_map]
    congr 1
    have hsub : (leftOf es seen).toList.Sublist es.toList := by simp [leftOf]
    have hnd : ((leftOf es seen).toList.map (·.born)).Nodup := h1.apart.sublist (hsub.map _)
    rw [← filter_erase hnd i hi, hie]
    simp only [leftOf, Array.toList_filter, List.filter_filter]
    congr 1
    funext x
    have e1 : (x.born == e.born) = decide (x.born = e.born) := by by_cases h : x.born = e.born <;> simp [h]
    simp [Array.contains_push, Bool.not_or, Bool.and_comm, e1]
end Go.Vc
end
