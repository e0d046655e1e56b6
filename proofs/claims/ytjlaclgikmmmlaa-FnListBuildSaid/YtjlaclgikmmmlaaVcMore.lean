/- More rules of single operations: slices of arrays and of slices, copying, and the frame of a walk. -/
import Derived.Test.YtjlaclgikmmmlaaVcSimp
namespace Go.Vc
variable {P : Program} {w : World} {K : Value → World → Prop} {Kp : KP} {K1 : Value → Prop} {t : TypeId}

/-! ### slice expressions -/
theorem pur_slice_hi {n s b o : Nat} {k : IntKind} {x : Int} (h : arrOf P t = some (n, s)) :
    (nice P).pur (.slice t (.pointer (some ⟨b, o, none⟩)) none (some (.int k x)) none) K1 = ((0 ≤ x ∧ x ≤ (n : Int)) ∧ K1 (.slice (some ⟨b, o, none⟩) x.toNat n)) := by
  rw [pur_of (c := (0 : Int) ≤ 0 ∧ 0 ≤ x ∧ x ≤ (n : Int)) (v := .slice (some ⟨b, o, none⟩) x.toNat n)]
  · simp
  · simp [pv, h, cutV, lowV, upV, Addr.add]
theorem pur_slice_lo {n s b o : Nat} {k : IntKind} {x : Int} (h : arrOf P t = some (n, s)) :
    (nice P).pur (.slice t (.pointer (some ⟨b, o, none⟩)) (some (.int k x)) none none) K1 =
      ((0 ≤ x ∧ x ≤ (n : Int)) ∧ K1 (.slice (some (if n = x.toNat then ⟨b, o, none⟩ else ⟨b, o + x.toNat * s, none⟩)) (n - x.toNat) (n - x.toNat))) := by
  rw [pur_of (c := (0 : Int) ≤ x ∧ x ≤ (n : Int) ∧ (n : Int) ≤ n) (v := .slice (some (if n = x.toNat then ⟨b, o, none⟩ else ⟨b, o + x.toNat * s, none⟩)) (n - x.toNat) (n - x.toNat))]
  · simp
  · simp only [pv, h, cutV, lowV, upV, Option.bind_some]
    have : (⟨b, o, none⟩ : Addr).add (x.toNat * s) = ⟨b, o + x.toNat * s, none⟩ := add_spot rfl _
    simp [this]
theorem map_add_zero (a : Option Addr) : (a.map fun p => p.add 0) = a := by cases a <;> simp [Addr.add]
theorem pur_slice_all {len cap s : Nat} {e : TypeId} {a : Option Addr} (h : sliceOf P t = some (e, s)) :
    (nice P).pur (.slice t (.slice a len cap) none none none) K1 = (len ≤ cap ∧ K1 (.slice a len cap)) := by
  rw [pur_of (c := (0 : Int) ≤ 0 ∧ (0 : Int) ≤ (len : Int) ∧ (len : Int) ≤ (cap : Int)) (v := .slice a len cap)]
  · simp
  · simp [pv, h, cutV, lowV, upV, map_add_zero]
theorem op_slice_lohi {len cap s b o : Nat} {e : TypeId} {k k' : IntKind} {x y : Int} (h : sliceOf P t = some (e, s)) :
    (nice P).op (.slice t (.slice (some ⟨b, o, none⟩) len cap) (some (.int k x)) (some (.int k' y)) none) w K Kp =
      ((0 ≤ x ∧ x ≤ y ∧ y ≤ (cap : Int)) ∧ K (.slice (some (if cap = x.toNat then ⟨b, o, none⟩ else ⟨b, o + x.toNat * s, none⟩)) (y.toNat - x.toNat) (cap - x.toNat)) w) := by
  rw [op_of (c := 0 ≤ x ∧ x ≤ y ∧ y ≤ (cap : Int)) (v := .slice (some (if cap = x.toNat then ⟨b, o, none⟩ else ⟨b, o + x.toNat * s, none⟩)) (y.toNat - x.toNat) (cap - x.toNat))]
  have : (⟨b, o, none⟩ : Addr).add (x.toNat * s) = ⟨b, o + x.toNat * s, none⟩ := add_spot rfl _
  simp only [pv, h, cutV, lowV, upV, Option.map_some, this]
  split <;> rfl
theorem op_slice_lo {len cap s b o : Nat} {e : TypeId} {k : IntKind} {x : Int} (h : sliceOf P t = some (e, s)) :
    (nice P).op (.slice t (.slice (some ⟨b, o, none⟩) len cap) (some (.int k x)) none none) w K Kp =
      ((0 ≤ x ∧ x ≤ (len : Int) ∧ (len : Int) ≤ (cap : Int)) ∧ K (.slice (some (if cap = x.toNat then ⟨b, o, none⟩ else ⟨b, o + x.toNat * s, none⟩)) (len - x.toNat) (cap - x.toNat)) w) := by
  rw [op_of (c := 0 ≤ x ∧ x ≤ (len : Int) ∧ (len : Int) ≤ (cap : Int)) (v := .slice (some (if cap = x.toNat then ⟨b, o, none⟩ else ⟨b, o + x.toNat * s, none⟩)) (len - x.toNat) (cap - x.toNat))]
  have : (⟨b, o, none⟩ : Addr).add (x.toNat * s) = ⟨b, o + x.toNat * s, none⟩ := add_spot rfl _
  simp only [pv, h, cutV, lowV, upV, Option.map_some, this, Int.toNat_natCast]
  split <;> rfl

/-! ### copying -/
theorem setRow_upd {w : World} {g : Nat} {cs cs' : Array Value} {e : TypeId} {fz : Nat × Nat} (h : w.heap[g]? = some (.cells cs e fz)) : w.setRow g cs' = w.upd g (.cells cs' e fz) := by
  obtain ⟨hlt, hg⟩ := Array.getElem?_eq_some_iff.1 h
  unfold World.setRow World.upd
  congr 1
  apply Array.ext_getElem?
  intro i
  rw [Array.getElem?_modify, Array.getElem?_setIfInBounds]
  by_cases hi : g = i
  · subst hi; simp [hlt, hg]
  · simp [hi]
/-- Cells of a row of one-celled values are copied onto cells of another one. -/
theorem op_copy {dT sT ty elem : TypeId} {g o dl dc b oo sl sc n : Nat} {cur cs : Array Value} {t e : TypeId} {fz : Nat × Nat}
    (hu : P.underlying dT = some (.slice elem)) (hs : szOf P elem = some 1)
    (hg : w.heap[g]? = some (.cells cur t (0, 0))) (hb : w.heap[b]? = some (.cells cs e fz)) (hn : n = min sl dl)
    (hd : o + n ≤ cur.size) (hsr : oo + n ≤ cs.size) (h1 : ∀ v ∈ cs, v.oneCell' = true)
    (hK : ∀ cur' : Array Value, cur'.size = cur.size → (∀ j, cur'[j]? = if o ≤ j ∧ j < o + n then cs[oo + (j - o)]? else cur[j]?) → K (.int .i64 n) (w.upd g (.cells cur' t (0, 0)))) :
    (nice P).op (.blt .copy [dT, sT] ty [.slice (some ⟨g, o, none⟩) dl dc, .slice (some ⟨b, oo, none⟩) sl sc]) w K Kp := by
  have hlen : (cs.toList.drop oo |>.take n).length = n := by simp; omega
  have hrun := Go.run_copy_row (P := P) w dT sT ty elem g o dl dc ⟨b, oo, none⟩ sl sc cur t ((cs.toList.drop oo).take n) hu hs hg
    (by rw [hlen, hn]) (fun j v hj => by
      rw [add_spot rfl, World.cell?, hb]
      rw [List.getElem?_take] at hj
      split at hj
      · rw [List.getElem?_drop] at hj
        simpa using hj
      · cases hj) (by rw [hlen]; exact hd) (fun v hv => h1 v (by
        have := List.mem_of_mem_drop (List.mem_of_mem_take hv)
        simpa using this))
  show outOf P _ w K Kp
  refine out_ok hrun ?_
  rw [setRow_upd hg, hlen]
  refine hK _ (by simp [hlen]; omega) (fun j => ?_)
  simp only [List.getElem?_toArray]
  by_cases h1 : j < o
  · rw [if_neg (by omega), List.append_assoc, List.getElem?_append_left (by simp; omega), List.getElem?_take, if_pos h1]; simp
  · by_cases h2 : j < o + n
    · rw [if_pos (by omega), List.getElem?_append_left (by simp [hlen]; omega), List.getElem?_append_right (by simp; omega), List.getElem?_take, if_pos (by simp; omega), List.getElem?_drop]
      simp only [List.length_take, Array.length_toList, Array.getElem?_toList]
      congr 1; omega
    · rw [if_neg (by omega), List.getElem?_append_right (by simp [hlen]; omega), List.getElem?_drop]
      simp only [List.length_append, List.length_take, Array.length_toList, Array.getElem?_toList, List.length_drop]
      congr 1; omega

theorem heap_alloc' (w : World) (o : Obj) : (w.alloc o).heap = w.heap.push o := rfl
/-! ### the frame of a walk: blocks outside M stay -/
structure Frm (M : Nat → Prop) (w w' : World) : Prop where
  os : w'.os = w.os
  tape : w'.tape = w.tape
  output : w'.output = w.output
  size : w.heap.size ≤ w'.heap.size
  block : ∀ k, k < w.heap.size → ¬ M k → w'.heap[k]? = w.heap[k]?
namespace Frm
variable {M M' : Nat → Prop} {w w' w'' : World}
theorem refl : Frm M w w := ⟨rfl, rfl, rfl, Nat.le_refl _, fun _ _ _ => rfl⟩
theorem trans (h : Frm M w w') (k : Frm M' w' w'') (hM : ∀ b, M' b → b < w.heap.size → M b) : Frm M w w'' :=
  ⟨k.os.trans h.os, k.tape.trans h.tape, k.output.trans h.output, Nat.le_trans h.size k.size, fun i hi hn => by
    rw [k.block i (Nat.lt_of_lt_of_le hi h.size) (fun hm => hn (hM i hm hi)), h.block i hi hn]⟩
theorem mono (h : Frm M w w') (hM : ∀ b, M b → b < w.heap.size → M' b) : Frm M' w w' :=
  ⟨h.os, h.tape, h.output, h.size, fun i hi hn => h.block i hi fun hm => hn (hM i hm hi)⟩
theorem alloc (w : World) (o : Obj) : Frm M w (w.alloc o) := ⟨rfl, rfl, rfl, by rw [heap_alloc']; simp, fun k hk _ => by rw [heap_alloc']; simp [Array.getElem?_push, Nat.ne_of_lt hk]⟩
theorem upd (w : World) {b : Nat} (o : Obj) (h : b < w.heap.size → M b) : Frm M w (w.upd b o) :=
  ⟨rfl, rfl, rfl, by simp, fun k hk hn => heap_upd_ne (fun e => hn (e ▸ h (e ▸ hk)))⟩
theorem drew (w : World) : Frm M w w.drew := ⟨rfl, rfl, rfl, Nat.le_refl _, fun _ _ _ => rfl⟩
theorem get (h : Frm M w w') {b : Nat} {o : Obj} (hb : w.heap[b]? = some o) (hn : ¬ M b) : w'.heap[b]? = some o := by
  rw [h.block b (Array.getElem?_eq_some_iff.1 hb).1 hn, hb]
end Frm
theorem hp_alloc_lt {w : World} {o : Obj} {b : Nat} {o' : Obj} (h : w.heap[b]? = some o') : (w.alloc o).heap[b]? = some o' := by
  have := (Array.getElem?_eq_some_iff.1 h).1
  rw [heap_alloc']; simp [Array.getElem?_push, Nat.ne_of_lt this, h]
theorem hp_alloc_new {w : World} {o : Obj} : (w.alloc o).heap[w.heap.size]? = some o := by rw [heap_alloc']; simp
@[simp] theorem size_alloc {w : World} {o : Obj} : (w.alloc o).heap.size = w.heap.size + 1 := by rw [heap_alloc']; simp
@[simp] theorem heap_drew {w : World} : w.drew.heap = w.heap := by have h := rfl (a := w.heap); exact h
theorem lt_of_get {w : World} {b : Nat} {o : Obj} (h : w.heap[b]? = some o) : b < w.heap.size := (Array.getElem?_eq_some_iff.1 h).1
theorem getElem?_ow (l : List Value) : ∀ (cs : Array Value) (o : Nat), o + l.length ≤ cs.size → ∀ j : Nat, (ow cs o l)[j]? = if o ≤ j ∧ j < o + l.length then l[j - o]? else cs[j]? := by
  induction l with
  | nil => intro cs o _ j; rw [ow, if_neg (by simp only [List.length_nil]; omega)]
  | cons v l ih =>
    intro cs o h j
    simp only [List.length_cons] at h ⊢
    rw [ow, ih _ _ (by simp; omega), Array.getElem?_setIfInBounds]
    by_cases h1 : j = o
    · subst h1; rw [if_neg (by omega), if_pos rfl, if_pos (by omega), if_pos (by omega)]; simp
    · by_cases h2 : o ≤ j ∧ j < o + (l.length + 1)
      · rw [if_pos (by omega), if_pos h2, show j - o = (j - (o + 1)) + 1 from by omega]; simp
      · rw [if_neg (by omega), if_neg (by omega), if_neg h2]
theorem ow_all {cs : Array Value} {l : List Value} (h : l.length = cs.size) : ow cs 0 l = l.toArray := by
  apply Array.ext_getElem?
  intro j
  rw [getElem?_ow l cs 0 (by omega) j]
  by_cases hj : j < l.length
  · rw [if_pos (by omega)]; simp
  · rw [if_neg (by omega), Array.getElem?_eq_none (by omega), Array.getElem?_eq_none (by simp; omega)]
theorem extract_self {cs : Array Value} {n : Nat} (h : cs.size = n) : cs.extract 0 n = cs := by subst h; simp
@[simp] theorem cells_agg {cs : Array Value} : (Value.agg cs).cells = cs := rfl
@[simp] theorem drew_upd {w : World} {b : Nat} {o : Obj} : (w.upd b o).drew = w.drew.upd b o := rfl
@[simp] theorem drew_alloc {w : World} {o : Obj} : (w.alloc o).drew = w.drew.alloc o := rfl
section
variable {k : IntKind} {n : Int} {a : Option Addr} {t : TypeId} {v : Value} {l c : Nat} {b : Bool} {s : ByteArray}
@[simp] theorem one_int : (Value.int k n).oneCell' = true := by have h : (Value.int k n).oneCell' = true := rfl; exact h
@[simp] theorem one_ptr : (Value.pointer a).oneCell' = true := by have h : (Value.pointer a).oneCell' = true := rfl; exact h
@[simp] theorem one_iface : (Value.iface t v).oneCell' = true := by have h : (Value.iface t v).oneCell' = true := rfl; exact h
@[simp] theorem one_niface : Value.nilIface.oneCell' = true := by have h : Value.nilIface.oneCell' = true := rfl; exact h
@[simp] theorem one_slice : (Value.slice a l c).oneCell' = true := by have h : (Value.slice a l c).oneCell' = true := rfl; exact h
@[simp] theorem one_bool : (Value.bool b).oneCell' = true := by have h : (Value.bool b).oneCell' = true := rfl; exact h
@[simp] theorem one_str : (Value.string s).oneCell' = true := by have h : (Value.string s).oneCell' = true := rfl; exact h
end
theorem alloc_upd {w : World} {b : Nat} {o o' : Obj} (h : b = w.heap.size) : (w.alloc o).upd b o' = w.alloc o' := by
  subst h
  show ({ w.alloc o with heap := (w.alloc o).heap.setIfInBounds w.heap.size o' } : World) = w.alloc o'
  rw [heap_alloc']
  have : (w.heap.push o).setIfInBounds w.heap.size o' = w.heap.push o' := by
    apply Array.ext_getElem?
    intro i
    rw [Array.getElem?_setIfInBounds, Array.getElem?_push, Array.getElem?_push]
    by_cases hi : w.heap.size = i
    · simp [hi]
    · rw [if_neg hi, if_neg (by omega), if_neg (by omega)]
  rw [this]; rfl
theorem hp_alloc_eq {w : World} {b : Nat} {o : Obj} (h : b = w.heap.size) : (w.alloc o).heap[b]? = some o := by subst h; exact hp_alloc_new
theorem hp_alloc_ne {w : World} {b : Nat} {o : Obj} (h : b ≠ w.heap.size) : (w.alloc o).heap[b]? = w.heap[b]? := by
  rw [heap_alloc', Array.getElem?_push, if_neg (by omega)]
end Go.Vc
