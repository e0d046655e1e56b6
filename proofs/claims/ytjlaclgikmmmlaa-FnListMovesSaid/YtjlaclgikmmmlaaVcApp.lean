/- append onto a row that the call has made. -/
import Derived.Test.YtjlaclgikmmmlaaVcMore
import Derived.Maps.AppendAt
set_option linter.unusedSimpArgs false
namespace Go.Vc
variable {P : Program} {w w' : World} {K : Value → World → Prop} {Kp : KP} {t : TypeId}

/-- Values stand one behind the other from a place on. -/
def Row (w : World) (a : Option Addr) (vs : List Value) : Prop :=
  vs = [] ∨ ∃ b o cs e fz, a = some ⟨b, o, none⟩ ∧ w.heap[b]? = some (.cells cs e fz) ∧ ∀ j v, vs[j]? = some v → cs[o + j]? = some v
theorem Row.frame {M : Nat → Prop} {a : Option Addr} {vs : List Value} (h : Row w a vs) (hf : Frm M w w') (hM : ∀ p, a = some p → ¬ M p.block) : Row w' a vs := by
  rcases h with h | ⟨b, o, cs, e, fz, h1, h2, h3⟩
  · exact .inl h
  · exact .inr ⟨b, o, cs, e, fz, h1, hf.get h2 (hM _ h1), h3⟩
theorem Row.get {a : Option Addr} {vs : List Value} (h : Row w a vs) {j : Nat} (hj : j < vs.length) :
    ∃ b o cs e fz, a = some ⟨b, o, none⟩ ∧ w.heap[b]? = some (.cells cs e fz) ∧ cs[o + j]? = some vs[j] := by
  rcases h with h | ⟨b, o, cs, e, fz, h1, h2, h3⟩
  · subst h; simp at hj
  · exact ⟨b, o, cs, e, fz, h1, h2, h3 j _ (by simp [hj])⟩

def apOf (P : Program) (t : TypeId) : Option (TypeId × Nat × Nat) := match P.underlying t with
  | some (.slice e) => match P.info? e with
    | some i => match i.zero with
      | some z => if z.cells.size = i.size ∧ 0 < i.size then some (e, i.size, i.bytes) else none
      | none => none
    | none => none
  | _ => none
theorem apOf_spec {e : TypeId} {size bytes : Nat} (h : apOf P t = some (e, size, bytes)) :
    ∃ i z, P.underlying t = some (.slice e) ∧ P.info? e = some i ∧ i.zero = some z ∧ i.size = size ∧ i.bytes = bytes ∧ z.cells.size = size ∧ 0 < size := by
  unfold apOf at h
  cases hu : P.underlying t with
  | none => simp [hu] at h
  | some d =>
    rw [hu] at h
    cases d with
    | slice e' =>
      cases hi : P.info? e' with
      | none => simp [hi] at h
      | some i =>
        cases hz : i.zero with
        | none => simp [hi, hz] at h
        | some z =>
          simp only [hi, hz, Option.ite_none_right_eq_some, Option.some.injEq, Prod.mk.injEq] at h
          obtain ⟨⟨h1, h2⟩, rfl, rfl, rfl⟩ := h
          exact ⟨i, z, rfl, hi, hz, rfl, rfl, h1, h2⟩
    | _ => simp at h

theorem run_append_empty {base e size n c : Nat} {ty : TypeId} {i : TypeInfo} {v : Value} {xs : List Value} (ht : P.underlying t = some (.slice e)) (hi : P.info? e = some i)
    (h : w.ownsRow base e size v n xs) : (Builtin.append_ #[t, t] ty #[v, .slice none 0 c]).run P w = .ok v w := by
  obtain ⟨_, ⟨rfl, rfl⟩ | ⟨g, cap, cur, rfl, _, _, hle, _⟩⟩ := h <;>
    simp [Builtin.append_, run_underlying ht, sizeOf, typeInfo, hi, Builtin.lenOf, Builtin.firstCells, storeCells]
  omega

/-- A row of the call's own grows. -/
theorem op_append {base e size bytes n m c : Nat} {ty : TypeId} {v : Value} {a : Option Addr} {xs news : List Value} (ha : apOf P t = some (e, size, bytes))
    (hown : w.ownsRow base e size v n xs) (hr : Row w a news) (hm : news.length = m * size) (h1 : ∀ u ∈ news, u.oneCell' = true) (hnone : a = none → m = 0)
    (h63 : (n + m) * (bytes + 1) ≤ 140737488355328) (hbase : base ≤ w.heap.size)
    (hK : ∀ v' w', w'.ownsRow base e size v' (n + m) (xs ++ news) → Frm (fun b => some b = v.ownBlock) w w' → (v'.ownBlock = v.ownBlock ∨ v'.ownBlock = some w.heap.size) → K v' w') :
    (nice P).op (.blt .append [t, t] ty [v, .slice a m c]) w K Kp := by
  obtain ⟨i, z, ht, hi, hz, hsize, hby, hzs, hsz⟩ := apOf_spec ha
  have hb1 : (n + m) * bytes ≤ 140737488355328 := Nat.le_trans (Nat.mul_le_mul_left _ (by omega)) h63
  have hb2 : n + m ≤ 140737488355328 := Nat.le_trans (Nat.le_mul_of_pos_right _ (by omega)) h63
  show outOf P _ w K Kp
  cases a with
  | none =>
    have hm0 := hnone rfl
    subst hm0
    have hn : news = [] := List.eq_nil_of_length_eq_zero (by simpa using hm)
    subst hn
    exact out_ok (run_append_empty (ty := ty) ht hi hown) (hK _ _ (by simpa using hown) Frm.refl (.inl rfl))
  | some p =>
    have hcells : ∀ j u, news[j]? = some u → w.cell? (p.add j) = some u := fun j u hu => by
      rcases hr with rfl | ⟨b, o, cs, e', fz, h1, h2, h3⟩
      · simp at hu
      · obtain rfl := Option.some.inj h1
        rw [add_spot rfl, World.cell?, h2]
        exact h3 j u hu
    obtain ⟨v', w', hrun, h2, h3, _, h5⟩ := Go.run_append_own_at (P := P) w base t ty e i z size bytes ht hi hz hsize hby hzs hsz v n xs hown p m c news hm hcells h1 (by unfold maxLen; omega) hb1 hbase
    exact out_ok hrun (hK _ _ h2 ⟨h3.os, h3.tape, h3.output, h3.size, fun k hk hn => h3.block k hk hn⟩ h5)

theorem own_nil {base e size : Nat} : w.ownsRow base e size (.slice none 0 0) 0 [] := ⟨by simp, .inl ⟨rfl, rfl⟩⟩
theorem own_frame {base e size n : Nat} {v : Value} {xs : List Value} {M : Nat → Prop} (h : w.ownsRow base e size v n xs) (hf : Frm M w w') (hM : ∀ b, v.ownBlock = some b → ¬ M b) : w'.ownsRow base e size v n xs := by
  obtain ⟨h1, h2 | ⟨g, cap, cur, rfl, h3, h4, h5⟩⟩ := h
  · exact ⟨h1, .inl h2⟩
  · exact ⟨h1, .inr ⟨g, cap, cur, rfl, h3, hf.get h4 (hM g rfl), h5⟩⟩
theorem own_base {base base' e size n : Nat} {v : Value} {xs : List Value} (h : w.ownsRow base e size v n xs) (hb : base' ≤ base) : w.ownsRow base' e size v n xs := by
  obtain ⟨h1, h2 | ⟨g, cap, cur, rfl, h3, h4, h5⟩⟩ := h
  · exact ⟨h1, .inl h2⟩
  · exact ⟨h1, .inr ⟨g, cap, cur, rfl, by omega, h4, h5⟩⟩
theorem own_lt {base e size n : Nat} {v : Value} {xs : List Value} (h : w.ownsRow base e size v n xs) : ∀ b, v.ownBlock = some b → base ≤ b ∧ b < w.heap.size := by
  obtain ⟨h1, ⟨rfl, _⟩ | ⟨g, cap, cur, rfl, h3, h4, h5⟩⟩ := h
  · intro b hb; cases hb
  · intro b hb; cases hb; exact ⟨h3, lt_of_get h4⟩
/-- A row of one's own as a slice. -/
theorem own_slice {base e size n : Nat} {v : Value} {xs : List Value} (h : w.ownsRow base e size v n xs) : ∃ a c, v = .slice a n c ∧ n ≤ c ∧ Row w a xs ∧ (a = none → n = 0) ∧ (∀ p, a = some p → v.ownBlock = some p.block) := by
  obtain ⟨h1, ⟨rfl, rfl⟩ | ⟨g, cap, cur, rfl, h3, h4, h5, h6, h7, h8⟩⟩ := h
  · exact ⟨none, 0, rfl, by omega, .inl (List.eq_nil_of_length_eq_zero (by simpa using h1)), fun _ => rfl, fun p hp => nomatch hp⟩
  · refine ⟨_, _, rfl, h5, .inr ⟨g, 0, cur, e, (0, 0), rfl, h4, fun j v hv => ?_⟩, (fun h => nomatch h), fun p hp => by cases hp; rfl⟩
    rw [← h8, List.getElem?_take] at hv
    split at hv
    · simpa using hv
    · cases hv

/-! ### rows of values of more than one cell -/
theorem flatMap_get {α : Type} {f : α → List Value} {k : Nat} (hk : ∀ x, (f x).length = k) : ∀ (xs : List α) (i r : Nat) (hi : i < xs.length), r < k → (xs.flatMap f)[i * k + r]? = (f xs[i])[r]?
  | [], i, r, hi, _ => by simp at hi
  | x :: xs, 0, r, hi, hr => by
    rw [List.flatMap_cons, List.getElem?_append_left (by rw [hk]; omega)]
    simp
  | x :: xs, i + 1, r, hi, hr => by
    have hi' : i < xs.length := by simpa using hi
    rw [List.flatMap_cons, List.getElem?_append_right (by rw [hk, Nat.add_mul]; omega), hk, show (i + 1) * k + r - k = i * k + r from by rw [Nat.add_mul]; omega]
    exact flatMap_get hk xs i r hi' hr
theorem flatMap_len {α : Type} {f : α → List Value} {k : Nat} (hk : ∀ x, (f x).length = k) (xs : List α) : (xs.flatMap f).length = xs.length * k := by
  induction xs with
  | nil => simp
  | cons x xs ih => simp [List.flatMap_cons, ih, hk, Nat.add_mul]; omega
theorem Row.part {α : Type} {f : α → List Value} {k : Nat} (hk : ∀ x, (f x).length = k) (hk0 : 0 < k) {a : Option Addr} {xs : List α} (h : Row w a (xs.flatMap f)) {i : Nat} (hi : i < xs.length) :
    ∃ b o cs e fz, a = some ⟨b, o, none⟩ ∧ w.heap[b]? = some (.cells cs e fz) ∧ o + i * k + k ≤ cs.size ∧ cs.extract (o + i * k) (o + i * k + k) = (f xs[i]).toArray := by
  rcases h with h | ⟨b, o, cs, e, fz, h1, h2, h3⟩
  · have := flatMap_len hk xs
    rw [h] at this
    have h4 : 0 < xs.length * k := Nat.mul_pos (by omega) hk0
    simp at this
    omega
  · have hget : ∀ r, r < k → cs[o + i * k + r]? = (f xs[i])[r]? := fun r hr => by
      have := flatMap_get hk xs i r hi hr
      have hl : r < (f xs[i]).length := by rw [hk]; exact hr
      rw [Nat.add_assoc, List.getElem?_eq_getElem hl]
      exact h3 _ _ (by rw [this, List.getElem?_eq_getElem hl])
    have hsz : o + i * k + k ≤ cs.size := by
      have := hget (k - 1) (by omega)
      rw [List.getElem?_eq_getElem (by rw [hk]; omega)] at this
      have := (Array.getElem?_eq_some_iff.1 this).1
      omega
    refine ⟨b, o, cs, e, fz, h1, h2, hsz, ?_⟩
    apply Array.ext_getElem?
    intro r
    rw [Array.getElem?_extract]
    by_cases hr : r < k
    · rw [if_pos (by omega), hget r hr]; simp
    · rw [if_neg (by omega), Array.getElem?_eq_none (by simp [hk]; omega)]
end Go.Vc
