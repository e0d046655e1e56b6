import Derived.Test.YtbghmbbhkoniiaaGreatB0
import Derived.Maps.RangeRun
import Derived.Test.YtbghmbbhkoniiaaGreatProg
set_option linter.unusedSimpArgs false
set_option linter.unusedVariables false
set_option linter.unusedSectionVars false
set_option maxRecDepth 100000
set_option maxHeartbeats 4000000
section
/- Hash array mapped tries as plain trees: what setting, deleting and getting make of them, and that they keep a set of pairs. -/
namespace Go.Vc
inductive Nd (κ ν : Type) where
  | emp
  | arr (es : List (κ × ν))
  | br (hs : Bool) (f : Nat → Nd κ ν)
  | val (h : Nat) (k : κ) (v : ν)
  | col (h : Nat) (es : List (κ × ν))
namespace Nd
variable {κ ν : Type} [DecidableEq κ]
def isEmp : Nd κ ν → Bool
  | emp => true
  | _ => false
theorem isEmp_iff {t : Nd κ ν} : t.isEmp = true ↔ t = emp := by cases t <;> simp [isEmp]
def cnt (f : Nat → Nd κ ν) : Nat := ((List.range 32).filter fun i => !(f i).isEmp).length
def frag (l h : Nat) : Nat := h / 32 ^ l % 32
theorem frag_lt (l h : Nat) : frag l h < 32 := Nat.mod_lt _ (by decide)
def put (f : Nat → Nd κ ν) (i : Nat) (t : Nd κ ν) : Nat → Nd κ ν := fun j => if j = i then t else f j
def one (i : Nat) (t : Nd κ ν) : Nat → Nd κ ν := put (fun _ => emp) i t
def find (es : List (κ × ν)) (k : κ) : Option Nat := es.findIdx? fun e => decide (e.1 = k)
def upd (es : List (κ × ν)) (k : κ) (v : ν) : List (κ × ν) := match find es k with
  | some i => es.set i (k, v)
  | none => es ++ [(k, v)]
def wipe (es : List (κ × ν)) (k : κ) : List (κ × ν) := match find es k with
  | some i => es.eraseIdx i
  | none => es
def merge (t : Nd κ ν) (h1 h2 : Nat) (k : κ) (v : ν) : Nat → Nat → Nd κ ν
  | 0, _ => emp
  | n + 1, l => if frag l h1 = frag l h2 then br false (one (frag l h1) (merge t h1 h2 k v n (l + 1))) else br false (put (one (frag l h1) t) (frag l h2) (val h2 k v))
def setIn (hk : Nat) (k : κ) (v : ν) : Nd κ ν → Nat → Nd κ ν
  | emp, _ => val hk k v
  | arr es, _ => arr es
  | br hs f, l => br (hs || (f (frag l hk)).isEmp && decide (16 < cnt f)) (put f (frag l hk) (setIn hk k v (f (frag l hk)) (l + 1)))
  | val h k' v', l => if k' = k then val h k v else if h = hk then col h [(k', v'), (k, v)] else merge (val h k' v') h hk k v (7 - l) l
  | col h es, l => if h = hk then col h (upd es k v) else merge (col h es) h hk k v (7 - l) l
def set (hash : κ → Nat) (t : Nd κ ν) (k : κ) (v : ν) : Nd κ ν := match t with
  | emp => arr [(k, v)]
  | arr es => if (find es k).isNone && decide (8 ≤ es.length) then es.foldl (fun n e => setIn (hash e.1) e.1 e.2 n 0) (val (hash k) k v) else arr (upd es k v)
  | t => setIn (hash k) k v t 0
def delIn (hk : Nat) (k : κ) : Nd κ ν → Nat → Nd κ ν
  | emp, _ => emp
  | arr es, _ => arr es
  | br hs f, l =>
    let c := delIn hk k (f (frag l hk)) (l + 1)
    if c.isEmp && !(f (frag l hk)).isEmp then (if !hs && decide (cnt f = 1) then emp else br (hs && decide (16 < cnt f)) (put f (frag l hk) emp)) else br hs (put f (frag l hk) c)
  | val h k' v', _ => if k' = k then emp else val h k' v'
  | col h es, _ => match find es k with
    | none => col h es
    | some i => if es.length = 2 then (match es.eraseIdx i with | [e] => val h e.1 e.2 | _ => emp) else col h (es.eraseIdx i)
def del (hash : κ → Nat) (t : Nd κ ν) (k : κ) : Nd κ ν := match t with
  | emp => emp
  | arr es => match find es k with
    | none => arr es
    | some i => if es.length = 1 then emp else arr (es.eraseIdx i)
  | t => delIn (hash k) k t 0
def look (es : List (κ × ν)) (k : κ) : Option ν := (es.find? fun e => decide (e.1 = k)).map (·.2)
def getIn (hk : Nat) (k : κ) : Nd κ ν → Nat → Option ν
  | emp, _ => none
  | arr es, _ => look es k
  | br _ f, l => getIn hk k (f (frag l hk)) (l + 1)
  | val _ k' v', _ => if k' = k then some v' else none
  | col _ es, _ => look es k
def toL : Nd κ ν → List (κ × ν)
  | emp => []
  | arr es => es
  | br _ f => (List.range 32).flatMap fun i => toL (f i)
  | val _ k v => [(k, v)]
  | col _ es => es
def has (t : Nd κ ν) (k : κ) : Bool := (getIn 0 k t 0).isSome
def WF (hash : κ → Nat) : Nd κ ν → Nat → Nat → Prop
  | emp, _, _ => True
  | arr _, _, _ => False
  | br hs f, l, p => l ≤ 6 ∧ (∀ i, i < 32 → WF hash (f i) (l + 1) (p + i * 32 ^ l)) ∧ (∀ i, 32 ≤ i → f i = emp) ∧ (∃ i, i < 32 ∧ f i ≠ emp) ∧ (hs = true → 16 ≤ cnt f)
  | val h k _, l, p => h = hash k ∧ h % 32 ^ l = p
  | col h es, l, p => 2 ≤ es.length ∧ (es.map (·.1)).Nodup ∧ (∀ e ∈ es, hash e.1 = h) ∧ h % 32 ^ l = p
def WFr (hash : κ → Nat) (t : Nd κ ν) : Prop := match t with
  | arr es => es ≠ [] ∧ es.length ≤ 8 ∧ (es.map (·.1)).Nodup
  | t => WF hash t 0 0
/-! ### rows of pairs -/
theorem find_none {es : List (κ × ν)} {k : κ} : find es k = none ↔ ∀ e ∈ es, e.1 ≠ k := by simp [find, List.findIdx?_eq_none_iff]
theorem find_some {es : List (κ × ν)} {k : κ} {i : Nat} (h : find es k = some i) : ∃ hi : i < es.length, es[i].1 = k ∧ ∀ j (hj : j < i), es[j].1 ≠ k := by
  rw [find, List.findIdx?_eq_some_iff_getElem] at h
  obtain ⟨h1, h2, h3⟩ := h
  exact ⟨h1, by simpa using h2, fun j hj => by simpa using h3 j hj⟩
theorem mem_upd {es : List (κ × ν)} {k : κ} {v : ν} (hn : (es.map (·.1)).Nodup) {e : κ × ν} : e ∈ upd es k v ↔ e = (k, v) ∨ e.1 ≠ k ∧ e ∈ es := by
  unfold upd
  cases hf : find es k with
  | none =>
    have := find_none.1 hf
    simp only [List.mem_append, List.mem_singleton]
    constructor
    · rintro (h | h)
      · exact .inr ⟨this e h, h⟩
      · exact .inl h
    · rintro (h | ⟨_, h⟩)
      · exact .inr h
      · exact .inl h
  | some i =>
    obtain ⟨hi, h1, h2⟩ := find_some hf
    rw [List.mem_iff_getElem?]
    constructor
    · rintro ⟨j, hj⟩
      rw [List.getElem?_set] at hj
      split at hj
      · rename_i hij
        subst hij
        exact .inl (Option.some.inj hj).symm
      · rename_i hij
        refine .inr ⟨fun hk => hij ?_, List.mem_of_getElem? hj⟩
        obtain ⟨hj', hje⟩ := List.getElem?_eq_some_iff.1 hj
        have := List.pairwise_iff_getElem.1 hn
        rcases Nat.lt_trichotomy i j with h | h | h
        · exact (this i j (by simpa using hi) (by simpa using hj') h (by simp [h1, hje, hk])).elim
        · exact h
        · exact (this j i (by simpa using hj') (by simpa using hi) h (by simp [h1, hje, hk])).elim
    · rintro (h | ⟨h3, h⟩)
      · exact ⟨i, by rw [List.getElem?_set, if_pos rfl, if_pos hi, h]⟩
      · obtain ⟨j, hj, hje⟩ := List.mem_iff_getElem.1 h
        refine ⟨j, ?_⟩
        rw [List.getElem?_set, if_neg (fun e => h3 (by subst e; rw [← hje, h1])), List.getElem?_eq_getElem hj, hje]
theorem upd_nodup {es : List (κ × ν)} {k : κ} {v : ν} (hn : (es.map (·.1)).Nodup) : ((upd es k v).map (·.1)).Nodup := by
  unfold upd
  cases hf : find es k with
  | none =>
    have := find_none.1 hf
    rw [List.map_append, List.nodup_append]
    refine ⟨hn, by simp, ?_⟩
    intro a ha b hb
    obtain ⟨e, he, rfl⟩ := List.mem_map.1 ha
    simp at hb
    subst hb
    exact this e he
  | some i =>
    obtain ⟨hi, h1, h2⟩ := find_some hf
    have : (es.set i (k, v)).map (·.1) = es.map (·.1) := by
      rw [List.map_set]
      apply List.ext_getElem?
      intro j
      rw [List.getElem?_set]
      split
      · rename_i e; subst e; simp [hi, h1]
      · rfl
    simp only [this]; exact hn
theorem mem_erase {es : List (κ × ν)} {k : κ} {i : Nat} (hn : (es.map (·.1)).Nodup) (hf : find es k = some i) {e : κ × ν} : e ∈ es.eraseIdx i ↔ e.1 ≠ k ∧ e ∈ es := by
  obtain ⟨hi, h1, h2⟩ := find_some hf
  rw [List.mem_eraseIdx_iff_getElem]
  constructor
  · rintro ⟨j, hj, hne, rfl⟩
    refine ⟨fun hk => hne ?_, List.getElem_mem hj⟩
    have := List.pairwise_iff_getElem.1 hn
    rcases Nat.lt_trichotomy i j with h | h | h
    · exact (this i j (by simpa using hi) (by simpa using hj) h (by simp [h1, hk])).elim
    · exact h.symm
    · exact (this j i (by simpa using hj) (by simpa using hi) h (by simp [h1, hk])).elim
  · rintro ⟨h3, h⟩
    obtain ⟨j, hj, hje⟩ := List.mem_iff_getElem.1 h
    exact ⟨j, hj, fun e => h3 (by subst e; rw [← hje, h1]), hje⟩
theorem erase_nodup {es : List (κ × ν)} {i : Nat} (hn : (es.map (·.1)).Nodup) : ((es.eraseIdx i).map (·.1)).Nodup := by
  exact hn.sublist ((List.eraseIdx_sublist es i).map _)
theorem look_iff {es : List (κ × ν)} {k : κ} {v : ν} (hn : (es.map (·.1)).Nodup) : look es k = some v ↔ (k, v) ∈ es := by
  induction es with
  | nil => simp [look]
  | cons e es ih =>
    simp only [List.map_cons, List.nodup_cons] at hn
    unfold look at ih ⊢
    rw [List.find?_cons]
    by_cases h : e.1 = k
    · simp only [h, decide_true]
      subst h
      simp only [Option.map_some, Option.some.injEq, List.mem_cons]
      constructor
      · rintro rfl; exact .inl rfl
      · rintro (h | h)
        · rw [← h]
        · exact absurd (List.mem_map.2 ⟨_, h, rfl⟩) hn.1
    · simp only [h, decide_false]
      rw [ih hn.2, List.mem_cons]
      constructor
      · exact .inr
      · rintro (h1 | h1)
        · exact absurd (by rw [← h1]) h
        · exact h1
/-! ### branches -/
theorem put_same (f : Nat → Nd κ ν) (i : Nat) (t : Nd κ ν) : put f i t i = t := by simp [put]
theorem put_ne {f : Nat → Nd κ ν} {i j : Nat} {t : Nd κ ν} (h : j ≠ i) : put f i t j = f j := by simp [put, h]
theorem filter_put {p q : Nat → Bool} {i : Nat} (h : ∀ j, j ≠ i → p j = q j) (hp : p i = true) (hq : q i = false) (n : Nat) : ((List.range n).filter p).length = ((List.range n).filter q).length + if i < n then 1 else 0 := by
  induction n with
  | zero => simp
  | succ n ih =>
    rw [List.range_succ, List.filter_append, List.filter_append, List.length_append, List.length_append, ih]
    by_cases e : n = i
    · subst e; simp [hp, hq]
    · have e1 := h n e
      simp only [List.filter_cons, List.filter_nil, e1]
      have e2 : (if i < n + 1 then 1 else 0) = if i < n then 1 else 0 := by
        have : (i < n + 1) = (i < n) := propext ⟨fun h => by omega, fun h => by omega⟩
        simp only [this]
      rw [e2]; omega
theorem filter_same {p q : Nat → Bool} (h : ∀ j, p j = q j) (n : Nat) : (List.range n).filter p = (List.range n).filter q := by rw [show p = q from funext h]
theorem cnt_add {f : Nat → Nd κ ν} {i : Nat} {t : Nd κ ν} (hi : i < 32) (he : f i = emp) (ht : t ≠ emp) : cnt (put f i t) = cnt f + 1 := by
  unfold cnt
  rw [filter_put (p := fun j => !(put f i t j).isEmp) (q := fun j => !(f j).isEmp) (i := i) (fun j hj => by rw [put_ne hj]) (by rw [put_same]; cases h : t.isEmp <;> simp; exact ht (isEmp_iff.1 h)) (by simp [he, isEmp]), if_pos hi]
theorem cnt_del {f : Nat → Nd κ ν} {i : Nat} (hi : i < 32) (he : f i ≠ emp) : cnt f = cnt (put f i emp) + 1 := by
  unfold cnt
  rw [filter_put (p := fun j => !(f j).isEmp) (q := fun j => !(put f i emp j).isEmp) (i := i) (fun j hj => by rw [put_ne hj]) (by cases h : (f i).isEmp <;> simp; exact he (isEmp_iff.1 h)) (by simp [put_same, isEmp]), if_pos hi]
theorem cnt_same {f : Nat → Nd κ ν} {i : Nat} {t : Nd κ ν} (he : f i ≠ emp) (ht : t ≠ emp) : cnt (put f i t) = cnt f := by
  unfold cnt
  congr 1
  refine filter_same (fun j => ?_) 32
  by_cases h : j = i
  · subst h
    rw [put_same]
    have h1 : t.isEmp = false := by cases h : t.isEmp <;> simp; exact ht (isEmp_iff.1 h)
    have h2 : (f j).isEmp = false := by cases h : (f j).isEmp <;> simp; exact he (isEmp_iff.1 h)
    rw [h1, h2]
  · rw [put_ne h]
theorem cnt_pos {f : Nat → Nd κ ν} {i : Nat} (hi : i < 32) (he : f i ≠ emp) : 0 < cnt f := by rw [cnt_del hi he]; omega
theorem other {f : Nat → Nd κ ν} (h : 0 < cnt f) : ∃ j, j < 32 ∧ f j ≠ emp := by
  unfold cnt at h
  obtain ⟨j, hj⟩ := List.exists_mem_of_length_pos h
  rw [List.mem_filter, List.mem_range] at hj
  refine ⟨j, hj.1, fun e => ?_⟩
  rw [e] at hj
  simp [isEmp] at hj
theorem mem_br {hs : Bool} {f : Nat → Nd κ ν} {e : κ × ν} : e ∈ toL (br hs f) ↔ ∃ i, i < 32 ∧ e ∈ toL (f i) := by
  simp [toL, List.mem_flatMap]
theorem mod_next (l h : Nat) : h % 32 ^ (l + 1) = h % 32 ^ l + frag l h * 32 ^ l := by rw [Nat.mod_pow_succ, frag, Nat.mul_comm]
theorem next_lt {l p i : Nat} (hp : p < 32 ^ l) (hi : i < 32) : p + i * 32 ^ l < 32 ^ (l + 1) := by
  have : (i + 1) * 32 ^ l ≤ 32 * 32 ^ l := Nat.mul_le_mul_right _ (by omega)
  rw [Nat.add_mul] at this
  rw [Nat.pow_succ]; omega
theorem split_eq {l p q i j : Nat} (hp : p < 32 ^ l) (hq : q < 32 ^ l) (h : p + i * 32 ^ l = q + j * 32 ^ l) : p = q ∧ i = j := by
  have hpos : 0 < 32 ^ l := Nat.pow_pos (by decide)
  have h1 : (p + i * 32 ^ l) % 32 ^ l = p := by rw [Nat.add_mul_mod_self_right, Nat.mod_eq_of_lt hp]
  have h2 : (q + j * 32 ^ l) % 32 ^ l = q := by rw [Nat.add_mul_mod_self_right, Nat.mod_eq_of_lt hq]
  have hpq : p = q := by rw [← h1, ← h2, h]
  subst hpq
  exact ⟨rfl, Nat.eq_of_mul_eq_mul_right hpos (by omega)⟩
variable {hash : κ → Nat}
theorem WF.pre : ∀ {t : Nd κ ν} {l p : Nat}, WF hash t l p → p < 32 ^ l → ∀ e ∈ toL t, hash e.1 % 32 ^ l = p
  | emp, _, _, _, _, e, he => by simp [toL] at he
  | arr _, _, _, h, _, _, _ => h.elim
  | br hs f, l, p, h, hp, e, he => by
    obtain ⟨i, hi, hei⟩ := mem_br.1 he
    have h1 := WF.pre (h.2.1 i hi) (next_lt hp hi) e hei
    rw [mod_next] at h1
    exact (split_eq (Nat.mod_lt _ (Nat.pow_pos (by decide))) hp h1).1
  | val h' k v, l, p, h, hp, e, he => by
    simp only [toL, List.mem_singleton] at he
    subst he
    rw [← h.1]; exact h.2
  | col h' es, l, p, h, hp, e, he => by rw [h.2.2.1 e he]; exact h.2.2.2
theorem WF.at_ {hs : Bool} {f : Nat → Nd κ ν} {l p : Nat} (h : WF hash (br hs f) l p) (hp : p < 32 ^ l) {e : κ × ν} {i : Nat} (hi : i < 32) (he : e ∈ toL (f i)) : frag l (hash e.1) = i := by
  have h1 := WF.pre (h.2.1 i hi) (next_lt hp hi) e he
  rw [mod_next] at h1
  exact (split_eq (Nat.mod_lt _ (Nat.pow_pos (by decide))) hp h1).2
theorem WF.nodup : ∀ {t : Nd κ ν} {l p : Nat}, WF hash t l p → p < 32 ^ l → ((toL t).map (·.1)).Nodup
  | emp, _, _, _, _ => by simp [toL]
  | arr _, _, _, h, _ => h.elim
  | br hs f, l, p, h, hp => by
    simp only [toL, List.map_flatMap]
    rw [List.nodup_iff_pairwise_ne, List.pairwise_flatMap]
    refine ⟨fun i hi => ?_, ?_⟩
    · exact WF.nodup (h.2.1 i (List.mem_range.1 hi)) (next_lt hp (List.mem_range.1 hi))
    · refine List.Pairwise.imp_of_mem ?_ (List.nodup_iff_pairwise_ne.1 List.nodup_range)
      intro i j hi hj hij x hx y hy e
      obtain ⟨a, ha, rfl⟩ := List.mem_map.1 hx
      obtain ⟨b, hb, rfl⟩ := List.mem_map.1 hy
      refine hij ?_
      have h1 := h.at_ hp (List.mem_range.1 hi) ha
      have h2 := h.at_ hp (List.mem_range.1 hj) hb
      rw [← h1, ← h2, e]
  | val _ _ _, _, _, _, _ => by simp [toL]
  | col _ _, _, _, h, _ => h.2.1
theorem merge_spec {t : Nd κ ν} {h1 : Nat} {k : κ} {v : ν} (hlt : h1 < 2 ^ 32) (hlt2 : hash k < 2 ^ 32) (hne : h1 ≠ hash k) (hte : t ≠ emp) (hleaf : ∀ l, WF hash t l (h1 % 32 ^ l)) :
    ∀ (n l : Nat), n + l = 7 → h1 % 32 ^ l = hash k % 32 ^ l → WF hash (merge t h1 (hash k) k v n l) l (h1 % 32 ^ l) ∧ merge t h1 (hash k) k v n l ≠ emp ∧ ∀ e, e ∈ toL (merge t h1 (hash k) k v n l) ↔ e ∈ toL t ∨ e = (k, v)
  | 0, l, hn, he => by
    obtain rfl : l = 7 := by omega
    rw [Nat.mod_eq_of_lt (by omega), Nat.mod_eq_of_lt (by omega)] at he
    exact absurd he hne
  | n + 1, l, hn, he => by
    have hf1 := frag_lt l h1
    have hf2 := frag_lt l (hash k)
    unfold merge
    split
    · rename_i hf
      have he2 : h1 % 32 ^ (l + 1) = hash k % 32 ^ (l + 1) := by rw [mod_next, mod_next, he, hf]
      obtain ⟨i1, i2, i3⟩ := merge_spec hlt hlt2 hne hte hleaf n (l + 1) (by omega) he2
      refine ⟨⟨by omega, fun i hi => ?_, fun i hi => ?_, ⟨frag l h1, hf1, by rw [one, put_same]; exact i2⟩, fun h => nomatch h⟩, by simp, fun e => ?_⟩
      · by_cases e : i = frag l h1
        · subst e; rw [one, put_same, ← mod_next]; exact i1
        · rw [one, put_ne e]; trivial
      · rw [one, put_ne (by omega)]
      · rw [mem_br, ← i3]
        constructor
        · rintro ⟨i, hi, hie⟩
          by_cases e : i = frag l h1
          · subst e; rw [one, put_same] at hie; exact hie
          · rw [one, put_ne e] at hie; simp [toL] at hie
        · intro h; exact ⟨frag l h1, hf1, by rw [one, put_same]; exact h⟩
    · rename_i hf
      refine ⟨⟨by omega, fun i hi => ?_, fun i hi => ?_, ⟨frag l h1, hf1, by rw [put_ne hf, one, put_same]; exact hte⟩, fun h => nomatch h⟩, by simp, fun e => ?_⟩
      · by_cases e : i = frag l (hash k)
        · subst e; rw [put_same, he, ← mod_next]; exact ⟨rfl, rfl⟩
        · rw [put_ne e]
          by_cases e2 : i = frag l h1
          · subst e2; rw [one, put_same, ← mod_next]; exact hleaf _
          · rw [one, put_ne e2]; trivial
      · rw [put_ne (by omega), one, put_ne (by omega)]
      · rw [mem_br]
        constructor
        · rintro ⟨i, hi, hie⟩
          by_cases e : i = frag l (hash k)
          · subst e; rw [put_same] at hie; exact .inr (by simpa [toL] using hie)
          · rw [put_ne e] at hie
            by_cases e2 : i = frag l h1
            · subst e2; rw [one, put_same] at hie; exact .inl hie
            · rw [one, put_ne e2] at hie; simp [toL] at hie
        · rintro (h | h)
          · exact ⟨frag l h1, hf1, by rw [put_ne hf, one, put_same]; exact h⟩
          · exact ⟨frag l (hash k), hf2, by rw [put_same, h]; simp [toL]⟩
theorem setIn_spec {k : κ} {v : ν} (hh : ∀ k, hash k < 2 ^ 32) : ∀ (t : Nd κ ν) (l p : Nat), WF hash t l p → p < 32 ^ l → hash k % 32 ^ l = p → l ≤ 7 →
    WF hash (setIn (hash k) k v t l) l p ∧ setIn (hash k) k v t l ≠ emp ∧ ∀ e, e ∈ toL (setIn (hash k) k v t l) ↔ e = (k, v) ∨ e.1 ≠ k ∧ e ∈ toL t
  | emp, l, p, h, hp, hk, _ => ⟨⟨rfl, hk⟩, by simp [setIn], fun e => by simp [setIn, toL]⟩
  | arr _, _, _, h, _, _, _ => h.elim
  | br hs f, l, p, h, hp, hk, hl => by
    have hi := frag_lt l (hash k)
    have hk2 : hash k % 32 ^ (l + 1) = p + frag l (hash k) * 32 ^ l := by rw [mod_next, hk]
    obtain ⟨i1, i2, i3⟩ := setIn_spec hh (f (frag l (hash k))) (l + 1) _ (h.2.1 _ hi) (next_lt hp hi) hk2 (by have := h.1; omega)
    refine ⟨⟨h.1, fun i hi' => ?_, fun i hi' => ?_, ⟨_, hi, by rw [put_same]; exact i2⟩, fun hs' => ?_⟩, by simp [setIn], fun e => ?_⟩
    · by_cases e : i = frag l (hash k)
      · subst e; rw [put_same]; exact i1
      · rw [put_ne e]; exact h.2.1 i hi'
    · rw [put_ne (by omega)]; exact h.2.2.1 i hi'
    · by_cases he : f (frag l (hash k)) = emp
      · rw [cnt_add hi he i2]
        simp only [Bool.or_eq_true, Bool.and_eq_true, decide_eq_true_eq] at hs'
        rcases hs' with h1 | h1
        · have := h.2.2.2.2 h1; omega
        · omega
      · rw [cnt_same he i2]
        simp only [Bool.or_eq_true, Bool.and_eq_true, decide_eq_true_eq, isEmp_iff] at hs'
        rcases hs' with h1 | h1
        · exact h.2.2.2.2 h1
        · exact absurd h1.1 he
    · simp only [setIn]
      rw [mem_br, mem_br]
      constructor
      · rintro ⟨i, hi', hie⟩
        by_cases e1 : i = frag l (hash k)
        · subst e1
          rw [put_same] at hie
          rcases (i3 e).1 hie with h1 | ⟨h1, h2⟩
          · exact .inl h1
          · exact .inr ⟨h1, _, hi, h2⟩
        · rw [put_ne e1] at hie
          exact .inr ⟨fun ek => e1 (by rw [← ek]; exact (h.at_ hp hi' hie).symm), i, hi', hie⟩
      · rintro (h1 | ⟨h1, i, hi', hie⟩)
        · exact ⟨_, hi, by rw [put_same]; exact (i3 e).2 (.inl h1)⟩
        · by_cases e1 : i = frag l (hash k)
          · subst e1
            exact ⟨_, hi, by rw [put_same]; exact (i3 e).2 (.inr ⟨h1, hie⟩)⟩
          · exact ⟨i, hi', by rw [put_ne e1]; exact hie⟩
  | val h' k' v', l, p, h, hp, hk, hl => by
    simp only [setIn]
    by_cases hkk : k' = k
    · rw [if_pos hkk]
      subst hkk
      refine ⟨h, by simp, fun e => ?_⟩
      simp [toL]
      exact fun hn he => absurd (by rw [he]) hn
    · rw [if_neg hkk]
      by_cases hhh : h' = hash k
      · rw [if_pos hhh]
        refine ⟨⟨by simp, by simp [hkk], fun e he => ?_, by rw [hhh]; exact hk⟩, by simp, fun e => ?_⟩
        · simp at he; rcases he with rfl | rfl
          · exact h.1.symm
          · exact hhh.symm
        · simp only [toL, List.mem_cons, List.not_mem_nil, or_false]
          constructor
          · rintro (rfl | rfl)
            · exact .inr ⟨hkk, rfl⟩
            · exact .inl rfl
          · rintro (h1 | ⟨_, h1⟩)
            · exact .inr h1
            · exact .inl h1
      · rw [if_neg hhh]
        have hlt : h' < 2 ^ 32 := by rw [h.1]; exact hh _
        obtain ⟨m1, m2, m3⟩ := merge_spec (hash := hash) (t := val h' k' v') (v := v) hlt (hh k) hhh (by simp) (fun l' => ⟨h.1, rfl⟩) (7 - l) l (by omega) (by rw [h.2, hk])
        rw [h.2] at m1
        refine ⟨m1, m2, fun e => ?_⟩
        rw [m3]
        simp only [toL, List.mem_singleton]
        constructor
        · rintro (rfl | h1)
          · exact .inr ⟨hkk, rfl⟩
          · exact .inl h1
        · rintro (h1 | ⟨_, h1⟩)
          · exact .inr h1
          · exact .inl h1
  | col h' es, l, p, h, hp, hk, hl => by
    simp only [setIn]
    by_cases hhh : h' = hash k
    · rw [if_pos hhh]
      refine ⟨⟨?_, upd_nodup h.2.1, fun e he => ?_, h.2.2.2⟩, by simp, fun e => mem_upd h.2.1⟩
      · have := h.1
        unfold upd
        split <;> simp <;> omega
      · rcases (mem_upd h.2.1).1 he with rfl | ⟨_, h1⟩
        · exact hhh.symm
        · exact h.2.2.1 e h1
    · rw [if_neg hhh]
      have hne : es ≠ [] := fun e => by have := h.1; rw [e] at this; simp at this
      obtain ⟨e0, he0⟩ := List.exists_mem_of_ne_nil es hne
      have hlt : h' < 2 ^ 32 := by rw [← h.2.2.1 e0 he0]; exact hh _
      obtain ⟨m1, m2, m3⟩ := merge_spec (hash := hash) (t := col h' es) (v := v) hlt (hh k) hhh (by simp) (fun l' => ⟨h.1, h.2.1, h.2.2.1, rfl⟩) (7 - l) l (by omega) (by rw [h.2.2.2, hk])
      rw [h.2.2.2] at m1
      refine ⟨m1, m2, fun e => ?_⟩
      rw [m3]
      simp only [toL]
      constructor
      · rintro (h1 | h1)
        · exact .inr ⟨fun ek => hhh (by rw [← h.2.2.1 e h1, ek]), h1⟩
        · exact .inl h1
      · rintro (h1 | ⟨_, h1⟩)
        · exact .inr h1
        · exact .inl h1
theorem delIn_spec {k : κ} : ∀ (t : Nd κ ν) (l p : Nat), WF hash t l p → p < 32 ^ l → hash k % 32 ^ l = p →
    WF hash (delIn (hash k) k t l) l p ∧ ∀ e, e ∈ toL (delIn (hash k) k t l) ↔ e.1 ≠ k ∧ e ∈ toL t
  | emp, l, p, h, hp, hk => ⟨trivial, fun e => by simp [delIn, toL]⟩
  | arr _, _, _, h, _, _ => h.elim
  | br hs f, l, p, h, hp, hk => by
    have hi := frag_lt l (hash k)
    have hk2 : hash k % 32 ^ (l + 1) = p + frag l (hash k) * 32 ^ l := by rw [mod_next, hk]
    obtain ⟨i1, i3⟩ := delIn_spec (f (frag l (hash k))) (l + 1) _ (h.2.1 _ hi) (next_lt hp hi) hk2
    have mem : ∀ (hs' : Bool) (e : κ × ν), e ∈ toL (br hs' (put f (frag l (hash k)) (delIn (hash k) k (f (frag l (hash k))) (l + 1)))) ↔ e.1 ≠ k ∧ e ∈ toL (br hs f) := fun hs' e => by
      rw [mem_br, mem_br]
      constructor
      · rintro ⟨i, hi', hie⟩
        by_cases e1 : i = frag l (hash k)
        · subst e1
          rw [put_same] at hie
          obtain ⟨h1, h2⟩ := (i3 e).1 hie
          exact ⟨h1, _, hi, h2⟩
        · rw [put_ne e1] at hie
          exact ⟨fun ek => e1 (by rw [← ek]; exact (h.at_ hp hi' hie).symm), i, hi', hie⟩
      · rintro ⟨h1, i, hi', hie⟩
        by_cases e1 : i = frag l (hash k)
        · subst e1
          exact ⟨_, hi, by rw [put_same]; exact (i3 e).2 ⟨h1, hie⟩⟩
        · exact ⟨i, hi', by rw [put_ne e1]; exact hie⟩
    simp only [delIn]
    split
    · rename_i hc
      simp only [Bool.and_eq_true, Bool.not_eq_true', isEmp_iff] at hc
      have hne : f (frag l (hash k)) ≠ emp := fun e => by rw [e] at hc; simp [isEmp] at hc
      have hcd := cnt_del hi hne
      have mem' := mem false
      rw [hc.1] at mem'
      split
      · rename_i h1
        simp only [Bool.and_eq_true, Bool.not_eq_true', decide_eq_true_eq] at h1
        refine ⟨trivial, fun e => ?_⟩
        rw [← mem' e]
        simp only [toL, List.not_mem_nil, false_iff]
        intro hx
        obtain ⟨i, hi', hie⟩ := mem_br.1 (show e ∈ toL (br false (put f (frag l (hash k)) emp)) from hx)
        have := cnt_pos (f := put f (frag l (hash k)) emp) hi' (fun e0 => by rw [e0] at hie; simp [toL] at hie)
        omega
      · rename_i h1
        refine ⟨⟨h.1, fun i hi' => ?_, fun i hi' => ?_, ?_, fun hs' => ?_⟩, fun e => ?_⟩
        · by_cases e : i = frag l (hash k)
          · subst e; rw [put_same]; trivial
          · rw [put_ne e]; exact h.2.1 i hi'
        · rw [put_ne (by omega)]; exact h.2.2.1 i hi'
        · refine other ?_
          simp only [Bool.and_eq_true, Bool.not_eq_true', decide_eq_true_eq] at h1
          cases hs with
          | false => have h2 : ¬ cnt f = 1 := fun e => h1 ⟨rfl, e⟩
                     have := cnt_pos hi hne; omega
          | true => have := h.2.2.2.2 rfl; omega
        · simp only [Bool.and_eq_true, decide_eq_true_eq] at hs'; omega
        · have := mem (hs && decide (16 < cnt f)) e
          rw [hc.1] at this; exact this
    · rename_i hc
      refine ⟨⟨h.1, fun i hi' => ?_, fun i hi' => ?_, ?_, fun hs' => ?_⟩, fun e => mem hs e⟩
      · by_cases e : i = frag l (hash k)
        · subst e; rw [put_same]; exact i1
        · rw [put_ne e]; exact h.2.1 i hi'
      · rw [put_ne (by omega)]; exact h.2.2.1 i hi'
      · obtain ⟨i, hi', hie⟩ := h.2.2.2.1
        by_cases e : i = frag l (hash k)
        · subst e
          refine ⟨_, hi', ?_⟩
          rw [put_same]
          intro e0
          simp only [Bool.and_eq_true, Bool.not_eq_true', isEmp_iff, e0, true_and] at hc
          cases h1 : (f (frag l (hash k))).isEmp with
          | true => exact hie (isEmp_iff.1 h1)
          | false => exact hc h1
        · exact ⟨i, hi', by rw [put_ne e]; exact hie⟩
      · by_cases he : f (frag l (hash k)) = emp
        · have e0 : put f (frag l (hash k)) (delIn (hash k) k (f (frag l (hash k))) (l + 1)) = f := by
            funext j
            by_cases e : j = frag l (hash k)
            · subst e; rw [put_same, he]; rfl
            · rw [put_ne e]
          rw [e0]; exact h.2.2.2.2 hs'
        · rw [cnt_same he]
          · exact h.2.2.2.2 hs'
          · intro e0
            simp only [Bool.and_eq_true, Bool.not_eq_true', isEmp_iff, e0, true_and] at hc
            cases h1 : (f (frag l (hash k))).isEmp with
            | true => exact he (isEmp_iff.1 h1)
            | false => exact hc h1
  | val h' k' v', l, p, h, hp, hk => by
    simp only [delIn]
    split
    · rename_i hkk
      refine ⟨trivial, fun e => ?_⟩
      simp only [toL, List.not_mem_nil, List.mem_singleton, false_iff, not_and]
      rintro h1 rfl
      exact h1 hkk
    · rename_i hkk
      refine ⟨h, fun e => ?_⟩
      simp only [toL, List.mem_singleton]
      constructor
      · rintro rfl; exact ⟨hkk, rfl⟩
      · exact fun h => h.2
  | col h' es, l, p, h, hp, hk => by
    simp only [delIn]
    cases hf : find es k with
    | none =>
      refine ⟨h, fun e => ?_⟩
      have := find_none.1 hf
      exact ⟨fun he => ⟨this e he, he⟩, fun he => he.2⟩
    | some i =>
      have hm := fun e => mem_erase h.2.1 hf (e := e)
      obtain ⟨hi, _⟩ := find_some hf
      have hl : (es.eraseIdx i).length = es.length - 1 := List.length_eraseIdx_of_lt hi
      simp only
      split
      · rename_i h2
        match hx : es.eraseIdx i, hl with
        | [x], _ =>
          rw [hx] at hm
          have hxe : x ∈ es := ((hm x).1 (by simp)).2
          refine ⟨⟨(h.2.2.1 x hxe).symm, h.2.2.2⟩, fun e => ?_⟩
          show e ∈ toL (val h' x.1 x.2) ↔ e.1 ≠ k ∧ e ∈ es
          rw [← hm e]
          simp [toL]
        | [], hl => simp at hl; omega
        | _ :: _ :: _, hl => simp at hl; omega
      · rename_i h2
        refine ⟨⟨by have := h.1; omega, erase_nodup h.2.1, fun e he => h.2.2.1 e ((hm e).1 he).2, h.2.2.2⟩, fun e => hm e⟩
theorem getIn_spec {k : κ} {v : ν} : ∀ (t : Nd κ ν) (l p : Nat), WF hash t l p → p < 32 ^ l → hash k % 32 ^ l = p → (getIn (hash k) k t l = some v ↔ (k, v) ∈ toL t)
  | emp, _, _, _, _, _ => by simp [getIn, toL]
  | arr _, _, _, h, _, _ => h.elim
  | br hs f, l, p, h, hp, hk => by
    have hi := frag_lt l (hash k)
    have hk2 : hash k % 32 ^ (l + 1) = p + frag l (hash k) * 32 ^ l := by rw [mod_next, hk]
    rw [getIn, getIn_spec (f (frag l (hash k))) (l + 1) _ (h.2.1 _ hi) (next_lt hp hi) hk2, mem_br]
    constructor
    · exact fun h1 => ⟨_, hi, h1⟩
    · rintro ⟨i, hi', hie⟩
      have := h.at_ hp hi' hie
      simp only at this
      rw [this]; exact hie
  | val h' k' v', l, p, h, hp, hk => by
    simp only [getIn, toL, List.mem_singleton, Prod.mk.injEq]
    split
    · rename_i hkk
      subst hkk
      simp [eq_comm]
    · rename_i hkk
      simp only [reduceCtorEq, false_iff, not_and]
      exact fun e => absurd e.symm hkk
  | col h' es, l, p, h, hp, hk => look_iff h.2.1
end Nd
end Go.Vc
end
section
/- Tries from their roots: a set of pairs, each key once. -/
namespace Go.Vc
namespace Nd
variable {κ ν : Type} [DecidableEq κ] {hash : κ → Nat}
def keys (t : Nd κ ν) : List κ := (toL t).map (·.1)
theorem WFr.of {t : Nd κ ν} (h : WF hash t 0 0) : WFr hash t := by cases t <;> first | exact h | exact h.elim
theorem WFr.nodup {t : Nd κ ν} (h : WFr hash t) : (keys t).Nodup := by
  cases t with
  | arr es => exact h.2.2
  | emp => simp [keys, toL]
  | br hs f => exact WF.nodup (t := br hs f) (l := 0) (p := 0) h (by decide)
  | val h' k v => exact WF.nodup (t := val h' k v) (l := 0) (p := 0) h (by decide)
  | col h' es => exact WF.nodup (t := col h' es) (l := 0) (p := 0) h (by decide)
theorem mod_one (n : Nat) : n % 32 ^ 0 = 0 := by simp [Nat.mod_one]
theorem spread {k : κ} {v : ν} (hh : ∀ k, hash k < 2 ^ 32) (es : List (κ × ν)) : ∀ (n : Nd κ ν) (done : List (κ × ν)), WF hash n 0 0 → n ≠ emp → (∀ e, e ∈ toL n ↔ e = (k, v) ∨ e ∈ done) → (∀ e ∈ es, e.1 ≠ k) → ((done ++ es).map (·.1)).Nodup →
    WF hash (es.foldl (fun n e => setIn (hash e.1) e.1 e.2 n 0) n) 0 0 ∧ es.foldl (fun n e => setIn (hash e.1) e.1 e.2 n 0) n ≠ emp ∧ ∀ e, e ∈ toL (es.foldl (fun n e => setIn (hash e.1) e.1 e.2 n 0) n) ↔ e = (k, v) ∨ e ∈ done ++ es := by
  induction es with
  | nil => intro n done h1 h2 h3 h4 h5; exact ⟨h1, h2, by simpa using h3⟩
  | cons x es ih =>
    intro n done h1 h2 h3 h4 h5
    obtain ⟨i1, i2, i3⟩ := setIn_spec (v := x.2) (k := x.1) hh n 0 0 h1 (by decide) (mod_one _) (by decide)
    have hx : ∀ e, e ∈ done → e.1 ≠ x.1 := fun e he hek => by
      rw [List.map_append, List.nodup_append] at h5
      exact h5.2.2 e.1 (List.mem_map.2 ⟨e, he, rfl⟩) x.1 (by simp) hek
    have := ih _ (done ++ [x]) i1 i2 (fun e => ?_) (fun e he => h4 e (by simp [he])) (by simpa using h5)
    · simpa using this
    · rw [i3, h3]
      simp only [List.mem_append, List.mem_singleton]
      constructor
      · rintro (h | ⟨_, h | h⟩)
        · exact .inr (.inr h)
        · exact .inl h
        · exact .inr (.inl h)
      · rintro (h | h | h)
        · exact .inr ⟨by rw [h]; exact (h4 x (by simp)).symm, .inl h⟩
        · exact .inr ⟨hx e h, .inr h⟩
        · exact .inl h
theorem set_spec {k : κ} {v : ν} (hh : ∀ k, hash k < 2 ^ 32) {t : Nd κ ν} (h : WFr hash t) :
    WFr hash (set hash t k v) ∧ set hash t k v ≠ emp ∧ ∀ e, e ∈ toL (set hash t k v) ↔ e = (k, v) ∨ e.1 ≠ k ∧ e ∈ toL t := by
  cases t with
  | emp => exact ⟨⟨by simp, by simp, by simp⟩, by simp [set], fun e => by simp [set, toL]⟩
  | arr es =>
    unfold set
    simp only
    split
    · rename_i hc
      simp only [Bool.and_eq_true, Option.isNone_iff_eq_none, decide_eq_true_eq] at hc
      have hn := find_none.1 hc.1
      obtain ⟨i1, i2, i3⟩ := spread (k := k) (v := v) hh es (val (hash k) k v) [] ⟨rfl, mod_one _⟩ (by simp) (fun e => by simp [toL]) hn (by simpa using h.2.2)
      refine ⟨WFr.of i1, i2, fun e => ?_⟩
      rw [i3]
      simp only [List.nil_append, toL]
      exact ⟨fun h => h.imp id fun h => ⟨hn e h, h⟩, fun h => h.imp id And.right⟩
    · rename_i hc
      have hm := fun e => mem_upd (k := k) (v := v) h.2.2 (e := e)
      refine ⟨⟨?_, ?_, upd_nodup h.2.2⟩, by simp, hm⟩
      · intro e0
        have := (hm (k, v)).2 (.inl rfl)
        rw [e0] at this; simp at this
      · simp only [Bool.and_eq_true, Option.isNone_iff_eq_none, decide_eq_true_eq] at hc
        have := h.2.1
        unfold upd
        split
        · simpa using this
        · rename_i hf
          simp
          have : ¬ 8 ≤ es.length := fun h => hc ⟨hf, h⟩
          omega
  | br hs f => obtain ⟨i1, i2, i3⟩ := setIn_spec (v := v) (k := k) hh (br hs f) 0 0 h (by decide) (mod_one _) (by decide); exact ⟨WFr.of i1, i2, i3⟩
  | val h' k' v' => obtain ⟨i1, i2, i3⟩ := setIn_spec (v := v) (k := k) hh (val h' k' v') 0 0 h (by decide) (mod_one _) (by decide); exact ⟨WFr.of i1, i2, i3⟩
  | col h' es => obtain ⟨i1, i2, i3⟩ := setIn_spec (v := v) (k := k) hh (col h' es) 0 0 h (by decide) (mod_one _) (by decide); exact ⟨WFr.of i1, i2, i3⟩
theorem del_spec {k : κ} {t : Nd κ ν} (h : WFr hash t) : WFr hash (del hash t k) ∧ ∀ e, e ∈ toL (del hash t k) ↔ e.1 ≠ k ∧ e ∈ toL t := by
  cases t with
  | emp => exact ⟨trivial, fun e => by simp [del, toL]⟩
  | arr es =>
    have e1 : del hash (arr es) k = (match find es k with | none => arr es | some i => if es.length = 1 then emp else arr (es.eraseIdx i)) := rfl
    rw [e1]
    cases hf : find es k with
    | none =>
      refine ⟨h, fun e => ?_⟩
      have := find_none.1 hf
      exact ⟨fun he => ⟨this e he, he⟩, fun he => he.2⟩
    | some i =>
      have hm := fun e => mem_erase h.2.2 hf (e := e)
      obtain ⟨hi, _⟩ := find_some hf
      have hl : (es.eraseIdx i).length = es.length - 1 := List.length_eraseIdx_of_lt hi
      simp only
      split
      · rename_i h1
        refine ⟨trivial, fun e => ?_⟩
        have e0 : es.eraseIdx i = [] := List.eq_nil_of_length_eq_zero (by omega)
        rw [show toL (arr es) = es from rfl, ← hm e, e0]
        simp [toL]
      · rename_i h1
        have := h.2.1
        exact ⟨⟨fun e0 => by rw [e0] at hl; simp at hl; omega, by omega, erase_nodup h.2.2⟩, hm⟩
  | br hs f => obtain ⟨i1, i3⟩ := delIn_spec (k := k) (br hs f) 0 0 h (by decide) (mod_one _); exact ⟨WFr.of i1, i3⟩
  | val h' k' v' => obtain ⟨i1, i3⟩ := delIn_spec (k := k) (val h' k' v') 0 0 h (by decide) (mod_one _); exact ⟨WFr.of i1, i3⟩
  | col h' es => obtain ⟨i1, i3⟩ := delIn_spec (k := k) (col h' es) 0 0 h (by decide) (mod_one _); exact ⟨WFr.of i1, i3⟩
theorem get_spec {k : κ} {v : ν} {t : Nd κ ν} (h : WFr hash t) : getIn (hash k) k t 0 = some v ↔ (k, v) ∈ toL t := by
  cases t with
  | arr es => exact look_iff h.2.2
  | emp => exact getIn_spec emp 0 0 h (by decide) (mod_one _)
  | br hs f => exact getIn_spec (br hs f) 0 0 h (by decide) (mod_one _)
  | val h' k' v' => exact getIn_spec (val h' k' v') 0 0 h (by decide) (mod_one _)
  | col h' es => exact getIn_spec (col h' es) 0 0 h (by decide) (mod_one _)
theorem len_of {l l' : List (κ × ν)} (hn : (l.map (·.1)).Nodup) (hn' : (l'.map (·.1)).Nodup) (h : ∀ e, e ∈ l ↔ e ∈ l') : l.length = l'.length := by
  have n1 : l.Nodup := List.Pairwise.of_map _ (fun a b hab e => hab (congrArg Prod.fst e)) hn
  have n2 : l'.Nodup := List.Pairwise.of_map _ (fun a b hab e => hab (congrArg Prod.fst e)) hn'
  exact ((List.perm_ext_iff_of_nodup n1 n2).2 h).length_eq
theorem mem_keys {t : Nd κ ν} {k : κ} : k ∈ keys t ↔ ∃ v, (k, v) ∈ toL t := by
  unfold keys
  rw [List.mem_map]
  constructor
  · rintro ⟨⟨a, b⟩, h, rfl⟩; exact ⟨b, h⟩
  · rintro ⟨v, h⟩; exact ⟨_, h, rfl⟩
theorem set_len {k : κ} {v : ν} (hh : ∀ k, hash k < 2 ^ 32) {t : Nd κ ν} (h : WFr hash t) : (toL (set hash t k v)).length = (toL t).length + if k ∈ keys t then 0 else 1 := by
  obtain ⟨i1, _, i3⟩ := set_spec (k := k) (v := v) hh h
  by_cases hk : k ∈ keys t
  · rw [if_pos hk, Nat.add_zero]
    have hu := fun e => mem_upd (es := toL t) (k := k) (v := v) h.nodup (e := e)
    rw [len_of (l := toL (set hash t k v)) (l' := upd (toL t) k v) i1.nodup (upd_nodup h.nodup) fun e => by rw [i3, hu]]
    unfold upd
    cases hf : find (toL t) k with
    | some i => simp
    | none =>
      obtain ⟨v', hv⟩ := mem_keys.1 hk
      exact absurd rfl (find_none.1 hf _ hv)
  · rw [if_neg hk]
    have hn : ∀ e ∈ toL t, e.1 ≠ k := fun e he hek => hk (mem_keys.2 ⟨e.2, by rw [← hek]; exact he⟩)
    rw [len_of (l := toL (set hash t k v)) (l' := (k, v) :: toL t) i1.nodup (by
      simp only [List.map_cons, List.nodup_cons]
      exact ⟨hk, h.nodup⟩) fun e => by
        rw [i3, List.mem_cons]
        exact ⟨fun h => h.imp id And.right, fun h => h.imp id fun h => ⟨hn e h, h⟩⟩]
    simp
theorem del_len {k : κ} {t : Nd κ ν} (h : WFr hash t) : (toL t).length = (toL (del hash t k)).length + if k ∈ keys t then 1 else 0 := by
  obtain ⟨i1, i3⟩ := del_spec (k := k) h
  by_cases hk : k ∈ keys t
  · rw [if_pos hk]
    obtain ⟨v, hv⟩ := mem_keys.1 hk
    rw [len_of (l := toL t) (l' := (k, v) :: toL (del hash t k)) h.nodup (by
      simp only [List.map_cons, List.nodup_cons]
      refine ⟨fun hk' => ?_, i1.nodup⟩
      obtain ⟨v', hv'⟩ := mem_keys.1 hk'
      exact ((i3 _).1 hv').1 rfl) fun e => by
        rw [List.mem_cons, i3]
        constructor
        · intro he
          by_cases hek : e.1 = k
          · left
            have hn := List.pairwise_iff_getElem.1 h.nodup
            obtain ⟨i, hi, hie⟩ := List.mem_iff_getElem.1 he
            obtain ⟨j, hj, hje⟩ := List.mem_iff_getElem.1 hv
            rcases Nat.lt_trichotomy i j with hij | hij | hij
            · exact (hn i j (by simpa [keys] using hi) (by simpa [keys] using hj) hij (by simp [keys, hie, hje, hek])).elim
            · subst hij; rw [← hie, hje]
            · exact (hn j i (by simpa [keys] using hj) (by simpa [keys] using hi) hij (by simp [keys, hie, hje, hek])).elim
          · exact .inr ⟨hek, he⟩
        · rintro (h | h)
          · rw [h]; exact hv
          · exact h.2]
    simp
  · rw [if_neg hk, Nat.add_zero]
    exact len_of h.nodup i1.nodup fun e => by
      rw [i3]
      exact ⟨fun he => ⟨fun hek => hk (mem_keys.2 ⟨e.2, by rw [← hek]; exact he⟩), he⟩, And.right⟩
end Nd
end Go.Vc
end
section
/- Branches of a trie as bits and as rows without gaps: which children there are, and where they stand. -/
namespace Go.Vc.Nd
variable {κ ν : Type} [DecidableEq κ] {f : Nat → Nd κ ν} {i : Nat} {t : Nd κ ν}
def full (f : Nat → Nd κ ν) (j : Nat) : Bool := !(f j).isEmp
theorem full_iff : full f i = true ↔ f i ≠ emp := by unfold full; cases h : (f i).isEmp with
  | true => simp [isEmp_iff.1 h]
  | false => simp; intro e; rw [e] at h; cases h
theorem full_not : full f i = false ↔ f i = emp := by
  have := full_iff (f := f) (i := i)
  cases h : full f i <;> simp_all
def bmN (f : Nat → Nd κ ν) : Nat → Nat
  | 0 => 0
  | n + 1 => (if full f n then 2 ^ n else 0) + bmN f n
def bm (f : Nat → Nd κ ν) : Nat := bmN f 32
def rk (f : Nat → Nd κ ν) (i : Nat) : Nat := ((List.range i).filter (full f)).length
theorem cnt_rk : cnt f = rk f 32 := rfl
theorem rk_succ (i : Nat) : rk f (i + 1) = rk f i + if full f i then 1 else 0 := by
  unfold rk
  rw [List.range_succ, List.filter_append]
  cases h : full f i <;> simp [h]
theorem rk_mono {i j : Nat} (h : i ≤ j) : rk f i ≤ rk f j := by
  induction j with
  | zero => have : i = 0 := by omega
            subst this; omega
  | succ j ih =>
    rw [rk_succ]
    by_cases e : i = j + 1
    · subst e; rw [rk_succ]; omega
    · have := ih (by omega); omega
theorem rk_lt {i j : Nat} (h : i < j) (hf : f i ≠ emp) : rk f i < rk f j := by
  have h1 := rk_mono (f := f) (show i + 1 ≤ j from h)
  rw [rk_succ, if_pos (full_iff.2 hf)] at h1
  omega
theorem rk_le (i : Nat) : rk f i ≤ i := by
  unfold rk
  exact Nat.le_trans (List.length_filter_le _ _) (by simp)
theorem bmN_lt (n : Nat) : bmN f n < 2 ^ n := by
  induction n with
  | zero => simp [bmN]
  | succ n ih => rw [bmN, Nat.pow_succ]; split <;> omega
theorem bm_lt : bm f < 2 ^ 32 := bmN_lt 32
theorem bmN_bit (n j : Nat) : (bmN f n).testBit j = (decide (j < n) && full f j) := by
  induction n with
  | zero => simp [bmN]
  | succ n ih =>
    rw [bmN]
    cases hf : full f n with
    | false =>
      simp only [Bool.false_eq_true, if_false, Nat.zero_add, ih]
      by_cases e : j = n
      · subst e; simp [hf]
      · congr 1; exact decide_eq_decide.2 (by omega)
    | true =>
      simp only [if_true]
      by_cases e : j = n
      · subst e
        rw [Nat.testBit_two_pow_add_eq, Nat.testBit_lt_two_pow (bmN_lt j)]
        simp [hf]
      · by_cases h : j < n
        · rw [Nat.testBit_two_pow_add_gt h, ih]
          congr 1; exact decide_eq_decide.2 (by omega)
        · rw [Nat.testBit_lt_two_pow, decide_eq_false (by omega)]
          · rfl
          · have := bmN_lt (f := f) n
            have : 2 ^ (n + 1) ≤ 2 ^ j := Nat.pow_le_pow_right (by decide) (by omega)
            rw [Nat.pow_succ] at this; omega
theorem bm_bit (j : Nat) : (bm f).testBit j = (decide (j < 32) && full f j) := bmN_bit 32 j
theorem full_put (j : Nat) : full (put f i t) j = if j = i then !t.isEmp else full f j := by
  unfold full put; split <;> rfl
theorem bm_or (hi : i < 32) (ht : t ≠ emp) : bm f ||| 2 ^ i = bm (put f i t) := by
  apply Nat.eq_of_testBit_eq
  intro j
  rw [Nat.testBit_or, bm_bit, bm_bit, Nat.testBit_two_pow, full_put]
  by_cases e : j = i
  · subst e
    have : t.isEmp = false := by cases h : t.isEmp; rfl; exact absurd (isEmp_iff.1 h) ht
    simp [hi, this]
  · have e' : ¬ i = j := fun h => e h.symm
    simp [e, e']
theorem bm_xor (hi : i < 32) (hf : f i ≠ emp) : bm f ^^^ 2 ^ i = bm (put f i emp) := by
  apply Nat.eq_of_testBit_eq
  intro j
  rw [Nat.testBit_xor, bm_bit, bm_bit, Nat.testBit_two_pow, full_put]
  by_cases e : j = i
  · subst e; simp [hi, full_iff.2 hf, isEmp]
  · have e' : ¬ i = j := fun h => e h.symm
    simp [e, e']
theorem bm_keep (hf : f i ≠ emp) (ht : t ≠ emp) : bm (put f i t) = bm f := by
  apply Nat.eq_of_testBit_eq
  intro j
  rw [bm_bit, bm_bit, full_put]
  by_cases e : j = i
  · subst e
    have : t.isEmp = false := by cases h : t.isEmp; rfl; exact absurd (isEmp_iff.1 h) ht
    simp [this, full_iff.2 hf]
  · simp [e]
theorem bm_and (i : Nat) (hi : i < 32) : bm f &&& 2 ^ i = if full f i then 2 ^ i else 0 := by
  apply Nat.eq_of_testBit_eq
  intro j
  rw [Nat.testBit_and, bm_bit, Nat.testBit_two_pow]
  by_cases e : i = j
  · subst e
    cases full f i <;> simp [hi]
  · cases full f i <;> simp [e, Nat.testBit_two_pow]
theorem bm_and_zero (i : Nat) (hi : i < 32) : bm f &&& 2 ^ i = 0 ↔ f i = emp := by
  rw [bm_and i hi]
  cases h : full f i with
  | true => simp only [if_true]; constructor
            · intro h'; have := Nat.pow_pos (n := i) (show 0 < 2 by decide); omega
            · intro h'; rw [full_not.2 h'] at h; cases h
  | false => simp [full_not.1 h]
theorem bm_below (i : Nat) (hi : i ≤ 32) : bm f &&& (2 ^ i - 1) = bmN f i := by
  apply Nat.eq_of_testBit_eq
  intro j
  rw [Nat.testBit_and, bm_bit, Nat.testBit_two_pow_sub_one, bmN_bit]
  by_cases h : j < i
  · simp [h, show j < 32 by omega]
  · simp [h]
/-! ### counting bits -/
def pop : Nat → Nat → Nat
  | 0, _ => 0
  | n + 1, x => x % 2 + pop n (x / 2)
theorem pop_add (a b x : Nat) : pop (a + b) x = pop a x + pop b (x / 2 ^ a) := by
  induction a generalizing x with
  | zero => simp [pop]
  | succ a ih => rw [show a + 1 + b = (a + b) + 1 from by omega, pop, pop, ih, Nat.div_div_eq_div_mul, Nat.pow_succ, Nat.mul_comm 2 (2 ^ a)]; omega
theorem pop_mod (a x : Nat) : pop a (x % 2 ^ a) = pop a x := by
  induction a generalizing x with
  | zero => simp [pop]
  | succ a ih =>
    rw [pop, pop]
    have h1 : x % 2 ^ (a + 1) % 2 = x % 2 := by rw [Nat.pow_succ, Nat.mul_comm, Nat.mod_mul_right_mod]
    have h2 : x % 2 ^ (a + 1) / 2 = x / 2 % 2 ^ a := by
      rw [Nat.pow_succ, Nat.mul_comm, Nat.mod_mul_right_div_self]
    rw [h1, h2, ih]
theorem pop_small : ∀ (a b x : Nat), x < 2 ^ a → pop (a + b) x = pop a x := fun a b x h => by
  rw [pop_add, Nat.div_eq_of_lt h]
  have : ∀ b, pop b 0 = 0 := fun b => by induction b with
    | zero => rfl
    | succ b ih => simp [pop, ih]
  rw [this]; omega
theorem pop_le (a x : Nat) : pop a x ≤ a := by
  induction a generalizing x with
  | zero => simp [pop]
  | succ a ih => rw [pop]; have := ih (x / 2); omega
theorem pop_bmN (n : Nat) : pop n (bmN f n) = rk f n := by
  induction n with
  | zero => rfl
  | succ n ih =>
    rw [rk_succ, pop_add n 1, ← ih, bmN]
    have hl := bmN_lt (f := f) n
    cases full f n with
    | false =>
      simp only [Bool.false_eq_true, if_false, Nat.zero_add, Nat.add_zero]
      rw [Nat.div_eq_of_lt hl]; simp [pop]
    | true =>
      simp only [if_true]
      rw [← pop_mod n (2 ^ n + bmN f n), Nat.add_mod_left, Nat.mod_eq_of_lt hl, Nat.add_div_left _ (Nat.pow_pos (by decide)), Nat.div_eq_of_lt hl]
      simp [pop]
theorem pop_rk (hi : i ≤ 32) : pop 32 (bm f &&& (2 ^ i - 1)) = rk f i := by
  rw [bm_below i hi, ← pop_bmN, show 32 = i + (32 - i) from by omega, pop_small _ _ _ (bmN_lt i)]
theorem pop_bytes (x : Nat) (h : x < 2 ^ 32) : pop 32 x = pop 8 (x / 2 ^ 24) + pop 8 (x / 2 ^ 16 % 256) + pop 8 (x / 2 ^ 8 % 256) + pop 8 (x % 256) := by
  rw [show 32 = 8 + (8 + (8 + 8)) from rfl, pop_add, pop_add, pop_add, Nat.div_div_eq_div_mul, Nat.div_div_eq_div_mul]
  have e : ∀ y, pop 8 (y % 256) = pop 8 y := fun y => pop_mod 8 y
  rw [e, e, e]
  rw [show (2 : Nat) ^ 8 * 2 ^ 8 = 2 ^ 16 from rfl, show (2 : Nat) ^ 16 * 2 ^ 8 = 2 ^ 24 from rfl]
  omega
/-! ### the row of the children -/
variable {α : Type} {vs : Nat → α} {v : α}
def kids (f : Nat → Nd κ ν) (vs : Nat → α) : List α := ((List.range 32).filter (full f)).map vs
theorem kids_len : (kids f vs).length = cnt f := by simp [kids, cnt_rk, rk]
theorem range_split {i n : Nat} (h : i < n) : List.range n = List.range i ++ i :: (List.range' (i + 1) (n - i - 1)) := by
  rw [List.range_eq_range', List.range_eq_range', show n = i + (1 + (n - i - 1)) from by omega, ← List.range'_append_1, ← List.range'_append_1]
  simp
theorem kids_split (hi : i < 32) : kids f vs = ((List.range i).filter (full f)).map vs ++ (if full f i then [vs i] else []) ++ ((List.range' (i + 1) (32 - i - 1)).filter (full f)).map vs := by
  rw [kids, range_split hi, List.filter_append, List.filter_cons]
  cases full f i <;> simp
theorem kids_get (hi : i < 32) (hf : f i ≠ emp) : (kids f vs)[rk f i]? = some (vs i) := by
  rw [kids_split hi, if_pos (full_iff.2 hf), List.append_assoc, List.getElem?_append_right (by simp [rk])]
  simp [rk]
def putV (vs : Nat → α) (i : Nat) (v : α) : Nat → α := fun j => if j = i then v else vs j
theorem kids_take (hi : i < 32) : (kids f vs).take (rk f i) = ((List.range i).filter (full f)).map vs := by
  rw [kids_split hi, List.append_assoc, List.take_append_of_le_length (by simp [rk]), List.take_of_length_le (by simp [rk])]
theorem kids_drop (hi : i < 32) : (kids f vs).drop (rk f i) = (if full f i then [vs i] else []) ++ ((List.range' (i + 1) (32 - i - 1)).filter (full f)).map vs := by
  rw [kids_split hi, List.append_assoc, List.drop_append_of_le_length (by simp [rk]), List.drop_of_length_le (by simp [rk])]
  simp
theorem kids_put (hi : i < 32) (ht : t ≠ emp) : kids (put f i t) (putV vs i v) = (kids f vs).take (rk f i) ++ v :: (kids f vs).drop (rk f i + if full f i then 1 else 0) := by
  have hfull : full (put f i t) i = true := full_iff.2 (by rw [put_same]; exact ht)
  have h1 : ∀ l : List Nat, (∀ x ∈ l, x ≠ i) → (l.filter (full (put f i t))).map (putV vs i v) = (l.filter (full f)).map vs := fun l hl => by
    rw [List.filter_congr (q := full f) (fun x hx => by rw [full_put, if_neg (hl x hx)])]
    apply List.map_congr_left
    intro x hx
    rw [putV, if_neg (hl x ((List.mem_filter.1 hx).1))]
  rw [kids_take hi, kids_split hi, hfull, h1 _ (fun x hx => by simp at hx; omega), h1 _ (fun x hx => by simp [List.mem_range'_1] at hx; omega)]
  have h2 : (kids f vs).drop (rk f i + if full f i then 1 else 0) = ((List.range' (i + 1) (32 - i - 1)).filter (full f)).map vs := by
    rw [← List.drop_drop, kids_drop hi]
    cases full f i <;> simp
  rw [h2]
  simp [putV]
theorem kids_del (hi : i < 32) (hf : f i ≠ emp) : kids (put f i emp) (putV vs i v) = (kids f vs).take (rk f i) ++ (kids f vs).drop (rk f i + 1) := by
  have hfull : full (put f i (emp : Nd κ ν)) i = false := full_not.2 (by rw [put_same])
  have h1 : ∀ l : List Nat, (∀ x ∈ l, x ≠ i) → (l.filter (full (put f i emp))).map (putV vs i v) = (l.filter (full f)).map vs := fun l hl => by
    rw [List.filter_congr (q := full f) (fun x hx => by rw [full_put, if_neg (hl x hx)])]
    apply List.map_congr_left
    intro x hx
    rw [putV, if_neg (hl x ((List.mem_filter.1 hx).1))]
  rw [kids_take hi, kids_split hi, hfull, h1 _ (fun x hx => by simp at hx; omega), h1 _ (fun x hx => by simp [List.mem_range'_1] at hx; omega), ← List.drop_drop, kids_drop hi, if_pos (full_iff.2 hf)]
  simp
end Go.Vc.Nd
end
section
/- Maps of Go: what an update, a deletion, a look-up and a range loop do to a map that has pairs, each key once. -/
namespace Go.Vc
variable {P : Program} {w w' : World} {K : Value → World → Prop} {Kp : KP} {κ ν : Type} [DecidableEq κ]
structure KeyEnc (P : Program) (kt : TypeId) (κ : Type) [DecidableEq κ] where
  enc : κ → Value
  desc : TypeDesc
  und : P.underlying kt = some desc
  same : ∀ a b, Instr.sameNow desc (enc a) (enc b) = some (decide (a = b))
  bits : ∀ a, Instr.sameBits 10000 (enc a) (enc a) = true
  chk : ∀ (w : World) (e : Bool) a, (Instr.checkKey e 10000 kt (enc a)).run P w = .ok () w
structure GMap (w : World) (ek : κ → Value) (ev : ν → Value) (b : Nat) (D : List (κ × ν)) (es : Array MapEntry) (clock : Nat) : Prop where
  heap : w.heap[b]? = some (.map es clock)
  pairs : es.toList.map (fun e => (e.key, e.val)) = D.map fun p => (ek p.1, ev p.2)
  nodup : (D.map (·.1)).Nodup
  born : ∀ x ∈ es.toList, x.born < clock
  apart : (es.toList.map (·.born)).Nodup
def HasMap (w : World) (ek : κ → Value) (ev : ν → Value) (b : Nat) (D : List (κ × ν)) : Prop := ∃ es clock, GMap w ek ev b D es clock
variable {kt : TypeId} {E : KeyEnc P kt κ} {ev : ν → Value} {b : Nat} {D : List (κ × ν)}
theorem HasMap.frame {M : Nat → Prop} {ek : κ → Value} (h : HasMap w ek ev b D) (hf : Frm M w w') (hM : ¬ M b) : HasMap w' ek ev b D := by
  obtain ⟨es, clock, h1⟩ := h
  exact ⟨es, clock, { h1 with heap := hf.get h1.heap hM }⟩
theorem HasMap.lt {ek : κ → Value} (h : HasMap w ek ev b D) : b < w.heap.size := by obtain ⟨es, clock, h1⟩ := h; exact lt_of_get h1.heap
theorem hasMap_new (w : World) (ek : κ → Value) (ev : ν → Value) : HasMap (w.alloc (.map #[] 0)) ek ev w.heap.size [] :=
  ⟨#[], 0, hp_alloc_new, rfl, by simp, by simp, by simp⟩
theorem len_pairs {es : Array MapEntry} {ek : κ → Value} (h : es.toList.map (fun e => (e.key, e.val)) = D.map fun p => (ek p.1, ev p.2)) : es.size = D.length := by
  have := congrArg List.length h
  simpa using this
theorem findNow_eq : ∀ (l : List MapEntry) (D : List (κ × ν)) (i : Nat) (k : κ), l.map (fun e => (e.key, e.val)) = D.map (fun p => (E.enc p.1, ev p.2)) →
    Instr.findNow E.desc (E.enc k) l i = some ((Nd.find D k).map fun j => (i + j, (l[j]?.map (·.val)).getD undef))
  | [], D, i, k, h => by
    have : D = [] := by simpa using h.symm
    subst this
    rfl
  | e :: l, [], i, k, h => by simp at h
  | e :: l, p :: D, i, k, h => by
    simp only [List.map_cons, List.cons.injEq, Prod.mk.injEq] at h
    obtain ⟨⟨h1, h2⟩, h3⟩ := h
    unfold Instr.findNow
    rw [h1, E.same]
    by_cases hk : k = p.1
    · subst hk
      simp [Nd.find, List.findIdx?_cons]
    · have hk' : ¬ p.1 = k := fun e => hk e.symm
      simp only [decide_eq_false hk]
      rw [findNow_eq l D (i + 1) k h3]
      simp only [Nd.find, List.findIdx?_cons, decide_eq_false hk', Bool.false_eq_true, if_false, Option.map_map]
      congr 1
      cases h4 : List.findIdx? (fun e => decide (e.1 = k)) D with
      | none => simp
      | some j => simp; omega
theorem findKey_run {es : Array MapEntry} {clock : Nat} (h : GMap w E.enc ev b D es clock) (k : κ) :
    (Instr.findKey kt (E.enc k) es.toList).run P w = .ok ((Nd.find D k).map fun j => (j, (es[j]?.map (·.val)).getD undef)) w := by
  unfold Instr.findKey
  simp only [Sem.run_bind, run_und E.und, Result.andThen_ok, findNow_eq (E := E) es.toList D 0 k h.pairs]
  simp
theorem erase_map {α β : Type} (f : α → β) : ∀ (l : List α) (i : Nat), (l.eraseIdx i).map f = (l.map f).eraseIdx i
  | [], i => by simp
  | a :: l, 0 => by simp
  | a :: l, i + 1 => by simp [erase_map f l i]
theorem get_pair {es : Array MapEntry} {ek : κ → Value} (h : es.toList.map (fun e => (e.key, e.val)) = D.map fun p => (ek p.1, ev p.2)) {j : Nat} (hj : j < D.length) :
    ∃ hj' : j < es.size, es[j].key = ek D[j].1 ∧ es[j].val = ev D[j].2 := by
  have hl := len_pairs h
  refine ⟨by omega, ?_⟩
  have := congrArg (fun l => l[j]?) h
  simp only [List.getElem?_map] at this
  rw [List.getElem?_eq_getElem (by simpa using (by omega : j < es.size)), List.getElem?_eq_getElem hj] at this
  simpa using this
theorem run_getObj_at {es : Array MapEntry} {clock : Nat} {r : Nat} (h : w.heap[r]? = some (.map es clock)) : (getObj r).run P w = .ok (.map es clock) w := by simp only [getObj, Sem.run, h]
theorem run_setObj_at' {es : Array MapEntry} {clock : Nat} {o' : Obj} {r : Nat} (h : w.heap[r]? = some (.map es clock)) : (setObj r o').run P w = .ok () (w.upd r o') := by simp only [setObj, Sem.run, h]; rfl
theorem op_mkMap {t : TypeId} (hK : K (.map (some w.heap.size)) (w.alloc (.map #[] 0))) : (nice P).op (.mkMap t none) w K Kp := by
  show outOf P (VOp.mkMap t none).sem w K Kp
  exact out_ok (w' := w.alloc (.map #[] 0)) (v := .map (some w.heap.size)) rfl hK
theorem op_mapLen {t k e ty : TypeId} {ek : κ → Value} (ht : P.underlying t = some (.map k e)) (h : HasMap w ek ev b D) (hK : K (.int .i64 D.length) w) : (nice P).op (.blt .len [t] ty [.map (some b)]) w K Kp := by
  obtain ⟨es, clock, h⟩ := h
  have h1 := h.heap
  have hl := len_pairs h.pairs
  show outOf P _ w K Kp
  refine out_ok (w' := w) (v := .int .i64 D.length) ?_ hK
  simp [VOp.sem, bltSem, Builtin.len_, Builtin.lenOf, run_und ht, run_getObj_at h1, hl, goInt]
theorem op_update {t e : TypeId} {k : κ} {v : ν} (ht : P.underlying t = some (.map kt e)) (h : HasMap w E.enc ev b D) (hK : ∀ w', Frm (· = b) w w' → w'.heap.size = w.heap.size → HasMap w' E.enc ev b (Nd.upd D k v) → K undef w') :
    (nice P).op (.mapUpdate t (.map (some b)) (E.enc k) (ev v)) w K Kp := by
  obtain ⟨es, clock, h⟩ := h
  show outOf P _ w K Kp
  have hf := findKey_run h k
  have hfr : ∀ o, Frm (· = b) w (w.upd b o) := fun o => Frm.upd _ _ fun _ => rfl
  have hl := len_pairs h.pairs
  cases hx : Nd.find D k with
  | none =>
    rw [hx] at hf
    refine out_ok (w' := w.upd b (.map (es.push { key := E.enc k, val := ev v, born := clock }) (clock + 1))) (v := undef) ?_ (hK _ (hfr _) (by simp) ⟨_, _, heap_upd_same h.heap, ?_, ?_, ?_, ?_⟩)
    · simp [VOp.sem, Instr.mapUpdate, run_und ht, run_getObj_at h.heap, E.chk, hf, run_setObj_at' h.heap]
    · simp [Nd.upd, hx, h.pairs]
    · exact Nd.upd_nodup h.nodup
    · intro x hx'
      simp at hx'
      rcases hx' with hx' | rfl
      · have := h.born x (by simpa using hx'); omega
      · simp
    · simp only [Array.toList_push, List.map_append, List.map_cons, List.map_nil]
      rw [List.nodup_append]
      refine ⟨h.apart, by simp, fun a ha c hc => ?_⟩
      obtain ⟨x, hx', rfl⟩ := List.mem_map.1 ha
      simp at hc
      have := h.born x hx'; omega
  | some j =>
    rw [hx] at hf
    obtain ⟨hj, h1, h2⟩ := Nd.find_some hx
    obtain ⟨hj', hk, hv⟩ := get_pair h.pairs hj
    have hkk : es[j].key = E.enc k := by rw [hk, h1]
    refine out_ok (w' := w.upd b (.map (es.modify j fun e => { e with key := E.enc k, val := ev v }) clock)) (v := undef) ?_ (hK _ (hfr _) (by simp) ⟨_, _, heap_upd_same h.heap, ?_, ?_, ?_, ?_⟩)
    · simp [VOp.sem, Instr.mapUpdate, run_und ht, run_getObj_at h.heap, E.chk, hf, run_setObj_at' h.heap, Instr.keyThatStays, hj', hkk, E.bits]
    · simp only [Nd.upd, hx]
      rw [List.map_set, ← h.pairs]
      apply List.ext_getElem?
      intro i
      simp only [List.getElem?_map, Array.getElem?_toList, Array.getElem?_modify, List.getElem?_set, List.length_map, Array.length_toList]
      by_cases hi : j = i
      · subst hi
        simp [hj']
      · simp [hi]
    · exact Nd.upd_nodup h.nodup
    · intro x hx'
      obtain ⟨i, hi, rfl⟩ := List.mem_iff_getElem.1 hx'
      simp at hi
      simp only [Array.getElem_toList, Array.getElem_modify]
      split
      · show es[i].born < clock
        exact h.born es[i] (by simp)
      · exact h.born _ (by simp)
    · have : (es.modify j fun e => { e with key := E.enc k, val := ev v }).toList.map (·.born) = es.toList.map (·.born) := by
        apply List.ext_getElem?
        intro i
        simp only [List.getElem?_map, Array.getElem?_toList, Array.getElem?_modify]
        by_cases hi : j = i
        · subst hi; simp [Function.comp_def]
        · simp [hi]
      rw [this]; exact h.apart
theorem op_delete {t e ty : TypeId} {k : κ} (ht : P.underlying t = some (.map kt e)) (h : HasMap w E.enc ev b D) (hK : ∀ w', Frm (· = b) w w' → w'.heap.size = w.heap.size → HasMap w' E.enc ev b (Nd.wipe D k) → K (.tuple #[]) w') :
    (nice P).op (.blt .delete [t, kt] ty [.map (some b), E.enc k]) w K Kp := by
  obtain ⟨es, clock, h⟩ := h
  show outOf P _ w K Kp
  have hf := findKey_run h k
  have hfr : ∀ o, Frm (· = b) w (w.upd b o) := fun o => Frm.upd _ _ fun _ => rfl
  cases hx : Nd.find D k with
  | none =>
    rw [hx] at hf
    refine out_ok (w' := w.upd b (.map es clock)) (v := .tuple #[]) ?_ (hK _ (hfr _) (by simp) ⟨_, _, heap_upd_same h.heap, ?_, ?_, h.born, h.apart⟩)
    · simp [VOp.sem, bltSem, Builtin.delete_, run_und ht, run_getObj_at h.heap, E.chk, hf, run_setObj_at' h.heap]
    · simp [Nd.wipe, hx, h.pairs]
    · simp only [Nd.wipe, hx]; exact h.nodup
  | some j =>
    rw [hx] at hf
    obtain ⟨hj, h1, h2⟩ := Nd.find_some hx
    obtain ⟨hj', hk, hv⟩ := get_pair h.pairs hj
    have he : (es.eraseIdxIfInBounds j).toList = es.toList.eraseIdx j := by simp [Array.eraseIdxIfInBounds, hj']
    refine out_ok (w' := w.upd b (.map (es.eraseIdxIfInBounds j) clock)) (v := .tuple #[]) ?_ (hK _ (hfr _) (by simp) ⟨_, _, heap_upd_same h.heap, ?_, ?_, ?_, ?_⟩)
    · simp [VOp.sem, bltSem, Builtin.delete_, run_und ht, run_getObj_at h.heap, E.chk, hf, run_setObj_at' h.heap]
    · rw [he, erase_map, h.pairs, ← erase_map]
      simp [Nd.wipe, hx]
    · simp only [Nd.wipe, hx]; exact Nd.erase_nodup h.nodup
    · rw [he]; exact fun x hx' => h.born x ((List.eraseIdx_sublist _ _).subset hx')
    · rw [he]; exact h.apart.sublist ((List.eraseIdx_sublist _ _).map _)
theorem op_lookup {t e : TypeId} {k : κ} {z : Value} {ok : Bool} (ht : P.underlying t = some (.map kt e)) (hz : zeroOf P e = some z) (h : HasMap w E.enc ev b D)
    (hK : K (if ok then .tuple #[((Nd.look D k).map ev).getD z, .bool (Nd.look D k).isSome] else ((Nd.look D k).map ev).getD z) w) : (nice P).op (.lookup t (.map (some b)) (E.enc k) ok) w K Kp := by
  obtain ⟨es, clock, h⟩ := h
  show outOf P _ w K Kp
  have hf := findKey_run h k
  have hlook : Nd.look D k = (Nd.find D k).bind fun j => (D[j]?).map (·.2) := by
    unfold Nd.look Nd.find
    clear h hf hK
    induction D with
    | nil => rfl
    | cons p D ih =>
      rw [List.find?_cons, List.findIdx?_cons]
      by_cases hp : p.1 = k
      · simp [hp]
      · simp only [decide_eq_false hp, Bool.false_eq_true, if_false]
        rw [ih]
        cases List.findIdx? (fun e => decide (e.1 = k)) D <;> simp
  cases hx : Nd.find D k with
  | none =>
    rw [hx] at hf hlook
    simp only [Option.bind_none] at hlook
    rw [hlook] at hK
    refine out_ok (w' := w) (v := if ok then .tuple #[z, .bool false] else z) ?_ (by simpa using hK)
    cases ok <;> simp [VOp.sem, Instr.lookup, run_und ht, run_getObj_at h.heap, E.chk, hf, zero_run hz]
  | some j =>
    rw [hx] at hf hlook
    obtain ⟨hj, h1, h2⟩ := Nd.find_some hx
    obtain ⟨hj', hk, hv⟩ := get_pair h.pairs hj
    simp only [Option.bind_some, List.getElem?_eq_getElem hj, Option.map_some] at hlook
    rw [hlook] at hK
    refine out_ok (w' := w) (v := if ok then .tuple #[ev D[j].2, .bool true] else ev D[j].2) ?_ (by simpa using hK)
    cases ok <;> simp [VOp.sem, Instr.lookup, run_und ht, run_getObj_at h.heap, E.chk, hf, hj', hv]
end Go.Vc
end
section
/- Range loops over maps of Go. -/
namespace Go.Vc
open Go.ChangeMaps (setBlock)
variable {P : Program} {w w' : World} {K : Value → World → Prop} {Kp : KP} {κ ν : Type} [DecidableEq κ]
def Ranging (w : World) (ek : κ → Value) (ev : ν → Value) (b : Nat) (D : List (κ × ν)) (r : Nat) (L : List (κ × ν)) : Prop :=
  ∃ es clock since seen c0, GMap w ek ev b D es clock ∧ w.heap[r]? = some (.mapIter (some b) since seen c0) ∧ (∀ x ∈ es.toList, x.born < since) ∧ since ≤ c0 ∧ since ≤ clock ∧
    (leftOf es seen).toList.map (fun e => (e.key, e.val)) = L.map fun p => (ek p.1, ev p.2)
variable {ek : κ → Value} {ev : ν → Value} {b r : Nat} {D L : List (κ × ν)}
theorem Ranging.frame {M : Nat → Prop} (h : Ranging w ek ev b D r L) (hf : Frm M w w') (hb : ¬ M b) (hr : ¬ M r) : Ranging w' ek ev b D r L := by
  obtain ⟨es, clock, since, seen, c0, h1, h2, h3⟩ := h
  exact ⟨es, clock, since, seen, c0, { h1 with heap := hf.get h1.heap hb }, hf.get h2 hr, h3⟩
theorem Ranging.map (h : Ranging w ek ev b D r L) : HasMap w ek ev b D := by
  obtain ⟨es, clock, since, seen, c0, h1, h2⟩ := h
  exact ⟨es, clock, h1⟩
theorem Ranging.ne (h : Ranging w ek ev b D r L) : r ≠ b := by
  obtain ⟨es, clock, since, seen, c0, h1, h2, _⟩ := h
  rintro rfl
  rw [h1.heap] at h2; cases h2
theorem Ranging.lt (h : Ranging w ek ev b D r L) : r < w.heap.size := by
  obtain ⟨es, clock, since, seen, c0, h1, h2, _⟩ := h
  exact lt_of_get h2
theorem op_range {t k e : TypeId} (ht : P.underlying t = some (.map k e)) (h : HasMap w ek ev b D) (hK : ∀ w', (∀ {M}, Frm M w w') → w'.heap.size = w.heap.size + 1 → Ranging w' ek ev b D w.heap.size D → K (.pointer (some ⟨w.heap.size, 0, none⟩)) w') :
    (nice P).op (.range t (.map (some b))) w K Kp := by
  obtain ⟨es, clock, h⟩ := h
  show outOf P (VOp.range t (.map (some b))).sem w K Kp
  refine out_ok (run_range_map w t k e b es clock ht h.heap) (hK _ (Frm.alloc _ _) (by simp) ⟨es, clock, clock, #[], clock, { h with heap := hp_alloc_lt h.heap }, hp_alloc_new, h.born, Nat.le_refl _, Nat.le_refl _, ?_⟩)
  rw [← h.pairs]
  simp only [leftOf, Array.toList_filter]
  congr 1
  rw [List.filter_eq_self]
  simp
theorem filter_erase {es : List MapEntry} (hn : (es.map (·.born)).Nodup) : ∀ (i : Nat) (hi : i < es.length), es.filter (fun x => !(x.born == es[i].born)) = es.eraseIdx i := by
  induction es with
  | nil => intro i hi; simp at hi
  | cons a es ih =>
    intro i hi
    simp only [List.map_cons, List.nodup_cons] at hn
    match i, hi with
    | 0, _ =>
      simp only [List.getElem_cons_zero, List.eraseIdx_cons_zero, List.filter_cons, beq_self_eq_true, Bool.not_true, Bool.false_eq_true, if_false]
      rw [List.filter_eq_self]
      intro x hx
      have : x.born ≠ a.born := fun e => hn.1 (by rw [← e]; exact List.mem_map.2 ⟨x, hx, rfl⟩)
      simpa using this
    | i + 1, hi =>
      have hi' : i < es.length := by simpa using hi
      have : a.born ≠ es[i].born := fun e => hn.1 (by rw [e]; exact List.mem_map.2 ⟨_, List.getElem_mem hi', rfl⟩)
      simp only [List.getElem_cons_succ, List.eraseIdx_cons_succ, List.filter_cons]
      rw [ih hn.2 i hi']
      simp [this]
def Turn (w : World) (ek : κ → Value) (ev : ν → Value) (b r : Nat) (p : κ × ν) : Prop :=
  ∃ (es : Array MapEntry) (clock since : Nat) (seen : Array Nat) (e : MapEntry), w.heap[b]? = some (.map es clock) ∧ w.heap[r]? = some (.mapIter (some b) since (seen.push e.born) clock) ∧ e ∈ es.toList ∧ (es.toList.map (·.born)).Nodup ∧ e.key = ek p.1 ∧ e.val = ev p.2
theorem op_entry {p : κ × ν} (h : Turn w ek ev b r p) (hK : K (.tuple #[ek p.1, ev p.2]) w) : (nice P).op (.entry (.pointer (some ⟨r, 0, none⟩))) w K Kp := by
  obtain ⟨es, clock, since, seen, e, h1, h2, h3, h4, h5, h6⟩ := h
  show outOf P (VOp.entry (.pointer (some ⟨r, 0, none⟩))).sem w K Kp
  have := run_entry_at (P := P) w r b since seen es clock e h2 h1 h3 h4
  rw [h5, h6] at this
  exact out_ok this hK
theorem op_next {ty : TypeId} (h : Ranging w ek ev b D r L) (hK0 : L = [] → K (.tuple #[.bool false]) w)
    (hK1 : ∀ (i : Nat) (hi : i < L.length) (w' : World), Frm (· = r) w w' → w'.heap.size = w.heap.size → Ranging w' ek ev b D r (L.eraseIdx i) → Turn w' ek ev b r L[i] → K (.tuple #[.bool true, ek L[i].1, ev L[i].2]) w') :
    (nice P).op (.next (.pointer (some ⟨r, 0, none⟩)) false ty) w K Kp := by
  have hne := h.ne
  obtain ⟨es, clock, since, seen, c0, h1, h2, h3, h4, h5, h6⟩ := h
  show outOf P (VOp.next (.pointer (some ⟨r, 0, none⟩)) false ty).sem w K Kp
  rcases run_next_at (P := P) w ty r b since c0 seen es clock h2 h1.heap h3 h4 with ⟨h0, hrun⟩ | ⟨e, he, w1, hal, hrun⟩
  · refine out_ok hrun (hK0 ?_)
    have := congrArg List.length h6
    simp [h0] at this
    exact List.eq_nil_of_length_eq_zero this.symm
  · have he0 : e ∈ es.toList := by have := he; simp [leftOf] at this; simpa using this.1
    obtain ⟨i, hi, hie⟩ := List.mem_iff_getElem.1 he
    have hl := congrArg List.length h6
    simp only [List.length_map] at hl
    have hiL : i < L.length := by omega
    have hkv : e.key = ek L[i].1 ∧ e.val = ev L[i].2 := by
      have := congrArg (fun l => l[i]?) h6
      simp only [List.getElem?_map] at this
      rw [List.getElem?_eq_getElem hi, List.getElem?_eq_getElem hiL, hie] at this
      simpa using this
    have hfw : Frm (· = r) w (setBlock w1 r (.mapIter (some b) since (seen.push e.born) clock)) := by
      rcases hal with rfl | rfl
      · exact Frm.upd (M := (· = r)) _ _ fun _ => rfl
      · exact (Frm.drew w).trans (Frm.upd (M := (· = r)) _ _ fun _ => rfl) fun _ h _ => h
    have hw1 : w1.heap[r]? = some (.mapIter (some b) since seen c0) := by rcases hal with rfl | rfl <;> exact h2
    have hsz : (setBlock w1 r (.mapIter (some b) since (seen.push e.born) clock)).heap.size = w.heap.size := by rcases hal with rfl | rfl <;> simp [setBlock]
    have hit : (setBlock w1 r (.mapIter (some b) since (seen.push e.born) clock)).heap[r]? = some (.mapIter (some b) since (seen.push e.born) clock) := heap_upd_same (w := w1) hw1
    refine out_ok hrun ?_
    rw [hkv.1, hkv.2]
    refine hK1 i hiL _ hfw hsz ⟨es, clock, since, seen.push e.born, clock, { h1 with heap := hfw.get h1.heap (fun e => hne e.symm) }, hit, h3, h5, h5, ?_⟩ ⟨es, clock, since, seen, e, hfw.get h1.heap (fun e => hne e.symm), hit, he0, h1.apart, hkv.1, hkv.2⟩
    rw [erase_map, ← h6, ← erase_map]
    congr 1
    have hsub : (leftOf es seen).toList.Sublist es.toList := by simp [leftOf]
    have hnd : ((leftOf es seen).toList.map (·.born)).Nodup := h1.apart.sublist (hsub.map _)
    rw [← filter_erase hnd i hi, hie]
    simp only [leftOf, Array.toList_filter, List.filter_filter]
    congr 1
    funext x
    have e1 : (x.born == e.born) = decide (x.born = e.born) := by by_cases h : x.born = e.born <;> simp [h]
    simp [Array.contains_push, Bool.not_or, Bool.and_comm, e1]
end Go.Vc
end
section
/- A seat's own rewriting rules of single operations, printed by program out of its types and functions. -/
namespace Go.Proofs.YtbghmbbhkoniiaaGreat
open Go.Vc Go.Proofs
variable {w : World} {K : KV} {Kp : KP} {K1 : Value → Prop}
@[simp] theorem op_fa_109_0 {p : Addr} : (nice Tryz.prog).op (.fieldAddr 109 (.pointer (some p)) 0) w K Kp = K (.pointer (some (p.add 0))) w := op_fa (k := .one) (by kernel_rfl)
@[simp] theorem pur_fa_109_0 {p : Addr} : (nice Tryz.prog).pur (.fieldAddr 109 (.pointer (some p)) 0) K1 = K1 (.pointer (some (p.add 0))) := pur_fa (k := .one) (by kernel_rfl)
@[simp] theorem op_ld_3 {p : Addr} : (nice Tryz.prog).op (.load 3 (.pointer (some p))) w K Kp = ∃ cs e fz, w.heap[p.block]? = some (.cells cs e fz) ∧ p.spot = none ∧ ∃ v, cs[p.off]? = some v ∧ K v w := op_ld (by kernel_rfl)
@[simp] theorem ld_ld_3 {p : Addr} : (nice Tryz.prog).ld (.load 3 (.pointer (some p))) w K1 = ∃ cs e fz, w.heap[p.block]? = some (.cells cs e fz) ∧ p.spot = none ∧ ∃ v, cs[p.off]? = some v ∧ K1 v := ld_ld (by kernel_rfl)
@[simp] theorem same_ld_3 {p : Addr} {v : Value} : (nice Tryz.prog).same (.load 3 (.pointer (some p))) v w = ∃ cs e fz, w.heap[p.block]? = some (.cells cs e fz) ∧ p.spot = none ∧ cs[p.off]? = some v := same_ld (by kernel_rfl)
@[simp] theorem op_st_3 {p : Addr} {v : Value} : (nice Tryz.prog).op (.store 3 (.pointer (some p)) v) w K Kp = ∃ cs e, w.heap[p.block]? = some (.cells cs e (0, 0)) ∧ p.spot = none ∧ p.off < cs.size ∧ v.oneCell' = true ∧ K undef (w.upd p.block (.cells (cs.setIfInBounds p.off v) e (0, 0))) := op_st (by kernel_rfl)
def zero_114 : Array Value := #[Value.pointer none, Value.nilIface, Value.int IntKind.i64 0, Value.nilIface, Value.int IntKind.i64 0, Value.nilIface, Value.int IntKind.i64 0, Value.nilIface, Value.int IntKind.i64 0, Value.nilIface, Value.int IntKind.i64 0, Value.nilIface, Value.int IntKind.i64 0, Value.nilIface, Value.int IntKind.i64 0, Value.nilIface, Value.int IntKind.i64 0, Value.nilIface, Value.int IntKind.i64 0, Value.nilIface, Value.int IntKind.i64 0, Value.nilIface, Value.int IntKind.i64 0, Value.nilIface, Value.int IntKind.i64 0, Value.nilIface, Value.int IntKind.i64 0, Value.nilIface, Value.int IntKind.i64 0, Value.nilIface, Value.int IntKind.i64 0, Value.nilIface, Value.int IntKind.i64 0, Value.nilIface, Value.int IntKind.i64 0, Value.nilIface, Value.int IntKind.i64 0, Value.nilIface, Value.int IntKind.i64 0, Value.nilIface, Value.int IntKind.i64 0, Value.nilIface, Value.int IntKind.i64 0, Value.nilIface, Value.int IntKind.i64 0, Value.nilIface, Value.int IntKind.i64 0, Value.nilIface, Value.int IntKind.i64 0, Value.nilIface, Value.int IntKind.i64 0, Value.nilIface, Value.int IntKind.i64 0, Value.nilIface, Value.int IntKind.i64 0, Value.nilIface, Value.int IntKind.i64 0, Value.nilIface, Value.int IntKind.i64 0, Value.nilIface, Value.int IntKind.i64 0, Value.nilIface, Value.int IntKind.i64 0, Value.nilIface, Value.int IntKind.i64 0, Value.int IntKind.i64 0]
theorem build_114_0 {x0 : Value} (h0 : x0.oneCell' = true) : buildV Tryz.prog 114 [(0, x0)] = some (.agg ((zero_114).setIfInBounds 0 x0)) := by
  have e : buildV Tryz.prog 114 [(0, x0)] = (Instr.fill ((#[(0, 1), (1, 64), (65, 1)] : Array (Nat × Nat))[·]?) (zero_114) [(0, x0)]).map .agg := by kernel_rfl
  rw [e]; simp [Instr.fill, cells_of_one h0, zero_114]
@[simp] theorem op_build_114_0 {x0 : Value} (h0 : x0.oneCell' = true) : (nice Tryz.prog).op (.build 114 [(0, x0)]) w K Kp = K (.agg ((zero_114).setIfInBounds 0 x0)) w := op_build (build_114_0 h0)
@[simp] theorem pur_build_114_0 {x0 : Value} (h0 : x0.oneCell' = true) : (nice Tryz.prog).pur (.build 114 [(0, x0)]) K1 = K1 (.agg ((zero_114).setIfInBounds 0 x0)) := pur_build (build_114_0 h0)
@[simp] theorem call_52 {args : List Value} : (nice Tryz.prog).call (.fn 52) args w K Kp = Calls Tryz.prog 52 args.toArray w (ret K Kp) := call_fn (by kernel_rfl)
@[simp] theorem op_fa_114_2 {p : Addr} : (nice Tryz.prog).op (.fieldAddr 114 (.pointer (some p)) 2) w K Kp = K (.pointer (some (p.add 65))) w := op_fa (k := .one) (by kernel_rfl)
@[simp] theorem pur_fa_114_2 {p : Addr} : (nice Tryz.prog).pur (.fieldAddr 114 (.pointer (some p)) 2) K1 = K1 (.pointer (some (p.add 65))) := pur_fa (k := .one) (by kernel_rfl)
@[simp] theorem op_fa_114_0 {p : Addr} : (nice Tryz.prog).op (.fieldAddr 114 (.pointer (some p)) 0) w K Kp = K (.pointer (some (p.add 0))) w := op_fa (k := .one) (by kernel_rfl)
@[simp] theorem pur_fa_114_0 {p : Addr} : (nice Tryz.prog).pur (.fieldAddr 114 (.pointer (some p)) 0) K1 = K1 (.pointer (some (p.add 0))) := pur_fa (k := .one) (by kernel_rfl)
@[simp] theorem op_ld_81 {p : Addr} : (nice Tryz.prog).op (.load 81 (.pointer (some p))) w K Kp = ∃ cs e fz, w.heap[p.block]? = some (.cells cs e fz) ∧ p.spot = none ∧ ∃ v, cs[p.off]? = some v ∧ K v w := op_ld (by kernel_rfl)
@[simp] theorem ld_ld_81 {p : Addr} : (nice Tryz.prog).ld (.load 81 (.pointer (some p))) w K1 = ∃ cs e fz, w.heap[p.block]? = some (.cells cs e fz) ∧ p.spot = none ∧ ∃ v, cs[p.off]? = some v ∧ K1 v := ld_ld (by kernel_rfl)
@[simp] theorem same_ld_81 {p : Addr} {v : Value} : (nice Tryz.prog).same (.load 81 (.pointer (some p))) v w = ∃ cs e fz, w.heap[p.block]? = some (.cells cs e fz) ∧ p.spot = none ∧ cs[p.off]? = some v := same_ld (by kernel_rfl)
@[simp] theorem op_fa_109_1 {p : Addr} : (nice Tryz.prog).op (.fieldAddr 109 (.pointer (some p)) 1) w K Kp = K (.pointer (some (p.add 1))) w := op_fa (k := .one) (by kernel_rfl)
@[simp] theorem pur_fa_109_1 {p : Addr} : (nice Tryz.prog).pur (.fieldAddr 109 (.pointer (some p)) 1) K1 = K1 (.pointer (some (p.add 1))) := pur_fa (k := .one) (by kernel_rfl)
@[simp] theorem op_ld_107 {p : Addr} : (nice Tryz.prog).op (.load 107 (.pointer (some p))) w K Kp = ∃ cs e fz, w.heap[p.block]? = some (.cells cs e fz) ∧ p.spot = none ∧ ∃ v, cs[p.off]? = some v ∧ K v w := op_ld (by kernel_rfl)
@[simp] theorem ld_ld_107 {p : Addr} : (nice Tryz.prog).ld (.load 107 (.pointer (some p))) w K1 = ∃ cs e fz, w.heap[p.block]? = some (.cells cs e fz) ∧ p.spot = none ∧ ∃ v, cs[p.off]? = some v ∧ K1 v := ld_ld (by kernel_rfl)
@[simp] theorem same_ld_107 {p : Addr} {v : Value} : (nice Tryz.prog).same (.load 107 (.pointer (some p))) v w = ∃ cs e fz, w.heap[p.block]? = some (.cells cs e fz) ∧ p.spot = none ∧ cs[p.off]? = some v := same_ld (by kernel_rfl)
@[simp] theorem op_st_107 {p : Addr} {v : Value} : (nice Tryz.prog).op (.store 107 (.pointer (some p)) v) w K Kp = ∃ cs e, w.heap[p.block]? = some (.cells cs e (0, 0)) ∧ p.spot = none ∧ p.off < cs.size ∧ v.oneCell' = true ∧ K undef (w.upd p.block (.cells (cs.setIfInBounds p.off v) e (0, 0))) := op_st (by kernel_rfl)
@[simp] theorem op_eql_107_y {xc yc : Bool} {u : TypeId} {v : Value} : (nice Tryz.prog).op (.bin BinOp.eql 107 xc yc (.iface u v) .nilIface) w K Kp = K (.bool false) w := op_eq_iface (by kernel_rfl) rfl
@[simp] theorem op_eql_107_n {xc : Bool} : (nice Tryz.prog).op (.bin BinOp.eql 107 xc true .nilIface .nilIface) w K Kp = K (.bool true) w := op_eq_niface (by kernel_rfl) rfl
@[simp] theorem pur_eql_107_y {xc yc : Bool} {u : TypeId} {v : Value} : (nice Tryz.prog).pur (.bin BinOp.eql 107 xc yc (.iface u v) .nilIface) K1 = K1 (.bool false) := pur_eq_iface (by kernel_rfl) rfl
@[simp] theorem pur_eql_107_n {xc : Bool} : (nice Tryz.prog).pur (.bin BinOp.eql 107 xc true .nilIface .nilIface) K1 = K1 (.bool true) := pur_eq_niface (by kernel_rfl) rfl
theorem build_111_0 {x0 : Value} (h0 : x0.oneCell' = true) : buildV Tryz.prog 111 [(0, x0)] = some (.agg (#[x0, Value.int IntKind.i64 0])) := by
  have e : buildV Tryz.prog 111 [(0, x0)] = (Instr.fill ((#[(0, 1), (1, 1)] : Array (Nat × Nat))[·]?) (#[Value.nilIface, Value.int IntKind.i64 0]) [(0, x0)]).map .agg := by kernel_rfl
  rw [e]; simp [Instr.fill, cells_of_one h0]
@[simp] theorem op_build_111_0 {x0 : Value} (h0 : x0.oneCell' = true) : (nice Tryz.prog).op (.build 111 [(0, x0)]) w K Kp = K (.agg (#[x0, Value.int IntKind.i64 0])) w := op_build (build_111_0 h0)
@[simp] theorem pur_build_111_0 {x0 : Value} (h0 : x0.oneCell' = true) : (nice Tryz.prog).pur (.build 111 [(0, x0)]) K1 = K1 (.agg (#[x0, Value.int IntKind.i64 0])) := pur_build (build_111_0 h0)
@[simp] theorem op_fa_114_1 {p : Addr} : (nice Tryz.prog).op (.fieldAddr 114 (.pointer (some p)) 1) w K Kp = K (.pointer (some (p.add 1))) w := op_fa (k := (.agg 64)) (by kernel_rfl)
@[simp] theorem pur_fa_114_1 {p : Addr} : (nice Tryz.prog).pur (.fieldAddr 114 (.pointer (some p)) 1) K1 = K1 (.pointer (some (p.add 1))) := pur_fa (k := (.agg 64)) (by kernel_rfl)
@[simp] theorem op_ix_112 {p : Addr} {k : IntKind} {j : Int} : (nice Tryz.prog).op (.indexAddr 112 (.pointer (some p)) (.int k j)) w K Kp = ((0 ≤ j ∧ j < 32) ∧ K (.pointer (some (p.add (j.toNat * 2)))) w) := op_ix_arr (by kernel_rfl)
@[simp] theorem pur_ix_112 {p : Addr} {k : IntKind} {j : Int} : (nice Tryz.prog).pur (.indexAddr 112 (.pointer (some p)) (.int k j)) K1 = ((0 ≤ j ∧ j < 32) ∧ K1 (.pointer (some (p.add (j.toNat * 2))))) := pur_ix_arr (by kernel_rfl)
@[simp] theorem op_st_111 {p : Addr} {vs : Array Value} : (nice Tryz.prog).op (.store 111 (.pointer (some p)) (.agg vs)) w K Kp = (vs.size = 2 ∧ (∀ u ∈ vs.toList, u.oneCell' = true) ∧ ∃ cs e, w.heap[p.block]? = some (.cells cs e (0, 0)) ∧ p.spot = none ∧ p.off + 2 ≤ cs.size ∧ K undef (w.upd p.block (.cells (ow cs p.off vs.toList) e (0, 0)))) := op_stn (by kernel_rfl)
@[simp] theorem call_64 {args : List Value} : (nice Tryz.prog).call (.fn 64) args w K Kp = Calls Tryz.prog 64 args.toArray w (ret K Kp) := call_fn (by kernel_rfl)
@[simp] theorem call_50 {args : List Value} : (nice Tryz.prog).call (.fn 50) args w K Kp = Calls Tryz.prog 50 args.toArray w (ret K Kp) := call_fn (by kernel_rfl)
@[simp] theorem op_fa_111_0 {p : Addr} : (nice Tryz.prog).op (.fieldAddr 111 (.pointer (some p)) 0) w K Kp = K (.pointer (some (p.add 0))) w := op_fa (k := .one) (by kernel_rfl)
@[simp] theorem pur_fa_111_0 {p : Addr} : (nice Tryz.prog).pur (.fieldAddr 111 (.pointer (some p)) 0) K1 = K1 (.pointer (some (p.add 0))) := pur_fa (k := .one) (by kernel_rfl)
@[simp] theorem op_ta_107_153 {u : TypeId} {v : Value} : (nice Tryz.prog).op (.tassert (.iface u v) 107 153 true) w K Kp = if u = 153 then K (.tuple #[v, .bool true]) w else K (.tuple #[(Value.pointer none), .bool false]) w := op_tassert_ok (by kernel_rfl) (by kernel_rfl) (by kernel_rfl)
@[simp] theorem op_tan_107_153 : (nice Tryz.prog).op (.tassert .nilIface 107 153 true) w K Kp = K (.tuple #[(Value.pointer none), .bool false]) w := op_tassert_ok_nil (by kernel_rfl) (by kernel_rfl) (by kernel_rfl)
@[simp] theorem op_fa_159_0 {p : Addr} : (nice Tryz.prog).op (.fieldAddr 159 (.pointer (some p)) 0) w K Kp = K (.pointer (some (p.add 0))) w := op_fa (k := .one) (by kernel_rfl)
@[simp] theorem pur_fa_159_0 {p : Addr} : (nice Tryz.prog).pur (.fieldAddr 159 (.pointer (some p)) 0) K1 = K1 (.pointer (some (p.add 0))) := pur_fa (k := .one) (by kernel_rfl)
@[simp] theorem op_ld_157 {p : Addr} : (nice Tryz.prog).op (.load 157 (.pointer (some p))) w K Kp = ∃ cs e fz, w.heap[p.block]? = some (.cells cs e fz) ∧ p.spot = none ∧ ∃ v, cs[p.off]? = some v ∧ K v w := op_ld (by kernel_rfl)
@[simp] theorem ld_ld_157 {p : Addr} : (nice Tryz.prog).ld (.load 157 (.pointer (some p))) w K1 = ∃ cs e fz, w.heap[p.block]? = some (.cells cs e fz) ∧ p.spot = none ∧ ∃ v, cs[p.off]? = some v ∧ K1 v := ld_ld (by kernel_rfl)
@[simp] theorem same_ld_157 {p : Addr} {v : Value} : (nice Tryz.prog).same (.load 157 (.pointer (some p))) v w = ∃ cs e fz, w.heap[p.block]? = some (.cells cs e fz) ∧ p.spot = none ∧ cs[p.off]? = some v := same_ld (by kernel_rfl)
@[simp] theorem op_st_157 {p : Addr} {v : Value} : (nice Tryz.prog).op (.store 157 (.pointer (some p)) v) w K Kp = ∃ cs e, w.heap[p.block]? = some (.cells cs e (0, 0)) ∧ p.spot = none ∧ p.off < cs.size ∧ v.oneCell' = true ∧ K undef (w.upd p.block (.cells (cs.setIfInBounds p.off v) e (0, 0))) := op_st (by kernel_rfl)
@[simp] theorem op_fa_111_1 {p : Addr} : (nice Tryz.prog).op (.fieldAddr 111 (.pointer (some p)) 1) w K Kp = K (.pointer (some (p.add 1))) w := op_fa (k := .one) (by kernel_rfl)
@[simp] theorem pur_fa_111_1 {p : Addr} : (nice Tryz.prog).pur (.fieldAddr 111 (.pointer (some p)) 1) K1 = K1 (.pointer (some (p.add 1))) := pur_fa (k := .one) (by kernel_rfl)
@[simp] theorem op_ix_157 {p : Addr} {len cap : Nat} {k : IntKind} {j : Int} : (nice Tryz.prog).op (.indexAddr 157 (.slice (some p) len cap) (.int k j)) w K Kp = ((0 ≤ j ∧ j < (len : Int)) ∧ K (.pointer (some (p.add (j.toNat * 2)))) w) := op_ix_slice (e := 156) (by kernel_rfl)
@[simp] theorem pur_ix_157 {p : Addr} {len cap : Nat} {k : IntKind} {j : Int} : (nice Tryz.prog).pur (.indexAddr 157 (.slice (some p) len cap) (.int k j)) K1 = ((0 ≤ j ∧ j < (len : Int)) ∧ K1 (.pointer (some (p.add (j.toNat * 2))))) := pur_ix_slice (e := 156) (by kernel_rfl)
@[simp] theorem op_fa_156_0 {p : Addr} : (nice Tryz.prog).op (.fieldAddr 156 (.pointer (some p)) 0) w K Kp = K (.pointer (some (p.add 0))) w := op_fa (k := .one) (by kernel_rfl)
@[simp] theorem pur_fa_156_0 {p : Addr} : (nice Tryz.prog).pur (.fieldAddr 156 (.pointer (some p)) 0) K1 = K1 (.pointer (some (p.add 0))) := pur_fa (k := .one) (by kernel_rfl)
@[simp] theorem op_ld_2 {p : Addr} : (nice Tryz.prog).op (.load 2 (.pointer (some p))) w K Kp = ∃ cs e fz, w.heap[p.block]? = some (.cells cs e fz) ∧ p.spot = none ∧ ∃ v, cs[p.off]? = some v ∧ K v w := op_ld (by kernel_rfl)
@[simp] theorem ld_ld_2 {p : Addr} : (nice Tryz.prog).ld (.load 2 (.pointer (some p))) w K1 = ∃ cs e fz, w.heap[p.block]? = some (.cells cs e fz) ∧ p.spot = none ∧ ∃ v, cs[p.off]? = some v ∧ K1 v := ld_ld (by kernel_rfl)
@[simp] theorem same_ld_2 {p : Addr} {v : Value} : (nice Tryz.prog).same (.load 2 (.pointer (some p))) v w = ∃ cs e fz, w.heap[p.block]? = some (.cells cs e fz) ∧ p.spot = none ∧ cs[p.off]? = some v := same_ld (by kernel_rfl)
@[simp] theorem op_st_2 {p : Addr} {v : Value} : (nice Tryz.prog).op (.store 2 (.pointer (some p)) v) w K Kp = ∃ cs e, w.heap[p.block]? = some (.cells cs e (0, 0)) ∧ p.spot = none ∧ p.off < cs.size ∧ v.oneCell' = true ∧ K undef (w.upd p.block (.cells (cs.setIfInBounds p.off v) e (0, 0))) := op_st (by kernel_rfl)
@[simp] theorem op_fa_156_1 {p : Addr} : (nice Tryz.prog).op (.fieldAddr 156 (.pointer (some p)) 1) w K Kp = K (.pointer (some (p.add 1))) w := op_fa (k := .one) (by kernel_rfl)
@[simp] theorem pur_fa_156_1 {p : Addr} : (nice Tryz.prog).pur (.fieldAddr 156 (.pointer (some p)) 1) K1 = K1 (.pointer (some (p.add 1))) := pur_fa (k := .one) (by kernel_rfl)
@[simp] theorem op_ta_107_160 {u : TypeId} {v : Value} : (nice Tryz.prog).op (.tassert (.iface u v) 107 160 true) w K Kp = if u = 160 then K (.tuple #[v, .bool true]) w else K (.tuple #[(Value.pointer none), .bool false]) w := op_tassert_ok (by kernel_rfl) (by kernel_rfl) (by kernel_rfl)
@[simp] theorem op_tan_107_160 : (nice Tryz.prog).op (.tassert .nilIface 107 160 true) w K Kp = K (.tuple #[(Value.pointer none), .bool false]) w := op_tassert_ok_nil (by kernel_rfl) (by kernel_rfl) (by kernel_rfl)
@[simp] theorem op_fa_162_1 {p : Addr} : (nice Tryz.prog).op (.fieldAddr 162 (.pointer (some p)) 1) w K Kp = K (.pointer (some (p.add 1))) w := op_fa (k := .one) (by kernel_rfl)
@[simp] theorem pur_fa_162_1 {p : Addr} : (nice Tryz.prog).pur (.fieldAddr 162 (.pointer (some p)) 1) K1 = K1 (.pointer (some (p.add 1))) := pur_fa (k := .one) (by kernel_rfl)
@[simp] theorem op_fa_162_2 {p : Addr} : (nice Tryz.prog).op (.fieldAddr 162 (.pointer (some p)) 2) w K Kp = K (.pointer (some (p.add 2))) w := op_fa (k := .one) (by kernel_rfl)
@[simp] theorem pur_fa_162_2 {p : Addr} : (nice Tryz.prog).pur (.fieldAddr 162 (.pointer (some p)) 2) K1 = K1 (.pointer (some (p.add 2))) := pur_fa (k := .one) (by kernel_rfl)
@[simp] theorem op_ta_107_163 {u : TypeId} {v : Value} : (nice Tryz.prog).op (.tassert (.iface u v) 107 163 true) w K Kp = if u = 163 then K (.tuple #[v, .bool true]) w else K (.tuple #[(Value.pointer none), .bool false]) w := op_tassert_ok (by kernel_rfl) (by kernel_rfl) (by kernel_rfl)
@[simp] theorem op_tan_107_163 : (nice Tryz.prog).op (.tassert .nilIface 107 163 true) w K Kp = K (.tuple #[(Value.pointer none), .bool false]) w := op_tassert_ok_nil (by kernel_rfl) (by kernel_rfl) (by kernel_rfl)
@[simp] theorem op_fa_165_1 {p : Addr} : (nice Tryz.prog).op (.fieldAddr 165 (.pointer (some p)) 1) w K Kp = K (.pointer (some (p.add 1))) w := op_fa (k := .one) (by kernel_rfl)
@[simp] theorem pur_fa_165_1 {p : Addr} : (nice Tryz.prog).pur (.fieldAddr 165 (.pointer (some p)) 1) K1 = K1 (.pointer (some (p.add 1))) := pur_fa (k := .one) (by kernel_rfl)
@[simp] theorem call_63 {args : List Value} : (nice Tryz.prog).call (.fn 63) args w K Kp = Calls Tryz.prog 63 args.toArray w (ret K Kp) := call_fn (by kernel_rfl)
theorem build_109_2 {x2 : Value} (h2 : x2.oneCell' = true) : buildV Tryz.prog 109 [(2, x2)] = some (.agg (#[Value.int IntKind.i64 0, Value.nilIface, x2])) := by
  have e : buildV Tryz.prog 109 [(2, x2)] = (Instr.fill ((#[(0, 1), (1, 1), (2, 1)] : Array (Nat × Nat))[·]?) (#[Value.int IntKind.i64 0, Value.nilIface, Value.nilIface]) [(2, x2)]).map .agg := by kernel_rfl
  rw [e]; simp [Instr.fill, cells_of_one h2]
@[simp] theorem op_build_109_2 {x2 : Value} (h2 : x2.oneCell' = true) : (nice Tryz.prog).op (.build 109 [(2, x2)]) w K Kp = K (.agg (#[Value.int IntKind.i64 0, Value.nilIface, x2])) w := op_build (build_109_2 h2)
@[simp] theorem pur_build_109_2 {x2 : Value} (h2 : x2.oneCell' = true) : (nice Tryz.prog).pur (.build 109 [(2, x2)]) K1 = K1 (.agg (#[Value.int IntKind.i64 0, Value.nilIface, x2])) := pur_build (build_109_2 h2)
@[simp] theorem call_61 {args : List Value} : (nice Tryz.prog).call (.fn 61) args w K Kp = Calls Tryz.prog 61 args.toArray w (ret K Kp) := call_fn (by kernel_rfl)
@[simp] theorem call_62 {args : List Value} : (nice Tryz.prog).call (.fn 62) args w K Kp = Calls Tryz.prog 62 args.toArray w (ret K Kp) := call_fn (by kernel_rfl)
@[simp] theorem op_fa_109_2 {p : Addr} : (nice Tryz.prog).op (.fieldAddr 109 (.pointer (some p)) 2) w K Kp = K (.pointer (some (p.add 2))) w := op_fa (k := .one) (by kernel_rfl)
@[simp] theorem pur_fa_109_2 {p : Addr} : (nice Tryz.prog).pur (.fieldAddr 109 (.pointer (some p)) 2) K1 = K1 (.pointer (some (p.add 2))) := pur_fa (k := .one) (by kernel_rfl)
@[simp] theorem op_ld_74 {p : Addr} : (nice Tryz.prog).op (.load 74 (.pointer (some p))) w K Kp = ∃ cs e fz, w.heap[p.block]? = some (.cells cs e fz) ∧ p.spot = none ∧ ∃ v, cs[p.off]? = some v ∧ K v w := op_ld (by kernel_rfl)
@[simp] theorem ld_ld_74 {p : Addr} : (nice Tryz.prog).ld (.load 74 (.pointer (some p))) w K1 = ∃ cs e fz, w.heap[p.block]? = some (.cells cs e fz) ∧ p.spot = none ∧ ∃ v, cs[p.off]? = some v ∧ K1 v := ld_ld (by kernel_rfl)
@[simp] theorem same_ld_74 {p : Addr} {v : Value} : (nice Tryz.prog).same (.load 74 (.pointer (some p))) v w = ∃ cs e fz, w.heap[p.block]? = some (.cells cs e fz) ∧ p.spot = none ∧ cs[p.off]? = some v := same_ld (by kernel_rfl)
@[simp] theorem op_st_74 {p : Addr} {v : Value} : (nice Tryz.prog).op (.store 74 (.pointer (some p)) v) w K Kp = ∃ cs e, w.heap[p.block]? = some (.cells cs e (0, 0)) ∧ p.spot = none ∧ p.off < cs.size ∧ v.oneCell' = true ∧ K undef (w.upd p.block (.cells (cs.setIfInBounds p.off v) e (0, 0))) := op_st (by kernel_rfl)
@[simp] theorem op_eql_74_y {xc yc : Bool} {u : TypeId} {v : Value} : (nice Tryz.prog).op (.bin BinOp.eql 74 xc yc (.iface u v) .nilIface) w K Kp = K (.bool false) w := op_eq_iface (by kernel_rfl) rfl
@[simp] theorem op_eql_74_n {xc : Bool} : (nice Tryz.prog).op (.bin BinOp.eql 74 xc true .nilIface .nilIface) w K Kp = K (.bool true) w := op_eq_niface (by kernel_rfl) rfl
@[simp] theorem pur_eql_74_y {xc yc : Bool} {u : TypeId} {v : Value} : (nice Tryz.prog).pur (.bin BinOp.eql 74 xc yc (.iface u v) .nilIface) K1 = K1 (.bool false) := pur_eq_iface (by kernel_rfl) rfl
@[simp] theorem pur_eql_74_n {xc : Bool} : (nice Tryz.prog).pur (.bin BinOp.eql 74 xc true .nilIface .nilIface) K1 = K1 (.bool true) := pur_eq_niface (by kernel_rfl) rfl
@[simp] theorem call_58 {args : List Value} : (nice Tryz.prog).call (.fn 58) args w K Kp = Calls Tryz.prog 58 args.toArray w (ret K Kp) := call_fn (by kernel_rfl)
@[simp] theorem call_65 {args : List Value} : (nice Tryz.prog).call (.fn 65) args w K Kp = Calls Tryz.prog 65 args.toArray w (ret K Kp) := call_fn (by kernel_rfl)
theorem build_156_0_1 {x0 : Value} {x1 : Value} (h0 : x0.oneCell' = true) (h1 : x1.oneCell' = true) : buildV Tryz.prog 156 [(0, x0), (1, x1)] = some (.agg (#[x0, x1])) := by
  have e : buildV Tryz.prog 156 [(0, x0), (1, x1)] = (Instr.fill ((#[(0, 1), (1, 1)] : Array (Nat × Nat))[·]?) (#[Value.int IntKind.i64 0, Value.int IntKind.i64 0]) [(0, x0), (1, x1)]).map .agg := by kernel_rfl
  rw [e]; simp [Instr.fill, cells_of_one h0, cells_of_one h1]
@[simp] theorem op_build_156_0_1 {x0 : Value} {x1 : Value} (h0 : x0.oneCell' = true) (h1 : x1.oneCell' = true) : (nice Tryz.prog).op (.build 156 [(0, x0), (1, x1)]) w K Kp = K (.agg (#[x0, x1])) w := op_build (build_156_0_1 h0 h1)
@[simp] theorem pur_build_156_0_1 {x0 : Value} {x1 : Value} (h0 : x0.oneCell' = true) (h1 : x1.oneCell' = true) : (nice Tryz.prog).pur (.build 156 [(0, x0), (1, x1)]) K1 = K1 (.agg (#[x0, x1])) := pur_build (build_156_0_1 h0 h1)
theorem lit_157_1 {y0_0 y0_1 : Value} : sliceLit Tryz.prog 157 1 [(0, .agg #[y0_0, y0_1])] = some (156, #[y0_0, y0_1]) := by
  have e : sliceLit Tryz.prog 157 1 [(0, .agg #[y0_0, y0_1])] = (Instr.fill (fun i => some (i * 2, 2)) (#[Value.int IntKind.i64 0, Value.int IntKind.i64 0]) [(0, .agg #[y0_0, y0_1])]).map fun cs => (156, cs) := by kernel_rfl
  rw [e]; simp [Instr.fill, Value.cells]
@[simp] theorem op_lit_157_1 {y0_0 y0_1 : Value} : (nice Tryz.prog).op (.buildSlice 157 1 [(0, .agg #[y0_0, y0_1])]) w K Kp = K (.slice (some ⟨w.heap.size, 0, none⟩) 1 1) (w.alloc (.cells #[y0_0, y0_1] 156)) := op_lit (lit_157_1)
theorem build_159_0 {x0 : Value} (h0 : x0.oneCell' = true) : buildV Tryz.prog 159 [(0, x0)] = some (.agg (#[x0])) := by
  have e : buildV Tryz.prog 159 [(0, x0)] = (Instr.fill ((#[(0, 1)] : Array (Nat × Nat))[·]?) (#[Value.slice none 0 0]) [(0, x0)]).map .agg := by kernel_rfl
  rw [e]; simp [Instr.fill, cells_of_one h0]
@[simp] theorem op_build_159_0 {x0 : Value} (h0 : x0.oneCell' = true) : (nice Tryz.prog).op (.build 159 [(0, x0)]) w K Kp = K (.agg (#[x0])) w := op_build (build_159_0 h0)
@[simp] theorem pur_build_159_0 {x0 : Value} (h0 : x0.oneCell' = true) : (nice Tryz.prog).pur (.build 159 [(0, x0)]) K1 = K1 (.agg (#[x0])) := pur_build (build_159_0 h0)
@[simp] theorem op_mki_153 {v : Value} : (nice Tryz.prog).op (.mkIface 153 v) w K Kp = K (.iface 153 v) w := op_mkIface (by kernel_rfl) (by kernel_rfl)
@[simp] theorem pur_mki_153 {v : Value} : (nice Tryz.prog).pur (.mkIface 153 v) K1 = K1 (.iface 153 v) := pur_mkIface (by kernel_rfl) (by kernel_rfl)
@[simp] theorem op_alloc_4 : (nice Tryz.prog).op (.alloc 4) w K Kp = K (.pointer (some ⟨w.heap.size, 0, none⟩)) (w.alloc (.cells #[Value.bool false] 4)) := op_alloc (z := (Value.bool false)) (by kernel_rfl)
@[simp] theorem inv_98_84 {v : Value} {args : List Value} : (nice Tryz.prog).call (.inv (.iface 98 v) "Hash") args w K Kp = Calls Tryz.prog 84 (v :: args).toArray w (ret K Kp) := call_inv (fun _ => by kernel_rfl) (by kernel_rfl)
@[simp] theorem inv_178_124 {v : Value} {args : List Value} : (nice Tryz.prog).call (.inv (.iface 178 v) "Hash") args w K Kp = Calls Tryz.prog 124 (v :: args).toArray w (ret K Kp) := call_inv (fun _ => by kernel_rfl) (by kernel_rfl)
@[simp] theorem inv_62_44 {v : Value} {args : List Value} : (nice Tryz.prog).call (.inv (.iface 62 v) "pub-bracken/pub/immutable.set") args w K Kp = Calls Tryz.prog 44 (v :: args).toArray w (ret K Kp) := call_inv (fun _ => by kernel_rfl) (by kernel_rfl)
@[simp] theorem inv_81_61 {v : Value} {args : List Value} : (nice Tryz.prog).call (.inv (.iface 81 v) "pub-bracken/pub/immutable.set") args w K Kp = Calls Tryz.prog 61 (v :: args).toArray w (ret K Kp) := call_inv (fun _ => by kernel_rfl) (by kernel_rfl)
@[simp] theorem inv_128_88 {v : Value} {args : List Value} : (nice Tryz.prog).call (.inv (.iface 128 v) "pub-bracken/pub/immutable.set") args w K Kp = Calls Tryz.prog 88 (v :: args).toArray w (ret K Kp) := call_inv (fun _ => by kernel_rfl) (by kernel_rfl)
@[simp] theorem inv_135_93 {v : Value} {args : List Value} : (nice Tryz.prog).call (.inv (.iface 135 v) "pub-bracken/pub/immutable.set") args w K Kp = Calls Tryz.prog 93 (v :: args).toArray w (ret K Kp) := call_inv (fun _ => by kernel_rfl) (by kernel_rfl)
@[simp] theorem inv_138_98 {v : Value} {args : List Value} : (nice Tryz.prog).call (.inv (.iface 138 v) "pub-bracken/pub/immutable.set") args w K Kp = Calls Tryz.prog 98 (v :: args).toArray w (ret K Kp) := call_inv (fun _ => by kernel_rfl) (by kernel_rfl)
@[simp] theorem inv_153_103 {v : Value} {args : List Value} : (nice Tryz.prog).call (.inv (.iface 153 v) "pub-bracken/pub/immutable.set") args w K Kp = Calls Tryz.prog 103 (v :: args).toArray w (ret K Kp) := call_inv (fun _ => by kernel_rfl) (by kernel_rfl)
@[simp] theorem inv_160_108 {v : Value} {args : List Value} : (nice Tryz.prog).call (.inv (.iface 160 v) "pub-bracken/pub/immutable.set") args w K Kp = Calls Tryz.prog 108 (v :: args).toArray w (ret K Kp) := call_inv (fun _ => by kernel_rfl) (by kernel_rfl)
@[simp] theorem inv_163_114 {v : Value} {args : List Value} : (nice Tryz.prog).call (.inv (.iface 163 v) "pub-bracken/pub/immutable.set") args w K Kp = Calls Tryz.prog 114 (v :: args).toArray w (ret K Kp) := call_inv (fun _ => by kernel_rfl) (by kernel_rfl)
@[simp] theorem inv_166_117 {v : Value} {args : List Value} : (nice Tryz.prog).call (.inv (.iface 166 v) "pub-bracken/pub/immutable.set") args w K Kp = Calls Tryz.prog 117 (v :: args).toArray w (ret K Kp) := call_inv (fun _ => by kernel_rfl) (by kernel_rfl)
@[simp] theorem inv_170_122 {v : Value} {args : List Value} : (nice Tryz.prog).call (.inv (.iface 170 v) "pub-bracken/pub/immutable.set") args w K Kp = Calls Tryz.prog 122 (v :: args).toArray w (ret K Kp) := call_inv (fun _ => by kernel_rfl) (by kernel_rfl)
@[simp] theorem inv_184_129 {v : Value} {args : List Value} : (nice Tryz.prog).call (.inv (.iface 184 v) "pub-bracken/pub/immutable.set") args w K Kp = Calls Tryz.prog 129 (v :: args).toArray w (ret K Kp) := call_inv (fun _ => by kernel_rfl) (by kernel_rfl)
@[simp] theorem inv_188_133 {v : Value} {args : List Value} : (nice Tryz.prog).call (.inv (.iface 188 v) "pub-bracken/pub/immutable.set") args w K Kp = Calls Tryz.prog 133 (v :: args).toArray w (ret K Kp) := call_inv (fun _ => by kernel_rfl) (by kernel_rfl)
@[simp] theorem op_ld_4 {p : Addr} : (nice Tryz.prog).op (.load 4 (.pointer (some p))) w K Kp = ∃ cs e fz, w.heap[p.block]? = some (.cells cs e fz) ∧ p.spot = none ∧ ∃ v, cs[p.off]? = some v ∧ K v w := op_ld (by kernel_rfl)
@[simp] theorem ld_ld_4 {p : Addr} : (nice Tryz.prog).ld (.load 4 (.pointer (some p))) w K1 = ∃ cs e fz, w.heap[p.block]? = some (.cells cs e fz) ∧ p.spot = none ∧ ∃ v, cs[p.off]? = some v ∧ K1 v := ld_ld (by kernel_rfl)
@[simp] theorem same_ld_4 {p : Addr} {v : Value} : (nice Tryz.prog).same (.load 4 (.pointer (some p))) v w = ∃ cs e fz, w.heap[p.block]? = some (.cells cs e fz) ∧ p.spot = none ∧ cs[p.off]? = some v := same_ld (by kernel_rfl)
@[simp] theorem op_st_4 {p : Addr} {v : Value} : (nice Tryz.prog).op (.store 4 (.pointer (some p)) v) w K Kp = ∃ cs e, w.heap[p.block]? = some (.cells cs e (0, 0)) ∧ p.spot = none ∧ p.off < cs.size ∧ v.oneCell' = true ∧ K undef (w.upd p.block (.cells (cs.setIfInBounds p.off v) e (0, 0))) := op_st (by kernel_rfl)
@[simp] theorem op_ta_107_184 {u : TypeId} {v : Value} : (nice Tryz.prog).op (.tassert (.iface u v) 107 184 true) w K Kp = if u = 184 then K (.tuple #[v, .bool true]) w else K (.tuple #[(Value.pointer none), .bool false]) w := op_tassert_ok (by kernel_rfl) (by kernel_rfl) (by kernel_rfl)
@[simp] theorem op_tan_107_184 : (nice Tryz.prog).op (.tassert .nilIface 107 184 true) w K Kp = K (.tuple #[(Value.pointer none), .bool false]) w := op_tassert_ok_nil (by kernel_rfl) (by kernel_rfl) (by kernel_rfl)
@[simp] theorem op_fa_187_1 {p : Addr} : (nice Tryz.prog).op (.fieldAddr 187 (.pointer (some p)) 1) w K Kp = K (.pointer (some (p.add 1))) w := op_fa (k := .one) (by kernel_rfl)
@[simp] theorem pur_fa_187_1 {p : Addr} : (nice Tryz.prog).pur (.fieldAddr 187 (.pointer (some p)) 1) K1 = K1 (.pointer (some (p.add 1))) := pur_fa (k := .one) (by kernel_rfl)
@[simp] theorem op_ld_185 {p : Addr} : (nice Tryz.prog).op (.load 185 (.pointer (some p))) w K Kp = ∃ cs e fz, w.heap[p.block]? = some (.cells cs e fz) ∧ p.spot = none ∧ ∃ v, cs[p.off]? = some v ∧ K v w := op_ld (by kernel_rfl)
@[simp] theorem ld_ld_185 {p : Addr} : (nice Tryz.prog).ld (.load 185 (.pointer (some p))) w K1 = ∃ cs e fz, w.heap[p.block]? = some (.cells cs e fz) ∧ p.spot = none ∧ ∃ v, cs[p.off]? = some v ∧ K1 v := ld_ld (by kernel_rfl)
@[simp] theorem same_ld_185 {p : Addr} {v : Value} : (nice Tryz.prog).same (.load 185 (.pointer (some p))) v w = ∃ cs e fz, w.heap[p.block]? = some (.cells cs e fz) ∧ p.spot = none ∧ cs[p.off]? = some v := same_ld (by kernel_rfl)
@[simp] theorem op_st_185 {p : Addr} {v : Value} : (nice Tryz.prog).op (.store 185 (.pointer (some p)) v) w K Kp = ∃ cs e, w.heap[p.block]? = some (.cells cs e (0, 0)) ∧ p.spot = none ∧ p.off < cs.size ∧ v.oneCell' = true ∧ K undef (w.upd p.block (.cells (cs.setIfInBounds p.off v) e (0, 0))) := op_st (by kernel_rfl)
@[simp] theorem op_ix_185 {p : Addr} {len cap : Nat} {k : IntKind} {j : Int} : (nice Tryz.prog).op (.indexAddr 185 (.slice (some p) len cap) (.int k j)) w K Kp = ((0 ≤ j ∧ j < (len : Int)) ∧ K (.pointer (some (p.add (j.toNat * 1)))) w) := op_ix_slice (e := 107) (by kernel_rfl)
@[simp] theorem pur_ix_185 {p : Addr} {len cap : Nat} {k : IntKind} {j : Int} : (nice Tryz.prog).pur (.indexAddr 185 (.slice (some p) len cap) (.int k j)) K1 = ((0 ≤ j ∧ j < (len : Int)) ∧ K1 (.pointer (some (p.add (j.toNat * 1))))) := pur_ix_slice (e := 107) (by kernel_rfl)
@[simp] theorem op_ta_107_188 {u : TypeId} {v : Value} : (nice Tryz.prog).op (.tassert (.iface u v) 107 188 true) w K Kp = if u = 188 then K (.tuple #[v, .bool true]) w else K (.tuple #[(Value.pointer none), .bool false]) w := op_tassert_ok (by kernel_rfl) (by kernel_rfl) (by kernel_rfl)
@[simp] theorem op_tan_107_188 : (nice Tryz.prog).op (.tassert .nilIface 107 188 true) w K Kp = K (.tuple #[(Value.pointer none), .bool false]) w := op_tassert_ok_nil (by kernel_rfl) (by kernel_rfl) (by kernel_rfl)
@[simp] theorem op_fa_191_1 {p : Addr} : (nice Tryz.prog).op (.fieldAddr 191 (.pointer (some p)) 1) w K Kp = K (.pointer (some (p.add 1))) w := op_fa (k := (.agg 32)) (by kernel_rfl)
@[simp] theorem pur_fa_191_1 {p : Addr} : (nice Tryz.prog).pur (.fieldAddr 191 (.pointer (some p)) 1) K1 = K1 (.pointer (some (p.add 1))) := pur_fa (k := (.agg 32)) (by kernel_rfl)
@[simp] theorem op_ix_189 {p : Addr} {k : IntKind} {j : Int} : (nice Tryz.prog).op (.indexAddr 189 (.pointer (some p)) (.int k j)) w K Kp = ((0 ≤ j ∧ j < 32) ∧ K (.pointer (some (p.add (j.toNat * 1)))) w) := op_ix_arr (by kernel_rfl)
@[simp] theorem pur_ix_189 {p : Addr} {k : IntKind} {j : Int} : (nice Tryz.prog).pur (.indexAddr 189 (.pointer (some p)) (.int k j)) K1 = ((0 ≤ j ∧ j < 32) ∧ K1 (.pointer (some (p.add (j.toNat * 1))))) := pur_ix_arr (by kernel_rfl)
@[simp] theorem op_neq_107_y {xc yc : Bool} {u : TypeId} {v : Value} : (nice Tryz.prog).op (.bin BinOp.neq 107 xc yc (.iface u v) .nilIface) w K Kp = K (.bool true) w := op_eq_iface (by kernel_rfl) rfl
@[simp] theorem op_neq_107_n {xc : Bool} : (nice Tryz.prog).op (.bin BinOp.neq 107 xc true .nilIface .nilIface) w K Kp = K (.bool false) w := op_eq_niface (by kernel_rfl) rfl
@[simp] theorem pur_neq_107_y {xc yc : Bool} {u : TypeId} {v : Value} : (nice Tryz.prog).pur (.bin BinOp.neq 107 xc yc (.iface u v) .nilIface) K1 = K1 (.bool true) := pur_eq_iface (by kernel_rfl) rfl
@[simp] theorem pur_neq_107_n {xc : Bool} : (nice Tryz.prog).pur (.bin BinOp.neq 107 xc true .nilIface .nilIface) K1 = K1 (.bool false) := pur_eq_niface (by kernel_rfl) rfl
@[simp] theorem op_len_157 {a : Option Addr} {n c ty : Nat} : (nice Tryz.prog).op (.blt .len [157] ty [.slice a n c]) w K Kp = K (.int .i64 n) w := op_len_slice (by kernel_rfl)
@[simp] theorem pur_len_157 {a : Option Addr} {n c ty : Nat} : (nice Tryz.prog).pur (.blt .len [157] ty [.slice a n c]) K1 = K1 (.int .i64 n) := pur_len_slice (by kernel_rfl)
@[simp] theorem ld_len_157 {a : Option Addr} {n c ty : Nat} : (nice Tryz.prog).ld (.blt .len [157] ty [.slice a n c]) w K1 = K1 (.int .i64 n) := ld_len_slice (by kernel_rfl)
@[simp] theorem same_len_157 {a : Option Addr} {n c ty : Nat} {u : Value} : (nice Tryz.prog).same (.blt .len [157] ty [.slice a n c]) u w = (.int .i64 n = u) := same_len_slice (by kernel_rfl)
@[simp] theorem op_len_185 {a : Option Addr} {n c ty : Nat} : (nice Tryz.prog).op (.blt .len [185] ty [.slice a n c]) w K Kp = K (.int .i64 n) w := op_len_slice (by kernel_rfl)
@[simp] theorem pur_len_185 {a : Option Addr} {n c ty : Nat} : (nice Tryz.prog).pur (.blt .len [185] ty [.slice a n c]) K1 = K1 (.int .i64 n) := pur_len_slice (by kernel_rfl)
@[simp] theorem ld_len_185 {a : Option Addr} {n c ty : Nat} : (nice Tryz.prog).ld (.blt .len [185] ty [.slice a n c]) w K1 = K1 (.int .i64 n) := ld_len_slice (by kernel_rfl)
@[simp] theorem same_len_185 {a : Option Addr} {n c ty : Nat} {u : Value} : (nice Tryz.prog).same (.blt .len [185] ty [.slice a n c]) u w = (.int .i64 n = u) := same_len_slice (by kernel_rfl)
@[simp] theorem inv_62_45 {v : Value} {args : List Value} : (nice Tryz.prog).call (.inv (.iface 62 v) "pub-bracken/pub/immutable.delete") args w K Kp = Calls Tryz.prog 45 (v :: args).toArray w (ret K Kp) := call_inv (fun _ => by kernel_rfl) (by kernel_rfl)
@[simp] theorem inv_81_62 {v : Value} {args : List Value} : (nice Tryz.prog).call (.inv (.iface 81 v) "pub-bracken/pub/immutable.delete") args w K Kp = Calls Tryz.prog 62 (v :: args).toArray w (ret K Kp) := call_inv (fun _ => by kernel_rfl) (by kernel_rfl)
@[simp] theorem inv_128_85 {v : Value} {args : List Value} : (nice Tryz.prog).call (.inv (.iface 128 v) "pub-bracken/pub/immutable.delete") args w K Kp = Calls Tryz.prog 85 (v :: args).toArray w (ret K Kp) := call_inv (fun _ => by kernel_rfl) (by kernel_rfl)
@[simp] theorem inv_135_90 {v : Value} {args : List Value} : (nice Tryz.prog).call (.inv (.iface 135 v) "pub-bracken/pub/immutable.delete") args w K Kp = Calls Tryz.prog 90 (v :: args).toArray w (ret K Kp) := call_inv (fun _ => by kernel_rfl) (by kernel_rfl)
@[simp] theorem inv_138_95 {v : Value} {args : List Value} : (nice Tryz.prog).call (.inv (.iface 138 v) "pub-bracken/pub/immutable.delete") args w K Kp = Calls Tryz.prog 95 (v :: args).toArray w (ret K Kp) := call_inv (fun _ => by kernel_rfl) (by kernel_rfl)
@[simp] theorem inv_153_100 {v : Value} {args : List Value} : (nice Tryz.prog).call (.inv (.iface 153 v) "pub-bracken/pub/immutable.delete") args w K Kp = Calls Tryz.prog 100 (v :: args).toArray w (ret K Kp) := call_inv (fun _ => by kernel_rfl) (by kernel_rfl)
@[simp] theorem inv_160_105 {v : Value} {args : List Value} : (nice Tryz.prog).call (.inv (.iface 160 v) "pub-bracken/pub/immutable.delete") args w K Kp = Calls Tryz.prog 105 (v :: args).toArray w (ret K Kp) := call_inv (fun _ => by kernel_rfl) (by kernel_rfl)
@[simp] theorem inv_163_110 {v : Value} {args : List Value} : (nice Tryz.prog).call (.inv (.iface 163 v) "pub-bracken/pub/immutable.delete") args w K Kp = Calls Tryz.prog 110 (v :: args).toArray w (ret K Kp) := call_inv (fun _ => by kernel_rfl) (by kernel_rfl)
@[simp] theorem inv_166_115 {v : Value} {args : List Value} : (nice Tryz.prog).call (.inv (.iface 166 v) "pub-bracken/pub/immutable.delete") args w K Kp = Calls Tryz.prog 115 (v :: args).toArray w (ret K Kp) := call_inv (fun _ => by kernel_rfl) (by kernel_rfl)
@[simp] theorem inv_170_120 {v : Value} {args : List Value} : (nice Tryz.prog).call (.inv (.iface 170 v) "pub-bracken/pub/immutable.delete") args w K Kp = Calls Tryz.prog 120 (v :: args).toArray w (ret K Kp) := call_inv (fun _ => by kernel_rfl) (by kernel_rfl)
@[simp] theorem inv_184_127 {v : Value} {args : List Value} : (nice Tryz.prog).call (.inv (.iface 184 v) "pub-bracken/pub/immutable.delete") args w K Kp = Calls Tryz.prog 127 (v :: args).toArray w (ret K Kp) := call_inv (fun _ => by kernel_rfl) (by kernel_rfl)
@[simp] theorem inv_188_131 {v : Value} {args : List Value} : (nice Tryz.prog).call (.inv (.iface 188 v) "pub-bracken/pub/immutable.delete") args w K Kp = Calls Tryz.prog 131 (v :: args).toArray w (ret K Kp) := call_inv (fun _ => by kernel_rfl) (by kernel_rfl)
@[simp] theorem op_ld_109 {p : Addr} : (nice Tryz.prog).op (.load 109 (.pointer (some p))) w K Kp = ∃ cs e fz, w.heap[p.block]? = some (.cells cs e fz) ∧ p.spot = none ∧ p.off + 3 ≤ cs.size ∧ K (.agg (cs.extract p.off (p.off + 3))) w := op_ldn (by kernel_rfl)
@[simp] theorem ld_ld_109 {p : Addr} : (nice Tryz.prog).ld (.load 109 (.pointer (some p))) w K1 = ∃ cs e fz, w.heap[p.block]? = some (.cells cs e fz) ∧ p.spot = none ∧ p.off + 3 ≤ cs.size ∧ K1 (.agg (cs.extract p.off (p.off + 3))) := ld_ldn (by kernel_rfl)
@[simp] theorem same_ld_109 {p : Addr} {v : Value} : (nice Tryz.prog).same (.load 109 (.pointer (some p))) v w = ∃ cs e fz, w.heap[p.block]? = some (.cells cs e fz) ∧ p.spot = none ∧ p.off + 3 ≤ cs.size ∧ .agg (cs.extract p.off (p.off + 3)) = v := same_ldn (by kernel_rfl)
@[simp] theorem op_st_109 {p : Addr} {vs : Array Value} : (nice Tryz.prog).op (.store 109 (.pointer (some p)) (.agg vs)) w K Kp = (vs.size = 3 ∧ (∀ u ∈ vs.toList, u.oneCell' = true) ∧ ∃ cs e, w.heap[p.block]? = some (.cells cs e (0, 0)) ∧ p.spot = none ∧ p.off + 3 ≤ cs.size ∧ K undef (w.upd p.block (.cells (ow cs p.off vs.toList) e (0, 0)))) := op_stn (by kernel_rfl)
@[simp] theorem op_alloc_109 : (nice Tryz.prog).op (.alloc 109) w K Kp = K (.pointer (some ⟨w.heap.size, 0, none⟩)) (w.alloc (.cells #[Value.int IntKind.i64 0, Value.nilIface, Value.nilIface] 109)) := op_alloc (z := (.agg #[(Value.int IntKind.i64 0), (Value.nilIface), (Value.nilIface)])) (by kernel_rfl)
@[simp] theorem call_102 {args : List Value} : (nice Tryz.prog).call (.fn 102) args w K Kp = Calls Tryz.prog 102 args.toArray w (ret K Kp) := call_fn (by kernel_rfl)
@[simp] theorem op_cutlo_157 {len cap b o : Nat} {k : IntKind} {x : Int} : (nice Tryz.prog).op (.slice 157 (.slice (some ⟨b, o, none⟩) len cap) (some (.int k x)) none none) w K Kp = ((0 ≤ x ∧ x ≤ (len : Int) ∧ (len : Int) ≤ (cap : Int)) ∧ K (.slice (some (if cap = x.toNat then ⟨b, o, none⟩ else ⟨b, o + x.toNat * 2, none⟩)) (len - x.toNat) (cap - x.toNat)) w) := op_cut_lo (e := 156) (by kernel_rfl)
@[simp] theorem op_cuthi_157 {len cap b o : Nat} {k : IntKind} {x : Int} : (nice Tryz.prog).op (.slice 157 (.slice (some ⟨b, o, none⟩) len cap) none (some (.int k x)) none) w K Kp = ((0 ≤ x ∧ x ≤ (cap : Int)) ∧ K (.slice (some ⟨b, o, none⟩) x.toNat cap) w) := op_cut_hi (s := 2) (e := 156) (by kernel_rfl)
@[simp] theorem pur_cutlo_157 {len cap b o : Nat} {k : IntKind} {x : Int} : (nice Tryz.prog).pur (.slice 157 (.slice (some ⟨b, o, none⟩) len cap) (some (.int k x)) none none) K1 = ((0 ≤ x ∧ x ≤ (len : Int) ∧ (len : Int) ≤ (cap : Int)) ∧ K1 (.slice (some (if cap = x.toNat then ⟨b, o, none⟩ else ⟨b, o + x.toNat * 2, none⟩)) (len - x.toNat) (cap - x.toNat))) := pur_cut_lo (e := 156) (by kernel_rfl)
@[simp] theorem pur_cuthi_157 {len cap b o : Nat} {k : IntKind} {x : Int} : (nice Tryz.prog).pur (.slice 157 (.slice (some ⟨b, o, none⟩) len cap) none (some (.int k x)) none) K1 = ((0 ≤ x ∧ x ≤ (cap : Int)) ∧ K1 (.slice (some ⟨b, o, none⟩) x.toNat cap)) := pur_cut_hi (s := 2) (e := 156) (by kernel_rfl)
theorem build_156_  : buildV Tryz.prog 156 [] = some (.agg (#[Value.int IntKind.i64 0, Value.int IntKind.i64 0])) := by
  have e : buildV Tryz.prog 156 [] = (Instr.fill ((#[(0, 1), (1, 1)] : Array (Nat × Nat))[·]?) (#[Value.int IntKind.i64 0, Value.int IntKind.i64 0]) []).map .agg := by kernel_rfl
  rw [e]; simp [Instr.fill]
@[simp] theorem op_build_156_  : (nice Tryz.prog).op (.build 156 []) w K Kp = K (.agg (#[Value.int IntKind.i64 0, Value.int IntKind.i64 0])) w := op_build (build_156_)
@[simp] theorem pur_build_156_  : (nice Tryz.prog).pur (.build 156 []) K1 = K1 (.agg (#[Value.int IntKind.i64 0, Value.int IntKind.i64 0])) := pur_build (build_156_)
@[simp] theorem op_ld_156 {p : Addr} : (nice Tryz.prog).op (.load 156 (.pointer (some p))) w K Kp = ∃ cs e fz, w.heap[p.block]? = some (.cells cs e fz) ∧ p.spot = none ∧ p.off + 2 ≤ cs.size ∧ K (.agg (cs.extract p.off (p.off + 2))) w := op_ldn (by kernel_rfl)
@[simp] theorem ld_ld_156 {p : Addr} : (nice Tryz.prog).ld (.load 156 (.pointer (some p))) w K1 = ∃ cs e fz, w.heap[p.block]? = some (.cells cs e fz) ∧ p.spot = none ∧ p.off + 2 ≤ cs.size ∧ K1 (.agg (cs.extract p.off (p.off + 2))) := ld_ldn (by kernel_rfl)
@[simp] theorem same_ld_156 {p : Addr} {v : Value} : (nice Tryz.prog).same (.load 156 (.pointer (some p))) v w = ∃ cs e fz, w.heap[p.block]? = some (.cells cs e fz) ∧ p.spot = none ∧ p.off + 2 ≤ cs.size ∧ .agg (cs.extract p.off (p.off + 2)) = v := same_ldn (by kernel_rfl)
@[simp] theorem op_st_156 {p : Addr} {vs : Array Value} : (nice Tryz.prog).op (.store 156 (.pointer (some p)) (.agg vs)) w K Kp = (vs.size = 2 ∧ (∀ u ∈ vs.toList, u.oneCell' = true) ∧ ∃ cs e, w.heap[p.block]? = some (.cells cs e (0, 0)) ∧ p.spot = none ∧ p.off + 2 ≤ cs.size ∧ K undef (w.upd p.block (.cells (ow cs p.off vs.toList) e (0, 0)))) := op_stn (by kernel_rfl)
@[simp] theorem pur_meth_98_83 {v : Value} : (nice Tryz.prog).pur (.nilCheck (.func (.method "Equal") #[.iface 98 v] #[])) K1 = K1 (.func (.method "Equal") #[.iface 98 v] #[]) := pur_nil_meth (fun _ => by kernel_rfl)
@[simp] theorem pur_meth_178_123 {p : Addr} : (nice Tryz.prog).pur (.nilCheck (.func (.method "Equal") #[.iface 178 (.pointer (some p))] #[])) K1 = K1 (.func (.method "Equal") #[.iface 178 (.pointer (some p))] #[]) := pur_nil_meth (fun _ => by kernel_rfl)
@[simp] theorem inv_98_83 {v : Value} {args : List Value} : (nice Tryz.prog).call (.inv (.iface 98 v) "Equal") args w K Kp = Calls Tryz.prog 83 (v :: args).toArray w (ret K Kp) := call_inv (fun _ => by kernel_rfl) (by kernel_rfl)
@[simp] theorem inv_178_123 {v : Value} {args : List Value} : (nice Tryz.prog).call (.inv (.iface 178 v) "Equal") args w K Kp = Calls Tryz.prog 123 (v :: args).toArray w (ret K Kp) := call_inv (fun _ => by kernel_rfl) (by kernel_rfl)
@[simp] theorem call_104 {args : List Value} : (nice Tryz.prog).call (.fn 104) args w K Kp = Calls Tryz.prog 104 args.toArray w (ret K Kp) := call_fn (by kernel_rfl)
@[simp] theorem op_mki_160 {v : Value} : (nice Tryz.prog).op (.mkIface 160 v) w K Kp = K (.iface 160 v) w := op_mkIface (by kernel_rfl) (by kernel_rfl)
@[simp] theorem pur_mki_160 {v : Value} : (nice Tryz.prog).pur (.mkIface 160 v) K1 = K1 (.iface 160 v) := pur_mkIface (by kernel_rfl) (by kernel_rfl)
@[simp] theorem op_alloc_156 : (nice Tryz.prog).op (.alloc 156) w K Kp = K (.pointer (some ⟨w.heap.size, 0, none⟩)) (w.alloc (.cells #[Value.int IntKind.i64 0, Value.int IntKind.i64 0] 156)) := op_alloc (z := (.agg #[(Value.int IntKind.i64 0), (Value.int IntKind.i64 0)])) (by kernel_rfl)
@[simp] theorem pur_meth_62_44 {p : Addr} : (nice Tryz.prog).pur (.nilCheck (.func (.method "pub-bracken/pub/immutable.set") #[.iface 62 (.pointer (some p))] #[])) K1 = K1 (.func (.method "pub-bracken/pub/immutable.set") #[.iface 62 (.pointer (some p))] #[]) := pur_nil_meth (fun _ => by kernel_rfl)
@[simp] theorem pur_meth_81_61 {p : Addr} : (nice Tryz.prog).pur (.nilCheck (.func (.method "pub-bracken/pub/immutable.set") #[.iface 81 (.pointer (some p))] #[])) K1 = K1 (.func (.method "pub-bracken/pub/immutable.set") #[.iface 81 (.pointer (some p))] #[]) := pur_nil_meth (fun _ => by kernel_rfl)
@[simp] theorem pur_meth_128_88 {p : Addr} : (nice Tryz.prog).pur (.nilCheck (.func (.method "pub-bracken/pub/immutable.set") #[.iface 128 (.pointer (some p))] #[])) K1 = K1 (.func (.method "pub-bracken/pub/immutable.set") #[.iface 128 (.pointer (some p))] #[]) := pur_nil_meth (fun _ => by kernel_rfl)
@[simp] theorem pur_meth_135_93 {p : Addr} : (nice Tryz.prog).pur (.nilCheck (.func (.method "pub-bracken/pub/immutable.set") #[.iface 135 (.pointer (some p))] #[])) K1 = K1 (.func (.method "pub-bracken/pub/immutable.set") #[.iface 135 (.pointer (some p))] #[]) := pur_nil_meth (fun _ => by kernel_rfl)
@[simp] theorem pur_meth_138_98 {p : Addr} : (nice Tryz.prog).pur (.nilCheck (.func (.method "pub-bracken/pub/immutable.set") #[.iface 138 (.pointer (some p))] #[])) K1 = K1 (.func (.method "pub-bracken/pub/immutable.set") #[.iface 138 (.pointer (some p))] #[]) := pur_nil_meth (fun _ => by kernel_rfl)
@[simp] theorem pur_meth_153_103 {p : Addr} : (nice Tryz.prog).pur (.nilCheck (.func (.method "pub-bracken/pub/immutable.set") #[.iface 153 (.pointer (some p))] #[])) K1 = K1 (.func (.method "pub-bracken/pub/immutable.set") #[.iface 153 (.pointer (some p))] #[]) := pur_nil_meth (fun _ => by kernel_rfl)
@[simp] theorem pur_meth_160_108 {p : Addr} : (nice Tryz.prog).pur (.nilCheck (.func (.method "pub-bracken/pub/immutable.set") #[.iface 160 (.pointer (some p))] #[])) K1 = K1 (.func (.method "pub-bracken/pub/immutable.set") #[.iface 160 (.pointer (some p))] #[]) := pur_nil_meth (fun _ => by kernel_rfl)
@[simp] theorem pur_meth_163_114 {p : Addr} : (nice Tryz.prog).pur (.nilCheck (.func (.method "pub-bracken/pub/immutable.set") #[.iface 163 (.pointer (some p))] #[])) K1 = K1 (.func (.method "pub-bracken/pub/immutable.set") #[.iface 163 (.pointer (some p))] #[]) := pur_nil_meth (fun _ => by kernel_rfl)
@[simp] theorem pur_meth_166_117 {p : Addr} : (nice Tryz.prog).pur (.nilCheck (.func (.method "pub-bracken/pub/immutable.set") #[.iface 166 (.pointer (some p))] #[])) K1 = K1 (.func (.method "pub-bracken/pub/immutable.set") #[.iface 166 (.pointer (some p))] #[]) := pur_nil_meth (fun _ => by kernel_rfl)
@[simp] theorem pur_meth_170_122 {p : Addr} : (nice Tryz.prog).pur (.nilCheck (.func (.method "pub-bracken/pub/immutable.set") #[.iface 170 (.pointer (some p))] #[])) K1 = K1 (.func (.method "pub-bracken/pub/immutable.set") #[.iface 170 (.pointer (some p))] #[]) := pur_nil_meth (fun _ => by kernel_rfl)
@[simp] theorem pur_meth_184_129 {p : Addr} : (nice Tryz.prog).pur (.nilCheck (.func (.method "pub-bracken/pub/immutable.set") #[.iface 184 (.pointer (some p))] #[])) K1 = K1 (.func (.method "pub-bracken/pub/immutable.set") #[.iface 184 (.pointer (some p))] #[]) := pur_nil_meth (fun _ => by kernel_rfl)
@[simp] theorem pur_meth_188_133 {p : Addr} : (nice Tryz.prog).pur (.nilCheck (.func (.method "pub-bracken/pub/immutable.set") #[.iface 188 (.pointer (some p))] #[])) K1 = K1 (.func (.method "pub-bracken/pub/immutable.set") #[.iface 188 (.pointer (some p))] #[]) := pur_nil_meth (fun _ => by kernel_rfl)
@[simp] theorem op_alloc_159 : (nice Tryz.prog).op (.alloc 159) w K Kp = K (.pointer (some ⟨w.heap.size, 0, none⟩)) (w.alloc (.cells #[Value.slice none 0 0] 159)) := op_alloc (z := (.agg #[(Value.slice none 0 0)])) (by kernel_rfl)
theorem build_162_0_1_2 {x0 : Value} {x1 : Value} {x2 : Value} (h0 : x0.oneCell' = true) (h1 : x1.oneCell' = true) (h2 : x2.oneCell' = true) : buildV Tryz.prog 162 [(0, x0), (1, x1), (2, x2)] = some (.agg (#[x0, x1, x2])) := by
  have e : buildV Tryz.prog 162 [(0, x0), (1, x1), (2, x2)] = (Instr.fill ((#[(0, 1), (1, 1), (2, 1)] : Array (Nat × Nat))[·]?) (#[Value.int IntKind.u32 0, Value.int IntKind.i64 0, Value.int IntKind.i64 0]) [(0, x0), (1, x1), (2, x2)]).map .agg := by kernel_rfl
  rw [e]; simp [Instr.fill, cells_of_one h0, cells_of_one h1, cells_of_one h2]
@[simp] theorem op_build_162_0_1_2 {x0 : Value} {x1 : Value} {x2 : Value} (h0 : x0.oneCell' = true) (h1 : x1.oneCell' = true) (h2 : x2.oneCell' = true) : (nice Tryz.prog).op (.build 162 [(0, x0), (1, x1), (2, x2)]) w K Kp = K (.agg (#[x0, x1, x2])) w := op_build (build_162_0_1_2 h0 h1 h2)
@[simp] theorem pur_build_162_0_1_2 {x0 : Value} {x1 : Value} {x2 : Value} (h0 : x0.oneCell' = true) (h1 : x1.oneCell' = true) (h2 : x2.oneCell' = true) : (nice Tryz.prog).pur (.build 162 [(0, x0), (1, x1), (2, x2)]) K1 = K1 (.agg (#[x0, x1, x2])) := pur_build (build_162_0_1_2 h0 h1 h2)
@[simp] theorem op_fa_162_0 {p : Addr} : (nice Tryz.prog).op (.fieldAddr 162 (.pointer (some p)) 0) w K Kp = K (.pointer (some (p.add 0))) w := op_fa (k := .one) (by kernel_rfl)
@[simp] theorem pur_fa_162_0 {p : Addr} : (nice Tryz.prog).pur (.fieldAddr 162 (.pointer (some p)) 0) K1 = K1 (.pointer (some (p.add 0))) := pur_fa (k := .one) (by kernel_rfl)
@[simp] theorem op_ld_22 {p : Addr} : (nice Tryz.prog).op (.load 22 (.pointer (some p))) w K Kp = ∃ cs e fz, w.heap[p.block]? = some (.cells cs e fz) ∧ p.spot = none ∧ ∃ v, cs[p.off]? = some v ∧ K v w := op_ld (by kernel_rfl)
@[simp] theorem ld_ld_22 {p : Addr} : (nice Tryz.prog).ld (.load 22 (.pointer (some p))) w K1 = ∃ cs e fz, w.heap[p.block]? = some (.cells cs e fz) ∧ p.spot = none ∧ ∃ v, cs[p.off]? = some v ∧ K1 v := ld_ld (by kernel_rfl)
@[simp] theorem same_ld_22 {p : Addr} {v : Value} : (nice Tryz.prog).same (.load 22 (.pointer (some p))) v w = ∃ cs e fz, w.heap[p.block]? = some (.cells cs e fz) ∧ p.spot = none ∧ cs[p.off]? = some v := same_ld (by kernel_rfl)
@[simp] theorem op_st_22 {p : Addr} {v : Value} : (nice Tryz.prog).op (.store 22 (.pointer (some p)) v) w K Kp = ∃ cs e, w.heap[p.block]? = some (.cells cs e (0, 0)) ∧ p.spot = none ∧ p.off < cs.size ∧ v.oneCell' = true ∧ K undef (w.upd p.block (.cells (cs.setIfInBounds p.off v) e (0, 0))) := op_st (by kernel_rfl)
@[simp] theorem call_109 {args : List Value} : (nice Tryz.prog).call (.fn 109) args w K Kp = Calls Tryz.prog 109 args.toArray w (ret K Kp) := call_fn (by kernel_rfl)
theorem lit_157_2 {y0_0 y0_1 y1_0 y1_1 : Value} : sliceLit Tryz.prog 157 2 [(0, .agg #[y0_0, y0_1]), (1, .agg #[y1_0, y1_1])] = some (156, #[y0_0, y0_1, y1_0, y1_1]) := by
  have e : sliceLit Tryz.prog 157 2 [(0, .agg #[y0_0, y0_1]), (1, .agg #[y1_0, y1_1])] = (Instr.fill (fun i => some (i * 2, 2)) (#[Value.int IntKind.i64 0, Value.int IntKind.i64 0, Value.int IntKind.i64 0, Value.int IntKind.i64 0]) [(0, .agg #[y0_0, y0_1]), (1, .agg #[y1_0, y1_1])]).map fun cs => (156, cs) := by kernel_rfl
  rw [e]; simp [Instr.fill, Value.cells]
@[simp] theorem op_lit_157_2 {y0_0 y0_1 y1_0 y1_1 : Value} : (nice Tryz.prog).op (.buildSlice 157 2 [(0, .agg #[y0_0, y0_1]), (1, .agg #[y1_0, y1_1])]) w K Kp = K (.slice (some ⟨w.heap.size, 0, none⟩) 2 2) (w.alloc (.cells #[y0_0, y0_1, y1_0, y1_1] 156)) := op_lit (lit_157_2)
theorem build_165_0_1 {x0 : Value} {x1 : Value} (h0 : x0.oneCell' = true) (h1 : x1.oneCell' = true) : buildV Tryz.prog 165 [(0, x0), (1, x1)] = some (.agg (#[x0, x1])) := by
  have e : buildV Tryz.prog 165 [(0, x0), (1, x1)] = (Instr.fill ((#[(0, 1), (1, 1)] : Array (Nat × Nat))[·]?) (#[Value.int IntKind.u32 0, Value.slice none 0 0]) [(0, x0), (1, x1)]).map .agg := by kernel_rfl
  rw [e]; simp [Instr.fill, cells_of_one h0, cells_of_one h1]
@[simp] theorem op_build_165_0_1 {x0 : Value} {x1 : Value} (h0 : x0.oneCell' = true) (h1 : x1.oneCell' = true) : (nice Tryz.prog).op (.build 165 [(0, x0), (1, x1)]) w K Kp = K (.agg (#[x0, x1])) w := op_build (build_165_0_1 h0 h1)
@[simp] theorem pur_build_165_0_1 {x0 : Value} {x1 : Value} (h0 : x0.oneCell' = true) (h1 : x1.oneCell' = true) : (nice Tryz.prog).pur (.build 165 [(0, x0), (1, x1)]) K1 = K1 (.agg (#[x0, x1])) := pur_build (build_165_0_1 h0 h1)
@[simp] theorem op_mki_163 {v : Value} : (nice Tryz.prog).op (.mkIface 163 v) w K Kp = K (.iface 163 v) w := op_mkIface (by kernel_rfl) (by kernel_rfl)
@[simp] theorem pur_mki_163 {v : Value} : (nice Tryz.prog).pur (.mkIface 163 v) K1 = K1 (.iface 163 v) := pur_mkIface (by kernel_rfl) (by kernel_rfl)
@[simp] theorem inv_135_92 {v : Value} {args : List Value} : (nice Tryz.prog).call (.inv (.iface 135 v) "pub-bracken/pub/immutable.keyHashValue") args w K Kp = Calls Tryz.prog 92 (v :: args).toArray w (ret K Kp) := call_inv (fun _ => by kernel_rfl) (by kernel_rfl)
@[simp] theorem inv_138_97 {v : Value} {args : List Value} : (nice Tryz.prog).call (.inv (.iface 138 v) "pub-bracken/pub/immutable.keyHashValue") args w K Kp = Calls Tryz.prog 97 (v :: args).toArray w (ret K Kp) := call_inv (fun _ => by kernel_rfl) (by kernel_rfl)
@[simp] theorem inv_160_107 {v : Value} {args : List Value} : (nice Tryz.prog).call (.inv (.iface 160 v) "pub-bracken/pub/immutable.keyHashValue") args w K Kp = Calls Tryz.prog 107 (v :: args).toArray w (ret K Kp) := call_inv (fun _ => by kernel_rfl) (by kernel_rfl)
@[simp] theorem inv_163_113 {v : Value} {args : List Value} : (nice Tryz.prog).call (.inv (.iface 163 v) "pub-bracken/pub/immutable.keyHashValue") args w K Kp = Calls Tryz.prog 113 (v :: args).toArray w (ret K Kp) := call_inv (fun _ => by kernel_rfl) (by kernel_rfl)
theorem build_187_0 {x0 : Value} (h0 : x0.oneCell' = true) : buildV Tryz.prog 187 [(0, x0)] = some (.agg (#[x0, Value.slice none 0 0])) := by
  have e : buildV Tryz.prog 187 [(0, x0)] = (Instr.fill ((#[(0, 1), (1, 1)] : Array (Nat × Nat))[·]?) (#[Value.int IntKind.u32 0, Value.slice none 0 0]) [(0, x0)]).map .agg := by kernel_rfl
  rw [e]; simp [Instr.fill, cells_of_one h0]
@[simp] theorem op_build_187_0 {x0 : Value} (h0 : x0.oneCell' = true) : (nice Tryz.prog).op (.build 187 [(0, x0)]) w K Kp = K (.agg (#[x0, Value.slice none 0 0])) w := op_build (build_187_0 h0)
@[simp] theorem pur_build_187_0 {x0 : Value} (h0 : x0.oneCell' = true) : (nice Tryz.prog).pur (.build 187 [(0, x0)]) K1 = K1 (.agg (#[x0, Value.slice none 0 0])) := pur_build (build_187_0 h0)
theorem lit_185_1 {x0 : Value} (h0 : x0.oneCell' = true) : sliceLit Tryz.prog 185 1 [(0, x0)] = some (107, #[x0]) := by
  have e : sliceLit Tryz.prog 185 1 [(0, x0)] = (Instr.fill (fun i => some (i * 1, 1)) (#[Value.nilIface]) [(0, x0)]).map fun cs => (107, cs) := by kernel_rfl
  rw [e]; simp [Instr.fill, cells_of_one h0]
@[simp] theorem op_lit_185_1 {x0 : Value} (h0 : x0.oneCell' = true) : (nice Tryz.prog).op (.buildSlice 185 1 [(0, x0)]) w K Kp = K (.slice (some ⟨w.heap.size, 0, none⟩) 1 1) (w.alloc (.cells #[x0] 107)) := op_lit (lit_185_1 h0)
theorem lit_185_2 {x0 x1 : Value} (h0 : x0.oneCell' = true) (h1 : x1.oneCell' = true) : sliceLit Tryz.prog 185 2 [(0, x0), (1, x1)] = some (107, #[x0, x1]) := by
  have e : sliceLit Tryz.prog 185 2 [(0, x0), (1, x1)] = (Instr.fill (fun i => some (i * 1, 1)) (#[Value.nilIface, Value.nilIface]) [(0, x0), (1, x1)]).map fun cs => (107, cs) := by kernel_rfl
  rw [e]; simp [Instr.fill, cells_of_one h0, cells_of_one h1]
@[simp] theorem op_lit_185_2 {x0 x1 : Value} (h0 : x0.oneCell' = true) (h1 : x1.oneCell' = true) : (nice Tryz.prog).op (.buildSlice 185 2 [(0, x0), (1, x1)]) w K Kp = K (.slice (some ⟨w.heap.size, 0, none⟩) 2 2) (w.alloc (.cells #[x0, x1] 107)) := op_lit (lit_185_2 h0 h1)
@[simp] theorem op_mki_184 {v : Value} : (nice Tryz.prog).op (.mkIface 184 v) w K Kp = K (.iface 184 v) w := op_mkIface (by kernel_rfl) (by kernel_rfl)
@[simp] theorem pur_mki_184 {v : Value} : (nice Tryz.prog).pur (.mkIface 184 v) K1 = K1 (.iface 184 v) := pur_mkIface (by kernel_rfl) (by kernel_rfl)
@[simp] theorem call_112 {args : List Value} : (nice Tryz.prog).call (.fn 112) args w K Kp = Calls Tryz.prog 112 args.toArray w (ret K Kp) := call_fn (by kernel_rfl)
@[simp] theorem op_fa_165_0 {p : Addr} : (nice Tryz.prog).op (.fieldAddr 165 (.pointer (some p)) 0) w K Kp = K (.pointer (some (p.add 0))) w := op_fa (k := .one) (by kernel_rfl)
@[simp] theorem pur_fa_165_0 {p : Addr} : (nice Tryz.prog).pur (.fieldAddr 165 (.pointer (some p)) 0) K1 = K1 (.pointer (some (p.add 0))) := pur_fa (k := .one) (by kernel_rfl)
theorem build_165_0 {x0 : Value} (h0 : x0.oneCell' = true) : buildV Tryz.prog 165 [(0, x0)] = some (.agg (#[x0, Value.slice none 0 0])) := by
  have e : buildV Tryz.prog 165 [(0, x0)] = (Instr.fill ((#[(0, 1), (1, 1)] : Array (Nat × Nat))[·]?) (#[Value.int IntKind.u32 0, Value.slice none 0 0]) [(0, x0)]).map .agg := by kernel_rfl
  rw [e]; simp [Instr.fill, cells_of_one h0]
@[simp] theorem op_build_165_0 {x0 : Value} (h0 : x0.oneCell' = true) : (nice Tryz.prog).op (.build 165 [(0, x0)]) w K Kp = K (.agg (#[x0, Value.slice none 0 0])) w := op_build (build_165_0 h0)
@[simp] theorem pur_build_165_0 {x0 : Value} (h0 : x0.oneCell' = true) : (nice Tryz.prog).pur (.build 165 [(0, x0)]) K1 = K1 (.agg (#[x0, Value.slice none 0 0])) := pur_build (build_165_0 h0)
@[simp] theorem op_fa_187_0 {p : Addr} : (nice Tryz.prog).op (.fieldAddr 187 (.pointer (some p)) 0) w K Kp = K (.pointer (some (p.add 0))) w := op_fa (k := .one) (by kernel_rfl)
@[simp] theorem pur_fa_187_0 {p : Addr} : (nice Tryz.prog).pur (.fieldAddr 187 (.pointer (some p)) 0) K1 = K1 (.pointer (some (p.add 0))) := pur_fa (k := .one) (by kernel_rfl)
@[simp] theorem call_118 {args : List Value} : (nice Tryz.prog).call (.fn 118) args w K Kp = Calls Tryz.prog 118 args.toArray w (ret K Kp) := call_fn (by kernel_rfl)
@[simp] theorem op_cutlo_185 {len cap b o : Nat} {k : IntKind} {x : Int} : (nice Tryz.prog).op (.slice 185 (.slice (some ⟨b, o, none⟩) len cap) (some (.int k x)) none none) w K Kp = ((0 ≤ x ∧ x ≤ (len : Int) ∧ (len : Int) ≤ (cap : Int)) ∧ K (.slice (some (if cap = x.toNat then ⟨b, o, none⟩ else ⟨b, o + x.toNat * 1, none⟩)) (len - x.toNat) (cap - x.toNat)) w) := op_cut_lo (e := 107) (by kernel_rfl)
@[simp] theorem op_cuthi_185 {len cap b o : Nat} {k : IntKind} {x : Int} : (nice Tryz.prog).op (.slice 185 (.slice (some ⟨b, o, none⟩) len cap) none (some (.int k x)) none) w K Kp = ((0 ≤ x ∧ x ≤ (cap : Int)) ∧ K (.slice (some ⟨b, o, none⟩) x.toNat cap) w) := op_cut_hi (s := 1) (e := 107) (by kernel_rfl)
@[simp] theorem pur_cutlo_185 {len cap b o : Nat} {k : IntKind} {x : Int} : (nice Tryz.prog).pur (.slice 185 (.slice (some ⟨b, o, none⟩) len cap) (some (.int k x)) none none) K1 = ((0 ≤ x ∧ x ≤ (len : Int) ∧ (len : Int) ≤ (cap : Int)) ∧ K1 (.slice (some (if cap = x.toNat then ⟨b, o, none⟩ else ⟨b, o + x.toNat * 1, none⟩)) (len - x.toNat) (cap - x.toNat))) := pur_cut_lo (e := 107) (by kernel_rfl)
@[simp] theorem pur_cuthi_185 {len cap b o : Nat} {k : IntKind} {x : Int} : (nice Tryz.prog).pur (.slice 185 (.slice (some ⟨b, o, none⟩) len cap) none (some (.int k x)) none) K1 = ((0 ≤ x ∧ x ≤ (cap : Int)) ∧ K1 (.slice (some ⟨b, o, none⟩) x.toNat cap)) := pur_cut_hi (s := 1) (e := 107) (by kernel_rfl)
theorem build_187_0_1 {x0 : Value} {x1 : Value} (h0 : x0.oneCell' = true) (h1 : x1.oneCell' = true) : buildV Tryz.prog 187 [(0, x0), (1, x1)] = some (.agg (#[x0, x1])) := by
  have e : buildV Tryz.prog 187 [(0, x0), (1, x1)] = (Instr.fill ((#[(0, 1), (1, 1)] : Array (Nat × Nat))[·]?) (#[Value.int IntKind.u32 0, Value.slice none 0 0]) [(0, x0), (1, x1)]).map .agg := by kernel_rfl
  rw [e]; simp [Instr.fill, cells_of_one h0, cells_of_one h1]
@[simp] theorem op_build_187_0_1 {x0 : Value} {x1 : Value} (h0 : x0.oneCell' = true) (h1 : x1.oneCell' = true) : (nice Tryz.prog).op (.build 187 [(0, x0), (1, x1)]) w K Kp = K (.agg (#[x0, x1])) w := op_build (build_187_0_1 h0 h1)
@[simp] theorem pur_build_187_0_1 {x0 : Value} {x1 : Value} (h0 : x0.oneCell' = true) (h1 : x1.oneCell' = true) : (nice Tryz.prog).pur (.build 187 [(0, x0), (1, x1)]) K1 = K1 (.agg (#[x0, x1])) := pur_build (build_187_0_1 h0 h1)
@[simp] theorem inv_128_86 {v : Value} {args : List Value} : (nice Tryz.prog).call (.inv (.iface 128 v) "pub-bracken/pub/immutable.get") args w K Kp = Calls Tryz.prog 86 (v :: args).toArray w (ret K Kp) := call_inv (fun _ => by kernel_rfl) (by kernel_rfl)
@[simp] theorem inv_135_91 {v : Value} {args : List Value} : (nice Tryz.prog).call (.inv (.iface 135 v) "pub-bracken/pub/immutable.get") args w K Kp = Calls Tryz.prog 91 (v :: args).toArray w (ret K Kp) := call_inv (fun _ => by kernel_rfl) (by kernel_rfl)
@[simp] theorem inv_138_96 {v : Value} {args : List Value} : (nice Tryz.prog).call (.inv (.iface 138 v) "pub-bracken/pub/immutable.get") args w K Kp = Calls Tryz.prog 96 (v :: args).toArray w (ret K Kp) := call_inv (fun _ => by kernel_rfl) (by kernel_rfl)
@[simp] theorem inv_153_101 {v : Value} {args : List Value} : (nice Tryz.prog).call (.inv (.iface 153 v) "pub-bracken/pub/immutable.get") args w K Kp = Calls Tryz.prog 101 (v :: args).toArray w (ret K Kp) := call_inv (fun _ => by kernel_rfl) (by kernel_rfl)
@[simp] theorem inv_160_106 {v : Value} {args : List Value} : (nice Tryz.prog).call (.inv (.iface 160 v) "pub-bracken/pub/immutable.get") args w K Kp = Calls Tryz.prog 106 (v :: args).toArray w (ret K Kp) := call_inv (fun _ => by kernel_rfl) (by kernel_rfl)
@[simp] theorem inv_163_111 {v : Value} {args : List Value} : (nice Tryz.prog).call (.inv (.iface 163 v) "pub-bracken/pub/immutable.get") args w K Kp = Calls Tryz.prog 111 (v :: args).toArray w (ret K Kp) := call_inv (fun _ => by kernel_rfl) (by kernel_rfl)
@[simp] theorem inv_166_116 {v : Value} {args : List Value} : (nice Tryz.prog).call (.inv (.iface 166 v) "pub-bracken/pub/immutable.get") args w K Kp = Calls Tryz.prog 116 (v :: args).toArray w (ret K Kp) := call_inv (fun _ => by kernel_rfl) (by kernel_rfl)
@[simp] theorem inv_170_121 {v : Value} {args : List Value} : (nice Tryz.prog).call (.inv (.iface 170 v) "pub-bracken/pub/immutable.get") args w K Kp = Calls Tryz.prog 121 (v :: args).toArray w (ret K Kp) := call_inv (fun _ => by kernel_rfl) (by kernel_rfl)
@[simp] theorem inv_184_128 {v : Value} {args : List Value} : (nice Tryz.prog).call (.inv (.iface 184 v) "pub-bracken/pub/immutable.get") args w K Kp = Calls Tryz.prog 128 (v :: args).toArray w (ret K Kp) := call_inv (fun _ => by kernel_rfl) (by kernel_rfl)
@[simp] theorem inv_188_132 {v : Value} {args : List Value} : (nice Tryz.prog).call (.inv (.iface 188 v) "pub-bracken/pub/immutable.get") args w K Kp = Calls Tryz.prog 132 (v :: args).toArray w (ret K Kp) := call_inv (fun _ => by kernel_rfl) (by kernel_rfl)
def zero_191 : Array Value := #[Value.int IntKind.u64 0, Value.nilIface, Value.nilIface, Value.nilIface, Value.nilIface, Value.nilIface, Value.nilIface, Value.nilIface, Value.nilIface, Value.nilIface, Value.nilIface, Value.nilIface, Value.nilIface, Value.nilIface, Value.nilIface, Value.nilIface, Value.nilIface, Value.nilIface, Value.nilIface, Value.nilIface, Value.nilIface, Value.nilIface, Value.nilIface, Value.nilIface, Value.nilIface, Value.nilIface, Value.nilIface, Value.nilIface, Value.nilIface, Value.nilIface, Value.nilIface, Value.nilIface, Value.nilIface]
@[simp] theorem op_alloc_191 : (nice Tryz.prog).op (.alloc 191) w K Kp = K (.pointer (some ⟨w.heap.size, 0, none⟩)) (w.alloc (.cells zero_191 191)) := op_alloc (z := .agg zero_191) (by kernel_rfl)
@[simp] theorem op_fa_191_0 {p : Addr} : (nice Tryz.prog).op (.fieldAddr 191 (.pointer (some p)) 0) w K Kp = K (.pointer (some (p.add 0))) w := op_fa (k := .one) (by kernel_rfl)
@[simp] theorem pur_fa_191_0 {p : Addr} : (nice Tryz.prog).pur (.fieldAddr 191 (.pointer (some p)) 0) K1 = K1 (.pointer (some (p.add 0))) := pur_fa (k := .one) (by kernel_rfl)
@[simp] theorem op_ld_144 {p : Addr} : (nice Tryz.prog).op (.load 144 (.pointer (some p))) w K Kp = ∃ cs e fz, w.heap[p.block]? = some (.cells cs e fz) ∧ p.spot = none ∧ ∃ v, cs[p.off]? = some v ∧ K v w := op_ld (by kernel_rfl)
@[simp] theorem ld_ld_144 {p : Addr} : (nice Tryz.prog).ld (.load 144 (.pointer (some p))) w K1 = ∃ cs e fz, w.heap[p.block]? = some (.cells cs e fz) ∧ p.spot = none ∧ ∃ v, cs[p.off]? = some v ∧ K1 v := ld_ld (by kernel_rfl)
@[simp] theorem same_ld_144 {p : Addr} {v : Value} : (nice Tryz.prog).same (.load 144 (.pointer (some p))) v w = ∃ cs e fz, w.heap[p.block]? = some (.cells cs e fz) ∧ p.spot = none ∧ cs[p.off]? = some v := same_ld (by kernel_rfl)
@[simp] theorem op_st_144 {p : Addr} {v : Value} : (nice Tryz.prog).op (.store 144 (.pointer (some p)) v) w K Kp = ∃ cs e, w.heap[p.block]? = some (.cells cs e (0, 0)) ∧ p.spot = none ∧ p.off < cs.size ∧ v.oneCell' = true ∧ K undef (w.upd p.block (.cells (cs.setIfInBounds p.off v) e (0, 0))) := op_st (by kernel_rfl)
@[simp] theorem op_mki_188 {v : Value} : (nice Tryz.prog).op (.mkIface 188 v) w K Kp = K (.iface 188 v) w := op_mkIface (by kernel_rfl) (by kernel_rfl)
@[simp] theorem pur_mki_188 {v : Value} : (nice Tryz.prog).pur (.mkIface 188 v) K1 = K1 (.iface 188 v) := pur_mkIface (by kernel_rfl) (by kernel_rfl)
@[simp] theorem op_ld_191 {p : Addr} : (nice Tryz.prog).op (.load 191 (.pointer (some p))) w K Kp = ∃ cs e fz, w.heap[p.block]? = some (.cells cs e fz) ∧ p.spot = none ∧ p.off + 33 ≤ cs.size ∧ K (.agg (cs.extract p.off (p.off + 33))) w := op_ldn (by kernel_rfl)
@[simp] theorem ld_ld_191 {p : Addr} : (nice Tryz.prog).ld (.load 191 (.pointer (some p))) w K1 = ∃ cs e fz, w.heap[p.block]? = some (.cells cs e fz) ∧ p.spot = none ∧ p.off + 33 ≤ cs.size ∧ K1 (.agg (cs.extract p.off (p.off + 33))) := ld_ldn (by kernel_rfl)
@[simp] theorem same_ld_191 {p : Addr} {v : Value} : (nice Tryz.prog).same (.load 191 (.pointer (some p))) v w = ∃ cs e fz, w.heap[p.block]? = some (.cells cs e fz) ∧ p.spot = none ∧ p.off + 33 ≤ cs.size ∧ .agg (cs.extract p.off (p.off + 33)) = v := same_ldn (by kernel_rfl)
@[simp] theorem op_st_191 {p : Addr} {vs : Array Value} : (nice Tryz.prog).op (.store 191 (.pointer (some p)) (.agg vs)) w K Kp = (vs.size = 33 ∧ (∀ u ∈ vs.toList, u.oneCell' = true) ∧ ∃ cs e, w.heap[p.block]? = some (.cells cs e (0, 0)) ∧ p.spot = none ∧ p.off + 33 ≤ cs.size ∧ K undef (w.upd p.block (.cells (ow cs p.off vs.toList) e (0, 0)))) := op_stn (by kernel_rfl)
theorem build_187_1 {x1 : Value} (h1 : x1.oneCell' = true) : buildV Tryz.prog 187 [(1, x1)] = some (.agg (#[Value.int IntKind.u32 0, x1])) := by
  have e : buildV Tryz.prog 187 [(1, x1)] = (Instr.fill ((#[(0, 1), (1, 1)] : Array (Nat × Nat))[·]?) (#[Value.int IntKind.u32 0, Value.slice none 0 0]) [(1, x1)]).map .agg := by kernel_rfl
  rw [e]; simp [Instr.fill, cells_of_one h1]
@[simp] theorem op_build_187_1 {x1 : Value} (h1 : x1.oneCell' = true) : (nice Tryz.prog).op (.build 187 [(1, x1)]) w K Kp = K (.agg (#[Value.int IntKind.u32 0, x1])) w := op_build (build_187_1 h1)
@[simp] theorem pur_build_187_1 {x1 : Value} (h1 : x1.oneCell' = true) : (nice Tryz.prog).pur (.build 187 [(1, x1)]) K1 = K1 (.agg (#[Value.int IntKind.u32 0, x1])) := pur_build (build_187_1 h1)
@[simp] theorem op_ld_189 {p : Addr} : (nice Tryz.prog).op (.load 189 (.pointer (some p))) w K Kp = ∃ cs e fz, w.heap[p.block]? = some (.cells cs e fz) ∧ p.spot = none ∧ p.off + 32 ≤ cs.size ∧ K (.agg (cs.extract p.off (p.off + 32))) w := op_ldn (by kernel_rfl)
@[simp] theorem ld_ld_189 {p : Addr} : (nice Tryz.prog).ld (.load 189 (.pointer (some p))) w K1 = ∃ cs e fz, w.heap[p.block]? = some (.cells cs e fz) ∧ p.spot = none ∧ p.off + 32 ≤ cs.size ∧ K1 (.agg (cs.extract p.off (p.off + 32))) := ld_ldn (by kernel_rfl)
@[simp] theorem same_ld_189 {p : Addr} {v : Value} : (nice Tryz.prog).same (.load 189 (.pointer (some p))) v w = ∃ cs e fz, w.heap[p.block]? = some (.cells cs e fz) ∧ p.spot = none ∧ p.off + 32 ≤ cs.size ∧ .agg (cs.extract p.off (p.off + 32)) = v := same_ldn (by kernel_rfl)
@[simp] theorem op_conv_3_22 {k : IntKind} {n : Int} : (nice Tryz.prog).op (.conv 3 22 (.int k n)) w K Kp = K (.int .u32 (IntKind.u32.wrap n)) w := op_conv (by kernel_rfl) (by kernel_rfl)
@[simp] theorem pur_conv_3_22 {k : IntKind} {n : Int} : (nice Tryz.prog).pur (.conv 3 22 (.int k n)) K1 = K1 (.int .u32 (IntKind.u32.wrap n)) := pur_conv (by kernel_rfl) (by kernel_rfl)
@[simp] theorem op_conv_3_144 {k : IntKind} {n : Int} : (nice Tryz.prog).op (.conv 3 144 (.int k n)) w K Kp = K (.int .u64 (IntKind.u64.wrap n)) w := op_conv (by kernel_rfl) (by kernel_rfl)
@[simp] theorem pur_conv_3_144 {k : IntKind} {n : Int} : (nice Tryz.prog).pur (.conv 3 144 (.int k n)) K1 = K1 (.int .u64 (IntKind.u64.wrap n)) := pur_conv (by kernel_rfl) (by kernel_rfl)
@[simp] theorem call_130 {args : List Value} : (nice Tryz.prog).call (.fn 130) args w K Kp = Calls Tryz.prog 130 args.toArray w (ret K Kp) := call_fn (by kernel_rfl)
@[simp] theorem op_mki_2 {v : Value} : (nice Tryz.prog).op (.mkIface 2 v) w K Kp = K (.iface 2 v) w := op_mkIface (by kernel_rfl) (by kernel_rfl)
@[simp] theorem pur_mki_2 {v : Value} : (nice Tryz.prog).pur (.mkIface 2 v) K1 = K1 (.iface 2 v) := pur_mkIface (by kernel_rfl) (by kernel_rfl)
@[simp] theorem op_eql_20_y {xc yc : Bool} {u : TypeId} {v : Value} : (nice Tryz.prog).op (.bin BinOp.eql 20 xc yc (.iface u v) .nilIface) w K Kp = K (.bool false) w := op_eq_iface (by kernel_rfl) rfl
@[simp] theorem op_eql_20_n {xc : Bool} : (nice Tryz.prog).op (.bin BinOp.eql 20 xc true .nilIface .nilIface) w K Kp = K (.bool true) w := op_eq_niface (by kernel_rfl) rfl
@[simp] theorem pur_eql_20_y {xc yc : Bool} {u : TypeId} {v : Value} : (nice Tryz.prog).pur (.bin BinOp.eql 20 xc yc (.iface u v) .nilIface) K1 = K1 (.bool false) := pur_eq_iface (by kernel_rfl) rfl
@[simp] theorem pur_eql_20_n {xc : Bool} : (nice Tryz.prog).pur (.bin BinOp.eql 20 xc true .nilIface .nilIface) K1 = K1 (.bool true) := pur_eq_niface (by kernel_rfl) rfl
@[simp] theorem op_conv_177_22 {k : IntKind} {n : Int} : (nice Tryz.prog).op (.conv 177 22 (.int k n)) w K Kp = K (.int .u32 (IntKind.u32.wrap n)) w := op_conv (by kernel_rfl) (by kernel_rfl)
@[simp] theorem pur_conv_177_22 {k : IntKind} {n : Int} : (nice Tryz.prog).pur (.conv 177 22 (.int k n)) K1 = K1 (.int .u32 (IntKind.u32.wrap n)) := pur_conv (by kernel_rfl) (by kernel_rfl)
@[simp] theorem op_index_9 {s : ByteArray} {k : IntKind} {j : Int} : (nice Tryz.prog).op (.index 9 (.string s) (.int k j)) w K Kp = ((0 ≤ j ∧ j < (s.size : Int)) ∧ K (.int .u8 (((s[j.toNat]?).getD 0).toNat : Int)) w) := op_ix_str (by kernel_rfl)
@[simp] theorem pur_index_9 {s : ByteArray} {k : IntKind} {j : Int} : (nice Tryz.prog).pur (.index 9 (.string s) (.int k j)) K1 = ((0 ≤ j ∧ j < (s.size : Int)) ∧ K1 (.int .u8 (((s[j.toNat]?).getD 0).toNat : Int))) := pur_ix_str (by kernel_rfl)
@[simp] theorem op_conv_5_3 {k : IntKind} {n : Int} : (nice Tryz.prog).op (.conv 5 3 (.int k n)) w K Kp = K (.int .i64 (IntKind.i64.wrap n)) w := op_conv (by kernel_rfl) (by kernel_rfl)
@[simp] theorem pur_conv_5_3 {k : IntKind} {n : Int} : (nice Tryz.prog).pur (.conv 5 3 (.int k n)) K1 = K1 (.int .i64 (IntKind.i64.wrap n)) := pur_conv (by kernel_rfl) (by kernel_rfl)
@[simp] theorem op_len_26 {a : Option Addr} {n c ty : Nat} : (nice Tryz.prog).op (.blt .len [26] ty [.slice a n c]) w K Kp = K (.int .i64 n) w := op_len_slice (by kernel_rfl)
@[simp] theorem pur_len_26 {a : Option Addr} {n c ty : Nat} : (nice Tryz.prog).pur (.blt .len [26] ty [.slice a n c]) K1 = K1 (.int .i64 n) := pur_len_slice (by kernel_rfl)
@[simp] theorem ld_len_26 {a : Option Addr} {n c ty : Nat} : (nice Tryz.prog).ld (.blt .len [26] ty [.slice a n c]) w K1 = K1 (.int .i64 n) := ld_len_slice (by kernel_rfl)
@[simp] theorem same_len_26 {a : Option Addr} {n c ty : Nat} {u : Value} : (nice Tryz.prog).same (.blt .len [26] ty [.slice a n c]) u w = (.int .i64 n = u) := same_len_slice (by kernel_rfl)
@[simp] theorem call_14 {args : List Value} : (nice Tryz.prog).call (.fn 14) args w K Kp = Calls Tryz.prog 14 args.toArray w (ret K Kp) := call_fn (by kernel_rfl)
@[simp] theorem op_fa_24_2 {p : Addr} : (nice Tryz.prog).op (.fieldAddr 24 (.pointer (some p)) 2) w K Kp = K (.pointer (some (p.add 2))) w := op_fa (k := .one) (by kernel_rfl)
@[simp] theorem pur_fa_24_2 {p : Addr} : (nice Tryz.prog).pur (.fieldAddr 24 (.pointer (some p)) 2) K1 = K1 (.pointer (some (p.add 2))) := pur_fa (k := .one) (by kernel_rfl)
@[simp] theorem op_ld_5 {p : Addr} : (nice Tryz.prog).op (.load 5 (.pointer (some p))) w K Kp = ∃ cs e fz, w.heap[p.block]? = some (.cells cs e fz) ∧ p.spot = none ∧ ∃ v, cs[p.off]? = some v ∧ K v w := op_ld (by kernel_rfl)
@[simp] theorem ld_ld_5 {p : Addr} : (nice Tryz.prog).ld (.load 5 (.pointer (some p))) w K1 = ∃ cs e fz, w.heap[p.block]? = some (.cells cs e fz) ∧ p.spot = none ∧ ∃ v, cs[p.off]? = some v ∧ K1 v := ld_ld (by kernel_rfl)
@[simp] theorem same_ld_5 {p : Addr} {v : Value} : (nice Tryz.prog).same (.load 5 (.pointer (some p))) v w = ∃ cs e fz, w.heap[p.block]? = some (.cells cs e fz) ∧ p.spot = none ∧ cs[p.off]? = some v := same_ld (by kernel_rfl)
theorem build_24_  : buildV Tryz.prog 24 [] = some (.agg (#[Value.int IntKind.u32 0, Value.int IntKind.u32 0, Value.int IntKind.u8 0])) := by
  have e : buildV Tryz.prog 24 [] = (Instr.fill ((#[(0, 1), (1, 1), (2, 1)] : Array (Nat × Nat))[·]?) (#[Value.int IntKind.u32 0, Value.int IntKind.u32 0, Value.int IntKind.u8 0]) []).map .agg := by kernel_rfl
  rw [e]; simp [Instr.fill]
@[simp] theorem op_build_24_  : (nice Tryz.prog).op (.build 24 []) w K Kp = K (.agg (#[Value.int IntKind.u32 0, Value.int IntKind.u32 0, Value.int IntKind.u8 0])) w := op_build (build_24_)
@[simp] theorem pur_build_24_  : (nice Tryz.prog).pur (.build 24 []) K1 = K1 (.agg (#[Value.int IntKind.u32 0, Value.int IntKind.u32 0, Value.int IntKind.u8 0])) := pur_build (build_24_)
theorem build_52_0_2_3 {x0 : Value} {x2 : Value} {x3 : Value} (h0 : x0.oneCell' = true) (h2 : x2.oneCell' = true) (h3 : x3.oneCell' = true) : buildV Tryz.prog 52 [(0, x0), (2, x2), (3, x3)] = some (.agg (#[x0, Value.int IntKind.i64 0, x2, x3, Value.int IntKind.i64 0])) := by
  have e : buildV Tryz.prog 52 [(0, x0), (2, x2), (3, x3)] = (Instr.fill ((#[(0, 1), (1, 1), (2, 1), (3, 1), (4, 1)] : Array (Nat × Nat))[·]?) (#[Value.int IntKind.u8 0, Value.int IntKind.i64 0, Value.int IntKind.i64 0, Value.int IntKind.i64 0, Value.int IntKind.i64 0]) [(0, x0), (2, x2), (3, x3)]).map .agg := by kernel_rfl
  rw [e]; simp [Instr.fill, cells_of_one h0, cells_of_one h2, cells_of_one h3]
@[simp] theorem op_build_52_0_2_3 {x0 : Value} {x2 : Value} {x3 : Value} (h0 : x0.oneCell' = true) (h2 : x2.oneCell' = true) (h3 : x3.oneCell' = true) : (nice Tryz.prog).op (.build 52 [(0, x0), (2, x2), (3, x3)]) w K Kp = K (.agg (#[x0, Value.int IntKind.i64 0, x2, x3, Value.int IntKind.i64 0])) w := op_build (build_52_0_2_3 h0 h2 h3)
@[simp] theorem pur_build_52_0_2_3 {x0 : Value} {x2 : Value} {x3 : Value} (h0 : x0.oneCell' = true) (h2 : x2.oneCell' = true) (h3 : x3.oneCell' = true) : (nice Tryz.prog).pur (.build 52 [(0, x0), (2, x2), (3, x3)]) K1 = K1 (.agg (#[x0, Value.int IntKind.i64 0, x2, x3, Value.int IntKind.i64 0])) := pur_build (build_52_0_2_3 h0 h2 h3)
theorem build_52_0_1_2_3 {x0 : Value} {x1 : Value} {x2 : Value} {x3 : Value} (h0 : x0.oneCell' = true) (h1 : x1.oneCell' = true) (h2 : x2.oneCell' = true) (h3 : x3.oneCell' = true) : buildV Tryz.prog 52 [(0, x0), (1, x1), (2, x2), (3, x3)] = some (.agg (#[x0, x1, x2, x3, Value.int IntKind.i64 0])) := by
  have e : buildV Tryz.prog 52 [(0, x0), (1, x1), (2, x2), (3, x3)] = (Instr.fill ((#[(0, 1), (1, 1), (2, 1), (3, 1), (4, 1)] : Array (Nat × Nat))[·]?) (#[Value.int IntKind.u8 0, Value.int IntKind.i64 0, Value.int IntKind.i64 0, Value.int IntKind.i64 0, Value.int IntKind.i64 0]) [(0, x0), (1, x1), (2, x2), (3, x3)]).map .agg := by kernel_rfl
  rw [e]; simp [Instr.fill, cells_of_one h0, cells_of_one h1, cells_of_one h2, cells_of_one h3]
@[simp] theorem op_build_52_0_1_2_3 {x0 : Value} {x1 : Value} {x2 : Value} {x3 : Value} (h0 : x0.oneCell' = true) (h1 : x1.oneCell' = true) (h2 : x2.oneCell' = true) (h3 : x3.oneCell' = true) : (nice Tryz.prog).op (.build 52 [(0, x0), (1, x1), (2, x2), (3, x3)]) w K Kp = K (.agg (#[x0, x1, x2, x3, Value.int IntKind.i64 0])) w := op_build (build_52_0_1_2_3 h0 h1 h2 h3)
@[simp] theorem pur_build_52_0_1_2_3 {x0 : Value} {x1 : Value} {x2 : Value} {x3 : Value} (h0 : x0.oneCell' = true) (h1 : x1.oneCell' = true) (h2 : x2.oneCell' = true) (h3 : x3.oneCell' = true) : (nice Tryz.prog).pur (.build 52 [(0, x0), (1, x1), (2, x2), (3, x3)]) K1 = K1 (.agg (#[x0, x1, x2, x3, Value.int IntKind.i64 0])) := pur_build (build_52_0_1_2_3 h0 h1 h2 h3)
theorem build_52_0_1_2 {x0 : Value} {x1 : Value} {x2 : Value} (h0 : x0.oneCell' = true) (h1 : x1.oneCell' = true) (h2 : x2.oneCell' = true) : buildV Tryz.prog 52 [(0, x0), (1, x1), (2, x2)] = some (.agg (#[x0, x1, x2, Value.int IntKind.i64 0, Value.int IntKind.i64 0])) := by
  have e : buildV Tryz.prog 52 [(0, x0), (1, x1), (2, x2)] = (Instr.fill ((#[(0, 1), (1, 1), (2, 1), (3, 1), (4, 1)] : Array (Nat × Nat))[·]?) (#[Value.int IntKind.u8 0, Value.int IntKind.i64 0, Value.int IntKind.i64 0, Value.int IntKind.i64 0, Value.int IntKind.i64 0]) [(0, x0), (1, x1), (2, x2)]).map .agg := by kernel_rfl
  rw [e]; simp [Instr.fill, cells_of_one h0, cells_of_one h1, cells_of_one h2]
@[simp] theorem op_build_52_0_1_2 {x0 : Value} {x1 : Value} {x2 : Value} (h0 : x0.oneCell' = true) (h1 : x1.oneCell' = true) (h2 : x2.oneCell' = true) : (nice Tryz.prog).op (.build 52 [(0, x0), (1, x1), (2, x2)]) w K Kp = K (.agg (#[x0, x1, x2, Value.int IntKind.i64 0, Value.int IntKind.i64 0])) w := op_build (build_52_0_1_2 h0 h1 h2)
@[simp] theorem pur_build_52_0_1_2 {x0 : Value} {x1 : Value} {x2 : Value} (h0 : x0.oneCell' = true) (h1 : x1.oneCell' = true) (h2 : x2.oneCell' = true) : (nice Tryz.prog).pur (.build 52 [(0, x0), (1, x1), (2, x2)]) K1 = K1 (.agg (#[x0, x1, x2, Value.int IntKind.i64 0, Value.int IntKind.i64 0])) := pur_build (build_52_0_1_2 h0 h1 h2)
theorem lit_33_3 {y0_0 y0_1 y0_2 y0_3 y0_4 y1_0 y1_1 y1_2 y1_3 y1_4 y2_0 y2_1 y2_2 y2_3 y2_4 : Value} : sliceLit Tryz.prog 33 3 [(0, .agg #[y0_0, y0_1, y0_2, y0_3, y0_4]), (1, .agg #[y1_0, y1_1, y1_2, y1_3, y1_4]), (2, .agg #[y2_0, y2_1, y2_2, y2_3, y2_4])] = some (52, #[y0_0, y0_1, y0_2, y0_3, y0_4, y1_0, y1_1, y1_2, y1_3, y1_4, y2_0, y2_1, y2_2, y2_3, y2_4]) := by
  have e : sliceLit Tryz.prog 33 3 [(0, .agg #[y0_0, y0_1, y0_2, y0_3, y0_4]), (1, .agg #[y1_0, y1_1, y1_2, y1_3, y1_4]), (2, .agg #[y2_0, y2_1, y2_2, y2_3, y2_4])] = (Instr.fill (fun i => some (i * 5, 5)) (#[Value.int IntKind.u8 0, Value.int IntKind.i64 0, Value.int IntKind.i64 0, Value.int IntKind.i64 0, Value.int IntKind.i64 0, Value.int IntKind.u8 0, Value.int IntKind.i64 0, Value.int IntKind.i64 0, Value.int IntKind.i64 0, Value.int IntKind.i64 0, Value.int IntKind.u8 0, Value.int IntKind.i64 0, Value.int IntKind.i64 0, Value.int IntKind.i64 0, Value.int IntKind.i64 0]) [(0, .agg #[y0_0, y0_1, y0_2, y0_3, y0_4]), (1, .agg #[y1_0, y1_1, y1_2, y1_3, y1_4]), (2, .agg #[y2_0, y2_1, y2_2, y2_3, y2_4])]).map fun cs => (52, cs) := by kernel_rfl
  rw [e]; simp [Instr.fill, Value.cells]
@[simp] theorem op_lit_33_3 {y0_0 y0_1 y0_2 y0_3 y0_4 y1_0 y1_1 y1_2 y1_3 y1_4 y2_0 y2_1 y2_2 y2_3 y2_4 : Value} : (nice Tryz.prog).op (.buildSlice 33 3 [(0, .agg #[y0_0, y0_1, y0_2, y0_3, y0_4]), (1, .agg #[y1_0, y1_1, y1_2, y1_3, y1_4]), (2, .agg #[y2_0, y2_1, y2_2, y2_3, y2_4])]) w K Kp = K (.slice (some ⟨w.heap.size, 0, none⟩) 3 3) (w.alloc (.cells #[y0_0, y0_1, y0_2, y0_3, y0_4, y1_0, y1_1, y1_2, y1_3, y1_4, y2_0, y2_1, y2_2, y2_3, y2_4] 52)) := op_lit (lit_33_3)
@[simp] theorem call_15 {args : List Value} : (nice Tryz.prog).call (.fn 15) args w K Kp = Calls Tryz.prog 15 args.toArray w (ret K Kp) := call_fn (by kernel_rfl)
@[simp] theorem op_len_50 {a : Option Addr} {n c ty : Nat} : (nice Tryz.prog).op (.blt .len [50] ty [.slice a n c]) w K Kp = K (.int .i64 n) w := op_len_slice (by kernel_rfl)
@[simp] theorem pur_len_50 {a : Option Addr} {n c ty : Nat} : (nice Tryz.prog).pur (.blt .len [50] ty [.slice a n c]) K1 = K1 (.int .i64 n) := pur_len_slice (by kernel_rfl)
@[simp] theorem ld_len_50 {a : Option Addr} {n c ty : Nat} : (nice Tryz.prog).ld (.blt .len [50] ty [.slice a n c]) w K1 = K1 (.int .i64 n) := ld_len_slice (by kernel_rfl)
@[simp] theorem same_len_50 {a : Option Addr} {n c ty : Nat} {u : Value} : (nice Tryz.prog).same (.blt .len [50] ty [.slice a n c]) u w = (.int .i64 n = u) := same_len_slice (by kernel_rfl)
@[simp] theorem op_ix_50 {p : Addr} {len cap : Nat} {k : IntKind} {j : Int} : (nice Tryz.prog).op (.indexAddr 50 (.slice (some p) len cap) (.int k j)) w K Kp = ((0 ≤ j ∧ j < (len : Int)) ∧ K (.pointer (some (p.add (j.toNat * 2)))) w) := op_ix_slice (e := 55) (by kernel_rfl)
@[simp] theorem pur_ix_50 {p : Addr} {len cap : Nat} {k : IntKind} {j : Int} : (nice Tryz.prog).pur (.indexAddr 50 (.slice (some p) len cap) (.int k j)) K1 = ((0 ≤ j ∧ j < (len : Int)) ∧ K1 (.pointer (some (p.add (j.toNat * 2))))) := pur_ix_slice (e := 55) (by kernel_rfl)
@[simp] theorem op_fa_55_0 {p : Addr} : (nice Tryz.prog).op (.fieldAddr 55 (.pointer (some p)) 0) w K Kp = K (.pointer (some (p.add 0))) w := op_fa (k := .one) (by kernel_rfl)
@[simp] theorem pur_fa_55_0 {p : Addr} : (nice Tryz.prog).pur (.fieldAddr 55 (.pointer (some p)) 0) K1 = K1 (.pointer (some (p.add 0))) := pur_fa (k := .one) (by kernel_rfl)
@[simp] theorem op_fa_55_1 {p : Addr} : (nice Tryz.prog).op (.fieldAddr 55 (.pointer (some p)) 1) w K Kp = K (.pointer (some (p.add 1))) w := op_fa (k := .one) (by kernel_rfl)
@[simp] theorem pur_fa_55_1 {p : Addr} : (nice Tryz.prog).pur (.fieldAddr 55 (.pointer (some p)) 1) K1 = K1 (.pointer (some (p.add 1))) := pur_fa (k := .one) (by kernel_rfl)
@[simp] theorem op_ld_53 {p : Addr} : (nice Tryz.prog).op (.load 53 (.pointer (some p))) w K Kp = ∃ cs e fz, w.heap[p.block]? = some (.cells cs e fz) ∧ p.spot = none ∧ ∃ v, cs[p.off]? = some v ∧ K v w := op_ld (by kernel_rfl)
@[simp] theorem ld_ld_53 {p : Addr} : (nice Tryz.prog).ld (.load 53 (.pointer (some p))) w K1 = ∃ cs e fz, w.heap[p.block]? = some (.cells cs e fz) ∧ p.spot = none ∧ ∃ v, cs[p.off]? = some v ∧ K1 v := ld_ld (by kernel_rfl)
@[simp] theorem same_ld_53 {p : Addr} {v : Value} : (nice Tryz.prog).same (.load 53 (.pointer (some p))) v w = ∃ cs e fz, w.heap[p.block]? = some (.cells cs e fz) ∧ p.spot = none ∧ cs[p.off]? = some v := same_ld (by kernel_rfl)
@[simp] theorem op_st_53 {p : Addr} {v : Value} : (nice Tryz.prog).op (.store 53 (.pointer (some p)) v) w K Kp = ∃ cs e, w.heap[p.block]? = some (.cells cs e (0, 0)) ∧ p.spot = none ∧ p.off < cs.size ∧ v.oneCell' = true ∧ K undef (w.upd p.block (.cells (cs.setIfInBounds p.off v) e (0, 0))) := op_st (by kernel_rfl)
theorem build_58_0_1 {x0 : Value} {x1 : Value} (h0 : x0.oneCell' = true) (h1 : x1.oneCell' = true) : buildV Tryz.prog 58 [(0, x0), (1, x1)] = some (.agg (#[x0, x1])) := by
  have e : buildV Tryz.prog 58 [(0, x0), (1, x1)] = (Instr.fill ((#[(0, 1), (1, 1)] : Array (Nat × Nat))[·]?) (#[Value.int IntKind.i64 0, Value.int IntKind.i64 0]) [(0, x0), (1, x1)]).map .agg := by kernel_rfl
  rw [e]; simp [Instr.fill, cells_of_one h0, cells_of_one h1]
@[simp] theorem op_build_58_0_1 {x0 : Value} {x1 : Value} (h0 : x0.oneCell' = true) (h1 : x1.oneCell' = true) : (nice Tryz.prog).op (.build 58 [(0, x0), (1, x1)]) w K Kp = K (.agg (#[x0, x1])) w := op_build (build_58_0_1 h0 h1)
@[simp] theorem pur_build_58_0_1 {x0 : Value} {x1 : Value} (h0 : x0.oneCell' = true) (h1 : x1.oneCell' = true) : (nice Tryz.prog).pur (.build 58 [(0, x0), (1, x1)]) K1 = K1 (.agg (#[x0, x1])) := pur_build (build_58_0_1 h0 h1)
theorem lit_53_1 {y0_0 y0_1 : Value} : sliceLit Tryz.prog 53 1 [(0, .agg #[y0_0, y0_1])] = some (58, #[y0_0, y0_1]) := by
  have e : sliceLit Tryz.prog 53 1 [(0, .agg #[y0_0, y0_1])] = (Instr.fill (fun i => some (i * 2, 2)) (#[Value.int IntKind.i64 0, Value.int IntKind.i64 0]) [(0, .agg #[y0_0, y0_1])]).map fun cs => (58, cs) := by kernel_rfl
  rw [e]; simp [Instr.fill, Value.cells]
@[simp] theorem op_lit_53_1 {y0_0 y0_1 : Value} : (nice Tryz.prog).op (.buildSlice 53 1 [(0, .agg #[y0_0, y0_1])]) w K Kp = K (.slice (some ⟨w.heap.size, 0, none⟩) 1 1) (w.alloc (.cells #[y0_0, y0_1] 58)) := op_lit (lit_53_1)
@[simp] theorem call_16 {args : List Value} : (nice Tryz.prog).call (.fn 16) args w K Kp = Calls Tryz.prog 16 args.toArray w (ret K Kp) := call_fn (by kernel_rfl)
theorem lit_29_1 {x0 : Value} (h0 : x0.oneCell' = true) : sliceLit Tryz.prog 29 1 [(0, x0)] = some (37, #[x0]) := by
  have e : sliceLit Tryz.prog 29 1 [(0, x0)] = (Instr.fill (fun i => some (i * 1, 1)) (#[Value.map none]) [(0, x0)]).map fun cs => (37, cs) := by kernel_rfl
  rw [e]; simp [Instr.fill, cells_of_one h0]
@[simp] theorem op_lit_29_1 {x0 : Value} (h0 : x0.oneCell' = true) : (nice Tryz.prog).op (.buildSlice 29 1 [(0, x0)]) w K Kp = K (.slice (some ⟨w.heap.size, 0, none⟩) 1 1) (w.alloc (.cells #[x0] 37)) := op_lit (lit_29_1 h0)
@[simp] theorem op_ix_26 {p : Addr} {len cap : Nat} {k : IntKind} {j : Int} : (nice Tryz.prog).op (.indexAddr 26 (.slice (some p) len cap) (.int k j)) w K Kp = ((0 ≤ j ∧ j < (len : Int)) ∧ K (.pointer (some (p.add (j.toNat * 5)))) w) := op_ix_slice (e := 42) (by kernel_rfl)
@[simp] theorem pur_ix_26 {p : Addr} {len cap : Nat} {k : IntKind} {j : Int} : (nice Tryz.prog).pur (.indexAddr 26 (.slice (some p) len cap) (.int k j)) K1 = ((0 ≤ j ∧ j < (len : Int)) ∧ K1 (.pointer (some (p.add (j.toNat * 5))))) := pur_ix_slice (e := 42) (by kernel_rfl)
@[simp] theorem op_ld_42 {p : Addr} : (nice Tryz.prog).op (.load 42 (.pointer (some p))) w K Kp = ∃ cs e fz, w.heap[p.block]? = some (.cells cs e fz) ∧ p.spot = none ∧ p.off + 5 ≤ cs.size ∧ K (.agg (cs.extract p.off (p.off + 5))) w := op_ldn (by kernel_rfl)
@[simp] theorem ld_ld_42 {p : Addr} : (nice Tryz.prog).ld (.load 42 (.pointer (some p))) w K1 = ∃ cs e fz, w.heap[p.block]? = some (.cells cs e fz) ∧ p.spot = none ∧ p.off + 5 ≤ cs.size ∧ K1 (.agg (cs.extract p.off (p.off + 5))) := ld_ldn (by kernel_rfl)
@[simp] theorem same_ld_42 {p : Addr} {v : Value} : (nice Tryz.prog).same (.load 42 (.pointer (some p))) v w = ∃ cs e fz, w.heap[p.block]? = some (.cells cs e fz) ∧ p.spot = none ∧ p.off + 5 ≤ cs.size ∧ .agg (cs.extract p.off (p.off + 5)) = v := same_ldn (by kernel_rfl)
@[simp] theorem op_st_42 {p : Addr} {vs : Array Value} : (nice Tryz.prog).op (.store 42 (.pointer (some p)) (.agg vs)) w K Kp = (vs.size = 5 ∧ (∀ u ∈ vs.toList, u.oneCell' = true) ∧ ∃ cs e, w.heap[p.block]? = some (.cells cs e (0, 0)) ∧ p.spot = none ∧ p.off + 5 ≤ cs.size ∧ K undef (w.upd p.block (.cells (ow cs p.off vs.toList) e (0, 0)))) := op_stn (by kernel_rfl)
@[simp] theorem op_alloc_42 : (nice Tryz.prog).op (.alloc 42) w K Kp = K (.pointer (some ⟨w.heap.size, 0, none⟩)) (w.alloc (.cells #[Value.int IntKind.u8 0, Value.int IntKind.i64 0, Value.int IntKind.i64 0, Value.int IntKind.i64 0, Value.int IntKind.i64 0] 42)) := op_alloc (z := (.agg #[(Value.int IntKind.u8 0), (Value.int IntKind.i64 0), (Value.int IntKind.i64 0), (Value.int IntKind.i64 0), (Value.int IntKind.i64 0)])) (by kernel_rfl)
@[simp] theorem op_fa_42_1 {p : Addr} : (nice Tryz.prog).op (.fieldAddr 42 (.pointer (some p)) 1) w K Kp = K (.pointer (some (p.add 1))) w := op_fa (k := .one) (by kernel_rfl)
@[simp] theorem pur_fa_42_1 {p : Addr} : (nice Tryz.prog).pur (.fieldAddr 42 (.pointer (some p)) 1) K1 = K1 (.pointer (some (p.add 1))) := pur_fa (k := .one) (by kernel_rfl)
@[simp] theorem op_ix_29 {p : Addr} {len cap : Nat} {k : IntKind} {j : Int} : (nice Tryz.prog).op (.indexAddr 29 (.slice (some p) len cap) (.int k j)) w K Kp = ((0 ≤ j ∧ j < (len : Int)) ∧ K (.pointer (some (p.add (j.toNat * 1)))) w) := op_ix_slice (e := 37) (by kernel_rfl)
@[simp] theorem pur_ix_29 {p : Addr} {len cap : Nat} {k : IntKind} {j : Int} : (nice Tryz.prog).pur (.indexAddr 29 (.slice (some p) len cap) (.int k j)) K1 = ((0 ≤ j ∧ j < (len : Int)) ∧ K1 (.pointer (some (p.add (j.toNat * 1))))) := pur_ix_slice (e := 37) (by kernel_rfl)
@[simp] theorem op_ld_37 {p : Addr} : (nice Tryz.prog).op (.load 37 (.pointer (some p))) w K Kp = ∃ cs e fz, w.heap[p.block]? = some (.cells cs e fz) ∧ p.spot = none ∧ ∃ v, cs[p.off]? = some v ∧ K v w := op_ld (by kernel_rfl)
@[simp] theorem ld_ld_37 {p : Addr} : (nice Tryz.prog).ld (.load 37 (.pointer (some p))) w K1 = ∃ cs e fz, w.heap[p.block]? = some (.cells cs e fz) ∧ p.spot = none ∧ ∃ v, cs[p.off]? = some v ∧ K1 v := ld_ld (by kernel_rfl)
@[simp] theorem same_ld_37 {p : Addr} {v : Value} : (nice Tryz.prog).same (.load 37 (.pointer (some p))) v w = ∃ cs e fz, w.heap[p.block]? = some (.cells cs e fz) ∧ p.spot = none ∧ cs[p.off]? = some v := same_ld (by kernel_rfl)
@[simp] theorem call_17 {args : List Value} : (nice Tryz.prog).call (.fn 17) args w K Kp = Calls Tryz.prog 17 args.toArray w (ret K Kp) := call_fn (by kernel_rfl)
theorem lit_33_1 {y0_0 y0_1 y0_2 y0_3 y0_4 : Value} : sliceLit Tryz.prog 33 1 [(0, .agg #[y0_0, y0_1, y0_2, y0_3, y0_4])] = some (52, #[y0_0, y0_1, y0_2, y0_3, y0_4]) := by
  have e : sliceLit Tryz.prog 33 1 [(0, .agg #[y0_0, y0_1, y0_2, y0_3, y0_4])] = (Instr.fill (fun i => some (i * 5, 5)) (#[Value.int IntKind.u8 0, Value.int IntKind.i64 0, Value.int IntKind.i64 0, Value.int IntKind.i64 0, Value.int IntKind.i64 0]) [(0, .agg #[y0_0, y0_1, y0_2, y0_3, y0_4])]).map fun cs => (52, cs) := by kernel_rfl
  rw [e]; simp [Instr.fill, Value.cells]
@[simp] theorem op_lit_33_1 {y0_0 y0_1 y0_2 y0_3 y0_4 : Value} : (nice Tryz.prog).op (.buildSlice 33 1 [(0, .agg #[y0_0, y0_1, y0_2, y0_3, y0_4])]) w K Kp = K (.slice (some ⟨w.heap.size, 0, none⟩) 1 1) (w.alloc (.cells #[y0_0, y0_1, y0_2, y0_3, y0_4] 52)) := op_lit (lit_33_1)
@[simp] theorem op_ld_24 {p : Addr} : (nice Tryz.prog).op (.load 24 (.pointer (some p))) w K Kp = ∃ cs e fz, w.heap[p.block]? = some (.cells cs e fz) ∧ p.spot = none ∧ p.off + 3 ≤ cs.size ∧ K (.agg (cs.extract p.off (p.off + 3))) w := op_ldn (by kernel_rfl)
@[simp] theorem ld_ld_24 {p : Addr} : (nice Tryz.prog).ld (.load 24 (.pointer (some p))) w K1 = ∃ cs e fz, w.heap[p.block]? = some (.cells cs e fz) ∧ p.spot = none ∧ p.off + 3 ≤ cs.size ∧ K1 (.agg (cs.extract p.off (p.off + 3))) := ld_ldn (by kernel_rfl)
@[simp] theorem same_ld_24 {p : Addr} {v : Value} : (nice Tryz.prog).same (.load 24 (.pointer (some p))) v w = ∃ cs e fz, w.heap[p.block]? = some (.cells cs e fz) ∧ p.spot = none ∧ p.off + 3 ≤ cs.size ∧ .agg (cs.extract p.off (p.off + 3)) = v := same_ldn (by kernel_rfl)
@[simp] theorem call_31 {args : List Value} : (nice Tryz.prog).call (.fn 31) args w K Kp = Calls Tryz.prog 31 args.toArray w (ret K Kp) := call_fn (by kernel_rfl)
@[simp] theorem op_len_79 {a : Option Addr} {n c ty : Nat} : (nice Tryz.prog).op (.blt .len [79] ty [.slice a n c]) w K Kp = K (.int .i64 n) w := op_len_slice (by kernel_rfl)
@[simp] theorem pur_len_79 {a : Option Addr} {n c ty : Nat} : (nice Tryz.prog).pur (.blt .len [79] ty [.slice a n c]) K1 = K1 (.int .i64 n) := pur_len_slice (by kernel_rfl)
@[simp] theorem ld_len_79 {a : Option Addr} {n c ty : Nat} : (nice Tryz.prog).ld (.blt .len [79] ty [.slice a n c]) w K1 = K1 (.int .i64 n) := ld_len_slice (by kernel_rfl)
@[simp] theorem same_len_79 {a : Option Addr} {n c ty : Nat} {u : Value} : (nice Tryz.prog).same (.blt .len [79] ty [.slice a n c]) u w = (.int .i64 n = u) := same_len_slice (by kernel_rfl)
@[simp] theorem op_ix_79 {p : Addr} {len cap : Nat} {k : IntKind} {j : Int} : (nice Tryz.prog).op (.indexAddr 79 (.slice (some p) len cap) (.int k j)) w K Kp = ((0 ≤ j ∧ j < (len : Int)) ∧ K (.pointer (some (p.add (j.toNat * 1)))) w) := op_ix_slice (e := 81) (by kernel_rfl)
@[simp] theorem pur_ix_79 {p : Addr} {len cap : Nat} {k : IntKind} {j : Int} : (nice Tryz.prog).pur (.indexAddr 79 (.slice (some p) len cap) (.int k j)) K1 = ((0 ≤ j ∧ j < (len : Int)) ∧ K1 (.pointer (some (p.add (j.toNat * 1))))) := pur_ix_slice (e := 81) (by kernel_rfl)
@[simp] theorem call_33 {args : List Value} : (nice Tryz.prog).call (.fn 33) args w K Kp = Calls Tryz.prog 33 args.toArray w (ret K Kp) := call_fn (by kernel_rfl)
@[simp] theorem call_34 {args : List Value} : (nice Tryz.prog).call (.fn 34) args w K Kp = Calls Tryz.prog 34 args.toArray w (ret K Kp) := call_fn (by kernel_rfl)
@[simp] theorem call_32 {args : List Value} : (nice Tryz.prog).call (.fn 32) args w K Kp = Calls Tryz.prog 32 args.toArray w (ret K Kp) := call_fn (by kernel_rfl)
theorem lit_50_1 {y0_0 y0_1 : Value} : sliceLit Tryz.prog 50 1 [(0, .agg #[y0_0, y0_1])] = some (55, #[y0_0, y0_1]) := by
  have e : sliceLit Tryz.prog 50 1 [(0, .agg #[y0_0, y0_1])] = (Instr.fill (fun i => some (i * 2, 2)) (#[Value.int IntKind.i64 0, Value.slice none 0 0]) [(0, .agg #[y0_0, y0_1])]).map fun cs => (55, cs) := by kernel_rfl
  rw [e]; simp [Instr.fill, Value.cells]
@[simp] theorem op_lit_50_1 {y0_0 y0_1 : Value} : (nice Tryz.prog).op (.buildSlice 50 1 [(0, .agg #[y0_0, y0_1])]) w K Kp = K (.slice (some ⟨w.heap.size, 0, none⟩) 1 1) (w.alloc (.cells #[y0_0, y0_1] 55)) := op_lit (lit_50_1)
@[simp] theorem op_len_53 {a : Option Addr} {n c ty : Nat} : (nice Tryz.prog).op (.blt .len [53] ty [.slice a n c]) w K Kp = K (.int .i64 n) w := op_len_slice (by kernel_rfl)
@[simp] theorem pur_len_53 {a : Option Addr} {n c ty : Nat} : (nice Tryz.prog).pur (.blt .len [53] ty [.slice a n c]) K1 = K1 (.int .i64 n) := pur_len_slice (by kernel_rfl)
@[simp] theorem ld_len_53 {a : Option Addr} {n c ty : Nat} : (nice Tryz.prog).ld (.blt .len [53] ty [.slice a n c]) w K1 = K1 (.int .i64 n) := ld_len_slice (by kernel_rfl)
@[simp] theorem same_len_53 {a : Option Addr} {n c ty : Nat} {u : Value} : (nice Tryz.prog).same (.blt .len [53] ty [.slice a n c]) u w = (.int .i64 n = u) := same_len_slice (by kernel_rfl)
@[simp] theorem op_ix_53 {p : Addr} {len cap : Nat} {k : IntKind} {j : Int} : (nice Tryz.prog).op (.indexAddr 53 (.slice (some p) len cap) (.int k j)) w K Kp = ((0 ≤ j ∧ j < (len : Int)) ∧ K (.pointer (some (p.add (j.toNat * 2)))) w) := op_ix_slice (e := 58) (by kernel_rfl)
@[simp] theorem pur_ix_53 {p : Addr} {len cap : Nat} {k : IntKind} {j : Int} : (nice Tryz.prog).pur (.indexAddr 53 (.slice (some p) len cap) (.int k j)) K1 = ((0 ≤ j ∧ j < (len : Int)) ∧ K1 (.pointer (some (p.add (j.toNat * 2))))) := pur_ix_slice (e := 58) (by kernel_rfl)
@[simp] theorem op_ld_58 {p : Addr} : (nice Tryz.prog).op (.load 58 (.pointer (some p))) w K Kp = ∃ cs e fz, w.heap[p.block]? = some (.cells cs e fz) ∧ p.spot = none ∧ p.off + 2 ≤ cs.size ∧ K (.agg (cs.extract p.off (p.off + 2))) w := op_ldn (by kernel_rfl)
@[simp] theorem ld_ld_58 {p : Addr} : (nice Tryz.prog).ld (.load 58 (.pointer (some p))) w K1 = ∃ cs e fz, w.heap[p.block]? = some (.cells cs e fz) ∧ p.spot = none ∧ p.off + 2 ≤ cs.size ∧ K1 (.agg (cs.extract p.off (p.off + 2))) := ld_ldn (by kernel_rfl)
@[simp] theorem same_ld_58 {p : Addr} {v : Value} : (nice Tryz.prog).same (.load 58 (.pointer (some p))) v w = ∃ cs e fz, w.heap[p.block]? = some (.cells cs e fz) ∧ p.spot = none ∧ p.off + 2 ≤ cs.size ∧ .agg (cs.extract p.off (p.off + 2)) = v := same_ldn (by kernel_rfl)
@[simp] theorem op_eql_26 {xc yc : Bool} {a : Option Addr} {n c n' c' : Nat} : (nice Tryz.prog).op (.bin BinOp.eql 26 xc yc (.slice a n c) (.slice none n' c')) w K Kp = K (.bool (a.isNone)) w := op_eq_slice (by kernel_rfl) rfl
@[simp] theorem op_lit_26_0 : (nice Tryz.prog).op (.buildSlice 26 0 []) w K Kp = K (.slice (some ⟨w.heap.size, 0, none⟩) 0 0) (w.alloc (.cells #[] 42)) := op_lit (by kernel_rfl)
@[simp] theorem op_fa_42_0 {p : Addr} : (nice Tryz.prog).op (.fieldAddr 42 (.pointer (some p)) 0) w K Kp = K (.pointer (some (p.add 0))) w := op_fa (k := .one) (by kernel_rfl)
@[simp] theorem pur_fa_42_0 {p : Addr} : (nice Tryz.prog).pur (.fieldAddr 42 (.pointer (some p)) 0) K1 = K1 (.pointer (some (p.add 0))) := pur_fa (k := .one) (by kernel_rfl)
@[simp] theorem op_fa_42_4 {p : Addr} : (nice Tryz.prog).op (.fieldAddr 42 (.pointer (some p)) 4) w K Kp = K (.pointer (some (p.add 4))) w := op_fa (k := .one) (by kernel_rfl)
@[simp] theorem pur_fa_42_4 {p : Addr} : (nice Tryz.prog).pur (.fieldAddr 42 (.pointer (some p)) 4) K1 = K1 (.pointer (some (p.add 4))) := pur_fa (k := .one) (by kernel_rfl)
@[simp] theorem op_fa_42_2 {p : Addr} : (nice Tryz.prog).op (.fieldAddr 42 (.pointer (some p)) 2) w K Kp = K (.pointer (some (p.add 2))) w := op_fa (k := .one) (by kernel_rfl)
@[simp] theorem pur_fa_42_2 {p : Addr} : (nice Tryz.prog).pur (.fieldAddr 42 (.pointer (some p)) 2) K1 = K1 (.pointer (some (p.add 2))) := pur_fa (k := .one) (by kernel_rfl)
@[simp] theorem op_fa_42_3 {p : Addr} : (nice Tryz.prog).op (.fieldAddr 42 (.pointer (some p)) 3) w K Kp = K (.pointer (some (p.add 3))) w := op_fa (k := .one) (by kernel_rfl)
@[simp] theorem pur_fa_42_3 {p : Addr} : (nice Tryz.prog).pur (.fieldAddr 42 (.pointer (some p)) 3) K1 = K1 (.pointer (some (p.add 3))) := pur_fa (k := .one) (by kernel_rfl)
@[simp] theorem call_25 {args : List Value} : (nice Tryz.prog).call (.fn 25) args w K Kp = Calls Tryz.prog 25 args.toArray w (ret K Kp) := call_fn (by kernel_rfl)
@[simp] theorem call_47 {args : List Value} : (nice Tryz.prog).call (.fn 47) args w K Kp = Calls Tryz.prog 47 args.toArray w (ret K Kp) := call_fn (by kernel_rfl)
theorem lit_79_1 {x0 : Value} (h0 : x0.oneCell' = true) : sliceLit Tryz.prog 79 1 [(0, x0)] = some (81, #[x0]) := by
  have e : sliceLit Tryz.prog 79 1 [(0, x0)] = (Instr.fill (fun i => some (i * 1, 1)) (#[Value.pointer none]) [(0, x0)]).map fun cs => (81, cs) := by kernel_rfl
  rw [e]; simp [Instr.fill, cells_of_one h0]
@[simp] theorem op_lit_79_1 {x0 : Value} (h0 : x0.oneCell' = true) : (nice Tryz.prog).op (.buildSlice 79 1 [(0, x0)]) w K Kp = K (.slice (some ⟨w.heap.size, 0, none⟩) 1 1) (w.alloc (.cells #[x0] 81)) := op_lit (lit_79_1 h0)
@[simp] theorem op_len_33 {a : Option Addr} {n c ty : Nat} : (nice Tryz.prog).op (.blt .len [33] ty [.slice a n c]) w K Kp = K (.int .i64 n) w := op_len_slice (by kernel_rfl)
@[simp] theorem pur_len_33 {a : Option Addr} {n c ty : Nat} : (nice Tryz.prog).pur (.blt .len [33] ty [.slice a n c]) K1 = K1 (.int .i64 n) := pur_len_slice (by kernel_rfl)
@[simp] theorem ld_len_33 {a : Option Addr} {n c ty : Nat} : (nice Tryz.prog).ld (.blt .len [33] ty [.slice a n c]) w K1 = K1 (.int .i64 n) := ld_len_slice (by kernel_rfl)
@[simp] theorem same_len_33 {a : Option Addr} {n c ty : Nat} {u : Value} : (nice Tryz.prog).same (.blt .len [33] ty [.slice a n c]) u w = (.int .i64 n = u) := same_len_slice (by kernel_rfl)
@[simp] theorem op_ix_33 {p : Addr} {len cap : Nat} {k : IntKind} {j : Int} : (nice Tryz.prog).op (.indexAddr 33 (.slice (some p) len cap) (.int k j)) w K Kp = ((0 ≤ j ∧ j < (len : Int)) ∧ K (.pointer (some (p.add (j.toNat * 5)))) w) := op_ix_slice (e := 52) (by kernel_rfl)
@[simp] theorem pur_ix_33 {p : Addr} {len cap : Nat} {k : IntKind} {j : Int} : (nice Tryz.prog).pur (.indexAddr 33 (.slice (some p) len cap) (.int k j)) K1 = ((0 ≤ j ∧ j < (len : Int)) ∧ K1 (.pointer (some (p.add (j.toNat * 5))))) := pur_ix_slice (e := 52) (by kernel_rfl)
@[simp] theorem op_ld_52 {p : Addr} : (nice Tryz.prog).op (.load 52 (.pointer (some p))) w K Kp = ∃ cs e fz, w.heap[p.block]? = some (.cells cs e fz) ∧ p.spot = none ∧ p.off + 5 ≤ cs.size ∧ K (.agg (cs.extract p.off (p.off + 5))) w := op_ldn (by kernel_rfl)
@[simp] theorem ld_ld_52 {p : Addr} : (nice Tryz.prog).ld (.load 52 (.pointer (some p))) w K1 = ∃ cs e fz, w.heap[p.block]? = some (.cells cs e fz) ∧ p.spot = none ∧ p.off + 5 ≤ cs.size ∧ K1 (.agg (cs.extract p.off (p.off + 5))) := ld_ldn (by kernel_rfl)
@[simp] theorem same_ld_52 {p : Addr} {v : Value} : (nice Tryz.prog).same (.load 52 (.pointer (some p))) v w = ∃ cs e fz, w.heap[p.block]? = some (.cells cs e fz) ∧ p.spot = none ∧ p.off + 5 ≤ cs.size ∧ .agg (cs.extract p.off (p.off + 5)) = v := same_ldn (by kernel_rfl)
@[simp] theorem op_st_52 {p : Addr} {vs : Array Value} : (nice Tryz.prog).op (.store 52 (.pointer (some p)) (.agg vs)) w K Kp = (vs.size = 5 ∧ (∀ u ∈ vs.toList, u.oneCell' = true) ∧ ∃ cs e, w.heap[p.block]? = some (.cells cs e (0, 0)) ∧ p.spot = none ∧ p.off + 5 ≤ cs.size ∧ K undef (w.upd p.block (.cells (ow cs p.off vs.toList) e (0, 0)))) := op_stn (by kernel_rfl)
@[simp] theorem op_alloc_52 : (nice Tryz.prog).op (.alloc 52) w K Kp = K (.pointer (some ⟨w.heap.size, 0, none⟩)) (w.alloc (.cells #[Value.int IntKind.u8 0, Value.int IntKind.i64 0, Value.int IntKind.i64 0, Value.int IntKind.i64 0, Value.int IntKind.i64 0] 52)) := op_alloc (z := (.agg #[(Value.int IntKind.u8 0), (Value.int IntKind.i64 0), (Value.int IntKind.i64 0), (Value.int IntKind.i64 0), (Value.int IntKind.i64 0)])) (by kernel_rfl)
@[simp] theorem call_36 {args : List Value} : (nice Tryz.prog).call (.fn 36) args w K Kp = Calls Tryz.prog 36 args.toArray w (ret K Kp) := call_fn (by kernel_rfl)
@[simp] theorem op_fa_52_1 {p : Addr} : (nice Tryz.prog).op (.fieldAddr 52 (.pointer (some p)) 1) w K Kp = K (.pointer (some (p.add 1))) w := op_fa (k := .one) (by kernel_rfl)
@[simp] theorem pur_fa_52_1 {p : Addr} : (nice Tryz.prog).pur (.fieldAddr 52 (.pointer (some p)) 1) K1 = K1 (.pointer (some (p.add 1))) := pur_fa (k := .one) (by kernel_rfl)
@[simp] theorem op_fa_52_0 {p : Addr} : (nice Tryz.prog).op (.fieldAddr 52 (.pointer (some p)) 0) w K Kp = K (.pointer (some (p.add 0))) w := op_fa (k := .one) (by kernel_rfl)
@[simp] theorem pur_fa_52_0 {p : Addr} : (nice Tryz.prog).pur (.fieldAddr 52 (.pointer (some p)) 0) K1 = K1 (.pointer (some (p.add 0))) := pur_fa (k := .one) (by kernel_rfl)
@[simp] theorem op_fa_52_2 {p : Addr} : (nice Tryz.prog).op (.fieldAddr 52 (.pointer (some p)) 2) w K Kp = K (.pointer (some (p.add 2))) w := op_fa (k := .one) (by kernel_rfl)
@[simp] theorem pur_fa_52_2 {p : Addr} : (nice Tryz.prog).pur (.fieldAddr 52 (.pointer (some p)) 2) K1 = K1 (.pointer (some (p.add 2))) := pur_fa (k := .one) (by kernel_rfl)
@[simp] theorem op_fa_52_3 {p : Addr} : (nice Tryz.prog).op (.fieldAddr 52 (.pointer (some p)) 3) w K Kp = K (.pointer (some (p.add 3))) w := op_fa (k := .one) (by kernel_rfl)
@[simp] theorem pur_fa_52_3 {p : Addr} : (nice Tryz.prog).pur (.fieldAddr 52 (.pointer (some p)) 3) K1 = K1 (.pointer (some (p.add 3))) := pur_fa (k := .one) (by kernel_rfl)
@[simp] theorem call_48 {args : List Value} : (nice Tryz.prog).call (.fn 48) args w K Kp = Calls Tryz.prog 48 args.toArray w (ret K Kp) := call_fn (by kernel_rfl)
@[simp] theorem call_49 {args : List Value} : (nice Tryz.prog).call (.fn 49) args w K Kp = Calls Tryz.prog 49 args.toArray w (ret K Kp) := call_fn (by kernel_rfl)
@[simp] theorem op_fa_52_4 {p : Addr} : (nice Tryz.prog).op (.fieldAddr 52 (.pointer (some p)) 4) w K Kp = K (.pointer (some (p.add 4))) w := op_fa (k := .one) (by kernel_rfl)
@[simp] theorem pur_fa_52_4 {p : Addr} : (nice Tryz.prog).pur (.fieldAddr 52 (.pointer (some p)) 4) K1 = K1 (.pointer (some (p.add 4))) := pur_fa (k := .one) (by kernel_rfl)
@[simp] theorem op_alloc_55 : (nice Tryz.prog).op (.alloc 55) w K Kp = K (.pointer (some ⟨w.heap.size, 0, none⟩)) (w.alloc (.cells #[Value.int IntKind.i64 0, Value.slice none 0 0] 55)) := op_alloc (z := (.agg #[(Value.int IntKind.i64 0), (Value.slice none 0 0)])) (by kernel_rfl)
theorem build_55_0 {x0 : Value} (h0 : x0.oneCell' = true) : buildV Tryz.prog 55 [(0, x0)] = some (.agg (#[x0, Value.slice none 0 0])) := by
  have e : buildV Tryz.prog 55 [(0, x0)] = (Instr.fill ((#[(0, 1), (1, 1)] : Array (Nat × Nat))[·]?) (#[Value.int IntKind.i64 0, Value.slice none 0 0]) [(0, x0)]).map .agg := by kernel_rfl
  rw [e]; simp [Instr.fill, cells_of_one h0]
@[simp] theorem op_build_55_0 {x0 : Value} (h0 : x0.oneCell' = true) : (nice Tryz.prog).op (.build 55 [(0, x0)]) w K Kp = K (.agg (#[x0, Value.slice none 0 0])) w := op_build (build_55_0 h0)
@[simp] theorem pur_build_55_0 {x0 : Value} (h0 : x0.oneCell' = true) : (nice Tryz.prog).pur (.build 55 [(0, x0)]) K1 = K1 (.agg (#[x0, Value.slice none 0 0])) := pur_build (build_55_0 h0)
@[simp] theorem op_ld_55 {p : Addr} : (nice Tryz.prog).op (.load 55 (.pointer (some p))) w K Kp = ∃ cs e fz, w.heap[p.block]? = some (.cells cs e fz) ∧ p.spot = none ∧ p.off + 2 ≤ cs.size ∧ K (.agg (cs.extract p.off (p.off + 2))) w := op_ldn (by kernel_rfl)
@[simp] theorem ld_ld_55 {p : Addr} : (nice Tryz.prog).ld (.load 55 (.pointer (some p))) w K1 = ∃ cs e fz, w.heap[p.block]? = some (.cells cs e fz) ∧ p.spot = none ∧ p.off + 2 ≤ cs.size ∧ K1 (.agg (cs.extract p.off (p.off + 2))) := ld_ldn (by kernel_rfl)
@[simp] theorem same_ld_55 {p : Addr} {v : Value} : (nice Tryz.prog).same (.load 55 (.pointer (some p))) v w = ∃ cs e fz, w.heap[p.block]? = some (.cells cs e fz) ∧ p.spot = none ∧ p.off + 2 ≤ cs.size ∧ .agg (cs.extract p.off (p.off + 2)) = v := same_ldn (by kernel_rfl)
@[simp] theorem op_st_55 {p : Addr} {vs : Array Value} : (nice Tryz.prog).op (.store 55 (.pointer (some p)) (.agg vs)) w K Kp = (vs.size = 2 ∧ (∀ u ∈ vs.toList, u.oneCell' = true) ∧ ∃ cs e, w.heap[p.block]? = some (.cells cs e (0, 0)) ∧ p.spot = none ∧ p.off + 2 ≤ cs.size ∧ K undef (w.upd p.block (.cells (ow cs p.off vs.toList) e (0, 0)))) := op_stn (by kernel_rfl)
@[simp] theorem call_51 {args : List Value} : (nice Tryz.prog).call (.fn 51) args w K Kp = Calls Tryz.prog 51 args.toArray w (ret K Kp) := call_fn (by kernel_rfl)
@[simp] theorem op_fa_24_0 {p : Addr} : (nice Tryz.prog).op (.fieldAddr 24 (.pointer (some p)) 0) w K Kp = K (.pointer (some (p.add 0))) w := op_fa (k := .one) (by kernel_rfl)
@[simp] theorem pur_fa_24_0 {p : Addr} : (nice Tryz.prog).pur (.fieldAddr 24 (.pointer (some p)) 0) K1 = K1 (.pointer (some (p.add 0))) := pur_fa (k := .one) (by kernel_rfl)
theorem build_98_0 {y0_0 y0_1 y0_2 : Value} : buildV Tryz.prog 98 [(0, .agg #[y0_0, y0_1, y0_2])] = some (.agg (#[y0_0, y0_1, y0_2])) := by
  have e : buildV Tryz.prog 98 [(0, .agg #[y0_0, y0_1, y0_2])] = (Instr.fill ((#[(0, 3)] : Array (Nat × Nat))[·]?) (#[Value.int IntKind.u32 0, Value.int IntKind.u32 0, Value.int IntKind.u8 0]) [(0, .agg #[y0_0, y0_1, y0_2])]).map .agg := by kernel_rfl
  rw [e]; simp [Instr.fill, Value.cells]
@[simp] theorem op_build_98_0 {y0_0 y0_1 y0_2 : Value} : (nice Tryz.prog).op (.build 98 [(0, .agg #[y0_0, y0_1, y0_2])]) w K Kp = K (.agg (#[y0_0, y0_1, y0_2])) w := op_build (build_98_0)
@[simp] theorem pur_build_98_0 {y0_0 y0_1 y0_2 : Value} : (nice Tryz.prog).pur (.build 98 [(0, .agg #[y0_0, y0_1, y0_2])]) K1 = K1 (.agg (#[y0_0, y0_1, y0_2])) := pur_build (build_98_0)
@[simp] theorem op_mki_98 {v : Value} : (nice Tryz.prog).op (.mkIface 98 v) w K Kp = K (.iface 98 v) w := op_mkIface (by kernel_rfl) (by kernel_rfl)
@[simp] theorem pur_mki_98 {v : Value} : (nice Tryz.prog).pur (.mkIface 98 v) K1 = K1 (.iface 98 v) := pur_mkIface (by kernel_rfl) (by kernel_rfl)
@[simp] theorem op_conv_2_22 {k : IntKind} {n : Int} : (nice Tryz.prog).op (.conv 2 22 (.int k n)) w K Kp = K (.int .u32 (IntKind.u32.wrap n)) w := op_conv (by kernel_rfl) (by kernel_rfl)
@[simp] theorem pur_conv_2_22 {k : IntKind} {n : Int} : (nice Tryz.prog).pur (.conv 2 22 (.int k n)) K1 = K1 (.int .u32 (IntKind.u32.wrap n)) := pur_conv (by kernel_rfl) (by kernel_rfl)
@[simp] theorem op_fa_98_0 {p : Addr} : (nice Tryz.prog).op (.fieldAddr 98 (.pointer (some p)) 0) w K Kp = K (.pointer (some (p.add 0))) w := op_fa (k := (.agg 3)) (by kernel_rfl)
@[simp] theorem pur_fa_98_0 {p : Addr} : (nice Tryz.prog).pur (.fieldAddr 98 (.pointer (some p)) 0) K1 = K1 (.pointer (some (p.add 0))) := pur_fa (k := (.agg 3)) (by kernel_rfl)
@[simp] theorem op_fa_24_1 {p : Addr} : (nice Tryz.prog).op (.fieldAddr 24 (.pointer (some p)) 1) w K Kp = K (.pointer (some (p.add 1))) w := op_fa (k := .one) (by kernel_rfl)
@[simp] theorem pur_fa_24_1 {p : Addr} : (nice Tryz.prog).pur (.fieldAddr 24 (.pointer (some p)) 1) K1 = K1 (.pointer (some (p.add 1))) := pur_fa (k := .one) (by kernel_rfl)
@[simp] theorem op_ta_20_3 {u : TypeId} {v : Value} : (nice Tryz.prog).op (.tassert (.iface u v) 20 3 true) w K Kp = if u = 3 then K (.tuple #[v, .bool true]) w else K (.tuple #[(Value.int IntKind.i64 0), .bool false]) w := op_tassert_ok (by kernel_rfl) (by kernel_rfl) (by kernel_rfl)
@[simp] theorem op_tan_20_3 : (nice Tryz.prog).op (.tassert .nilIface 20 3 true) w K Kp = K (.tuple #[(Value.int IntKind.i64 0), .bool false]) w := op_tassert_ok_nil (by kernel_rfl) (by kernel_rfl) (by kernel_rfl)
@[simp] theorem op_conv_3_177 {k : IntKind} {n : Int} : (nice Tryz.prog).op (.conv 3 177 (.int k n)) w K Kp = K (.int .u64 (IntKind.u64.wrap n)) w := op_conv (by kernel_rfl) (by kernel_rfl)
@[simp] theorem pur_conv_3_177 {k : IntKind} {n : Int} : (nice Tryz.prog).pur (.conv 3 177 (.int k n)) K1 = K1 (.int .u64 (IntKind.u64.wrap n)) := pur_conv (by kernel_rfl) (by kernel_rfl)
@[simp] theorem call_125 {args : List Value} : (nice Tryz.prog).call (.fn 125) args w K Kp = Calls Tryz.prog 125 args.toArray w (ret K Kp) := call_fn (by kernel_rfl)
@[simp] theorem op_ta_20_174 {u : TypeId} {v : Value} : (nice Tryz.prog).op (.tassert (.iface u v) 20 174 true) w K Kp = if u = 174 then K (.tuple #[v, .bool true]) w else K (.tuple #[(Value.int IntKind.i8 0), .bool false]) w := op_tassert_ok (by kernel_rfl) (by kernel_rfl) (by kernel_rfl)
@[simp] theorem op_tan_20_174 : (nice Tryz.prog).op (.tassert .nilIface 20 174 true) w K Kp = K (.tuple #[(Value.int IntKind.i8 0), .bool false]) w := op_tassert_ok_nil (by kernel_rfl) (by kernel_rfl) (by kernel_rfl)
@[simp] theorem op_conv_174_177 {k : IntKind} {n : Int} : (nice Tryz.prog).op (.conv 174 177 (.int k n)) w K Kp = K (.int .u64 (IntKind.u64.wrap n)) w := op_conv (by kernel_rfl) (by kernel_rfl)
@[simp] theorem pur_conv_174_177 {k : IntKind} {n : Int} : (nice Tryz.prog).pur (.conv 174 177 (.int k n)) K1 = K1 (.int .u64 (IntKind.u64.wrap n)) := pur_conv (by kernel_rfl) (by kernel_rfl)
@[simp] theorem op_ta_20_175 {u : TypeId} {v : Value} : (nice Tryz.prog).op (.tassert (.iface u v) 20 175 true) w K Kp = if u = 175 then K (.tuple #[v, .bool true]) w else K (.tuple #[(Value.int IntKind.i16 0), .bool false]) w := op_tassert_ok (by kernel_rfl) (by kernel_rfl) (by kernel_rfl)
@[simp] theorem op_tan_20_175 : (nice Tryz.prog).op (.tassert .nilIface 20 175 true) w K Kp = K (.tuple #[(Value.int IntKind.i16 0), .bool false]) w := op_tassert_ok_nil (by kernel_rfl) (by kernel_rfl) (by kernel_rfl)
@[simp] theorem op_conv_175_177 {k : IntKind} {n : Int} : (nice Tryz.prog).op (.conv 175 177 (.int k n)) w K Kp = K (.int .u64 (IntKind.u64.wrap n)) w := op_conv (by kernel_rfl) (by kernel_rfl)
@[simp] theorem pur_conv_175_177 {k : IntKind} {n : Int} : (nice Tryz.prog).pur (.conv 175 177 (.int k n)) K1 = K1 (.int .u64 (IntKind.u64.wrap n)) := pur_conv (by kernel_rfl) (by kernel_rfl)
@[simp] theorem op_ta_20_21 {u : TypeId} {v : Value} : (nice Tryz.prog).op (.tassert (.iface u v) 20 21 true) w K Kp = if u = 21 then K (.tuple #[v, .bool true]) w else K (.tuple #[(Value.int IntKind.i32 0), .bool false]) w := op_tassert_ok (by kernel_rfl) (by kernel_rfl) (by kernel_rfl)
@[simp] theorem op_tan_20_21 : (nice Tryz.prog).op (.tassert .nilIface 20 21 true) w K Kp = K (.tuple #[(Value.int IntKind.i32 0), .bool false]) w := op_tassert_ok_nil (by kernel_rfl) (by kernel_rfl) (by kernel_rfl)
@[simp] theorem op_conv_21_177 {k : IntKind} {n : Int} : (nice Tryz.prog).op (.conv 21 177 (.int k n)) w K Kp = K (.int .u64 (IntKind.u64.wrap n)) w := op_conv (by kernel_rfl) (by kernel_rfl)
@[simp] theorem pur_conv_21_177 {k : IntKind} {n : Int} : (nice Tryz.prog).pur (.conv 21 177 (.int k n)) K1 = K1 (.int .u64 (IntKind.u64.wrap n)) := pur_conv (by kernel_rfl) (by kernel_rfl)
@[simp] theorem op_ta_20_2 {u : TypeId} {v : Value} : (nice Tryz.prog).op (.tassert (.iface u v) 20 2 true) w K Kp = if u = 2 then K (.tuple #[v, .bool true]) w else K (.tuple #[(Value.int IntKind.i64 0), .bool false]) w := op_tassert_ok (by kernel_rfl) (by kernel_rfl) (by kernel_rfl)
@[simp] theorem op_tan_20_2 : (nice Tryz.prog).op (.tassert .nilIface 20 2 true) w K Kp = K (.tuple #[(Value.int IntKind.i64 0), .bool false]) w := op_tassert_ok_nil (by kernel_rfl) (by kernel_rfl) (by kernel_rfl)
@[simp] theorem op_conv_2_177 {k : IntKind} {n : Int} : (nice Tryz.prog).op (.conv 2 177 (.int k n)) w K Kp = K (.int .u64 (IntKind.u64.wrap n)) w := op_conv (by kernel_rfl) (by kernel_rfl)
@[simp] theorem pur_conv_2_177 {k : IntKind} {n : Int} : (nice Tryz.prog).pur (.conv 2 177 (.int k n)) K1 = K1 (.int .u64 (IntKind.u64.wrap n)) := pur_conv (by kernel_rfl) (by kernel_rfl)
@[simp] theorem op_ta_20_144 {u : TypeId} {v : Value} : (nice Tryz.prog).op (.tassert (.iface u v) 20 144 true) w K Kp = if u = 144 then K (.tuple #[v, .bool true]) w else K (.tuple #[(Value.int IntKind.u64 0), .bool false]) w := op_tassert_ok (by kernel_rfl) (by kernel_rfl) (by kernel_rfl)
@[simp] theorem op_tan_20_144 : (nice Tryz.prog).op (.tassert .nilIface 20 144 true) w K Kp = K (.tuple #[(Value.int IntKind.u64 0), .bool false]) w := op_tassert_ok_nil (by kernel_rfl) (by kernel_rfl) (by kernel_rfl)
@[simp] theorem op_ta_20_5 {u : TypeId} {v : Value} : (nice Tryz.prog).op (.tassert (.iface u v) 20 5 true) w K Kp = if u = 5 then K (.tuple #[v, .bool true]) w else K (.tuple #[(Value.int IntKind.u8 0), .bool false]) w := op_tassert_ok (by kernel_rfl) (by kernel_rfl) (by kernel_rfl)
@[simp] theorem op_tan_20_5 : (nice Tryz.prog).op (.tassert .nilIface 20 5 true) w K Kp = K (.tuple #[(Value.int IntKind.u8 0), .bool false]) w := op_tassert_ok_nil (by kernel_rfl) (by kernel_rfl) (by kernel_rfl)
@[simp] theorem op_conv_5_177 {k : IntKind} {n : Int} : (nice Tryz.prog).op (.conv 5 177 (.int k n)) w K Kp = K (.int .u64 (IntKind.u64.wrap n)) w := op_conv (by kernel_rfl) (by kernel_rfl)
@[simp] theorem pur_conv_5_177 {k : IntKind} {n : Int} : (nice Tryz.prog).pur (.conv 5 177 (.int k n)) K1 = K1 (.int .u64 (IntKind.u64.wrap n)) := pur_conv (by kernel_rfl) (by kernel_rfl)
@[simp] theorem op_ta_20_176 {u : TypeId} {v : Value} : (nice Tryz.prog).op (.tassert (.iface u v) 20 176 true) w K Kp = if u = 176 then K (.tuple #[v, .bool true]) w else K (.tuple #[(Value.int IntKind.u16 0), .bool false]) w := op_tassert_ok (by kernel_rfl) (by kernel_rfl) (by kernel_rfl)
@[simp] theorem op_tan_20_176 : (nice Tryz.prog).op (.tassert .nilIface 20 176 true) w K Kp = K (.tuple #[(Value.int IntKind.u16 0), .bool false]) w := op_tassert_ok_nil (by kernel_rfl) (by kernel_rfl) (by kernel_rfl)
@[simp] theorem op_conv_176_177 {k : IntKind} {n : Int} : (nice Tryz.prog).op (.conv 176 177 (.int k n)) w K Kp = K (.int .u64 (IntKind.u64.wrap n)) w := op_conv (by kernel_rfl) (by kernel_rfl)
@[simp] theorem pur_conv_176_177 {k : IntKind} {n : Int} : (nice Tryz.prog).pur (.conv 176 177 (.int k n)) K1 = K1 (.int .u64 (IntKind.u64.wrap n)) := pur_conv (by kernel_rfl) (by kernel_rfl)
@[simp] theorem op_ta_20_22 {u : TypeId} {v : Value} : (nice Tryz.prog).op (.tassert (.iface u v) 20 22 true) w K Kp = if u = 22 then K (.tuple #[v, .bool true]) w else K (.tuple #[(Value.int IntKind.u32 0), .bool false]) w := op_tassert_ok (by kernel_rfl) (by kernel_rfl) (by kernel_rfl)
@[simp] theorem op_tan_20_22 : (nice Tryz.prog).op (.tassert .nilIface 20 22 true) w K Kp = K (.tuple #[(Value.int IntKind.u32 0), .bool false]) w := op_tassert_ok_nil (by kernel_rfl) (by kernel_rfl) (by kernel_rfl)
@[simp] theorem op_conv_22_177 {k : IntKind} {n : Int} : (nice Tryz.prog).op (.conv 22 177 (.int k n)) w K Kp = K (.int .u64 (IntKind.u64.wrap n)) w := op_conv (by kernel_rfl) (by kernel_rfl)
@[simp] theorem pur_conv_22_177 {k : IntKind} {n : Int} : (nice Tryz.prog).pur (.conv 22 177 (.int k n)) K1 = K1 (.int .u64 (IntKind.u64.wrap n)) := pur_conv (by kernel_rfl) (by kernel_rfl)
@[simp] theorem op_ta_20_177 {u : TypeId} {v : Value} : (nice Tryz.prog).op (.tassert (.iface u v) 20 177 true) w K Kp = if u = 177 then K (.tuple #[v, .bool true]) w else K (.tuple #[(Value.int IntKind.u64 0), .bool false]) w := op_tassert_ok (by kernel_rfl) (by kernel_rfl) (by kernel_rfl)
@[simp] theorem op_tan_20_177 : (nice Tryz.prog).op (.tassert .nilIface 20 177 true) w K Kp = K (.tuple #[(Value.int IntKind.u64 0), .bool false]) w := op_tassert_ok_nil (by kernel_rfl) (by kernel_rfl) (by kernel_rfl)
@[simp] theorem op_ta_20_12 {u : TypeId} {v : Value} : (nice Tryz.prog).op (.tassert (.iface u v) 20 12 true) w K Kp = if u = 12 then K (.tuple #[v, .bool true]) w else K (.tuple #[(Value.int IntKind.u64 0), .bool false]) w := op_tassert_ok (by kernel_rfl) (by kernel_rfl) (by kernel_rfl)
@[simp] theorem op_tan_20_12 : (nice Tryz.prog).op (.tassert .nilIface 20 12 true) w K Kp = K (.tuple #[(Value.int IntKind.u64 0), .bool false]) w := op_tassert_ok_nil (by kernel_rfl) (by kernel_rfl) (by kernel_rfl)
@[simp] theorem op_ta_20_9 {u : TypeId} {v : Value} : (nice Tryz.prog).op (.tassert (.iface u v) 20 9 true) w K Kp = if u = 9 then K (.tuple #[v, .bool true]) w else K (.tuple #[(Value.string ByteArray.empty), .bool false]) w := op_tassert_ok (by kernel_rfl) (by kernel_rfl) (by kernel_rfl)
@[simp] theorem op_tan_20_9 : (nice Tryz.prog).op (.tassert .nilIface 20 9 true) w K Kp = K (.tuple #[(Value.string ByteArray.empty), .bool false]) w := op_tassert_ok_nil (by kernel_rfl) (by kernel_rfl) (by kernel_rfl)
@[simp] theorem call_126 {args : List Value} : (nice Tryz.prog).call (.fn 126) args w K Kp = Calls Tryz.prog 126 args.toArray w (ret K Kp) := call_fn (by kernel_rfl)
@[simp] theorem op_mki_9 {v : Value} : (nice Tryz.prog).op (.mkIface 9 v) w K Kp = K (.iface 9 v) w := op_mkIface (by kernel_rfl) (by kernel_rfl)
@[simp] theorem pur_mki_9 {v : Value} : (nice Tryz.prog).pur (.mkIface 9 v) K1 = K1 (.iface 9 v) := pur_mkIface (by kernel_rfl) (by kernel_rfl)
@[simp] theorem op_mki_178 {v : Value} : (nice Tryz.prog).op (.mkIface 178 v) w K Kp = K (.iface 178 v) w := op_mkIface (by kernel_rfl) (by kernel_rfl)
end Go.Proofs.YtbghmbbhkoniiaaGreat
end
