import Derived.Test.YtbghmbbhkoniiaaB0
import Derived.Test.YtbghmbbhkoniiaaB5
import Derived.Test.YtbghmbbhkoniiaaB4
import Derived.Test.YtbghmbbhkoniiaaB1
import Derived.ProofKit
import Derived.WideKeyArgs
import Derived.Deep.Slices
import Derived.Carry
import Derived.Test.YtbghmbbhkoniiaaRows
import Derived.Tactics
import Derived.Tactics2
import Derived.Defers
import Derived.Recover
import Derived.Laws.Pointers
section
/- Scripts over maps in plain words: versions as tries, and as functions from keys to values. -/
set_option linter.unusedSimpArgs false
set_option linter.unusedVariables false
set_option linter.unusedSectionVars false
namespace Go.Vc
open Nd
section
variable {α β σ : Type}
/-- Versions that are made out of each other. -/
def vers (f : α → σ → α) (fro : σ → Nat) (a0 : α) (steps : List σ) : List α := steps.foldl (fun l s => l ++ [f (l[fro s]?.getD a0) s]) [a0]
variable {f : α → σ → α} {g : β → σ → β} {fro : σ → Nat} {a0 : α} {b0 : β}
theorem vers_snoc (steps : List σ) (s : σ) : vers f fro a0 (steps ++ [s]) = vers f fro a0 steps ++ [f ((vers f fro a0 steps)[fro s]?.getD a0) s] := by simp [vers]
theorem snoc_ind {P : List σ → Prop} (h0 : P []) (h1 : ∀ l s, P l → P (l ++ [s])) (l : List σ) : P l := by
  rw [← List.reverse_reverse l]
  generalize l.reverse = r
  induction r with
  | nil => exact h0
  | cons x r ih => rw [List.reverse_cons]; exact h1 _ _ ih
theorem vers_len (steps : List σ) : (vers f fro a0 steps).length = steps.length + 1 := by
  refine snoc_ind (P := fun steps => (vers f fro a0 steps).length = steps.length + 1) rfl (fun l s ih => ?_) steps
  rw [vers_snoc, List.length_append, ih]; simp
theorem vers_rel {R : α → β → Prop} (h0 : R a0 b0) (hs : ∀ a b s, R a b → R (f a s) (g b s)) (steps : List σ) : ∀ (j : Nat) a b, (vers f fro a0 steps)[j]? = some a → (vers g fro b0 steps)[j]? = some b → R a b := by
  refine snoc_ind (P := fun steps => ∀ (j : Nat) a b, (vers f fro a0 steps)[j]? = some a → (vers g fro b0 steps)[j]? = some b → R a b) ?_ (fun l s ih => ?_) steps
  · intro j a b ha hb
    cases j with
    | zero => simp [vers] at ha hb; subst ha hb; exact h0
    | succ j => simp [vers] at ha
  · intro j a b ha hb
    rw [vers_snoc] at ha hb
    have hl1 := vers_len (f := f) (fro := fro) (a0 := a0) l
    have hl2 := vers_len (f := g) (fro := fro) (a0 := b0) l
    by_cases hj : j < l.length + 1
    · rw [List.getElem?_append_left (by omega)] at ha hb
      exact ih j a b ha hb
    · have hj' : j = l.length + 1 := by
        have := (List.getElem?_eq_some_iff.1 ha).1
        simp [hl1] at this; omega
      subst hj'
      rw [List.getElem?_append_right (by omega), hl1] at ha
      rw [List.getElem?_append_right (by omega), hl2] at hb
      simp at ha hb
      subst ha hb
      refine hs _ _ _ ?_
      cases hx : (vers f fro a0 l)[fro s]? with
      | none =>
        have : (vers g fro b0 l)[fro s]? = none := by
          rw [List.getElem?_eq_none_iff] at hx ⊢; omega
        rw [this]; exact h0
      | some x =>
        have hlt := (List.getElem?_eq_some_iff.1 hx).1
        rw [List.getElem?_eq_getElem (l := vers g fro b0 l) (by omega)]
        exact ih _ _ _ hx (List.getElem?_eq_getElem (by omega))
theorem vers_prop {Q : α → Prop} {steps : List σ} (h0 : Q a0) (hs : ∀ a s, s ∈ steps → Q a → Q (f a s)) : ∀ (j : Nat) a, (vers f fro a0 steps)[j]? = some a → Q a := by
  revert hs
  refine snoc_ind (P := fun steps => (∀ a s, s ∈ steps → Q a → Q (f a s)) → ∀ (j : Nat) a, (vers f fro a0 steps)[j]? = some a → Q a) ?_ (fun l s ih => ?_) steps
  · intro _ j a ha
    cases j with
    | zero => simp [vers] at ha; subst ha; exact h0
    | succ j => simp [vers] at ha
  · intro hs j a ha
    have ih := ih fun a s hm => hs a s (by simp [hm])
    rw [vers_snoc] at ha
    have hl1 := vers_len (f := f) (fro := fro) (a0 := a0) l
    by_cases hj : j < l.length + 1
    · rw [List.getElem?_append_left (by omega)] at ha
      exact ih j a ha
    · have hj' : j = l.length + 1 := by
        have := (List.getElem?_eq_some_iff.1 ha).1
        simp [hl1] at this; omega
      subst hj'
      rw [List.getElem?_append_right (by omega), hl1] at ha
      simp at ha
      subst ha
      refine hs _ _ (by simp) ?_
      cases hx : (vers f fro a0 l)[fro s]? with
      | none => exact h0
      | some x => exact ih _ _ hx
end

/-- A step over maps. -/
structure MStep where
  kind : Nat
  fro : Int
  key : Int
  value : Int
  count : Int
def MStep.cells (s : MStep) : List Value := [.int .u8 s.kind, .int .i64 s.fro, .int .i64 s.key, .int .i64 s.value, .int .i64 s.count]
theorem mcells_len (s : MStep) : s.cells.length = 5 := rfl
def MStep.cost (s : MStep) : Nat := 1 + s.count.toNat
def MStep.ref (s : MStep) : Nat := s.fro.toNat
def kAt (k v : Int) (i : Nat) : Int := IntKind.i64.wrap (k + IntKind.i64.wrap ((i : Int) * v))

section trees
variable {κ ν : Type} [DecidableEq κ]
/-- Keys and values as a function. -/
def mset (m : κ → Option ν) (k : κ) (v : ν) : κ → Option ν := fun j => if j = k then some v else m j
def mdel (m : κ → Option ν) (k : κ) : κ → Option ν := fun j => if j = k then none else m j
/-- Pairs, each key once, that are those of a function. -/
def Tells (D : List (κ × ν)) (m : κ → Option ν) : Prop := ∀ k v, (k, v) ∈ D ↔ m k = some v
/-- A trie that is one, with the pairs of a function. -/
def Is (hash : κ → Nat) (t : Nd κ ν) (m : κ → Option ν) : Prop := WFr hash t ∧ Tells (toL t) m
variable {hash : κ → Nat} {t : Nd κ ν} {m : κ → Option ν} {k : κ} {v : ν} {D D' : List (κ × ν)}
theorem is_emp : Is hash (.emp : Nd κ ν) (fun _ => none) := ⟨trivial, fun k v => by simp [toL]⟩
theorem is_set (hh : ∀ k, hash k < 2 ^ 32) (h : Is hash t m) : Is hash (Nd.set hash t k v) (mset m k v) := by
  have hs := set_spec (k := k) (v := v) hh h.1
  refine ⟨hs.1, fun k' v' => ?_⟩
  have h2 := hs.2
  first
    | rw [h2]
    | rw [h2.2]
  unfold mset
  by_cases hk : k' = k
  · subst hk; simp [eq_comm]
  · simp [hk, h.2 k' v']
theorem is_del (h : Is hash t m) : Is hash (delT hash t k) (mdel m k) := by
  have hs := delT_spec (k := k) h.1
  refine ⟨hs.1, fun k' v' => ?_⟩
  rw [hs.2]
  unfold mdel
  by_cases hk : k' = k
  · subst hk; simp
  · simp [hk, h.2 k' v']
theorem Is.nodup (h : Is hash t m) : ((toL t).map (·.1)).Nodup := h.1.nodup
theorem Is.get (h : Is hash t m) : getIn (hash k) k t 0 = m k := by
  cases hx : m k with
  | some x => exact (get_spec h.1).2 ((h.2 k x).2 hx)
  | none =>
    cases hy : getIn (hash k) k t 0 with
    | none => rfl
    | some y => have := (h.2 k y).1 ((get_spec h.1).1 hy); rw [hx] at this; cases this
theorem tells_upd (hn : (D.map (·.1)).Nodup) (h : Tells D m) : Tells (upd D k v) (mset m k v) := fun k' v' => by
  rw [mem_upd hn]
  unfold mset
  by_cases hk : k' = k
  · subst hk; simp [eq_comm]
  · simp [hk, h k' v']
theorem wipe_nodup (hn : (D.map (·.1)).Nodup) : ((wipe D k).map (·.1)).Nodup := by
  unfold wipe
  split
  · exact erase_nodup hn
  · exact hn
theorem tells_wipe (hn : (D.map (·.1)).Nodup) (h : Tells D m) : Tells (wipe D k) (mdel m k) := fun k' v' => by
  unfold wipe mdel
  cases hf : find D k with
  | none =>
    by_cases hk : k' = k
    · subst hk
      simp only [if_true, reduceCtorEq, iff_false]
      intro hm
      exact find_none.1 hf _ hm rfl
    · simp [hk, h k' v']
  | some i =>
    simp only
    rw [mem_erase hn hf]
    by_cases hk : k' = k
    · subst hk; simp
    · simp [hk, h k' v']
theorem tells_look (hn : (D.map (·.1)).Nodup) (h : Tells D m) : Nd.look D k = m k := by
  cases hx : m k with
  | some x => exact (look_iff hn).2 ((h k x).2 hx)
  | none =>
    cases hy : Nd.look D k with
    | none => rfl
    | some y => have := (h k y).1 ((look_iff hn).1 hy); rw [hx] at this; cases this
theorem tells_len (hn : (D.map (·.1)).Nodup) (hn' : (D'.map (·.1)).Nodup) (h : Tells D m) (h' : Tells D' m) : D.length = D'.length :=
  len_of hn hn' fun e => by rw [h e.1 e.2, h' e.1 e.2]
theorem tells_nil : Tells ([] : List (κ × ν)) (fun _ => none) := fun k v => by simp
end trees

/-- The first keys of a step are set, or deleted. -/
def setN (hash : Int → Nat) (k v : Int) (t : Nd Int Int) (n : Nat) : Nd Int Int := (List.range n).foldl (fun t i => Nd.set hash t (kAt k v i) (i : Int)) t
def delN (hash : Int → Nat) (k v : Int) (t : Nd Int Int) (n : Nat) : Nd Int Int := (List.range n).foldl (fun t i => delT hash t (kAt k v i)) t
theorem setN_succ {hash : Int → Nat} {k v : Int} {t : Nd Int Int} {n : Nat} : setN hash k v t (n + 1) = Nd.set hash (setN hash k v t n) (kAt k v n) (n : Int) := by
  unfold setN; rw [List.range_succ, List.foldl_append]; rfl
theorem delN_succ {hash : Int → Nat} {k v : Int} {t : Nd Int Int} {n : Nat} : delN hash k v t (n + 1) = delT hash (delN hash k v t n) (kAt k v n) := by
  unfold delN; rw [List.range_succ, List.foldl_append]; rfl
/-- What a step makes of a trie. -/
def trieStep (hash : Int → Nat) (t : Nd Int Int) (s : MStep) : Nd Int Int := match s.kind with
  | 0 => Nd.set hash t s.key s.value
  | 1 => delT hash t s.key
  | 2 => setN hash s.key s.value t s.count.toNat
  | _ => delN hash s.key s.value t s.count.toNat
def msetN (k v : Int) (m : Int → Option Int) (n : Nat) : Int → Option Int := (List.range n).foldl (fun m i => mset m (kAt k v i) (i : Int)) m
def mdelN (k v : Int) (m : Int → Option Int) (n : Nat) : Int → Option Int := (List.range n).foldl (fun m i => mdel m (kAt k v i)) m
theorem msetN_succ {k v : Int} {m : Int → Option Int} {n : Nat} : msetN k v m (n + 1) = mset (msetN k v m n) (kAt k v n) (n : Int) := by
  unfold msetN; rw [List.range_succ, List.foldl_append]; rfl
theorem mdelN_succ {k v : Int} {m : Int → Option Int} {n : Nat} : mdelN k v m (n + 1) = mdel (mdelN k v m n) (kAt k v n) := by
  unfold mdelN; rw [List.range_succ, List.foldl_append]; rfl
def funStep (m : Int → Option Int) (s : MStep) : Int → Option Int := match s.kind with
  | 0 => mset m s.key s.value
  | 1 => mdel m s.key
  | 2 => msetN s.key s.value m s.count.toNat
  | _ => mdelN s.key s.value m s.count.toNat
theorem is_setN {hash : Int → Nat} (hh : ∀ k, hash k < 2 ^ 32) {t : Nd Int Int} {m : Int → Option Int} (h : Is hash t m) {k v : Int} : ∀ n, Is hash (setN hash k v t n) (msetN k v m n)
  | 0 => h
  | n + 1 => by rw [setN_succ, msetN_succ]; exact is_set hh (is_setN hh h n)
theorem is_delN {hash : Int → Nat} {t : Nd Int Int} {m : Int → Option Int} (h : Is hash t m) {k v : Int} : ∀ n, Is hash (delN hash k v t n) (mdelN k v m n)
  | 0 => h
  | n + 1 => by rw [delN_succ, mdelN_succ]; exact is_del (is_delN h n)
theorem is_step {hash : Int → Nat} (hh : ∀ k, hash k < 2 ^ 32) {t : Nd Int Int} {m : Int → Option Int} (h : Is hash t m) (s : MStep) : Is hash (trieStep hash t s) (funStep m s) := by
  unfold trieStep funStep
  split
  · exact is_set hh h
  · exact is_del h
  · exact is_setN hh h _
  · exact is_delN h _
def versT (hash : Int → Nat) (steps : List MStep) : List (Nd Int Int) := vers (trieStep hash) MStep.ref .emp steps
def versM (steps : List MStep) : List (Int → Option Int) := vers funStep MStep.ref (fun _ => none) steps
theorem is_vers {hash : Int → Nat} (hh : ∀ k, hash k < 2 ^ 32) (steps : List MStep) (j : Nat) {t : Nd Int Int} {m : Int → Option Int} (ht : (versT hash steps)[j]? = some t) (hm : (versM steps)[j]? = some m) : Is hash t m :=
  vers_rel (R := fun t m => Is hash t m) is_emp (fun a b s h => is_step hh h s) steps j t m ht hm
theorem set_len_le {hash : Int → Nat} (hh : ∀ k, hash k < 2 ^ 32) {t : Nd Int Int} (h : WFr hash t) {k v : Int} : (toL (Nd.set hash t k v)).length ≤ (toL t).length + 1 := by
  rw [set_len hh h]; split <;> omega
def mcost (steps : List MStep) : Nat := (steps.map MStep.cost).sum
theorem mcost_snoc (l : List MStep) (s : MStep) : mcost (l ++ [s]) = mcost l + s.cost := by simp [mcost]
theorem mcost_take (l : List MStep) (i : Nat) : mcost (l.take i) ≤ mcost l := by
  have : mcost l = mcost (l.take i) + mcost (l.drop i) := by
    rw [← List.take_append_drop i l, mcost, mcost, mcost, List.map_append, List.sum_append]
    simp
  omega
theorem setN_len {hash : Int → Nat} (hh : ∀ k, hash k < 2 ^ 32) {t : Nd Int Int} (h : WFr hash t) {k v : Int} : ∀ n, WFr hash (setN hash k v t n) ∧ (toL (setN hash k v t n)).length ≤ (toL t).length + n
  | 0 => ⟨h, Nat.le_refl _⟩
  | n + 1 => by
    obtain ⟨a, b⟩ := setN_len hh h (k := k) (v := v) n
    rw [setN_succ]
    exact ⟨(set_spec hh a).1, by have := set_len_le hh a (k := kAt k v n) (v := (n : Int)); omega⟩
theorem delN_len {hash : Int → Nat} {t : Nd Int Int} (h : WFr hash t) {k v : Int} : ∀ n, WFr hash (delN hash k v t n) ∧ (toL (delN hash k v t n)).length ≤ (toL t).length
  | 0 => ⟨h, Nat.le_refl _⟩
  | n + 1 => by
    obtain ⟨a, b⟩ := delN_len h (k := k) (v := v) n
    rw [delN_succ]
    exact ⟨(delT_spec a).1, Nat.le_trans (delT_len a) b⟩
theorem step_len {hash : Int → Nat} (hh : ∀ k, hash k < 2 ^ 32) {t : Nd Int Int} (h : WFr hash t) (s : MStep) : WFr hash (trieStep hash t s) ∧ (toL (trieStep hash t s)).length ≤ (toL t).length + s.cost := by
  unfold trieStep MStep.cost
  split
  · exact ⟨(set_spec hh h).1, by have := set_len_le hh h (k := s.key) (v := s.value); omega⟩
  · exact ⟨(delT_spec h).1, by have := delT_len (k := s.key) h; omega⟩
  · have := setN_len hh h (k := s.key) (v := s.value) s.count.toNat
    exact ⟨this.1, by omega⟩
  · have := delN_len h (k := s.key) (v := s.value) s.count.toNat
    exact ⟨this.1, by omega⟩
/-- How many pairs a version has at most. -/
theorem vers_size {hash : Int → Nat} (hh : ∀ k, hash k < 2 ^ 32) (steps : List MStep) : ∀ (j : Nat) t, (versT hash steps)[j]? = some t → WFr hash t ∧ (toL t).length ≤ mcost steps := by
  refine snoc_ind (P := fun steps => ∀ (j : Nat) t, (versT hash steps)[j]? = some t → WFr hash t ∧ (toL t).length ≤ mcost steps) ?_ (fun l s ih => ?_) steps
  · intro j a ha
    cases j with
    | zero => simp [versT, vers] at ha; subst ha; exact ⟨trivial, by simp [toL]⟩
    | succ j => simp [versT, vers] at ha
  · intro j a ha
    rw [versT, vers_snoc] at ha
    have hl1 := vers_len (f := trieStep hash) (fro := MStep.ref) (a0 := .emp) l
    rw [mcost_snoc]
    by_cases hj : j < l.length + 1
    · rw [List.getElem?_append_left (by omega)] at ha
      have := ih j a ha
      exact ⟨this.1, by omega⟩
    · have hj' : j = l.length + 1 := by
        have := (List.getElem?_eq_some_iff.1 ha).1
        simp [hl1] at this; omega
      subst hj'
      rw [List.getElem?_append_right (by omega), hl1] at ha
      simp at ha
      subst ha
      have hx : WFr hash ((vers (trieStep hash) MStep.ref .emp l)[s.ref]?.getD .emp) ∧ (toL ((vers (trieStep hash) MStep.ref .emp l)[s.ref]?.getD .emp)).length ≤ mcost l := by
        cases hx : (vers (trieStep hash) MStep.ref .emp l)[s.ref]? with
        | none => exact ⟨trivial, by simp [toL]⟩
        | some x => exact ih _ _ hx
      have := step_len hh hx.1 s
      exact ⟨this.1, by omega⟩
/-- The steps are ones. -/
def MFit (steps : List MStep) : Prop := ∀ i (h : i < steps.length), steps[i].kind ≤ 3 ∧ 0 ≤ steps[i].fro ∧ steps[i].fro ≤ i ∧ 0 ≤ steps[i].count ∧ steps[i].count ≤ 100000
end Go.Vc
namespace Go.Vc
open Nd
theorem MFit.snoc {l : List MStep} {s : MStep} (h : MFit l) (h1 : s.kind ≤ 3) (h2 : 0 ≤ s.fro) (h3 : s.fro ≤ l.length) (h4 : 0 ≤ s.count) (h5 : s.count ≤ 100000) : MFit (l ++ [s]) := fun i hi => by
  by_cases hl : i < l.length
  · rw [List.getElem_append_left hl]; exact h i hl
  · have : i = l.length := by simp at hi; omega
    subst this
    rw [List.getElem_append_right (Nat.le_refl _)]
    simp only [Nat.sub_self, List.getElem_cons_zero]
    exact ⟨h1, h2, h3, h4, h5⟩
theorem versM_len (l : List MStep) : (versM l).length = l.length + 1 := vers_len l
theorem versT_len (hash : Int → Nat) (l : List MStep) : (versT hash l).length = l.length + 1 := vers_len l
/-- The version behind one more step. -/
theorem versM_last {l : List MStep} {s : MStep} : (versM (l ++ [s]))[l.length + 1]? = some (funStep ((versM l)[s.ref]?.getD fun _ => none) s) := by
  have h := versM_len l
  rw [versM, vers_snoc]
  rw [List.getElem?_append_right (by rw [show (vers funStep MStep.ref (fun _ => none) l).length = l.length + 1 from h]; exact Nat.le_refl _)]
  rw [show (vers funStep MStep.ref (fun _ => none) l).length = l.length + 1 from h]
  simp [versM]
theorem versM_keep {l : List MStep} {s : MStep} {j : Nat} (hj : j ≤ l.length) : (versM (l ++ [s]))[j]? = (versM l)[j]? := by
  have h := versM_len l
  rw [versM, vers_snoc]
  exact List.getElem?_append_left (by rw [show (vers funStep MStep.ref (fun _ => none) l).length = l.length + 1 from h]; omega)
section
variable {κ ν : Type} [DecidableEq κ] {m : κ → Option ν} {k : κ} {v : ν}
theorem mdel_mset (h : m k = none) : mdel (mset m k v) k = m := by
  funext j
  unfold mdel mset
  by_cases e : j = k
  · subst e; simp [h]
  · simp [e]
theorem mdel_none (h : m k = none) : mdel m k = m := by
  funext j
  unfold mdel
  by_cases e : j = k
  · subst e; simp [h]
  · simp [e]
theorem tells_cons {D : List (κ × ν)} (h : Tells D m) (hk : m k = none) : Tells ((k, v) :: D) (mset m k v) := fun k' v' => by
  unfold mset
  by_cases e : k' = k
  · subst e
    simp only [List.mem_cons, Prod.mk.injEq, true_and, if_true, Option.some.injEq]
    constructor
    · rintro (h1 | h1)
      · exact h1.symm
      · have := (h k' v').1 h1; rw [hk] at this; cases this
    · intro h1; exact .inl h1.symm
  · simp [e, h k' v']
theorem nodup_cons {D : List (κ × ν)} (h : Tells D m) (hn : (D.map (·.1)).Nodup) (hk : m k = none) : (((k, v) :: D).map (·.1)).Nodup := by
  rw [List.map_cons, List.nodup_cons]
  refine ⟨fun hm => ?_, hn⟩
  obtain ⟨e, he, hk'⟩ := List.mem_map.1 hm
  have := (h e.1 e.2).1 he
  rw [show e.1 = k from hk', hk] at this; cases this
end
end Go.Vc
end
section
/- RowsOf that a call lengthens by one element after the other, each element holding something in the heap. -/
set_option linter.unusedSimpArgs false
set_option linter.unusedVariables false
namespace Go.Vc
variable {P : Program} {w w' : World} {K : Value → World → Prop} {Kp : KP} {t e : TypeId} {s base : Nat} {l v : Value} {M : Nat → Prop}

/-- A slice of n elements with the cells xs. -/
def IsSl (w : World) (v : Value) (n : Nat) (xs : List Value) : Prop := ∃ a c, v = .slice a n c ∧ n ≤ c ∧ c ≤ maxLen ∧ Row w a xs ∧ (a = none → n = 0)
theorem IsSl.frame {n : Nat} {xs : List Value} (h : IsSl w v n xs) (hf : Frm M w w') (hM : ∀ b, v.ownBlock = some b → ¬ M b) : IsSl w' v n xs := by
  obtain ⟨a, c, rfl, hc, hm, hr, ha⟩ := h
  exact ⟨a, c, rfl, hc, hm, hr.frame hf fun p hp => hM _ (by subst hp; rfl), ha⟩
theorem IsSl.still {n : Nat} {xs : List Value} (h : IsSl w v n xs) (hf : Frm (fun _ => False) w w') : IsSl w' v n xs := h.frame hf fun _ _ h => h
theorem IsSl.one {n : Nat} {xs : List Value} (h : IsSl w v n xs) : v.oneCell' = true := by obtain ⟨a, c, rfl, _⟩ := h; rfl
theorem IsSl.nil : IsSl w (.slice none 0 0) 0 [] := ⟨none, 0, rfl, Nat.le_refl _, by simp [maxLen], .inl rfl, fun _ => rfl⟩
theorem own_sl {n : Nat} {xs : List Value} (h : w.ownsRow base e s v n xs) : IsSl w v n xs := by
  obtain ⟨h1, ⟨rfl, rfl⟩ | ⟨g, cap, cur, rfl, h3, h4, h5, h6, h7, h8⟩⟩ := id h
  · exact ⟨none, 0, rfl, by omega, by simp [maxLen], .inl (List.eq_nil_of_length_eq_zero (by simpa using h1)), fun _ => rfl⟩
  · obtain ⟨a, c, hv, hc, hr, ha, _⟩ := own_slice h
    cases hv
    exact ⟨_, _, rfl, hc, h6, hr, ha⟩

structure ElOk {α : Type} (El : World → List Value → α → (Nat → Prop) → Prop) : Prop where
  frame : ∀ {w w' : World} {u : List Value} {y : α} {G M : Nat → Prop}, El w u y G → Frm M w w' → (∀ c, G c → ¬ M c) → El w' u y G
  mono : ∀ {w : World} {u : List Value} {y : α} {G G' : Nat → Prop}, El w u y G → (∀ c, G c → G' c) → El w u y G'
/-- A row of the call's own whose elements hold ys, with the blocks of G. -/
structure RowsOf {α : Type} (El : World → List Value → α → (Nat → Prop) → Prop) (w : World) (base : Nat) (e : TypeId) (s : Nat) (l : Value) (ys : List α) (G : Nat → Prop) : Prop where
  row : ∃ us : List (List Value), us.length = ys.length ∧ (∀ u ∈ us, u.length = s) ∧ w.ownsRow base e s l ys.length us.flatten ∧ ∀ (j : Nat) u y, us[j]? = some u → ys[j]? = some y → El w u y G
  low : ∀ c, G c → base ≤ c ∧ c < w.heap.size
  off : ∀ b, l.ownBlock = some b → ¬ G b
variable {α : Type} {El : World → List Value → α → (Nat → Prop) → Prop} {ys : List α} {G G' : Nat → Prop} {y : α}
theorem RowsOf.frame (hE : ElOk El) (h : RowsOf El w base e s l ys G) (hf : Frm M w w') (hG : ∀ c, G c → ¬ M c) (hl : ∀ b, l.ownBlock = some b → ¬ M b) : RowsOf El w' base e s l ys G := by
  obtain ⟨⟨us, h1, h2, h3, h4⟩, h5, h6⟩ := h
  exact ⟨⟨us, h1, h2, own_frame h3 hf hl, fun j u y hu hy => hE.frame (h4 j u y hu hy) hf hG⟩, fun c hc => ⟨(h5 c hc).1, Nat.lt_of_lt_of_le (h5 c hc).2 hf.size⟩, h6⟩
theorem RowsOf.still (hE : ElOk El) (h : RowsOf El w base e s l ys G) (hf : Frm (fun _ => False) w w') : RowsOf El w' base e s l ys G := h.frame hE hf (fun _ _ h => h) fun _ _ h => h
theorem RowsOf.mono (hE : ElOk El) (h : RowsOf El w base e s l ys G) (hG : ∀ c, G c → G' c) (hlow : ∀ c, G' c → base ≤ c ∧ c < w.heap.size) (hoff : ∀ b, l.ownBlock = some b → ¬ G' b) : RowsOf El w base e s l ys G' := by
  obtain ⟨⟨us, h1, h2, h3, h4⟩, h5, h6⟩ := h
  exact ⟨⟨us, h1, h2, h3, fun j u y hu hy => hE.mono (h4 j u y hu hy) hG⟩, hlow, hoff⟩
theorem RowsOf.base_le {base' : Nat} (h : RowsOf El w base e s l ys G) (hb : base' ≤ base) : RowsOf El w base' e s l ys G := by
  obtain ⟨⟨us, h1, h2, h3, h4⟩, h5, h6⟩ := h
  exact ⟨⟨us, h1, h2, own_base h3 hb, h4⟩, fun c hc => ⟨Nat.le_trans hb (h5 c hc).1, (h5 c hc).2⟩, h6⟩
theorem rows_nil : RowsOf El w base e s (.slice none 0 0) [] (fun _ => False) := ⟨⟨[], rfl, by simp, own_nil, fun j u y hu => by simp at hu⟩, fun _ h => h.elim, fun _ _ h => h⟩
theorem RowsOf.own_lt (h : RowsOf El w base e s l ys G) : ∀ b, l.ownBlock = some b → base ≤ b ∧ b < w.heap.size := by
  obtain ⟨⟨us, h1, h2, h3, h4⟩, _⟩ := h
  exact Go.Vc.own_lt h3
theorem RowsOf.one (h : RowsOf El w base e s l ys G) : l.oneCell' = true := by
  obtain ⟨⟨us, h1, h2, h3, h4⟩, _⟩ := h
  obtain ⟨a, c, rfl, _⟩ := own_slice h3; rfl
theorem flatten_get {k : Nat} : ∀ {us : List (List Value)}, (∀ u ∈ us, u.length = k) → ∀ (i r : Nat) (hi : i < us.length), r < k → us.flatten[i * k + r]? = us[i][r]?
  | [], _, i, r, hi, _ => by simp at hi
  | u :: us, h, 0, r, hi, hr => by
    rw [List.flatten_cons, List.getElem?_append_left (by rw [h u List.mem_cons_self]; omega)]; simp
  | u :: us, h, i + 1, r, hi, hr => by
    have hi' : i < us.length := by simpa using hi
    have hu := h u List.mem_cons_self
    rw [List.flatten_cons, List.getElem?_append_right (by rw [hu, Nat.add_mul]; omega), hu, show (i + 1) * k + r - k = i * k + r from by rw [Nat.add_mul]; omega]
    exact flatten_get (fun u hu => h u (List.mem_cons_of_mem _ hu)) i r hi' hr
theorem flatten_len {k : Nat} : ∀ {us : List (List Value)}, (∀ u ∈ us, u.length = k) → us.flatten.length = us.length * k
  | [], _ => by simp
  | u :: us, h => by
    rw [List.flatten_cons, List.length_append, h u List.mem_cons_self, flatten_len fun u hu => h u (List.mem_cons_of_mem _ hu), List.length_cons, Nat.add_mul]; omega
theorem RowsOf.slice (h : RowsOf El w base e s l ys G) : ∃ a c, l = .slice a ys.length c ∧ ys.length ≤ c ∧ c ≤ maxLen ∧ (a = none → ys.length = 0) := by
  obtain ⟨⟨us, h1, h2, h3, h4⟩, _⟩ := h
  obtain ⟨a, c, h5, h6, h7, h8, h9⟩ := own_sl h3
  exact ⟨a, c, h5, h6, h7, h9⟩
/-- An element of the row. -/
theorem RowsOf.get (h : RowsOf El w base e s l ys G) {j : Nat} (hj : j < ys.length) : ∃ u g c cs, l = .slice (some ⟨g, 0, none⟩) ys.length c ∧ w.heap[g]? = some (.cells cs e (0, 0)) ∧ u.length = s ∧
    (∀ r, r < s → cs[j * s + r]? = u[r]?) ∧ j * s + s ≤ cs.size ∧ cs.extract (j * s) (j * s + s) = u.toArray ∧ El w u ys[j] G := by
  obtain ⟨⟨us, h1, h2, h3, h4⟩, _⟩ := h
  obtain ⟨h5, ⟨_, h6⟩ | ⟨g, cap, cur, rfl, k3, k4, k5, k6, k7, k8⟩⟩ := h3
  · omega
  · have hju : j < us.length := by omega
    have hul := h2 _ (List.getElem_mem hju)
    have hjs : (j + 1) * s ≤ ys.length * s := Nat.mul_le_mul_right _ hj
    rw [Nat.add_mul, Nat.one_mul] at hjs
    have hsz : j * s + s ≤ cur.size := by rw [k7]; exact Nat.le_trans hjs (Nat.mul_le_mul_right _ k5)
    have hg : ∀ r, r < s → cur[j * s + r]? = us[j][r]? := fun r hr => by
      have := flatten_get h2 j r hju hr
      rw [← this, ← k8, List.getElem?_take, if_pos (by omega)]; simp
    refine ⟨us[j], g, cap, cur, rfl, k4, hul, hg, hsz, ?_, h4 j _ _ (by simp [hju]) (by simp [hj])⟩
    apply Array.ext_getElem?
    intro r
    rw [Array.getElem?_extract]
    by_cases hr : r < s
    · rw [if_pos (by omega), hg r hr]; simp
    · rw [if_neg (by omega), Array.getElem?_eq_none (by simp [hul]; omega)]
/-- A row gets one more element. -/
theorem op_push {bytes : Nat} {uv : Value} {u : List Value} {G2 : Nat → Prop} (hE : ElOk El) (ha : apOf P t = some (e, s, bytes)) (hl : sliceLit P t 1 [(0, uv)] = some (e, u.toArray)) (hu : u.length = s) (hone : ∀ x ∈ u, x.oneCell' = true)
    (hR : RowsOf El w base e s l ys G) (hy : El w u y G2) (hG2 : ∀ c, G2 c → base ≤ c ∧ c < w.heap.size) (hoff : ∀ b, l.ownBlock = some b → ¬ G2 b) (h63 : (ys.length + 1) * (bytes + 1) ≤ 140737488355328) (hbase : base ≤ w.heap.size)
    (hK : ∀ l' w', Frm (fun b => some b = l.ownBlock) w w' → RowsOf El w' base e s l' (ys ++ [y]) (fun c => G c ∨ G2 c) → (l'.ownBlock = l.ownBlock ∨ ∃ b, l'.ownBlock = some b ∧ w.heap.size ≤ b) → K l' w') :
    (nice P).op (.buildSlice t 1 [(0, uv)]) w (fun v w => (nice P).op (.blt .append [t, t] t [l, v]) w K Kp) Kp := by
  obtain ⟨i, z, ht, hi, hz, hsize, hby, hzs, hsz⟩ := apOf_spec ha
  refine op_lit_ok hl fun w1 k1 z1 b1 => ?_
  have hR1 := hR.still hE k1
  obtain ⟨⟨us, h1, h2, h3, h4⟩, h5, h6⟩ := hR1
  have hr : Row w1 (some ⟨w.heap.size, 0, none⟩) u := .inr ⟨_, 0, _, _, _, rfl, b1, fun j v hv => by simpa using hv⟩
  refine op_append (base := base) (n := ys.length) (m := 1) ha h3 hr (by rw [hu]; simp) hone (fun h => nomatch h) h63 (Nat.le_trans hbase k1.size) fun l' w' ho hf hb => ?_
  have hlow := hR.low
  have hGM : ∀ c, G c → ¬ some c = l.ownBlock := fun c hc e => h6 c e.symm hc
  have hGM2 : ∀ c, G2 c → ¬ some c = l.ownBlock := fun c hc e => hoff c e.symm hc
  have hnew : ∀ b, l'.ownBlock = some b → l.ownBlock = some b ∨ w.heap.size ≤ b := fun b hb' => by
    rcases hb with h | h
    · rw [h] at hb'; exact .inl hb'
    · rw [h] at hb'; have := Option.some.inj hb'; have := k1.size; exact .inr (by omega)
  refine hK l' w' (k1.fst hf) ⟨⟨us ++ [u], by simp [h1], fun x hx => ?_, ?_, fun j x y' hx hy' => ?_⟩, fun c hc => ?_, fun b hb' hc => ?_⟩ ?_
  · rcases List.mem_append.1 hx with hx | hx
    · exact h2 x hx
    · rw [List.mem_singleton.1 hx]; exact hu
  · simpa using ho
  · by_cases hj : j < us.length
    · rw [List.getElem?_append_left hj] at hx
      rw [List.getElem?_append_left (by omega)] at hy'
      exact hE.mono (hE.frame (h4 j x y' hx hy') hf hGM) fun c hc => .inl hc
    · have hj' : j = us.length := by
        have := (List.getElem?_eq_some_iff.1 hx).1
        simp at this; omega
      subst hj'
      rw [List.getElem?_append_right (by omega)] at hx
      rw [h1, List.getElem?_append_right (by omega)] at hy'
      simp at hx hy'
      subst hx hy'
      exact hE.mono (hE.frame (hE.frame hy k1 fun _ _ h => h) hf hGM2) fun c hc => .inr hc
  · have := hf.size; have := k1.size
    rcases hc with hc | hc
    · have := hlow c hc; omega
    · have := hG2 c hc; omega
  · rcases hnew b hb' with h | h
    · rcases hc with hc | hc
      · exact hR.off b h hc
      · exact hoff b h hc
    · rcases hc with hc | hc
      · have := hlow b hc; omega
      · have := hG2 b hc; omega
  · rcases hb with h | h
    · exact .inl h
    · exact .inr ⟨_, h, k1.size⟩
/-- Elements that hold nothing further. -/
def Flat {α : Type} (f : α → List Value) : World → List Value → α → (Nat → Prop) → Prop := fun _ u y _ => u = f y
theorem flat_ok {α : Type} (f : α → List Value) : ElOk (Flat f) := ⟨fun h _ _ => h, fun h _ => h⟩
theorem RowsOf.flat {f : α → List Value} (h : RowsOf (Flat f) w base e s l ys G) : IsSl w l ys.length (ys.flatMap f) := by
  obtain ⟨⟨us, h1, h2, h3, h4⟩, _⟩ := h
  have : us = ys.map f := by
    apply List.ext_getElem?
    intro j
    by_cases hj : j < us.length
    · rw [List.getElem?_eq_getElem hj, List.getElem?_map, List.getElem?_eq_getElem (by omega)]
      have := h4 j us[j] (ys[j]'(by omega)) (List.getElem?_eq_getElem _) (List.getElem?_eq_getElem _)
      rw [this]; rfl
    · rw [List.getElem?_eq_none (by omega), List.getElem?_eq_none (by simp; omega)]
  rw [this] at h3
  have := own_sl h3
  rwa [← List.flatMap_def] at this
end Go.Vc
namespace Go.Vc
variable {P : Program} {w w' : World} {K : Value → World → Prop} {Kp : KP} {t e : TypeId} {s base : Nat} {α : Type} {El : World → List Value → α → (Nat → Prop) → Prop} {y : α}
/-- A row of one element. -/
theorem op_row1 {bytes : Nat} {uv : Value} {u : List Value} {G2 : Nat → Prop} (hE : ElOk El) (ha : apOf P t = some (e, s, bytes)) (hl : sliceLit P t 1 [(0, uv)] = some (e, u.toArray)) (hu : u.length = s)
    (hy : El w u y G2) (hG2 : ∀ c, G2 c → base ≤ c ∧ c < w.heap.size) (hbase : base ≤ w.heap.size)
    (hK : ∀ l' w', Frm (fun _ => False) w w' → RowsOf El w' base e s l' [y] G2 → l'.ownBlock = some w.heap.size → K l' w') :
    (nice P).op (.buildSlice t 1 [(0, uv)]) w K Kp := by
  refine op_lit_ok hl fun w1 k1 z1 b1 => ?_
  have hr : Rw w1 e s w.heap.size 1 u := ⟨_, b1, by simp [hu], by omega, by simp, by simp [maxLen]⟩
  have ho : w1.ownsRow base e s (.slice (some ⟨w.heap.size, 0, none⟩) 1 1) 1 u := by
    obtain ⟨h1, ⟨_, h2⟩ | ⟨g, cap, cur, h2, h3, h4⟩⟩ := hr.own (n := 1) (by rw [hu]; simp) (Nat.le_refl _)
    · omega
    · cases h2
      exact ⟨h1, .inr ⟨_, _, cur, rfl, hbase, h4⟩⟩
  refine hK _ w1 k1 ⟨⟨[u], rfl, by simpa using hu, by simpa using ho, fun j u' y' hu' hy' => ?_⟩, fun c hc => ⟨(hG2 c hc).1, Nat.lt_of_lt_of_le (hG2 c hc).2 k1.size⟩, fun b hb hc => ?_⟩ rfl
  · cases j with
    | zero =>
      simp at hu' hy'
      subst hu' hy'
      exact hE.frame hy k1 fun _ _ h => h
    | succ j => simp at hu'
  · have hb : w.heap.size = b := Option.some.inj hb
    subst hb
    exact Nat.lt_irrefl _ (hG2 _ hc).2
end Go.Vc
namespace Go.Vc
variable {P : Program} {w w' : World} {K : Value → World → Prop} {Kp : KP} {t e : TypeId} {s base : Nat} {α : Type} {f : α → List Value} {ys zs : List α} {l v2 : Value}
/-- A row of one's own is lengthened by a slice. -/
theorem op_concat {bytes : Nat} (ha : apOf P t = some (e, s, bytes)) (hf : ∀ x, (f x).length = s) (hone : ∀ x, ∀ u ∈ f x, u.oneCell' = true) (hR : RowsOf (Flat f) w base e s l ys (fun _ => False)) (h2 : IsSl w v2 zs.length (zs.flatMap f))
    (h63 : (ys.length + zs.length) * (bytes + 1) ≤ 140737488355328) (hbase : base ≤ w.heap.size)
    (hK : ∀ l' w', Frm (fun b => some b = l.ownBlock) w w' → RowsOf (Flat f) w' base e s l' (ys ++ zs) (fun _ => False) → K l' w') : (nice P).op (.blt .append [t, t] t [l, v2]) w K Kp := by
  obtain ⟨⟨us, h1, h3, h4, h5⟩, h6, h7⟩ := hR
  obtain ⟨a, c, rfl, hc, hm, hr, hn⟩ := h2
  refine op_append (base := base) (n := ys.length) (m := zs.length) ha h4 hr (flatMap_len hf zs) (fun u hu => by obtain ⟨x, _, hx⟩ := List.mem_flatMap.1 hu; exact hone x u hx) hn h63 hbase fun l' w' ho hfr hb => ?_
  have hus : us = ys.map f := by
    apply List.ext_getElem?
    intro j
    by_cases hj : j < us.length
    · rw [List.getElem?_eq_getElem hj, List.getElem?_map, List.getElem?_eq_getElem (by omega)]
      have := h5 j us[j] (ys[j]'(by omega)) (List.getElem?_eq_getElem _) (List.getElem?_eq_getElem _)
      rw [this]; rfl
    · rw [List.getElem?_eq_none (by omega), List.getElem?_eq_none (by simp; omega)]
  refine hK l' w' hfr ⟨⟨(ys ++ zs).map f, by simp, fun u hu => by obtain ⟨x, _, rfl⟩ := List.mem_map.1 hu; exact hf x, ?_, fun j u y hu hy => ?_⟩, fun _ h => h.elim, fun _ _ h => h⟩
  · rw [List.length_append]
    rw [hus] at ho
    have e1 : ((ys ++ zs).map f).flatten = (ys.map f).flatten ++ zs.flatMap f := by simp [List.flatMap_def]
    rw [e1]; exact ho
  · rw [List.getElem?_map, hy] at hu
    exact (Option.some.inj hu).symm
end Go.Vc
namespace Go.Vc
variable {P : Program} {w w' : World} {K : Value → World → Prop} {Kp : KP} {t e : TypeId} {s base : Nat} {α : Type} {f : α → List Value} {ys zs : List α} {l v2 : Value} {M : Nat → Prop} {y : α}
abbrev FRow (f : α → List Value) (w : World) (base : Nat) (e : TypeId) (s : Nat) (l : Value) (ys : List α) : Prop := RowsOf (Flat f) w base e s l ys (fun _ => False)
theorem frow_frame (h : FRow f w base e s l ys) (hf : Frm M w w') (hl : ∀ b, l.ownBlock = some b → ¬ M b) : FRow f w' base e s l ys := h.frame (flat_ok f) hf (fun _ h => h.elim) hl
theorem frow_still (h : FRow f w base e s l ys) (hf : Frm (fun _ => False) w w') : FRow f w' base e s l ys := frow_frame h hf fun _ _ h => h
/-- A row gets one more element that holds nothing further. -/
theorem op_pushF {bytes : Nat} {uv : Value} (ha : apOf P t = some (e, s, bytes)) (hl : sliceLit P t 1 [(0, uv)] = some (e, (f y).toArray)) (hf : ∀ x, (f x).length = s) (hone : ∀ x, ∀ u ∈ f x, u.oneCell' = true)
    (hR : FRow f w base e s l ys) (h63 : (ys.length + 1) * (bytes + 1) ≤ 140737488355328) (hbase : base ≤ w.heap.size)
    (hK : ∀ l' w', Frm (fun b => some b = l.ownBlock) w w' → FRow f w' base e s l' (ys ++ [y]) → (l'.ownBlock = l.ownBlock ∨ ∃ b, l'.ownBlock = some b ∧ w.heap.size ≤ b) → K l' w') :
    (nice P).op (.buildSlice t 1 [(0, uv)]) w (fun v w => (nice P).op (.blt .append [t, t] t [l, v]) w K Kp) Kp :=
  op_push (flat_ok f) ha hl (hf y) (hone y) hR rfl (G2 := fun _ => False) (fun _ h => h.elim) (fun _ _ h => h) h63 hbase fun l' w' k' hR' ho => hK l' w' k' (hR'.mono (flat_ok f) (fun _ h => h.elim id id) (fun _ h => h.elim) fun _ _ h => h) ho
/-- An element of a flat row. -/
theorem frow_get (h : FRow f w base e s l ys) {j : Nat} (hj : j < ys.length) : ∃ g c cs, l = .slice (some ⟨g, 0, none⟩) ys.length c ∧ w.heap[g]? = some (.cells cs e (0, 0)) ∧ (∀ r, r < s → cs[j * s + r]? = (f ys[j])[r]?) ∧ j * s + s ≤ cs.size ∧ cs.extract (j * s) (j * s + s) = (f ys[j]).toArray := by
  obtain ⟨u, g, c, cs, h1, h2, h3, h4, h5, h6, h7⟩ := h.get hj
  have : u = f ys[j] := h7
  subst this
  exact ⟨g, c, cs, h1, h2, h4, h5, h6⟩
end Go.Vc
namespace Go.Vc
theorem Row.old {w w' : World} {M : Nat → Prop} {a : Option Addr} {vs : List Value} (h : Row w a vs) (hf : Frm M w w') (hM : ∀ b, M b → w.heap.size ≤ b) : Row w' a vs := by
  rcases h with h | ⟨b, o, cs, e, fz, h1, h2, h3⟩
  · exact .inl h
  · exact .inr ⟨b, o, cs, e, fz, h1, hf.get h2 fun hb => by have := hM b hb; have := lt_of_get h2; omega, h3⟩
end Go.Vc
end
section
/- What a version of a map tells: mapSeen. -/
set_option maxRecDepth 100000
set_option maxHeartbeats 2000000
set_option linter.unusedSimpArgs false
set_option linter.unusedVariables false
set_option linter.unusedSectionVars false
namespace Go.Proofs.Ytbghmbbhkoniiaa.I
open Go.Vc Go.Proofs Go.Proofs.Ytbghmbbhkoniiaa Go.Vc.Nd
variable {w w' : World} {v hv : Value} {t : Tr} {F F' : Nat → Prop} {K : Value → World → Prop} {Kp : KP} {hash : Ky → Nat} {k : Ky} {x : Vl} {l s rb : Nat} {r0 mu nl : Bool}

theorem apPair : apOf Try.prog 39 = some (46, 2, 16) := by kernel_rfl
/-- Pairs as a slice. -/
def IsPairs (w : World) (v : Value) (L : List (Ky × Vl)) : Prop := IsSl w v L.length (L.flatMap ent)
def lenAt (w : World) (b j : Nat) : Nat := match w.heap[b]? with
  | some (.cells cs _ _) => match cs[j]? with
    | some (.slice _ n _) => n
    | _ => 0
  | _ => 0
theorem nextV_cons {e : Ky × Vl} {L : List (Ky × Vl)} : nextV (e :: L) = .tuple #[ek e.1, ev e.2, .bool true] := rfl
theorem mapSeen_ok {ib mb n : Nat} {L : List (Ky × Vl)} (h : At w ib mb F hash L) (hF : ¬ F ib) (hFl : ∀ c, F c → c < w.heap.size) (hL : L.length < 2 ^ 31)
    (hK : ∀ pv w', Frm (· = ib) w w' → RowsOf (Flat ent) w' w.heap.size 46 2 pv L (fun _ => False) → K (.agg #[.int .i64 n, pv]) w') : Calls Try.prog 35 #[.int .i64 n, ptr ib] w (ret K Kp) := by
  refine vc35_calls ?_
  simp only [vc35]
  refine op_alloc_ok (z := .agg #[.int .i64 0, .slice none 0 0]) (by kernel_rfl) fun w1 k1 z1 b1 => ?_
  simp only [cells_agg] at b1
  simp [-getElem?_pos, -Array.getElem?_eq_getElem, List.getElem?_cons_zero, List.getElem?_cons_succ, -Int.natCast_add, add_spot, and_assoc, Br_dec, -op_box, -op_alloc_41, -op_lit_39_1, -op_st_41, -op_st_39, ]
  refine op_alloc_ok (z := .agg #[.int .i64 0, .slice none 0 0]) (by kernel_rfl) fun w2 k2 z2 b2 => ?_
  simp only [cells_agg] at b2
  refine op_storeN_ok (n := 2) (by kernel_rfl) b2 rfl (by decide) (by simp) fun w3 k3 z3 b3 => ?_
  have n1 := k1.size
  have n2 := k2.size
  have n3 := k3.size
  have b13 := k3.get (k2.get b1 fun h => h) (by omega)
  have hib := h.lt
  have b3 : w3.heap[w1.heap.size]? = some (.cells #[.int .i64 n, .slice none 0 0] 41 (0, 0)) := by simpa [ow] using b3
  have k03 : Frm (fun _ => False) w w3 := ((k1.no k2).old k3 fun c hc => .inr (by omega))
  have hA3 : At w3 ib mb F hash L := h.frame k03 (fun _ _ h => h) fun h => h
  obtain ⟨I, hI⟩ : ∃ I : World → Prop, ∀ wl, I wl ↔ ∃ D L' pv, D ++ L' = L ∧ Frm (· = ib) w wl ∧ w3.heap.size ≤ wl.heap.size ∧ At wl ib mb F hash L' ∧ wl.heap[w.heap.size]? = some (.cells #[.int .i64 0, .slice none 0 0] 41 (0, 0)) ∧
      wl.heap[w1.heap.size]? = some (.cells #[.int .i64 n, pv] 41 (0, 0)) ∧ RowsOf (Flat ent) wl w3.heap.size 46 2 pv D (fun _ => False) := ⟨_, fun _ => Iff.rfl⟩
  refine Lp.intro I (fun wl => L.length - lenAt wl w1.heap.size 1) ⟨(hI _).2 ⟨[], L, _, rfl, k03.to fun _ h => h.elim, Nat.le_refl _, hA3, b13, b3, rows_nil⟩, ?_⟩
  intro wl hl
  obtain ⟨D, L', pv, hDL, kl, zl, hA, bz, bo, hR⟩ := (hI _).1 hl
  have hib2 : ib ≠ w1.heap.size := by omega
  have hlow := hR.own_lt
  refine done_ok hA ?_
  cases L' with
  | nil =>
    simp only [List.append_nil] at hDL
    subst hDL
    simp [-getElem?_pos, -Array.getElem?_eq_getElem, List.getElem?_cons_zero, List.getElem?_cons_succ, -Int.natCast_add, add_spot, and_assoc, Br_dec, -op_box, -op_alloc_41, -op_lit_39_1, -op_st_41, -op_st_39, bo]
    have hx : (#[Value.int .i64 (n : Int), pv] : Array Value).extract 0 2 = #[.int .i64 n, pv] := rfl
    refine op_storeN_ok (n := 2) (by kernel_rfl) bz rfl (by decide) (by simp [hR.one]) fun w4 k4 z4 b4 => ?_
    have b4 : w4.heap[w.heap.size]? = some (.cells #[.int .i64 n, pv] 41 (0, 0)) := by simpa [ow] using b4
    simp [-getElem?_pos, -Array.getElem?_eq_getElem, List.getElem?_cons_zero, List.getElem?_cons_succ, -Int.natCast_add, add_spot, and_assoc, Br_dec, -op_box, -op_alloc_41, -op_lit_39_1, -op_st_41, -op_st_39, b4, hx]
    refine hK pv w4 (kl.old k4 fun c hc => .inr (by omega)) ((hR.frame (flat_ok _) k4 (fun _ h => h.elim) fun b hb he => ?_).base_le (by omega))
    have := hlow b hb; omega
  | cons e L' =>
    simp [-getElem?_pos, -Array.getElem?_eq_getElem, List.getElem?_cons_zero, List.getElem?_cons_succ, -Int.natCast_add, add_spot, and_assoc, Br_dec, -op_box, -op_alloc_41, -op_lit_39_1, -op_st_41, -op_st_39, ]
    refine Next_ok hA hF fun w4 k4 z4 hA4 => ?_
    rw [nextV_cons]
    have bo4 := k4.get bo (fun h => hib2 h.symm)
    have bz4 := k4.get bz (by omega)
    have hR4 := hR.frame (flat_ok _) k4 (fun _ h => h.elim) fun b hb he => by have := hlow b hb; omega
    simp [-getElem?_pos, -Array.getElem?_eq_getElem, List.getElem?_cons_zero, List.getElem?_cons_succ, -Int.natCast_add, add_spot, and_assoc, Br_dec, -op_box, -op_alloc_41, -op_lit_39_1, -op_st_41, -op_st_39, bo4, ek, ev]
    have hlen : D.length + L'.length + 1 = L.length := by rw [← hDL]; simp; omega
    refine op_push (u := ent e) (flat_ok ent) apPair lit_39_1 rfl (fun u hu => ents_one (es := [e]) u (by simpa [ents] using hu)) hR4 rfl (G2 := fun _ => False) (fun _ h => h.elim) (fun _ _ h => h) (by omega) (by omega) fun l' w5 k5 hR5 hown5 => ?_
    have hlow4 := hR4.own_lt
    have bo5 := k5.get bo4 (fun h => by have := hlow4 _ h.symm; omega)
    have bz5 := k5.get bz4 (fun h => by have := hlow4 _ h.symm; omega)
    refine op_store_ok (by kernel_rfl) bo5 (by simp) hR5.one fun w6 k6 z6 b6 => ?_
    have b6 : w6.heap[w1.heap.size]? = some (.cells #[.int .i64 n, l'] 41 (0, 0)) := by simpa using b6
    have hlow5 := hR5.own_lt
    have hF5 : ∀ c, F c → ¬ some c = pv.ownBlock := fun c hc he => by have := hlow4 _ he.symm; have := hFl c hc; omega
    have hA6 := (hA4.frame k5 hF5 (fun he => by have := hlow4 _ he.symm; omega)).frame k6 (fun c hc he => by have := hFl c hc; omega) hib2
    have n4 := k4.size
    have n5 := k5.size
    obtain ⟨a, c, rfl, _⟩ := hR5.slice
    refine ⟨(hI _).2 ⟨D ++ [e], L', _, by rw [← hDL]; simp, ((kl.trans k4 fun _ h _ => h).old k5 fun c hc => ?_).old k6 fun c hc => .inr (by omega), by omega, hA6, k6.get bz5 (by omega), b6, ?_⟩, ?_⟩
    · have := hlow4 _ hc.symm; exact .inr (by omega)
    · exact (hR5.frame (flat_ok _) k6 (fun _ h => h.elim (fun h => h.elim) fun h => h.elim) fun b hb he => by have := hlow5 b hb; omega).mono (flat_ok _) (fun _ h => h.elim (fun h => h.elim) fun h => h.elim) (fun _ h => h.elim) fun _ _ h => h
    · have e1 : lenAt wl w1.heap.size 1 = D.length := by
        obtain ⟨a0, c0, rfl, _⟩ := hR.slice
        simp [lenAt, bo]
      have e2 : lenAt w6 w1.heap.size 1 = D.length + 1 := by simp [lenAt, b6]
      rw [e1, e2]; omega
end Go.Proofs.Ytbghmbbhkoniiaa.I
end
section
/- The hasher of the thin package. -/
set_option maxRecDepth 100000
set_option linter.unusedSimpArgs false
set_option linter.unusedVariables false
set_option linter.unusedSectionVars false
namespace Go.Proofs.Ytbghmbbhkoniiaa.I
open Go.Vc Go.Proofs Go.Proofs.Ytbghmbbhkoniiaa Go.Vc.Nd
variable {w w' : World} {K : Value → World → Prop} {Kp : KP}

/-- The hash that the thin package's hasher makes of a key. -/
def dataHash (md ml sh : Nat) (k : Int) : Nat := (IntKind.u32.wrap ((IntKind.u32.wrap (IntKind.u32.wrap k * (ml : Int))).tmod (md : Int) * 2 ^ min sh IntKind.u32.bits)).toNat
def dataV (md ml sh : Nat) : Value := .iface 143 (.agg #[.int .u32 md, .int .u32 ml, .int .u8 sh])
theorem dataHasher_ok {md ml sh : Nat} (hm : 0 < md) : IsH (dataV md ml sh) (dataHash md ml sh) where
  lt k := by
    unfold dataHash
    have : 0 ≤ IntKind.u32.wrap ((IntKind.u32.wrap (IntKind.u32.wrap k * (ml : Int))).tmod (md : Int) * 2 ^ min sh IntKind.u32.bits) ∧ IntKind.u32.wrap ((IntKind.u32.wrap (IntKind.u32.wrap k * (ml : Int))).tmod (md : Int) * 2 ^ min sh IntKind.u32.bits) < 4294967296 := by
      rw [IntKind.wrap_u32]; omega
    omega
  eqv := fun {a b w K Kp} hK => by
    simp only [dataV, inv_143_114]
    refine vc114_calls ?_
    simp only [vc114]
    refine op_box_ok fun w1 k1 z1 b1 => ?_
    simp only [ek, op_eql]
    exact hK w1 k1
  hsh := fun {k w K Kp} hK => by
    simp only [dataV, inv_143_115]
    refine vc115_calls ?_
    simp only [vc115]
    refine op_box_ok fun w1 k1 z1 b1 => ?_
    simp only [cells_agg] at b1
    have hne : ¬ ((md : Int) = 0) := by omega
    simp [-getElem?_pos, -Array.getElem?_eq_getElem, List.getElem?_cons_zero, List.getElem?_cons_succ, -Int.natCast_add, add_spot, and_assoc, Br_dec, -op_box, b1, ek, hne]
    have := hK w1.drew (k1.no (Frm.drew _))
    have hd : ((dataHash md ml sh k : Nat) : Int) = IntKind.u32.wrap ((IntKind.u32.wrap (IntKind.u32.wrap k * (ml : Int))).tmod (md : Int) * 2 ^ min sh IntKind.u32.bits) := by
      unfold dataHash
      exact Int.toNat_of_nonneg (by rw [IntKind.wrap_u32]; omega)
    rw [hd] at this
    first | exact this | exact ⟨by omega, this⟩
  nilE := by intro K1; simp [dataV]
  iface := ⟨_, _, rfl⟩
end Go.Proofs.Ytbghmbbhkoniiaa.I
end
section
/- Versions of maps made by steps, and what they tell: mapsOf, MapRun. -/
set_option maxRecDepth 100000
set_option maxHeartbeats 2000000
set_option linter.unusedSimpArgs false
set_option linter.unusedVariables false
set_option linter.unusedSectionVars false
namespace Go.Proofs.Ytbghmbbhkoniiaa.I
open Go.Vc Go.Proofs Go.Proofs.Ytbghmbbhkoniiaa Go.Vc.Nd
variable {w w' : World} {v hv : Value} {t : Tr} {F F' G : Nat → Prop} {K : Value → World → Prop} {Kp : KP} {hash : Ky → Nat} {k : Ky} {x : Vl} {l s rb md ml sh : Nat} {r0 mu nl : Bool}

def hval (md ml sh : Nat) : Value := .agg #[.int .u32 md, .int .u32 ml, .int .u8 sh]
def hashOf (md ml sh : Nat) : Ky → Nat := if md = 0 then defHash else dataHash md ml sh
theorem hashOf_lt (md ml sh : Nat) (k : Ky) : hashOf md ml sh k < 2 ^ 32 := by
  unfold hashOf
  split
  · exact (defHasher_ok 0).lt k
  · exact (dataHasher_ok (by omega)).lt k
theorem hasher_ok (hK : ∀ h w', Frm (fun _ => False) w w' → h.oneCell' = true → (IsH h (hashOf md ml sh) ∨ decide (md = 0) = true ∧ hashOf md ml sh = defHash ∧ h = .nilIface) → K h w') : Calls Try.prog 41 #[hval md ml sh] w (ret K Kp) := by
  refine vc41_calls ?_
  simp only [vc41, hval]
  refine op_box_ok fun w1 k1 z1 b1 => ?_
  simp only [cells_agg] at b1
  have hx : (#[Value.int .u32 (md : Int), .int .u32 (ml : Int), .int .u8 (sh : Int)] : Array Value).extract 0 3 = #[.int .u32 md, .int .u32 ml, .int .u8 sh] := rfl
  simp [-getElem?_pos, -Array.getElem?_eq_getElem, List.getElem?_cons_zero, List.getElem?_cons_succ, -Int.natCast_add, add_spot, and_assoc, Br_dec, -op_box, -op_alloc_35, -op_st_35, -op_lit_88_1, -op_lit_36_1, b1]
  refine ⟨fun h0 => ?_, fun h0 => ?_⟩
  · have h0 : md = 0 := by omega
    refine hK .nilIface w1 k1 rfl (.inr ⟨by simp [h0], ?_, rfl⟩)
    rw [hashOf, if_pos h0]
  · have h0 : ¬ md = 0 := by omega
    refine hK (dataV md ml sh) w1 k1 rfl (.inl ?_)
    rw [hashOf, if_neg h0]
    exact dataHasher_ok (by omega)
theorem mapStep_ok {s : MStep} {n : Nat} (h0 : 0 ≤ s.fro) (h1 : s.fro < n) (h2 : s.kind ≤ 3) (h3 : 0 ≤ s.count) (h4 : s.count ≤ 100000) (hK : ∀ w', Frm (fun _ => False) w w' → K (.bool true) w') :
    Calls Try.prog 67 #[.agg s.cells.toArray, .int .i64 n] w (ret K Kp) := by
  refine vc67_calls ?_
  simp only [vc67]
  refine op_box_ok fun w1 k1 z1 b1 => ?_
  simp only [cells_agg, MStep.cells] at b1
  have e1 : (s.kind : Int) ≤ 3 := by omega
  have := hK w1 k1
  simp [-getElem?_pos, -Array.getElem?_eq_getElem, List.getElem?_cons_zero, List.getElem?_cons_succ, -Int.natCast_add, add_spot, and_assoc, Br_dec, -op_box, -op_alloc_35, -op_st_35, -op_lit_88_1, -op_lit_36_1, b1, h0, h1, e1]
  refine ⟨fun _ => this, fun _ => ?_⟩
  try simp [-getElem?_pos, -Array.getElem?_eq_getElem, List.getElem?_cons_zero, List.getElem?_cons_succ, -Int.natCast_add, add_spot, and_assoc, Br_dec, -op_box, -op_alloc_35, -op_st_35, -op_lit_88_1, -op_lit_36_1, h3, h4]
  first | exact this | exact ⟨this, fun h => absurd h (by omega)⟩

/-- A version: a pointer to a map. -/
def ElV (hash : Ky → Nat) (nl : Bool) : World → List Value → Tr → (Nat → Prop) → Prop := fun w u t G => ∃ b, u = [ptr b] ∧ Ver w b hash nl t G
theorem elV_ok (hash : Ky → Nat) (nl : Bool) : ElOk (ElV hash nl) :=
  ⟨fun ⟨b, hu, h⟩ hf hM => ⟨b, hu, h.frame hf hM⟩, fun ⟨b, hu, h⟩ hG => ⟨b, hu, h.mono hG⟩⟩
theorem apM : apOf Try.prog 88 = some (90, 1, 8) := by kernel_rfl
theorem apSeen : apOf Try.prog 36 = some (41, 2, 32) := by kernel_rfl
theorem cells5 (s : MStep) : (#[.int .u8 s.kind, .int .i64 s.fro, .int .i64 s.key, .int .i64 s.value, .int .i64 s.count] : Array Value).extract 0 5 = s.cells.toArray := rfl

/-- Versions, one behind the other. -/
theorem mapsOf_ok {a1 : Option Addr} {c1 : Nat} {steps : List MStep} (h1 : Row w a1 (steps.flatMap MStep.cells)) (hfit : MFit steps) (hc : mcost steps ≤ 900000)
    (hK : ∀ l w' G, Frm (fun _ => False) w w' → RowsOf (ElV (hashOf md ml sh) (decide (md = 0))) w' w.heap.size 90 1 l (versT (hashOf md ml sh) steps) G → K l w') :
    Calls Try.prog 34 #[hval md ml sh, .slice a1 steps.length c1] w (ret K Kp) := by
  have hn : steps.length ≤ mcost steps := by
    clear h1 hfit hc hK
    induction steps with
    | nil => simp
    | cons s l ih => simp only [mcost, List.map_cons, List.sum_cons, List.length_cons, MStep.cost] at ih ⊢; omega
  generalize hhash : hashOf md ml sh = hash at *
  generalize hnl : decide (md = 0) = nl at *
  have hE := elV_ok hash nl
  have hlt : ∀ k, hash k < 2 ^ 32 := fun k => by rw [← hhash]; exact hashOf_lt md ml sh k
  refine vc34_calls ?_
  simp only [vc34]
  refine op_box_ok fun w1 k1 z1 b1 => ?_
  simp only [hval, cells_agg] at b1
  have hx3 : (#[Value.int .u32 (md : Int), .int .u32 (ml : Int), .int .u8 (sh : Int)] : Array Value).extract 0 3 = #[.int .u32 md, .int .u32 ml, .int .u8 sh] := rfl
  simp [-getElem?_pos, -Array.getElem?_eq_getElem, List.getElem?_cons_zero, List.getElem?_cons_succ, -Int.natCast_add, add_spot, and_assoc, Br_dec, -op_box, -op_alloc_35, -op_st_35, -op_lit_88_1, -op_lit_36_1, b1, hx3]
  refine hasher_ok (md := md) (ml := ml) (sh := sh) fun h w2 k2 o2 hh2 => ?_
  rw [hhash, hnl] at hh2
  try simp [-getElem?_pos, -Array.getElem?_eq_getElem, List.getElem?_cons_zero, List.getElem?_cons_succ, -Int.natCast_add, add_spot, and_assoc, Br_dec, -op_box, -op_alloc_35, -op_st_35, -op_lit_88_1, -op_lit_36_1, ]
  refine ver_new_ok hh2 o2 fun w3 k3 z3 v3 => ?_
  have n1 := k1.size
  have n2 := k2.size
  have n3 := k3.size
  have k03 := (k1.no k2).no k3
  refine op_row1 (base := w.heap.size) (u := [ptr w2.heap.size]) hE apM (lit_88_1 rfl) rfl ⟨_, rfl, v3⟩ (fun c hc => by omega) (by omega) fun l4 w4 k4 hR4 ho4 => ?_
  have b4 := k4.get (k3.get (k2.get b1 fun h => h) fun h => h) fun h => h
  obtain ⟨a4, c4, rfl, _⟩ := hR4.slice
  try simp [-getElem?_pos, -Array.getElem?_eq_getElem, List.getElem?_cons_zero, List.getElem?_cons_succ, -Int.natCast_add, add_spot, and_assoc, Br_dec, -op_box, -op_alloc_35, -op_st_35, -op_lit_88_1, -op_lit_36_1, ]
  obtain ⟨I, hI⟩ : ∃ I : Value → Value → World → Prop, ∀ l v wl, I l v wl ↔ ∃ (i : Nat) (G : Nat → Prop), v = .int .i64 i ∧ i ≤ steps.length ∧ Frm (fun _ => False) w wl ∧ w1.heap.size ≤ wl.heap.size ∧
      wl.heap[w.heap.size]? = some (.cells #[.int .u32 md, .int .u32 ml, .int .u8 sh] 24 (0, 0)) ∧ RowsOf (ElV hash nl) wl (w.heap.size + 1) 90 1 l (versT hash (steps.take i)) G := ⟨_, fun _ _ _ => Iff.rfl⟩
  have hR4' : RowsOf (ElV hash nl) w4 (w.heap.size + 1) 90 1 (.slice a4 [Nd.emp (κ := Ky) (ν := Vl)].length c4) (versT hash (steps.take 0)) (· = w2.heap.size) := by
    obtain ⟨⟨us, g1, g2, g3, g4⟩, g5, g6⟩ := hR4
    refine ⟨⟨us, by simpa [versT, vers] using g1, g2, ?_, by simpa [versT, vers] using g4⟩, fun c hc => ⟨by omega, (g5 c hc).2⟩, g6⟩
    obtain ⟨q1, ⟨q2, q3⟩ | ⟨g, cap, cur, q2, q3, q4⟩⟩ := g3
    · simp at q3
    · refine ⟨by simpa [versT, vers] using q1, .inr ⟨g, cap, cur, by simpa [versT, vers] using q2, ?_, by simpa [versT, vers] using q4⟩⟩
      rw [q2] at ho4
      have e : g = w3.heap.size := Option.some.inj ho4
      omega
  refine Lp.intro I (fun _ v _ => steps.length - natOf v) ⟨(hI _ _ _).2 ⟨0, _, rfl, by omega, k03.no k4, by have := k4.size; omega, b4, hR4'⟩, ?_⟩
  intro wl l v hl
  obtain ⟨i, G, rfl, hi, kl, zl, bl, hR⟩ := (hI _ _ _).1 hl
  simp only [op_lss, Br_dec]
  refine ⟨fun hlt' => ?_, fun hnl' => ?_⟩
  rotate_left
  · have : i = steps.length := by omega
    subst this
    rw [List.take_length] at hR
    exact hK l wl G kl (hR.base_le (by omega))
  have hi' : i < steps.length := by omega
  have htk : steps.take (i + 1) = steps.take i ++ [steps[i]] := List.take_succ_eq_append_getElem hi'
  have hct := mcost_take steps (i + 1)
  rw [htk, mcost_snoc] at hct
  obtain ⟨f1, f2, f3, f4, f5⟩ := hfit i hi'
  obtain ⟨bp, o, cs, e, fz, rfl, hcs, hsz, hext⟩ := (h1.frame kl (fun _ _ h => h)).part mcells_len (by decide) hi'
  generalize hst : steps[i] = s at *
  have hlow := hR.own_lt
  simp [-getElem?_pos, -Array.getElem?_eq_getElem, List.getElem?_cons_zero, List.getElem?_cons_succ, -Int.natCast_add, add_spot, and_assoc, Br_dec, -op_box, -op_alloc_35, -op_st_35, -op_lit_88_1, -op_lit_36_1, hcs, hsz, hext]
  refine ⟨hi', ?_⟩
  refine op_alloc_ok (z := .agg #[.int .u8 0, .int .i64 0, .int .i64 0, .int .i64 0, .int .i64 0]) (by kernel_rfl) fun w5 k5 z5 b5 => ?_
  simp only [cells_agg] at b5
  refine op_storeN_ok (n := 5) (by kernel_rfl) b5 rfl (by decide) (by simp [MStep.cells]) fun w6 k6 z6 b6 => ?_
  have b6 : w6.heap[wl.heap.size]? = some (.cells s.cells.toArray 35 (0, 0)) := by
    rw [ow_all (by simp [MStep.cells])] at b6; simpa [MStep.cells] using b6
  have n5 := k5.size
  have n6 := k6.size
  have k56 : Frm (fun _ => False) wl w6 := k5.old k6 fun c hc => .inr (by omega)
  have bl6 := k56.get bl fun h => h
  simp [-getElem?_pos, -Array.getElem?_eq_getElem, List.getElem?_cons_zero, List.getElem?_cons_succ, -Int.natCast_add, add_spot, and_assoc, Br_dec, -op_box, -op_alloc_35, -op_st_35, -op_lit_88_1, -op_lit_36_1, bl6, hx3]
  refine hasher_ok (md := md) (ml := ml) (sh := sh) fun h7 w7 k7 o7 hh7 => ?_
  rw [hhash, hnl] at hh7
  try simp [-getElem?_pos, -Array.getElem?_eq_getElem, List.getElem?_cons_zero, List.getElem?_cons_succ, -Int.natCast_add, add_spot, and_assoc, Br_dec, -op_box, -op_alloc_35, -op_st_35, -op_lit_88_1, -op_lit_36_1, ]
  refine ver_new_ok hh7 o7 fun w8 k8 z8 v8 => ?_
  have n7 := k7.size
  have n8 := k8.size
  have k78 := k7.no k8
  have k58 := k56.no k78
  have b8 : w8.heap[wl.heap.size]? = some (.cells #[.int .u8 s.kind, .int .i64 s.fro, .int .i64 s.key, .int .i64 s.value, .int .i64 s.count] 35 (0, 0)) := k78.get b6 fun h => h
  have hR8 := hR.still hE k58
  have hlv : (versT hash (steps.take i)).length = i + 1 := by rw [versT, vers_len, List.length_take]; omega
  obtain ⟨q, hq⟩ : ∃ q : Nat, s.fro = q := ⟨s.fro.toNat, by omega⟩
  have hq1 : q < (versT hash (steps.take i)).length := by omega
  obtain ⟨u, g, c, cur, hlg, hg1, hg2, hg3, hg4, hg5, bv, hub, hV⟩ := hR8.get hq1
  subst hlg hub
  have hg0 : cur[q]? = some (ptr bv) := by have := hg3 0 (by decide); simpa using this
  generalize ht : (versT hash (steps.take i))[q] = t0 at hV
  have hsize : (toL t0).length ≤ mcost (steps.take i) := (vers_size hlt (steps.take i) q t0 (by rw [List.getElem?_eq_getElem hq1, ht])).2
  have hnext : versT hash (steps.take (i + 1)) = versT hash (steps.take i) ++ [trieStep hash t0 s] := by
    have e1 : (vers (trieStep hash) MStep.ref .emp (steps.take i))[s.ref]? = some t0 := by
      have : s.ref = q := by simp [MStep.ref, hq]
      rw [this, ← ht]; exact List.getElem?_eq_getElem hq1
    rw [htk, versT, vers_snoc, e1]; rfl
  have hcost : s.cost = 1 + s.count.toNat := rfl
  obtain ⟨J, hJ⟩ : ∃ J : Value → World → Prop, ∀ p w', J p w' ↔ ∃ (b' : Nat) (G2 : Nat → Prop), p = ptr b' ∧ Frm (fun _ => False) wl w' ∧ w8.heap.size ≤ w'.heap.size ∧ Ver w' b' hash nl (trieStep hash t0 s) G2 ∧ ∀ c, G2 c → (G c ∨ wl.heap.size ≤ c) ∧ c < w'.heap.size := ⟨_, fun _ _ => Iff.rfl⟩
  refine Jn.intro J ⟨?_, ?_⟩
  rotate_left
  · intro w9 m hm
    obtain ⟨b', G2, rfl, k9, n9, v9, hG2⟩ := (hJ _ _).1 hm
    refine op_push (u := [ptr b']) hE apM (lit_88_1 rfl) rfl (by simp [ptr]) (hR.still hE k9) ⟨b', rfl, v9⟩ (fun c hc => ?_) (fun b hb hc => ?_) (by omega) (by omega) fun l10 w10 k10 hR10 ho10 => ?_
    · refine ⟨?_, (hG2 c hc).2⟩
      rcases (hG2 c hc).1 with h | h
      · exact (hR.low c h).1
      · omega
    · rcases (hG2 b hc).1 with h | h
      · exact hR.off b hb h
      · have := hlow b hb; omega
    · try simp [-getElem?_pos, -Array.getElem?_eq_getElem, List.getElem?_cons_zero, List.getElem?_cons_succ, -Int.natCast_add, add_spot, and_assoc, Br_dec, -op_box, -op_alloc_35, -op_st_35, -op_lit_88_1, -op_lit_36_1, ]
      rw [wrap_i64_small (by omega) (by omega)]
      have hM10 : ∀ b, some b = (Value.slice (some { block := g, off := 0 }) (versT hash (steps.take i)).length c).ownBlock → w.heap.size + 1 ≤ b := fun b hb => (hlow b hb.symm).1
      refine ⟨(hI _ _ _).2 ⟨i + 1, _, by simp, by omega, (kl.no k9).old k10 fun c hc => .inr (by have := hM10 c hc; omega), by have := k10.size; omega, k10.get (k9.get bl fun h => h) fun he => by have := hM10 _ he; omega, by rw [hnext]; exact hR10⟩, ?_⟩
      simp only [natOf]; omega
  have hx5 := cells5 s
  simp [-getElem?_pos, -Array.getElem?_eq_getElem, List.getElem?_cons_zero, List.getElem?_cons_succ, -Int.natCast_add, add_spot, and_assoc, Br_dec, -op_box, -op_alloc_35, -op_st_35, -op_lit_88_1, -op_lit_36_1, b8, hx5]
  rw [hlv]
  refine mapStep_ok (s := s) (n := i + 1) f2 (by omega) f1 f4 f5 fun w9 k9 => ?_
  have b9 := k9.get b8 fun h => h
  have hg9 := k9.get hg1 fun h => h
  have hV9 := hV.still k9
  have n9 := k9.size
  simp [-getElem?_pos, -Array.getElem?_eq_getElem, List.getElem?_cons_zero, List.getElem?_cons_succ, -Int.natCast_add, add_spot, and_assoc, Br_dec, -op_box, -op_alloc_35, -op_st_35, -op_lit_88_1, -op_lit_36_1, b9, hq, hg9, hg0]
  refine ⟨by omega, ?_⟩
  have hdone : ∀ {b' : Nat} {wz : World} {t' : Tr} {G2 : Nat → Prop}, t' = trieStep hash t0 s → Frm (fun _ => False) w9 wz → Ver wz b' hash nl t' G2 → (∀ c, G2 c → (G c ∨ w9.heap.size ≤ c) ∧ c < wz.heap.size) → J (ptr b') wz := fun {b' wz t' G2} he kz vz hz => by
    subst he
    refine (hJ _ _).2 ⟨b', G2, rfl, (k58.no k9).no kz, by have := kz.size; omega, vz, fun c hc => ⟨?_, (hz c hc).2⟩⟩
    rcases (hz c hc).1 with h | h
    · exact .inl h
    · exact .inr (by omega)
  have hkind : s.kind = 0 ∨ s.kind = 1 ∨ s.kind = 2 ∨ s.kind = 3 := by omega
  have hdef := defHasher_ok
  rcases hkind with hk | hk | hk | hk
  · simp [-getElem?_pos, -Array.getElem?_eq_getElem, List.getElem?_cons_zero, List.getElem?_cons_succ, -Int.natCast_add, add_spot, and_assoc, Br_dec, -op_box, -op_alloc_35, -op_st_35, -op_lit_88_1, -op_lit_36_1, hk, b9]
    refine Set_ok (k := s.key) (x := s.value) hdef hV9 (by omega) fun b' wz F' kz vz hz => hdone (by simp only [trieStep, hk]) kz vz hz
  · simp [-getElem?_pos, -Array.getElem?_eq_getElem, List.getElem?_cons_zero, List.getElem?_cons_succ, -Int.natCast_add, add_spot, and_assoc, Br_dec, -op_box, -op_alloc_35, -op_st_35, -op_lit_88_1, -op_lit_36_1, hk, b9]
    refine Delete_ok (k := s.key) hV9 (by omega) fun b' wz F' kz vz hz => hdone (by simp only [trieStep, hk]) kz vz hz
  · simp [-getElem?_pos, -Array.getElem?_eq_getElem, List.getElem?_cons_zero, List.getElem?_cons_succ, -Int.natCast_add, add_spot, and_assoc, Br_dec, -op_box, -op_alloc_35, -op_st_35, -op_lit_88_1, -op_lit_36_1, hk]
    obtain ⟨I2, hI2⟩ : ∃ I2 : Value → Value → World → Prop, ∀ m v wz, I2 m v wz ↔ ∃ (j b' : Nat) (G2 : Nat → Prop), m = ptr b' ∧ v = .int .i64 j ∧ (j : Int) ≤ s.count ∧ Frm (fun _ => False) w9 wz ∧ Ver wz b' hash nl (setN hash s.key s.value t0 j) G2 ∧ (∀ c, G2 c → (G c ∨ w9.heap.size ≤ c) ∧ c < wz.heap.size) := ⟨_, fun _ _ _ => Iff.rfl⟩
    refine Lp.intro I2 (fun _ v _ => s.count.toNat - natOf v) ⟨(hI2 _ _ _).2 ⟨0, bv, G, rfl, rfl, by omega, Frm.refl, hV9, fun c hc => ⟨.inl hc, by have := (hR.low c hc).2; omega⟩⟩, ?_⟩
    intro wz m v hm
    obtain ⟨j, b', G2, rfl, rfl, hj, kz, vz, hz⟩ := (hI2 _ _ _).1 hm
    have bz := kz.get b9 fun h => h
    have hsz2 := (setN_len hlt hV9.1 (k := s.key) (v := s.value) j).2
    simp [-getElem?_pos, -Array.getElem?_eq_getElem, List.getElem?_cons_zero, List.getElem?_cons_succ, -Int.natCast_add, add_spot, and_assoc, Br_dec, -op_box, -op_alloc_35, -op_st_35, -op_lit_88_1, -op_lit_36_1, bz]
    refine ⟨fun hlt2 => ?_, fun hge => ?_⟩
    · refine Set_ok (k := kAt s.key s.value j) (x := (j : Int)) hdef vz (by omega) fun b'' wy F' ky vy hy => ?_
      rw [← setN_succ] at vy
      rw [wrap_i64_small (by omega) (by omega)]
      have := kz.size
      refine ⟨(hI2 _ _ _).2 ⟨j + 1, b'', F', rfl, by simp, by omega, kz.no ky, vy, fun c hc => ⟨?_, (hy c hc).2⟩⟩, ?_⟩
      · rcases (hy c hc).1 with h | h
        · exact (hz c h).1
        · exact .inr (by omega)
      · simp only [natOf]; omega
    · have : j = s.count.toNat := by omega
      subst this
      exact hdone (by simp only [trieStep, hk]) kz vz hz
  · simp [-getElem?_pos, -Array.getElem?_eq_getElem, List.getElem?_cons_zero, List.getElem?_cons_succ, -Int.natCast_add, add_spot, and_assoc, Br_dec, -op_box, -op_alloc_35, -op_st_35, -op_lit_88_1, -op_lit_36_1, hk]
    obtain ⟨I2, hI2⟩ : ∃ I2 : Value → Value → World → Prop, ∀ m v wz, I2 m v wz ↔ ∃ (j b' : Nat) (G2 : Nat → Prop), m = ptr b' ∧ v = .int .i64 j ∧ (j : Int) ≤ s.count ∧ Frm (fun _ => False) w9 wz ∧ Ver wz b' hash nl (delN hash s.key s.value t0 j) G2 ∧ (∀ c, G2 c → (G c ∨ w9.heap.size ≤ c) ∧ c < wz.heap.size) := ⟨_, fun _ _ _ => Iff.rfl⟩
    refine Lp.intro I2 (fun _ v _ => s.count.toNat - natOf v) ⟨(hI2 _ _ _).2 ⟨0, bv, G, rfl, rfl, by omega, Frm.refl, hV9, fun c hc => ⟨.inl hc, by have := (hR.low c hc).2; omega⟩⟩, ?_⟩
    intro wz m v hm
    obtain ⟨j, b', G2, rfl, rfl, hj, kz, vz, hz⟩ := (hI2 _ _ _).1 hm
    have bz := kz.get b9 fun h => h
    have hsz2 := (delN_len hV9.1 (k := s.key) (v := s.value) j).2
    simp [-getElem?_pos, -Array.getElem?_eq_getElem, List.getElem?_cons_zero, List.getElem?_cons_succ, -Int.natCast_add, add_spot, and_assoc, Br_dec, -op_box, -op_alloc_35, -op_st_35, -op_lit_88_1, -op_lit_36_1, bz]
    refine ⟨fun hlt2 => ?_, fun hge => ?_⟩
    · refine Delete_ok (k := kAt s.key s.value j) vz (by omega) fun b'' wy F' ky vy hy => ?_
      rw [← delN_succ] at vy
      rw [wrap_i64_small (by omega) (by omega)]
      have := kz.size
      refine ⟨(hI2 _ _ _).2 ⟨j + 1, b'', F', rfl, by simp, by omega, kz.no ky, vy, fun c hc => ⟨?_, (hy c hc).2⟩⟩, ?_⟩
      · rcases (hy c hc).1 with h | h
        · exact (hz c h).1
        · exact .inr (by omega)
      · simp only [natOf]; omega
    · have : j = s.count.toNat := by omega
      subst this
      exact hdone (by simp only [trieStep, hk]) kz vz hz
end Go.Proofs.Ytbghmbbhkoniiaa.I
end
section
/- MapRun: what all versions tell. -/
set_option maxRecDepth 100000
set_option maxHeartbeats 2000000
set_option linter.unusedSimpArgs false
set_option linter.unusedVariables false
set_option linter.unusedSectionVars false
namespace Go.Proofs.Ytbghmbbhkoniiaa.I
open Go.Vc Go.Proofs Go.Proofs.Ytbghmbbhkoniiaa Go.Vc.Nd
variable {w w' : World} {v hv : Value} {t : Tr} {F F' G : Nat → Prop} {K : Value → World → Prop} {Kp : KP} {hash : Ky → Nat} {k : Ky} {x : Vl} {l s rb md ml sh : Nat} {r0 mu nl : Bool}

/-- What a version tells. -/
def ElS : World → List Value → Tr → (Nat → Prop) → Prop := fun w u t G => ∃ pv, u = [.int .i64 (toL t).length, pv] ∧ IsPairs w pv (toL t) ∧ ∀ b, pv.ownBlock = some b → G b
theorem elS_ok : ElOk ElS :=
  ⟨fun ⟨pv, hu, h, hG⟩ hf hM => ⟨pv, hu, h.frame hf fun b hb => hM b (hG b hb), hG⟩, fun ⟨pv, hu, h, hG⟩ hG' => ⟨pv, hu, h, fun b hb => hG' b (hG b hb)⟩⟩
/-- A version is told: its length, its iterator, its pairs. -/
theorem told_ok {b : Nat} (h : Ver w b hash nl t F) (hF : ∀ c, F c → c < w.heap.size) (hL : (toL t).length < 2 ^ 31)
    (hK : ∀ pv w', Frm (fun _ => False) w w' → RowsOf (Flat ent) w' w.heap.size 46 2 pv (toL t) (fun _ => False) → K (.agg #[.int .i64 (toL t).length, pv]) w') :
    (nice Try.prog).call (.fn 36) [ptr b] w (fun v18 w => (nice Try.prog).call (.fn 37) [ptr b] w (fun v20 w => (nice Try.prog).call (.fn 35) [v18, v20] w K Kp) Kp) Kp := by
  simp only [call_36, call_37, call_35]
  refine ver_len_ok h ?_
  refine ver_iter_ok h hF fun ib w1 k1 hib hA => ?_
  have hib2 := hA.lt
  have n1 := k1.size
  refine mapSeen_ok hA (fun hc => by have := hF _ hc; omega) (fun c hc => by have := hF c hc; omega) hL fun pv w2 k2 hR2 => hK pv w2 (k1.old k2 fun c hc => .inr (by omega)) (hR2.base_le k1.size)
theorem mapRun_ok {a1 : Option Addr} {c1 : Nat} {steps : List MStep} (h1 : Row w a1 (steps.flatMap MStep.cells)) (hfit : MFit steps) (hc : mcost steps ≤ 900000)
    (hK : ∀ l w' G, Frm (fun _ => False) w w' → RowsOf ElS w' w.heap.size 41 2 l (versT (hashOf md ml sh) steps) G → K l w') :
    Calls Try.prog 16 #[hval md ml sh, .slice a1 steps.length c1] w (ret K Kp) := by
  refine vc16_calls ?_
  simp only [vc16]
  refine op_box_ok fun w1 k1 z1 b1 => ?_
  simp only [hval, cells_agg] at b1
  have hx3 : (#[Value.int .u32 (md : Int), .int .u32 (ml : Int), .int .u8 (sh : Int)] : Array Value).extract 0 3 = #[.int .u32 md, .int .u32 ml, .int .u8 sh] := rfl
  simp [-getElem?_pos, -Array.getElem?_eq_getElem, List.getElem?_cons_zero, List.getElem?_cons_succ, -Int.natCast_add, add_spot, and_assoc, Br_dec, -op_box, -op_lit_36_1, b1, hx3]
  refine mapsOf_ok (md := md) (ml := ml) (sh := sh) (h1.frame k1 fun _ _ h => h) hfit hc fun l w2 G k2 hR2 => ?_
  have hlt := hashOf_lt md ml sh
  generalize hashOf md ml sh = hash at *
  generalize decide (md = 0) = nl at *
  have hn : (versT hash steps).length = steps.length + 1 := vers_len steps
  have hcl : steps.length ≤ mcost steps := by
    clear h1 hfit hc hK hR2 hn
    induction steps with
    | nil => simp
    | cons s l ih => simp only [mcost, List.map_cons, List.sum_cons, List.length_cons, MStep.cost] at ih ⊢; omega
  have hsz := vers_size hlt steps
  generalize hvs : versT hash steps = vs at *
  obtain ⟨a2, c2, hl2, _⟩ := id hR2.slice
  subst hl2
  have n1 := k1.size
  have n2 := k2.size
  obtain ⟨I, hI⟩ : ∃ I : Value → Value → World → Prop, ∀ l v wl, I l v wl ↔ ∃ (i : Nat) (G' : Nat → Prop), v = .int .i64 i ∧ i ≤ vs.length ∧ Frm (fun _ => False) w2 wl ∧ RowsOf ElS wl w2.heap.size 41 2 l (vs.take i) G' := ⟨_, fun _ _ _ => Iff.rfl⟩
  try simp [-getElem?_pos, -Array.getElem?_eq_getElem, List.getElem?_cons_zero, List.getElem?_cons_succ, -Int.natCast_add, add_spot, and_assoc, Br_dec, -op_box, -op_lit_36_1, ]
  refine Lp.intro I (fun _ v _ => vs.length - natOf v) ⟨(hI _ _ _).2 ⟨0, _, rfl, by omega, Frm.refl, rows_nil⟩, ?_⟩
  intro wl l v hl
  obtain ⟨i, G', rfl, hi, kl, hR⟩ := (hI _ _ _).1 hl
  simp only [op_lss, Br_dec]
  refine ⟨fun hlt' => ?_, fun hnl' => ?_⟩
  rotate_left
  · have : i = vs.length := by omega
    subst this
    rw [List.take_length] at hR
    exact hK l wl G' ((k1.no k2).no kl) (hR.base_le (by omega))
  have hi' : i < vs.length := by omega
  have htk : vs.take (i + 1) = vs.take i ++ [vs[i]] := List.take_succ_eq_append_getElem hi'
  have hlow := hR.own_lt
  have nl' := kl.size
  obtain ⟨u, g, c, cur, hlg, hg1, hg2, hg3, hg4, hg5, bv, hub, hV⟩ := (hR2.still (elV_ok hash nl) kl).get hi'
  cases hlg
  subst hub
  have hg0 : cur[i]? = some (ptr bv) := by have := hg3 0 (by decide); simpa using this
  have hti := (hsz i vs[i] (by simp [hi'])).2
  generalize ht : vs[i] = t0 at *
  simp [-getElem?_pos, -Array.getElem?_eq_getElem, List.getElem?_cons_zero, List.getElem?_cons_succ, -Int.natCast_add, add_spot, and_assoc, Br_dec, -op_box, -op_lit_36_1, hg1, hg0]
  refine ⟨hi', ?_⟩
  have := @told_ok
  simp only [call_36, call_37, call_35] at this
  refine this hV (fun c hc => by have := (hR2.low c hc).2; omega) (by omega) fun pv w3 k3 hR3 => ?_
  have hlow3 := hR3.own_lt
  have n3 := k3.size
  have hR' := hR.still elS_ok k3
  refine op_push (u := [.int .i64 (toL t0).length, pv]) (G2 := fun c => pv.ownBlock = some c) elS_ok apSeen lit_36_1 rfl (by simp [hR3.one]) hR' ⟨pv, rfl, hR3.flat, fun b hb => hb⟩ (fun c hc => by have := hlow3 c hc; omega) (fun b hb hc => by have := hlow b hb; have := hlow3 b hc; omega) (by simp; omega) (by omega) fun l' w4 k4 hR4 ho4 => ?_
  try simp [-getElem?_pos, -Array.getElem?_eq_getElem, List.getElem?_cons_zero, List.getElem?_cons_succ, -Int.natCast_add, add_spot, and_assoc, Br_dec, -op_box, -op_lit_36_1, ]
  rw [wrap_i64_small (by omega) (by omega)]
  refine ⟨(hI _ _ _).2 ⟨i + 1, _, by simp, by omega, (kl.no k3).old k4 fun c hc => .inr (hlow c hc.symm).1, by rw [htk]; exact hR4⟩, ?_⟩
  simp only [natOf]; omega
end Go.Proofs.Ytbghmbbhkoniiaa.I
end
section
/- Whole numbers and texts as keys of Go's maps; plain facts of rows of pairs. -/
set_option linter.unusedSimpArgs false
set_option linter.unusedVariables false
set_option linter.unusedSectionVars false
namespace Go.Vc
variable {P : Program}
def keyInt {t : TypeId} {k : IntKind} (h : P.underlying t = some (.int k)) : KeyEnc P t Int where
  enc := .int k
  desc := .int k
  und := h
  same a b := by
    simp only [Instr.sameNow, if_true]
    by_cases e : a = b <;> simp [e]
  bits a := by simp [Instr.sameBits]
  chk w e a := by rw [Instr.checkKey]; simp [run_und h]
theorem beq_bytes (a b : ByteArray) : (a == b) = decide (a = b) := by
  rw [beq_toListBytes]
  by_cases e : a = b
  · subst e; simp
  · rw [decide_eq_false e]
    exact beq_eq_false_iff_ne.2 fun h => e (toList_inj.1 h)
def keyStr {t : TypeId} (h : P.underlying t = some .string) : KeyEnc P t ByteArray where
  enc := .string
  desc := .string
  und := h
  same a b := by simp only [Instr.sameNow, beq_bytes]
  bits a := by simp [Instr.sameBits, beq_bytes]
  chk w e a := by rw [Instr.checkKey]; simp [run_und h]
section
variable {κ ν : Type} [DecidableEq κ]
theorem mem_erase_nd {L : List (κ × ν)} (hn : (L.map (·.1)).Nodup) {i : Nat} (hi : i < L.length) {e : κ × ν} : e ∈ L.eraseIdx i ↔ e ∈ L ∧ e.1 ≠ L[i].1 := by
  rw [List.mem_eraseIdx_iff_getElem]
  constructor
  · rintro ⟨j, hj, hne, rfl⟩
    refine ⟨List.getElem_mem hj, fun hk => hne ?_⟩
    have := List.pairwise_iff_getElem.1 hn
    rcases Nat.lt_trichotomy i j with h | h | h
    · exact (this i j (by simpa using hi) (by simpa using hj) h (by simp [hk])).elim
    · exact h.symm
    · exact (this j i (by simpa using hj) (by simpa using hi) h (by simp [hk])).elim
  · rintro ⟨h, h3⟩
    obtain ⟨j, hj, hje⟩ := List.mem_iff_getElem.1 h
    exact ⟨j, hj, fun e => h3 (by subst e; rw [← hje]), hje⟩
theorem one_of_key {D : List (κ × ν)} (hn : (D.map (·.1)).Nodup) {e e' : κ × ν} (h : e ∈ D) (h' : e' ∈ D) (hk : e.1 = e'.1) : e = e' := by
  obtain ⟨i, hi, rfl⟩ := List.mem_iff_getElem.1 h
  obtain ⟨j, hj, rfl⟩ := List.mem_iff_getElem.1 h'
  have := List.pairwise_iff_getElem.1 hn
  rcases Nat.lt_trichotomy i j with h | h | h
  · exact (this i j (by simpa using hi) (by simpa using hj) h (by simp [hk])).elim
  · subst h; rfl
  · exact (this j i (by simpa using hj) (by simpa using hi) h (by simp [hk])).elim
theorem HasMap.nodup {w : World} {ek : κ → Value} {ev : ν → Value} {b : Nat} {D : List (κ × ν)} (h : HasMap w ek ev b D) : (D.map (·.1)).Nodup := by
  obtain ⟨es, c, h⟩ := h; exact h.nodup
/-- Of the pairs D those of L are still to come: the others are copied. -/
structure Copied (D L D2 : List (κ × ν)) : Prop where
  nd : (L.map (·.1)).Nodup
  sub : ∀ e ∈ L, e ∈ D
  done : ∀ e, e ∈ D2 ↔ e ∈ D ∧ e ∉ L
theorem Copied.start {D : List (κ × ν)} (hn : (D.map (·.1)).Nodup) : Copied D D [] := ⟨hn, fun _ h => h, fun e => by simp⟩
theorem Copied.next {D L D2 : List (κ × ν)} (hn : (D.map (·.1)).Nodup) (hn2 : (D2.map (·.1)).Nodup) (h : Copied D L D2) {i : Nat} (hi : i < L.length) : Copied D (L.eraseIdx i) (Nd.upd D2 L[i].1 L[i].2) := by
  refine ⟨h.nd.sublist ((List.eraseIdx_sublist L i).map _), fun e he => h.sub e ((mem_erase_nd h.nd hi).1 he).1, fun e => ?_⟩
  rw [Nd.mem_upd hn2, mem_erase_nd h.nd hi, h.done e]
  have hmem := h.sub _ (List.getElem_mem hi)
  constructor
  · rintro (rfl | ⟨h1, h2, h3⟩)
    · exact ⟨hmem, fun h => h.2 rfl⟩
    · exact ⟨h2, fun h => h3 h.1⟩
  · rintro ⟨h1, h2⟩
    by_cases hk : e.1 = L[i].1
    · exact .inl (one_of_key hn h1 hmem hk)
    · exact .inr ⟨hk, h1, fun hL => h2 ⟨hL, hk⟩⟩
theorem Copied.tells {D D2 : List (κ × ν)} {m : κ → Option ν} (h : Copied D [] D2) (hm : Tells D m) : Tells D2 m := fun k v => by
  rw [h.done]; simp [hm k v]
end
end Go.Vc
end
section
/- A loop that hands a slice's elements on into a row of another type. -/
set_option linter.unusedSimpArgs false
set_option linter.unusedVariables false
namespace Go.Vc
variable {P : Program} {w w' : World} {K : Value → World → Prop} {Kp : KP} {e : TypeId} {k : Nat}
theorem wrap_small64 {n : Int} (h0 : 0 ≤ n) (h1 : n < 9223372036854775808) : IntKind.i64.wrap n = n := by rw [IntKind.wrap_i64]; omega
theorem conv_ok {α : Type} {f : α → List Value} {tin tel tout e s : TypeId} {bytes : Nat} {z : Value} (hk : ∀ x, (f x).length = k) (hk0 : 0 < k) (hone : ∀ x, ∀ u ∈ f x, u.oneCell' = true) (hin : sliceOf P tin = some (e, k)) (hkd : kd P tin = .slice) (hel : ldk P tel = some (.agg k))
    (hz : zeroOf P tel = some z) (hzk : z.cells.size = k) (ha : apOf P tout = some (s, k, bytes)) (hl : ∀ x, sliceLit P tout 1 [(0, .agg (f x).toArray)] = some (s, (f x).toArray)) {a : Option Addr} {c : Nat} {xs : List α} (h : Row w a (xs.flatMap f)) (hn : (xs.length + 1) * (bytes + 1) ≤ 140737488355328)
    (hK : ∀ l w', Frm (fun _ => False) w w' → RowsOf (Flat f) w' w.heap.size s k l xs (fun _ => False) → K l w') :
    (nice P).op (.blt .len [tin] 3 [.slice a xs.length c]) w (fun v7 w =>
    Lp fun (I3 : Value → Value → World → Prop) (μ3 : Value → Value → World → Nat) => I3 (Value.slice none 0 0) (Value.int IntKind.i64 0) w ∧
    ∀ (wl3 : World) (junk : Nat → Value) (s3_out : Value) (s8_ : Value), I3 s3_out s8_ wl3 →
      (nice P).op (.bin BinOp.lss 3 false false s8_ v7) wl3 (fun v9 w =>
      Br v9 (
        (nice P).op (.indexAddr tin (.slice a xs.length c) s8_) w (fun v10 w =>
        (nice P).op (.load tel v10) w (fun v11 w =>
        (nice P).op (.alloc tel) w (fun v5_p w =>
        (nice P).op (.store tel v5_p v11) w (fun _ w =>
        (nice P).op (.load tel v5_p) w (fun v13 w =>
        (nice P).op (.buildSlice tout 1 [(0, v13)]) w (fun v14 w =>
        (nice P).op (.blt Builtin.append [tout, tout] tout [s3_out, v14]) w (fun v15 w =>
        (nice P).op (.bin BinOp.add 3 false true s8_ (Value.int IntKind.i64 1)) w (fun v16 w =>
        I3 v15 v16 w ∧ μ3 v15 v16 w < μ3 s3_out s8_ wl3) Kp) Kp) Kp) Kp) Kp) Kp) Kp) Kp) (
        K s3_out w)) Kp) Kp := by
  have hb0 : 0 < bytes + 1 := by omega
  have hmax : xs.length + 1 ≤ 140737488355328 := Nat.le_trans (Nat.le_mul_of_pos_right _ hb0) hn
  rw [op_len_slice hkd]
  obtain ⟨I, hI⟩ : ∃ I : Value → Value → World → Prop, ∀ l v wl, I l v wl ↔ ∃ i : Nat, v = .int .i64 i ∧ i ≤ xs.length ∧ Frm (fun _ => False) w wl ∧ RowsOf (Flat f) wl w.heap.size s k l (xs.take i) (fun _ => False) := ⟨_, fun _ _ _ => Iff.rfl⟩
  refine Lp.intro I (fun _ v _ => xs.length - (match v with | .int _ j => j.toNat | _ => 0)) ⟨(hI _ _ _).2 ⟨0, rfl, by omega, Frm.refl, rows_nil⟩, ?_⟩
  intro wl _ l v hl'
  obtain ⟨i, rfl, hi, kl, hR⟩ := (hI _ _ _).1 hl'
  simp only [op_lss, Br_dec]
  refine ⟨fun hlt => ?_, fun hge => ?_⟩
  · have hi' : i < xs.length := by omega
    obtain ⟨b, o, cs, e', fz, rfl, hcs, hsz, hext⟩ := (h.frame kl fun _ _ h => h).part hk hk0 hi'
    rw [op_ix_slice hin]
    refine ⟨⟨by omega, by omega⟩, ?_⟩
    rw [add_spot rfl, op_ldn hel]
    simp only [Int.toNat_natCast]
    refine ⟨cs, e', fz, hcs, by first | rfl | trivial, hsz, ?_⟩
    show (nice P).op (.alloc tel) wl _ Kp
    rw [hext]
    refine op_alloc_ok hz fun w1 k1 z1 b1 => ?_
    refine op_storeN_ok (n := k) hel b1 (by simp [hk]) (by rw [hzk]; omega) (fun u hu => hone _ u (by simpa using hu)) fun w2 k2 z2 b2 => ?_
    have hb2 : w2.heap[wl.heap.size]? = some (.cells (f xs[i]).toArray tel (0, 0)) := by
      rw [ow_all (by simp [hk, hzk])] at b2; exact b2
    rw [op_ldn hel]
    refine ⟨_, _, _, hb2, rfl, by simp [hk], ?_⟩
    have hx : (f xs[i]).toArray.extract 0 (0 + k) = (f xs[i]).toArray := extract_self (by simp [hk])
    rw [hx]
    have k12 : Frm (fun _ => False) wl w2 := k1.old k2 fun c hc => .inr (by omega)
    have hR2 := hR.still (flat_ok f) k12
    have hlow := hR.own_lt
    have htl : (xs.take i).length = i := by simp; omega
    have hmul : (i + 1) * (bytes + 1) ≤ (xs.length + 1) * (bytes + 1) := Nat.mul_le_mul_right _ (by omega)
    refine op_push (flat_ok f) ha (hl _) (hk _) (hone _) hR2 rfl (G2 := fun _ => False) (fun _ h => h.elim) (fun _ _ h => h) (by rw [htl]; omega) (by have := kl.size; have := k12.size; omega) fun l' w3 k3 hR3 ho3 => ?_
    rw [op_add, wrap_small64 (by omega) (by omega)]
    have hlow2 := hR2.own_lt
    refine ⟨(hI _ _ _).2 ⟨i + 1, by simp, by omega, (kl.no k12).old k3 fun c hc => .inr (by have := hlow2 c hc.symm; omega), ?_⟩, ?_⟩
    · rw [List.take_succ_eq_append_getElem hi']
      exact hR3.mono (flat_ok f) (fun c h => h.elim (fun h => h) fun h => h) (fun _ h => h.elim) fun _ _ h => h
    · have : ((i : Int) + 1).toNat = i + 1 := by omega
      simp only [Int.toNat_natCast, this]; omega
  · have : i = xs.length := by omega
    subst this
    rw [List.take_length] at hR
    exact hK l wl kl hR
end Go.Vc
namespace Go.Vc
section
variable {P : Program} {w : World} {K : Value → World → Prop} {K1 : Value → Prop} {Kp : KP} {a b c d e : Value}
@[simp] theorem pur_ext4_0 : (nice P).pur (.extract (.tuple #[a, b, c, d]) 0) K1 = K1 a := pur_ext rfl
@[simp] theorem pur_ext4_1 : (nice P).pur (.extract (.tuple #[a, b, c, d]) 1) K1 = K1 b := pur_ext rfl
@[simp] theorem pur_ext4_2 : (nice P).pur (.extract (.tuple #[a, b, c, d]) 2) K1 = K1 c := pur_ext rfl
@[simp] theorem pur_ext4_3 : (nice P).pur (.extract (.tuple #[a, b, c, d]) 3) K1 = K1 d := pur_ext rfl
@[simp] theorem pur_ext5_0 : (nice P).pur (.extract (.tuple #[a, b, c, d, e]) 0) K1 = K1 a := pur_ext rfl
@[simp] theorem pur_ext5_1 : (nice P).pur (.extract (.tuple #[a, b, c, d, e]) 1) K1 = K1 b := pur_ext rfl
@[simp] theorem pur_ext5_2 : (nice P).pur (.extract (.tuple #[a, b, c, d, e]) 2) K1 = K1 c := pur_ext rfl
@[simp] theorem pur_ext5_3 : (nice P).pur (.extract (.tuple #[a, b, c, d, e]) 3) K1 = K1 d := pur_ext rfl
@[simp] theorem pur_ext5_4 : (nice P).pur (.extract (.tuple #[a, b, c, d, e]) 4) K1 = K1 e := pur_ext rfl
@[simp] theorem op_ext4_0 : (nice P).op (.extract (.tuple #[a, b, c, d]) 0) w K Kp = K a w := op_ext rfl
@[simp] theorem op_ext4_1 : (nice P).op (.extract (.tuple #[a, b, c, d]) 1) w K Kp = K b w := op_ext rfl
@[simp] theorem op_ext4_2 : (nice P).op (.extract (.tuple #[a, b, c, d]) 2) w K Kp = K c w := op_ext rfl
@[simp] theorem op_ext4_3 : (nice P).op (.extract (.tuple #[a, b, c, d]) 3) w K Kp = K d w := op_ext rfl
@[simp] theorem op_ext5_0 : (nice P).op (.extract (.tuple #[a, b, c, d, e]) 0) w K Kp = K a w := op_ext rfl
@[simp] theorem op_ext5_1 : (nice P).op (.extract (.tuple #[a, b, c, d, e]) 1) w K Kp = K b w := op_ext rfl
@[simp] theorem op_ext5_2 : (nice P).op (.extract (.tuple #[a, b, c, d, e]) 2) w K Kp = K c w := op_ext rfl
@[simp] theorem op_ext5_3 : (nice P).op (.extract (.tuple #[a, b, c, d, e]) 3) w K Kp = K d w := op_ext rfl
@[simp] theorem op_ext5_4 : (nice P).op (.extract (.tuple #[a, b, c, d, e]) 4) w K Kp = K e w := op_ext rfl
end
end Go.Vc
end
section
/- The reference's maps: versions as Go's maps; the conversions between the packages' types. -/
set_option maxRecDepth 100000
set_option maxHeartbeats 2000000
set_option linter.unusedSimpArgs false
set_option linter.unusedVariables false
set_option linter.unusedSectionVars false
namespace Go.Proofs.Ytbghmbbhkoniiaa.I
open Go.Vc Go.Proofs Go.Proofs.Ytbghmbbhkoniiaa Go.Vc.Nd
variable {w w' : World} {v hv : Value} {t : Tr} {F F' G : Nat → Prop} {K : Value → World → Prop} {Kp : KP} {hash : Ky → Nat} {k : Ky} {x : Vl} {l s rb md ml sh : Nat} {r0 mu nl : Bool}

def kE : KeyEnc Try.prog 2 Int := keyInt Try.underlying2
/-- A version of the reference: a map of Go. -/
def ElM : World → List Value → (Int → Option Int) → (Nat → Prop) → Prop := fun w u m G => ∃ b D, u = [.map (some b)] ∧ HasMap w kE.enc ev b D ∧ Tells D m ∧ G b
theorem elM_ok : ElOk ElM :=
  ⟨fun ⟨b, D, hu, h, ht, hG⟩ hf hM => ⟨b, D, hu, h.frame hf (hM b hG), ht, hG⟩, fun ⟨b, D, hu, h, ht, hG⟩ hG' => ⟨b, D, hu, h, ht, hG' b hG⟩⟩
theorem apMap : apOf Try.prog 28 = some (30, 1, 8) := by kernel_rfl
theorem mapAfter_ok {b : Nat} {D : List (Int × Int)} {m : Int → Option Int} {s : MStep} (h : HasMap w kE.enc ev b D) (ht : Tells D m) (hk : s.kind ≤ 3) (hc0 : 0 ≤ s.count) (hc : s.count ≤ 100000)
    (hK : ∀ b' D' w', Frm (fun _ => False) w w' → w.heap.size ≤ b' → HasMap w' kE.enc ev b' D' → Tells D' (funStep m s) → K (.map (some b')) w') : Calls Try.prog 33 #[.map (some b), .agg s.cells.toArray] w (ret K Kp) := by
  have hcells : s.cells.toArray = #[.int .u8 s.kind, .int .i64 s.fro, .int .i64 s.key, .int .i64 s.value, .int .i64 s.count] := rfl
  refine vc33_calls ?_
  simp only [vc33]
  refine op_box_ok fun w1 k1 z1 b1 => ?_
  simp only [cells_agg, hcells] at b1
  refine op_mkMap ?_
  have k2 : Frm (fun _ => False) w1 (w1.alloc (.map #[] 0)) := Frm.alloc _ _
  have hm2 : HasMap (w1.alloc (.map #[] 0)) kE.enc ev w1.heap.size ([] : List (Int × Int)) := hasMap_new w1 _ _
  generalize hw2 : w1.alloc (.map #[] 0) = w2 at *
  have n1 := k1.size
  have n2 := k2.size
  have b2 := k2.get b1 fun h => h
  have hD2 := (h.frame k1 fun h => h).frame k2 fun h => h
  have hmlt := hm2.lt
  refine op_range Try.underlying30 hD2 fun w3 k3 z3 hr3 => ?_
  have k3 := k3 (M := fun _ => False)
  have hlb := h.lt
  have hnd := h.nodup
  obtain ⟨I, hI⟩ : ∃ I : World → Prop, ∀ wl, I wl ↔ ∃ (L D2 : List (Int × Int)), Frm (fun _ => False) w wl ∧ w3.heap.size ≤ wl.heap.size ∧ Ranging wl kE.enc ev b D w2.heap.size L ∧ HasMap wl kE.enc ev w1.heap.size D2 ∧ Copied D L D2 ∧
      wl.heap[w.heap.size]? = some (.cells #[.int .u8 s.kind, .int .i64 s.fro, .int .i64 s.key, .int .i64 s.value, .int .i64 s.count] 82 (0, 0)) := ⟨_, fun _ => Iff.rfl⟩
  obtain ⟨μ, hμ⟩ : ∃ μ : World → Nat, ∀ wl L, Ranging wl kE.enc ev b D w2.heap.size L → μ wl = L.length := by
    refine ⟨fun wl => match wl.heap[w2.heap.size]? with
      | some (.mapIter (some m) since seen c0) => match wl.heap[m]? with
        | some (.map es clock) => (leftOf es seen).size
        | _ => 0
      | _ => 0, fun wl L hr => ?_⟩
    obtain ⟨es, clock, since, seen, c0, h1, h2, h3, h4, h5, h6⟩ := hr
    have := congrArg List.length h6
    simp only [h2, h1.heap]
    simpa using this
  refine Lp.intro I μ ⟨(hI _).2 ⟨D, [], (k1.no k2).no k3, Nat.le_refl _, hr3, hm2.frame k3 fun h => h, Copied.start hnd, k3.get b2 fun h => h⟩, ?_⟩
  intro wl _ hl
  obtain ⟨L, D2, kl, zl, hr, hm, hcp, bl⟩ := (hI _).1 hl
  have hrne := hr.ne
  have hrlt := hr.lt
  refine op_next hr (fun hL => ?_) fun i hi w4 k4 z4 hr4 ht4 => ?_
  · subst hL
    have htl := hcp.tells ht
    have hfin : ∀ {D' w'}, Frm (· = w1.heap.size) wl w' → HasMap w' kE.enc ev w1.heap.size D' → Tells D' (funStep m s) → K (.map (some w1.heap.size)) w' := fun {D' w'} kf hf ht' => hK _ D' w' (kl.old kf fun c hc => .inr (by omega)) (by omega) hf ht'
    simp [-getElem?_pos, -Array.getElem?_eq_getElem, List.getElem?_cons_zero, List.getElem?_cons_succ, -Int.natCast_add, add_spot, and_assoc, Br_dec, -op_box, -op_alloc_82, -op_st_82, -op_lit_28_1, -op_alloc_45, -op_st_45, bl]
    have hkind : s.kind = 0 ∨ s.kind = 1 ∨ s.kind = 2 ∨ s.kind = 3 := by omega
    rcases hkind with hk | hk | hk | hk
    · simp [-getElem?_pos, -Array.getElem?_eq_getElem, List.getElem?_cons_zero, List.getElem?_cons_succ, -Int.natCast_add, add_spot, and_assoc, Br_dec, -op_box, -op_alloc_82, -op_st_82, -op_lit_28_1, -op_alloc_45, -op_st_45, hk, bl]
      refine op_update (E := kE) (ev := ev) (k := s.key) (v := s.value) Try.underlying30 hm fun w5 k5 z5 hm5 => hfin k5 hm5 ?_
      simp only [funStep, hk]
      exact tells_upd hm.nodup htl
    · simp [-getElem?_pos, -Array.getElem?_eq_getElem, List.getElem?_cons_zero, List.getElem?_cons_succ, -Int.natCast_add, add_spot, and_assoc, Br_dec, -op_box, -op_alloc_82, -op_st_82, -op_lit_28_1, -op_alloc_45, -op_st_45, hk, bl]
      refine op_delete (E := kE) (ev := ev) (k := s.key) Try.underlying30 hm fun w5 k5 z5 hm5 => hfin k5 hm5 ?_
      simp only [funStep, hk]
      exact tells_wipe hm.nodup htl
    · simp [-getElem?_pos, -Array.getElem?_eq_getElem, List.getElem?_cons_zero, List.getElem?_cons_succ, -Int.natCast_add, add_spot, and_assoc, Br_dec, -op_box, -op_alloc_82, -op_st_82, -op_lit_28_1, -op_alloc_45, -op_st_45, hk, bl]
      obtain ⟨I2, hI2⟩ : ∃ I2 : Value → World → Prop, ∀ v wz, I2 v wz ↔ ∃ (j : Nat) (D' : List (Int × Int)), v = .int .i64 j ∧ (j : Int) ≤ s.count ∧ Frm (· = w1.heap.size) wl wz ∧ HasMap wz kE.enc ev w1.heap.size D' ∧ Tells D' (msetN s.key s.value m j) := ⟨_, fun _ _ => Iff.rfl⟩
      refine Lp.intro I2 (fun v _ => s.count.toNat - natOf v) ⟨(hI2 _ _).2 ⟨0, D2, rfl, by omega, Frm.refl, hm, htl⟩, ?_⟩
      intro wz v hv
      obtain ⟨j, D', rfl, hj, kz, hmz, htz⟩ := (hI2 _ _).1 hv
      have bz := kz.get bl (by omega)
      simp [-getElem?_pos, -Array.getElem?_eq_getElem, List.getElem?_cons_zero, List.getElem?_cons_succ, -Int.natCast_add, add_spot, and_assoc, Br_dec, -op_box, -op_alloc_82, -op_st_82, -op_lit_28_1, -op_alloc_45, -op_st_45, bz]
      refine ⟨fun hlt => ?_, fun hge => ?_⟩
      · refine op_update (E := kE) (ev := ev) (k := kAt s.key s.value j) (v := (j : Int)) Try.underlying30 hmz fun w5 k5 z5 hm5 => ?_
        rw [wrap_i64_small (by omega) (by omega)]
        refine ⟨(hI2 _ _).2 ⟨j + 1, _, by simp, by omega, kz.trans k5 fun _ h _ => h, hm5, ?_⟩, ?_⟩
        · rw [msetN_succ]; exact tells_upd hmz.nodup htz
        · simp only [natOf]; omega
      · have : j = s.count.toNat := by omega
        subst this
        exact hfin kz hmz (by simp only [funStep, hk]; exact htz)
    · simp [-getElem?_pos, -Array.getElem?_eq_getElem, List.getElem?_cons_zero, List.getElem?_cons_succ, -Int.natCast_add, add_spot, and_assoc, Br_dec, -op_box, -op_alloc_82, -op_st_82, -op_lit_28_1, -op_alloc_45, -op_st_45, hk, bl]
      obtain ⟨I2, hI2⟩ : ∃ I2 : Value → World → Prop, ∀ v wz, I2 v wz ↔ ∃ (j : Nat) (D' : List (Int × Int)), v = .int .i64 j ∧ (j : Int) ≤ s.count ∧ Frm (· = w1.heap.size) wl wz ∧ HasMap wz kE.enc ev w1.heap.size D' ∧ Tells D' (mdelN s.key s.value m j) := ⟨_, fun _ _ => Iff.rfl⟩
      refine Lp.intro I2 (fun v _ => s.count.toNat - natOf v) ⟨(hI2 _ _).2 ⟨0, D2, rfl, by omega, Frm.refl, hm, htl⟩, ?_⟩
      intro wz v hv
      obtain ⟨j, D', rfl, hj, kz, hmz, htz⟩ := (hI2 _ _).1 hv
      have bz := kz.get bl (by omega)
      simp [-getElem?_pos, -Array.getElem?_eq_getElem, List.getElem?_cons_zero, List.getElem?_cons_succ, -Int.natCast_add, add_spot, and_assoc, Br_dec, -op_box, -op_alloc_82, -op_st_82, -op_lit_28_1, -op_alloc_45, -op_st_45, bz]
      refine ⟨fun hlt => ?_, fun hge => ?_⟩
      · refine op_delete (E := kE) (ev := ev) (k := kAt s.key s.value j) Try.underlying30 hmz fun w5 k5 z5 hm5 => ?_
        rw [wrap_i64_small (by omega) (by omega)]
        refine ⟨(hI2 _ _).2 ⟨j + 1, _, by simp, by omega, kz.trans k5 fun _ h _ => h, hm5, ?_⟩, ?_⟩
        · rw [mdelN_succ]; exact tells_wipe hmz.nodup htz
        · simp only [natOf]; omega
      · have : j = s.count.toNat := by omega
        subst this
        exact hfin kz hmz (by simp only [funStep, hk]; exact htz)
  · have e0 : (nice Try.prog).op (.extract (.tuple #[.bool true, kE.enc L[i].1, ev L[i].2]) 0) w4 = fun K Kp => K (.bool true) w4 := by
      funext K Kp; exact op_ext3_0
    try simp [-getElem?_pos, -Array.getElem?_eq_getElem, List.getElem?_cons_zero, List.getElem?_cons_succ, -Int.natCast_add, add_spot, and_assoc, Br_dec, -op_box, -op_alloc_82, -op_st_82, -op_lit_28_1, -op_alloc_45, -op_st_45, ]
    refine op_entry ht4 ?_
    try simp [-getElem?_pos, -Array.getElem?_eq_getElem, List.getElem?_cons_zero, List.getElem?_cons_succ, -Int.natCast_add, add_spot, and_assoc, Br_dec, -op_box, -op_alloc_82, -op_st_82, -op_lit_28_1, -op_alloc_45, -op_st_45, ]
    have hm4 := hm.frame k4 (by omega)
    refine op_update (E := kE) (ev := ev) (k := L[i].1) (v := L[i].2) Try.underlying30 hm4 fun w5 k5 z5 hm5 => ?_
    have hr5 := hr4.frame k5 (by omega) (by omega)
    refine ⟨(hI _).2 ⟨_, _, (kl.old k4 fun c hc => .inr (by omega)).old k5 fun c hc => .inr (by omega), by omega, hr5, hm5, hcp.next hnd hm.nodup hi, k5.get (k4.get bl (by omega)) (by omega)⟩, ?_⟩
    rw [hμ _ _ hr5, hμ _ _ hr, List.length_eraseIdx_of_lt hi]; omega

/-- All versions of the reference. -/
theorem mapVersions_ok {a0 : Option Addr} {c0 : Nat} {steps : List MStep} (h0 : Row w a0 (steps.flatMap MStep.cells)) (hfit : MFit steps) (hn : steps.length < 2 ^ 30)
    (hK : ∀ l w' G, Frm (fun _ => False) w w' → RowsOf ElM w' w.heap.size 30 1 l (versM steps) G → K l w') : Calls Try.prog 14 #[.slice a0 steps.length c0] w (ret K Kp) := by
  have hE := elM_ok
  refine vc14_calls ?_
  simp only [vc14]
  refine op_mkMap ?_
  have k1 : Frm (fun _ => False) w (w.alloc (.map #[] 0)) := Frm.alloc _ _
  have hm1 : HasMap (w.alloc (.map #[] 0)) kE.enc ev w.heap.size ([] : List (Int × Int)) := hasMap_new w _ _
  generalize hw1 : w.alloc (.map #[] 0) = w1 at *
  have n1 := k1.size
  have hmlt := hm1.lt
  refine op_row1 (base := w.heap.size) (u := [.map (some w.heap.size)]) (y := fun _ => none) (G2 := (· = w.heap.size)) hE apMap (lit_28_1 rfl) rfl ⟨_, _, rfl, hm1, tells_nil, rfl⟩ (fun c hc => by omega) n1 fun l2 w2 k2 hR2 ho2 => ?_
  obtain ⟨a2, c2, hl2, _⟩ := hR2.slice
  try simp [-getElem?_pos, -Array.getElem?_eq_getElem, List.getElem?_cons_zero, List.getElem?_cons_succ, -Int.natCast_add, add_spot, and_assoc, Br_dec, -op_box, -op_alloc_82, -op_st_82, -op_lit_28_1, -op_alloc_45, -op_st_45, ]
  obtain ⟨I, hI⟩ : ∃ I : Value → Value → World → Prop, ∀ l v wl, I l v wl ↔ ∃ (i : Nat) (G : Nat → Prop), v = .int .i64 i ∧ i ≤ steps.length ∧ Frm (fun _ => False) w wl ∧ RowsOf ElM wl w.heap.size 30 1 l (versM (steps.take i)) G := ⟨_, fun _ _ _ => Iff.rfl⟩
  refine Lp.intro I (fun _ v _ => steps.length - natOf v) ⟨(hI _ _ _).2 ⟨0, _, rfl, by omega, k1.no k2, hR2⟩, ?_⟩
  intro wl l v hl
  obtain ⟨i, G, rfl, hi, kl, hR⟩ := (hI _ _ _).1 hl
  simp only [op_lss, Br_dec]
  refine ⟨fun hlt' => ?_, fun hnl' => ?_⟩
  rotate_left
  · have : i = steps.length := by omega
    subst this
    rw [List.take_length] at hR
    exact hK l wl G kl hR
  have hi' : i < steps.length := by omega
  have htk : steps.take (i + 1) = steps.take i ++ [steps[i]] := List.take_succ_eq_append_getElem hi'
  obtain ⟨f1, f2, f3, f4, f5⟩ := hfit i hi'
  obtain ⟨bp, o, cs, e, fz, rfl, hcs, hsz, hext⟩ := (h0.frame kl (fun _ _ h => h)).part mcells_len (by decide) hi'
  generalize hst : steps[i] = s at *
  have hlow := hR.own_lt
  have nl := kl.size
  simp [-getElem?_pos, -Array.getElem?_eq_getElem, List.getElem?_cons_zero, List.getElem?_cons_succ, -Int.natCast_add, add_spot, and_assoc, Br_dec, -op_box, -op_alloc_82, -op_st_82, -op_lit_28_1, -op_alloc_45, -op_st_45, hcs, hsz, hext]
  refine ⟨hi', ?_⟩
  refine op_alloc_ok (z := .agg #[.int .u8 0, .int .i64 0, .int .i64 0, .int .i64 0, .int .i64 0]) (by kernel_rfl) fun w5 k5 z5 b5 => ?_
  simp only [cells_agg] at b5
  refine op_storeN_ok (n := 5) (by kernel_rfl) b5 rfl (by decide) (by simp [MStep.cells]) fun w6 k6 z6 b6 => ?_
  have b6 : w6.heap[wl.heap.size]? = some (.cells #[.int .u8 s.kind, .int .i64 s.fro, .int .i64 s.key, .int .i64 s.value, .int .i64 s.count] 82 (0, 0)) := by
    rw [ow_all (by simp [MStep.cells])] at b6; simpa [MStep.cells] using b6
  have n5 := k5.size
  have k56 : Frm (fun _ => False) wl w6 := k5.old k6 fun c hc => .inr (by omega)
  have hR6 := hR.still hE (k56.no (Frm.drew w6))
  have hlv : (versM (steps.take i)).length = i + 1 := by rw [versM, vers_len, List.length_take]; omega
  obtain ⟨q, hq⟩ : ∃ q : Nat, s.fro = q := ⟨s.fro.toNat, by omega⟩
  have hq1 : q < (versM (steps.take i)).length := by omega
  obtain ⟨u, g, c, cur, hlg, hg1, hg2, hg3, hg4, hg5, bv, D, hub, hV, htD, hGb⟩ := hR6.get hq1
  subst hlg hub
  have hg0 : cur[q]? = some (.map (some bv)) := by have := hg3 0 (by decide); simpa using this
  have hg1 : w6.heap[g]? = some (.cells cur 30 (0, 0)) := hg1
  generalize ht : (versM (steps.take i))[q] = m0 at htD
  have hnext : versM (steps.take (i + 1)) = versM (steps.take i) ++ [funStep m0 s] := by
    have e1 : (vers funStep MStep.ref (fun _ => none) (steps.take i))[s.ref]? = some m0 := by
      have : s.ref = q := by simp [MStep.ref, hq]
      rw [this, ← ht]; exact List.getElem?_eq_getElem hq1
    rw [htk, versM, vers_snoc, e1]; rfl
  have hx5 := cells5 s
  simp [-getElem?_pos, -Array.getElem?_eq_getElem, List.getElem?_cons_zero, List.getElem?_cons_succ, -Int.natCast_add, add_spot, and_assoc, Br_dec, -op_box, -op_alloc_82, -op_st_82, -op_lit_28_1, -op_alloc_45, -op_st_45, b6, hq, hg1, hg0, hx5]
  refine ⟨hq1, ?_⟩
  rw [← hq]
  refine mapAfter_ok hV htD f1 f4 f5 fun b' D' w7 k7 nb' hm7 ht7 => ?_
  have k67 := Frm.dr k7
  have hml := hm7.lt
  have n7 := k67.size
  have n6 := k56.size
  have nb'' : w6.heap.size ≤ b' := nb'
  refine op_push (u := [.map (some b')]) (G2 := (· = b')) hE apMap (lit_28_1 rfl) rfl (fun x hx => by rw [List.mem_singleton.1 hx]; rfl) (hR.still hE (k56.no k67)) ⟨b', D', rfl, hm7, ht7, rfl⟩ (fun c hc => by omega) (fun b hb hc => by have := hlow b hb; omega) (by omega) (by omega) fun l10 w10 k10 hR10 ho10 => ?_
  try simp [-getElem?_pos, -Array.getElem?_eq_getElem, List.getElem?_cons_zero, List.getElem?_cons_succ, -Int.natCast_add, add_spot, and_assoc, Br_dec, -op_box, -op_alloc_82, -op_st_82, -op_lit_28_1, -op_alloc_45, -op_st_45, ]
  rw [wrap_i64_small (by omega) (by omega)]
  refine ⟨(hI _ _ _).2 ⟨i + 1, _, by simp, by omega, (kl.no (k56.no k67)).old k10 fun c hc => .inr (hlow c hc.symm).1, by rw [hnext]; exact hR10⟩, ?_⟩
  simp only [natOf]; omega
end Go.Proofs.Ytbghmbbhkoniiaa.I
end
section
/- The reference's checks: MapFits, MapHas; the conversions; what a version tells held against the reference. -/
set_option maxRecDepth 100000
set_option maxHeartbeats 2000000
set_option linter.unusedSimpArgs false
set_option linter.unusedVariables false
set_option linter.unusedSectionVars false
namespace Go.Proofs.Ytbghmbbhkoniiaa.I
open Go.Vc Go.Proofs Go.Proofs.Ytbghmbbhkoniiaa Go.Vc.Nd
variable {w w' : World} {v hv : Value} {t : Tr} {F F' G : Nat → Prop} {K : Value → World → Prop} {Kp : KP} {hash : Ky → Nat} {k : Ky} {x : Vl} {l s rb md ml sh : Nat} {r0 mu nl : Bool}

/-- Steps as the laws ask for them. -/
structure Fit (steps : List MStep) : Prop where
  ok : ∀ i (h : i < steps.length), steps[i].kind ≤ 3 ∧ 0 ≤ steps[i].fro ∧ steps[i].fro ≤ i ∧ 0 ≤ steps[i].count ∧ steps[i].count ≤ 2000
  cost : mcost steps ≤ 12000
theorem Fit.m {steps : List MStep} (h : Fit steps) : MFit steps := fun i hi => by
  obtain ⟨a, b, c, d, e⟩ := h.ok i hi
  exact ⟨a, b, c, d, by omega⟩
theorem mapFits_spec_ok {a0 : Option Addr} {c0 : Nat} {steps : List MStep} (h0 : Row w a0 (steps.flatMap MStep.cells)) (hn : steps.length < 2 ^ 31)
    (hK0 : ∀ w', Frm (fun _ => False) w w' → K (.bool false) w') (hK1 : Fit steps → ∀ w', Frm (fun _ => False) w w' → K (.bool true) w') : Calls Try.prog 32 #[.slice a0 steps.length c0] w (ret K Kp) := by
  refine vc32_calls ?_
  simp only [vc32]
  try simp [-getElem?_pos, -Array.getElem?_eq_getElem, List.getElem?_cons_zero, List.getElem?_cons_succ, -Int.natCast_add, add_spot, and_assoc, Br_dec, -op_box, -op_alloc_82, -op_st_82, -op_alloc_45, -op_st_45, ]
  obtain ⟨I, hI⟩ : ∃ I : Value → Value → World → Prop, ∀ n v wl, I n v wl ↔ ∃ i : Nat, n = .int .i64 (mcost (steps.take i) : Nat) ∧ v = .int .i64 i ∧ i ≤ steps.length ∧ Frm (fun _ => False) w wl ∧ mcost (steps.take i) ≤ 2001 * i ∧
      ∀ j (h : j < steps.length), j < i → steps[j].kind ≤ 3 ∧ 0 ≤ steps[j].fro ∧ steps[j].fro ≤ j ∧ 0 ≤ steps[j].count ∧ steps[j].count ≤ 2000 := ⟨_, fun _ _ _ => Iff.rfl⟩
  refine Lp.intro I (fun _ v _ => steps.length - natOf v) ⟨(hI _ _ _).2 ⟨0, rfl, rfl, by omega, Frm.refl, by simp [mcost], fun j h hj => by omega⟩, ?_⟩
  intro wl n v hl
  obtain ⟨i, rfl, rfl, hi, kl, hcost, hall⟩ := (hI _ _ _).1 hl
  simp only [op_lss, Br_dec]
  refine ⟨fun hlt' => ?_, fun hnl' => ?_⟩
  rotate_left
  · have : i = steps.length := by omega
    subst this
    rw [List.take_length] at *
    try simp [-getElem?_pos, -Array.getElem?_eq_getElem, List.getElem?_cons_zero, List.getElem?_cons_succ, -Int.natCast_add, add_spot, and_assoc, Br_dec, -op_box, -op_alloc_82, -op_st_82, -op_alloc_45, -op_st_45, ]
    by_cases hc : mcost steps ≤ 12000
    · rw [decide_eq_true (show ((mcost steps : Nat) : Int) ≤ 12000 by omega)]
      exact hK1 ⟨fun i h => hall i h h, hc⟩ wl kl
    · rw [decide_eq_false (show ¬ ((mcost steps : Nat) : Int) ≤ 12000 by omega)]
      exact hK0 wl kl
  have hi' : i < steps.length := by omega
  have htk : steps.take (i + 1) = steps.take i ++ [steps[i]] := List.take_succ_eq_append_getElem hi'
  obtain ⟨bp, o, cs, e, fz, rfl, hcs, hsz, hext⟩ := (h0.frame kl (fun _ _ h => h)).part mcells_len (by decide) hi'
  generalize hst : steps[i] = s at *
  simp [-getElem?_pos, -Array.getElem?_eq_getElem, List.getElem?_cons_zero, List.getElem?_cons_succ, -Int.natCast_add, add_spot, and_assoc, Br_dec, -op_box, -op_alloc_82, -op_st_82, -op_alloc_45, -op_st_45, hcs, hsz, hext]
  refine ⟨hi', ?_⟩
  refine op_alloc_ok (z := .agg #[.int .u8 0, .int .i64 0, .int .i64 0, .int .i64 0, .int .i64 0]) (by kernel_rfl) fun w5 k5 z5 b5 => ?_
  simp only [cells_agg] at b5
  refine op_storeN_ok (n := 5) (by kernel_rfl) b5 rfl (by decide) (by simp [MStep.cells]) fun w6 k6 z6 b6 => ?_
  have b6 : w6.heap[wl.heap.size]? = some (.cells #[.int .u8 s.kind, .int .i64 s.fro, .int .i64 s.key, .int .i64 s.value, .int .i64 s.count] 82 (0, 0)) := by
    rw [ow_all (by simp [MStep.cells])] at b6; simpa [MStep.cells] using b6
  have k56 : Frm (fun _ => False) w w6 := kl.no (k5.old k6 fun c hc => .inr (by omega))
  simp [-getElem?_pos, -Array.getElem?_eq_getElem, List.getElem?_cons_zero, List.getElem?_cons_succ, -Int.natCast_add, add_spot, and_assoc, Br_dec, -op_box, -op_alloc_82, -op_st_82, -op_alloc_45, -op_st_45, b6]
  refine ⟨fun _ => hK0 w6 k56, fun hk3 => ⟨fun _ => hK0 w6 k56, fun hf0 => ⟨fun _ => hK0 w6 k56, fun hfi => ⟨fun _ => hK0 w6 k56, fun hc0 => ⟨fun _ => hK0 w6 k56, fun hc2 => ?_⟩⟩⟩⟩⟩
  have hsc : s.cost = 1 + s.count.toNat := rfl
  have e1 : IntKind.i64.wrap (1 + s.count) = 1 + s.count := by rw [IntKind.wrap_i64]; omega
  have e2 : IntKind.i64.wrap ((mcost (steps.take i) : Int) + (1 + s.count)) = ((mcost (steps.take (i + 1)) : Nat) : Int) := by
    rw [IntKind.wrap_i64, htk, mcost_snoc]; omega
  have e3 : IntKind.i64.wrap ((i : Int) + 1) = ((i + 1 : Nat) : Int) := by rw [IntKind.wrap_i64]; omega
  rw [e1, e2, e3]
  refine ⟨(hI _ _ _).2 ⟨i + 1, rfl, rfl, by omega, k56, ?_, fun j h hj => ?_⟩, ?_⟩
  · rw [htk, mcost_snoc]; omega
  · by_cases hji : j < i
    · exact hall j h hji
    · have : j = i := by omega
      subst this
      rw [hst]
      exact ⟨by omega, by omega, by omega, by omega, by omega⟩
  · simp only [natOf, Int.toNat_natCast]; omega
theorem fits_ok {a1 : Option Addr} {c1 : Nat} {steps : List MStep} (h1 : Row w a1 (steps.flatMap MStep.cells)) (hn : steps.length < 2 ^ 31)
    (hK0 : ∀ w', Frm (fun _ => False) w w' → K (.bool false) w') (hK1 : Fit steps → steps.length ≤ 12 → sh < 32 → ∀ w', Frm (fun _ => False) w w' → K (.bool true) w') :
    Calls Try.prog 12 #[hval md ml sh, .slice a1 steps.length c1] w (ret K Kp) := by
  refine vc12_calls ?_
  simp only [vc12]
  refine op_box_ok fun w1 k1 z1 b1 => ?_
  simp only [hval, cells_agg] at b1
  try simp [-getElem?_pos, -Array.getElem?_eq_getElem, List.getElem?_cons_zero, List.getElem?_cons_succ, -Int.natCast_add, add_spot, and_assoc, Br_dec, -op_box, -op_alloc_82, -op_st_82, -op_alloc_45, -op_st_45, ]
  refine ⟨fun h12 => ?_, fun h12 => hK0 w1 k1⟩
  refine mapFits_spec_ok (h1.frame k1 fun _ _ h => h) hn (fun w2 k2 => ?_) fun hf w2 k2 => ?_
  · try simp [-getElem?_pos, -Array.getElem?_eq_getElem, List.getElem?_cons_zero, List.getElem?_cons_succ, -Int.natCast_add, add_spot, and_assoc, Br_dec, -op_box, -op_alloc_82, -op_st_82, -op_alloc_45, -op_st_45, ]
    exact hK0 w2 (k1.no k2)
  · have b2 := k2.get b1 fun h => h
    simp [-getElem?_pos, -Array.getElem?_eq_getElem, List.getElem?_cons_zero, List.getElem?_cons_succ, -Int.natCast_add, add_spot, and_assoc, Br_dec, -op_box, -op_alloc_82, -op_st_82, -op_alloc_45, -op_st_45, b2]
    by_cases h32 : (sh : Int) < 32
    · rw [decide_eq_true h32]; exact hK1 hf (by omega) (by omega) w2 (k1.no k2)
    · rw [decide_eq_false h32]; exact hK0 w2 (k1.no k2)

theorem one_cells (s : MStep) : ∀ u ∈ s.cells, u.oneCell' = true := fun u hu => by simp [MStep.cells] at hu; rcases hu with rfl | rfl | rfl | rfl | rfl <;> rfl
theorem mapTo_ok {a0 : Option Addr} {c0 : Nat} {steps : List MStep} (h0 : Row w a0 (steps.flatMap MStep.cells)) (hn : steps.length < 2 ^ 31)
    (hK : ∀ l w', Frm (fun _ => False) w w' → RowsOf (Flat MStep.cells) w' w.heap.size 35 5 l steps (fun _ => False) → K l w') : Calls Try.prog 15 #[.slice a0 steps.length c0] w (ret K Kp) :=
  vc15_calls (conv_ok (f := MStep.cells) (k := 5) (e := 82) (z := .agg #[.int .u8 0, .int .i64 0, .int .i64 0, .int .i64 0, .int .i64 0]) (bytes := 40) mcells_len (by decide) one_cells (by kernel_rfl) (by kernel_rfl) (by kernel_rfl) (by kernel_rfl) rfl (by kernel_rfl) (fun _ => lit_32_1) h0 (by omega) hK)
theorem mapPairs_ok {v : Value} {L : List (Ky × Vl)} (h : IsPairs w v L) (hn : L.length < 2 ^ 31)
    (hK : ∀ l w', Frm (fun _ => False) w w' → RowsOf (Flat ent) w' w.heap.size 45 2 l L (fun _ => False) → K l w') : Calls Try.prog 39 #[v] w (ret K Kp) := by
  obtain ⟨a, c, rfl, _, _, h0, _⟩ := h
  exact vc39_calls (conv_ok (f := ent) (k := 2) (e := 46) (z := .agg #[.int .i64 0, .int .i64 0]) (bytes := 16) ent_len (by decide) (fun x u hu => ents_one (es := [x]) u (by simpa [ents] using hu)) (by kernel_rfl) (by kernel_rfl) (by kernel_rfl) (by kernel_rfl) rfl (by kernel_rfl) (fun _ => lit_43_1) h0 (by omega) hK)

theorem look_seen {S : List (Int × Bool)} {p : Int} {L : List (Int × Int)} (h : Tells S (fun k => if k ∈ L.map (·.1) then some true else none)) (hn : (S.map (·.1)).Nodup) (hp : p ∉ L.map (·.1)) : Nd.look S p = none := by
  rw [tells_look hn h, if_neg hp]
def evB (b : Bool) : Value := .bool b
theorem mapHas_ok {b : Nat} {D : List (Int × Int)} {m : Int → Option Int} {v : Value} {L : List (Ky × Vl)} (hm : HasMap w kE.enc ev b D) (ht : Tells D m) (hL : Tells L m) (hnd : (L.map (·.1)).Nodup) (h : IsPairs w v L) (hn : L.length < 2 ^ 31)
    (hK : ∀ w', Frm (fun _ => False) w w' → K (.bool true) w') : Calls Try.prog 38 #[.map (some b), v] w (ret K Kp) := by
  obtain ⟨a, c, rfl, _, _, h0, _⟩ := h
  have hlen : D.length = L.length := tells_len hm.nodup hnd ht hL
  refine vc38_calls ?_
  simp only [vc38]
  try simp [-getElem?_pos, -Array.getElem?_eq_getElem, List.getElem?_cons_zero, List.getElem?_cons_succ, -Int.natCast_add, add_spot, and_assoc, Br_dec, -op_box, -op_alloc_82, -op_st_82, -op_alloc_45, -op_st_45, ]
  refine op_mapLen (ek := kE.enc) (ev := ev) Try.underlying30 hm ?_
  rw [hlen]
  try simp [-getElem?_pos, -Array.getElem?_eq_getElem, List.getElem?_cons_zero, List.getElem?_cons_succ, -Int.natCast_add, add_spot, and_assoc, Br_dec, -op_box, -op_alloc_82, -op_st_82, -op_alloc_45, -op_st_45, ]
  refine op_mkMap ?_
  have k1 : Frm (fun _ => False) w (w.alloc (.map #[] 0)) := Frm.alloc _ _
  have hs1 : HasMap (w.alloc (.map #[] 0)) kE.enc evB w.heap.size ([] : List (Int × Bool)) := hasMap_new w _ _
  generalize hw1 : w.alloc (.map #[] 0) = w1 at *
  have hslt := hs1.lt
  have hblt := hm.lt
  try simp [-getElem?_pos, -Array.getElem?_eq_getElem, List.getElem?_cons_zero, List.getElem?_cons_succ, -Int.natCast_add, add_spot, and_assoc, Br_dec, -op_box, -op_alloc_82, -op_st_82, -op_alloc_45, -op_st_45, ]
  obtain ⟨I, hI⟩ : ∃ I : Value → World → Prop, ∀ v wl, I v wl ↔ ∃ (i : Nat) (S : List (Int × Bool)), v = .int .i64 i ∧ i ≤ L.length ∧ Frm (fun _ => False) w wl ∧ w1.heap.size ≤ wl.heap.size ∧ HasMap wl kE.enc evB w.heap.size S ∧ Tells S (fun k => if k ∈ (L.take i).map (·.1) then some true else none) := ⟨_, fun _ _ => Iff.rfl⟩
  refine Lp.intro I (fun v _ => L.length - natOf v) ⟨(hI _ _).2 ⟨0, [], rfl, by omega, k1, Nat.le_refl _, hs1, fun k v => by simp⟩, ?_⟩
  intro wl v hl
  obtain ⟨i, S, rfl, hi, kl, zl, hS, hSt⟩ := (hI _ _).1 hl
  simp only [op_lss, Br_dec]
  refine ⟨fun hlt' => ?_, fun hnl' => hK wl kl⟩
  have hi' : i < L.length := by omega
  obtain ⟨bp, o, cs, e, fz, rfl, hcs, hsz, hext⟩ := (h0.frame kl (fun _ _ h => h)).part ent_len (by decide) hi'
  have htk : L.take (i + 1) = L.take i ++ [L[i]] := List.take_succ_eq_append_getElem hi'
  have hmem := List.getElem_mem hi'
  have hfresh : L[i].1 ∉ (L.take i).map (·.1) := fun hk => by
    rw [List.map_take] at hk
    obtain ⟨j, hj, hje⟩ := List.mem_iff_getElem.1 hk
    simp at hj
    have := List.pairwise_iff_getElem.1 hnd j i (by simpa using by omega) (by simpa using hi') (by omega)
    simp at hje
    exact this (by simpa using hje)
  generalize hp : L[i] = p at *
  have hmp : m p.1 = some p.2 := (hL p.1 p.2).1 hmem
  simp [-getElem?_pos, -Array.getElem?_eq_getElem, List.getElem?_cons_zero, List.getElem?_cons_succ, -Int.natCast_add, add_spot, and_assoc, Br_dec, -op_box, -op_alloc_82, -op_st_82, -op_alloc_45, -op_st_45, hcs, hsz, hext]
  refine ⟨hi', ?_⟩
  refine op_alloc_ok (z := .agg #[.int .i64 0, .int .i64 0]) (by kernel_rfl) fun w5 k5 z5 b5 => ?_
  simp only [cells_agg] at b5
  refine op_storeN_ok (n := 2) (by kernel_rfl) b5 rfl (by decide) (by simp [ent, ek, ev]) fun w6 k6 z6 b6 => ?_
  have b6 : w6.heap[wl.heap.size]? = some (.cells #[.int .i64 p.1, .int .i64 p.2] 45 (0, 0)) := by
    rw [ow_all (by simp [ent])] at b6; simpa [ent, ek, ev] using b6
  have n5 := k5.size
  have n6 := k6.size
  have k56 : Frm (fun _ => False) wl w6 := k5.old k6 fun c hc => .inr (by omega)
  have hD6 := (hm.frame kl fun h => h).frame k56 fun h => h
  have hS6 := hS.frame k56 fun h => h
  simp [-getElem?_pos, -Array.getElem?_eq_getElem, List.getElem?_cons_zero, List.getElem?_cons_succ, -Int.natCast_add, add_spot, and_assoc, Br_dec, -op_box, -op_alloc_82, -op_st_82, -op_alloc_45, -op_st_45, b6]
  refine op_lookup (E := kE) (ev := ev) (k := p.1) (z := .int .i64 0) Try.underlying30 (by kernel_rfl) hD6 ?_
  rw [tells_look hm.nodup ht, hmp]
  simp [-getElem?_pos, -Array.getElem?_eq_getElem, List.getElem?_cons_zero, List.getElem?_cons_succ, -Int.natCast_add, add_spot, and_assoc, Br_dec, -op_box, -op_alloc_82, -op_st_82, -op_alloc_45, -op_st_45, b6, ev]
  refine op_lookup (E := kE) (ev := evB) (k := p.1) (z := .bool false) Try.underlying140 (by kernel_rfl) hS6 ?_
  rw [look_seen hSt hS.nodup hfresh]
  simp [-getElem?_pos, -Array.getElem?_eq_getElem, List.getElem?_cons_zero, List.getElem?_cons_succ, -Int.natCast_add, add_spot, and_assoc, Br_dec, -op_box, -op_alloc_82, -op_st_82, -op_alloc_45, -op_st_45, b6]
  refine op_update (E := kE) (ev := evB) (k := p.1) (v := true) Try.underlying140 hS6 fun w7 k7 z7 hS7 => ?_
  try simp [-getElem?_pos, -Array.getElem?_eq_getElem, List.getElem?_cons_zero, List.getElem?_cons_succ, -Int.natCast_add, add_spot, and_assoc, Br_dec, -op_box, -op_alloc_82, -op_st_82, -op_alloc_45, -op_st_45, ]
  rw [wrap_i64_small (by omega) (by omega)]
  refine ⟨(hI _ _).2 ⟨i + 1, _, by simp, by omega, (kl.no k56).old k7 fun c hc => .inr (by omega), by omega, hS7, ?_⟩, ?_⟩
  · have := tells_upd (k := p.1) (v := true) hS6.nodup hSt
    intro k v
    rw [this k v, htk, List.map_append]
    unfold mset
    by_cases hk : k = p.1
    · simp [hk]
    · have : k ∈ (L.take i).map (·.1) ++ [p].map (·.1) ↔ k ∈ (L.take i).map (·.1) := by simp [hk]
      simp only [if_neg hk, this]
  · simp only [natOf]; omega
/-- What a version tells, held against the reference. -/
theorem mapSaid_ok {b : Nat} {D : List (Int × Int)} {m : Int → Option Int} {v : Value} {L : List (Ky × Vl)} (hm : HasMap w kE.enc ev b D) (ht : Tells D m) (hL : Tells L m) (hnd : (L.map (·.1)).Nodup) (h : IsPairs w v L) (hn : L.length < 2 ^ 31)
    (hK : ∀ w', Frm (fun _ => False) w w' → K (.bool true) w') : Calls Try.prog 17 #[.agg #[.int .i64 L.length, v], .map (some b)] w (ret K Kp) := by
  have hlen : D.length = L.length := tells_len hm.nodup hnd ht hL
  have hv1 := h.one
  refine vc17_calls ?_
  simp only [vc17]
  refine op_box_ok fun w1 k1 z1 b1 => ?_
  simp only [cells_agg] at b1
  simp [-getElem?_pos, -Array.getElem?_eq_getElem, List.getElem?_cons_zero, List.getElem?_cons_succ, -Int.natCast_add, add_spot, and_assoc, Br_dec, -op_box, -op_alloc_82, -op_st_82, -op_alloc_45, -op_st_45, b1]
  have hm1 := hm.frame k1 fun h => h
  refine op_mapLen (ek := kE.enc) (ev := ev) Try.underlying30 hm1 ?_
  rw [hlen]
  simp [-getElem?_pos, -Array.getElem?_eq_getElem, List.getElem?_cons_zero, List.getElem?_cons_succ, -Int.natCast_add, add_spot, and_assoc, Br_dec, -op_box, -op_alloc_82, -op_st_82, -op_alloc_45, -op_st_45, b1]
  refine mapPairs_ok (h.still k1) hn fun l w2 k2 hR2 => ?_
  have hP : IsPairs w2 l L := hR2.flat
  try simp [-getElem?_pos, -Array.getElem?_eq_getElem, List.getElem?_cons_zero, List.getElem?_cons_succ, -Int.natCast_add, add_spot, and_assoc, Br_dec, -op_box, -op_alloc_82, -op_st_82, -op_alloc_45, -op_st_45, ]
  exact mapHas_ok (hm1.frame k2 fun h => h) ht hL hnd hP hn fun w3 k3 => hK w3 ((k1.no k2).no k3)
end Go.Proofs.Ytbghmbbhkoniiaa.I
end
section
/- Structs of whole numbers that are compared. -/
set_option linter.unusedSimpArgs false
set_option linter.unusedVariables false
namespace Go.Vc
variable {P : Program} {w : World} {K : Value → World → Prop} {K1 : Value → Prop} {Kp : KP} {t : TypeId}
def allInt (P : Program) (k : IntKind) : List Field → Nat → Bool
  | [], _ => true
  | f :: fs, o => f.name != "_" && f.offset == o && (match P.underlying f.type with | some (.int k') => k' == k | _ => false) && (match ldk P f.type with | some .one => true | _ => false) && allInt P k fs (o + 1)
theorem run_eqFields {k : IntKind} {d : Nat} {xs ys : List Int} : ∀ (fs : List Field) (o : Nat) (w : World), allInt P k fs o = true → xs.length = o + fs.length → ys.length = o + fs.length →
    (Op.eqFields (d + 1) (xs.map (Value.int k)).toArray (ys.map (Value.int k)).toArray fs).run P w = .ok (decide (xs.drop o = ys.drop o)) w
  | [], o, w, _, hx, hy => by
    simp only [List.length_nil, Nat.add_zero] at hx hy
    simp [Op.eqFields, List.drop_of_length_le (Nat.le_of_eq hx), List.drop_of_length_le (Nat.le_of_eq hy)]
  | f :: fs, o, w, h, hx, hy => by
    simp only [allInt, Bool.and_eq_true] at h
    obtain ⟨⟨⟨⟨h1, h2⟩, h3⟩, h4⟩, h5⟩ := h
    have h2 : f.offset = o := by simpa using h2
    have h1 : f.name ≠ "_" := by simpa using h1
    have hu : P.underlying f.type = some (.int k) := by
      split at h3
      · rename_i k' hk; rw [hk]; have : k' = k := by simpa using h3
        rw [this]
      · cases h3
    have hl : ldk P f.type = some .one := by
      split at h4
      · rename_i hk; exact hk
      · cases h4
    simp only [List.length_cons] at hx hy
    have hox : o < xs.length := by omega
    have hoy : o < ys.length := by omega
    have px : (part f.type (xs.map (Value.int k)).toArray f.offset).run P w = .ok (.int k xs[o]) w := by
      rw [h2]; exact ldk_part hl (by simp [partV, hox]) w
    have py : (part f.type (ys.map (Value.int k)).toArray f.offset).run P w = .ok (.int k ys[o]) w := by
      rw [h2]; exact ldk_part hl (by simp [partV, hoy]) w
    rw [Op.eqFields, if_pos h1]
    simp only [Sem.run_bind, px, py, Result.andThen_ok, run_equalIn_int (k' := k) (h := hu)]
    have hiff : (xs.drop o = ys.drop o) ↔ xs[o] = ys[o] ∧ xs.drop (o + 1) = ys.drop (o + 1) := by rw [List.drop_eq_getElem_cons hox, List.drop_eq_getElem_cons hoy, List.cons.injEq]
    by_cases e : xs[o] = ys[o]
    · simp only [e, beq_self_eq_true, Bool.not_true, Bool.false_eq_true, if_false]
      rw [run_eqFields fs (o + 1) w h5 (by omega) (by omega)]
      congr 1
      exact decide_eq_decide.2 ⟨fun h => hiff.2 ⟨e, h⟩, fun h => (hiff.1 h).2⟩
    · have e' : (xs[o] == ys[o]) = false := beq_eq_false_iff_ne.2 e
      have hn : ¬ xs.drop o = ys.drop o := fun h => e (hiff.1 h).1
      simp only [e', Bool.not_false, if_true, Sem.run_pure, decide_eq_false hn]
theorem agg_eq_run {k : IntKind} {xs ys : List Int} (ht : P.underlying t = some (.struct (P.fieldsOf t))) (hp : P.stoodInHeld t = false) (hf : allInt P k (P.fieldsOf t).toList 0 = true) (hx : xs.length = (P.fieldsOf t).toList.length) (hy : ys.length = (P.fieldsOf t).toList.length) (w : World) :
    (Op.equal t (.agg (xs.map (Value.int k)).toArray) (.agg (ys.map (Value.int k)).toArray)).run P w = .ok (decide (xs = ys)) w := by
  unfold Op.equal Op.maxDepth
  rw [run_equalIn_struct w 9999 t _ _ ht hp, run_eqFields (d := 9998) _ 0 w hf (by omega) (by omega)]
  simp
theorem pur_neq_agg {k : IntKind} {xs ys : List Int} (ht : P.underlying t = some (.struct (P.fieldsOf t))) (hp : P.stoodInHeld t = false) (hf : allInt P k (P.fieldsOf t).toList 0 = true) (hg : P.eqGuardType P.depth t = false)
    (hx : xs.length = (P.fieldsOf t).toList.length) (hy : ys.length = (P.fieldsOf t).toList.length) (hK : K1 (.bool (!decide (xs = ys)))) :
    (nice P).pur (.bin .neq t false false (.agg (xs.map (Value.int k)).toArray) (.agg (ys.map (Value.int k)).toArray)) K1 := by
  refine ⟨_, fun w => ?_, hK⟩
  have h2 : ∀ w, (eqGuard .neq t (opd false) (opd false) (.agg (xs.map (Value.int k)).toArray) (.agg (ys.map (Value.int k)).toArray)).run P w = .ok () w := fun w => by
    have hp : (program : Sem Program).run P w = .ok P w := rfl
    simp [eqGuard, hp, hg]
  simp only [VOp.sem, Sem.run_bind, h2, Result.andThen_ok]
  simp [binOp, agg_eq_run ht hp hf hx hy]
end Go.Vc
end
section
/- slices.Equal, for elements of one cell and of several ones. -/
set_option linter.unusedSimpArgs false
set_option linter.unusedVariables false
set_option linter.unusedSectionVars false
namespace Go.Vc
variable {P : Program} {w w' : World} {K : Value → World → Prop} {Kp : KP} {tin tel e : TypeId} {k : Nat} {α : Type} [DecidableEq α] {f : α → List Value} {xs ys : List α} {v1 v2 : Value}
theorem same_rows (hl : xs.length = ys.length) (h : ∀ (j : Nat) (hj : j < xs.length), xs[j] = ys[j]'(by omega)) : xs = ys := List.ext_getElem hl fun j h1 h2 => h j h1
/-- The chain of slices.Equal; ld: how an element is read. -/
def eqChain (S : Sig) (tin tel : TypeId) (a0 a1 : Value) (w : World) (K : Value → World → Prop) (Kp : KP) : Prop :=
  S.op (.blt Builtin.len [tin] 3 [a0]) w (fun v7 w =>
  S.op (.blt Builtin.len [tin] 3 [a1]) w (fun v9 w =>
  S.op (.bin BinOp.neq 3 false false v7 v9) w (fun v10 w =>
  Br v10 (
    K (Value.bool false) w) (
    S.op (.blt Builtin.len [tin] 3 [a0]) w (fun v12 w =>
    Lp fun (I4 : Value → World → Prop) (μ4 : Value → World → Nat) => I4 (Value.int IntKind.i64 0) w ∧
    ∀ (wl4 : World) (junk : Nat → Value) (s13_ : Value), I4 s13_ wl4 →
      S.op (.bin BinOp.lss 3 false false s13_ v12) wl4 (fun v14 w =>
      Br v14 (
        S.pur (.indexAddr tin a0 s13_) (fun v18 =>
        S.ld (.load tel v18) w.drew (fun v19 =>
        S.pur (.indexAddr tin a1 s13_) (fun v22 =>
        S.ld (.load tel v22) w.drew (fun v23 =>
        S.pur (.bin BinOp.neq tel false false v19 v23) (fun v24 =>
        Br v24 (
          K (Value.bool false) w.drew) (
          S.op (.bin BinOp.add 3 false true s13_ (Value.int IntKind.i64 1)) w.drew (fun v25 w =>
          I4 v25 w ∧ μ4 v25 w < μ4 s13_ wl4) Kp))))))) (
        K (Value.bool true) w)) Kp) Kp)) Kp) Kp) Kp
/-- How the elements of a row are read. -/
theorem elem_read {c : Nat} (hin : sliceOf P tin = some (e, k)) (hk : ∀ x, (f x).length = k) (hk0 : 0 < k) (hel : ldk P tel = some (.agg k) ∨ k = 1 ∧ ldk P tel = some .one) {ev : α → Value} (hev : ∀ x, ldk P tel = some (.agg k) ∧ ev x = .agg (f x).toArray ∨ ldk P tel = some .one ∧ f x = [ev x])
    (h : IsSl w v1 xs.length (xs.flatMap f)) {j : Nat} (hj : j < xs.length) {K1 : Value → Prop} (hK : K1 (ev xs[j])) :
    (nice P).pur (.indexAddr tin v1 (.int .i64 (j : Int))) (fun v18 => (nice P).ld (.load tel v18) w K1) := by
  obtain ⟨a, c, rfl, _, _, hr, _⟩ := h
  obtain ⟨b, o, cs, e', fz, rfl, hcs, hsz, hext⟩ := hr.part hk hk0 hj
  rw [pur_ix_slice hin]
  refine ⟨⟨by omega, by omega⟩, ?_⟩
  rw [add_spot rfl]
  simp only [Int.toNat_natCast]
  rcases hev xs[j] with ⟨h1, h2⟩ | ⟨h1, h2⟩
  · rw [ld_ldn h1]
    refine ⟨cs, e', fz, hcs, rfl, hsz, ?_⟩
    show K1 (.agg (cs.extract (o + j * k) (o + j * k + k)))
    rw [hext, ← h2]; exact hK
  · rw [ld_ld h1]
    refine ⟨cs, e', fz, hcs, rfl, ev xs[j], ?_, hK⟩
    have := congrArg (fun a => a[0]?) hext
    rw [h2] at this
    simp only [Array.getElem?_extract] at this
    rw [if_pos (by omega)] at this
    simpa using this
theorem eqChain_ok {ev : α → Value} (hin : sliceOf P tin = some (e, k)) (hkd : kd P tin = .slice) (hk : ∀ x, (f x).length = k) (hk0 : 0 < k) (hel : ldk P tel = some (.agg k) ∨ k = 1 ∧ ldk P tel = some .one) (hev : ∀ x, ldk P tel = some (.agg k) ∧ ev x = .agg (f x).toArray ∨ ldk P tel = some .one ∧ f x = [ev x])
    (hne : ∀ x y (K1 : Value → Prop), K1 (.bool (!decide (x = y))) → (nice P).pur (.bin .neq tel false false (ev x) (ev y)) K1)
    (h1 : IsSl w v1 xs.length (xs.flatMap f)) (h2 : IsSl w v2 ys.length (ys.flatMap f)) (hn : xs.length < 2 ^ 62) (hK : ∀ w', Frm (fun _ => False) w w' → K (.bool (decide (xs = ys))) w') : eqChain (nice P) tin tel v1 v2 w K Kp := by
  unfold eqChain
  obtain ⟨a1, c1, hv1, _⟩ := id h1
  obtain ⟨a2, c2, hv2, _⟩ := id h2
  rw [hv1, hv2, op_len_slice hkd, op_len_slice hkd, op_neq, ← hv1, ← hv2]
  simp only [Br_bool, Bool.not_eq_eq_eq_not, Bool.not_true, Bool.not_false, decide_eq_true_eq, decide_eq_false_iff_not]
  refine ⟨fun hne' => ?_, fun heq => ?_⟩
  · have := hK w Frm.refl
    rw [decide_eq_false (fun e => hne' (by rw [e]))] at this
    exact this
  have hlen : xs.length = ys.length := by omega
  rw [hv1, op_len_slice hkd, ← hv1]
  obtain ⟨I, hI⟩ : ∃ I : Value → World → Prop, ∀ v wl, I v wl ↔ ∃ i : Nat, v = .int .i64 i ∧ i ≤ xs.length ∧ Frm (fun _ => False) w wl ∧ ∀ j (hj : j < xs.length), j < i → xs[j] = ys[j]'(by omega) := ⟨_, fun _ _ => Iff.rfl⟩
  refine Lp.intro I (fun v _ => xs.length - (match v with | .int _ j => j.toNat | _ => 0)) ⟨(hI _ _).2 ⟨0, rfl, by omega, Frm.refl, fun j hj h => by omega⟩, ?_⟩
  intro wl _ v hl
  obtain ⟨i, rfl, hi, kl, hall⟩ := (hI _ _).1 hl
  simp only [op_lss, Br_dec]
  refine ⟨fun hlt => ?_, fun hge => ?_⟩
  · have hi' : i < xs.length := by omega
    have kd := kl.no (Frm.drew wl)
    refine elem_read (w := wl.drew) (c := c1) hin hk hk0 hel hev (h1.still kd) hi' ?_
    refine elem_read (w := wl.drew) (c := c2) hin hk hk0 hel hev (h2.still kd) (show i < ys.length by omega) ?_
    refine hne _ _ _ ?_
    simp only [Br_bool, Bool.not_eq_eq_eq_not, Bool.not_true, Bool.not_false, decide_eq_true_eq, decide_eq_false_iff_not]
    refine ⟨fun hd => ?_, fun hs => ?_⟩
    · have := hK _ kd
      rw [decide_eq_false (fun e => hd (by subst e; rfl))] at this
      exact this
    · rw [op_add, wrap_small64 (by omega) (by omega)]
      refine ⟨(hI _ _).2 ⟨i + 1, by simp, by omega, kd, fun j hj hji => ?_⟩, ?_⟩
      · by_cases h : j = i
        · subst h; exact hs
        · exact hall j hj (by omega)
      · have : ((i : Int) + 1).toNat = i + 1 := by omega
        simp only [Int.toNat_natCast, this]; omega
  · have := hK wl kl
    rw [decide_eq_true (same_rows hlen fun j hj => hall j hj (by omega))] at this
    exact this
end Go.Vc
end
section
/- laws.FnMapRun, mapAwake. -/
set_option maxRecDepth 100000
set_option maxHeartbeats 2000000
set_option linter.unusedSimpArgs false
set_option linter.unusedVariables false
set_option linter.unusedSectionVars false
namespace Go.Proofs.Ytbghmbbhkoniiaa.I
open Go.Vc Go.Proofs Go.Proofs.Ytbghmbbhkoniiaa Go.Vc.Nd
variable {w w' : World} {v hv : Value} {t : Tr} {F F' G : Nat → Prop} {K : Value → World → Prop} {Kp : KP} {hash : Ky → Nat} {k : Ky} {x : Vl} {l s rb md ml sh : Nat} {r0 mu nl : Bool}

def awakeSteps : List MStep := [⟨0, 0, 1, 5, 0⟩, ⟨0, 1, 2, 6, 0⟩, ⟨1, 2, 1, 0, 0⟩]
theorem awake_vers (hash : Int → Nat) : versT hash awakeSteps = [.emp, .arr [(1, 5)], .arr [(1, 5), (2, 6)], .arr [(2, 6)]] := by
  simp [versT, vers, awakeSteps, MStep.ref, trieStep, Nd.set, Nd.find, Nd.upd, delT, Nd.getIn, Nd.look, Nd.del, List.findIdx?_cons]
theorem pair_ne (x y : Ky × Vl) (K1 : Value → Prop) (h : K1 (.bool (!decide (x = y)))) : (nice Try.prog).pur (.bin .neq 46 false false (.agg (ent x).toArray) (.agg (ent y).toArray)) K1 := by
  have := pur_neq_agg (P := Try.prog) (t := 46) (k := .i64) (xs := [x.1, x.2]) (ys := [y.1, y.2]) (K1 := K1) (by kernel_rfl) (by kernel_rfl) (by kernel_rfl) (by kernel_rfl) (by kernel_rfl) (by kernel_rfl)
  refine this ?_
  have e : decide ([x.1, x.2] = [y.1, y.2]) = decide (x = y) := decide_eq_decide.2 ⟨fun h => by simp at h; exact Prod.ext h.1 h.2, fun h => by rw [h]⟩
  rw [e]; exact h
theorem eqPairs_ok {v1 v2 : Value} {L L' : List (Ky × Vl)} (h1 : IsPairs w v1 L) (h2 : IsPairs w v2 L') (hn : L.length < 2 ^ 31) (hK : ∀ w', Frm (fun _ => False) w w' → K (.bool (decide (L = L'))) w') :
    Calls Try.prog 27 #[v1, v2] w (ret K Kp) := by
  refine vc27_calls ?_
  exact eqChain_ok (f := ent) (k := 2) (e := 46) (ev := fun x => .agg (ent x).toArray) (by kernel_rfl) (by kernel_rfl) ent_len (by decide) (.inl (by kernel_rfl)) (fun x => .inl ⟨by kernel_rfl, rfl⟩) pair_ne h1 h2 (by omega) hK
theorem mapAwake_ok (hK : ∀ w', Frm (fun _ => False) w w' → K (.bool true) w') : Calls Try.prog 13 #[] w (ret K Kp) := by
  refine vc13_calls ?_
  simp only [vc13]
  try simp [-getElem?_pos, -Array.getElem?_eq_getElem, List.getElem?_cons_zero, List.getElem?_cons_succ, -Int.natCast_add, add_spot, and_assoc, Br_dec, -op_box, -op_alloc_41, -op_st_41, -op_lit_32_3, -op_lit_39_1, ]
  refine op_lit_ok lit_32_3 fun w1 k1 z1 b1 => ?_
  have hr : Row w1 (some ⟨w.heap.size, 0, none⟩) (awakeSteps.flatMap MStep.cells) := .inr ⟨_, 0, _, _, _, rfl, b1, fun j v hj => by simpa [awakeSteps, MStep.cells] using hj⟩
  have hm := @mapRun_ok
  try simp [-getElem?_pos, -Array.getElem?_eq_getElem, List.getElem?_cons_zero, List.getElem?_cons_succ, -Int.natCast_add, add_spot, and_assoc, Br_dec, -op_box, -op_alloc_41, -op_st_41, -op_lit_32_3, -op_lit_39_1, ]
  refine mapRun_ok (md := 0) (ml := 0) (sh := 0) (steps := awakeSteps) hr (fun i hi => ?_) (by decide) fun l w2 G k2 hR2 => ?_
  · match i, hi with
    | 0, _ => simp [awakeSteps]
    | 1, _ => simp [awakeSteps]
    | 2, _ => simp [awakeSteps]
  rw [awake_vers] at hR2
  have r2 := hR2.get (j := 2) (by decide)
  have r3 := hR2.get (j := 3) (by decide)
  obtain ⟨u2, g, c, cs, rfl, hcs, hu2, hg2, _, _, pv2, hp2, hP2, _⟩ := r2
  obtain ⟨u3, g', c', cs', he, hcs', hu3, hg3, _, _, pv3, hp3, hP3, _⟩ := r3
  cases he
  rw [hcs] at hcs'
  cases hcs'
  subst hp2 hp3
  have q2 : cs[4]? = some (.int .i64 2) := by have := hg2 0 (by decide); simpa [toL] using this
  have q3 : cs[6]? = some (.int .i64 1) := by have := hg3 0 (by decide); simpa [toL] using this
  have q4 : cs[7]? = some pv3 := by have := hg3 1 (by decide); simpa using this
  try simp [-getElem?_pos, -Array.getElem?_eq_getElem, List.getElem?_cons_zero, List.getElem?_cons_succ, -Int.natCast_add, add_spot, and_assoc, Br_dec, -op_box, -op_alloc_41, -op_st_41, -op_lit_32_3, -op_lit_39_1, hcs, q2, q3, q4]
  have k12 := k1.no k2
  refine op_lit_ok lit_39_1 fun w3 k3 z3 b3 => ?_
  have hl : IsPairs w3 (.slice (some ⟨w2.heap.size, 0, none⟩) 1 1) [(2, 6)] := ⟨_, _, rfl, Nat.le_refl _, by simp [maxLen], .inr ⟨_, 0, _, _, _, rfl, b3, fun j v hj => by simpa [ent, ek, ev] using hj⟩, fun h => nomatch h⟩
  refine eqPairs_ok (hP3.still k3) hl (by decide) fun w4 k4 => ?_
  exact hK w4 ((k12.no k3).no k4)
/-- laws.FnMapRun. -/
theorem law_run {a1 : Option Addr} {c1 : Nat} {steps : List MStep} (h1 : Row w a1 (steps.flatMap MStep.cells)) (hK : ∀ w', Frm (fun _ => False) w w' → K (.bool true) w') :
    Calls Try.prog 4 #[hval md ml sh, .slice a1 steps.length c1] w (ret K Kp) := by
  refine vc4_calls ?_
  simp only [vc4]
  refine op_box_ok fun w1 k1 z1 b1 => ?_
  simp only [hval, cells_agg] at b1
  have hx3 : (#[Value.int .u32 (md : Int), .int .u32 (ml : Int), .int .u8 (sh : Int)] : Array Value).extract 0 3 = #[.int .u32 md, .int .u32 ml, .int .u8 sh] := rfl
  try simp [-getElem?_pos, -Array.getElem?_eq_getElem, List.getElem?_cons_zero, List.getElem?_cons_succ, -Int.natCast_add, add_spot, and_assoc, Br_dec, -op_box, -op_alloc_41, -op_st_41, -op_lit_32_3, -op_lit_39_1, b1, hx3]
  refine ⟨fun _ => hK w1 k1, fun hle => ?_⟩
  have hr1 := h1.frame k1 fun _ _ h => h
  refine fits_ok (md := md) (ml := ml) (sh := sh) hr1 (by omega) (fun w2 k2 => ?_) fun hfit h12 hsh w2 k2 => ?_
  · try simp [-getElem?_pos, -Array.getElem?_eq_getElem, List.getElem?_cons_zero, List.getElem?_cons_succ, -Int.natCast_add, add_spot, and_assoc, Br_dec, -op_box, -op_alloc_41, -op_st_41, -op_lit_32_3, -op_lit_39_1, ]
    exact mapAwake_ok fun w3 k3 => hK w3 ((k1.no k2).no k3)
  have b2 := k2.get b1 fun h => h
  have k02 := k1.no k2
  have hr2 := hr1.frame k2 fun _ _ h => h
  try simp [-getElem?_pos, -Array.getElem?_eq_getElem, List.getElem?_cons_zero, List.getElem?_cons_succ, -Int.natCast_add, add_spot, and_assoc, Br_dec, -op_box, -op_alloc_41, -op_st_41, -op_lit_32_3, -op_lit_39_1, ]
  refine mapVersions_ok hr2 hfit.m (by omega) fun l3 w3 G3 k3 hR3 => ?_
  have b3 := k3.get b2 fun h => h
  try simp [-getElem?_pos, -Array.getElem?_eq_getElem, List.getElem?_cons_zero, List.getElem?_cons_succ, -Int.natCast_add, add_spot, and_assoc, Br_dec, -op_box, -op_alloc_41, -op_st_41, -op_lit_32_3, -op_lit_39_1, b3, hx3]
  have hr3 := (hr2.frame k3 fun _ _ h => h).frame (Frm.drew (M := fun _ => False) _) fun _ _ h => h
  refine mapTo_ok hr3 (by omega) fun l4 w4 k4 hR4 => ?_
  have b4 := k4.get (show w3.drew.heap[w.heap.size]? = _ from b3) fun h => h
  obtain ⟨a4, c4, rfl, hc4, _, hr4, _⟩ := hR4.flat
  try simp [-getElem?_pos, -Array.getElem?_eq_getElem, List.getElem?_cons_zero, List.getElem?_cons_succ, -Int.natCast_add, add_spot, and_assoc, Br_dec, -op_box, -op_alloc_41, -op_st_41, -op_lit_32_3, -op_lit_39_1, b4, hx3]
  refine mapRun_ok (md := md) (ml := ml) (sh := sh) hr4 hfit.m (by have := hfit.cost; omega) fun l5 w5 G5 k5 hR5 => ?_
  have hlt := hashOf_lt md ml sh
  have hT : (versT (hashOf md ml sh) steps).length = steps.length + 1 := vers_len steps
  have hM : (versM steps).length = steps.length + 1 := vers_len steps
  have k35 : Frm (fun _ => False) w3 w5 := (Frm.dr k4).no k5
  have hR35 := hR3.still elM_ok k35
  obtain ⟨a3, c3, rfl, _⟩ := id hR3.slice
  obtain ⟨a5, c5, rfl, _⟩ := id hR5.slice
  try simp [-getElem?_pos, -Array.getElem?_eq_getElem, List.getElem?_cons_zero, List.getElem?_cons_succ, -Int.natCast_add, add_spot, and_assoc, Br_dec, -op_box, -op_alloc_41, -op_st_41, -op_lit_32_3, -op_lit_39_1, hT, hM]
  have k05 : Frm (fun _ => False) w w5 := (k02.no k3).no k35
  obtain ⟨I, hI⟩ : ∃ I : Value → World → Prop, ∀ v wl, I v wl ↔ ∃ i : Nat, v = .int .i64 i ∧ i ≤ steps.length + 1 ∧ Frm (fun _ => False) w5 wl := ⟨_, fun _ _ => Iff.rfl⟩
  refine Lp.intro I (fun v _ => steps.length + 1 - natOf v) ⟨(hI _ _).2 ⟨0, rfl, by omega, Frm.refl⟩, ?_⟩
  intro wl v hl
  obtain ⟨i, rfl, hi, kl⟩ := (hI _ _).1 hl
  simp only [op_lss, Br_dec]
  refine ⟨fun hlt' => ?_, fun hnl' => ?_⟩
  rotate_left
  · exact mapAwake_ok fun w6 k6 => hK w6 ((k05.no kl).no k6)
  have hi' : i < steps.length + 1 := by omega
  have hRl := hR5.still elS_ok kl
  have hRm := hR35.still elM_ok kl
  obtain ⟨u, g, c, cs, hle', hcs, hu, hg, hsz, hext, pv, hpv, hP, _⟩ := hRl.get (j := i) (by rw [hT]; exact hi')
  obtain ⟨u', g', c', cs', hle2, hcs', hu', hg', _, _, bm, D, hbm, hMap, htD, _⟩ := hRm.get (j := i) (by rw [hM]; exact hi')
  cases hle'
  cases hle2
  subst hpv hbm
  have q1 : cs'[i]? = some (.map (some bm)) := by have := hg' 0 (by decide); simpa using this
  have hIs := is_vers hlt steps i (List.getElem?_eq_getElem (by rw [show (versT (hashOf md ml sh) steps).length = steps.length + 1 from vers_len steps]; exact hi')) (List.getElem?_eq_getElem (by rw [show (versM steps).length = steps.length + 1 from vers_len steps]; exact hi'))
  have hsize := (vers_size hlt steps i _ (List.getElem?_eq_getElem (by rw [show (versT (hashOf md ml sh) steps).length = steps.length + 1 from vers_len steps]; exact hi'))).2
  have hcost := hfit.cost
  generalize htt : (versT (hashOf md ml sh) steps)[i]'(by rw [show (versT (hashOf md ml sh) steps).length = steps.length + 1 from vers_len steps]; exact hi') = t at *
  have hpv1 := hP.one
  try simp [-getElem?_pos, -Array.getElem?_eq_getElem, List.getElem?_cons_zero, List.getElem?_cons_succ, -Int.natCast_add, add_spot, and_assoc, Br_dec, -op_box, -op_alloc_41, -op_st_41, -op_lit_32_3, -op_lit_39_1, hcs, hsz, hext]
  refine ⟨by omega, ?_⟩
  refine op_alloc_ok (z := .agg #[.int .i64 0, .slice none 0 0]) (by kernel_rfl) fun w6 k6 z6 b6 => ?_
  simp only [cells_agg] at b6
  refine op_storeN_ok (n := 2) (by kernel_rfl) b6 rfl (by decide) (by simp [hpv1]) fun w7 k7 z7 b7 => ?_
  have b7 : w7.heap[wl.heap.size]? = some (.cells #[.int .i64 (toL t).length, pv] 41 (0, 0)) := by
    rw [ow_all (by simp)] at b7; simpa using b7
  have n6 := k6.size
  have k67 : Frm (fun _ => False) wl w7 := k6.old k7 fun c hc => .inr (by omega)
  have hcs7 := k67.get hcs' fun h => h
  have hx2 : (#[Value.int .i64 ((toL t).length : Int), pv] : Array Value).extract 0 2 = #[.int .i64 (toL t).length, pv] := rfl
  try simp [-getElem?_pos, -Array.getElem?_eq_getElem, List.getElem?_cons_zero, List.getElem?_cons_succ, -Int.natCast_add, add_spot, and_assoc, Br_dec, -op_box, -op_alloc_41, -op_st_41, -op_lit_32_3, -op_lit_39_1, b7, hx2, hcs7, q1]
  refine ⟨by omega, ?_⟩
  refine mapSaid_ok ((hMap.frame k67 fun h => h).frame (Frm.drew (M := fun _ => False) _) fun h => h) htD hIs.2 hIs.nodup ((hP.still k67).still (Frm.drew _)) (by omega) fun w8 k8 => ?_
  try simp [-getElem?_pos, -Array.getElem?_eq_getElem, List.getElem?_cons_zero, List.getElem?_cons_succ, -Int.natCast_add, add_spot, and_assoc, Br_dec, -op_box, -op_alloc_41, -op_st_41, -op_lit_32_3, -op_lit_39_1, ]
  rw [wrap_i64_small (by omega) (by omega)]
  refine ⟨(hI _ _).2 ⟨i + 1, by simp, by omega, (kl.no k67).no (Frm.dr k8)⟩, ?_⟩
  simp only [natOf]; omega
end Go.Proofs.Ytbghmbbhkoniiaa.I
end
section
/- From calls that answer true and write nothing that was there to the contract of a law's row; arguments in the heap. -/
namespace Go.Vc
open Go.ChangeShapes Go.WideShapes Go.ChangeAt Go.RowKit Go.WideElems
variable {H : Type} {enc : TypeId × Value → H} {P : Program} {W W' : World}

def typed (P : Program) (ts : List TypeId) : Bool := ts.all fun t => P.readableRec t && decide (t < P.types.size)

theorem below_of (h : ∀ {M}, Frm M W W') : Below W.heap.size W W' := ⟨(h (M := fun _ => False)).os, (h (M := fun _ => False)).tape, (h (M := fun _ => False)).output, (h (M := fun _ => False)).size, fun k hk => (h (M := fun _ => False)).block k hk (fun h => h)⟩

theorem trodAll_below (hl : laidOutB P = true) {sp : Nat → Bool} (hb : Below W.heap.size W W') :
    ∀ {ts : List TypeId} {vs : List Value} {ds : List (DataW H)} {ps : List MemPlace}, typed P ts = true → (∀ p ∈ ps, p.block < W.heap.size) → (∀ p ∈ ps, sp p.block = true) →
      DataW.TrodAll enc P W 0 (fun _ => true) true ts vs ds ps → DataW.TrodAll enc P W' 0 sp true ts vs ds ps
  | [], [], [], _, _, _, _, h => h
  | t :: ts, v :: vs, d :: ds, ps, ht, h1, h2, h => by
    obtain ⟨p, q, hd, hr, rfl⟩ := h
    simp only [typed, List.all_cons, Bool.and_eq_true, decide_eq_true_eq] at ht
    refine ⟨p, q, Trod_stays hl ht.1.1 ht.1.2 hd (fun x hx => hb.same (h1 x (by simp [hx]))) (fun x hx => h2 x (by simp [hx])), ?_, rfl⟩
    exact trodAll_below hl hb (by simpa [typed] using ht.2) (fun x hx => h1 x (by simp [hx])) (fun x hx => h2 x (by simp [hx])) hr
  | [], [], _ :: _, _, _, _, _, h => h.elim
  | [], _ :: _, _, _, _, _, _, h => h.elim
  | _ :: _, [], _, _, _, _, _, h => h.elim
  | _ :: _, _ :: _, [], _, _, _, _, h => h.elim

theorem trodAll_len : ∀ {ts : List TypeId} {vs : List Value} {ds : List (DataW H)} {ps : List MemPlace} {b : Nat} {sp : Nat → Bool} {hd : Bool}, DataW.TrodAll enc P W b sp hd ts vs ds ps → ds.length = ts.length
  | [], [], [], _, _, _, _, _ => rfl
  | t :: ts, v :: vs, d :: ds, ps, _, _, _, h => by
    obtain ⟨p, q, hd, hr, rfl⟩ := h
    simp [trodAll_len hr]
  | [], [], _ :: _, _, _, _, _, h => h.elim
  | [], _ :: _, _, _, _, _, _, h => h.elim
  | _ :: _, [], _, _, _, _, _, h => h.elim
  | _ :: _, _ :: _, [], _, _, _, _, h => h.elim

theorem returns_true {C : Checked} {os : Os} {f : FuncId} {fn : Func} {s : ChangeSpec} {tb : TypeId}
    (own : ownKnob C.prog.godebug = none) (started : os.Started) (noInit : C.prog.inits.idxOf? f = none) (hfn : C.prog.funcs[f]? = some fn)
    (witness : ∃ (w : World) (tape : Tape) (i : Input), w.os = os ∧ (w.forCall tape i).Shaped C.prog ∧ i.vars = [] ∧ Input.okWide C.prog (w.forCall tape i) .any w.heap.size f i ∧
      s.pre6 enc C.prog fn [] false (w.forCall tape i).memory i.args ∧ ({} : Assume).holds C.prog (lone (Frame.enter C.prog f i.args .normal) [] (w.forCall tape i)))
    (hl : laidOutB C.prog = true) (ht : typed C.prog fn.params.toList = true) (hv : s.vars = []) (hres : fn.resultTypes = #[tb]) (hb : C.prog.underlying tb = some .bool)
    (hs : ∀ ds : List (DataW H), ds.length = fn.params.toList.length → s.fn H ds = { results := [.lit (.bool true)], args := ds })
    (contract : ∀ (W : World) (base : Nat) (args : Array Value) (ds : List (DataW H)) (before : List MemPlace), W.ShapedOpen C.prog →
      (∀ (j : Nat) t v, fn.params[j]? = some t → args[j]? = some v → Value.okWide C.prog W .any base t v) →
      DataW.TrodAll enc C.prog W 0 (fun _ => true) true fn.params.toList args.toList ds before → (∀ p ∈ before, p.block < W.heap.size) →
      Calls C.prog f args W (ret (fun v W' => v = .bool true ∧ ∀ M, Frm M W W') fun _ _ => False)) :
    ReturnsInHanded {} C os f .any (s.pre6 enc C.prog fn [] false) (s.post enc C.prog fn false true false false) := by
  refine returnsInHanded_of_calls own started noInit witness ?_
  intro w tape i _ hsh _ hok hpre hholds
  obtain ⟨_, _, _, fn', hfn', _, _, _, _, hval⟩ := hok
  have e : fn' = fn := Option.some.inj (hfn'.symm.trans hfn)
  subst e
  obtain ⟨⟨ds, gs, before, hw, hc⟩, hz⟩ := hpre
  have hw' := DataW.Whole.of_heap (w' := w.forCall tape i) (by rfl) hw
  have hlt := hw'.lt
  have hw'' := hw'
  obtain ⟨p, q, hA, hV, rfl, hfz, hnd⟩ := hw'
  rw [hv] at hV
  obtain ⟨rfl, rfl⟩ := trodVars_none hV
  rw [List.append_nil] at hlt hw''
  refine (contract (w.forCall tape i) w.heap.size i.args ds p hsh hval hA hlt).mono fun e W' he => ?_
  cases e with
  | returned v =>
    obtain ⟨rfl, hf⟩ := he
    have hb' := below_of (fun {M} => hf M)
    have hlen := trodAll_len hA
    have hsd : s.fn H (ds ++ []) = { results := [.lit (.bool true)], args := ds } := by rw [List.append_nil]; exact hs ds hlen
    refine ChangeSpec.post_blind ⟨ds, [], p, [], p, [], hw'', ?_, ?_, ?_, World.keptBut_mono (fun x hx => ⟨hx, .inr (.inl hx)⟩) (hb'.frame (· ∈ p)), (fun h => nomatch h)⟩
    · rw [hsd, hres]; exact trodAll_mk1 (shut_bool hb _)
    · rw [hsd]; exact trodAll_below hl hb' ht hlt (fun x hx => by simpa using hlt x hx) hA
    · rw [hsd, hv]; rfl
  | panicked _ => exact he.elim
  | outgrown => exact he.elim

/-! ### arguments -/
/-- A slice: its elements' cells, one behind the other; each reads by the element's type. -/
theorem open_rows {t e : TypeId} {base : Nat} {v : Value} {d : DataW H} {ps : List MemPlace} (ht : P.underlying t = some (.slice e)) {c : Nat} (hc : P.cellsOf e = c) (hc0 : 0 < c)
    (hok : Value.okWide P W .any base t v) (h : DataW.Trod enc P W 0 (fun _ => true) true t v d ps) :
    ∃ (a : Option Addr) (len cap : Nat) (f : Nat → List Value), v = .slice a len cap ∧ len ≤ cap ∧ cap ≤ maxLen ∧ (a = none → len = 0) ∧ (∀ p, a = some p → p.spot = none ∧ p.block < W.heap.size) ∧
      Row W a ((List.range len).flatMap f) ∧ (∀ i, (f i).length = c) ∧ ∀ i, i < len → ∃ n x, DataW.trod enc P W 0 (fun _ => true) true n e (f i) = some x := by
  have hv : v = .slice none 0 0 ∨ ∃ p len cap, v = .slice (some p) len cap ∧ p.spot = none ∧ p.block < W.heap.size := by
    unfold Value.okWide at hok
    rw [ht] at hok
    simp only [Cell.okWide, ht] at hok
    unfold Cell.ok at hok
    rw [ht] at hok
    cases v with
    | slice a len cap =>
      cases a with
      | none =>
        match len, cap, hok with
        | 0, 0, _ => exact .inl rfl
      | some p =>
        refine .inr ⟨p, len, cap, rfl, hok.2.2.2.1, ?_⟩
        obtain ⟨row, cells, hsh, _⟩ := hok.2.2.2.2
        unfold World.shape? at hsh
        split at hsh
        · rename_i hb; exact lt_of_get hb
        · cases hsh
    | _ => exact hok.elim
  obtain ⟨fuel, hf⟩ := h
  rcases hv with rfl | ⟨p, len, cap, rfl, hs, hbl⟩
  · exact ⟨none, 0, 0, fun _ => List.replicate c undef, rfl, Nat.le_refl _, by simp [maxLen], fun _ => rfl, (fun p h => nomatch h), .inl rfl, fun i => by simp, fun i hi => by omega⟩
  · have hf' : DataW.trod enc P W 0 (fun _ => true) true fuel t [.slice (some p) len cap] = some (d, ps) := hf
    rcases Go.Deep.open_slice ht hf' with ⟨h0, _⟩ | ⟨a, len', cap', m, n, D, Pl, hcs, _, hl, hm, hmm, _, hx⟩
    · cases h0
    · simp only [List.cons.injEq, Value.slice.injEq, Option.some.injEq, and_true] at hcs
      obtain ⟨rfl, rfl, rfl⟩ := hcs
      obtain ⟨b, o, sp⟩ := p
      simp only at hs
      subst hs
      have hle : ∀ i, i < len → ∃ cs', W.cells? 0 ((⟨b, o, none⟩ : Addr).add (i * c)) c = some cs' ∧ DataW.trod enc P W 0 (fun _ => true) true n e cs' = some (D i, Pl i) := fun i hi => by
        have := hx i (by rw [hmm]; simp; omega)
        rwa [hc] at this
      have hcell : ∀ i, i < len → ∃ cs' : List Value, cs'.length = c ∧ (∀ r, r < c → W.cell? ⟨b, o + (i * c + r), none⟩ = cs'[r]?) ∧ DataW.trod enc P W 0 (fun _ => true) true n e cs' = some (D i, Pl i) := fun i hi => by
        obtain ⟨cs', h1, h2⟩ := hle i hi
        obtain ⟨_, h3, h4⟩ := World.cells?_some h1
        refine ⟨cs', h3, fun r hr => ?_, h2⟩
        rw [← h4 r hr, Go.Deep.add_add, add_spot rfl]
      have hch : ∃ f : Nat → List Value, (∀ i, (f i).length = c) ∧ ∀ i, i < len → (∀ r, r < c → W.cell? ⟨b, o + (i * c + r), none⟩ = (f i)[r]?) ∧ DataW.trod enc P W 0 (fun _ => true) true n e (f i) = some (D i, Pl i) := by
        classical
        refine ⟨fun i => if hi : i < len then Classical.choose (hcell i hi) else List.replicate c undef, fun i => ?_, fun i hi => ?_⟩
        · by_cases hi : i < len
          · simp only [dif_pos hi]; exact (Classical.choose_spec (hcell i hi)).1
          · simp only [dif_neg hi]; simp
        · simp only [dif_pos hi]; exact (Classical.choose_spec (hcell i hi)).2
      obtain ⟨f, hf1, hf2⟩ := hch
      have hrow : Row W (some ⟨b, o, none⟩) ((List.range len).flatMap f) ∧ (len ≠ 0 → b < W.heap.size) := by
        by_cases h0 : len = 0
        · subst h0; exact ⟨.inl rfl, fun h => absurd rfl h⟩
        · have hz := (hf2 0 (by omega)).1 0 hc0
          rw [List.getElem?_eq_getElem (by rw [hf1]; exact hc0)] at hz
          have hb : ∃ cs e' fz, W.heap[b]? = some (.cells cs e' fz) := by
            unfold World.cell? at hz
            split at hz
            · rename_i c' e' fz hb; exact ⟨_, _, _, hb⟩
            · cases hz
          obtain ⟨cs, e', fz, hb⟩ := hb
          refine ⟨.inr ⟨b, o, cs, e', fz, rfl, hb, fun j v hj => ?_⟩, fun _ => lt_of_get hb⟩
          have hjl : j < len * c := by
            have := (List.getElem?_eq_some_iff.1 hj).1
            rwa [flatMap_len hf1, List.length_range] at this
          have hjc : j = j / c * c + j % c := by rw [Nat.mul_comm]; exact (Nat.div_add_mod j c).symm
          have hi : j / c < len := Nat.div_lt_of_lt_mul (by rw [Nat.mul_comm]; exact hjl)
          have hr : j % c < c := Nat.mod_lt _ hc0
          have hg := flatMap_get hf1 (List.range len) (j / c) (j % c) (by simpa using hi) hr
          rw [← hjc] at hg
          rw [hg] at hj
          simp only [List.getElem_range] at hj
          have := (hf2 _ hi).1 _ hr
          rw [← hjc, hj] at this
          rw [← this]
          exact (cell_of (p := ⟨b, o + j, none⟩) hb rfl).symm
      exact ⟨some ⟨b, o, none⟩, len, cap, f, rfl, hl, hm, (fun h => nomatch h), fun p hp => by cases hp; exact ⟨rfl, hbl⟩, hrow.1, hf1, fun i hi => ⟨n, _, (hf2 i hi).2⟩⟩

/-- The cells of a struct whose fields are one cell each. -/
theorem open_fields {t : TypeId} {fs : Array Field} {n : Nat} {cs : List Value} {x : DataW H × List MemPlace} (ht : P.underlying t = some (.struct fs)) (h : DataW.trod enc P W 0 (fun _ => true) true n t cs = some x)
    {i : Nat} {f : Field} (hf : fs[i]? = some f) (ho : f.offset = i) (hc : P.cellsOf f.type = 1) (hi : i < cs.length) :
    ∃ n y, DataW.trod enc P W 0 (fun _ => true) true n f.type [cs[i]] = some y := by
  obtain ⟨xs, k, rfl, rfl, hl, hxl, hx⟩ := DataW.trod_struct ht h
  have h1 := hx i f hf
  have hi2 : i < xs.length := by rw [hxl]; exact (Array.getElem?_eq_some_iff.1 hf).1
  rw [ho, hc, List.getElem?_eq_getElem hi2, List.drop_eq_getElem_cons hi, List.take_succ_cons, List.take_zero] at h1
  exact ⟨k, _, h1⟩
theorem field_int {t : TypeId} {k : IntKind} {n : Nat} {u : Value} {x : DataW H × List MemPlace} (ht : P.underlying t = some (.int k)) (h : DataW.trod enc P W 0 (fun _ => true) true n t [u] = some x) : ∃ m, u = .int k m ∧ k.min ≤ m ∧ m ≤ k.max := by
  obtain ⟨m, hm, _, hw⟩ := DataW.trod_int ht h
  simp only [Lit.wf, Bool.and_eq_true, decide_eq_true_eq] at hw
  exact ⟨m, by simpa using hm, hw.1, hw.2⟩
theorem open_i64s {t e : TypeId} {k : IntKind} {base : Nat} {v : Value} {d : DataW H} {ps : List MemPlace} (ht : P.underlying t = some (.slice e)) (he : P.underlying e = some (.int k)) (hc : P.cellsOf e = 1)
    (hok : Value.okWide P W .any base t v) (h : DataW.Trod enc P W 0 (fun _ => true) true t v d ps) :
    ∃ (a : Option Addr) (cap : Nat) (xs : List Int), v = .slice a xs.length cap ∧ xs.length ≤ cap ∧ cap ≤ maxLen ∧ (a = none → xs = []) ∧ (∀ p, a = some p → p.spot = none ∧ p.block < W.heap.size) ∧
      Row W a (xs.map (.int k)) ∧ ∀ x ∈ xs, k.min ≤ x ∧ x ≤ k.max := by
  obtain ⟨a, len, cap, f, rfl, h1, h2, h3, h4, h6, h7, h8⟩ := open_rows ht hc (by decide) hok h
  have hx : ∀ i, i < len → ∃ m, f i = [.int k m] ∧ k.min ≤ m ∧ m ≤ k.max := fun i hi => by
    obtain ⟨n, x, hx⟩ := h8 i hi
    match hfi : f i, h7 i with
    | [u], _ =>
      rw [hfi] at hx
      obtain ⟨m, rfl, hm⟩ := field_int he hx
      exact ⟨m, rfl, hm⟩
  obtain ⟨g, hg⟩ := Go.Deep.choose_lt hx
  have hxs : (List.range len).flatMap f = ((List.range len).map g).map (.int k) := by
    rw [Go.Deep.flatMap_congr_range fun i hi => (hg i hi).1]
    rw [List.map_map]
    clear hg
    generalize List.range len = l
    induction l with
    | nil => rfl
    | cons x l ih => simpa [List.flatMap_cons] using ih
  have hl : ((List.range len).map g).length = len := by simp
  refine ⟨a, cap, (List.range len).map g, by rw [hl], by rw [hl]; exact h1, h2, fun e => by rw [h3 e]; rfl, h4, by rw [← hxs]; exact h6, fun x hx => ?_⟩
  obtain ⟨i, hi, rfl⟩ := List.mem_map.1 hx
  exact (hg i (List.mem_range.1 hi)).2
end Go.Vc
end
section
/- Further arguments in the heap: whole numbers, structs of them, rows of structs. -/
namespace Go.Vc
open Go.ChangeShapes Go.WideShapes Go.ChangeAt Go.RowKit Go.WideElems
variable {H : Type} {enc : TypeId × Value → H} {P : Program} {W W' : World}
theorem open_int {t : TypeId} {k : IntKind} {base : Nat} {v : Value} (ht : P.underlying t = some (.int k)) (hok : Value.okWide P W .any base t v) : ∃ m, v = .int k m ∧ k.min ≤ m ∧ m ≤ k.max := by
  unfold Value.okWide at hok
  rw [ht] at hok
  simp only [Cell.okWide, ht] at hok
  unfold Cell.ok at hok
  rw [ht] at hok
  cases v with
  | int k' m =>
    obtain ⟨rfl, hm⟩ := hok
    exact ⟨m, rfl, hm⟩
  | _ => exact hok.elim
theorem open_agg {t : TypeId} {fs : Array Field} {base n : Nat} {v : Value} {d : DataW H} {ps : List MemPlace} (ht : P.underlying t = some (.struct fs)) (hc : P.cellsOf t = n)
    (hok : Value.okWide P W .any base t v) (h : DataW.Trod enc P W 0 (fun _ => true) true t v d ps) :
    ∃ cs : List Value, v = .agg cs.toArray ∧ cs.length = n ∧ ∃ m x, DataW.trod enc P W 0 (fun _ => true) true m t cs = some x := by
  unfold Value.okWide at hok
  rw [ht] at hok
  obtain ⟨cs, rfl, hs, _⟩ := hok
  obtain ⟨fuel, hf⟩ := h
  exact ⟨cs.toList, by simp, by simp [hs, hc], fuel, _, hf⟩
/-- Elements that are read one by one. -/
theorem rows_of {α : Type} {f : Nat → List Value} {c : α → List Value} {len : Nat} {a : Option Addr} (d : α) (h : Row W a ((List.range len).flatMap f)) (hf : ∀ i, i < len → ∃ s, f i = c s) : ∃ xs : List α, xs.length = len ∧ Row W a (xs.flatMap c) := by
  obtain ⟨g, hg⟩ := Classical.axiomOfChoice (r := fun i (s : α) => i < len → f i = c s) fun i => by
    by_cases hi : i < len
    · obtain ⟨s, hs⟩ := hf i hi
      exact ⟨s, fun _ => hs⟩
    · exact ⟨d, fun h => absurd h hi⟩
  refine ⟨(List.range len).map g, by simp, ?_⟩
  rw [Go.Deep.flatMap_congr_range hg] at h
  rwa [List.flatMap_map]
end Go.Vc
end
section
/- What the laws' arguments are in the heap: a hasher's numbers, steps. -/
set_option maxRecDepth 100000
set_option linter.unusedSimpArgs false
set_option linter.unusedVariables false
set_option maxHeartbeats 8000000
namespace Go.Proofs.Ytbghmbbhkoniiaa.I
open Go.Vc Go.Proofs Go.Proofs.Ytbghmbbhkoniiaa Go.ChangeShapes Go.WideShapes Go.ChangeAt Go.RowKit
variable {H : Type} {enc : TypeId × Value → H} {W : World}
theorem row_own : ownKnob Try.prog.godebug = none := by kernel_rfl
theorem row_laid : laidOutB Try.prog = true := by kernel_rfl
theorem open_hash {base : Nat} {v : Value} {d : DataW H} {ps : List MemPlace} (hok : Value.okWide Try.prog W .any base 24 v) (h : DataW.Trod enc Try.prog W 0 (fun _ => true) true 24 v d ps) : ∃ md ml sh : Nat, v = hval md ml sh := by
  obtain ⟨cs, rfl, hl, n, x, hx⟩ := open_agg Try.underlying24 (n := 3) (by kernel_rfl) hok h
  match cs, hl, hx with
  | [u0, u1, u2], _, hx =>
    have hu := Try.underlying24
    obtain ⟨n0, y0, z0⟩ := open_fields hu hx (i := 0) rfl rfl (by kernel_rfl) (by simp)
    obtain ⟨n1, y1, z1⟩ := open_fields hu hx (i := 1) rfl rfl (by kernel_rfl) (by simp)
    obtain ⟨n2, y2, z2⟩ := open_fields hu hx (i := 2) rfl rfl (by kernel_rfl) (by simp)
    obtain ⟨m0, e0, b0, _⟩ := field_int Try.underlying22 z0
    obtain ⟨m1, e1, b1, _⟩ := field_int Try.underlying22 z1
    obtain ⟨m2, e2, b2, _⟩ := field_int Try.underlying5 z2
    have h0 : (m0.toNat : Int) = m0 := Int.toNat_of_nonneg b0
    have h1 : (m1.toNat : Int) = m1 := Int.toNat_of_nonneg b1
    have h2 : (m2.toNat : Int) = m2 := Int.toNat_of_nonneg b2
    refine ⟨m0.toNat, m1.toNat, m2.toNat, ?_⟩
    simp only [List.getElem_cons_zero, List.getElem_cons_succ] at e0 e1 e2
    simp only [hval, h0, h1, h2, e0, e1, e2]
theorem mstep_of {n : Nat} {cs : List Value} {x : DataW H × List MemPlace} (hl : cs.length = 5) (h : DataW.trod enc Try.prog W 0 (fun _ => true) true n 82 cs = some x) : ∃ s : MStep, cs = s.cells := by
  match cs, hl, h with
  | [u0, u1, u2, u3, u4], _, h =>
    have hu := Try.underlying82
    obtain ⟨n0, y0, z0⟩ := open_fields hu h (i := 0) rfl rfl (by kernel_rfl) (by simp)
    obtain ⟨n1, y1, z1⟩ := open_fields hu h (i := 1) rfl rfl (by kernel_rfl) (by simp)
    obtain ⟨n2, y2, z2⟩ := open_fields hu h (i := 2) rfl rfl (by kernel_rfl) (by simp)
    obtain ⟨n3, y3, z3⟩ := open_fields hu h (i := 3) rfl rfl (by kernel_rfl) (by simp)
    obtain ⟨n4, y4, z4⟩ := open_fields hu h (i := 4) rfl rfl (by kernel_rfl) (by simp)
    obtain ⟨m0, e0, b0, _⟩ := field_int Try.underlying5 z0
    obtain ⟨m1, e1, _⟩ := field_int Try.underlying3 z1
    obtain ⟨m2, e2, _⟩ := field_int Try.underlying2 z2
    obtain ⟨m3, e3, _⟩ := field_int Try.underlying2 z3
    obtain ⟨m4, e4, _⟩ := field_int Try.underlying3 z4
    have h0 : (m0.toNat : Int) = m0 := Int.toNat_of_nonneg b0
    refine ⟨⟨m0.toNat, m1, m2, m3, m4⟩, ?_⟩
    simp only [List.getElem_cons_zero, List.getElem_cons_succ] at e0 e1 e2 e3 e4
    simp only [MStep.cells, h0, e0, e1, e2, e3, e4]
theorem open_msteps {base : Nat} {v : Value} {d : DataW H} {ps : List MemPlace} (hok : Value.okWide Try.prog W .any base 25 v) (h : DataW.Trod enc Try.prog W 0 (fun _ => true) true 25 v d ps) :
    ∃ (a : Option Addr) (cap : Nat) (steps : List MStep), v = .slice a steps.length cap ∧ steps.length ≤ cap ∧ cap ≤ maxLen ∧ (a = none → steps.length = 0) ∧ Row W a (steps.flatMap MStep.cells) := by
  obtain ⟨a, len, cap, f, rfl, h1, h2, h3, h4, h6, h7, h8⟩ := open_rows Try.underlying25 (c := 5) (by kernel_rfl) (by decide) hok h
  obtain ⟨xs, rfl, hr⟩ := rows_of (c := MStep.cells) ⟨0, 0, 0, 0, 0⟩ h6 fun i hi => by
    obtain ⟨n, x, hx⟩ := h8 i hi
    exact mstep_of (h7 i) hx
  exact ⟨a, cap, xs, rfl, h1, h2, h3, hr⟩
theorem open_pairs {base : Nat} {v : Value} {d : DataW H} {ps : List MemPlace} (hok : Value.okWide Try.prog W .any base 43 v) (h : DataW.Trod enc Try.prog W 0 (fun _ => true) true 43 v d ps) :
    ∃ (a : Option Addr) (cap : Nat) (xs : List (Int × Int)), v = .slice a xs.length cap ∧ xs.length ≤ cap ∧ cap ≤ maxLen ∧ (a = none → xs.length = 0) ∧ Row W a (xs.flatMap ent) := by
  obtain ⟨a, len, cap, f, rfl, h1, h2, h3, h4, h6, h7, h8⟩ := open_rows Try.underlying43 (c := 2) (by kernel_rfl) (by decide) hok h
  obtain ⟨xs, rfl, hr⟩ := rows_of (c := ent) ((0, 0) : Int × Int) h6 fun i hi => by
    obtain ⟨n, x, hx⟩ := h8 i hi
    match hfi : f i, h7 i, hx with
    | [u0, u1], _, hx =>
      have hu := Try.underlying45
      obtain ⟨n0, y0, z0⟩ := open_fields hu hx (i := 0) rfl rfl (by kernel_rfl) (by simp)
      obtain ⟨n1, y1, z1⟩ := open_fields hu hx (i := 1) rfl rfl (by kernel_rfl) (by simp)
      obtain ⟨m0, e0, _⟩ := field_int Try.underlying2 z0
      obtain ⟨m1, e1, _⟩ := field_int Try.underlying2 z1
      refine ⟨(m0, m1), ?_⟩
      simp only [List.getElem_cons_zero, List.getElem_cons_succ] at e0 e1
      simp only [ent, ek, ev, e0, e1]
  exact ⟨a, cap, xs, rfl, h1, h2, h3, hr⟩
theorem open_ints {base : Nat} {v : Value} {d : DataW H} {ps : List MemPlace} (hok : Value.okWide Try.prog W .any base 65 v) (h : DataW.Trod enc Try.prog W 0 (fun _ => true) true 65 v d ps) :
    ∃ (a : Option Addr) (cap : Nat) (xs : List Int), v = .slice a xs.length cap ∧ xs.length ≤ cap ∧ cap ≤ maxLen ∧ (a = none → xs.length = 0) ∧ Row W a (xs.flatMap fun x => [.int .i64 x]) := by
  obtain ⟨a, len, cap, f, rfl, h1, h2, h3, h4, h6, h7, h8⟩ := open_rows Try.underlying65 (c := 1) (by kernel_rfl) (by decide) hok h
  obtain ⟨xs, rfl, hr⟩ := rows_of (c := fun x : Int => [Value.int .i64 x]) 0 h6 fun i hi => by
    obtain ⟨n, x, hx⟩ := h8 i hi
    match hfi : f i, h7 i, hx with
    | [u0], _, hx =>
      obtain ⟨m0, e0, _⟩ := field_int Try.underlying2 hx
      exact ⟨m0, by rw [e0]⟩
  exact ⟨a, cap, xs, rfl, h1, h2, h3, hr⟩
theorem open_bools {base : Nat} {v : Value} {d : DataW H} {ps : List MemPlace} (hok : Value.okWide Try.prog W .any base 49 v) (h : DataW.Trod enc Try.prog W 0 (fun _ => true) true 49 v d ps) :
    ∃ (a : Option Addr) (cap : Nat) (xs : List Bool), v = .slice a xs.length cap ∧ xs.length ≤ cap ∧ cap ≤ maxLen ∧ (a = none → xs.length = 0) ∧ Row W a (xs.flatMap fun x => [.bool x]) := by
  obtain ⟨a, len, cap, f, rfl, h1, h2, h3, h4, h6, h7, h8⟩ := open_rows Try.underlying49 (c := 1) (by kernel_rfl) (by decide) hok h
  obtain ⟨xs, rfl, hr⟩ := rows_of (c := fun x : Bool => [Value.bool x]) true h6 fun i hi => by
    obtain ⟨n, x, hx⟩ := h8 i hi
    obtain ⟨b, hb, _⟩ := DataW.trod_bool Try.underlying4 hx
    exact ⟨b, hb⟩
  exact ⟨a, cap, xs, rfl, h1, h2, h3, hr⟩
end Go.Proofs.Ytbghmbbhkoniiaa.I
end
section
/- thrown: whether a function panics. -/
set_option maxRecDepth 100000
set_option linter.unusedSimpArgs false
set_option linter.unusedVariables false
namespace Go.Proofs.Ytbghmbbhkoniiaa.I
open Go.Vc Go.Proofs Go.Proofs.Ytbghmbbhkoniiaa

theorem catch_panicking (p : Addr) (x : Bool) (u : TypeId) (pv : Value) (older : List PanicEntry) (w : World) (hc : w.cell? p = some (.bool x)) (hz : w.frozen? p = false) :
    CallsD Try.prog 83 #[.pointer (some p)] (.panicking ({ v := .iface u pv, recovered := false } :: older)) w fun e u' w' =>
      e = .returned (.tuple #[]) ∧ u' = .panicking ({ v := .iface u pv, recovered := true } :: older) ∧ w' = w.setCell p (.bool true) := by
  refine callsD_of_wpS Try.func83 rfl fun c₀ cs hu => ?_
  apply wpS_region
  simp [wpOpsS, go_sem, recoverD, hu, Try.ntmps83, Exit.thenS, hc, hz, bodyPostS, results, Try.results83]

theorem catch_idle (p : Addr) (x : Bool) (w : World) (hc : w.cell? p = some (.bool x)) (hz : w.frozen? p = false) :
    CallsD Try.prog 83 #[.pointer (some p)] .returning w fun e u' w' => e = .returned (.tuple #[]) ∧ u' = .returning ∧ w' = w.setCell p (.bool false) := by
  refine callsD_of_wpS Try.func83 rfl fun c₀ cs hu => ?_
  apply wpS_region
  simp [wpOpsS, go_sem, recoverD, hu, Try.ntmps83, Exit.thenS, hc, hz, bodyPostS, results, Try.results83]
  cases c₀
  simp_all

theorem cell_at {w : World} {b : Nat} {v : Value} (h : w.heap[b]? = some (.cells #[v] 4 (0, 0))) : w.cell? ⟨b, 0, none⟩ = some v := by simp [World.cell?, h]
theorem frozen_at {w : World} {b : Nat} {v : Value} (h : w.heap[b]? = some (.cells #[v] 4 (0, 0))) : w.frozen? ⟨b, 0, none⟩ = false := by simp [World.frozen?, h]
theorem bool_set {w : World} {b : Nat} {v u : Value} (h : w.heap[b]? = some (.cells #[v] 4 (0, 0))) : w.setCell ⟨b, 0, none⟩ u = w.upd b (.cells #[u] 4 (0, 0)) := by
  rw [setCell_upd (p := ⟨b, 0, none⟩) h rfl]; rfl

theorem thrown_ok {f : FuncId} {x y : Array Value} {w : World} {K : Value → World → Prop} {Kp : KP} (hf : callFn Try.prog f = true)
    (hcall : Calls Try.prog f (x ++ y) (w.alloc (.cells #[.bool false] 4)) (ret (fun _ w' => w'.heap[w.heap.size]? = some (.cells #[.bool false] 4 (0, 0)) ∧ K (.bool false) w')
      (fun ch w' => ∃ u pv, ch = [{ v := .iface u pv, recovered := false }] ∧ w'.heap[w.heap.size]? = some (.cells #[.bool false] 4 (0, 0)) ∧ K (.bool true) (w'.upd w.heap.size (.cells #[.bool true] 4 (0, 0)))))) :
    Calls Try.prog 64 #[.func (.func f) x y] w (ret K Kp) := by
  have hmf : ∀ (fn : Fn) (first cap : Array Value) (w : World), (Instr.makeFunc fn first cap).run Try.prog w = .ok (.func fn first cap) w := fun _ _ _ _ => rfl
  go_enter_defers Try.func64, Try.ntmps64
  go_wp2
  rw [callFunc_run hf, Oper.upon_enter]
  refine hcall.mono ?_
  intro e w' he
  cases e with
  | returned v =>
    obtain ⟨hh, hK⟩ := he
    have hc := cell_at hh
    have hz := frozen_at hh
    have hs := fun u => bool_set (u := u) hh
    dsimp only
    go_wp2
    have hid : w'.upd w.heap.size (.cells #[.bool false] 4) = w' := upd_id hh
    rw [hid]
    refine leaves_cons (f := 83) (args := #[.pointer (some ⟨w.heap.size, 0, none⟩)]) (by simp) (by simp [go_sem]) ?_
    refine (catch_idle ⟨w.heap.size, 0, none⟩ false w' hc hz).mono ?_
    rintro e u' w'' ⟨rfl, rfl, rfl⟩
    rw [hs, hid]
    simp [Leaves, settle, results, Try.results64, go_sem, hc]
    exact hK
  | panicked ch =>
    obtain ⟨u, pv, rfl, hh, hK⟩ := he
    have hc := cell_at hh
    have hz := frozen_at hh
    have hs := fun u => bool_set (u := u) hh
    have hc2 := cell_at (heap_upd_same (o := .cells #[.bool true] 4 (0, 0)) hh)
    refine leaves_cons (f := 83) (args := #[.pointer (some ⟨w.heap.size, 0, none⟩)]) (by simp) (by simp [go_sem]) ?_
    refine (catch_panicking ⟨w.heap.size, 0, none⟩ false u pv [] w' hc hz).mono ?_
    rintro e u' w'' ⟨rfl, rfl, rfl⟩
    rw [hs]
    simp [Leaves, settle, results, Try.results64, go_sem, hc2]
    exact hK
  | outgrown => exact he.elim
end Go.Proofs.Ytbghmbbhkoniiaa.I
end
section
/- The builder of maps: its methods. -/
set_option maxRecDepth 100000
set_option maxHeartbeats 1000000
set_option linter.unusedSimpArgs false
set_option linter.unusedVariables false
set_option linter.unusedSectionVars false
namespace Go.Proofs.Ytbghmbbhkoniiaa.I
open Go.Vc Go.Proofs Go.Proofs.Ytbghmbbhkoniiaa Go.Vc.Nd
variable {w w' : World} {v hv : Value} {t : Tr} {F F' : Nat → Prop} {K : Value → World → Prop} {Kp : KP} {hash : Ky → Nat} {k : Ky} {x : Vl} {l s rb g : Nat} {r0 mu nl : Bool} {str : ByteArray}

theorem assert_yes (hK : K (.tuple #[]) w) : Calls Try.prog 81 #[.bool true, .string str] w (ret K Kp) := by
  refine vc81_calls ?_
  simp [-getElem?_pos, -Array.getElem?_eq_getElem, List.getElem?_cons_zero, List.getElem?_cons_succ, -Int.natCast_add, add_spot, and_assoc, Br_dec, -op_box, -op_st_90, vc81]
  exact hK
theorem assert_no (hK : ∀ s, Kp [{ v := .iface 9 s, recovered := false }] w) : Calls Try.prog 81 #[.bool false, .string str] w (ret K Kp) := by
  refine vc81_calls ?_
  simp [-getElem?_pos, -Array.getElem?_eq_getElem, List.getElem?_cons_zero, List.getElem?_cons_succ, -Int.natCast_add, add_spot, and_assoc, Br_dec, -op_box, -op_st_90, vc81]
  exact hK _
/-- A builder: a block that holds the map's. -/
def Bld (w : World) (g : Nat) (hash : Ky → Nat) (nl : Bool) (t : Tr) (F : Nat → Prop) : Prop :=
  ∃ b, w.heap[g]? = some (.cells #[ptr b] 194 (0, 0)) ∧ Ver w b hash nl t F ∧ ¬ F g ∧ ∀ c, F c → c < w.heap.size
theorem Bld.frame {M : Nat → Prop} (h : Bld w g hash nl t F) (hf : Frm M w w') (hM : ∀ c, F c → ¬ M c) (hg : ¬ M g) : Bld w' g hash nl t F := by
  obtain ⟨b, h1, h2, h3, h4⟩ := h
  exact ⟨b, hf.get h1 hg, h2.frame hf hM, h3, fun c hc => by have := h4 c hc; have := hf.size; omega⟩
theorem Bld.lt (h : Bld w g hash nl t F) : g < w.heap.size := by obtain ⟨b, h1, _⟩ := h; exact lt_of_get h1
theorem bld_put {w1 : World} {b b' : Nat} {t' : Tr} (h1 : w.heap[g]? = some (.cells #[ptr b] 194 (0, 0))) (h3 : ¬ F g) (k1 : Frm (fun c => true = true ∧ F c) w w1) (v1 : Ver w1 b' hash nl t' F') (hF' : ∀ c, F' c → F c ∨ w.heap.size ≤ c)
    (hK : ∀ w' F', Frm (fun c => c = g ∨ F c) w w' → Bld w' g hash nl t' F' → (∀ c, F' c → (F c ∨ w.heap.size ≤ c) ∧ c < w'.heap.size) → K (.tuple #[]) w') :
    (nice Try.prog).op (.store 90 (.pointer (some ⟨g, 0, none⟩)) (ptr b')) w1 (fun _ w => K (.tuple #[]) w) Kp := by
  have hg := lt_of_get h1
  have h1' := k1.get h1 fun h => h3 h.2
  refine op_store_ok (by kernel_rfl) h1' (by simp) rfl fun w2 k2 z2 b2 => ?_
  have n1 := k1.size
  have n2 := k2.size
  have hng : ¬ F' g := fun h => by
    rcases hF' g h with h | h
    · exact h3 h
    · omega
  refine hK w2 (fun c => F' c ∧ c < w1.heap.size) ((k1.mono fun c hc _ => .inr hc.2).trans k2 fun c hc _ => .inl hc) ⟨b', by simpa using b2, v1.lt.frame k2 fun c hc e => hng (e ▸ hc.1), fun h => hng h.1, fun c hc => by omega⟩ fun c hc => ⟨hF' c hc.1, by omega⟩
theorem bset_ok (hdef : ∀ d, IsH (defV d) defHash) (h : Bld w g hash nl t F) (hL : (toL t).length ≤ 1000000)
    (hK : ∀ w' F', Frm (fun c => c = g ∨ F c) w w' → Bld w' g hash nl (Nd.set hash t k x) F' → (∀ c, F' c → (F c ∨ w.heap.size ≤ c) ∧ c < w'.heap.size) → K (.tuple #[]) w') : Calls Try.prog 57 #[ptr g, ek k, ev x] w (ret K Kp) := by
  obtain ⟨b, h1, h2, h3, h4⟩ := h
  refine vc57_calls ?_
  simp [-getElem?_pos, -Array.getElem?_eq_getElem, List.getElem?_cons_zero, List.getElem?_cons_succ, -Int.natCast_add, add_spot, and_assoc, Br_dec, -op_box, -op_st_90, vc57, ptr, h1]
  refine assert_yes ?_
  simp [-getElem?_pos, -Array.getElem?_eq_getElem, List.getElem?_cons_zero, List.getElem?_cons_succ, -Int.natCast_add, add_spot, and_assoc, Br_dec, -op_box, -op_st_90, ptr, h1]
  refine ver_set_ok (mu := true) hdef h2 hL fun b' w1 F' k1 v1 hF' _ => ?_
  simp [-getElem?_pos, -Array.getElem?_eq_getElem, List.getElem?_cons_zero, List.getElem?_cons_succ, -Int.natCast_add, add_spot, and_assoc, Br_dec, -op_box, -op_st_90, ptr]
  exact bld_put h1 h3 k1 v1 hF' hK
theorem bdel_ok (h : Bld w g hash nl t F) (hL : (toL t).length ≤ 1000000)
    (hK : ∀ w' F', Frm (fun c => c = g ∨ F c) w w' → Bld w' g hash nl (delT hash t k) F' → (∀ c, F' c → (F c ∨ w.heap.size ≤ c) ∧ c < w'.heap.size) → K (.tuple #[]) w') : Calls Try.prog 58 #[ptr g, ek k] w (ret K Kp) := by
  obtain ⟨b, h1, h2, h3, h4⟩ := h
  refine vc58_calls ?_
  simp [-getElem?_pos, -Array.getElem?_eq_getElem, List.getElem?_cons_zero, List.getElem?_cons_succ, -Int.natCast_add, add_spot, and_assoc, Br_dec, -op_box, -op_st_90, vc58, ptr, h1]
  refine assert_yes ?_
  simp [-getElem?_pos, -Array.getElem?_eq_getElem, List.getElem?_cons_zero, List.getElem?_cons_succ, -Int.natCast_add, add_spot, and_assoc, Br_dec, -op_box, -op_st_90, ptr, h1]
  refine ver_del_ok (mu := true) h2 hL fun b' w1 F' k1 v1 hF' => ?_
  simp [-getElem?_pos, -Array.getElem?_eq_getElem, List.getElem?_cons_zero, List.getElem?_cons_succ, -Int.natCast_add, add_spot, and_assoc, Br_dec, -op_box, -op_st_90, ptr]
  exact bld_put h1 h3 k1 v1 hF' hK
theorem blen_ok (h : Bld w g hash nl t F) (hK : K (.int .i64 (toL t).length) w) : Calls Try.prog 60 #[ptr g] w (ret K Kp) := by
  obtain ⟨b, h1, h2, h3, h4⟩ := h
  refine vc60_calls ?_
  simp [-getElem?_pos, -Array.getElem?_eq_getElem, List.getElem?_cons_zero, List.getElem?_cons_succ, -Int.natCast_add, add_spot, and_assoc, Br_dec, -op_box, -op_st_90, vc60, ptr, h1]
  refine assert_yes ?_
  simp [-getElem?_pos, -Array.getElem?_eq_getElem, List.getElem?_cons_zero, List.getElem?_cons_succ, -Int.natCast_add, add_spot, and_assoc, Br_dec, -op_box, -op_st_90, ptr, h1]
  exact ver_len_ok h2 hK
theorem biter_ok (h : Bld w g hash nl t F) (hK : ∀ ib b w', Frm (fun _ => False) w w' → w.heap.size ≤ ib → b < w.heap.size → At w' ib b F hash (toL t) → K (ptr ib) w') : Calls Try.prog 61 #[ptr g] w (ret K Kp) := by
  obtain ⟨b, h1, h2, h3, h4⟩ := h
  refine vc61_calls ?_
  simp [-getElem?_pos, -Array.getElem?_eq_getElem, List.getElem?_cons_zero, List.getElem?_cons_succ, -Int.natCast_add, add_spot, and_assoc, Br_dec, -op_box, -op_st_90, vc61, ptr, h1]
  refine assert_yes ?_
  simp [-getElem?_pos, -Array.getElem?_eq_getElem, List.getElem?_cons_zero, List.getElem?_cons_succ, -Int.natCast_add, add_spot, and_assoc, Br_dec, -op_box, -op_st_90, ptr, h1]
  exact ver_iter_ok h2 h4 fun ib w1 k1 hib hA => hK ib b w1 k1 hib (h4 _ h2.mem) hA
theorem bget_ok (h : Bld w g hash nl t F) (hK : ∀ w', Frm (fun _ => False) w w' → K (gotV (getIn (hash k) k t 0)) w') : Calls Try.prog 62 #[ptr g, ek k] w (ret K Kp) := by
  obtain ⟨b, h1, h2, h3, h4⟩ := h
  refine vc62_calls ?_
  simp [-getElem?_pos, -Array.getElem?_eq_getElem, List.getElem?_cons_zero, List.getElem?_cons_succ, -Int.natCast_add, add_spot, and_assoc, Br_dec, -op_box, -op_st_90, vc62, ptr, h1]
  refine assert_yes ?_
  simp [-getElem?_pos, -Array.getElem?_eq_getElem, List.getElem?_cons_zero, List.getElem?_cons_succ, -Int.natCast_add, add_spot, and_assoc, Br_dec, -op_box, -op_st_90, ptr, h1]
  refine ver_get_ok (k := k) h2 fun w1 k1 => ?_
  have hg : gotV (getIn (hash k) k t 0) = .tuple #[((getIn (hash k) k t 0).map ev).getD (.int .i64 0), .bool (getIn (hash k) k t 0).isSome] := by cases getIn (hash k) k t 0 <;> rfl
  have := hK w1 k1
  rw [hg] at this ⊢
  simp [-getElem?_pos, -Array.getElem?_eq_getElem, List.getElem?_cons_zero, List.getElem?_cons_succ, -Int.natCast_add, add_spot, and_assoc, Br_dec, -op_box, -op_st_90, ]
  exact this
theorem bmap_ok (h : Bld w g hash nl t F) (hK : ∀ b w', Frm (fun c => c = g) w w' → w'.heap.size = w.heap.size → Ver w' b hash nl t F → w'.heap[g]? = some (.cells #[.pointer none] 194 (0, 0)) → K (ptr b) w') : Calls Try.prog 63 #[ptr g] w (ret K Kp) := by
  obtain ⟨b, h1, h2, h3, h4⟩ := h
  refine vc63_calls ?_
  simp [-getElem?_pos, -Array.getElem?_eq_getElem, List.getElem?_cons_zero, List.getElem?_cons_succ, -Int.natCast_add, add_spot, and_assoc, Br_dec, -op_box, -op_st_90, vc63, ptr, h1]
  refine assert_yes ?_
  simp [-getElem?_pos, -Array.getElem?_eq_getElem, List.getElem?_cons_zero, List.getElem?_cons_succ, -Int.natCast_add, add_spot, and_assoc, Br_dec, -op_box, -op_st_90, ptr, h1]
  refine op_store_ok (by kernel_rfl) h1 (by simp) rfl fun w2 k2 z2 b2 => ?_
  exact hK b w2 k2 z2 (h2.frame k2 fun c hc e => h3 (e ▸ hc)) (by simpa using b2)
theorem bmap_no (h1 : w.heap[g]? = some (.cells #[.pointer none] 194 (0, 0))) (hK : ∀ s, Kp [{ v := .iface 9 s, recovered := false }] w) : Calls Try.prog 63 #[ptr g] w (ret K Kp) := by
  refine vc63_calls ?_
  simp [-getElem?_pos, -Array.getElem?_eq_getElem, List.getElem?_cons_zero, List.getElem?_cons_succ, -Int.natCast_add, add_spot, and_assoc, Br_dec, -op_box, -op_st_90, vc63, ptr, h1]
  exact assert_no hK
theorem bnew_ok {h : Value} (hv : IsH h hash ∨ nl = true ∧ hash = defHash ∧ h = .nilIface) (h1 : h.oneCell' = true)
    (hK : ∀ w', Frm (fun _ => False) w w' → Bld w' (w.heap.size + 1) hash nl .emp (· = w.heap.size) → K (ptr (w.heap.size + 1)) w') : Calls Try.prog 56 #[h] w (ret K Kp) := by
  refine vc56_calls ?_
  simp [-getElem?_pos, -Array.getElem?_eq_getElem, List.getElem?_cons_zero, List.getElem?_cons_succ, -Int.natCast_add, add_spot, and_assoc, Br_dec, -op_box, -op_st_90, vc56]
  refine ver_new_ok hv h1 fun w1 k1 z1 v1 => ?_
  simp [-getElem?_pos, -Array.getElem?_eq_getElem, List.getElem?_cons_zero, List.getElem?_cons_succ, -Int.natCast_add, add_spot, and_assoc, Br_dec, -op_box, -op_st_90, ptr]
  refine op_box_ok fun w2 k2 z2 b2 => ?_
  simp only [cells_agg] at b2
  have := hK w2 (k1.no k2) ⟨w.heap.size, by rw [← z1]; exact b2, v1.still k2, by omega, fun c hc => by omega⟩
  rw [z1]
  exact this
end Go.Proofs.Ytbghmbbhkoniiaa.I
end
section
/- MapGet, laws.FnMapGet. -/
set_option maxRecDepth 100000
set_option maxHeartbeats 2000000
set_option linter.unusedSimpArgs false
set_option linter.unusedVariables false
set_option linter.unusedSectionVars false
namespace Go.Proofs.Ytbghmbbhkoniiaa.I
open Go.Vc Go.Proofs Go.Proofs.Ytbghmbbhkoniiaa Go.Vc.Nd
variable {w w' : World} {v hv : Value} {t : Tr} {F F' G : Nat → Prop} {K : Value → World → Prop} {Kp : KP} {hash : Ky → Nat} {k : Ky} {x : Vl} {l s rb md ml sh : Nat} {r0 mu nl : Bool}
def i1 (x : Int) : List Value := [.int .i64 x]
def b1 (b : Bool) : List Value := [.bool b]
theorem i1_len (x : Int) : (i1 x).length = 1 := rfl
theorem b1_len (b : Bool) : (b1 b).length = 1 := rfl
theorem i1_one (x : Int) : ∀ u ∈ i1 x, u.oneCell' = true := fun u hu => by rw [List.mem_singleton.1 hu]; rfl
theorem b1_one (b : Bool) : ∀ u ∈ b1 b, u.oneCell' = true := fun u hu => by rw [List.mem_singleton.1 hu]; rfl
theorem apInt : apOf Try.prog 65 = some (2, 1, 8) := by kernel_rfl
theorem apBool : apOf Try.prog 49 = some (4, 1, 1) := by kernel_rfl
/-- What Get tells of keys, one behind the other. -/
def valOf (m : Int → Option Int) (k : Int) : Int := (m k).getD 0
def hasOf (m : Int → Option Int) (k : Int) : Bool := (m k).isSome
theorem gotV_eq {o : Option Int} : gotV o = .tuple #[.int .i64 (o.getD 0), .bool o.isSome] := by cases o <;> rfl
theorem mapGet_ok {a1 a3 : Option Addr} {c1 c3 v : Nat} {steps : List MStep} {keys : List Int} {m : Int → Option Int} (h1 : Row w a1 (steps.flatMap MStep.cells)) (hfit : MFit steps) (hc : mcost steps ≤ 900000) (h3 : Row w a3 (keys.flatMap i1)) (hn : keys.length < 2 ^ 31) (hm : (versM steps)[v]? = some m)
    (hK : ∀ l1 l2 w', Frm (fun _ => False) w w' → FRow i1 w' w.heap.size 2 1 l1 (keys.map (valOf m)) → FRow b1 w' w.heap.size 4 1 l2 (keys.map (hasOf m)) → K (.tuple #[l1, l2]) w') :
    Calls Try.prog 23 #[hval md ml sh, .slice a1 steps.length c1, .int .i64 v, .slice a3 keys.length c3] w (ret K Kp) := by
  refine vc23_calls ?_
  simp only [vc23]
  refine op_box_ok fun w1 k1 z1 b1' => ?_
  simp only [hval, cells_agg] at b1'
  have hx3 : (#[Value.int .u32 (md : Int), .int .u32 (ml : Int), .int .u8 (sh : Int)] : Array Value).extract 0 3 = #[.int .u32 md, .int .u32 ml, .int .u8 sh] := rfl
  try simp [-getElem?_pos, -Array.getElem?_eq_getElem, List.getElem?_cons_zero, List.getElem?_cons_succ, -Int.natCast_add, add_spot, and_assoc, Br_dec, -op_box, -op_lit_65_1, -op_lit_49_1, b1', hx3]
  refine mapsOf_ok (md := md) (ml := ml) (sh := sh) (h1.frame k1 fun _ _ h => h) hfit hc fun l2 w2 G2 k2 hR2 => ?_
  have hlt := hashOf_lt md ml sh
  have hT := versT_len (hashOf md ml sh) steps
  have hvl : v < steps.length + 1 := by have := (List.getElem?_eq_some_iff.1 hm).1; rw [versM_len] at this; exact this
  have hIs := is_vers hlt steps v (List.getElem?_eq_getElem (by omega)) hm
  obtain ⟨u, g, c, cur, hlg, hg1, hg2, hg3, hg4, hg5, bv, hub, hV⟩ := hR2.get (j := v) (by omega)
  subst hlg hub
  have hg0 : cur[v]? = some (ptr bv) := by have := hg3 0 (by decide); simpa using this
  generalize (versT (hashOf md ml sh) steps)[v]'(by omega) = t at *
  have k02 := k1.no k2
  have n2 := k02.size
  rw [hT]
  have e1 : ¬ ((v : Int) < 0) := by omega
  have e2 : ¬ (((steps.length + 1 : Nat) : Int) ≤ (v : Int)) := by omega
  try simp [-getElem?_pos, -Array.getElem?_eq_getElem, List.getElem?_cons_zero, List.getElem?_cons_succ, -Int.natCast_add, add_spot, and_assoc, Br_dec, -op_box, -op_lit_65_1, -op_lit_49_1, e1, e2]
  have hr3 := h3.frame k02 fun _ _ h => h
  obtain ⟨I, hI⟩ : ∃ I : Value → Value → Value → World → Prop, ∀ l1 l2 s wl, I l1 l2 s wl ↔ ∃ i : Nat, s = .int .i64 i ∧ i ≤ keys.length ∧ Frm (fun _ => False) w2 wl ∧ FRow i1 wl w2.heap.size 2 1 l1 ((keys.take i).map (valOf m)) ∧ FRow b1 wl w2.heap.size 4 1 l2 ((keys.take i).map (hasOf m)) ∧
      ∀ b, l1.ownBlock = some b → l2.ownBlock ≠ some b := ⟨_, fun _ _ _ _ => Iff.rfl⟩
  refine Lp.intro I (fun _ _ s _ => keys.length - natOf s) ⟨(hI _ _ _ _).2 ⟨0, rfl, by omega, Frm.refl, rows_nil, rows_nil, fun _ h => nomatch h⟩, ?_⟩
  intro wl l1 l2 s hl
  obtain ⟨i, rfl, hi, kl, hR1, hRb, hne⟩ := (hI _ _ _ _).1 hl
  simp only [op_lss, Br_dec]
  refine ⟨fun hlt' => ?_, fun hge => ?_⟩
  rotate_left
  · have : i = keys.length := by omega
    subst this
    rw [List.take_length] at *
    exact hK l1 l2 wl (k02.no kl) (hR1.base_le n2) (hRb.base_le n2)
  have hi' : i < keys.length := by omega
  have htk : keys.take (i + 1) = keys.take i ++ [keys[i]] := List.take_succ_eq_append_getElem hi'
  obtain ⟨bp, o, cs, e, fz, rfl, hcs, hsz, hext⟩ := (hr3.frame kl (fun _ _ h => h)).part i1_len (by decide) hi'
  have hki : cs[o + i]? = some (.int .i64 keys[i]) := by
    have := congrArg (fun a => a[0]?) hext
    simp only [Array.getElem?_extract] at this
    rw [if_pos (by omega)] at this
    simpa [i1] using this
  have hgl := kl.get hg1 fun h => h
  have nl' := kl.size
  have lo1 := hR1.own_lt
  have lo2 := hRb.own_lt
  try simp [-getElem?_pos, -Array.getElem?_eq_getElem, List.getElem?_cons_zero, List.getElem?_cons_succ, -Int.natCast_add, add_spot, and_assoc, Br_dec, -op_box, -op_lit_65_1, -op_lit_49_1, hcs, hki, hgl, hg0]
  refine ⟨hi', by omega, ?_⟩
  refine ver_get_ok (k := keys[i]) (hV.still kl) fun w3 k3 => ?_
  rw [hIs.get, gotV_eq]
  have n3 := k3.size
  have hl1 := hR1.one
  have hl2 := hRb.one
  try simp [-getElem?_pos, -Array.getElem?_eq_getElem, List.getElem?_cons_zero, List.getElem?_cons_succ, -Int.natCast_add, add_spot, and_assoc, Br_dec, -op_box, -op_lit_65_1, -op_lit_49_1, ]
  have htl : ((keys.take i).map (valOf m)).length = i := by simp; omega
  have htl2 : ((keys.take i).map (hasOf m)).length = i := by simp; omega
  refine op_pushF (f := i1) (y := valOf m keys[i]) apInt (lit_65_1 rfl) i1_len i1_one (frow_still hR1 k3) (by rw [htl]; omega) (by omega) fun l3 w4 k4 hR4 ho4 => ?_
  have n4 := k4.size
  have hRb4 := frow_frame (frow_still hRb k3) k4 fun b hb he => hne b he.symm hb
  refine op_pushF (f := b1) (y := hasOf m keys[i]) apBool (lit_49_1 rfl) b1_len b1_one hRb4 (by rw [htl2]; omega) (by omega) fun l4 w5 k5 hR5 ho5 => ?_
  have hsep : ∀ b, l3.ownBlock = some b → l2.ownBlock ≠ some b := fun b hb hb2 => by
    rcases ho4 with h | ⟨b', h, hge⟩
    · rw [h] at hb; exact hne b hb hb2
    · rw [h] at hb; cases hb; have := lo2 _ hb2; omega
  have hR45 := frow_frame hR4 k5 fun b hb he => hsep b hb he.symm
  have lo3 := hR4.own_lt
  try simp [-getElem?_pos, -Array.getElem?_eq_getElem, List.getElem?_cons_zero, List.getElem?_cons_succ, -Int.natCast_add, add_spot, and_assoc, Br_dec, -op_box, -op_lit_65_1, -op_lit_49_1, ]
  rw [wrap_i64_small (by omega) (by omega)]
  refine ⟨(hI _ _ _ _).2 ⟨i + 1, by simp, by omega, ((kl.no k3).old k4 fun c hc => .inr (by have := lo1 c hc.symm; omega)).old k5 fun c hc => .inr (by have := lo2 c hc.symm; omega), by rw [htk, List.map_append]; exact hR45, by rw [htk, List.map_append]; exact hR5, fun b hb hb2 => ?_⟩, ?_⟩
  · rcases ho5 with h | ⟨b', h, hge⟩
    · rw [h] at hb2; exact hsep b hb hb2
    · rw [h] at hb2; cases hb2; have := lo3 _ hb; omega
  · simp only [natOf]; omega
/-- laws.FnMapGet. -/
theorem law_get {a1 a3 : Option Addr} {c1 c3 ver : Nat} {steps : List MStep} {keys : List Int} (h1 : Row w a1 (steps.flatMap MStep.cells)) (h3 : Row w a3 (keys.flatMap i1)) (hver : ver < 256) (hK : ∀ w', Frm (fun _ => False) w w' → K (.bool true) w') :
    Calls Try.prog 8 #[hval md ml sh, .slice a1 steps.length c1, .int .u8 ver, .slice a3 keys.length c3] w (ret K Kp) := by
  refine vc8_calls ?_
  simp only [vc8]
  refine op_box_ok fun w1 k1 z1 b1' => ?_
  simp only [hval, cells_agg] at b1'
  have hx3 : (#[Value.int .u32 (md : Int), .int .u32 (ml : Int), .int .u8 (sh : Int)] : Array Value).extract 0 3 = #[.int .u32 md, .int .u32 ml, .int .u8 sh] := rfl
  try simp [-getElem?_pos, -Array.getElem?_eq_getElem, List.getElem?_cons_zero, List.getElem?_cons_succ, -Int.natCast_add, add_spot, and_assoc, Br_dec, -op_box, -op_lit_65_1, -op_lit_49_1, b1', hx3]
  refine ⟨fun _ => hK w1 k1, fun hle => ⟨fun _ => hK w1 k1, fun hle2 => ?_⟩⟩
  have hr1 := h1.frame k1 fun _ _ h => h
  have hawake : ∀ {wz}, Frm (fun _ => False) w wz → Calls Try.prog 13 #[] wz (ret K Kp) := fun {wz} kz => mapAwake_ok fun w3 k3 => hK w3 (kz.no k3)
  refine fits_ok (md := md) (ml := ml) (sh := sh) hr1 (by omega) (fun w2 k2 => ?_) fun hfit h12 hsh w2 k2 => ?_
  · try simp [-getElem?_pos, -Array.getElem?_eq_getElem, List.getElem?_cons_zero, List.getElem?_cons_succ, -Int.natCast_add, add_spot, and_assoc, Br_dec, -op_box, -op_lit_65_1, -op_lit_49_1, ]
    exact hawake (k1.no k2)
  have b2 := k2.get b1' fun h => h
  have k02 := k1.no k2
  have hr2 := hr1.frame k2 fun _ _ h => h
  try simp [-getElem?_pos, -Array.getElem?_eq_getElem, List.getElem?_cons_zero, List.getElem?_cons_succ, -Int.natCast_add, add_spot, and_assoc, Br_dec, -op_box, -op_lit_65_1, -op_lit_49_1, ]
  refine ⟨fun _ => hawake k02, fun h300 => ?_⟩
  refine mapVersions_ok hr2 hfit.m (by omega) fun l3 w3 G3 k3 hR3 => ?_
  have b3 := k3.get b2 fun h => h
  have hM := versM_len steps
  obtain ⟨a3', c3', hl3, _⟩ := id hR3.slice
  subst hl3
  have k03 := k02.no k3
  have hv : (ver : Int).tmod ((steps.length + 1 : Nat) : Int) = ((ver % (steps.length + 1) : Nat) : Int) := rfl
  have hvl : ver % (steps.length + 1) < steps.length + 1 := Nat.mod_lt _ (by omega)
  generalize ver % (steps.length + 1) = v at *
  have e0 : IntKind.i64.wrap (ver : Int) = ver := wrap_i64_small (by omega) (by omega)
  have e1 : ¬ (((steps.length + 1 : Nat) : Int) = 0) := by omega
  rw [hM]
  try simp [-getElem?_pos, -Array.getElem?_eq_getElem, List.getElem?_cons_zero, List.getElem?_cons_succ, -Int.natCast_add, add_spot, and_assoc, Br_dec, -op_box, -op_lit_65_1, -op_lit_49_1, e0, e1, hv, b3, hx3]
  have k3d : Frm (fun _ => False) w2 w3.drew := k3.no (Frm.drew _)
  refine mapTo_ok (hr2.frame k3d fun _ _ h => h) (by omega) fun l4 w4 k4 hR4 => ?_
  have k34 := Frm.dr k4
  have b4 := k34.get b3 fun h => h
  obtain ⟨a4, c4, rfl, hc4, _, hr4, _⟩ := hR4.flat
  have hcost := hfit.cost
  have hm : (versM steps)[v]? = some ((versM steps)[v]'(by omega)) := List.getElem?_eq_getElem (by omega)
  have hk4 := (h3.frame (k03.no k34) fun _ _ h => h)
  obtain ⟨u', g', c', cs', hle2, hcs', hu', hg', _, _, bm, D, hbm, hMap, htD, _⟩ := hR3.get (j := v) (by omega)
  cases hle2
  subst hbm
  have q1 : cs'[v]? = some (.map (some bm)) := by have := hg' 0 (by decide); simpa using this
  generalize (versM steps)[v]'(by omega) = m at hm htD
  try simp [-getElem?_pos, -Array.getElem?_eq_getElem, List.getElem?_cons_zero, List.getElem?_cons_succ, -Int.natCast_add, add_spot, and_assoc, Br_dec, -op_box, -op_lit_65_1, -op_lit_49_1, b4, hx3]
  refine mapGet_ok (md := md) (ml := ml) (sh := sh) hr4 hfit.m (by omega) hk4 (by omega) hm fun l5 l6 w5 k5 hR5 hR6 => ?_
  obtain ⟨g5, c5, hl5⟩ : ∃ a c, l5 = .slice a keys.length c := by obtain ⟨a, c, h, _⟩ := hR5.slice; exact ⟨a, c, by simpa using h⟩
  obtain ⟨g6, c6, hl6⟩ : ∃ a c, l6 = .slice a keys.length c := by obtain ⟨a, c, h, _⟩ := hR6.slice; exact ⟨a, c, by simpa using h⟩
  have k35 := k34.no k5
  have k05 := k03.no k35
  rw [hl5, hl6]
  try simp [-getElem?_pos, -Array.getElem?_eq_getElem, List.getElem?_cons_zero, List.getElem?_cons_succ, -Int.natCast_add, add_spot, and_assoc, Br_dec, -op_box, -op_lit_65_1, -op_lit_49_1, ]
  rw [← hl5, ← hl6]
  obtain ⟨I, hI⟩ : ∃ I : Value → World → Prop, ∀ v wl, I v wl ↔ ∃ i : Nat, v = .int .i64 i ∧ i ≤ keys.length ∧ Frm (fun _ => False) w5 wl := ⟨_, fun _ _ => Iff.rfl⟩
  refine Lp.intro I (fun v _ => keys.length - natOf v) ⟨(hI _ _).2 ⟨0, rfl, by omega, Frm.refl⟩, ?_⟩
  intro wl s hl
  obtain ⟨i, rfl, hi, kl⟩ := (hI _ _).1 hl
  simp only [op_lss, Br_dec]
  refine ⟨fun hlt' => ?_, fun hnl' => hawake (k05.no kl)⟩
  have hi' : i < keys.length := by omega
  obtain ⟨bp, o, cs, e, fz, rfl, hcs, hsz, hext⟩ := (h3.frame (k05.no kl) fun _ _ h => h).part i1_len (by decide) hi'
  have hki : cs[o + i]? = some (.int .i64 keys[i]) := by
    have := congrArg (fun a => a[0]?) hext
    simp only [Array.getElem?_extract] at this
    rw [if_pos (by omega)] at this
    simpa [i1] using this
  have hcsl := (k35.no kl).get hcs' fun h => h
  obtain ⟨x5, d5, e5, he5, y5, z5, _, _⟩ := frow_get (frow_still hR5 kl) (j := i) (by simpa using hi')
  obtain ⟨x6, d6, e6, he6, y6, z6, _, _⟩ := frow_get (frow_still hR6 kl) (j := i) (by simpa using hi')
  have q5 : e5[i]? = some (.int .i64 (valOf m keys[i])) := by have := z5 0 (by decide); simpa [i1] using this
  have q6 : e6[i]? = some (.bool (hasOf m keys[i])) := by have := z6 0 (by decide); simpa [b1] using this
  rw [he5, he6]
  simp only [List.length_map]
  try simp [-getElem?_pos, -Array.getElem?_eq_getElem, List.getElem?_cons_zero, List.getElem?_cons_succ, -Int.natCast_add, add_spot, and_assoc, Br_dec, -op_box, -op_lit_65_1, -op_lit_49_1, hcs, hki, hcsl, q1]
  refine ⟨hi', by omega, ?_⟩
  refine op_lookup (E := kE) (ev := ev) (k := keys[i]) (z := .int .i64 0) Try.underlying30 (by kernel_rfl) (hMap.frame (k35.no kl) fun h => h) ?_
  rw [tells_look hMap.nodup htD]
  have hva : ((m keys[i]).map ev).getD (.int .i64 0) = .int .i64 (valOf m keys[i]) := by unfold valOf; cases m keys[i] <;> rfl
  have hha : (m keys[i]).isSome = hasOf m keys[i] := rfl
  rw [hva, hha]
  try simp [-getElem?_pos, -Array.getElem?_eq_getElem, List.getElem?_cons_zero, List.getElem?_cons_succ, -Int.natCast_add, add_spot, and_assoc, Br_dec, -op_box, -op_lit_65_1, -op_lit_49_1, y5, y6, q5, q6]
  rw [wrap_i64_small (by omega) (by omega)]
  refine ⟨hi', (hI _ _).2 ⟨i + 1, by simp, by omega, kl⟩, ?_⟩
  simp only [natOf]; omega
end Go.Proofs.Ytbghmbbhkoniiaa.I
end
section
/- Pairs that are put one behind the other: the function they make, whatever their order. -/
set_option linter.unusedSimpArgs false
set_option linter.unusedVariables false
namespace Go.Vc
open Nd
/-- The function of pairs, the last one of a key. -/
def mOf (ps : List (Int × Int)) : Int → Option Int := ps.foldl (fun m p => mset m p.1 p.2) fun _ => none
theorem mOf_snoc (ps : List (Int × Int)) (p : Int × Int) : mOf (ps ++ [p]) = mset (mOf ps) p.1 p.2 := by simp [mOf]
theorem mOf_none (ps : List (Int × Int)) : ∀ k, mOf ps k = none ↔ k ∉ ps.map (·.1) := by
  refine snoc_ind (P := fun ps => ∀ k, mOf ps k = none ↔ k ∉ ps.map (·.1)) (fun k => by simp [mOf]) (fun l p ih k => ?_) ps
  rw [mOf_snoc]
  unfold mset
  by_cases h : k = p.1
  · simp [h]
  · simp [h, ih k]
theorem mOf_tells {ps : List (Int × Int)} (hn : (ps.map (·.1)).Nodup) : Tells ps (mOf ps) := by
  revert hn
  refine snoc_ind (P := fun ps => (ps.map (·.1)).Nodup → Tells ps (mOf ps)) (fun _ k v => by simp [mOf]) (fun l p ih hn => ?_) ps
  rw [List.map_append, List.nodup_append] at hn
  obtain ⟨h1, _, h3⟩ := hn
  have hp : p.1 ∉ l.map (·.1) := fun hm => h3 _ hm p.1 (by simp) rfl
  intro k v
  rw [mOf_snoc]
  unfold mset
  by_cases h : k = p.1
  · subst h
    simp only [if_true, List.mem_append, List.mem_singleton, Option.some.injEq]
    constructor
    · rintro (h | h)
      · exact absurd (List.mem_map.2 ⟨_, h, rfl⟩) hp
      · rw [← h]
    · intro h; exact .inr (by rw [← h])
  · simp only [if_neg h, List.mem_append, List.mem_singleton]
    rw [← ih h1 k v]
    constructor
    · rintro (h1 | h1)
      · exact h1
      · exact absurd (by rw [← h1]) h
    · exact .inl
theorem mOf_perm {ps qs : List (Int × Int)} (hn : (ps.map (·.1)).Nodup) (hp : ∀ e, e ∈ ps ↔ e ∈ qs) (hq : (qs.map (·.1)).Nodup) : mOf ps = mOf qs := by
  funext k
  have h1 := mOf_tells hn
  have h2 := mOf_tells hq
  cases hx : mOf ps k with
  | some v => exact ((h2 k v).1 ((hp _).1 ((h1 k v).2 hx))).symm
  | none =>
    cases hy : mOf qs k with
    | none => rfl
    | some v => have := (h1 k v).1 ((hp _).2 ((h2 k v).2 hy)); rw [hx] at this; cases this
/-- Steps that set pairs, one behind the other. -/
def setSteps (ps : List (Int × Int)) : List MStep := ps.mapIdx fun i p => ⟨0, i, p.1, p.2, 0⟩
theorem setSteps_snoc (ps : List (Int × Int)) (p : Int × Int) : setSteps (ps ++ [p]) = setSteps ps ++ [⟨0, ps.length, p.1, p.2, 0⟩] := by
  simp [setSteps, List.mapIdx_append]
theorem setSteps_len (ps : List (Int × Int)) : (setSteps ps).length = ps.length := by simp [setSteps]
theorem setSteps_fit (ps : List (Int × Int)) : MFit (setSteps ps) := fun i hi => by
  simp only [setSteps, List.getElem_mapIdx]
  exact ⟨by omega, by omega, by omega, by omega, by omega⟩
theorem setSteps_cost (ps : List (Int × Int)) : mcost (setSteps ps) = ps.length := by
  refine snoc_ind (P := fun ps => mcost (setSteps ps) = ps.length) rfl (fun l p ih => ?_) ps
  rw [setSteps_snoc, mcost_snoc, ih]; simp [MStep.cost]
theorem setSteps_vers (ps : List (Int × Int)) : (versM (setSteps ps))[ps.length]? = some (mOf ps) := by
  refine snoc_ind (P := fun ps => (versM (setSteps ps))[ps.length]? = some (mOf ps)) rfl (fun l p ih => ?_) ps
  have := versM_last (l := setSteps l) (s := ⟨0, l.length, p.1, p.2, 0⟩)
  rw [setSteps_len] at this
  rw [setSteps_snoc, List.length_append]
  show (versM _)[l.length + 1]? = _
  rw [this, mOf_snoc]
  simp only [MStep.ref, Int.toNat_natCast, ih, Option.getD_some]
  rfl
theorem rot_mem {ps : List (Int × Int)} {k : Nat} (e : Int × Int) : e ∈ ps ↔ e ∈ (ps.drop k ++ ps.take k).reverse := by
  rw [List.mem_reverse, List.mem_append]
  constructor
  · intro h
    rw [← List.take_append_drop k ps, List.mem_append] at h
    exact h.symm
  · rintro (h | h)
    · exact List.mem_of_mem_drop h
    · exact List.mem_of_mem_take h
theorem rot_nodup {ps : List (Int × Int)} {k : Nat} (h : (ps.map (·.1)).Nodup) : ((ps.drop k ++ ps.take k).reverse.map (·.1)).Nodup := by
  have hr : ∀ l : List Int, l.Nodup → l.reverse.Nodup := fun l hl => by
    show List.Pairwise (· ≠ ·) l.reverse
    rw [List.pairwise_reverse]
    exact List.Pairwise.imp (fun h => h.symm) hl
  rw [List.map_reverse]
  refine hr _ ?_
  rw [List.map_append]
  rw [← List.take_append_drop k ps, List.map_append, List.nodup_append] at h
  obtain ⟨h1, h2, h3⟩ := h
  rw [List.nodup_append]
  exact ⟨h2, h1, fun a ha b hb e => h3 b hb a ha e.symm⟩
theorem rot_len {ps : List (Int × Int)} {k : Nat} : (ps.drop k ++ ps.take k).reverse.length = ps.length := by simp; omega
/-- The steps of a line: each goes on from the one before. -/
def lineOf (steps : List MStep) : List MStep := steps.mapIdx fun i s => { s with fro := i }
theorem lineOf_snoc (steps : List MStep) (s : MStep) : lineOf (steps ++ [s]) = lineOf steps ++ [{ s with fro := steps.length }] := by
  simp [lineOf, List.mapIdx_append]
theorem lineOf_len (steps : List MStep) : (lineOf steps).length = steps.length := by simp [lineOf]
theorem funStep_fro (m : Int → Option Int) (s : MStep) (i : Int) : funStep m { s with fro := i } = funStep m s := rfl
theorem trieStep_fro (hash : Int → Nat) (t : Nd Int Int) (s : MStep) (i : Int) : trieStep hash t { s with fro := i } = trieStep hash t s := rfl
def lineM (steps : List MStep) : Int → Option Int := steps.foldl funStep fun _ => none
def lineT (hash : Int → Nat) (steps : List MStep) : Nd Int Int := steps.foldl (trieStep hash) .emp
theorem lineM_lineOf (steps : List MStep) : lineM (lineOf steps) = lineM steps := by
  refine snoc_ind (P := fun l => lineM (lineOf l) = lineM l) rfl (fun l s ih => ?_) steps
  rw [lineOf_snoc]
  simp only [lineM, List.foldl_append, List.foldl_cons, List.foldl_nil] at ih ⊢
  rw [ih]; rfl
theorem line_vers (steps : List MStep) : (versM (lineOf steps))[steps.length]? = some (lineM steps) := by
  refine snoc_ind (P := fun l => (versM (lineOf l))[l.length]? = some (lineM l)) rfl (fun l s ih => ?_) steps
  have := versM_last (l := lineOf l) (s := { s with fro := l.length })
  rw [lineOf_len] at this
  rw [lineOf_snoc, List.length_append]
  show (versM _)[l.length + 1]? = _
  rw [this]
  simp only [MStep.ref, Int.toNat_natCast, ih, Option.getD_some, funStep_fro, lineM, List.foldl_append, List.foldl_cons, List.foldl_nil]
theorem line_is {hash : Int → Nat} (hh : ∀ k, hash k < 2 ^ 32) (steps : List MStep) : Is hash (lineT hash steps) (lineM steps) := by
  refine snoc_ind (P := fun l => Is hash (lineT hash l) (lineM l)) is_emp (fun l s ih => ?_) steps
  simp only [lineT, lineM, List.foldl_append, List.foldl_cons, List.foldl_nil]
  exact is_step hh ih s
theorem line_size {hash : Int → Nat} (hh : ∀ k, hash k < 2 ^ 32) (steps : List MStep) : WFr hash (lineT hash steps) ∧ (toL (lineT hash steps)).length ≤ mcost steps := by
  refine snoc_ind (P := fun l => WFr hash (lineT hash l) ∧ (toL (lineT hash l)).length ≤ mcost l) ⟨trivial, by simp [lineT, toL, mcost]⟩ (fun l s ih => ?_) steps
  simp only [lineT, List.foldl_append, List.foldl_cons, List.foldl_nil]
  have := step_len hh ih.1 s
  rw [mcost_snoc]
  exact ⟨this.1, by have h := ih.2; have h2 := this.2; simp only [lineT] at h h2; omega⟩
theorem lineT_snoc (hash : Int → Nat) (steps : List MStep) (s : MStep) : lineT hash (steps ++ [s]) = trieStep hash (lineT hash steps) s := by simp [lineT]
end Go.Vc
end
