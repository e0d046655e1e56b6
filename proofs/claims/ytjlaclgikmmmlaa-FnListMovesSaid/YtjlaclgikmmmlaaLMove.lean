/- Moves of iterators: what a move tells; the closure of ListIterate. -/
import Derived.Test.YtjlaclgikmmmlaaLIter3
set_option maxRecDepth 100000
set_option linter.unusedSimpArgs false
set_option linter.unusedVariables false
set_option maxHeartbeats 8000000
namespace Go.Proofs.Ytjlaclgikmmmlaa
open Go.Vc Go.Proofs
variable {m : Bool} {w w' w0 : World} {F F' G : Nat → Prop} {K : Value → World → Prop} {Kp : KP}

structure Mv where
  kind : Nat
  index : Int
def Mv.cells (s : Mv) : List Value := [.int .u8 s.kind, .int .i64 s.index]
structure Sn where
  index : Int
  value : Int
  pan : Bool
  done : Bool
def Sn.cells (s : Sn) : List Value := [.int .i64 s.index, .int .i64 s.value, .bool s.pan, .bool s.done]
theorem mv_len (s : Mv) : s.cells.length = 2 := rfl
theorem sn_len (s : Sn) : s.cells.length = 4 := rfl
/-- Where an iterator stands behind a move, and what the move tells: index, value, whether it panics. -/
def mv (xs : List Int) (i : Int) (s : Mv) : Int × Int × Int × Bool :=
  match s.kind with
  | 0 => if isDone xs i then (i, -1, 0, false) else (i + 1, i, xs.getD i.toNat 0, false)
  | 1 => if isDone xs i then (i, -1, 0, false) else (i - 1, i, xs.getD i.toNat 0, false)
  | 2 => (if xs = [] then i else 0, 0, 0, false)
  | 3 => (if xs = [] then i else (xs.length : Int) - 1, 0, 0, false)
  | 4 => if 0 ≤ s.index ∧ s.index < xs.length then (s.index, 0, 0, false) else (i, 0, 0, true)
  | _ => (i, 0, 0, false)
/-- One move more. -/
def mvs (xs : List Int) (st : Int × List Sn) (s : Mv) : Int × List Sn :=
  ((mv xs st.1 s).1, st.2 ++ [⟨(mv xs st.1 s).2.1, (mv xs st.1 s).2.2.1, (mv xs st.1 s).2.2.2, isDone xs (mv xs st.1 s).1⟩])
def walk (xs : List Int) (l : List Mv) : Int × List Sn := l.foldl (mvs xs) (0, [])
theorem walk_snoc (xs : List Int) (l : List Mv) (s : Mv) : walk xs (l ++ [s]) = mvs xs (walk xs l) s := by simp [walk]
theorem walk_len (xs : List Int) (l : List Mv) : (walk xs l).2.length = l.length := by
  have : ∀ st : Int × List Sn, (l.foldl (mvs xs) st).2.length = st.2.length + l.length := by
    induction l with
    | nil => intro st; simp
    | cons s r ih => intro st; rw [List.foldl_cons, ih]; simp [mvs]; omega
  have := this (0, [])
  unfold walk
  simpa using this

theorem iter_new {b N : Nat} {xs : List Int} (h : IsList m w b xs N F) (hF : ∀ k, F k → k < w.heap.size) (hN : N < 2 ^ 19)
    (hK : ∀ w', (∀ {M}, Frm M w w') → w.heap.size < w'.heap.size → It m w' w.heap.size b xs N F 0 → K (ptr w.heap.size) w') : Calls Try.prog 27 #[ptr b] w (ret K Kp) := by
  obtain ⟨rv, d, o, Ft, h1, h2, h3, h4, h5⟩ := h
  refine vc27_calls ?_
  have hz : (zero_98).size = 67 := rfl
  simp [-getElem?_pos, -Array.getElem?_eq_getElem, List.getElem?_cons_zero, vc27, ptr]
  have hfa : ∀ {M o}, Frm M w (w.alloc o) := fun {M o} => Frm.alloc (M := M) _ _
  have hnF : ¬ F w.heap.size := fun h => by have := hF _ h; omega
  refine First_ok (m := m) (b := b) (xs := xs) (N := N) (F := F) (i := 0) ⟨rv, d, o, Ft, _, 0, hfa.get (M := fun _ => False) h1 (by simp), h2.frame (hfa (M := fun _ => False)) (by simp), h3, fun k hk => (h4 k hk).1, h5, hp_alloc_new, ⟨by simp [hz], by rw [Array.getElem?_setIfInBounds_self_of_lt (by simp [hz])]; rfl, ?_, ?_⟩⟩ hnF hN fun w' hf hi => ?_
  · rw [Array.getElem?_setIfInBounds_ne (by omega)]; rfl
  · rw [Array.getElem?_setIfInBounds_ne (by omega)]; rfl
  · have e : (if xs = [] then (0 : Int) else 0) = 0 := by split <;> rfl
    rw [e] at hi
    refine hK w' (fun {M} => ?_) (by have := hf.size; simp at this; omega) hi
    exact (hfa (M := M)).trans hf fun k hk hlt => by omega

theorem closure_ok {bm bp bs bi b N : Nat} {s : Mv} {xs : List Int} {i : Int} {fz : Nat × Nat} (hm : w.heap[bm]? = some (.cells s.cells.toArray 43 fz)) (hp : w.heap[bp]? = some (.cells #[ptr bi] 69 (0, 0)))
    (hs : w.heap[bs]? = some (.cells #[.int .i64 0, .int .i64 0, .bool false, .bool false] 49 (0, 0))) (n1 : bs ≠ bi) (hbs : ¬ F bs) (hI : It m w bi b xs N F i) (hF : ¬ F bi) (hN : N < 2 ^ 19)
    (hK : (mv xs i s).2.2.2 = false → ∀ w', Frm (fun k => k = bi ∨ k = bs) w w' → w'.heap[bs]? = some (.cells #[.int .i64 (mv xs i s).2.1, .int .i64 (mv xs i s).2.2.1, .bool false, .bool false] 49 (0, 0)) →
      It m w' bi b xs N F (mv xs i s).1 → K (.tuple #[]) w')
    (hKp : (mv xs i s).2.2.2 = true → ∀ str, Kp (panB str) w) : Calls Try.prog 30 #[ptr bm, ptr bp, ptr bs] w (ret K Kp) := by
  refine vc30_calls ?_
  obtain ⟨kind, index⟩ := s
  obtain ⟨fz1, fz2⟩ := fz
  simp only [Mv.cells] at hm
  have hnF : ∀ k, F k → ¬ (k = bi ∨ k = bs) := fun k hk e => by rcases e with rfl | rfl <;> contradiction
  -- Next and Prev: what was told is stored
  have put : ∀ (w1 : World) (x y j : Int), Frm (· = bi) w w1 → It m w1 bi b xs N F j → (∀ w', Frm (fun k => k = bi ∨ k = bs) w w' → w'.heap[bs]? = some (.cells #[.int .i64 x, .int .i64 y, .bool false, .bool false] 49 (0, 0)) → It m w' bi b xs N F j → K (.tuple #[]) w') →
      w1.heap[bs]? = some (.cells #[.int .i64 0, .int .i64 0, .bool false, .bool false] 49 (0, 0)) ∧ (∀ o, (w1.upd bs o).heap[bs]? = some o) ∧ K (.tuple #[]) (w1.upd bs (.cells #[.int .i64 x, .int .i64 y, .bool false, .bool false] 49 (0, 0))) := fun w1 x y j hf hi hk => by
    have h1 := hf.get hs (fun e => n1 e)
    have h2 := fun o => heap_upd_same (o := o) h1
    have h3 : Frm (fun k => k = bi ∨ k = bs) w (w1.upd bs (.cells #[.int .i64 x, .int .i64 y, .bool false, .bool false] 49 (0, 0))) := (hf.mono (M' := fun k => k = bi ∨ k = bs) fun k h _ => .inl h).trans (Frm.upd (M := fun k => k = bs) _ _ fun _ => rfl) fun k h _ => .inr h
    exact ⟨h1, h2, hk _ h3 (h2 _) (hi.frame (Frm.upd (M := fun k => k = bs) _ _ fun _ => rfl) (fun k hk e => hbs (e ▸ hk)) (fun e => n1 e.symm))⟩
  match kind with
  | 0 =>
    simp [-getElem?_pos, -Array.getElem?_eq_getElem, List.getElem?_cons_zero, vc30, ptr, add_spot, hm, hp, Br_dec]
    refine Next_ok hI hF hN (fun hd w1 hf1 hi1 => ?_) (fun k hk he w1 hf1 hi1 => ?_)
    · simp only [mv, hd] at hK
      obtain ⟨h1, h2, h3⟩ := put _ _ _ _ hf1 hi1 (hK rfl)
      simpa [-getElem?_pos, -Array.getElem?_eq_getElem, List.getElem?_cons_zero, add_spot, h1, and_assoc, upd_upd, h2] using h3
    · subst he
      have hd : isDone xs (k : Int) = false := by simp [isDone]; omega
      have hg : xs.getD k 0 = xs[k] := by simp [List.getD, hk]
      simp only [mv, hd, Int.toNat_natCast, hg] at hK
      obtain ⟨h1, h2, h3⟩ := put _ _ _ _ hf1 hi1 (hK rfl)
      simpa [-getElem?_pos, -Array.getElem?_eq_getElem, List.getElem?_cons_zero, add_spot, h1, and_assoc, upd_upd, h2] using h3
  | 1 =>
    simp [-getElem?_pos, -Array.getElem?_eq_getElem, List.getElem?_cons_zero, vc30, ptr, add_spot, hm, hp, Br_dec]
    refine Prev_ok hI hF hN (fun hd w1 hf1 hi1 => ?_) (fun k hk he w1 hf1 hi1 => ?_)
    · simp only [mv, hd] at hK
      obtain ⟨h1, h2, h3⟩ := put _ _ _ _ hf1 hi1 (hK rfl)
      simpa [-getElem?_pos, -Array.getElem?_eq_getElem, List.getElem?_cons_zero, add_spot, h1, and_assoc, upd_upd, h2] using h3
    · subst he
      have hd : isDone xs (k : Int) = false := by simp [isDone]; omega
      have hg : xs.getD k 0 = xs[k] := by simp [List.getD, hk]
      simp only [mv, hd, Int.toNat_natCast, hg] at hK
      obtain ⟨h1, h2, h3⟩ := put _ _ _ _ hf1 hi1 (hK rfl)
      simpa [-getElem?_pos, -Array.getElem?_eq_getElem, List.getElem?_cons_zero, add_spot, h1, and_assoc, upd_upd, h2] using h3
  | 2 =>
    simp [-getElem?_pos, -Array.getElem?_eq_getElem, List.getElem?_cons_zero, vc30, ptr, add_spot, hm, hp, Br_dec]
    refine First_ok hI.bare hF hN fun w1 hf1 hi1 => hK rfl w1 (hf1.mono fun k h _ => .inl h) (hf1.get hs fun e => n1 e) hi1
  | 3 =>
    simp [-getElem?_pos, -Array.getElem?_eq_getElem, List.getElem?_cons_zero, vc30, ptr, add_spot, hm, hp, Br_dec]
    refine Last_ok hI.bare hF hN fun w1 hf1 hi1 => hK rfl w1 (hf1.mono fun k h _ => .inl h) (hf1.get hs fun e => n1 e) hi1
  | 4 =>
    simp [-getElem?_pos, -Array.getElem?_eq_getElem, List.getElem?_cons_zero, vc30, ptr, add_spot, hm, hp, Br_dec]
    by_cases hin : 0 ≤ index ∧ index < xs.length
    · simp only [mv, if_pos hin, true_implies] at hK
      obtain ⟨k, rfl⟩ : ∃ k : Nat, index = k := ⟨index.toNat, by omega⟩
      refine Seek_ok hI.bare hF hN (by omega) fun w1 hf1 hi1 => hK w1 (hf1.mono fun k h _ => .inl h) (hf1.get hs fun e => n1 e) hi1
    · simp only [mv, if_neg hin, true_implies] at hKp
      exact Seek_out hI.bare (by omega) hKp
  | n + 5 =>
    have k0 : ¬ ((n + 5 : Nat) : Int) = 0 := by omega
    have k1 : ¬ ((n + 5 : Nat) : Int) = 1 := by omega
    have k2 : ¬ ((n + 5 : Nat) : Int) = 2 := by omega
    have k3 : ¬ ((n + 5 : Nat) : Int) = 3 := by omega
    have k4 : ¬ ((n + 5 : Nat) : Int) = 4 := by omega
    simp [-getElem?_pos, -Array.getElem?_eq_getElem, List.getElem?_cons_zero, -Int.natCast_add, vc30, ptr, add_spot, hm, hp, Br_dec, k0, k1, k2, k3, k4]
    exact hK rfl w Frm.refl hs hI
end Go.Proofs.Ytjlaclgikmmmlaa
