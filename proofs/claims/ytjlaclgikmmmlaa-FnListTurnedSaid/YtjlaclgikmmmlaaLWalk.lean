/- spec.ListWalk, laws.listMoves. -/
import Derived.Test.YtjlaclgikmmmlaaLIterate
set_option maxRecDepth 100000
set_option linter.unusedSimpArgs false
set_option linter.unusedVariables false
set_option maxHeartbeats 8000000
namespace Go.Proofs.Ytjlaclgikmmmlaa
open Go.Vc Go.Proofs
variable {m : Bool} {w w' w0 : World} {F F' G : Nat → Prop} {K : Value → World → Prop} {Kp : KP}
theorem ap52 : apOf Try.prog 52 = some (56, 4, 24) := by kernel_rfl
theorem ap44 : apOf Try.prog 44 = some (43, 2, 16) := by kernel_rfl
theorem call_36 : callFn Try.prog 36 = true := by kernel_rfl

/-! ### the reference's own reckoning -/
/-- Behind Next or Prev: done is told by -1. -/
def snap (xs : List Int) (i : Int) : Int := if isDone xs i then -1 else i
def mvR (xs : List Int) (i : Int) (s : Mv) : Int × Int × Int × Bool :=
  match s.kind with
  | 0 => if isDone xs i then (i, -1, 0, false) else (snap xs (i + 1), i, xs.getD i.toNat 0, false)
  | 1 => if isDone xs i then (i, -1, 0, false) else (snap xs (i - 1), i, xs.getD i.toNat 0, false)
  | 2 => (if 0 < xs.length then 0 else i, 0, 0, false)
  | 3 => (if 0 < xs.length then (xs.length : Int) - 1 else i, 0, 0, false)
  | 4 => if s.index < 0 ∨ xs.length ≤ s.index then (i, 0, 0, true) else (s.index, 0, 0, false)
  | _ => (i, 0, 0, false)
def mvsR (xs : List Int) (st : Int × List Sn) (s : Mv) : Int × List Sn :=
  ((mvR xs st.1 s).1, st.2 ++ [⟨(mvR xs st.1 s).2.1, (mvR xs st.1 s).2.2.1, (mvR xs st.1 s).2.2.2, isDone xs (mvR xs st.1 s).1⟩])
def walkR (xs : List Int) (l : List Mv) : Int × List Sn := l.foldl (mvsR xs) (0, [])
theorem walkR_snoc (xs : List Int) (l : List Mv) (s : Mv) : walkR xs (l ++ [s]) = mvsR xs (walkR xs l) s := by simp [walkR]
theorem isDone_neg (xs : List Int) : isDone xs (-1) = true := by simp [isDone]
/-- Both stand at the same place, or are both done. -/
def Same (xs : List Int) (i j : Int) : Prop := i = j ∨ isDone xs i = true ∧ isDone xs j = true
theorem Same.done {xs : List Int} {i j : Int} (h : Same xs i j) : isDone xs i = isDone xs j := by
  rcases h with rfl | ⟨h1, h2⟩
  · rfl
  · rw [h1, h2]
theorem same_snap (xs : List Int) (i : Int) : Same xs i (snap xs i) := by
  unfold snap
  cases h : isDone xs i with
  | true => exact .inr ⟨h, isDone_neg xs⟩
  | false => exact .inl rfl
theorem mv_same {xs : List Int} {i j : Int} (h : Same xs i j) (s : Mv) : Same xs (mv xs i s).1 (mvR xs j s).1 ∧ (mv xs i s).2 = (mvR xs j s).2 := by
  have hd := h.done
  obtain ⟨kind, index⟩ := s
  match kind with
  | 0 =>
    simp only [mv, mvR]
    rw [hd]
    cases hj : isDone xs j with
    | true => exact ⟨h, rfl⟩
    | false =>
      rcases h with rfl | ⟨_, h2⟩
      · exact ⟨same_snap _ _, rfl⟩
      · rw [h2] at hj; cases hj
  | 1 =>
    simp only [mv, mvR]
    rw [hd]
    cases hj : isDone xs j with
    | true => exact ⟨h, rfl⟩
    | false =>
      rcases h with rfl | ⟨_, h2⟩
      · exact ⟨same_snap _ _, rfl⟩
      · rw [h2] at hj; cases hj
  | 2 =>
    refine ⟨?_, rfl⟩
    simp only [mv, mvR]
    by_cases hx : xs = []
    · subst hx; simpa using h
    · rw [if_neg hx, if_pos (List.length_pos_iff.2 hx)]; exact .inl rfl
  | 3 =>
    refine ⟨?_, rfl⟩
    simp only [mv, mvR]
    by_cases hx : xs = []
    · subst hx; simpa using h
    · rw [if_neg hx, if_pos (List.length_pos_iff.2 hx)]; exact .inl rfl
  | 4 =>
    simp only [mv, mvR]
    by_cases hs : 0 ≤ index ∧ index < xs.length
    · rw [if_pos hs, if_neg (by omega)]; exact ⟨.inl rfl, rfl⟩
    · rw [if_neg hs, if_pos (by omega)]; exact ⟨h, rfl⟩
  | n + 5 => exact ⟨h, rfl⟩
theorem walk_same (xs : List Int) (l : List Mv) : (walk xs l).2 = (walkR xs l).2 := by
  have : ∀ st st' : Int × List Sn, Same xs st.1 st'.1 → st.2 = st'.2 → (l.foldl (mvs xs) st).2 = (l.foldl (mvsR xs) st').2 := by
    induction l with
    | nil => intro st st' _ h; exact h
    | cons s r ih =>
      intro st st' h1 h2
      have := mv_same h1 s
      refine ih _ _ this.1 ?_
      simp only [mvs, mvsR]
      rw [h2, this.2, this.1.done]
  exact this _ _ (.inl rfl) rfl

theorem done36_ok {ba bl n c : Nat} {al : Option Addr} {a : Int} {fz fz' : Nat × Nat} (ha : w.heap[ba]? = some (.cells #[.int .i64 a] 3 fz)) (hl : w.heap[bl]? = some (.cells #[.slice al n c] 22 fz'))
    (hK : K (.bool (decide (a < 0 ∨ (n : Int) ≤ a))) w) : Calls Try.prog 36 #[ptr ba, ptr bl] w (ret K Kp) := by
  obtain ⟨f1, f2⟩ := fz
  obtain ⟨f3, f4⟩ := fz'
  refine vc36_calls ?_
  simp [-getElem?_pos, -Array.getElem?_eq_getElem, List.getElem?_cons_zero, vc36, ptr, add_spot, ha, hl, Br_dec]
  refine ⟨fun h => ?_, fun h => ?_⟩
  · rw [decide_eq_true (.inl h)] at hK; exact hK
  · have : decide (a < 0 ∨ (n : Int) ≤ a) = decide ((n : Int) ≤ a) := decide_eq_decide.2 (by omega)
    rw [this] at hK; exact hK

theorem walk_ok {al a2 : Option Addr} {cl c2 : Nat} {xs : List Int} {moves : List Mv} (h0 : IsInts w (.slice al xs.length cl) xs) (h2 : Row w a2 (moves.flatMap Mv.cells)) (hx : xs.length < 2 ^ 31) (hm : moves.length < 2 ^ 31)
    (hK : ∀ v w', (∀ {M}, Frm M w w') → w'.ownsRow w.heap.size 56 4 v moves.length ((walk xs moves).2.flatMap Sn.cells) → K (.tuple #[.bool (isDone xs 0), v]) w') :
    Calls Try.prog 18 #[.slice al xs.length cl, .slice a2 moves.length c2] w (ret K Kp) := by
  refine vc18_calls ?_
  have hro : Row w al (i64s xs) := by obtain ⟨_, _, e, _, hr, _⟩ := h0; cases e; exact hr
  have hcs0 : (Value.slice al xs.length cl).cells = #[.slice al xs.length cl] := rfl
  simp [-getElem?_pos, -Array.getElem?_eq_getElem, List.getElem?_cons_zero, vc18, and_assoc, hp_alloc_eq, alloc_upd, hcs0]
  obtain ⟨bl, hbl⟩ : ∃ bl, bl = w.heap.size := ⟨_, rfl⟩
  obtain ⟨w1, hw1⟩ : ∃ w1, w1 = (w.alloc (.cells #[.slice al xs.length cl] 22)).alloc (.cells #[.int .i64 0] 3) := ⟨_, rfl⟩
  rw [← hbl, ← hw1]
  have hl1 : w1.heap[bl]? = some (.cells #[.slice al xs.length cl] 22 (0, 0)) := by rw [hw1, hbl]; exact hp_alloc_lt (hp_alloc_eq rfl)
  have ha1 : w1.heap[bl + 1]? = some (.cells #[.int .i64 0] 3 (0, 0)) := by rw [hw1, hbl]; exact hp_alloc_eq (by simp)
  have hz1 : w1.heap.size = bl + 2 := by rw [hw1, hbl]; simp
  have hf1 : ∀ {M}, Frm M w w1 := fun {M} => by rw [hw1]; exact (Frm.alloc _ _).trans (Frm.alloc _ _) fun _ h _ => h
  obtain ⟨I, hI⟩ : ∃ I : Value → Value → World → Prop, ∀ l v w', I l v w' ↔ ∃ (j : Nat), v = .int .i64 j ∧ j ≤ moves.length ∧ (∀ {M}, Frm M w w') ∧ w'.ownsRow (bl + 2) 56 4 l j ((walkR xs (moves.take j)).2.flatMap Sn.cells) ∧
      w'.heap[bl]? = some (.cells #[.slice al xs.length cl] 22 (0, 0)) ∧ w'.heap[bl + 1]? = some (.cells #[.int .i64 (walkR xs (moves.take j)).1] 3 (0, 0)) ∧ -1 ≤ (walkR xs (moves.take j)).1 ∧ (walkR xs (moves.take j)).1 ≤ xs.length ∧ bl + 2 ≤ w'.heap.size := ⟨_, fun _ _ _ => Iff.rfl⟩
  obtain ⟨μ, hμ⟩ : ∃ μ : Value → Value → World → Nat, ∀ l (j : Nat) w, μ l (.int .i64 j) w = moves.length - j := ⟨fun _ v _ => moves.length - (match v with | .int _ j => j.toNat | _ => 0), fun _ _ _ => rfl⟩
  refine Lp.intro I μ ⟨(hI _ _ _).2 ⟨0, rfl, by omega, hf1, own_nil, hl1, ha1, by simp [walkR], by simp [walkR], by omega⟩, ?_⟩
  intro wl l v hIl
  obtain ⟨j, rfl, hj, hfr, hown, hl, ha, hb1, hb2, hsz⟩ := (hI _ _ _).1 hIl
  simp only [op_lss, Br_dec]
  refine ⟨fun hlt => ?_, fun hnl => ?_⟩
  · have hj' : j < moves.length := by omega
    obtain ⟨bm0, o, cs, e, ⟨fa, fb⟩, rfl, hcs, hsz1, hext⟩ := (h2.frame (hfr (M := fun _ => False)) (by simp)).part mv_len (by decide) hj'
    have hls : List.take 2 (List.drop (o + j * 2) cs.toList) = moves[j].cells := by
      have := congrArg Array.toList hext
      simpa using this
    have how : ow #[Value.int IntKind.u8 0, Value.int IntKind.i64 0] 0 moves[j].cells = moves[j].cells.toArray := ow_all rfl
    have hone : ∀ u, u ∈ moves[j].cells → u.oneCell' = true := by intro u hu; simp [Mv.cells] at hu; rcases hu with rfl | rfl <;> rfl
    have hks : moves[j].cells.toArray = #[.int .u8 moves[j].kind, .int .i64 moves[j].index] := rfl
    have how2 : ow #[Value.int IntKind.i64 0, Value.int IntKind.i64 0, Value.bool false, Value.bool false] 0 [Value.int IntKind.i64 0, Value.int IntKind.i64 0, Value.bool false, Value.bool false] = #[Value.int IntKind.i64 0, Value.int IntKind.i64 0, Value.bool false, Value.bool false] := rfl
    simp [-getElem?_pos, -Array.getElem?_eq_getElem, List.getElem?_cons_zero, add_spot, hcs, hsz1, and_assoc, hp_alloc_eq, alloc_upd, hls, how, how2]
    refine ⟨hj', hone, ?_⟩
    generalize hs : moves[j] = s at *
    have htk : moves.take (j + 1) = moves.take j ++ [s] := by rw [← hs]; exact List.take_succ_eq_append_getElem hj'
    have hadv : walkR xs (moves.take (j + 1)) = mvsR xs (walkR xs (moves.take j)) s := by rw [htk, walkR_snoc]
    have hwl : (walkR xs (moves.take j)).2.length = j := by rw [← walk_same, walk_len]; simp; omega
    generalize hst : walkR xs (moves.take j) = st at *
    obtain ⟨at0, sl⟩ := st
    simp only at ha hb1 hb2 hwl hown hadv
    obtain ⟨bm, hbm⟩ : ∃ bm, bm = wl.heap.size := ⟨_, rfl⟩
    obtain ⟨w4, hw4⟩ : ∃ w4, w4 = (wl.alloc (.cells s.cells.toArray 51)).alloc (.cells #[.int .i64 0, .int .i64 0, .bool false, .bool false] 56) := ⟨_, rfl⟩
    rw [← hbm, ← hw4]
    have hm4 : w4.heap[bm]? = some (.cells s.cells.toArray 51 (0, 0)) := by rw [hw4, hbm]; exact hp_alloc_lt (hp_alloc_eq rfl)
    have hs4 : w4.heap[bm + 1]? = some (.cells #[.int .i64 0, .int .i64 0, .bool false, .bool false] 56 (0, 0)) := by rw [hw4, hbm]; exact hp_alloc_eq (by simp)
    have hz4 : w4.heap.size = bm + 2 := by rw [hw4, hbm]; simp
    have hfl4 : ∀ {M}, Frm M wl w4 := fun {M} => by rw [hw4]; exact (Frm.alloc _ _).trans (Frm.alloc _ _) fun _ h _ => h
    have hl4 := (hfl4 (M := fun _ => False)).get hl (by simp)
    have ha4 := (hfl4 (M := fun _ => False)).get ha (by simp)
    obtain ⟨J, hJ⟩ : ∃ J : World → Prop, ∀ w', J w' ↔ Frm (fun q => q = bl + 1 ∨ q = bm + 1) w4 w' ∧ w'.heap[bl + 1]? = some (.cells #[.int .i64 (mvR xs at0 s).1] 3 (0, 0)) ∧
        w'.heap[bm + 1]? = some (.cells #[.int .i64 (mvR xs at0 s).2.1, .int .i64 (mvR xs at0 s).2.2.1, .bool (mvR xs at0 s).2.2.2, .bool false] 56 (0, 0)) := ⟨_, fun _ => Iff.rfl⟩
    have hbl1 : ∀ o, (w4.upd (bl + 1) o).heap[bl + 1]? = some o := fun o => heap_upd_same ha4
    have hfa : ∀ (x : Int), Frm (fun q => q = bl + 1 ∨ q = bm + 1) w4 (w4.upd (bl + 1) (.cells #[.int .i64 x] 3)) := fun x => Frm.upd _ _ fun _ => .inl rfl
    have hsa : ∀ (x : Int), (w4.upd (bl + 1) (.cells #[.int .i64 x] 3)).heap[bm + 1]? = some (.cells #[.int .i64 0, .int .i64 0, .bool false, .bool false] 56 (0, 0)) := fun x => by rw [heap_upd_ne (by omega)]; exact hs4
    obtain ⟨J10, hJ10⟩ : ∃ J : Value → World → Prop, ∀ v w', J v w' ↔ v = .bool (decide (s.kind = 0 ∨ s.kind = 1)) ∧ w' = w4 := ⟨_, fun _ _ => Iff.rfl⟩
    have hks' : s.cells.toArray = #[.int .u8 s.kind, .int .i64 s.index] := rfl
    rw [hks'] at hm4
    refine Jn.intro J ⟨?_, ?_⟩
    · simp [-getElem?_pos, -Array.getElem?_eq_getElem, List.getElem?_cons_zero, add_spot, hm4, Br_dec]
      refine Jn.intro J10 ⟨⟨fun h => (hJ10 _ _).2 ⟨by simp [h], rfl⟩, fun h => (hJ10 _ _).2 ⟨?_, rfl⟩⟩, ?_⟩
      · congr 1; simp [h]; omega
      intro w' v hv
      obtain ⟨rfl, rfl⟩ := (hJ10 _ _).1 hv
      simp only [Br_dec]
      have hu4 := fun o => heap_upd_same (o := o) hs4
      obtain ⟨kind, index⟩ := s
      simp only at hm4 ⊢
      refine ⟨fun hk01 => ?_, fun hk01 => ?_⟩
      · simp [-getElem?_pos, -Array.getElem?_eq_getElem, List.getElem?_cons_zero, add_spot, hs4, Br_dec, and_assoc, call_val call_36]
        obtain ⟨w5, hw5⟩ : ∃ w5, w5 = w'.upd (bm + 1) (.cells #[.int .i64 (-1), .int .i64 0, .bool false, .bool false] 56) := ⟨_, rfl⟩
        rw [← hw5]
        have hs5 : w5.heap[bm + 1]? = some (.cells #[.int .i64 (-1), .int .i64 0, .bool false, .bool false] 56 (0, 0)) := by rw [hw5]; exact hu4 _
        have ha5 : w5.heap[bl + 1]? = some (.cells #[.int .i64 at0] 3 (0, 0)) := by rw [hw5, heap_upd_ne (by omega)]; exact ha4
        have hl5 : w5.heap[bl]? = some (.cells #[.slice al xs.length cl] 22 (0, 0)) := by rw [hw5, heap_upd_ne (by omega)]; exact hl4
        have hf5 : Frm (fun q => q = bl + 1 ∨ q = bm + 1) w' w5 := by rw [hw5]; exact Frm.upd _ _ fun _ => .inr rfl
        have hm5 : w5.heap[bm]? = some (.cells #[.int .u8 kind, .int .i64 index] 51 (0, 0)) := by rw [hw5, heap_upd_ne (by omega)]; exact hm4
        refine done36_ok ha5 hl5 ?_
        have hdd : decide (at0 < 0 ∨ (xs.length : Int) ≤ at0) = isDone xs at0 := rfl
        rw [hdd]
        cases hdn : isDone xs at0 with
        | true =>
          have hmv : mvR xs at0 ⟨kind, index⟩ = (at0, -1, 0, false) := by rcases hk01 with rfl | rfl <;> simp only [mvR, hdn] <;> rfl
          simp only [op_not, Bool.not_true, Br_bool, reduceCtorEq, false_implies, true_implies, true_and]
          rw [hJ, hmv]
          exact ⟨hf5, ha5, hs5⟩
        | false =>
          simp only [op_not, Bool.not_false, Br_bool, reduceCtorEq, false_implies, true_implies, and_true]
          have hin : 0 ≤ at0 ∧ at0 < xs.length := by simp [isDone] at hdn; exact hdn
          obtain ⟨q, rfl⟩ : ∃ q : Nat, at0 = q := ⟨at0.toNat, by omega⟩
          have hq : q < xs.length := by omega
          have hfw5 : ∀ {b o}, w.heap[b]? = some o → b < bl → w5.heap[b]? = some o := fun h hb => hf5.get ((hfl4 (M := fun _ => False)).get ((hfr (M := fun _ => False)).get h (by simp)) (by simp)) (by omega)
          obtain ⟨bx, ox, csx, ex, ⟨fxa, fxb⟩, rfl, hcx, hvx⟩ := hro.get (j := q) (by simpa [i64s] using hq)
          have hgx : (i64s xs)[q]'(by simpa [i64s] using hq) = .int .i64 xs[q] := by simp [i64s]
          rw [hgx] at hvx
          have hbx : bx < bl := by have := lt_of_get hcx; omega
          have hcx5 := hfw5 hcx hbx
          have hu5 := fun o => heap_upd_same (o := o) hs5
          have hu5d := fun o => heap_upd_same (w := w5.drew) (o := o) hs5
          have hne1 : ∀ o, (w5.drew.upd (bm + 1) o).heap[bl + 1]? = w5.heap[bl + 1]? := fun o => heap_upd_ne (w := w5.drew) (by omega)
          have hne2 : ∀ o, (w5.drew.upd (bm + 1) o).heap[bl]? = w5.heap[bl]? := fun o => heap_upd_ne (w := w5.drew) (by omega)
          have hne3 : ∀ o, (w5.drew.upd (bm + 1) o).heap[bx]? = w5.heap[bx]? := fun o => heap_upd_ne (w := w5.drew) (by omega)
          simp [-getElem?_pos, -Array.getElem?_eq_getElem, List.getElem?_cons_zero, add_spot, ha5, hl5, hs5, hcx5, hvx, hu5d, hne1, hne2, hne3, and_assoc, upd_upd]
          refine ⟨hq, ?_⟩
          obtain ⟨w6, hw6⟩ : ∃ w6, w6 = w5.drew.upd (bm + 1) (.cells #[.int .i64 q, .int .i64 xs[q], .bool false, .bool false] 56) := ⟨_, rfl⟩
          rw [← hw6]
          have hs6 : w6.heap[bm + 1]? = some (.cells #[.int .i64 q, .int .i64 xs[q], .bool false, .bool false] 56 (0, 0)) := by rw [hw6]; exact hu5d _
          have ha6 : w6.heap[bl + 1]? = some (.cells #[.int .i64 q] 3 (0, 0)) := by rw [hw6, hne1]; exact ha5
          have hl6 : w6.heap[bl]? = some (.cells #[.slice (some ⟨bx, ox, none⟩) xs.length cl] 22 (0, 0)) := by rw [hw6, hne2]; exact hl5
          have hm6 : w6.heap[bm]? = some (.cells #[.int .u8 kind, .int .i64 index] 51 (0, 0)) := by rw [hw6, heap_upd_ne (w := w5.drew) (by omega)]; exact hm5
          have hf6 : Frm (fun q => q = bl + 1 ∨ q = bm + 1) w' w6 := by
            rw [hw6]; exact (hf5.trans (Frm.drew (M := fun _ => False) _) fun _ h _ => h.elim).trans (Frm.upd (M := fun q => q = bl + 1 ∨ q = bm + 1) _ _ fun _ => .inr rfl) fun _ h _ => h
          obtain ⟨nx, hnx⟩ : ∃ nx : Int, nx = if kind = 0 then (q : Int) + 1 else (q : Int) - 1 := ⟨_, rfl⟩
          have hmv : mvR xs q ⟨kind, index⟩ = (snap xs nx, (q : Int), xs[q], false) := by
            rcases hk01 with rfl | rfl <;> simp only [mvR, hdn] <;> simp [hnx, List.getD, hq]
          obtain ⟨J16, hJ16⟩ : ∃ J : World → Prop, ∀ w', J w' ↔ w' = w6.upd (bl + 1) (.cells #[.int .i64 nx] 3) := ⟨_, fun _ => Iff.rfl⟩
          have hu6 := fun o => heap_upd_same (o := o) ha6
          refine Jn.intro J16 ⟨?_, fun w7 hw7 => ?_⟩
          · simp [-getElem?_pos, -Array.getElem?_eq_getElem, List.getElem?_cons_zero, add_spot, hm6, ha6, Br_dec, and_assoc]
            refine ⟨fun h => ?_, fun h => ?_⟩
            · have e : IntKind.i64.wrap ((q : Int) + 1) = nx := by rw [hnx, if_pos h]; exact wrap_small _ rfl (by omega) (by omega)
              rw [e]; exact (hJ16 _).2 rfl
            · have e : IntKind.i64.wrap ((q : Int) - 1) = nx := by rw [hnx, if_neg h, IntKind.wrap_i64]; omega
              rw [e]; exact (hJ16 _).2 rfl
          · obtain rfl := (hJ16 _).1 hw7
            have ha7 := hu6 (.cells #[.int .i64 nx] 3)
            have hl7 : (w6.upd (bl + 1) (.cells #[.int .i64 nx] 3)).heap[bl]? = some (.cells #[.slice (some ⟨bx, ox, none⟩) xs.length cl] 22 (0, 0)) := by rw [heap_upd_ne (by omega)]; exact hl6
            refine done36_ok ha7 hl7 ?_
            have hdd2 : decide (nx < 0 ∨ (xs.length : Int) ≤ nx) = isDone xs nx := rfl
            rw [hdd2]
            have hfu : ∀ x : Int, Frm (fun q => q = bl + 1 ∨ q = bm + 1) w' (w6.upd (bl + 1) (.cells #[.int .i64 x] 3)) := fun x => hf6.trans (Frm.upd (M := fun q => q = bl + 1 ∨ q = bm + 1) _ _ fun _ => .inl rfl) fun _ h _ => h
            have hs7 : ∀ x : Int, (w6.upd (bl + 1) (.cells #[.int .i64 x] 3)).heap[bm + 1]? = some (.cells #[.int .i64 q, .int .i64 xs[q], .bool false, .bool false] 56 (0, 0)) := fun x => by rw [heap_upd_ne (by omega)]; exact hs6
            cases hdn2 : isDone xs nx with
            | true =>
              simp [-getElem?_pos, -Array.getElem?_eq_getElem, List.getElem?_cons_zero, hu6, upd_upd, and_assoc]
              rw [hJ, hmv]
              simp only [snap, hdn2, if_true]
              exact ⟨hfu _, hu6 _, hs7 _⟩
            | false =>
              simp only [Br_bool, reduceCtorEq, false_implies, true_implies, true_and]
              rw [hJ, hmv]
              simp only [snap, hdn2, Bool.false_eq_true, if_false]
              exact ⟨hfu _, hu6 _, hs7 _⟩
      · have hn0 : ¬ kind = 0 := fun e => hk01 (.inl e)
        have hn1 : ¬ kind = 1 := fun e => hk01 (.inr e)
        have hma : ∀ (x : Int), (w'.upd (bl + 1) (.cells #[.int .i64 x] 3)).heap[bl + 1]? = some (.cells #[.int .i64 x] 3 (0, 0)) := fun x => hbl1 _
        have hxs4 : Frm (fun q => q = bl + 1 ∨ q = bm + 1) w' (w'.upd (bm + 1) (.cells #[.int .i64 0, .int .i64 0, .bool true, .bool false] 56)) := Frm.upd _ _ fun _ => .inr rfl
        have hxa4 : (w'.upd (bm + 1) (.cells #[.int .i64 0, .int .i64 0, .bool true, .bool false] 56)).heap[bl + 1]? = some (.cells #[.int .i64 at0] 3 (0, 0)) := by rw [heap_upd_ne (by omega)]; exact ha4
        match kind, hn0, hn1 with
        | 2, _, _ =>
          simp [-getElem?_pos, -Array.getElem?_eq_getElem, List.getElem?_cons_zero, add_spot, hl4, ha4, Br_dec, and_assoc]
          refine ⟨fun hp => ?_, fun hp => ?_⟩
          · rw [hJ]; simp only [mvR, if_pos hp]; exact ⟨hfa _, hma _, hsa _⟩
          · rw [hJ]; simp only [mvR, if_neg (show ¬ 0 < xs.length by simp [hp])]; exact ⟨Frm.refl, ha4, hs4⟩
        | 3, _, _ =>
          simp [-getElem?_pos, -Array.getElem?_eq_getElem, List.getElem?_cons_zero, add_spot, hl4, ha4, Br_dec, and_assoc]
          refine ⟨fun hp => ?_, fun hp => ?_⟩
          · have e : IntKind.i64.wrap ((xs.length : Int) - 1) = (xs.length : Int) - 1 := wrap_small _ rfl (by omega) (by omega)
            rw [hJ, e]; simp only [mvR, if_pos hp]; exact ⟨hfa _, hma _, hsa _⟩
          · rw [hJ]; simp only [mvR, if_neg (show ¬ 0 < xs.length by simp [hp])]; exact ⟨Frm.refl, ha4, hs4⟩
        | 4, _, _ =>
          simp [-getElem?_pos, -Array.getElem?_eq_getElem, List.getElem?_cons_zero, add_spot, hl4, ha4, hs4, hm4, Br_dec, and_assoc]
          refine ⟨fun hp => ?_, fun h0 => ⟨fun hp => ?_, fun hp => ?_⟩⟩
          · rw [hJ]; simp only [mvR, if_pos (show index < 0 ∨ (xs.length : Int) ≤ index from .inl hp)]; exact ⟨hxs4, hxa4, hu4 _⟩
          · rw [hJ]; simp only [mvR, if_pos (show index < 0 ∨ (xs.length : Int) ≤ index from .inr hp)]; exact ⟨hxs4, hxa4, hu4 _⟩
          · rw [hJ]; simp only [mvR, if_neg (show ¬ (index < 0 ∨ (xs.length : Int) ≤ index) from by omega)]; exact ⟨hfa _, hma _, hsa _⟩
        | n + 5, _, _ =>
          have k2 : ¬ ((n + 5 : Nat) : Int) = 2 := by omega
          have k3 : ¬ ((n + 5 : Nat) : Int) = 3 := by omega
          have k4 : ¬ ((n + 5 : Nat) : Int) = 4 := by omega
          simp only [op_eql, Br_dec, k2, k3, k4, false_implies, not_false_eq_true, true_implies, true_and]
          rw [hJ]; exact ⟨Frm.refl, ha4, hs4⟩
    · intro w5 hw5
      obtain ⟨hf5, ha5, hs5⟩ := (hJ _).1 hw5
      have hl5 : w5.heap[bl]? = some (.cells #[.slice al xs.length cl] 22 (0, 0)) := hf5.get hl4 (by omega)
      simp only [call_val call_36]
      refine done36_ok ha5 hl5 ?_
      have hdd : ∀ i : Int, decide (i < 0 ∨ (xs.length : Int) ≤ i) = isDone xs i := fun _ => rfl
      rw [hdd]
      have hu5 := fun o => heap_upd_same (o := o) hs5
      simp [-getElem?_pos, -Array.getElem?_eq_getElem, List.getElem?_cons_zero, add_spot, hs5, hu5, and_assoc, upd_upd]
      have hex : ∀ a b c d : Value, #[a, b, c, d].extract 0 4 = #[a, b, c, d] := fun _ _ _ _ => rfl
      have hset : ∀ a b c d x : Value, #[a, b, c, d].setIfInBounds 3 x = #[a, b, c, x] := fun _ _ _ _ _ => rfl
      simp only [hex, hset, op_lit_52_1]
      generalize hsn : (⟨(mvR xs at0 s).2.1, (mvR xs at0 s).2.2.1, (mvR xs at0 s).2.2.2, isDone xs (mvR xs at0 s).1⟩ : Sn) = sn
      have hsc : #[Value.int .i64 (mvR xs at0 s).2.1, .int .i64 (mvR xs at0 s).2.2.1, .bool (mvR xs at0 s).2.2.2, .bool (isDone xs (mvR xs at0 s).1)] = sn.cells.toArray := by rw [← hsn]; rfl
      rw [hsc]
      obtain ⟨w7, hw7⟩ : ∃ w7, w7 = (w5.upd (bm + 1) (.cells sn.cells.toArray 56)).alloc (.cells sn.cells.toArray 56) := ⟨_, rfl⟩
      rw [← hw7, size_upd]
      have hf7 : Frm (fun q => q = bl + 1 ∨ q = bm + 1) w4 w7 := by
        rw [hw7]
        exact (hf5.trans (Frm.upd (M := fun q => q = bm + 1) _ _ fun _ => rfl) fun _ h _ => .inr h).trans (Frm.alloc (M := fun _ => False) _ _) fun _ h _ => h.elim
      have hfl7 : Frm (fun q => q = bl + 1 ∨ q = bm + 1) wl w7 := hfl4.trans hf7 fun _ h _ => h
      have hz5 : w4.heap.size ≤ w5.heap.size := hf5.size
      have hz7 : w7.heap.size = w5.heap.size + 1 := by rw [hw7]; simp
      have hob := own_lt hown
      have hr7 : Row w7 (some ⟨w5.heap.size, 0, none⟩) sn.cells := .inr ⟨_, _, _, _, _, rfl, by rw [hw7]; exact hp_alloc_eq (by simp), fun j v hj => by simpa using hj⟩
      have ha7 : w7.heap[bl + 1]? = some (.cells #[.int .i64 (mvR xs at0 s).1] 3 (0, 0)) := by
        rw [hw7]; exact hp_alloc_lt (by rw [heap_upd_ne (by omega)]; exact ha5)
      refine op_append (base := bl + 2) (size := 4) (n := j) (m := 1) (xs := sl.flatMap Sn.cells) (news := sn.cells) ap52 (own_frame hown hfl7 fun q hq => by have := hob q hq; omega) hr7 rfl (by rw [← hsn]; intro u hu; simp [Sn.cells] at hu; rcases hu with rfl | rfl | rfl | rfl <;> rfl) (by simp) (by omega) (by omega) fun l4 w8 hl8 hf8 hbl4 => ?_
      rw [wrap_small _ rfl (by omega) (by omega)]
      have hrange : -1 ≤ (mvR xs at0 s).1 ∧ (mvR xs at0 s).1 ≤ xs.length := by
        obtain ⟨kind, index⟩ := s
        match kind with
        | 0 => simp only [mvR]; split
               · exact ⟨hb1, hb2⟩
               · simp only [snap]; rename_i hd; simp [isDone] at hd; split <;> omega
        | 1 => simp only [mvR]; split
               · exact ⟨hb1, hb2⟩
               · simp only [snap]; rename_i hd; simp [isDone] at hd; split <;> omega
        | 2 => simp only [mvR]; split <;> omega
        | 3 => simp only [mvR]; split <;> omega
        | 4 => simp only [mvR]; split <;> omega
        | n + 5 => exact ⟨hb1, hb2⟩
      refine ⟨(hI _ _ _).2 ⟨j + 1, rfl, by omega, fun {M} => ?_, ?_, hf8.get (hfl7.get hl (by omega)) fun e => by have := hob bl e.symm; omega, ?_, ?_, ?_, by have := hf8.size; omega⟩, ?_⟩
      · refine ((hfr (M := M)).trans hfl7 fun q hq hlt => ?_).trans hf8 fun q hq hlt => ?_
        · rcases hq with h | h <;> omega
        · have := hob q hq.symm; omega
      · rw [hadv]
        simp only [mvsR, hsn, List.flatMap_append, List.flatMap_singleton]
        exact hl8
      · rw [hadv]; exact hf8.get ha7 fun e => by have := hob (bl + 1) e.symm; omega
      · rw [hadv]; exact hrange.1
      · rw [hadv]; exact hrange.2
      · have e : (j : Int) + 1 = ((j + 1 : Nat) : Int) := rfl
        rw [e, hμ, hμ]; omega
  · have : j = moves.length := by omega
    subst this
    rw [List.take_length] at hown
    have hdn : isDone xs 0 = decide (xs = []) := by
      unfold isDone
      refine decide_eq_decide.2 ⟨fun h => ?_, fun h => by subst h; simp⟩
      rw [← List.length_eq_zero_iff]; omega
    have := hK l wl hfr (by rw [walk_same]; exact own_base hown (by omega))
    rw [hdn] at this
    simp [-getElem?_pos, -Array.getElem?_eq_getElem, List.getElem?_cons_zero, hl]
    simpa using this
end Go.Proofs.Ytjlaclgikmmmlaa
