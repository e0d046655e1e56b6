/- Iterators of lists: Next, Prev. -/
import Derived.Test.YtjlaclgikmmmlaaLIter2
set_option maxRecDepth 100000
set_option linter.unusedSimpArgs false
set_option linter.unusedVariables false
set_option maxHeartbeats 8000000
namespace Go.Proofs.Ytjlaclgikmmmlaa
open Go.Vc Go.Proofs
variable {m : Bool} {w w' w0 : World} {F F' G : Nat → Prop} {K : Value → World → Prop} {Kp : KP}

theorem move_ok {bi b o d q q' D : Nat} {rv : Value} {cs : Array Value} {i x : Int} {n : Nat} {g : Int → Option Int} (hL : w.heap[b]? = some (head rv o n)) (hb : w.heap[bi]? = some (.cells cs 98 (0, 0))) (hne : b ≠ bi) (hF : ¬ F bi)
    (hd : d ≤ 6) (hk : g ((o + q' : Nat) : Int) = some x) (hsm : o + q' < 2 ^ 31) (hI : ICells cs b i D) (hD : D ≤ d) (hS : Stk m w cs d (o + q) g F D) (hX : Ixs cs d (o + q) D) (hquo : (o + q) / 32 ^ (d - D + 1) = (o + q') / 32 ^ (d - D + 1))
    (hK : ∀ w' cs', Frm (· = bi) w w' → w'.heap[bi]? = some (.cells cs' 98 (0, 0)) → ICells cs' b i d → Stk m w' cs' d (o + q') g F d → Ixs cs' d (o + q') (d + 1) → K (.tuple #[]) w') :
    Calls Try.prog 60 #[ptr bi, .int .i64 q'] w (ret K Kp) := by
  refine seek_ok hL hb hne hF hd hk hsm hI hD (fun l hl => ?_) (fun l hl => ?_) hK
  · obtain ⟨nv, h1, h2⟩ := hS l hl
    refine ⟨nv, h1, ?_⟩
    have e : at_ g (o + q') (d - l) = at_ g (o + q) (d - l) := by
      funext y
      unfold at_
      rw [quot_up hquo (show d - D + 1 ≤ d - l + 1 by omega)]
    rw [e]; exact h2
  · rw [hX l hl, slot_nat, slot_nat, quot_up hquo (show d - D + 1 ≤ d - l by omega)]

theorem Next_ok {bi b N : Nat} {xs : List Int} {i : Int} (h : It m w bi b xs N F i) (hF : ¬ F bi) (hN : N < 2 ^ 19)
    (hK1 : isDone xs i = true → ∀ w', Frm (· = bi) w w' → It m w' bi b xs N F i → K (.tuple #[.int .i64 (-1), .int .i64 0]) w')
    (hK2 : ∀ (k : Nat) (hk : k < xs.length), i = k → ∀ w', Frm (· = bi) w w' → It m w' bi b xs N F ((k : Int) + 1) → K (.tuple #[.int .i64 k, .int .i64 xs[k]]) w') : Calls Try.prog 31 #[ptr bi] w (ret K Kp) := by
  refine vc31_calls ?_
  simp only [vc31, call_28]
  refine done_ok h ?_
  cases hdn : isDone xs i with
  | true =>
    simp [-getElem?_pos, -Array.getElem?_eq_getElem, List.getElem?_cons_zero]
    exact hK1 hdn _ (Frm.drew w) (h.frame (Frm.drew (M := fun _ => False) w) (by simp) (by simp))
  | false =>
    have hin : 0 ≤ i ∧ i < xs.length := by simp [isDone] at hdn; exact hdn
    obtain ⟨k, rfl⟩ : ∃ k : Nat, i = k := ⟨i.toNat, by omega⟩
    have hk : k < xs.length := by omega
    obtain ⟨rv, d, o, Ft, cs, D, h1, h2, h3, h4, h5, h6, ⟨i1, i2, i3, i4⟩, h8⟩ := h
    obtain ⟨rfl, hS, hX⟩ := h8 hin.1 hin.2
    simp only [Int.toNat_natCast] at hS hX
    have hsm := h5.small (by omega)
    have hne : b ≠ bi := fun e => hF (e ▸ h3)
    have hnF : ∀ k, Ft k → ¬ k = bi := fun k hk e => hF (e ▸ h4 k hk)
    obtain ⟨nv, hn1, hn2⟩ := hS D (Nat.le_refl _)
    rw [Nat.sub_self] at hn2
    obtain ⟨bq, csq, rfl, hq1, hq2⟩ := hn2.leaf (win_get (o := o) hk)
    have hx := hX D (by omega)
    rw [Nat.sub_self] at hx
    have hsl := slot_lt 0 ((o + k : Nat) : Int)
    simp only [ptr] at hn1 i2
    have hwk : IntKind.i64.wrap ((k : Int) + 1) = ((k + 1 : Nat) : Int) := wrap_small _ rfl (by omega) (by omega)
    have hu2 := fun o => heap_upd_same (w := w.drew.drew) (o := o) h6
    simp [-getElem?_pos, -Array.getElem?_eq_getElem, List.getElem?_cons_zero, -Int.natCast_add, ptr, add_spot, h6, i1, i2, i3, i4, hn1, hx, hq1, hq2, hwk, and_assoc, hu2]
    refine ⟨by omega, by omega, ?_⟩
    obtain ⟨cs1, hcs1⟩ : ∃ cs1, cs1 = cs.setIfInBounds 1 (.int .i64 ((k + 1 : Nat) : Int)) := ⟨_, rfl⟩
    obtain ⟨w1, hw1⟩ : ∃ w1, w1 = w.drew.drew.drew.upd bi (.cells cs1 98 (0, 0)) := ⟨_, rfl⟩
    rw [← hcs1, ← hw1]
    have s1 : cs1.size = 67 := by rw [hcs1]; simpa using i1
    have g1 : ∀ j, j ≠ 1 → cs1[j]? = cs[j]? := fun j hj => by rw [hcs1, Array.getElem?_setIfInBounds_ne (by omega)]
    have g11 : cs1[1]? = some (.int .i64 ((k + 1 : Nat) : Int)) := by rw [hcs1, Array.getElem?_setIfInBounds_self_of_lt (by omega)]
    have g10 : cs1[0]? = some (ptr b) := by rw [g1 _ (by omega)]; exact i2
    have hb1 : w1.heap[bi]? = some (.cells cs1 98 (0, 0)) := by rw [hw1]; exact heap_upd_same (w := w.drew.drew.drew) h6
    have hf1 : Frm (· = bi) w w1 := by
      rw [hw1]
      exact (((Frm.drew w).trans (Frm.drew (M := fun _ => False) _) fun _ h _ => h.elim).trans (Frm.drew (M := fun _ => False) _) fun _ h _ => h.elim).trans (Frm.upd (M := (· = bi)) _ _ fun _ => rfl) fun _ h _ => h
    clear hw1 hu2
    have h11 := hf1.get h1 (fun e => hne e)
    refine done_of (b := b) (xs := xs) (i := ((k + 1 : Nat) : Int)) h11 hb1 g10 g11 ?_
    have hfd : Frm (· = bi) w w1.drew := hf1.trans (Frm.drew (M := fun _ => False) _) fun _ h _ => h.elim
    have g66 : cs1[66]? = some (.int .i64 D) := by rw [g1 _ (by omega)]; exact i4
    cases hdn2 : isDone xs ((k + 1 : Nat) : Int) with
    | true =>
      simp only [Br_bool, true_implies, reduceCtorEq, false_implies, and_true]
      have hge : xs.length ≤ k + 1 := by simp only [isDone, decide_eq_true_eq] at hdn2; omega
      exact hK2 k hk rfl _ hfd ⟨rv, D, o, Ft, cs1, D, hfd.get h1 (fun e => hne e), h2.frame hfd hnF, h3, h4, h5, hb1, ⟨s1, g10, g11, g66⟩, fun _ h => by omega⟩
    | false =>
      simp only [Br_bool, true_implies, reduceCtorEq, false_implies, true_and]
      have hlt : k + 1 < xs.length := by simp only [isDone, decide_eq_false_iff_not] at hdn2; omega
      obtain ⟨I, hIx⟩ : ∃ I : World → Prop, ∀ w', I w' ↔ ∃ D' cs', D' ≤ D ∧ Frm (· = bi) w w' ∧ w'.heap[bi]? = some (.cells cs' 98 (0, 0)) ∧ ICells cs' b ((k + 1 : Nat) : Int) D' ∧ (∀ j, j ≠ 66 → cs'[j]? = cs1[j]?) ∧ (∀ l, D' < l → l ≤ D → slot (D - l) ((o + k : Nat) : Int) = 31) := ⟨_, fun _ => Iff.rfl⟩
      obtain ⟨μ, hμ⟩ : ∃ μ : World → Nat, ∀ (w : World) (cs : Array Value) (D : Nat), w.heap[bi]? = some (.cells cs 98 (0, 0)) → cs[66]? = some (.int .i64 D) → μ w = D :=
        ⟨fun w => natAt w bi 66, fun w cs D h1 h2 => natAt_eq h1 h2⟩
      refine Lp.intro I μ ⟨(hIx _).2 ⟨D, cs1, Nat.le_refl _, hfd, hb1, ⟨s1, g10, g11, g66⟩, fun _ _ => rfl, fun l h1 h2 => by omega⟩, ?_⟩
      intro wl hIl
      obtain ⟨D', cs', hD', hfl, hbl, ⟨k1, k2, k3, k4⟩, hk5, hk6⟩ := (hIx _).1 hIl
      have fin : (D' = 0 ∨ slot (D - D') ((o + k : Nat) : Int) < 31) → Calls Try.prog 60 #[.pointer (some ⟨bi, 0, none⟩), .int .i64 ((k + 1 : Nat) : Int)] wl.drew (ret (fun v75 w => K (.tuple #[.int .i64 k, .int .i64 xs[k]]) w) Kp) := fun hc => by
        have hquo : (o + k) / 32 ^ (D - D' + 1) = (o + (k + 1)) / 32 ^ (D - D' + 1) := by
          rcases hc with h0 | hs
          · subst h0
            have := h5.2.1
            rw [Nat.sub_zero, Nat.div_eq_of_lt (by omega), Nat.div_eq_of_lt (by omega)]
          · refine (next_quot (p := o + k) (e := D - D') (fun s hs => ?_) (by rw [← slot_nat]; exact hs)).symm
            have := hk6 (D - s) (by omega) (by omega)
            rw [slot_nat] at this
            rwa [show D - (D - s) = s from by omega] at this
        have hfl' : Frm (· = bi) w wl.drew := hfl.trans (Frm.drew (M := fun _ => False) _) fun _ h _ => h.elim
        refine move_ok (m := m) (b := b) (o := o) (rv := rv) (n := xs.length) (d := D) (q := k) (q' := k + 1) (D := D') (cs := cs') (i := ((k + 1 : Nat) : Int)) (x := xs[k + 1]) (g := win o xs) (F := Ft) (hfl'.get h1 (fun e => hne e)) hbl hne (fun hb => hnF _ hb rfl) hsm.2 (win_get hlt) (by omega) ⟨k1, k2, k3, k4⟩ hD'
          (fun l hl => ?_) (fun l hl => ?_) hquo fun w' cs'' hf' hb' hI' hS' hX' => ?_
        · obtain ⟨nv, e1, e2⟩ := hS l (by omega)
          exact ⟨nv, by rw [hk5 _ (by omega), g1 _ (by omega)]; exact e1, e2.frame hfl' hnF⟩
        · rw [hk5 _ (by omega), g1 _ (by omega)]; exact hX l (by omega)
        · have hf2 := hfl'.trans hf' fun _ h _ => h
          exact hK2 k hk rfl _ hf2 ⟨rv, D, o, Ft, cs'', D, hf2.get h1 (fun e => hne e), h2.frame hf2 hnF, h3, h4, h5, hb', hI', fun _ _ => ⟨rfl, by simpa using hS', by simpa using hX'⟩⟩
      have hxd : cs'[2 + D' * 2 + 1]? = some (.int .i64 (slot (D - D') ((o + k : Nat) : Int))) := by rw [hk5 _ (by omega), g1 _ (by omega)]; exact hX D' (by omega)
      have hsl2 := slot_lt (D - D') ((o + k : Nat) : Int)
      have hu3 := fun o => heap_upd_same (w := wl.drew) (o := o) hbl
      simp [-getElem?_pos, -Array.getElem?_eq_getElem, List.getElem?_cons_zero, -Int.natCast_add, add_spot, hbl, k1, k3, k4, hxd, Br_dec, and_assoc]
      refine ⟨fun hp => ⟨by omega, fun h31 => ?_, fun h31 => fin (.inr (by omega))⟩, fun h0 => fin (.inl h0)⟩
      have hwD : IntKind.i64.wrap ((D' : Int) - 1) = ((D' - 1 : Nat) : Int) := by rw [wrap_small _ rfl (by omega) (by omega)]; omega
      rw [hwD]
      have h663 : (cs'.setIfInBounds 66 (.int .i64 ((D' - 1 : Nat) : Int)))[66]? = some (.int .i64 ((D' - 1 : Nat) : Int)) := by rw [Array.getElem?_setIfInBounds_self_of_lt (by omega)]
      refine ⟨(hIx _).2 ⟨D' - 1, _, by omega, (hfl.trans (Frm.drew (M := fun _ => False) _) fun _ h _ => h.elim).trans (Frm.upd (M := (· = bi)) _ _ fun _ => rfl) fun _ h _ => h, hu3 _, ⟨by simpa using k1, ?_, ?_, h663⟩, fun j hj => ?_, fun l hl1 hl2 => ?_⟩, ?_⟩
      · rw [Array.getElem?_setIfInBounds_ne (by omega)]; exact k2
      · rw [Array.getElem?_setIfInBounds_ne (by omega)]; exact k3
      · rw [Array.getElem?_setIfInBounds_ne (by omega)]; exact hk5 j hj
      · by_cases e : l = D'
        · subst e; omega
        · exact hk6 l (by omega) hl2
      · rw [hμ _ _ (D' - 1) (hu3 _) h663, hμ _ cs' D' hbl k4]; omega

theorem Prev_ok {bi b N : Nat} {xs : List Int} {i : Int} (h : It m w bi b xs N F i) (hF : ¬ F bi) (hN : N < 2 ^ 19)
    (hK1 : isDone xs i = true → ∀ w', Frm (· = bi) w w' → It m w' bi b xs N F i → K (.tuple #[.int .i64 (-1), .int .i64 0]) w')
    (hK2 : ∀ (k : Nat) (hk : k < xs.length), i = k → ∀ w', Frm (· = bi) w w' → It m w' bi b xs N F ((k : Int) - 1) → K (.tuple #[.int .i64 k, .int .i64 xs[k]]) w') : Calls Try.prog 32 #[ptr bi] w (ret K Kp) := by
  refine vc32_calls ?_
  simp only [vc32, call_28]
  refine done_ok h ?_
  cases hdn : isDone xs i with
  | true =>
    simp [-getElem?_pos, -Array.getElem?_eq_getElem, List.getElem?_cons_zero]
    exact hK1 hdn _ (Frm.drew w) (h.frame (Frm.drew (M := fun _ => False) w) (by simp) (by simp))
  | false =>
    have hin : 0 ≤ i ∧ i < xs.length := by simp [isDone] at hdn; exact hdn
    obtain ⟨k, rfl⟩ : ∃ k : Nat, i = k := ⟨i.toNat, by omega⟩
    have hk : k < xs.length := by omega
    obtain ⟨rv, d, o, Ft, cs, D, h1, h2, h3, h4, h5, h6, ⟨i1, i2, i3, i4⟩, h8⟩ := h
    obtain ⟨rfl, hS, hX⟩ := h8 hin.1 hin.2
    simp only [Int.toNat_natCast] at hS hX
    have hsm := h5.small (by omega)
    have hne : b ≠ bi := fun e => hF (e ▸ h3)
    have hnF : ∀ k, Ft k → ¬ k = bi := fun k hk e => hF (e ▸ h4 k hk)
    obtain ⟨nv, hn1, hn2⟩ := hS D (Nat.le_refl _)
    rw [Nat.sub_self] at hn2
    obtain ⟨bq, csq, rfl, hq1, hq2⟩ := hn2.leaf (win_get (o := o) hk)
    have hx := hX D (by omega)
    rw [Nat.sub_self] at hx
    have hsl := slot_lt 0 ((o + k : Nat) : Int)
    simp only [ptr] at hn1 i2
    have hwk : IntKind.i64.wrap ((k : Int) - 1) = (k : Int) - 1 := by rw [IntKind.wrap_i64]; omega
    have hu2 := fun o => heap_upd_same (w := w.drew.drew) (o := o) h6
    simp [-getElem?_pos, -Array.getElem?_eq_getElem, List.getElem?_cons_zero, -Int.natCast_add, ptr, add_spot, h6, i1, i2, i3, i4, hn1, hx, hq1, hq2, hwk, and_assoc, hu2]
    refine ⟨by omega, by omega, ?_⟩
    obtain ⟨cs1, hcs1⟩ : ∃ cs1, cs1 = cs.setIfInBounds 1 (.int .i64 ((k : Int) - 1)) := ⟨_, rfl⟩
    obtain ⟨w1, hw1⟩ : ∃ w1, w1 = w.drew.drew.drew.upd bi (.cells cs1 98 (0, 0)) := ⟨_, rfl⟩
    rw [← hcs1, ← hw1]
    have s1 : cs1.size = 67 := by rw [hcs1]; simpa using i1
    have g1 : ∀ j, j ≠ 1 → cs1[j]? = cs[j]? := fun j hj => by rw [hcs1, Array.getElem?_setIfInBounds_ne (by omega)]
    have g11 : cs1[1]? = some (.int .i64 ((k : Int) - 1)) := by rw [hcs1, Array.getElem?_setIfInBounds_self_of_lt (by omega)]
    have g10 : cs1[0]? = some (ptr b) := by rw [g1 _ (by omega)]; exact i2
    have hb1 : w1.heap[bi]? = some (.cells cs1 98 (0, 0)) := by rw [hw1]; exact heap_upd_same (w := w.drew.drew.drew) h6
    have hf1 : Frm (· = bi) w w1 := by
      rw [hw1]
      exact (((Frm.drew w).trans (Frm.drew (M := fun _ => False) _) fun _ h _ => h.elim).trans (Frm.drew (M := fun _ => False) _) fun _ h _ => h.elim).trans (Frm.upd (M := (· = bi)) _ _ fun _ => rfl) fun _ h _ => h
    clear hw1 hu2
    have h11 := hf1.get h1 (fun e => hne e)
    refine done_of (b := b) (xs := xs) (i := ((k : Int) - 1)) h11 hb1 g10 g11 ?_
    have hfd : Frm (· = bi) w w1.drew := hf1.trans (Frm.drew (M := fun _ => False) _) fun _ h _ => h.elim
    have g66 : cs1[66]? = some (.int .i64 D) := by rw [g1 _ (by omega)]; exact i4
    cases hdn2 : isDone xs ((k : Int) - 1) with
    | true =>
      simp only [Br_bool, true_implies, reduceCtorEq, false_implies, and_true]
      have hge : k = 0 := by simp only [isDone, decide_eq_true_eq] at hdn2; omega
      exact hK2 k hk rfl _ hfd ⟨rv, D, o, Ft, cs1, D, hfd.get h1 (fun e => hne e), h2.frame hfd hnF, h3, h4, h5, hb1, ⟨s1, g10, g11, g66⟩, fun h _ => by omega⟩
    | false =>
      simp only [Br_bool, true_implies, reduceCtorEq, false_implies, true_and]
      have hk0 : 0 < k := by simp only [isDone, decide_eq_false_iff_not] at hdn2; omega
      have ek1 : (k : Int) - 1 = ((k - 1 : Nat) : Int) := by omega
      have hlt : k - 1 < xs.length := by omega
      obtain ⟨I, hIx⟩ : ∃ I : World → Prop, ∀ w', I w' ↔ ∃ D' cs', D' ≤ D ∧ Frm (· = bi) w w' ∧ w'.heap[bi]? = some (.cells cs' 98 (0, 0)) ∧ ICells cs' b ((k : Int) - 1) D' ∧ (∀ j, j ≠ 66 → cs'[j]? = cs1[j]?) ∧ (∀ l, D' < l → l ≤ D → slot (D - l) ((o + k : Nat) : Int) = 0) := ⟨_, fun _ => Iff.rfl⟩
      obtain ⟨μ, hμ⟩ : ∃ μ : World → Nat, ∀ (w : World) (cs : Array Value) (D : Nat), w.heap[bi]? = some (.cells cs 98 (0, 0)) → cs[66]? = some (.int .i64 D) → μ w = D :=
        ⟨fun w => natAt w bi 66, fun w cs D h1 h2 => natAt_eq h1 h2⟩
      refine Lp.intro I μ ⟨(hIx _).2 ⟨D, cs1, Nat.le_refl _, hfd, hb1, ⟨s1, g10, g11, g66⟩, fun _ _ => rfl, fun l h1 h2 => by omega⟩, ?_⟩
      intro wl hIl
      obtain ⟨D', cs', hD', hfl, hbl, ⟨k1, k2, k3, k4⟩, hk5, hk6⟩ := (hIx _).1 hIl
      have fin : (D' = 0 ∨ slot (D - D') ((o + k : Nat) : Int) ≠ 0) → Calls Try.prog 60 #[.pointer (some ⟨bi, 0, none⟩), .int .i64 ((k : Int) - 1)] wl.drew (ret (fun v75 w => K (.tuple #[.int .i64 k, .int .i64 xs[k]]) w) Kp) := fun hc => by
        have hquo : (o + k) / 32 ^ (D - D' + 1) = (o + (k - 1)) / 32 ^ (D - D' + 1) := by
          rcases hc with h0 | hs
          · subst h0
            have := h5.2.1
            rw [Nat.sub_zero, Nat.div_eq_of_lt (by omega), Nat.div_eq_of_lt (by omega)]
          · have e1 : o + (k - 1) + 1 = o + k := by omega
            refine (e1 ▸ prev_quot (q := o + (k - 1)) (e := D - D') (fun s hs => ?_) (by rw [e1, ← slot_nat]; exact hs)).symm
            rw [e1]
            have := hk6 (D - s) (by omega) (by omega)
            rw [slot_nat] at this
            rwa [show D - (D - s) = s from by omega] at this
        have hfl' : Frm (· = bi) w wl.drew := hfl.trans (Frm.drew (M := fun _ => False) _) fun _ h _ => h.elim
        rw [ek1]
        refine move_ok (m := m) (b := b) (o := o) (rv := rv) (n := xs.length) (d := D) (q := k) (q' := k - 1) (D := D') (cs := cs') (i := ((k : Int) - 1)) (x := xs[k - 1]) (g := win o xs) (F := Ft) (hfl'.get h1 (fun e => hne e)) hbl hne (fun hb => hnF _ hb rfl) hsm.2 (win_get hlt) (by omega) ⟨k1, k2, k3, k4⟩ hD'
          (fun l hl => ?_) (fun l hl => ?_) hquo fun w' cs'' hf' hb' hI' hS' hX' => ?_
        · obtain ⟨nv, e1, e2⟩ := hS l (by omega)
          exact ⟨nv, by rw [hk5 _ (by omega), g1 _ (by omega)]; exact e1, e2.frame hfl' hnF⟩
        · rw [hk5 _ (by omega), g1 _ (by omega)]; exact hX l (by omega)
        · have hf2 := hfl'.trans hf' fun _ h _ => h
          exact hK2 k hk rfl _ hf2 ⟨rv, D, o, Ft, cs'', D, hf2.get h1 (fun e => hne e), h2.frame hf2 hnF, h3, h4, h5, hb', hI', fun _ _ => ⟨rfl, by rw [ek1]; simpa using hS', by rw [ek1]; simpa using hX'⟩⟩
      have hxd : cs'[2 + D' * 2 + 1]? = some (.int .i64 (slot (D - D') ((o + k : Nat) : Int))) := by rw [hk5 _ (by omega), g1 _ (by omega)]; exact hX D' (by omega)
      have hsl2 := slot_lt (D - D') ((o + k : Nat) : Int)
      have hu3 := fun o => heap_upd_same (w := wl.drew) (o := o) hbl
      simp [-getElem?_pos, -Array.getElem?_eq_getElem, List.getElem?_cons_zero, -Int.natCast_add, add_spot, hbl, k1, k3, k4, hxd, Br_dec, and_assoc]
      refine ⟨fun hp => ⟨by omega, fun h31 => ?_, fun h31 => fin (.inr (by omega))⟩, fun h0 => fin (.inl h0)⟩
      have hwD : IntKind.i64.wrap ((D' : Int) - 1) = ((D' - 1 : Nat) : Int) := by rw [wrap_small _ rfl (by omega) (by omega)]; omega
      rw [hwD]
      have h663 : (cs'.setIfInBounds 66 (.int .i64 ((D' - 1 : Nat) : Int)))[66]? = some (.int .i64 ((D' - 1 : Nat) : Int)) := by rw [Array.getElem?_setIfInBounds_self_of_lt (by omega)]
      refine ⟨(hIx _).2 ⟨D' - 1, _, by omega, (hfl.trans (Frm.drew (M := fun _ => False) _) fun _ h _ => h.elim).trans (Frm.upd (M := (· = bi)) _ _ fun _ => rfl) fun _ h _ => h, hu3 _, ⟨by simpa using k1, ?_, ?_, h663⟩, fun j hj => ?_, fun l hl1 hl2 => ?_⟩, ?_⟩
      · rw [Array.getElem?_setIfInBounds_ne (by omega)]; exact k2
      · rw [Array.getElem?_setIfInBounds_ne (by omega)]; exact k3
      · rw [Array.getElem?_setIfInBounds_ne (by omega)]; exact hk5 j hj
      · by_cases e : l = D'
        · subst e; omega
        · exact hk6 l (by omega) hl2
      · rw [hμ _ _ (D' - 1) (hu3 _) h663, hμ _ cs' D' hbl k4]; omega
end Go.Proofs.Ytjlaclgikmmmlaa
