/- Iterators of lists: Done, Seek, First, Last, Next, Prev. -/
import Derived.Test.YtjlaclgikmmmlaaLIter
set_option maxRecDepth 100000
set_option linter.unusedSimpArgs false
set_option linter.unusedVariables false
set_option maxHeartbeats 8000000
namespace Go.Proofs.Ytjlaclgikmmmlaa
open Go.Vc Go.Proofs
variable {m : Bool} {w w' w0 : World} {F F' G : Nat → Prop} {K : Value → World → Prop} {Kp : KP}

/-! ### reckoning -/
theorem quot_up {a b e t : Nat} (h : a / 32 ^ e = b / 32 ^ e) (ht : e ≤ t) : a / 32 ^ t = b / 32 ^ t := by
  have : 32 ^ t = 32 ^ e * 32 ^ (t - e) := by rw [← Nat.pow_add]; congr 1; omega
  rw [this, ← Nat.div_div_eq_div_mul, ← Nat.div_div_eq_div_mul, h]
theorem low31 {p : Nat} : ∀ {e : Nat}, (∀ s, s < e → p / 32 ^ s % 32 = 31) → p % 32 ^ e = 32 ^ e - 1
  | 0, _ => by simp; omega
  | e + 1, h => by
    have := low31 (e := e) fun s hs => h s (by omega)
    have hp : 0 < 32 ^ e := Nat.pow_pos (by decide)
    rw [Nat.mod_pow_succ, this, h e (by omega), Nat.pow_succ]; omega
theorem low0 {p : Nat} : ∀ {e : Nat}, (∀ s, s < e → p / 32 ^ s % 32 = 0) → p % 32 ^ e = 0
  | 0, _ => by simp; omega
  | e + 1, h => by
    have := low0 (e := e) fun s hs => h s (by omega)
    rw [Nat.mod_pow_succ, this, h e (by omega)]; simp
theorem next_quot {p e : Nat} (h : ∀ s, s < e → p / 32 ^ s % 32 = 31) (hs : p / 32 ^ e % 32 < 31) : (p + 1) / 32 ^ (e + 1) = p / 32 ^ (e + 1) := by
  have h1 := low31 h
  have hp : 0 < 32 ^ e := Nat.pow_pos (by decide)
  have h2 := Nat.div_add_mod p (32 ^ e)
  rw [h1] at h2
  have h3 : (p + 1) / 32 ^ e = p / 32 ^ e + 1 := by
    have : p + 1 = 32 ^ e * (p / 32 ^ e + 1) := by rw [Nat.mul_add]; omega
    rw [this, Nat.mul_div_cancel_left _ hp]
  rw [Nat.pow_succ, ← Nat.div_div_eq_div_mul, ← Nat.div_div_eq_div_mul, h3]; omega
theorem prev_quot {q e : Nat} (h : ∀ s, s < e → (q + 1) / 32 ^ s % 32 = 0) (hs : (q + 1) / 32 ^ e % 32 ≠ 0) : q / 32 ^ (e + 1) = (q + 1) / 32 ^ (e + 1) := by
  have h1 := low0 h
  have hp : 0 < 32 ^ e := Nat.pow_pos (by decide)
  have h2 := Nat.div_add_mod (q + 1) (32 ^ e)
  rw [h1] at h2
  generalize hQ : (q + 1) / 32 ^ e = Q at *
  have hQ0 : 0 < Q := by omega
  have h3 : q / 32 ^ e = Q - 1 := by
    have e1 : q = 32 ^ e * (Q - 1) + (32 ^ e - 1) := by
      have : 32 ^ e * Q = 32 ^ e * (Q - 1) + 32 ^ e := by rw [← Nat.mul_succ]; congr 1; omega
      omega
    rw [e1, Nat.mul_add_div hp, Nat.div_eq_of_lt (by omega)]; omega
  rw [Nat.pow_succ, ← Nat.div_div_eq_div_mul, ← Nat.div_div_eq_div_mul, hQ, h3]; omega

/-! ### the state of an iterator -/
/-- An iterator of a list that stands at i. -/
def It (m : Bool) (w : World) (bi b : Nat) (xs : List Int) (N : Nat) (F : Nat → Prop) (i : Int) : Prop :=
  ∃ rv d o Ft cs D, w.heap[b]? = some (head rv o xs.length) ∧ Rep m w d rv (win o xs) Ft ∧ F b ∧ (∀ k, Ft k → F k) ∧ Dp d o xs.length N ∧ w.heap[bi]? = some (.cells cs 98 (0, 0)) ∧ ICells cs b i D ∧
    (0 ≤ i → i < xs.length → D = d ∧ Stk m w cs d (o + i.toNat) (win o xs) Ft d ∧ Ixs cs d (o + i.toNat) (d + 1))
/-- .. wherever it stands, whatever its stack holds. -/
def It0 (m : Bool) (w : World) (bi b : Nat) (xs : List Int) (N : Nat) (F : Nat → Prop) (i : Int) : Prop :=
  ∃ rv d o Ft cs D, w.heap[b]? = some (head rv o xs.length) ∧ Rep m w d rv (win o xs) Ft ∧ F b ∧ (∀ k, Ft k → F k) ∧ Dp d o xs.length N ∧ w.heap[bi]? = some (.cells cs 98 (0, 0)) ∧ ICells cs b i D
theorem It.bare {bi b N : Nat} {xs : List Int} {i : Int} (h : It m w bi b xs N F i) : It0 m w bi b xs N F i := by
  obtain ⟨rv, d, o, Ft, cs, D, h1, h2, h3, h4, h5, h6, h7, h8⟩ := h
  exact ⟨rv, d, o, Ft, cs, D, h1, h2, h3, h4, h5, h6, h7⟩
theorem It0.none {bi b N : Nat} {i : Int} (h : It0 m w bi b [] N F i) : It m w bi b [] N F i := by
  obtain ⟨rv, d, o, Ft, cs, D, h1, h2, h3, h4, h5, h6, h7⟩ := h
  exact ⟨rv, d, o, Ft, cs, D, h1, h2, h3, h4, h5, h6, h7, fun a b => by simp at b; omega⟩
def isDone (xs : List Int) (i : Int) : Bool := decide (i < 0 ∨ (xs.length : Int) ≤ i)
theorem It.frame {M : Nat → Prop} {bi b N : Nat} {xs : List Int} {i : Int} (h : It m w bi b xs N F i) (hf : Frm M w w') (hM : ∀ b, F b → ¬ M b) (hb : ¬ M bi) : It m w' bi b xs N F i := by
  obtain ⟨rv, d, o, Ft, cs, D, h1, h2, h3, h4, h5, h6, h7, h8⟩ := h
  exact ⟨rv, d, o, Ft, cs, D, hf.get h1 (hM _ h3), h2.frame hf fun k hk => hM _ (h4 k hk), h3, h4, h5, hf.get h6 hb, h7, fun a b => ⟨(h8 a b).1, (h8 a b).2.1.frame hf fun k hk => hM _ (h4 k hk), (h8 a b).2.2⟩⟩

theorem len_of {b o n : Nat} {rv : Value} (h1 : w.heap[b]? = some (head rv o n)) (hK : K (.int .i64 n) w) : Calls Try.prog 57 #[ptr b] w (ret K Kp) :=
  vc57_calls (by simpa [vc57, ptr, add_spot, h1, head] using hK)
theorem done_of {bi b o : Nat} {rv : Value} {cs : Array Value} {xs : List Int} {i : Int} (h1 : w.heap[b]? = some (head rv o xs.length)) (h6 : w.heap[bi]? = some (.cells cs 98 (0, 0))) (i2 : cs[0]? = some (ptr b)) (i3 : cs[1]? = some (.int .i64 i))
    (hK : K (.bool (isDone xs i)) w.drew) : Calls Try.prog 28 #[ptr bi] w (ret K Kp) := by
  refine vc28_calls ?_
  simp [-getElem?_pos, -Array.getElem?_eq_getElem, List.getElem?_cons_zero, vc28, ptr, add_spot, h6, i3, i2, Br_dec]
  refine ⟨fun hl => ?_, fun hl => ?_⟩
  · have e : isDone xs i = true := by simp [isDone, hl]
    rw [e] at hK; exact hK
  · refine len_of (w := w.drew) (b := b) (o := o) (rv := rv) (n := xs.length) h1 ?_
    simp [-getElem?_pos, -Array.getElem?_eq_getElem, List.getElem?_cons_zero, h6, i3]
    have e : isDone xs i = decide ((xs.length : Int) ≤ i) := by unfold isDone; exact decide_eq_decide.2 (by omega)
    rw [e] at hK; exact hK
theorem done_ok {bi b N : Nat} {xs : List Int} {i : Int} (h : It m w bi b xs N F i) (hK : K (.bool (isDone xs i)) w.drew) : Calls Try.prog 28 #[ptr bi] w (ret K Kp) := by
  obtain ⟨rv, d, o, Ft, cs, D, h1, h2, h3, h4, h5, h6, ⟨i1, i2, i3, i4⟩, h8⟩ := h
  exact done_of h1 h6 i2 i3 hK

theorem win_get {o k : Nat} {xs : List Int} (hk : k < xs.length) : win o xs ((o + k : Nat) : Int) = some xs[k] := by
  unfold win
  rw [if_pos (by omega), show (((o + k : Nat) : Int) - o).toNat = k from by omega, List.getElem?_eq_getElem hk]

theorem Seek_ok {bi b N k : Nat} {xs : List Int} {i : Int} (h : It0 m w bi b xs N F i) (hF : ¬ F bi) (hN : N < 2 ^ 19) (hk : k < xs.length)
    (hK : ∀ w', Frm (· = bi) w w' → It m w' bi b xs N F k → K (.tuple #[]) w') : Calls Try.prog 35 #[ptr bi, .int .i64 k] w (ret K Kp) := by
  obtain ⟨rv, d, o, Ft, cs, D, h1, h2, h3, h4, h5, h6, ⟨i1, i2, i3, i4⟩⟩ := h
  refine vc35_calls ?_
  have hsm := h5.small (by omega)
  have hne : b ≠ bi := fun e => hF (e ▸ h3)
  have hu := fun o => heap_upd_same (w := w) (o := o) h6
  obtain ⟨tr, pr, rfl⟩ := h2.iface
  simp only [head] at h1
  have hkn : ¬ (k : Int) < 0 := by omega
  have hkx : ¬ (xs.length : Int) ≤ k := by omega
  simp [-getElem?_pos, -Array.getElem?_eq_getElem, List.getElem?_cons_zero, vc35, ptr, add_spot, h6, i2, i3, Br_dec, hkn]
  refine len_of (w := w) (b := b) (o := o) (rv := .iface tr pr) (n := xs.length) h1 ?_
  have hub : ∀ o, (w.upd bi o).heap[b]? = w.heap[b]? := fun o => heap_upd_ne (Ne.symm hne)
  obtain ⟨cs1, hcs1⟩ : ∃ cs1, cs1 = cs.setIfInBounds 1 (.int .i64 (k : Int)) := ⟨_, rfl⟩
  have s1 : cs1.size = 67 := by rw [hcs1]; simpa using i1
  have g1 : ∀ j, j ≠ 1 → cs1[j]? = cs[j]? := fun j hj => by rw [hcs1, Array.getElem?_setIfInBounds_ne (by omega)]
  have g11 : cs1[1]? = some (.int .i64 k) := by rw [hcs1, Array.getElem?_setIfInBounds_self_of_lt (by omega)]
  have g10 : cs1[0]? = some (ptr b) := by rw [g1 _ (by omega)]; exact i2
  have hu2 := fun o => heap_upd_same (w := w.drew) (o := o) h6
  have hud := fun o o' => heap_upd_same (w := w.drew.upd bi o) (o := o') (hu2 o)
  have hub2 : ∀ o, (w.drew.upd bi o).heap[b]? = w.heap[b]? := fun o => heap_upd_ne (w := w.drew) (Ne.symm hne)
  simp only [ptr] at g10 i2
  simp [-getElem?_pos, -Array.getElem?_eq_getElem, List.getElem?_cons_zero, add_spot, h6, Br_dec, hkx, and_assoc, hu, ← hcs1, g10, i2, hub, hub2, hu2, h1, upd_upd, hud, s1, i1]
  obtain ⟨cs2, hcs2⟩ : ∃ cs2, cs2 = ow cs1 2 [.iface tr pr, .int .i64 0] := ⟨_, rfl⟩
  have s2 : cs2.size = 67 := by rw [hcs2, size_ow]; exact s1
  have g2 : ∀ j, cs2[j]? = if 2 ≤ j ∧ j < 4 then [Value.iface tr pr, .int .i64 0][j - 2]? else cs1[j]? := fun j => by
    rw [hcs2, getElem?_ow _ _ _ (by simp; omega)]; rfl
  simp [-getElem?_pos, -Array.getElem?_eq_getElem, List.getElem?_cons_zero, ← hcs2, s2]
  obtain ⟨cs3, hcs3⟩ : ∃ cs3, cs3 = cs2.setIfInBounds 66 (.int .i64 0) := ⟨_, rfl⟩
  have g3 : ∀ j, j ≠ 66 → cs3[j]? = cs2[j]? := fun j hj => by rw [hcs3, Array.getElem?_setIfInBounds_ne (by omega)]
  rw [← hcs3]
  have hnF : ∀ k, Ft k → ¬ k = bi := fun k hk e => hF (e ▸ h4 k hk)
  have hf1 : Frm (· = bi) w (w.drew.upd bi (.cells cs3 98 (0, 0))) :=
    (Frm.drew (M := (· = bi)) _).trans (Frm.upd (M := (· = bi)) _ _ fun _ => rfl) fun _ h _ => h
  have hsm2 : o + k < 32 ^ (d + 1) := by have := h5.2.1; omega
  refine seek_ok (m := m) (b := b) (o := o) (rv := .iface tr pr) (n := xs.length) (d := d) (k := k) (D := 0) (cs := cs3) (i := k) (x := xs[k]) (g := win o xs) (F := Ft) ?_ (hu2 _) hne (fun hb => hnF _ hb rfl) hsm.2 (win_get hk) (by omega)
    ⟨by rw [hcs3]; simpa using s2, by rw [g3 _ (by omega), g2, if_neg (by omega)]; exact g10, by rw [g3 _ (by omega), g2, if_neg (by omega)]; exact g11, by rw [hcs3, Array.getElem?_setIfInBounds_self_of_lt (by omega)]; rfl⟩ (by omega) (fun l hl => ?_) (fun l hl => by omega) fun w' cs' hf' hb' hI' hS' hX' => ?_
  · rw [hf1.block b (lt_of_get h1) hne]; exact h1
  · obtain rfl : l = 0 := by omega
    refine ⟨.iface tr pr, by rw [g3 _ (by omega), g2, if_pos (by omega)]; rfl, ?_⟩
    rw [Nat.sub_zero, at_top hsm2]
    exact h2.frame hf1 hnF
  · have hf2 := hf1.trans hf' fun _ h _ => h
    exact hK w' hf2 ⟨.iface tr pr, d, o, Ft, cs', d, by rw [hf2.block b (lt_of_get h1) hne]; exact h1, h2.frame hf2 hnF, h3, h4, h5, hb', hI', fun _ _ => ⟨rfl, by simpa using hS', by simpa using hX'⟩⟩

theorem Seek_out {bi b N : Nat} {xs : List Int} {i k : Int} (h : It0 m w bi b xs N F i) (hk : k < 0 ∨ (xs.length : Int) ≤ k) (hK : ∀ str, Kp (panB str) w) : Calls Try.prog 35 #[ptr bi, .int .i64 k] w (ret K Kp) := by
  obtain ⟨rv, d, o, Ft, cs, D, h1, h2, h3, h4, h5, h6, ⟨i1, i2, i3, i4⟩⟩ := h
  refine vc35_calls ?_
  simp [-getElem?_pos, -Array.getElem?_eq_getElem, List.getElem?_cons_zero, vc35, ptr, add_spot, h6, i2, i3, Br_dec]
  refine ⟨fun _ => hK _, fun h0 => ?_⟩
  refine len_of (w := w) (b := b) (o := o) (rv := rv) (n := xs.length) h1 ?_
  simp [-getElem?_pos, -Array.getElem?_eq_getElem, List.getElem?_cons_zero, Br_dec]
  exact ⟨fun _ => hK _, fun h => by omega⟩

theorem First_ok {bi b N : Nat} {xs : List Int} {i : Int} (h : It0 m w bi b xs N F i) (hF : ¬ F bi) (hN : N < 2 ^ 19)
    (hK : ∀ w', Frm (· = bi) w w' → It m w' bi b xs N F (if xs = [] then i else 0) → K (.tuple #[]) w') : Calls Try.prog 33 #[ptr bi] w (ret K Kp) := by
  have h' := h
  obtain ⟨rv, d, o, Ft, cs, D, h1, h2, h3, h4, h5, h6, ⟨i1, i2, i3, i4⟩⟩ := h
  refine vc33_calls ?_
  simp [-getElem?_pos, -Array.getElem?_eq_getElem, List.getElem?_cons_zero, vc33, ptr, add_spot, h6, i2, i3, Br_dec]
  refine len_of (w := w) (b := b) (o := o) (rv := rv) (n := xs.length) h1 ?_
  simp [-getElem?_pos, -Array.getElem?_eq_getElem, List.getElem?_cons_zero, Br_dec]
  refine ⟨fun e => ?_, fun e => ?_⟩
  · have hk : 0 < xs.length := List.length_pos_iff.2 e
    refine Seek_ok (k := 0) h' hF hN hk fun w' hf hi => ?_
    rw [if_neg e] at hK
    exact hK w' hf hi
  · rw [if_pos e] at hK
    subst e
    exact hK w Frm.refl h'.none
theorem Last_ok {bi b N : Nat} {xs : List Int} {i : Int} (h : It0 m w bi b xs N F i) (hF : ¬ F bi) (hN : N < 2 ^ 19)
    (hK : ∀ w', Frm (· = bi) w w' → It m w' bi b xs N F (if xs = [] then i else (xs.length : Int) - 1) → K (.tuple #[]) w') : Calls Try.prog 34 #[ptr bi] w (ret K Kp) := by
  have h' := h
  obtain ⟨rv, d, o, Ft, cs, D, h1, h2, h3, h4, h5, h6, ⟨i1, i2, i3, i4⟩⟩ := h
  have hsm := h5.small (by omega)
  refine vc34_calls ?_
  simp [-getElem?_pos, -Array.getElem?_eq_getElem, List.getElem?_cons_zero, vc34, ptr, add_spot, h6, i2, i3, Br_dec]
  refine len_of (w := w) (b := b) (o := o) (rv := rv) (n := xs.length) h1 ?_
  simp [-getElem?_pos, -Array.getElem?_eq_getElem, List.getElem?_cons_zero, Br_dec]
  refine ⟨fun e => ?_, fun e => ?_⟩
  · have hk : 0 < xs.length := List.length_pos_iff.2 e
    have e1 : IntKind.i64.wrap ((xs.length : Int) - 1) = ((xs.length - 1 : Nat) : Int) := by rw [wrap_small _ rfl (by omega) (by omega)]; omega
    rw [e1]
    refine Seek_ok (k := xs.length - 1) h' hF hN (by omega) fun w' hf hi => ?_
    rw [if_neg e] at hK
    have e2 : ((xs.length - 1 : Nat) : Int) = (xs.length : Int) - 1 := by omega
    rw [e2] at hi
    exact hK w' hf hi
  · rw [if_pos e] at hK
    subst e
    exact hK w Frm.refl h'.none
end Go.Proofs.Ytjlaclgikmmmlaa
