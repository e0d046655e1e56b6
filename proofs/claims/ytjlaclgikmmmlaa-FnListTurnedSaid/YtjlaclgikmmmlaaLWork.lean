/- The state of the work on a list. -/
import Derived.Test.YtjlaclgikmmmlaaLList
set_option maxRecDepth 100000
set_option linter.unusedSimpArgs false
set_option linter.unusedVariables false
namespace Go.Proofs.Ytjlaclgikmmmlaa
open Go.Vc Go.Proofs
variable {m : Bool} {w w' w0 : World} {d : Nat} {v rv : Value} {g g' : Int → Option Int} {F F' : Nat → Prop} {K : Value → World → Prop} {Kp : KP}

/-- Behind the start at w0, with a list whose blocks were F: the list that is worked on stands at bo. -/
def Work (m : Bool) (w0 : World) (F : Nat → Prop) (bo : Nat) (w : World) (rv : Value) (d o n : Nat) (g : Int → Option Int) (Ft : Nat → Prop) : Prop :=
  Frm (fun k => m = true ∧ F k) w0 w ∧ w.heap[bo]? = some (head rv o n) ∧ (m = true ∧ F bo ∨ w0.heap.size ≤ bo) ∧
    Rep m w d rv g Ft ∧ ∀ k, Ft k → (F k ∨ w0.heap.size ≤ k) ∧ k ≠ bo ∧ k < w.heap.size

variable {bo o n : Nat} {Ft : Nat → Prop}
theorem Work.drew (h : Work m w0 F bo w rv d o n g Ft) : Work m w0 F bo w.drew rv d o n g Ft := by
  obtain ⟨h1, h2, h3, h4, h5⟩ := h
  exact ⟨h1.trans (Frm.drew (M := fun _ => False) w) fun _ h _ => h.elim, h2, h3, h4.frame (Frm.drew (M := fun _ => False) w) (by simp), h5⟩
/-- Its head is written anew. -/
theorem Work.head (h : Work m w0 F bo w rv d o n g Ft) (o' n' : Nat) : Work m w0 F bo (w.upd bo (head rv o' n')) rv d o' n' g Ft := by
  obtain ⟨h1, h2, h3, h4, h5⟩ := h
  refine ⟨h1.trans (Frm.upd (M := fun b => b = bo) _ _ fun _ => rfl) fun b h hb => ?_, heap_upd_same h2, h3, h4.mono (fun _ _ _ _ e => e) fun b ob hb ho => ?_, fun k hk => ⟨(h5 k hk).1, (h5 k hk).2.1, by simpa using (h5 k hk).2.2⟩⟩
  · subst h; rcases h3 with h | h
    · exact h
    · omega
  · rw [heap_upd_ne (show bo ≠ b from fun e => (h5 b hb).2.1 e.symm)]; exact ho
theorem Work.told (h : Work m w0 F bo w rv d o n g Ft) (hg : ∀ p y, 0 ≤ p → p < 32 ^ (d + 1) → g' p = some y → g p = some y) : Work m w0 F bo w rv d o n g' Ft := by
  obtain ⟨h1, h2, h3, h4, h5⟩ := h
  exact ⟨h1, h2, h3, h4.mono hg fun _ _ _ e => e, h5⟩
/-- A method of its root has made a new root. -/
theorem Work.call {v' : Value} (h : Work m w0 F bo w rv d o n g Ft) (hf : Frm (fun b => m = true ∧ Ft b) w w') (hr : Rep m w' d v' g' F') (hF : ∀ b, F' b → Ft b ∨ w.heap.size ≤ b) :
    w'.heap[bo]? = some (Ytjlaclgikmmmlaa.head rv o n) ∧ v'.oneCell' = true ∧ Work m w0 F bo (w'.upd bo (Ytjlaclgikmmmlaa.head v' o n)) v' d o n g' (fun b => F' b ∧ b < w'.heap.size) := by
  obtain ⟨h1, h2, h3, h4, h5⟩ := h
  have hlt := lt_of_get h2
  have h2' := hf.get h2 (fun e => (h5 _ e.2).2.1 rfl)
  have hne : ∀ b, F' b → b ≠ bo := fun b hb e => by
    rcases hF b hb with h | h
    · exact (h5 b h).2.1 e
    · omega
  refine ⟨h2', hr.one, (h1.trans hf fun b h hb => ⟨h.1, (h5 b h.2).1.elim id fun h => by omega⟩).trans (Frm.upd (M := fun b => b = bo) _ _ fun _ => rfl) fun b h hb => ?_, heap_upd_same h2', h3, hr.lt.mono (fun _ _ _ _ e => e) fun b ob hb ho => ?_, fun k hk => ⟨?_, hne k hk.1, by simpa using hk.2⟩⟩
  · subst h; rcases h3 with h | h
    · exact h
    · omega
  · rw [heap_upd_ne (show bo ≠ b from fun e => hne b hb.1 e.symm)]; exact ho
  · rcases hF k hk.1 with h | h
    · exact (h5 k h).1
    · exact .inr (Nat.le_trans h1.size h)
/-- A node with the root as its only child becomes the root. -/
theorem Work.grow {i : Nat} {cs : Array Value} {vs : Nat → Value} (h : Work m w0 F bo w rv d o n g Ft) (hi : i < 32) (hn : Node (d + 1) cs vs) (hv : vs i = rv) (hvn : ∀ k, k < 32 → k ≠ i → vs k = .nilIface)
    (hg : ∀ p y, 0 ≤ p → p < 32 ^ (d + 1) → sub (d + 1) i g' p = some y → g p = some y) (hgn : ∀ k, k < 32 → k ≠ i → ∀ p, 0 ≤ p → p < 32 ^ (d + 1) → sub (d + 1) k g' p = none) :
    Work m w0 F bo ((w.alloc (.cells cs 118 (0, 0))).upd bo (Ytjlaclgikmmmlaa.head (.iface 115 (ptr w.heap.size)) o n)) (.iface 115 (ptr w.heap.size)) (d + 1) o n g' (fun b => Ft b ∨ b = w.heap.size) := by
  obtain ⟨h1, h2, h3, h4, h5⟩ := h
  have hlt := lt_of_get h2
  have hfa : ∀ {M}, Frm M w (w.alloc (.cells cs 118 (0, 0))) := Frm.alloc _ _
  have h2' := hfa.get (M := fun _ => False) h2 (by simp)
  have hnb : (w.alloc (.cells cs 118 (0, 0))).heap[w.heap.size]? = some (.cells cs 118 (0, 0)) := hp_alloc_eq rfl
  refine ⟨(h1.trans (hfa (M := fun _ => False)) fun _ h _ => h.elim).trans (Frm.upd (M := fun b => b = bo) _ _ fun _ => rfl) fun b h hb => ?_, heap_upd_same h2', h3,
    ⟨w.heap.size, cs, vs, fun k b => k = i ∧ Ft b, rfl, .inr rfl, by rw [heap_upd_ne (by omega)]; exact hnb, hn, fun k hk => ?_, fun k hk b hb => ⟨.inl hb.2, fun hm => ⟨?_, fun k' hk' hne hb' => hne (hb'.1.trans hb.1.symm)⟩⟩⟩, fun k hk => ?_⟩
  · subst h; rcases h3 with h | h
    · exact h
    · omega
  · by_cases e : k = i
    · subst e
      rw [hv]
      refine .inr ((h4.mono (w' := (w.alloc (.cells cs 118 (0, 0))).upd bo (Ytjlaclgikmmmlaa.head (.iface 115 (ptr w.heap.size)) o n)) hg fun b ob hb ho => ?_).size_of fun b hb => ⟨rfl, hb⟩)
      rw [heap_upd_ne (show bo ≠ b from fun e => (h5 b hb).2.1 e.symm)]
      exact hfa.get (M := fun _ => False) ho (by simp)
    · exact .inl ⟨hvn k hk e, hgn k hk e⟩
  · have := (h5 b hb.2).2.2; omega
  · rcases hk with hk | rfl
    · exact ⟨(h5 k hk).1, (h5 k hk).2.1, by have := (h5 k hk).2.2; simp; omega⟩
    · exact ⟨.inr h1.size, by omega, by simp⟩
/-- What the work began with. -/
theorem IsList.work_same {b : Nat} {xs : List Int} {N : Nat} (h : IsList true w b xs N F) : ∃ rv d o Ft, Dp d o xs.length N ∧ Work true w F b w rv d o xs.length (win o xs) Ft := by
  obtain ⟨rv, d, o, Ft, h1, h2, h3, h4, h5⟩ := h
  exact ⟨rv, d, o, _, h5, Frm.refl, h1, .inl ⟨rfl, h3⟩, h2.lt, fun k hk => ⟨.inl (h4 k hk.1).1, (h4 k hk.1).2 rfl, hk.2⟩⟩
theorem IsList.work_new {b : Nat} {xs : List Int} {N : Nat} (h : IsList false w b xs N F) : ∃ rv d o Ft, Dp d o xs.length N ∧ w.heap[b]? = some (Ytjlaclgikmmmlaa.head rv o xs.length) ∧ Rep false w d rv (win o xs) Ft ∧
    Work false w F w.heap.size (w.alloc (Ytjlaclgikmmmlaa.head rv o xs.length)) rv d o xs.length (win o xs) Ft := by
  obtain ⟨rv, d, o, Ft, h1, h2, h3, h4, h5⟩ := h
  exact ⟨rv, d, o, _, h5, h1, h2.lt, Frm.alloc _ _, hp_alloc_eq rfl, .inr (Nat.le_refl _), h2.lt.frame (Frm.alloc (M := fun _ => False) _ _) (by simp), fun k hk => ⟨.inl (h4 k hk.1).1, by have := hk.2; omega, by have := hk.2; simp; omega⟩⟩
/-- The list at its end. -/
theorem Work.list {xs : List Int} {N : Nat} (h : Work m w0 F bo w rv d o xs.length (win o xs) Ft) (hd : Dp d o xs.length N) :
    Frm (fun k => m = true ∧ F k) w0 w ∧ IsList m w bo xs N (fun b => b = bo ∨ Ft b) ∧ ∀ k, (k = bo ∨ Ft k) → F k ∨ w0.heap.size ≤ k := by
  obtain ⟨h1, h2, h3, h4, h5⟩ := h
  refine ⟨h1, ⟨rv, d, o, Ft, h2, h4, .inl rfl, fun k hk => ⟨.inr hk, fun _ => (h5 k hk).2.1⟩, hd⟩, fun k hk => ?_⟩
  rcases hk with rfl | hk
  · exact h3.imp (fun h => h.2) id
  · exact (h5 k hk).1

/-! ### contents -/
theorem win_none {o : Nat} {xs : List Int} {p : Int} (h : p < o ∨ ((o + xs.length : Nat) : Int) ≤ p) : win o xs p = none := by
  unfold win
  by_cases hp : (o : Int) ≤ p
  · rw [if_pos hp]; simp; omega
  · rw [if_neg hp]
theorem win_app {o : Nat} {xs : List Int} {x p : Int} : win o (xs ++ [x]) p = put (win o xs) ((o + xs.length : Nat) : Int) x p := by
  unfold win Ytjlaclgikmmmlaa.put
  dsimp only
  by_cases hp : (o : Int) ≤ p
  · rw [if_pos hp, if_pos hp, List.getElem?_append]
    by_cases h : p = ((o + xs.length : Nat) : Int)
    · rw [if_pos h, if_neg (by omega), show (p - o).toNat - xs.length = 0 from by omega]; rfl
    · rw [if_neg h]
      by_cases h2 : (p - o).toNat < xs.length
      · rw [if_pos h2]
      · rw [if_neg h2, List.getElem?_eq_none (by simp; omega), List.getElem?_eq_none (by omega)]
  · rw [if_neg hp, if_neg (by omega), if_neg hp]
theorem win_cons {o : Nat} {xs : List Int} {x p : Int} : win o (x :: xs) p = put (win (o + 1) xs) (o : Int) x p := by
  unfold win Ytjlaclgikmmmlaa.put
  dsimp only
  by_cases h : p = (o : Int)
  · subst h; simp
  · rw [if_neg h]
    by_cases hp : ((o + 1 : Nat) : Int) ≤ p
    · rw [if_pos hp, if_pos (by omega), show (p - (o : Int)).toNat = (p - ((o + 1 : Nat) : Int)).toNat + 1 from by omega]; rfl
    · rw [if_neg hp, if_neg (by omega)]
theorem win_set {o k : Nat} {xs : List Int} {x p : Int} (hk : k < xs.length) : win o (xs.set k x) p = put (win o xs) ((o + k : Nat) : Int) x p := by
  unfold win Ytjlaclgikmmmlaa.put
  dsimp only
  by_cases hp : (o : Int) ≤ p
  · rw [if_pos hp, if_pos hp, List.getElem?_set]
    by_cases h : p = ((o + k : Nat) : Int)
    · rw [if_pos h, if_pos (by omega), if_pos hk]
    · rw [if_neg h, if_neg (by omega)]
  · rw [if_neg hp, if_neg (by omega), if_neg hp]
end Go.Proofs.Ytjlaclgikmmmlaa
