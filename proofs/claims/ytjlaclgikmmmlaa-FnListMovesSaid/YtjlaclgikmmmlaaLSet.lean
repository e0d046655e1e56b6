/- Setting an element of a node. -/
import Derived.Test.YtjlaclgikmmmlaaLCont
set_option maxRecDepth 100000
set_option linter.unusedSimpArgs false
set_option linter.unusedVariables false
namespace Go.Proofs.Ytjlaclgikmmmlaa
open Go.Vc Go.Proofs
variable {m : Bool} {w w' : World} {d : Nat} {v : Value} {g g' : Int → Option Int} {F F' : Nat → Prop} {K : Value → World → Prop} {Kp : KP} {i x : Int}

theorem Leaf.one {cs : Array Value} (h : Leaf cs g) : ∀ u ∈ cs, u.oneCell' = true := fun u hu => by
  obtain ⟨h1, ⟨o, h2, h3⟩, h4⟩ := h
  obtain ⟨j, hj, rfl⟩ := Array.mem_iff_getElem.1 hu
  by_cases h : j < 32
  · obtain ⟨y, hy, _⟩ := h4 j h
    rw [Array.getElem?_eq_getElem hj] at hy
    rw [Option.some.inj hy]; rfl
  · have : j = 32 := by omega
    subst this
    rw [Array.getElem?_eq_getElem hj] at h2
    rw [Option.some.inj h2]; rfl
theorem Node.one {cs : Array Value} {vs : Nat → Value} (h : Node d cs vs) (hv : ∀ i, i < 32 → (vs i).oneCell' = true) : ∀ u ∈ cs, u.oneCell' = true := fun u hu => by
  obtain ⟨h1, h2, h4⟩ := h
  obtain ⟨j, hj, rfl⟩ := Array.mem_iff_getElem.1 hu
  cases j with
  | zero =>
    rw [Array.getElem?_eq_getElem hj] at h2
    rw [Option.some.inj h2]; rfl
  | succ j =>
    have := h4 j (by omega)
    rw [Array.getElem?_eq_getElem hj] at this
    rw [Option.some.inj this]; exact hv j (by omega)
theorem Rep.one (h : Rep m w d v g F) : v.oneCell' = true := by
  obtain ⟨t, p, rfl⟩ := h.iface; rfl

/-- A content in which a place gets a new element. -/
def put (g : Int → Option Int) (p x : Int) : Int → Option Int := fun q => if q = p then some x else g q

theorem bits_u32 (op : BinOp) (a b : Int) : 0 ≤ bitsV op .u32 a b ∧ bitsV op .u32 a b < 4294967296 := by
  cases op <;> simp only [bitsV, IntKind.wrap_u32] <;> omega

theorem Leaf.put {cs : Array Value} {o : Int} (h : Leaf cs g) (ho : 0 ≤ o ∧ o < 4294967296) : Leaf ((cs.setIfInBounds (slot 0 i) (.int .i64 x)).setIfInBounds 32 (.int .u32 o)) (put g (slot 0 i) x) := by
  obtain ⟨h1, h2, h4⟩ := h
  have hs := slot_lt 0 i
  refine ⟨by simp [h1], ⟨o, by simp [h1], ho⟩, fun j hj => ?_⟩
  simp only [Array.getElem?_setIfInBounds]
  rw [if_neg (by omega)]
  by_cases e : slot 0 i = j
  · subst e
    refine ⟨x, by simp [h1]; omega, fun y hy => ?_⟩
    simp [Ytjlaclgikmmmlaa.put] at hy; exact hy.symm
  · obtain ⟨y, hy, hy'⟩ := h4 j hj
    refine ⟨y, by simp [e, hy], fun z hz => hy' z ?_⟩
    rw [Ytjlaclgikmmmlaa.put, if_neg (by omega)] at hz
    exact hz

theorem set_leaf {b : Nat} {cs : Array Value} (hF : F b) (hb : w.heap[b]? = some (.cells cs 103 (0, 0))) (hl : Leaf cs g)
    (hK : ∀ v' w' F', Frm (fun b => m = true ∧ F b) w w' → Rep m w' 0 v' (put g (slot 0 i) x) F' → (∀ b, F' b → F b ∨ w.heap.size ≤ b) → K v' w') :
    Calls Try.prog 89 #[ptr b, .int .i64 i, .int .i64 x, .bool m] w (ret K Kp) := by
  refine vc89_calls ?_
  have hs := slot_lt 0 i
  obtain ⟨h1, ⟨o, h2, h3⟩, h4⟩ := id hl
  have h2' : (cs.setIfInBounds (slot 0 i) (.int .i64 x))[32]? = some (.int .u32 o) := by
    rw [Array.getElem?_setIfInBounds, if_neg (by omega), h2]
  obtain ⟨cs1, hc1⟩ : ∃ c, c = cs.setIfInBounds (slot 0 i) (.int .i64 x) := ⟨_, rfl⟩
  rw [← hc1] at h2'
  have hz1 : cs1.size = 33 := by rw [hc1]; simp [h1]
  have hlf := fun o' ho => (Leaf.put (i := i) (x := x) (o := o') hl ho)
  simp only [← hc1] at hlf
  cases m with
  | true =>
    simp [-getElem?_pos, -Array.getElem?_eq_getElem, vc89, ptr, add_spot, and31, ← slot_zero, ← hc1, hz1, hb, heap_upd_same hb, h1, h2', upd_upd, and_assoc, heap_upd_same (w := w.drew) hb]
    refine ⟨by omega, by omega, ?_⟩
    refine hK _ _ F ((Frm.drew w).trans (Frm.upd _ _ fun _ => ⟨rfl, hF⟩) fun _ h _ => h) ⟨b, _, rfl, hF, heap_upd_same (w := w.drew) hb, hlf _ (bits_u32 ..)⟩ fun _ h => .inl h
  | false =>
    have ht : List.take 33 cs.toList = cs.toList := List.take_of_length_le (by simp [h1])
    have hz : ow zero_103 0 cs.toList = cs := by rw [ow_all (by simp [h1, zero_103])]
    have hlen : zero_103.size = 33 := rfl
    have hone : ∀ u, u ∈ cs → u.oneCell' = true := Leaf.one hl
    simp [-getElem?_pos, -Array.getElem?_eq_getElem, vc89, ptr, add_spot, and31, ← slot_zero, ← hc1, hz1, hb, h1, h2', and_assoc, ht, hz, hlen, hp_alloc_eq, alloc_upd, hone]
    refine ⟨by omega, by omega, by omega, ?_⟩
    refine hK _ _ (fun b => b = w.heap.size) ((Frm.drew w).trans (Frm.alloc _ _) fun _ h _ => h) ⟨_, _, rfl, rfl, hp_alloc_eq (w := w.drew) rfl, hlf _ (bits_u32 ..)⟩ fun _ h => .inr (by omega)

/-- Where a child is put into a node. -/
theorem Rep.put {s bn : Nat} {cs : Array Value} {vs : Nat → Value} {Fs : Nat → Nat → Prop} {c : Value} {Fc : Nat → Prop} (hs : s < 32)
    (hb : w.heap[bn]? = some (.cells cs 118 (0, 0))) (hn : Node (d + 1) cs vs)
    (hoth : ∀ i, i < 32 → i ≠ s → (vs i = .nilIface ∧ ∀ p, 0 ≤ p → p < 32 ^ (d + 1) → sub (d + 1) i g p = none) ∨ Rep m w d (vs i) (sub (d + 1) i g) (Fs i))
    (hc : Rep m w d c (sub (d + 1) s g) Fc) (hbn : ∀ i, i < 32 → i ≠ s → ¬ Fs i bn) (hbc : ¬ Fc bn)
    (hdis : m = true → ∀ i, i < 32 → i ≠ s → ∀ b, Fs i b → ¬ Fc b ∧ ∀ k, k < 32 → k ≠ i → k ≠ s → ¬ Fs k b) :
    Rep m (w.upd bn (.cells (cs.setIfInBounds (s + 1) c) 118 (0, 0))) (d + 1) (.iface 115 (ptr bn)) g (fun b => b = bn ∨ Fc b ∨ ∃ i, i < 32 ∧ i ≠ s ∧ Fs i b) := by
  obtain ⟨h1, h2, h3⟩ := hn
  refine ⟨bn, _, fun i => if i = s then c else vs i, fun i => if i = s then Fc else Fs i, rfl, .inl rfl, heap_upd_same hb, ⟨by simp [h1], ?_, fun i hi => ?_⟩, fun i hi => ?_, fun i hi b hb' => ?_⟩
  · rw [Array.getElem?_setIfInBounds, if_neg (by omega), h2]
  · rw [Array.getElem?_setIfInBounds]
    by_cases e : i = s
    · subst e; simp [h1]; omega
    · rw [if_neg (by omega)]; simp only [if_neg e]; exact h3 i hi
  · by_cases e : i = s
    · subst e
      simp only [if_true]
      exact .inr (hc.mono (fun _ _ _ _ e => e) fun b o hb' ho => by rw [heap_upd_ne (show bn ≠ b from fun e => hbc (e ▸ hb'))]; exact ho)
    · simp only [if_neg e]
      exact (hoth i hi e).imp id fun hr => hr.mono (fun _ _ _ _ e => e) fun b o hb' ho => by rw [heap_upd_ne (show bn ≠ b from fun e' => hbn i hi e (e' ▸ hb'))]; exact ho
  · by_cases e : i = s
    · subst e
      simp only [if_true] at hb'
      refine ⟨.inr (.inl hb'), fun hm => ⟨fun e => hbc (e ▸ hb'), fun k hk hne hkb => ?_⟩⟩
      simp only [if_neg hne] at hkb
      exact (hdis hm k hk hne b hkb).1 hb'
    · simp only [if_neg e] at hb'
      refine ⟨.inr (.inr ⟨i, hi, e, hb'⟩), fun hm => ⟨fun e' => hbn i hi e (e' ▸ hb'), fun k hk hne hkb => ?_⟩⟩
      by_cases e' : k = s
      · subst e'; simp only [if_true] at hkb; exact (hdis hm i hi e b hb').1 hkb
      · simp only [if_neg e'] at hkb; exact (hdis hm i hi e b hb').2 k hk hne e' hkb

/-- The content of a child, where an element is put into a node. -/
theorem sub_put_same (p : Int) : sub (d + 1) (slot (d + 1) i) (put g (i % 32 ^ (d + 1 + 1)) x) p = put (sub (d + 1) (slot (d + 1) i) g) (i % 32 ^ (d + 1)) x p := by
  simp only [sub, Ytjlaclgikmmmlaa.put, mod_split (d + 1) i]
  by_cases h : p = i % 32 ^ (d + 1)
  · rw [if_pos (by omega), if_pos h]
  · rw [if_neg (by omega), if_neg h]
theorem sub_put_ne {k : Nat} (hk : k ≠ slot (d + 1) i) (p : Int) (h0 : 0 ≤ p) (h1 : p < 32 ^ (d + 1)) : sub (d + 1) k (put g (i % 32 ^ (d + 1 + 1)) x) p = sub (d + 1) k g p := by
  simp only [sub, Ytjlaclgikmmmlaa.put, mod_split (d + 1) i]
  rw [if_neg]
  intro h
  have h2 := Int.emod_nonneg i (Int.ne_of_gt (pow_pos' (d + 1)))
  have h3 := Int.emod_lt_of_pos i (pow_pos' (d + 1))
  have hp := pow_pos' (d + 1)
  generalize (32 : Int) ^ (d + 1) = q at *
  generalize i % q = r at *
  have : ((k : Int) - (slot (d + 1) i : Int)) * q = r - p := by rw [Int.sub_mul]; omega
  rcases Int.lt_trichotomy ((k : Int) - (slot (d + 1) i : Int)) 0 with hlt | heq | hgt
  · have := Int.mul_le_mul_of_nonneg_right (show (k : Int) - (slot (d + 1) i : Int) ≤ -1 from by omega) (Int.le_of_lt hp)
    omega
  · omega
  · have := Int.mul_le_mul_of_nonneg_right (show (1 : Int) ≤ (k : Int) - (slot (d + 1) i : Int) from by omega) (Int.le_of_lt hp)
    omega
end Go.Proofs.Ytjlaclgikmmmlaa
