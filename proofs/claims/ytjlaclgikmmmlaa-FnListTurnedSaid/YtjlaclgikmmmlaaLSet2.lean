/- Setting an element of a node of any depth. -/
import Derived.Test.YtjlaclgikmmmlaaLSet
set_option maxRecDepth 100000
set_option linter.unusedSimpArgs false
set_option linter.unusedVariables false
namespace Go.Proofs.Ytjlaclgikmmmlaa
open Go.Vc Go.Proofs
variable {m : Bool} {w w' : World} {d : Nat} {v : Value} {g g' : Int → Option Int} {F F' : Nat → Prop} {i x : Int}

/-- A node whose child has been worked on. -/
theorem Rep.step {s bn : Nat} {cs : Array Value} {vs : Nat → Value} {Fs : Nat → Nat → Prop} {v' : Value} {Fc Fc' : Nat → Prop} {w1 : World} (hs : s < 32)
    (hb : w1.heap[bn]? = some (.cells cs 118 (0, 0))) (hn : Node (d + 1) cs vs)
    (hoth : ∀ i, i < 32 → i ≠ s → (vs i = .nilIface ∧ ∀ p, 0 ≤ p → p < 32 ^ (d + 1) → sub (d + 1) i g p = none) ∨ Rep m w1 d (vs i) (sub (d + 1) i g) (Fs i))
    (hlt : ∀ i, i < 32 → ∀ b, Fs i b → b < w1.heap.size) (hltc : ∀ b, Fc b → b < w1.heap.size)
    (hbn : ∀ i, i < 32 → i ≠ s → ¬ Fs i bn) (hbc : ¬ Fc bn)
    (hdis : m = true → ∀ i, i < 32 → i ≠ s → ∀ b, Fs i b → ¬ Fc b ∧ ∀ k, k < 32 → k ≠ i → k ≠ s → ¬ Fs k b)
    (hf : Frm (fun b => m = true ∧ Fc b) w1 w') (hr : Rep m w' d v' (sub (d + 1) s g) Fc') (hF' : ∀ b, Fc' b → Fc b ∨ w1.heap.size ≤ b) :
    w'.heap[bn]? = some (.cells cs 118 (0, 0)) ∧ v'.oneCell' = true ∧ ∃ F', Rep m (w'.upd bn (.cells (cs.setIfInBounds (s + 1) v') 118 (0, 0))) (d + 1) (.iface 115 (ptr bn)) g F' ∧
      Frm (fun b => b = bn ∨ m = true ∧ Fc b) w1 (w'.upd bn (.cells (cs.setIfInBounds (s + 1) v') 118 (0, 0))) ∧
      ∀ b, F' b → b = bn ∨ Fc b ∨ w1.heap.size ≤ b ∨ ∃ i, i < 32 ∧ i ≠ s ∧ Fs i b := by
  have hb' := hf.get hb (fun h => hbc h.2)
  have hbl := lt_of_get hb
  refine ⟨hb', hr.one, _, Rep.put hs hb' hn (fun i hi he => (hoth i hi he).imp id fun h => h.frame hf fun b hb hm => (hdis hm.1 i hi he b hb).1 hm.2) hr hbn (fun h => (hF' _ h).elim hbc fun h => by omega) (fun hm i hi he b hb => ⟨fun h => ?_, ((hdis hm i hi he b hb).2)⟩), ?_, ?_⟩
  · rcases hF' _ h with h | h
    · exact (hdis hm i hi he b hb).1 h
    · have := hlt i hi b hb; omega
  · exact (hf.mono fun b h _ => .inr h).trans (Frm.upd (M := fun b => b = bn) _ _ fun _ => rfl) fun b h _ => .inl h
  · rintro b (h | h | h)
    · exact .inl h
    · rcases hF' _ h with h | h
      · exact .inr (.inl h)
      · exact .inr (.inr (.inl h))
    · exact .inr (.inr (.inr h))

theorem zero118_eq : zero_118 = #[Value.int .u64 0] ++ Array.replicate 32 Value.nilIface := rfl
theorem zero103_eq : zero_103 = Array.replicate 32 (Value.int .i64 0) ++ #[Value.int .u32 0] := rfl
theorem zero118 (i : Nat) (hi : i < 32) : zero_118[i + 1]? = some .nilIface := by
  rw [zero118_eq, Array.getElem?_append_right (by simp)]
  simp [hi]
theorem zero103 (i : Nat) (hi : i < 32) : zero_103[i]? = some (.int .i64 0) := by
  rw [zero103_eq, Array.getElem?_append_left (by simp; exact hi)]
  simp [hi]

/-- A new node. -/
theorem new_ok {K : Value → World → Prop} {Kp : KP} (hd : d < 100) (hK : ∀ v', v'.oneCell' = true → ∀ o, (∀ g : Int → Option Int, (∀ p, 0 ≤ p → p < 32 ^ (d + 1) → g p = none) → Rep m (w.alloc o) d v' g (fun b => b = w.heap.size)) → K v' (w.alloc o)) :
    Calls Try.prog 100 #[.int .u64 d] w (ret K Kp) := by
  refine vc100_calls ?_
  cases d with
  | zero =>
    simp [vc100, Br_dec]
    refine hK _ rfl _ fun g hg => ⟨_, _, rfl, rfl, hp_alloc_new, rfl, ⟨0, rfl, by decide⟩, fun j hj => ⟨0, zero103 j hj, fun y hy => ?_⟩⟩
    rw [hg j (by omega) (by simp; omega)] at hy
    cases hy
  | succ d =>
    simp [vc100, Br_dec]
    refine ⟨fun h => by omega, fun _ => ?_⟩
    refine hK _ rfl _ fun g hg => ⟨_, _, _, fun _ _ => False, rfl, rfl, hp_alloc_new, ⟨by simp [zero_118], by simp [zero_118], fun j hj => ?_⟩, fun j hj => .inl ⟨rfl, fun p h0 h1 => ?_⟩, fun _ _ _ h => h.elim⟩
    · rw [Array.getElem?_setIfInBounds, if_neg (by omega), zero118 j hj]
    · have hq := pow_pos' (d + 1)
      refine hg _ (by have := Int.mul_nonneg (Int.natCast_nonneg j) (Int.le_of_lt hq); omega) ?_
      have : ((j : Int) + 1) * 32 ^ (d + 1) ≤ 32 * 32 ^ (d + 1) := Int.mul_le_mul_of_nonneg_right (by omega) (Int.le_of_lt hq)
      rw [Int.add_mul] at this
      rw [Int.pow_succ 32 (d + 1)]
      omega

/-- The work on a child, and what it makes of its node. -/
theorem child_step {s bn b0 : Nat} {cs : Array Value} {vs : Nat → Value} {Fs : Nat → Nat → Prop} {c : Value} {Fc : Nat → Prop} {w2 : World} {g2 : Int → Option Int} {name : String} {args : List Value} {K K2 : Value → World → Prop} {Kp : KP}
    (hs : s < 32) (hn : Node (d + 1) cs vs) (hb2 : w2.heap[bn]? = some (.cells cs 118 (0, 0))) (hfw : ∀ {M}, Frm M w w2)
    (hoth : ∀ k, k < 32 → k ≠ s → (vs k = .nilIface ∧ ∀ p, 0 ≤ p → p < 32 ^ (d + 1) → sub (d + 1) k g2 p = none) ∨ Rep m w d (vs k) (sub (d + 1) k g2) (Fs k))
    (h8 : ∀ i, i < 32 → ∀ b', Fs i b' → (F b' ∧ b' < w.heap.size) ∧ (m = true → b' ≠ b0 ∧ ∀ k, k < 32 → k ≠ i → ¬ Fs k b'))
    (hF0 : F b0) (hFc : ∀ b, Fc b → b < w2.heap.size ∧ b ≠ bn ∧ (Fs s b ∨ w.heap.size ≤ b))
    (hbn : (bn = b0 ∧ m = true) ∨ w.heap.size ≤ bn)
    (IH : (∀ v' w' F', Frm (fun b => m = true ∧ Fc b) w2 w' → Rep m w' d v' (sub (d + 1) s g2) F' → (∀ b, F' b → Fc b ∨ w2.heap.size ≤ b) → K2 v' w') → (nice Try.prog).call (.inv c name) args w2 K2 Kp)
    (hK : ∀ v' w' F', Frm (fun b => m = true ∧ F b) w w' → Rep m w' (d + 1) v' g2 F' → (∀ b, F' b → F b ∨ w.heap.size ≤ b) → K v' w')
    (hK2 : ∀ v' w', w'.heap[bn]? = some (.cells cs 118 (0, 0)) → v'.oneCell' = true → K (.iface 115 (ptr bn)) (w'.upd bn (.cells (cs.setIfInBounds (s + 1) v') 118 (0, 0))) → K2 v' w') :
    (nice Try.prog).call (.inv c name) args w2 K2 Kp := by
  have hbf : ∀ k, k < 32 → ¬ Fs k bn := fun k hk hb => by
    rcases hbn with ⟨rfl, hm⟩ | h
    · exact ((h8 k hk _ hb).2 hm).1 rfl
    · have := (h8 k hk _ hb).1.2; omega
  refine IH fun v' w' F' hf hr' hF => ?_
  have hcd : m = true → ∀ k, k < 32 → k ≠ s → ∀ b, Fs k b → ¬ Fc b := fun hm k hk hne b hb hc => by
    rcases (hFc _ hc).2.2 with h | h
    · exact ((h8 k hk _ hb).2 hm).2 _ hs (Ne.symm hne) h
    · have := (h8 k hk _ hb).1.2; omega
  obtain ⟨ha, hb, F2, hc, hd, he⟩ := Rep.step (g := g2) hs hb2 hn (fun k hk hne => (hoth k hk hne).imp id fun h => h.frame (M := fun _ => False) hfw (by simp))
    (fun k hk b hb => Nat.lt_of_lt_of_le (h8 k hk b hb).1.2 (hfw (M := fun _ => False)).size) (fun b hb => (hFc b hb).1)
    (fun k hk _ => hbf k hk) (fun hb => (hFc _ hb).2.1 rfl)
    (fun hm k hk hne b hb => ⟨hcd hm k hk hne b hb, fun k' hk' hne' _ => ((h8 k hk _ hb).2 hm).2 _ hk' hne'⟩) hf hr' hF
  · refine hK2 _ _ ha hb (hK _ _ F2 (hfw.trans hd fun b h hb => ?_) hc fun b h => ?_)
    · rcases h with rfl | ⟨hm, h⟩
      · rcases hbn with ⟨rfl, hm⟩ | h
        · exact ⟨hm, hF0⟩
        · omega
      · rcases (hFc _ h).2.2 with h | h
        · exact ⟨hm, (h8 _ hs _ h).1.1⟩
        · omega
    · rcases he b h with rfl | h | h | ⟨k, hk, _, h⟩
      · rcases hbn with ⟨rfl, hm⟩ | h
        · exact .inl hF0
        · exact .inr h
      · exact (hFc _ h).2.2.imp (fun h => (h8 _ hs _ h).1.1) id
      · exact .inr (Nat.le_trans (hfw (M := fun _ => False)).size h)
      · exact .inl (h8 k hk _ h).1.1

theorem set_ok : ∀ {d : Nat} {m : Bool} {v : Value} {g : Int → Option Int} {F : Nat → Prop} {w : World} {K : Value → World → Prop} {Kp : KP}, d ≤ 11 → Rep m w d v g F →
    (∀ v' w' F', Frm (fun b => m = true ∧ F b) w w' → Rep m w' d v' (put g (i % 32 ^ (d + 1)) x) F' → (∀ b, F' b → F b ∨ w.heap.size ≤ b) → K v' w') →
    (nice Try.prog).call (.inv v "pub-bracken/pub/immutable.set") [.int .i64 i, .int .i64 x, .bool m] w K Kp
  | 0, m, v, g, F, w, K, Kp, hd, h, hK => by
    obtain ⟨b, cs, rfl, h2, h3, h4⟩ := h
    rw [inv_104_89]
    refine set_leaf h2 h3 h4 fun v' w' F' hf hr hF => hK v' w' F' hf ?_ hF
    rw [slot_zero] at hr
    exact hr
  | d + 1, m, v, g, F, w, K, Kp, hd, h, hK => by
    obtain ⟨b, cs, vs, Fs, rfl, h2, h3, hnode, h7, h8⟩ := h.lt
    have ⟨h4, h5, h6⟩ := hnode
    have hs := slot_lt (d + 1) i
    have hsl := slot_eq (d := d + 1) (by omega) i
    simp only [Int.natCast_add, Int.natCast_one] at hsl
    rw [inv_115_99]
    refine vc99_calls ?_
    have hblt := lt_of_get h3
    have hone : ∀ u, u ∈ cs → u.oneCell' = true := hnode.one fun k hk => by
      rcases h7 k hk with ⟨hn, _⟩ | hr
      · rw [hn]; rfl
      · exact hr.one
    have ht : List.take 33 cs.toList = cs.toList := List.take_of_length_le (by simp [h4])
    have hz : ow zero_118 0 cs.toList = cs := by rw [ow_all (by simp [h4, zero_118])]
    have hlen : zero_118.size = 33 := rfl
    have hoth : ∀ k, k < 32 → k ≠ slot (d + 1) i → (vs k = .nilIface ∧ ∀ p, 0 ≤ p → p < 32 ^ (d + 1) → sub (d + 1) k (put g (i % 32 ^ (d + 1 + 1)) x) p = none) ∨ Rep m w d (vs k) (sub (d + 1) k (put g (i % 32 ^ (d + 1 + 1)) x)) (Fs k) := fun k hk hne => by
      rcases h7 k hk with ⟨hn, hp⟩ | hr
      · exact .inl ⟨hn, fun p h0 h1 => by rw [sub_put_ne hne p h0 h1, hp p h0 h1]⟩
      · exact .inr (hr.mono (fun p y h0 h1 e => by rw [sub_put_ne hne p h0 h1] at e; exact e) fun _ _ _ e => e)
    have h2' := h2.1
    have hgs : ∀ (p y : Int), 0 ≤ p → p < 32 ^ (d + 1) → sub (d + 1) (slot (d + 1) i) (put g (i % 32 ^ (d + 1 + 1)) x) p = some y → put (sub (d + 1) (slot (d + 1) i) g) (i % 32 ^ (d + 1)) x p = some y := fun p y _ _ e => by rw [sub_put_same] at e; exact e
    rcases h7 _ hs with ⟨hn, hp⟩ | hr
    · -- there is no child
      simp [-getElem?_pos, -Array.getElem?_eq_getElem, vc99, ptr, add_spot, h3, h5, hsl, h6 _ hs, Nat.add_comm 1, hn]
      refine ⟨by omega, ?_⟩
      refine vc97_calls ?_
      simp [-getElem?_pos, -Array.getElem?_eq_getElem, vc97, add_spot, h3, h5]
      rw [show IntKind.u64.wrap (d : Int) = d from by rw [IntKind.wrap_u64]; omega]
      refine new_ok (m := m) (by omega) fun c hc1 o hc => ?_
      have hc := hc _ hp
      obtain ⟨t, p, he⟩ := hc.iface
      have hf1 : ∀ {M}, Frm M w (w.alloc o) := Frm.alloc _ _
      have hb1 : (w.alloc o).heap[b]? = some (.cells cs 118 (0, 0)) := hf1.get (M := fun _ => False) h3 (by simp)
      cases m with
      | true =>
        simp [-getElem?_pos, -Array.getElem?_eq_getElem, he]
        rw [← he]
        refine child_step (K := K) (c := c) (bn := b) (b0 := b) (w2 := (w.drew.alloc o)) (Fc := fun b => b = w.heap.size) hs hnode (hp_alloc_ne (w := w.drew) (by simp; omega) |>.trans h3) ((Frm.drew w).trans (Frm.alloc _ _) fun _ h _ => h) hoth h8 h2' (fun b' hb' => ⟨by simp; omega, by omega, .inr (by omega)⟩) (.inl ⟨rfl, rfl⟩)
          (fun h => set_ok (by omega) (hc.frame (Frm.drew (M := fun _ => False) _) (by simp)) fun v' w' F' hf hr => h v' w' F' hf (hr.mono hgs fun _ _ _ e => e)) hK fun v' w' ha hb hk => ?_
        simp [-getElem?_pos, -Array.getElem?_eq_getElem, and_assoc, ha, h4, hb, Nat.add_comm 1]
        exact ⟨by omega, by omega, hk⟩
      | false =>
        simp [-getElem?_pos, -Array.getElem?_eq_getElem, ptr, hb1, he, and_assoc, hp_alloc_eq, alloc_upd, hone, ht, hz, hlen, h4]
        refine ⟨fun u hu => hone u hu, ?_⟩
        rw [← he]
        refine child_step (K := K) (c := c) (bn := w.heap.size + 1) (b0 := b) (w2 := ((w.drew.alloc o).alloc (.cells cs 118))) (Fc := fun b => b = w.heap.size) hs hnode (hp_alloc_eq (by simp)) (((Frm.drew w).trans (Frm.alloc _ _) fun _ h _ => h).trans (Frm.alloc _ _) fun _ h _ => h) hoth h8 h2' (fun b' hb' => ⟨by simp; omega, by omega, .inr (by omega)⟩) (.inr (by omega))
          (fun h => set_ok (by omega) (hc.frame ((Frm.drew _).trans (Frm.alloc (M := fun _ => False) _ _) fun _ h _ => h) (by simp)) fun v' w' F' hf hr => h v' w' F' hf (hr.mono hgs fun _ _ _ e => e)) hK fun v' w' ha hb hk => ?_
        simp [-getElem?_pos, -Array.getElem?_eq_getElem, and_assoc, ha, h4, hb, Nat.add_comm 1]
        exact ⟨by omega, by omega, hk⟩
    · obtain ⟨t, p, he⟩ := hr.iface
      cases m with
      | true =>
        simp [-getElem?_pos, -Array.getElem?_eq_getElem, vc99, ptr, add_spot, h3, h5, hsl, h6 _ hs, Nat.add_comm 1, he]
        refine ⟨by omega, ?_⟩
        rw [← he]
        refine child_step (K := K) (bn := b) (b0 := b) (Fc := Fs (slot (d + 1) i)) hs hnode (w2 := w.drew) h3 (Frm.drew w) hoth h8 h2' (fun b' hb' => ⟨(h8 _ hs _ hb').1.2, ((h8 _ hs _ hb').2 rfl).1, .inl hb'⟩) (.inl ⟨rfl, rfl⟩)
          (fun h => set_ok (by omega) (hr.frame (Frm.drew (M := fun _ => False) w) (by simp)) fun v' w' F' hf hr => h v' w' F' hf (hr.mono hgs fun _ _ _ e => e)) hK fun v' w' ha hb hk => ?_
        simp [-getElem?_pos, -Array.getElem?_eq_getElem, and_assoc, ha, h4, hb, Nat.add_comm 1]
        exact ⟨by omega, by omega, hk⟩
      | false =>
        simp [-getElem?_pos, -Array.getElem?_eq_getElem, vc99, ptr, add_spot, h3, h5, hsl, h6 _ hs, Nat.add_comm 1, he, and_assoc, hp_alloc_eq, alloc_upd, hone, ht, hz, hlen, h4]
        refine ⟨by omega, fun u hu => hone u hu, ?_⟩
        rw [← he]
        refine child_step (K := K) (bn := w.heap.size) (b0 := b) (Fc := Fs (slot (d + 1) i)) hs hnode (w2 := w.drew.alloc (.cells cs 118)) (hp_alloc_eq rfl) ((Frm.drew w).trans (Frm.alloc _ _) fun _ h _ => h) hoth h8 h2' (fun b' hb' => ⟨Nat.lt_of_lt_of_le (h8 _ hs _ hb').1.2 (by simp), by have := (h8 _ hs _ hb').1.2; omega, .inl hb'⟩) (.inr (Nat.le_refl _))
          (fun h => set_ok (by omega) (hr.frame ((Frm.drew w).trans (Frm.alloc (M := fun _ => False) _ _) fun _ h _ => h) (by simp)) fun v' w' F' hf hr => h v' w' F' hf (hr.mono hgs fun _ _ _ e => e)) hK fun v' w' ha hb hk => ?_
        simp [-getElem?_pos, -Array.getElem?_eq_getElem, and_assoc, ha, h4, hb, Nat.add_comm 1]
        exact ⟨by omega, by omega, hk⟩
end Go.Proofs.Ytjlaclgikmmmlaa
