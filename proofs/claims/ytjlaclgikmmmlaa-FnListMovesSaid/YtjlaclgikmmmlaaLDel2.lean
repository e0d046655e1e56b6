/- Deleting in nodes of any depth. -/
import Derived.Test.YtjlaclgikmmmlaaLDel
set_option maxRecDepth 100000
set_option linter.unusedSimpArgs false
set_option linter.unusedVariables false
namespace Go.Proofs.Ytjlaclgikmmmlaa
open Go.Vc Go.Proofs
variable {d : Nat} {g g' : Int → Option Int} {i x : Int}

theorem sub_from_same (p : Int) : sub (d + 1) (slot (d + 1) i) (fromG (i % 32 ^ (d + 1 + 1)) g) p = fromG (i % 32 ^ (d + 1)) (sub (d + 1) (slot (d + 1) i) g) p := by
  simp only [sub, fromG, mod_split (d + 1) i]
  by_cases h : i % 32 ^ (d + 1) ≤ p
  · rw [if_pos (by omega), if_pos h]
  · rw [if_neg (by omega), if_neg h]
theorem sub_upto_same (p : Int) : sub (d + 1) (slot (d + 1) i) (uptoG (i % 32 ^ (d + 1 + 1)) g) p = uptoG (i % 32 ^ (d + 1)) (sub (d + 1) (slot (d + 1) i) g) p := by
  simp only [sub, uptoG, mod_split (d + 1) i]
  by_cases h : p ≤ i % 32 ^ (d + 1)
  · rw [if_pos (by omega), if_pos h]
  · rw [if_neg (by omega), if_neg h]
theorem sub_from_lt {k : Nat} (hk : k < slot (d + 1) i) (p : Int) (h1 : p < 32 ^ (d + 1)) : sub (d + 1) k (fromG (i % 32 ^ (d + 1 + 1)) g) p = none := by
  simp only [sub, fromG, mod_split (d + 1) i]
  rw [if_neg]
  have h2 := Int.emod_nonneg i (Int.ne_of_gt (pow_pos' (d + 1)))
  have := Int.mul_le_mul_of_nonneg_right (show (k : Int) + 1 ≤ slot (d + 1) i from by omega) (Int.le_of_lt (pow_pos' (d + 1)))
  rw [Int.add_mul] at this
  omega
theorem sub_upto_gt {k : Nat} (hk : slot (d + 1) i < k) (p : Int) (h1 : 0 ≤ p) : sub (d + 1) k (uptoG (i % 32 ^ (d + 1 + 1)) g) p = none := by
  simp only [sub, uptoG, mod_split (d + 1) i]
  rw [if_neg]
  have h2 := Int.emod_lt_of_pos i (pow_pos' (d + 1))
  have := Int.mul_le_mul_of_nonneg_right (show (slot (d + 1) i : Int) + 1 ≤ k from by omega) (Int.le_of_lt (pow_pos' (d + 1)))
  rw [Int.add_mul] at this
  omega
theorem from_some {q p y : Int} (h : fromG q g p = some y) : g p = some y := by
  simp only [fromG] at h; split at h
  · exact h
  · cases h
theorem upto_some {q p y : Int} (h : uptoG q g p = some y) : g p = some y := by
  simp only [uptoG] at h; split at h
  · exact h
  · cases h
theorem sub_from_some {k : Nat} {q p y : Int} (h : sub d k (fromG q g) p = some y) : sub d k g p = some y := by unfold sub at h ⊢; exact from_some h
theorem sub_upto_some {k : Nat} {q p y : Int} (h : sub d k (uptoG q g) p = some y) : sub d k g p = some y := by unfold sub at h ⊢; exact upto_some h

theorem delB_ok : ∀ {d : Nat} {m : Bool} {v : Value} {g : Int → Option Int} {F : Nat → Prop} {w : World} {K : Value → World → Prop} {Kp : KP}, d ≤ 11 → Gl w → (m = true → ¬ F 0) → Rep m w d v g F →
    (∀ v' w' F', Frm (fun b => m = true ∧ F b) w w' → Rep m w' d v' (fromG (i % 32 ^ (d + 1)) g) F' → (∀ b, F' b → F b ∨ w.heap.size ≤ b) → K v' w') →
    (nice Try.prog).call (.inv v "pub-bracken/pub/immutable.deleteBefore") [.int .i64 i, .bool m] w K Kp
  | 0, m, v, g, F, w, K, Kp, hd, hG, h0, h, hK => by
    obtain ⟨b, cs, rfl, h2, h3, h4⟩ := h
    rw [inv_104_86]
    refine delB_leaf hG h2 h3 h4 fun v' w' F' hf hr hF => hK v' w' F' hf ?_ hF
    rw [slot_zero] at hr
    exact hr
  | d + 1, m, v, g, F, w, K, Kp, hd, hG, h0, h, hK => by
    have hcont : ∀ (K' : Value → World → Prop), (∀ c, K' (.bool c) w) → (nice Try.prog).call (.inv v "pub-bracken/pub/immutable.containsBefore") [.int .i64 i] w K' Kp := fun K' => contB_ok (by omega) hG h
    have hself := h.mono (w' := w) (g' := fromG (i % 32 ^ (d + 1 + 1)) g) (fun p y _ _ e => from_some e) fun _ _ _ e => e
    obtain ⟨b, cs, vs, Fs, rfl, h2, h3, hnode, h7, h8⟩ := h.lt
    have ⟨h4, h5, h6⟩ := hnode
    have hs := slot_lt (d + 1) i
    have hsl := slot_eq (d := d + 1) (by omega) i
    simp only [Int.natCast_add, Int.natCast_one] at hsl
    have h2' := h2.1
    have hblt := lt_of_get h3
    rw [inv_115_96]
    refine vc96_calls ?_
    simp only [vc96, call_94]
    simp only [inv_115_94] at hcont
    refine hcont _ fun c => ?_
    cases c with
    | false =>
      simp
      exact hK _ _ F Frm.refl hself fun _ h => .inl h
    | true =>
      have hoth : ∀ k, k < 32 → k ≠ slot (d + 1) i → ((if k < slot (d + 1) i then Value.nilIface else vs k) = .nilIface ∧ ∀ p, 0 ≤ p → p < 32 ^ (d + 1) → sub (d + 1) k (fromG (i % 32 ^ (d + 1 + 1)) g) p = none) ∨
          Rep m w d (if k < slot (d + 1) i then Value.nilIface else vs k) (sub (d + 1) k (fromG (i % 32 ^ (d + 1 + 1)) g)) (Fs k) := fun k hk hne => by
        by_cases hks : k < slot (d + 1) i
        · exact .inl ⟨if_pos hks, fun p _ h1 => sub_from_lt hks p h1⟩
        · rw [if_neg hks]
          rcases h7 k hk with ⟨hn, hp⟩ | hr
          · refine .inl ⟨hn, fun p h0 h1 => ?_⟩
            cases e : sub (d + 1) k (fromG (i % 32 ^ (d + 1 + 1)) g) p with
            | none => rfl
            | some y => rw [← hp p h0 h1, sub_from_some e]
          · exact .inr (hr.mono (fun p y h0 h1 e => sub_from_some e) fun _ _ _ e => e)
      cases m with
      | true =>
        simp [-getElem?_pos, -Array.getElem?_eq_getElem, ptr, add_spot, h3, h5, hsl, hnode.1]
        obtain ⟨I, hI⟩ : ∃ I : Value → World → Prop, ∀ v w', I v w' ↔ ∃ (j : Nat) (cs' : Array Value), v = .int .i64 j ∧ j ≤ slot (d + 1) i ∧ w' = w.upd b (.cells cs' 118 (0, 0)) ∧ Node (d + 1) cs' (fun k => if k < j then .nilIface else vs k) := ⟨_, fun _ _ => Iff.rfl⟩
        refine Lp.intro I (fun v _ => 32 - (match v with | .int _ j => j.toNat | _ => 0)) ⟨(hI _ _).2 ⟨0, cs, rfl, by omega, (upd_id h3).symm, h4, h5, fun k hk => by simp [h6 k hk]⟩, ?_⟩
        intro wl s hI0
        obtain ⟨j, cs', rfl, hj, rfl, hn'⟩ := (hI _ _).1 hI0
        have hz := hn'.1
        simp only [op_lss, Br_dec]
        refine ⟨fun hlt => ?_, fun hnl => ?_⟩
        · simp [-getElem?_pos, -Array.getElem?_eq_getElem, ptr, add_spot, heap_upd_same h3, and_assoc, hz, upd_upd]
          rw [wrap_small _ rfl (by omega) (by omega)]
          refine ⟨by omega, by omega, (hI _ _).2 ⟨j + 1, _, rfl, by omega, rfl, by simp [hz], ?_, fun k hk' => ?_⟩, by omega⟩
          · rw [Array.getElem?_setIfInBounds, if_neg (by omega), hn'.2.1]
          · rw [Array.getElem?_setIfInBounds]
            by_cases e : j = k
            · subst e; rw [if_pos (by omega), if_pos (by omega)]; dsimp only; rw [if_pos (by omega)]
            · rw [if_neg (by omega), hn'.2.2 k hk']
              dsimp only
              by_cases h : k < j
              · rw [if_pos h, if_pos (by omega)]
              · rw [if_neg h, if_neg (by omega)]
        · have hj' : j = slot (d + 1) i := by omega
          subst hj'
          have hb' := heap_upd_same (o := .cells cs' 118 (0, 0)) h3
          have hfu : Frm (fun b => true = true ∧ F b) w (w.upd b (.cells cs' 118 (0, 0))) := Frm.upd _ _ fun _ => ⟨rfl, h2'⟩
          have hoth' : ∀ k, k < 32 → k ≠ slot (d + 1) i → _ := fun k hk hne => (hoth k hk hne).imp id fun h => h.mono (w' := w.upd b (.cells cs' 118 (0, 0))) (fun _ _ _ _ e => e) fun b' o hb' ho => by
            rw [heap_upd_ne (show b ≠ b' from fun e => ((h8 k hk _ hb').2 rfl).1 e.symm)]; exact ho
          have hv : cs'[slot (d + 1) i + 1]? = some (vs (slot (d + 1) i)) := by rw [hn'.2.2 _ hs]; simp
          rcases h7 _ hs with ⟨hn, hp⟩ | hr
          · simp [-getElem?_pos, -Array.getElem?_eq_getElem, ptr, add_spot, hb', hv, Nat.add_comm 1, hn]
            refine ⟨by omega, hK _ _ F hfu ⟨b, cs', _, Fs, rfl, h2', hb', hn', fun k hk => ?_, fun k hk b' hb' => ⟨(h8 k hk b' hb').1.1, (h8 k hk b' hb').2⟩⟩ fun _ h => .inl h⟩
            by_cases e : k = slot (d + 1) i
            · subst e
              refine .inl ⟨by simp [hn], fun p h0 h1 => ?_⟩
              cases e : sub (d + 1) (slot (d + 1) i) (fromG (i % 32 ^ (d + 1 + 1)) g) p with
              | none => rfl
              | some y => rw [← hp p h0 h1, sub_from_some e]
            · exact hoth' k hk e
          · obtain ⟨t, p, he⟩ := hr.iface
            simp [-getElem?_pos, -Array.getElem?_eq_getElem, ptr, add_spot, hb', hv, Nat.add_comm 1, he]
            refine ⟨by omega, ?_⟩
            rw [← he]
            have hru : Rep true (w.upd b (.cells cs' 118 (0, 0))).drew d (vs (slot (d + 1) i)) (sub (d + 1) (slot (d + 1) i) g) (Fs (slot (d + 1) i)) := hr.mono (fun _ _ _ _ e => e) fun b' o hb' ho => by
              rw [heap_drew, heap_upd_ne (show b ≠ b' from fun e => ((h8 _ hs _ hb').2 rfl).1 e.symm)]; exact ho
            refine child_step (K := K) (F := F) (bn := b) (b0 := b) (Fs := Fs) (Fc := Fs (slot (d + 1) i)) (w := w.upd b (.cells cs' 118 (0, 0))) (w2 := (w.upd b (.cells cs' 118 (0, 0))).drew) hs hn' hb' (Frm.drew _) hoth' (fun k hk b' hb' => ⟨by simpa using (h8 k hk b' hb').1, (h8 k hk b' hb').2⟩) h2' (fun b' hb' => ⟨by simpa using (h8 _ hs _ hb').1.2, ((h8 _ hs _ hb').2 rfl).1, .inl hb'⟩) (.inl ⟨rfl, rfl⟩)
              (fun h => delB_ok (by omega) (hG.frame (hfu.trans (Frm.drew (M := fun _ => False) _) fun _ h _ => h.elim) (by simpa using h0 rfl)) (fun _ hb' => h0 rfl (h8 _ hs _ hb').1.1) hru fun v' w' F' hf hr => h v' w' F' hf (hr.mono (fun p y _ _ e => by rw [sub_from_same] at e; exact e) fun _ _ _ e => e))
              (fun v' w' F' hf hr hF => hK v' w' F' (hfu.trans hf fun _ h _ => h) hr (by simpa using hF)) fun v' w' ha hb hk => ?_
            simp [-getElem?_pos, -Array.getElem?_eq_getElem, and_assoc, ha, hz, hb, Nat.add_comm 1]
            exact ⟨by omega, by omega, hk⟩
      | false =>
        simp [-getElem?_pos, -Array.getElem?_eq_getElem, ptr, add_spot, h3, h5, hsl, hnode.1]
        have hne : ¬ 32 = slot (d + 1) i := by omega
        have hone : ∀ u, u ∈ cs → u.oneCell' = true := hnode.one fun k hk => by
          rcases h7 k hk with ⟨hn, _⟩ | hr
          · rw [hn]; rfl
          · exact hr.one
        have hz0 : (zero_118.setIfInBounds 0 (.int .u64 ((d : Int) + 1))).size = 33 := by simp [zero118_eq]
        rw [if_neg hne, if_neg hne]
        refine ⟨by omega, op_copy und138 sz93 (hp_alloc_eq rfl) (hp_alloc_lt (w := w.drew) h3) (n := 32 - slot (d + 1) i) (by simp) (by omega) (by omega) hone fun cs1 hz1 hc1 => ?_⟩
        have hz : cs1.size = 33 := by rw [hz1, hz0]
        have hn' : Node (d + 1) cs1 (fun k => if k < slot (d + 1) i then .nilIface else vs k) := by
          refine ⟨hz, ?_, fun k hk => ?_⟩
          · rw [hc1, if_neg (by omega), Array.getElem?_setIfInBounds]; simp [zero118_eq]
          · rw [hc1]
            by_cases h : k < slot (d + 1) i
            · rw [if_neg (by omega), Array.getElem?_setIfInBounds, if_neg (by omega), zero118 k hk]; simp [h]
            · rw [if_pos (by omega), show 1 + slot (d + 1) i + (k + 1 - (1 + slot (d + 1) i)) = k + 1 from by omega, h6 k hk]; simp [h]
        have hv : cs1[slot (d + 1) i + 1]? = some (vs (slot (d + 1) i)) := by rw [hn'.2.2 _ hs]; simp
        have hfu : ∀ {M}, Frm M w (w.drew.drew.alloc (.cells cs1 118)) := ((Frm.drew w).trans (Frm.drew _) fun _ h _ => h).trans (Frm.alloc _ _) fun _ h _ => h
        have hbn : (w.drew.drew.alloc (.cells cs1 118)).heap[w.heap.size]? = some (.cells cs1 118 (0, 0)) := hp_alloc_eq (by simp)
        rcases h7 _ hs with ⟨hn, hp⟩ | hr
        · simp [-getElem?_pos, -Array.getElem?_eq_getElem, alloc_upd, hp_alloc_eq, hv, and_assoc, hz, hn, Nat.add_comm 1]
          have hfu' : ∀ {M}, Frm M w (w.drew.alloc (.cells cs1 118)) := (Frm.drew w).trans (Frm.alloc _ _) fun _ h _ => h
          refine ⟨by omega, hK _ _ (fun b' => b' = w.heap.size ∨ ∃ k, k < 32 ∧ Fs k b') hfu' ⟨w.heap.size, cs1, _, Fs, rfl, .inl rfl, hbn, hn', fun k hk => ?_, fun k hk b' hb' => ⟨.inr ⟨k, hk, hb'⟩, fun h => nomatch h⟩⟩ fun b' h => ?_⟩
          · by_cases e : k = slot (d + 1) i
            · subst e
              refine .inl ⟨by simp [hn], fun p h0 h1 => ?_⟩
              cases e : sub (d + 1) (slot (d + 1) i) (fromG (i % 32 ^ (d + 1 + 1)) g) p with
              | none => rfl
              | some y => rw [← hp p h0 h1, sub_from_some e]
            · exact (hoth k hk e).imp id fun h => h.frame (hfu' (M := fun _ => False)) (by simp)
          · rcases h with rfl | ⟨k, hk, h⟩
            · exact .inr (Nat.le_refl _)
            · exact .inl (h8 k hk _ h).1.1
        · obtain ⟨t, p, he⟩ := hr.iface
          simp [-getElem?_pos, -Array.getElem?_eq_getElem, alloc_upd, hp_alloc_eq, hv, and_assoc, hz, he, Nat.add_comm 1]
          refine ⟨by omega, ?_⟩
          rw [← he]
          refine child_step (K := K) (F := F) (bn := w.heap.size) (b0 := b) (Fs := Fs) (Fc := Fs (slot (d + 1) i)) (w := w) (w2 := w.drew.drew.alloc (.cells cs1 118)) hs hn' hbn hfu hoth h8 h2' (fun b' hb' => ⟨Nat.lt_of_lt_of_le (h8 _ hs _ hb').1.2 (by simp), by have := (h8 _ hs _ hb').1.2; omega, .inl hb'⟩) (.inr (Nat.le_refl _))
            (fun h => delB_ok (by omega) (hG.frame (hfu (M := fun _ => False)) (by simp)) (fun h => nomatch h) (hr.frame (hfu (M := fun _ => False)) (by simp)) fun v' w' F' hf hr => h v' w' F' hf (hr.mono (fun p y _ _ e => by rw [sub_from_same] at e; exact e) fun _ _ _ e => e)) hK fun v' w' ha hb hk => ?_
          simp [-getElem?_pos, -Array.getElem?_eq_getElem, and_assoc, ha, hz, hb, Nat.add_comm 1]
          exact ⟨by omega, by omega, hk⟩
theorem delA_ok : ∀ {d : Nat} {m : Bool} {v : Value} {g : Int → Option Int} {F : Nat → Prop} {w : World} {K : Value → World → Prop} {Kp : KP}, d ≤ 11 → Rep m w d v g F →
    (∀ v' w' F', Frm (fun b => m = true ∧ F b) w w' → Rep m w' d v' (uptoG (i % 32 ^ (d + 1)) g) F' → (∀ b, F' b → F b ∨ w.heap.size ≤ b) → K v' w') →
    (nice Try.prog).call (.inv v "pub-bracken/pub/immutable.deleteAfter") [.int .i64 i, .bool m] w K Kp
  | 0, m, v, g, F, w, K, Kp, hd, h, hK => by
    obtain ⟨b, cs, rfl, h2, h3, h4⟩ := h
    rw [inv_104_85]
    refine delA_leaf h2 h3 h4 fun v' w' F' hf hr hF => hK v' w' F' hf ?_ hF
    rw [slot_zero] at hr
    exact hr
  | d + 1, m, v, g, F, w, K, Kp, hd, h, hK => by
    have hcont : ∀ (K' : Value → World → Prop), (∀ c, K' (.bool c) w) → (nice Try.prog).call (.inv v "pub-bracken/pub/immutable.containsAfter") [.int .i64 i] w K' Kp := fun K' => contA_ok (by omega) h
    have hself := h.mono (w' := w) (g' := uptoG (i % 32 ^ (d + 1 + 1)) g) (fun p y _ _ e => upto_some e) fun _ _ _ e => e
    obtain ⟨b, cs, vs, Fs, rfl, h2, h3, hnode, h7, h8⟩ := h.lt
    have ⟨h4, h5, h6⟩ := hnode
    have hs := slot_lt (d + 1) i
    have hsl := slot_eq (d := d + 1) (by omega) i
    simp only [Int.natCast_add, Int.natCast_one] at hsl
    have h2' := h2.1
    have hblt := lt_of_get h3
    rw [inv_115_95]
    refine vc95_calls ?_
    simp only [vc95, call_93]
    simp only [inv_115_93] at hcont
    refine hcont _ fun c => ?_
    cases c with
    | false =>
      simp
      exact hK _ _ F Frm.refl hself fun _ h => .inl h
    | true =>
      have hoth : ∀ k, k < 32 → k ≠ slot (d + 1) i → ((if slot (d + 1) i < k then Value.nilIface else vs k) = .nilIface ∧ ∀ p, 0 ≤ p → p < 32 ^ (d + 1) → sub (d + 1) k (uptoG (i % 32 ^ (d + 1 + 1)) g) p = none) ∨
          Rep m w d (if slot (d + 1) i < k then Value.nilIface else vs k) (sub (d + 1) k (uptoG (i % 32 ^ (d + 1 + 1)) g)) (Fs k) := fun k hk hne => by
        by_cases hks : slot (d + 1) i < k
        · exact .inl ⟨if_pos hks, fun p h0 _ => sub_upto_gt hks p h0⟩
        · rw [if_neg hks]
          rcases h7 k hk with ⟨hn, hp⟩ | hr
          · refine .inl ⟨hn, fun p h0 h1 => ?_⟩
            cases e : sub (d + 1) k (uptoG (i % 32 ^ (d + 1 + 1)) g) p with
            | none => rfl
            | some y => rw [← hp p h0 h1, sub_upto_some e]
          · exact .inr (hr.mono (fun p y h0 h1 e => sub_upto_some e) fun _ _ _ e => e)
      cases m with
      | true =>
        simp [-getElem?_pos, -Array.getElem?_eq_getElem, ptr, add_spot, h3, h5, hsl, hnode.1]
        obtain ⟨I, hI⟩ : ∃ I : Value → World → Prop, ∀ v w', I v w' ↔ ∃ (j : Nat) (cs' : Array Value), v = .int .i64 j ∧ slot (d + 1) i < j ∧ j ≤ 32 ∧ w' = w.upd b (.cells cs' 118 (0, 0)) ∧ Node (d + 1) cs' (fun k => if slot (d + 1) i < k ∧ k < j then .nilIface else vs k) := ⟨_, fun _ _ => Iff.rfl⟩
        refine Lp.intro I (fun v _ => 32 - (match v with | .int _ j => j.toNat | _ => 0)) ⟨(hI _ _).2 ⟨slot (d + 1) i + 1, cs, by rw [wrap_small _ rfl (by omega) (by omega)]; simp, by omega, by omega, (upd_id h3).symm, h4, h5, fun k hk => by dsimp only; rw [if_neg (by omega)]; exact h6 k hk⟩, ?_⟩
        intro wl s hI0
        obtain ⟨j, cs', rfl, hj, hj2, rfl, hn'⟩ := (hI _ _).1 hI0
        have hz := hn'.1
        simp only [op_lss, Br_dec]
        refine ⟨fun hlt => ?_, fun hnl => ?_⟩
        · simp [-getElem?_pos, -Array.getElem?_eq_getElem, ptr, add_spot, heap_upd_same h3, and_assoc, hz, upd_upd]
          rw [wrap_small _ rfl (by omega) (by omega)]
          refine ⟨by omega, by omega, (hI _ _).2 ⟨j + 1, _, rfl, by omega, by omega, rfl, by simp [hz], ?_, fun k hk' => ?_⟩, by omega⟩
          · rw [Array.getElem?_setIfInBounds, if_neg (by omega), hn'.2.1]
          · rw [Array.getElem?_setIfInBounds]
            by_cases e : j = k
            · subst e; rw [if_pos (by omega), if_pos (by omega)]; dsimp only; rw [if_pos (by omega)]
            · rw [if_neg (by omega), hn'.2.2 k hk']
              dsimp only
              by_cases h : slot (d + 1) i < k ∧ k < j
              · rw [if_pos h, if_pos (by omega)]
              · rw [if_neg h, if_neg (by omega)]
        · have hj' : j = 32 := by omega
          subst hj'
          have hn' : Node (d + 1) cs' (fun k => if slot (d + 1) i < k then .nilIface else vs k) := ⟨hz, hn'.2.1, fun k hk => by
            have := hn'.2.2 k hk
            dsimp only at this ⊢
            by_cases h : slot (d + 1) i < k
            · rw [if_pos h]; rw [if_pos (by omega)] at this; exact this
            · rw [if_neg h]; rw [if_neg (by omega)] at this; exact this⟩
          have hb' := heap_upd_same (o := .cells cs' 118 (0, 0)) h3
          have hfu : Frm (fun b => true = true ∧ F b) w (w.upd b (.cells cs' 118 (0, 0))) := Frm.upd _ _ fun _ => ⟨rfl, h2'⟩
          have hoth' : ∀ k, k < 32 → k ≠ slot (d + 1) i → _ := fun k hk hne => (hoth k hk hne).imp id fun h => h.mono (w' := w.upd b (.cells cs' 118 (0, 0))) (fun _ _ _ _ e => e) fun b' o hb' ho => by
            rw [heap_upd_ne (show b ≠ b' from fun e => ((h8 k hk _ hb').2 rfl).1 e.symm)]; exact ho
          have hv : cs'[slot (d + 1) i + 1]? = some (vs (slot (d + 1) i)) := by rw [hn'.2.2 _ hs]; simp
          rcases h7 _ hs with ⟨hn, hp⟩ | hr
          · simp [-getElem?_pos, -Array.getElem?_eq_getElem, ptr, add_spot, hb', hv, Nat.add_comm 1, hn]
            refine ⟨by omega, hK _ _ F hfu ⟨b, cs', _, Fs, rfl, h2', hb', hn', fun k hk => ?_, fun k hk b' hb' => ⟨(h8 k hk b' hb').1.1, (h8 k hk b' hb').2⟩⟩ fun _ h => .inl h⟩
            by_cases e : k = slot (d + 1) i
            · subst e
              refine .inl ⟨by simp [hn], fun p h0 h1 => ?_⟩
              cases e : sub (d + 1) (slot (d + 1) i) (uptoG (i % 32 ^ (d + 1 + 1)) g) p with
              | none => rfl
              | some y => rw [← hp p h0 h1, sub_upto_some e]
            · exact hoth' k hk e
          · obtain ⟨t, p, he⟩ := hr.iface
            simp [-getElem?_pos, -Array.getElem?_eq_getElem, ptr, add_spot, hb', hv, Nat.add_comm 1, he]
            refine ⟨by omega, ?_⟩
            rw [← he]
            have hru : Rep true (w.upd b (.cells cs' 118 (0, 0))).drew d (vs (slot (d + 1) i)) (sub (d + 1) (slot (d + 1) i) g) (Fs (slot (d + 1) i)) := hr.mono (fun _ _ _ _ e => e) fun b' o hb' ho => by
              rw [heap_drew, heap_upd_ne (show b ≠ b' from fun e => ((h8 _ hs _ hb').2 rfl).1 e.symm)]; exact ho
            refine child_step (K := K) (F := F) (bn := b) (b0 := b) (Fs := Fs) (Fc := Fs (slot (d + 1) i)) (w := w.upd b (.cells cs' 118 (0, 0))) (w2 := (w.upd b (.cells cs' 118 (0, 0))).drew) hs hn' hb' (Frm.drew _) hoth' (fun k hk b' hb' => ⟨by simpa using (h8 k hk b' hb').1, (h8 k hk b' hb').2⟩) h2' (fun b' hb' => ⟨by simpa using (h8 _ hs _ hb').1.2, ((h8 _ hs _ hb').2 rfl).1, .inl hb'⟩) (.inl ⟨rfl, rfl⟩)
              (fun h => delA_ok (by omega) hru fun v' w' F' hf hr => h v' w' F' hf (hr.mono (fun p y _ _ e => by rw [sub_upto_same] at e; exact e) fun _ _ _ e => e))
              (fun v' w' F' hf hr hF => hK v' w' F' (hfu.trans hf fun _ h _ => h) hr (by simpa using hF)) fun v' w' ha hb hk => ?_
            simp [-getElem?_pos, -Array.getElem?_eq_getElem, and_assoc, ha, hz, hb, Nat.add_comm 1]
            exact ⟨by omega, by omega, hk⟩
      | false =>
        simp [-getElem?_pos, -Array.getElem?_eq_getElem, ptr, add_spot, h3, h5, hsl, hnode.1]
        have hone : ∀ u, u ∈ cs → u.oneCell' = true := hnode.one fun k hk => by
          rcases h7 k hk with ⟨hn, _⟩ | hr
          · rw [hn]; rfl
          · exact hr.one
        have hz0 : (zero_118.setIfInBounds 0 (.int .u64 ((d : Int) + 1))).size = 33 := by simp [zero118_eq]
        rw [wrap_small _ rfl (by omega) (by omega)]
        refine ⟨by omega, op_copy und138 sz93 (hp_alloc_eq rfl) (hp_alloc_lt (w := w.drew) h3) (n := slot (d + 1) i + 1) (by simp; try omega) (by omega) (by omega) hone fun cs1 hz1 hc1 => ?_⟩
        have hz : cs1.size = 33 := by rw [hz1, hz0]
        have hn' : Node (d + 1) cs1 (fun k => if slot (d + 1) i < k then .nilIface else vs k) := by
          refine ⟨hz, ?_, fun k hk => ?_⟩
          · rw [hc1, if_neg (by omega), Array.getElem?_setIfInBounds]; simp [zero118_eq]
          · rw [hc1]
            by_cases h : slot (d + 1) i < k
            · rw [if_neg (by omega), Array.getElem?_setIfInBounds, if_neg (by omega), zero118 k hk]; simp [h]
            · rw [if_pos (by omega), show 1 + (k + 1 - 1) = k + 1 from by omega, h6 k hk]; simp [h]
        have hv : cs1[slot (d + 1) i + 1]? = some (vs (slot (d + 1) i)) := by rw [hn'.2.2 _ hs]; simp
        have hfu : ∀ {M}, Frm M w (w.drew.drew.alloc (.cells cs1 118)) := ((Frm.drew w).trans (Frm.drew _) fun _ h _ => h).trans (Frm.alloc _ _) fun _ h _ => h
        have hbn : (w.drew.drew.alloc (.cells cs1 118)).heap[w.heap.size]? = some (.cells cs1 118 (0, 0)) := hp_alloc_eq (by simp)
        rcases h7 _ hs with ⟨hn, hp⟩ | hr
        · simp [-getElem?_pos, -Array.getElem?_eq_getElem, alloc_upd, hp_alloc_eq, hv, and_assoc, hz, hn, Nat.add_comm 1]
          have hfu' : ∀ {M}, Frm M w (w.drew.alloc (.cells cs1 118)) := (Frm.drew w).trans (Frm.alloc _ _) fun _ h _ => h
          refine ⟨by omega, hK _ _ (fun b' => b' = w.heap.size ∨ ∃ k, k < 32 ∧ Fs k b') hfu' ⟨w.heap.size, cs1, _, Fs, rfl, .inl rfl, hbn, hn', fun k hk => ?_, fun k hk b' hb' => ⟨.inr ⟨k, hk, hb'⟩, fun h => nomatch h⟩⟩ fun b' h => ?_⟩
          · by_cases e : k = slot (d + 1) i
            · subst e
              refine .inl ⟨by simp [hn], fun p h0 h1 => ?_⟩
              cases e : sub (d + 1) (slot (d + 1) i) (uptoG (i % 32 ^ (d + 1 + 1)) g) p with
              | none => rfl
              | some y => rw [← hp p h0 h1, sub_upto_some e]
            · exact (hoth k hk e).imp id fun h => h.frame (hfu' (M := fun _ => False)) (by simp)
          · rcases h with rfl | ⟨k, hk, h⟩
            · exact .inr (Nat.le_refl _)
            · exact .inl (h8 k hk _ h).1.1
        · obtain ⟨t, p, he⟩ := hr.iface
          simp [-getElem?_pos, -Array.getElem?_eq_getElem, alloc_upd, hp_alloc_eq, hv, and_assoc, hz, he, Nat.add_comm 1]
          refine ⟨by omega, ?_⟩
          rw [← he]
          refine child_step (K := K) (F := F) (bn := w.heap.size) (b0 := b) (Fs := Fs) (Fc := Fs (slot (d + 1) i)) (w := w) (w2 := w.drew.drew.alloc (.cells cs1 118)) hs hn' hbn hfu hoth h8 h2' (fun b' hb' => ⟨Nat.lt_of_lt_of_le (h8 _ hs _ hb').1.2 (by simp), by have := (h8 _ hs _ hb').1.2; omega, .inl hb'⟩) (.inr (Nat.le_refl _))
            (fun h => delA_ok (by omega) (hr.frame (hfu (M := fun _ => False)) (by simp)) fun v' w' F' hf hr => h v' w' F' hf (hr.mono (fun p y _ _ e => by rw [sub_upto_same] at e; exact e) fun _ _ _ e => e)) hK fun v' w' ha hb hk => ?_
          simp [-getElem?_pos, -Array.getElem?_eq_getElem, and_assoc, ha, hz, hb, Nat.add_comm 1]
          exact ⟨by omega, by omega, hk⟩
end Go.Proofs.Ytjlaclgikmmmlaa
