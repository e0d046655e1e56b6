/- Deleting what is ahead of, or behind, an index. -/
import Derived.Test.YtjlaclgikmmmlaaLSet2
set_option maxRecDepth 100000
set_option linter.unusedSimpArgs false
set_option linter.unusedVariables false
namespace Go.Proofs.Ytjlaclgikmmmlaa
open Go.Vc Go.Proofs
variable {m : Bool} {w w' : World} {d : Nat} {v : Value} {g g' : Int → Option Int} {F F' : Nat → Prop} {i x : Int}

@[simp] theorem slo100 {b o : Nat} {k : IntKind} {x : Int} {K1 : Value → Prop} : (nice Try.prog).pur (.slice 100 (.pointer (some ⟨b, o, none⟩)) (some (.int k x)) none none) K1 =
    ((0 ≤ x ∧ x ≤ 32) ∧ K1 (.slice (some (if 32 = x.toNat then ⟨b, o, none⟩ else ⟨b, o + x.toNat * 1, none⟩)) (32 - x.toNat) (32 - x.toNat))) := pur_slice_lo (n := 32) (s := 1) (by kernel_rfl)
@[simp] theorem shi100 {b o : Nat} {k : IntKind} {x : Int} {K1 : Value → Prop} : (nice Try.prog).pur (.slice 100 (.pointer (some ⟨b, o, none⟩)) none (some (.int k x)) none) K1 =
    ((0 ≤ x ∧ x ≤ 32) ∧ K1 (.slice (some ⟨b, o, none⟩) x.toNat 32)) := pur_slice_hi (n := 32) (s := 1) (by kernel_rfl)
@[simp] theorem slo116 {b o : Nat} {k : IntKind} {x : Int} {K1 : Value → Prop} : (nice Try.prog).pur (.slice 116 (.pointer (some ⟨b, o, none⟩)) (some (.int k x)) none none) K1 =
    ((0 ≤ x ∧ x ≤ 32) ∧ K1 (.slice (some (if 32 = x.toNat then ⟨b, o, none⟩ else ⟨b, o + x.toNat * 1, none⟩)) (32 - x.toNat) (32 - x.toNat))) := pur_slice_lo (n := 32) (s := 1) (by kernel_rfl)
@[simp] theorem shi116 {b o : Nat} {k : IntKind} {x : Int} {K1 : Value → Prop} : (nice Try.prog).pur (.slice 116 (.pointer (some ⟨b, o, none⟩)) none (some (.int k x)) none) K1 =
    ((0 ≤ x ∧ x ≤ 32) ∧ K1 (.slice (some ⟨b, o, none⟩) x.toNat 32)) := pur_slice_hi (n := 32) (s := 1) (by kernel_rfl)
@[simp] theorem sall22 {a : Option Addr} {len cap : Nat} {K1 : Value → Prop} : (nice Try.prog).pur (.slice 22 (.slice a len cap) none none none) K1 = (len ≤ cap ∧ K1 (.slice a len cap)) := pur_slice_all (e := 2) (s := 1) (by kernel_rfl)
@[simp] theorem sall138 {a : Option Addr} {len cap : Nat} {K1 : Value → Prop} : (nice Try.prog).pur (.slice 138 (.slice a len cap) none none none) K1 = (len ≤ cap ∧ K1 (.slice a len cap)) := pur_slice_all (e := 93) (s := 1) (by kernel_rfl)
theorem und22 : Try.prog.underlying 22 = some (.slice 2) := by kernel_rfl
theorem und138 : Try.prog.underlying 138 = some (.slice 93) := by kernel_rfl
theorem sz2 : szOf Try.prog 2 = some 1 := by kernel_rfl
theorem sz93 : szOf Try.prog 93 = some 1 := by kernel_rfl

/-- What stands at p and behind. -/
def fromG (p : Int) (g : Int → Option Int) : Int → Option Int := fun q => if p ≤ q then g q else none
/-- What stands at p and ahead. -/
def uptoG (p : Int) (g : Int → Option Int) : Int → Option Int := fun q => if q ≤ p then g q else none

theorem Leaf.keep {cs cs' : Array Value} {g2 : Int → Option Int} (h : Leaf cs g) (hz : cs'.size = 33) {o : Int} (ho : cs'[32]? = some (.int .u32 o)) (ho' : 0 ≤ o ∧ o < 4294967296)
    (hi : ∀ j : Nat, j < 32 → cs'[j]? = cs[j]? ∧ (∀ y, g2 j = some y → g j = some y) ∨ g2 j = none ∧ cs'[j]? = some (.int .i64 0)) : Leaf cs' g2 := by
  refine ⟨hz, ⟨o, ho, ho'⟩, fun j hj => ?_⟩
  rcases hi j hj with ⟨h1, h2⟩ | ⟨h1, h2⟩
  · obtain ⟨x, hx, hy⟩ := h.2.2 j hj
    exact ⟨x, by rw [h1, hx], fun y hy' => hy y (h2 y hy')⟩
  · exact ⟨0, h2, fun y hy => by rw [h1] at hy; cases hy⟩

theorem delB_leaf {K : Value → World → Prop} {Kp : KP} {b : Nat} {cs : Array Value} (hG : Gl w) (hF : F b) (hb : w.heap[b]? = some (.cells cs 103 (0, 0))) (hl : Leaf cs g)
    (hK : ∀ v' w' F', Frm (fun b => m = true ∧ F b) w w' → Rep m w' 0 v' (fromG (slot 0 i) g) F' → (∀ b, F' b → F b ∨ w.heap.size ≤ b) → K v' w') :
    Calls Try.prog 86 #[ptr b, .int .i64 i, .bool m] w (ret K Kp) := by
  refine vc86_calls ?_
  have hs := slot_lt 0 i
  obtain ⟨h1, ⟨o, h2, h3⟩, h4⟩ := id hl
  simp only [vc86, call_84]
  refine contB_leaf hG hb hl fun c => ?_
  cases c with
  | false =>
    simp [ptr]
    refine hK _ _ F Frm.refl ⟨b, cs, rfl, hF, hb, hl.keep h1 h2 h3 fun j hj => .inl ⟨rfl, fun y hy => ?_⟩⟩ fun _ h => .inl h
    simp only [fromG] at hy
    split at hy
    · exact hy
    · cases hy
  | true =>
    cases m with
    | true =>
      simp [-getElem?_pos, -Array.getElem?_eq_getElem, ptr, and31, ← slot_zero]
      obtain ⟨I, hI⟩ : ∃ I : Value → World → Prop, ∀ v w', I v w' ↔ ∃ (j : Nat) (cs' : Array Value), v = .int .i64 j ∧ j ≤ slot 0 i ∧ w' = w.upd b (.cells cs' 103 (0, 0)) ∧ cs'.size = 33 ∧ cs'[32]? = cs[32]? ∧ (∀ k : Nat, k < 32 → cs'[k]? = if k < j then some (.int .i64 0) else cs[k]?) := ⟨_, fun _ _ => Iff.rfl⟩
      refine Lp.intro I (fun v _ => 32 - (match v with | .int _ j => j.toNat | _ => 0)) ⟨(hI _ _).2 ⟨0, cs, rfl, by omega, (upd_id hb).symm, h1, rfl, fun k _ => by rw [if_neg (by omega)]⟩, ?_⟩
      intro wl s hI0
      obtain ⟨j, cs', rfl, hj, rfl, hz, h32, hk⟩ := (hI _ _).1 hI0
      simp only [op_lss, Br_dec]
      refine ⟨fun hlt => ?_, fun hnl => ?_⟩
      · simp [-getElem?_pos, -Array.getElem?_eq_getElem, ptr, add_spot, heap_upd_same hb, and_assoc, hz, upd_upd]
        rw [wrap_small _ rfl (by omega) (by omega)]
        refine ⟨by omega, by omega, (hI _ _).2 ⟨j + 1, _, rfl, by omega, rfl, by simp [hz], ?_, fun k hk' => ?_⟩, by omega⟩
        · rw [Array.getElem?_setIfInBounds, if_neg (by omega), h32]
        · rw [Array.getElem?_setIfInBounds]
          by_cases e : j = k
          · subst e; simp [hz]; omega
          · rw [if_neg e, hk k hk']
            by_cases h : k < j
            · rw [if_pos h, if_pos (by omega)]
            · rw [if_neg h, if_neg (by omega)]
      · simp [-getElem?_pos, -Array.getElem?_eq_getElem, ptr, add_spot, heap_upd_same hb, and_assoc, hz, upd_upd, h32, h2, heap_upd_same (w := w.drew) hb]
        refine hK _ _ F ((Frm.drew w).trans (Frm.upd _ _ fun _ => ⟨rfl, hF⟩) fun _ h _ => h) ⟨b, _, rfl, hF, heap_upd_same (w := w.drew) hb, hl.keep (by simp [hz]) (by rw [Array.getElem?_setIfInBounds]; simp [hz]; rfl) (bits_u32 ..) fun k hk' => ?_⟩ fun _ h => .inl h
        rw [Array.getElem?_setIfInBounds, if_neg (by omega), hk k hk']
        by_cases h : k < j
        · exact .inr ⟨by rw [fromG, if_neg (by omega)], by rw [if_pos h]⟩
        · refine .inl ⟨by rw [if_neg h], fun y hy => ?_⟩
          rw [fromG, if_pos (by omega)] at hy
          exact hy
    | false =>
      simp [-getElem?_pos, -Array.getElem?_eq_getElem, ptr, and31, ← slot_zero, add_spot, hb, h2]
      have hne : ¬ 32 = slot 0 i := by omega
      have hz0 : (zero_103.setIfInBounds 32 (.int .u32 o)).size = 33 := by simp [zero_103]
      rw [if_neg hne, if_neg hne]
      refine ⟨by omega, op_copy und22 sz2 (hp_alloc_eq rfl) (hp_alloc_lt (w := w.drew) hb) (n := 32 - slot 0 i) (by simp) (by omega) (by omega) (Leaf.one hl) fun cs1 hz1 hc1 => ?_⟩
      have h32 : cs1[32]? = some (.int .u32 o) := by
        rw [hc1, if_neg (by omega), Array.getElem?_setIfInBounds]; simp [zero_103]
      have hz1 : cs1.size = 33 := by rw [hz1, hz0]
      simp [-getElem?_pos, -Array.getElem?_eq_getElem, alloc_upd, hp_alloc_eq, h32, and_assoc, hz1]
      refine hK _ _ (fun b => b = w.heap.size) (((Frm.drew w).trans (Frm.drew _) fun _ h _ => h).trans (Frm.alloc _ _) fun _ h _ => h) ⟨_, _, rfl, rfl, hp_alloc_eq rfl, hl.keep (by simp [hz1]) (by rw [Array.getElem?_setIfInBounds]; simp [hz1]; rfl) (bits_u32 ..) fun k hk' => ?_⟩ fun _ h => .inr (by omega)
      rw [Array.getElem?_setIfInBounds, if_neg (by omega), hc1]
      by_cases h : k < slot 0 i
      · exact .inr ⟨by rw [fromG, if_neg (by omega)], by rw [if_neg (by omega), Array.getElem?_setIfInBounds, if_neg (by omega), zero103 k hk']⟩
      · refine .inl ⟨by rw [if_pos (by omega)]; congr 1; omega, fun y hy => ?_⟩
        rw [fromG, if_pos (by omega)] at hy
        exact hy

theorem delA_leaf {K : Value → World → Prop} {Kp : KP} {b : Nat} {cs : Array Value} (hF : F b) (hb : w.heap[b]? = some (.cells cs 103 (0, 0))) (hl : Leaf cs g)
    (hK : ∀ v' w' F', Frm (fun b => m = true ∧ F b) w w' → Rep m w' 0 v' (uptoG (slot 0 i) g) F' → (∀ b, F' b → F b ∨ w.heap.size ≤ b) → K v' w') :
    Calls Try.prog 85 #[ptr b, .int .i64 i, .bool m] w (ret K Kp) := by
  refine vc85_calls ?_
  have hs := slot_lt 0 i
  obtain ⟨h1, ⟨o, h2, h3⟩, h4⟩ := id hl
  simp only [vc85, call_83]
  refine contA_leaf hb hl fun c => ?_
  cases c with
  | false =>
    simp [ptr]
    refine hK _ _ F Frm.refl ⟨b, cs, rfl, hF, hb, hl.keep h1 h2 h3 fun j hj => .inl ⟨rfl, fun y hy => ?_⟩⟩ fun _ h => .inl h
    simp only [uptoG] at hy
    split at hy
    · exact hy
    · cases hy
  | true =>
    cases m with
    | true =>
      simp [-getElem?_pos, -Array.getElem?_eq_getElem, ptr, and31, ← slot_zero]
      obtain ⟨I, hI⟩ : ∃ I : Value → World → Prop, ∀ v w', I v w' ↔ ∃ (j : Nat) (cs' : Array Value), v = .int .i64 j ∧ slot 0 i < j ∧ j ≤ 32 ∧ w' = w.upd b (.cells cs' 103 (0, 0)) ∧ cs'.size = 33 ∧ cs'[32]? = cs[32]? ∧ (∀ k : Nat, k < 32 → cs'[k]? = if slot 0 i < k ∧ k < j then some (.int .i64 0) else cs[k]?) := ⟨_, fun _ _ => Iff.rfl⟩
      rw [wrap_small _ rfl (by omega) (by omega)]
      refine Lp.intro I (fun v _ => 32 - (match v with | .int _ j => j.toNat | _ => 0)) ⟨(hI _ _).2 ⟨slot 0 i + 1, cs, rfl, by omega, by omega, (upd_id hb).symm, h1, rfl, fun k _ => by rw [if_neg (by omega)]⟩, ?_⟩
      intro wl s hI0
      obtain ⟨j, cs', rfl, hj, hj2, rfl, hz, h32, hk⟩ := (hI _ _).1 hI0
      simp only [op_lss, Br_dec]
      refine ⟨fun hlt => ?_, fun hnl => ?_⟩
      · simp [-getElem?_pos, -Array.getElem?_eq_getElem, ptr, add_spot, heap_upd_same hb, and_assoc, hz, upd_upd]
        rw [wrap_small _ rfl (by omega) (by omega)]
        refine ⟨by omega, by omega, (hI _ _).2 ⟨j + 1, _, rfl, by omega, by omega, rfl, by simp [hz], ?_, fun k hk' => ?_⟩, by omega⟩
        · rw [Array.getElem?_setIfInBounds, if_neg (by omega), h32]
        · rw [Array.getElem?_setIfInBounds]
          by_cases e : j = k
          · subst e; rw [if_pos rfl, if_pos (by omega), if_pos (by omega)]
          · rw [if_neg e, hk k hk']
            by_cases h : slot 0 i < k ∧ k < j
            · rw [if_pos h, if_pos (by omega)]
            · rw [if_neg h, if_neg (by omega)]
      · simp [-getElem?_pos, -Array.getElem?_eq_getElem, ptr, add_spot, heap_upd_same hb, and_assoc, hz, upd_upd, h32, h2, heap_upd_same (w := w.drew) hb]
        refine ⟨by omega, hK _ _ F ((Frm.drew w).trans (Frm.upd _ _ fun _ => ⟨rfl, hF⟩) fun _ h _ => h) ⟨b, _, rfl, hF, heap_upd_same (w := w.drew) hb, hl.keep (by simp [hz]) (by rw [Array.getElem?_setIfInBounds]; simp [hz]; rfl) (bits_u32 ..) fun k hk' => ?_⟩ fun _ h => .inl h⟩
        rw [Array.getElem?_setIfInBounds, if_neg (by omega), hk k hk']
        by_cases h : slot 0 i < k ∧ k < j
        · exact .inr ⟨by rw [uptoG, if_neg (by omega)], by rw [if_pos h]⟩
        · refine .inl ⟨by rw [if_neg h], fun y hy => ?_⟩
          rw [uptoG, if_pos (by omega)] at hy
          exact hy
    | false =>
      simp [-getElem?_pos, -Array.getElem?_eq_getElem, ptr, and31, ← slot_zero, add_spot, hb, h2]
      have hz0 : (zero_103.setIfInBounds 32 (.int .u32 o)).size = 33 := by simp [zero_103]
      rw [wrap_small _ rfl (by omega) (by omega)]
      refine ⟨by omega, by omega, by omega, by omega, op_copy und22 sz2 (hp_alloc_eq rfl) (hp_alloc_lt (w := w.drew) hb) (n := slot 0 i + 1) (by simp; try omega) (by omega) (by omega) (Leaf.one hl) fun cs1 hz1 hc1 => ?_⟩
      have h32 : cs1[32]? = some (.int .u32 o) := by
        rw [hc1, if_neg (by omega), Array.getElem?_setIfInBounds]; simp [zero_103]
      have hz1 : cs1.size = 33 := by rw [hz1, hz0]
      simp [-getElem?_pos, -Array.getElem?_eq_getElem, alloc_upd, hp_alloc_eq, h32, and_assoc, hz1]
      refine ⟨by omega, hK _ _ (fun b => b = w.heap.size) (((Frm.drew w).trans (Frm.drew _) fun _ h _ => h).trans (Frm.alloc _ _) fun _ h _ => h) ⟨_, _, rfl, rfl, hp_alloc_eq rfl, hl.keep (by simp [hz1]) (by rw [Array.getElem?_setIfInBounds]; simp [hz1]; rfl) (bits_u32 ..) fun k hk' => ?_⟩ fun _ h => .inr (by omega)⟩
      rw [Array.getElem?_setIfInBounds, if_neg (by omega), hc1]
      by_cases h : slot 0 i < k
      · exact .inr ⟨by rw [uptoG, if_neg (by omega)], by rw [if_neg (by omega), Array.getElem?_setIfInBounds, if_neg (by omega), zero103 k hk']⟩
      · refine .inl ⟨by rw [if_pos (by omega)]; congr 1; omega, fun y hy => ?_⟩
        rw [uptoG, if_pos (by omega)] at hy
        exact hy

end Go.Proofs.Ytjlaclgikmmmlaa
