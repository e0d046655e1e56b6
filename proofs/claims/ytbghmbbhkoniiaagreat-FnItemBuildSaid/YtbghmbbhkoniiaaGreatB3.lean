import Derived.Test.YtbghmbbhkoniiaaGreatB2
import Derived.Test.YtbghmbbhkoniiaaGreatB0
import Derived.Laws.StructEq
import Derived.Test.YtbghmbbhkoniiaaGreatB1
set_option linter.unusedSimpArgs false
set_option linter.unusedVariables false
set_option linter.unusedSectionVars false
set_option maxRecDepth 100000
set_option maxHeartbeats 4000000
section
/- Deleting a key from a leaf. -/
namespace Go.Proofs.YtbghmbbhkoniiaaGreat.I
open Go.Vc Go.Proofs Go.Proofs.YtbghmbbhkoniiaaGreat Go.Vc.Nd
variable {w w' : World} {v hv : Value} {t : Tr} {F : Nat → Prop} {K : KV} {Kp : KP} {hash : Ky → Nat} {k : Ky} {l s rb : Nat} {mu : Bool}
def Dels (w : World) (mu : Bool) (F : Nat → Prop) (rb : Nat) (v : Value) (dl : Bool) (t' : Tr) (K : KV) : Prop :=
  (dl = false → ∀ w', Frm (fun _ => False) w w' → K v w') ∧ (dl = true → Sets w mu F rb true t' K)
def DelC (hv : Value) (hash : Ky → Nat) (k : Ky) (mu : Bool) (rb s : Nat) (t t' : Tr) (dl : Bool) : Prop :=
  ∀ {w : World} {v : Value} {F : Nat → Prop} {K : KV} {Kp : KP}, Rep w t v F → flag w rb false → ¬ F rb → Dels w mu F rb v dl t' K →
    (nice Tryz.prog).call (.inv v "pub-bracken/pub/immutable.delete") [ek k, .int .u64 s, .int .u32 (hash k), hv, .bool mu, ptr rb] w K Kp
theorem ents_erase (es : List (Ky × Vl)) (i : Nat) : ents (es.eraseIdx i) = (ents es).take (i * 2) ++ (ents es).drop (i * 2 + 2) := by
  rw [List.eraseIdx_eq_take_drop_succ, ents_append, ents_take, show i * 2 + 2 = (i + 1) * 2 from by omega, ents_drop]
theorem lw_keep {xs l : List Value} {o : Nat} (h : o ≤ xs.length) : (lw xs o l).take o = xs.take o := by
  rw [lw, List.append_assoc, List.take_append_of_le_length (by simp; omega), List.take_take, Nat.min_self]
theorem delV_ok {h' : Nat} {k' : Ky} {x' : Vl} (hH : IsH hv hash) : DelC hv hash k mu rb s (.val h' k' x') (if k' = k then .emp else .val h' k' x') (decide (k' = k)) := by
  intro w v F K Kp h hr hrb hK
  have h0 := h
  obtain ⟨b, rfl, h2, h3⟩ := h
  simp only [inv_160_105]
  refine vc105_calls ?_
  simp [-getElem?_pos, -Array.getElem?_eq_getElem, -Int.natCast_add, add_spot, and_assoc, Br_dec, -op_box, -op_st_4, -op_st_22, -op_st_107, -op_st_157, -op_st_185, -op_st_156, -op_st_144, -op_st_2, -op_st_191, -op_alloc_159, -op_alloc_156, -op_alloc_191, -op_lit_157_1, -op_lit_157_2, -op_lit_185_1, -op_lit_185_2, vc105, ptr, h3, hH.nilE]
  refine hH.eqv fun w1 k1 => ?_
  have k1 := Frm.dr k1
  have hr' := hr.frame k1 id
  by_cases hk : k' = k
  · rw [if_pos hk, decide_eq_true hk] at hK
    have hK := hK.2 rfl
    simp [-getElem?_pos, -Array.getElem?_eq_getElem, -Int.natCast_add, add_spot, and_assoc, Br_dec, -op_box, -op_st_4, -op_st_22, -op_st_107, -op_st_157, -op_st_185, -op_st_156, -op_st_144, -op_st_2, -op_st_191, -op_alloc_159, -op_alloc_156, -op_alloc_191, -op_lit_157_1, -op_lit_157_2, -op_lit_185_1, -op_lit_185_2, hk]
    refine raise_ok hr' fun w2 k2 z2 f2 => ?_
    exact hK _ w2 (fun _ => False) ((k1.fst k2).to fun c hc => .inl hc) rfl (fun _ h => h.elim) f2
  · rw [if_neg hk, decide_eq_false hk] at hK
    simp [-getElem?_pos, -Array.getElem?_eq_getElem, -Int.natCast_add, add_spot, and_assoc, Br_dec, -op_box, -op_st_4, -op_st_22, -op_st_107, -op_st_157, -op_st_185, -op_st_156, -op_st_144, -op_st_2, -op_st_191, -op_alloc_159, -op_alloc_156, -op_alloc_191, -op_lit_157_1, -op_lit_157_2, -op_lit_185_1, -op_lit_185_2, hk]
    exact hK.1 rfl w1 k1
theorem delC_ok {h' p : Nat} {es : List (Ky × Vl)} (hH : IsH hv hash) (hz : es.length ≤ 1000000) (h2e : 2 ≤ es.length) : DelC hv hash k mu rb s (.col h' es) (delIn (hash k) k (.col h' es) l) (find es k).isSome := by
  intro w v F K Kp h hr hrb hK
  have h0 := h
  obtain ⟨b, g, cap, rfl, h2, h3, h4, hb, h6, hg⟩ := h
  simp only [inv_163_110]
  refine vc110_calls ?_
  have hne : b ≠ rb := fun e => hrb (e ▸ h2)
  have hgr : g ≠ rb := fun e => hrb (e ▸ h3)
  simp [-getElem?_pos, -Array.getElem?_eq_getElem, -Int.natCast_add, add_spot, and_assoc, Br_dec, -op_box, -op_st_4, -op_st_22, -op_st_107, -op_st_157, -op_st_185, -op_st_156, -op_st_144, -op_st_2, -op_st_191, -op_alloc_159, -op_alloc_156, -op_alloc_191, -op_lit_157_1, -op_lit_157_2, -op_lit_185_1, -op_lit_185_2, vc110, ptr]
  refine indexC_ok hH hb hg h6 fun w1 k1 => ?_
  have hb1 := k1.get hb id
  have hg1 := hg.frame k1 id
  have hr1 := hr.frame k1 id
  have n1 := k1.size
  have hc := hg.cap_le h6
  have l1 := lt_of_get hb
  have l2 := lt_of_get hr
  have l3 := hg.lt
  rw [delIn] at hK
  cases hx : find es k with
  | none =>
    rw [hx] at hK
    simp [-getElem?_pos, -Array.getElem?_eq_getElem, -Int.natCast_add, add_spot, and_assoc, Br_dec, -op_box, -op_st_4, -op_st_22, -op_st_107, -op_st_157, -op_st_185, -op_st_156, -op_st_144, -op_st_2, -op_st_191, -op_alloc_159, -op_alloc_156, -op_alloc_191, -op_lit_157_1, -op_lit_157_2, -op_lit_185_1, -op_lit_185_2, idxV]
    exact hK.1 rfl w1 k1
  | some i =>
    obtain ⟨hi, hik, _⟩ := find_some hx
    rw [hx] at hK
    have hK := hK.2 rfl
    dsimp only at hK
    rw [Sets] at hK
    have hcast : ((es.length : Int) = 2) ↔ es.length = 2 := by omega
    have hi1 : ¬ ((i : Int) = -1) := by omega
    simp [-getElem?_pos, -Array.getElem?_eq_getElem, -Int.natCast_add, add_spot, and_assoc, Br_dec, -op_box, -op_st_4, -op_st_22, -op_st_107, -op_st_157, -op_st_185, -op_st_156, -op_st_144, -op_st_2, -op_st_191, -op_alloc_159, -op_alloc_156, -op_alloc_191, -op_lit_157_1, -op_lit_157_2, -op_lit_185_1, -op_lit_185_2, idxV, hi1]
    refine raise_ok hr1 fun w2 k2 z2 f2 => ?_
    have hb2 := k2.get hb1 hne
    have hg2 := hg1.frame k2 hgr
    simp [-getElem?_pos, -Array.getElem?_eq_getElem, -Int.natCast_add, add_spot, and_assoc, Br_dec, -op_box, -op_st_4, -op_st_22, -op_st_107, -op_st_157, -op_st_185, -op_st_156, -op_st_144, -op_st_2, -op_st_191, -op_alloc_159, -op_alloc_156, -op_alloc_191, -op_lit_157_1, -op_lit_157_2, -op_lit_185_1, -op_lit_185_2, hb2, hcast]
    refine ⟨fun hlen => ?_, fun hlen => ⟨fun hm => ?_, fun hm => ?_⟩⟩
    · obtain ⟨a, c, rfl⟩ : ∃ a c, es = [a, c] := by
        match es, hlen with
        | [a, c], _ => exact ⟨a, c, rfl⟩
      have hx0 : bitsV .xor .i64 0 1 = 1 := by decide
      have hx1 : bitsV .xor .i64 1 1 = 0 := by decide
      obtain ⟨cur, hcur, hk⟩ := key_cell hg2
      have hk0 := hk 0 (by simp)
      have hk1 := hk 1 (by simp)
      simp only [Nat.zero_mul, Nat.zero_add, Nat.one_mul, List.getElem_cons_zero, List.getElem_cons_succ] at hk0 hk1
      have hk0a := hk0.1
      have hk0b := hk0.2
      have hk1a := hk1.1
      have hk1b := hk1.2
      have hi2 : i = 0 ∨ i = 1 := by simp at hi; omega
      rcases hi2 with rfl | rfl
      · simp [-getElem?_pos, -Array.getElem?_eq_getElem, -Int.natCast_add, add_spot, and_assoc, Br_dec, -op_box, -op_st_4, -op_st_22, -op_st_107, -op_st_157, -op_st_185, -op_st_156, -op_st_144, -op_st_2, -op_st_191, -op_alloc_159, -op_alloc_156, -op_alloc_191, -op_lit_157_1, -op_lit_157_2, -op_lit_185_1, -op_lit_185_2, hx0, hcur, hk1a, hk1b]
        refine op_box_ok fun w3 k3 z3 b3 => ?_
        refine hK _ w3 (fun d => d = w2.heap.size) ((k1.fst (k2.old (Frm.dr k3) fun _ h => h.elim)).to fun c hc => .inl hc) ⟨_, rfl, by simp, by simpa using b3⟩ (fun d hd => .inr (by omega)) (by simpa using f2.frame (Frm.dr k3) id)
      · simp [-getElem?_pos, -Array.getElem?_eq_getElem, -Int.natCast_add, add_spot, and_assoc, Br_dec, -op_box, -op_st_4, -op_st_22, -op_st_107, -op_st_157, -op_st_185, -op_st_156, -op_st_144, -op_st_2, -op_st_191, -op_alloc_159, -op_alloc_156, -op_alloc_191, -op_lit_157_1, -op_lit_157_2, -op_lit_185_1, -op_lit_185_2, hx1, hcur, hk0a, hk0b]
        refine op_box_ok fun w3 k3 z3 b3 => ?_
        refine hK _ w3 (fun d => d = w2.heap.size) ((k1.fst (k2.old (Frm.dr k3) fun _ h => h.elim)).to fun c hc => .inl hc) ⟨_, rfl, by simp, by simpa using b3⟩ (fun d hd => .inr (by omega)) (by simpa using f2.frame (Frm.dr k3) id)
    · have hw : IntKind.i64.wrap ((i : Int) + 1) = ((i + 1 : Nat) : Int) := by rw [IntKind.wrap_i64]; omega
      have hw1 : IntKind.i64.wrap ((es.length : Int) - 1) = ((es.length - 1 : Nat) : Int) := by rw [IntKind.wrap_i64]; omega
      simp [-getElem?_pos, -Array.getElem?_eq_getElem, -Int.natCast_add, add_spot, and_assoc, Br_dec, -op_box, -op_st_4, -op_st_22, -op_st_107, -op_st_157, -op_st_185, -op_st_156, -op_st_144, -op_st_2, -op_st_191, -op_alloc_159, -op_alloc_156, -op_alloc_191, -op_lit_157_1, -op_lit_157_2, -op_lit_185_1, -op_lit_185_2, hw]
      refine ⟨by omega, h6, by omega, h6, ?_⟩
      refine op_copyX (n := es.length - i - 1) (x1 := i) (x2 := i + 1) (by kernel_rfl) hg2.drew hg2.drew (by split; exact .inr ⟨rfl, by omega⟩; exact .inl (by simp)) (by split; exact .inr ⟨rfl, by omega⟩; exact .inl (by simp)) (by omega) (by rw [ents_len]; omega) (by rw [ents_len]; omega) ents_one fun w3 k3 z3 q3 => ?_
      have k3 := Frm.dr k3
      have hb3 := k3.get hb2 (fun e => h4 e.symm)
      have f3 := f2.frame k3 (fun e => hgr e.symm)
      have hlt1 : es.length - 1 < es.length := by omega
      simp [-getElem?_pos, -Array.getElem?_eq_getElem, -Int.natCast_add, add_spot, and_assoc, Br_dec, -op_box, -op_st_4, -op_st_22, -op_st_107, -op_st_157, -op_st_185, -op_st_156, -op_st_144, -op_st_2, -op_st_191, -op_alloc_159, -op_alloc_156, -op_alloc_191, -op_lit_157_1, -op_lit_157_2, -op_lit_185_1, -op_lit_185_2, hb3, hw1, hlt1]
      have hdel := del_mut (A := ents es) (r := i * 2) (m := 2) (by rw [ents_len]; omega)
      rw [← ents_erase, ents_len, show es.length * 2 - i * 2 - 2 = (es.length - i - 1) * 2 from by omega, show i * 2 + 2 = (i + 1) * 2 from by omega] at hdel
      have hl3 : (lw (ents es) (i * 2) (List.take ((es.length - i - 1) * 2) (List.drop ((i + 1) * 2) (ents es)))).length = es.length * 2 := by rw [lw_len (by simp [ents_len]; omega), ents_len]
      refine op_storeRN (n := 2) (by kernel_rfl) rfl q3.drew (by rw [hl3]; omega) (fun u hu => by simp at hu; first | subst hu; rfl | (rcases hu with rfl | rfl <;> rfl)) fun w4 k4 z4 q4 => ?_
      have k4 := Frm.dr k4
      have hb4 := k4.get hb3 (fun e => h4 e.symm)
      have f4 := f3.frame k4 (fun e => hgr e.symm)
      have q4 := q4.take ((es.length - 1) * 2)
      rw [lw_keep (by rw [hl3]; omega), show (es.length - 1) * 2 = es.length * 2 - 2 from by omega, hdel] at q4
      have hle4 : es.length - 1 ≤ cap := by omega
      simp [-getElem?_pos, -Array.getElem?_eq_getElem, -Int.natCast_add, add_spot, and_assoc, Br_dec, -op_box, -op_st_4, -op_st_22, -op_st_107, -op_st_157, -op_st_185, -op_st_156, -op_st_144, -op_st_2, -op_st_191, -op_alloc_159, -op_alloc_156, -op_alloc_191, -op_lit_157_1, -op_lit_157_2, -op_lit_185_1, -op_lit_185_2, hb4, hw1, hle4]
      refine op_store_ok (by kernel_rfl) (show w4.drew.heap[b]? = _ from by simpa using hb4) (by simp) rfl fun w5 k5 z5 b5 => ?_
      have k5 := Frm.dr k5
      have q5 := q4.frame k5 h4
      have f5 := f4.frame k5 (fun e => hne e.symm)
      rw [if_neg hlen] at hK
      have hel : (es.eraseIdx i).length = es.length - 1 := by rw [List.length_eraseIdx, if_pos hi]
      refine hK _ w5 F ((k1.fst (k2.tr (k3.tr (k4.tr k5)))).to fun c hc => ?_) ⟨b, g, cap, rfl, h2, h3, h4, by rw [hel]; simpa using b5, by rw [hel]; omega, q5⟩ (fun _ h => .inl h) f5
      rcases hc with h | h | h | h
      · exact .inl h
      · exact .inr ⟨hm, by rw [h]; exact h3⟩
      · exact .inr ⟨hm, by rw [h]; exact h3⟩
      · exact .inr ⟨hm, by rw [h]; exact h2⟩
    · have hw : IntKind.i64.wrap ((i : Int) + 1) = ((i + 1 : Nat) : Int) := by rw [IntKind.wrap_i64]; omega
      have hw1 : IntKind.i64.wrap ((es.length : Int) - 1) = ((es.length - 1 : Nat) : Int) := by rw [IntKind.wrap_i64]; omega
      rw [hw1]
      refine op_make_ok (n := es.length - 1) apE rfl (by omega) fun w3 zs k3 z3 hzs q3 => ?_
      have k3 := Frm.dr k3
      simp only [heap_drew] at z3 q3
      have hb3 := k3.get hb2 id
      have hg3 := hg2.frame k3 id
      have f3 := f2.frame k3 id
      simp [-getElem?_pos, -Array.getElem?_eq_getElem, -Int.natCast_add, add_spot, and_assoc, Br_dec, -op_box, -op_st_4, -op_st_22, -op_st_107, -op_st_157, -op_st_185, -op_st_156, -op_st_144, -op_st_2, -op_st_191, -op_alloc_159, -op_alloc_156, -op_alloc_191, -op_lit_157_1, -op_lit_157_2, -op_lit_185_1, -op_lit_185_2, hb3]
      refine op_box_ok fun w4 k4 z4 b4 => ?_
      simp only [cells_agg] at b4
      have hb4 := k4.get hb3 id
      have hg4 := hg3.frame k4 id
      have q4 := q3.frame k4 id
      have f4 := f3.frame k4 id
      have hile : i ≤ es.length - 1 := by omega
      have hicap : i ≤ cap := by omega
      simp [-getElem?_pos, -Array.getElem?_eq_getElem, -Int.natCast_add, add_spot, and_assoc, Br_dec, -op_box, -op_st_4, -op_st_22, -op_st_107, -op_st_157, -op_st_185, -op_st_156, -op_st_144, -op_st_2, -op_st_191, -op_alloc_159, -op_alloc_156, -op_alloc_191, -op_lit_157_1, -op_lit_157_2, -op_lit_185_1, -op_lit_185_2, b4, hb4, hile, hicap]
      refine op_copyX (n := i) (x1 := 0) (x2 := 0) (by kernel_rfl) q4.drew hg4.drew (.inl rfl) (.inl rfl) (by omega) (by omega) (by rw [ents_len]; omega) ents_one fun w5 k5 z5 q5 => ?_
      have k5 := Frm.dr k5
      have b5 := k5.get b4 (by omega)
      have hb5 := k5.get hb4 (by omega)
      have hg5 := hg4.frame k5 (by omega)
      have f5 := f4.frame k5 (by omega)
      simp only [Nat.zero_mul, List.drop_zero] at q5
      simp [-getElem?_pos, -Array.getElem?_eq_getElem, -Int.natCast_add, add_spot, and_assoc, Br_dec, -op_box, -op_st_4, -op_st_22, -op_st_107, -op_st_157, -op_st_185, -op_st_156, -op_st_144, -op_st_2, -op_st_191, -op_alloc_159, -op_alloc_156, -op_alloc_191, -op_lit_157_1, -op_lit_157_2, -op_lit_185_1, -op_lit_185_2, b5, hb5, hw]
      refine ⟨hile, by omega, h6, ?_⟩
      have hdel := del_new (A := ents es) (zs := zs) (r := i * 2) (m := 2) (by rw [ents_len]; omega) (by rw [ents_len, hzs]; omega)
      rw [← ents_erase, ents_len, show es.length * 2 - i * 2 - 2 = (es.length - i - 1) * 2 from by omega, show i * 2 + 2 = (i + 1) * 2 from by omega] at hdel
      refine op_copyX (n := es.length - i - 1) (x1 := i) (x2 := i + 1) (by kernel_rfl) q5.drew hg5.drew (by split; exact .inr ⟨rfl, by omega⟩; exact .inl (by simp)) (by split; exact .inr ⟨rfl, by omega⟩; exact .inl (by simp)) (by omega)
        (by rw [lw_len (by simp [ents_len, hzs]; omega)]; omega) (by rw [ents_len]; omega) ents_one fun w6 k6 z6 q6 => ?_
      have k6 := Frm.dr k6
      have b6 := k6.get b5 (by omega)
      have f6 := f5.frame k6 (by omega)
      rw [hdel] at q6
      rw [if_neg hlen] at hK
      have hel : (es.eraseIdx i).length = es.length - 1 := by rw [List.length_eraseIdx, if_pos hi]
      have kall := k1.fst (k2.old (k3.fst (k4.fst (k5.tr k6))) fun c hc => .inr (by omega))
      refine hK _ w6 (fun c => c = w3.heap.size ∨ c = w2.heap.size) (kall.to fun c hc => .inl hc) ⟨w3.heap.size, w2.heap.size, es.length - 1, rfl, .inl rfl, .inr rfl, by omega, by rw [hel]; simpa using b6, by rw [hel]; omega, q6⟩ (fun c hc => .inr (by omega)) f6
end Go.Proofs.YtbghmbbhkoniiaaGreat.I
end
section
/- Deleting a key from the array of a root. -/
namespace Go.Proofs.YtbghmbbhkoniiaaGreat.I
open Go.Vc Go.Proofs Go.Proofs.YtbghmbbhkoniiaaGreat Go.Vc.Nd
variable {w : World} {v hv : Value} {F : Nat → Prop} {K : KV} {Kp : KP} {hash : Ky → Nat} {k : Ky} {rb : Nat} {mu : Bool}
theorem delA_ok {es : List (Ky × Vl)} {kh : Value} (hH : IsH hv hash) (hz : es.length ≤ 1000000) (h1e : 1 ≤ es.length) (h : Rep w (.arr es) v F) (hr : flag w rb false) (hrb : ¬ F rb) (hK : Dels w mu F rb v (find es k).isSome (Nd.del hash (.arr es) k) K) :
    (nice Tryz.prog).call (.inv v "pub-bracken/pub/immutable.delete") [ek k, .int .u64 0, kh, hv, .bool mu, ptr rb] w K Kp := by
  have h0 := h
  obtain ⟨b, g, cap, rfl, h2, h3, h4, hb, h6, hg⟩ := h
  simp only [inv_153_100]
  refine vc100_calls ?_
  have hne : b ≠ rb := fun e => hrb (e ▸ h2)
  have hgr : g ≠ rb := fun e => hrb (e ▸ h3)
  simp [-getElem?_pos, -Array.getElem?_eq_getElem, -Int.natCast_add, add_spot, and_assoc, Br_dec, -op_box, -op_st_4, -op_st_22, -op_st_107, -op_st_157, -op_st_185, -op_st_156, -op_st_144, -op_st_2, -op_st_191, -op_alloc_159, -op_alloc_156, -op_alloc_191, -op_lit_157_1, -op_lit_157_2, -op_lit_185_1, -op_lit_185_2, vc100, ptr]
  refine indexA_ok hH hb hg h6 fun w1 k1 => ?_
  have hb1 := k1.get hb id
  have hg1 := hg.frame k1 id
  have hr1 := hr.frame k1 id
  have n1 := k1.size
  have hc := hg.cap_le h6
  have l1 := lt_of_get hb
  have l2 := lt_of_get hr
  have l3 := hg.lt
  rw [Nd.del] at hK
  cases hx : find es k with
  | none =>
    rw [hx] at hK
    simp [-getElem?_pos, -Array.getElem?_eq_getElem, -Int.natCast_add, add_spot, and_assoc, Br_dec, -op_box, -op_st_4, -op_st_22, -op_st_107, -op_st_157, -op_st_185, -op_st_156, -op_st_144, -op_st_2, -op_st_191, -op_alloc_159, -op_alloc_156, -op_alloc_191, -op_lit_157_1, -op_lit_157_2, -op_lit_185_1, -op_lit_185_2, idxV]
    exact hK.1 rfl w1 k1
  | some i =>
    obtain ⟨hi, hik, _⟩ := find_some hx
    rw [hx] at hK
    have hK := hK.2 rfl
    dsimp only at hK
    rw [Sets] at hK
    have hcast : ((es.length : Int) = 1) ↔ es.length = 1 := by omega
    have hi1 : ¬ ((i : Int) = -1) := by omega
    simp [-getElem?_pos, -Array.getElem?_eq_getElem, -Int.natCast_add, add_spot, and_assoc, Br_dec, -op_box, -op_st_4, -op_st_22, -op_st_107, -op_st_157, -op_st_185, -op_st_156, -op_st_144, -op_st_2, -op_st_191, -op_alloc_159, -op_alloc_156, -op_alloc_191, -op_lit_157_1, -op_lit_157_2, -op_lit_185_1, -op_lit_185_2, idxV, hi1]
    refine raise_ok hr1 fun w2 k2 z2 f2 => ?_
    have hb2 := k2.get hb1 hne
    have hg2 := hg1.frame k2 hgr
    simp [-getElem?_pos, -Array.getElem?_eq_getElem, -Int.natCast_add, add_spot, and_assoc, Br_dec, -op_box, -op_st_4, -op_st_22, -op_st_107, -op_st_157, -op_st_185, -op_st_156, -op_st_144, -op_st_2, -op_st_191, -op_alloc_159, -op_alloc_156, -op_alloc_191, -op_lit_157_1, -op_lit_157_2, -op_lit_185_1, -op_lit_185_2, hb2, hcast]
    refine ⟨fun hlen => ?_, fun hlen => ⟨fun hm => ?_, fun hm => ?_⟩⟩
    · rw [if_pos hlen] at hK
      exact hK _ w2 (fun _ => False) ((k1.fst k2).to fun c hc => .inl hc) rfl (fun _ h => h.elim) f2
    · have hw : IntKind.i64.wrap ((i : Int) + 1) = ((i + 1 : Nat) : Int) := by rw [IntKind.wrap_i64]; omega
      have hw1 : IntKind.i64.wrap ((es.length : Int) - 1) = ((es.length - 1 : Nat) : Int) := by rw [IntKind.wrap_i64]; omega
      simp [-getElem?_pos, -Array.getElem?_eq_getElem, -Int.natCast_add, add_spot, and_assoc, Br_dec, -op_box, -op_st_4, -op_st_22, -op_st_107, -op_st_157, -op_st_185, -op_st_156, -op_st_144, -op_st_2, -op_st_191, -op_alloc_159, -op_alloc_156, -op_alloc_191, -op_lit_157_1, -op_lit_157_2, -op_lit_185_1, -op_lit_185_2, hw]
      refine ⟨by omega, h6, by omega, h6, ?_⟩
      refine op_copyX (n := es.length - i - 1) (x1 := i) (x2 := i + 1) (by kernel_rfl) hg2.drew hg2.drew (by split; exact .inr ⟨rfl, by omega⟩; exact .inl (by simp)) (by split; exact .inr ⟨rfl, by omega⟩; exact .inl (by simp)) (by omega) (by rw [ents_len]; omega) (by rw [ents_len]; omega) ents_one fun w3 k3 z3 q3 => ?_
      have k3 := Frm.dr k3
      have hb3 := k3.get hb2 (fun e => h4 e.symm)
      have f3 := f2.frame k3 (fun e => hgr e.symm)
      have hlt1 : es.length - 1 < es.length := by omega
      simp [-getElem?_pos, -Array.getElem?_eq_getElem, -Int.natCast_add, add_spot, and_assoc, Br_dec, -op_box, -op_st_4, -op_st_22, -op_st_107, -op_st_157, -op_st_185, -op_st_156, -op_st_144, -op_st_2, -op_st_191, -op_alloc_159, -op_alloc_156, -op_alloc_191, -op_lit_157_1, -op_lit_157_2, -op_lit_185_1, -op_lit_185_2, hb3, hw1, hlt1]
      have hdel := del_mut (A := ents es) (r := i * 2) (m := 2) (by rw [ents_len]; omega)
      rw [← ents_erase, ents_len, show es.length * 2 - i * 2 - 2 = (es.length - i - 1) * 2 from by omega, show i * 2 + 2 = (i + 1) * 2 from by omega] at hdel
      have hl3 : (lw (ents es) (i * 2) (List.take ((es.length - i - 1) * 2) (List.drop ((i + 1) * 2) (ents es)))).length = es.length * 2 := by rw [lw_len (by simp [ents_len]; omega), ents_len]
      refine op_storeRN (n := 2) (by kernel_rfl) rfl q3.drew (by rw [hl3]; omega) (fun u hu => by simp at hu; first | subst hu; rfl | (rcases hu with rfl | rfl <;> rfl)) fun w4 k4 z4 q4 => ?_
      have k4 := Frm.dr k4
      have hb4 := k4.get hb3 (fun e => h4 e.symm)
      have f4 := f3.frame k4 (fun e => hgr e.symm)
      have q4 := q4.take ((es.length - 1) * 2)
      rw [lw_keep (by rw [hl3]; omega), show (es.length - 1) * 2 = es.length * 2 - 2 from by omega, hdel] at q4
      have hle4 : es.length - 1 ≤ cap := by omega
      simp [-getElem?_pos, -Array.getElem?_eq_getElem, -Int.natCast_add, add_spot, and_assoc, Br_dec, -op_box, -op_st_4, -op_st_22, -op_st_107, -op_st_157, -op_st_185, -op_st_156, -op_st_144, -op_st_2, -op_st_191, -op_alloc_159, -op_alloc_156, -op_alloc_191, -op_lit_157_1, -op_lit_157_2, -op_lit_185_1, -op_lit_185_2, hb4, hw1, hle4]
      refine op_store_ok (by kernel_rfl) (show w4.drew.heap[b]? = _ from by simpa using hb4) (by simp) rfl fun w5 k5 z5 b5 => ?_
      have k5 := Frm.dr k5
      have q5 := q4.frame k5 h4
      have f5 := f4.frame k5 (fun e => hne e.symm)
      rw [if_neg hlen] at hK
      have hel : (es.eraseIdx i).length = es.length - 1 := by rw [List.length_eraseIdx, if_pos hi]
      refine hK _ w5 F ((k1.fst (k2.tr (k3.tr (k4.tr k5)))).to fun c hc => ?_) ⟨b, g, cap, rfl, h2, h3, h4, by rw [hel]; simpa using b5, by rw [hel]; omega, q5⟩ (fun _ h => .inl h) f5
      rcases hc with h | h | h | h
      · exact .inl h
      · exact .inr ⟨hm, by rw [h]; exact h3⟩
      · exact .inr ⟨hm, by rw [h]; exact h3⟩
      · exact .inr ⟨hm, by rw [h]; exact h2⟩
    · have hw : IntKind.i64.wrap ((i : Int) + 1) = ((i + 1 : Nat) : Int) := by rw [IntKind.wrap_i64]; omega
      have hw1 : IntKind.i64.wrap ((es.length : Int) - 1) = ((es.length - 1 : Nat) : Int) := by rw [IntKind.wrap_i64]; omega
      rw [hw1]
      refine op_make_ok (n := es.length - 1) apE rfl (by omega) fun w3 zs k3 z3 hzs q3 => ?_
      have hb3 := k3.get hb2 id
      have hg3 := hg2.frame k3 id
      have f3 := f2.frame k3 id
      simp [-getElem?_pos, -Array.getElem?_eq_getElem, -Int.natCast_add, add_spot, and_assoc, Br_dec, -op_box, -op_st_4, -op_st_22, -op_st_107, -op_st_157, -op_st_185, -op_st_156, -op_st_144, -op_st_2, -op_st_191, -op_alloc_159, -op_alloc_156, -op_alloc_191, -op_lit_157_1, -op_lit_157_2, -op_lit_185_1, -op_lit_185_2]
      refine op_box_ok fun w4 k4 z4 b4 => ?_
      simp only [cells_agg] at b4
      have hb4 := k4.get hb3 id
      have hg4 := hg3.frame k4 id
      have q4 := q3.frame k4 id
      have f4 := f3.frame k4 id
      have hile : i ≤ es.length - 1 := by omega
      have hicap : i ≤ cap := by omega
      simp [-getElem?_pos, -Array.getElem?_eq_getElem, -Int.natCast_add, add_spot, and_assoc, Br_dec, -op_box, -op_st_4, -op_st_22, -op_st_107, -op_st_157, -op_st_185, -op_st_156, -op_st_144, -op_st_2, -op_st_191, -op_alloc_159, -op_alloc_156, -op_alloc_191, -op_lit_157_1, -op_lit_157_2, -op_lit_185_1, -op_lit_185_2, b4, hb4, hile, hicap]
      refine op_copyX (n := i) (x1 := 0) (x2 := 0) (by kernel_rfl) q4.drew hg4.drew (.inl rfl) (.inl rfl) (by omega) (by omega) (by rw [ents_len]; omega) ents_one fun w5 k5 z5 q5 => ?_
      have k5 := Frm.dr k5
      have b5 := k5.get b4 (by omega)
      have hb5 := k5.get hb4 (by omega)
      have hg5 := hg4.frame k5 (by omega)
      have f5 := f4.frame k5 (by omega)
      simp only [Nat.zero_mul, List.drop_zero] at q5
      simp [-getElem?_pos, -Array.getElem?_eq_getElem, -Int.natCast_add, add_spot, and_assoc, Br_dec, -op_box, -op_st_4, -op_st_22, -op_st_107, -op_st_157, -op_st_185, -op_st_156, -op_st_144, -op_st_2, -op_st_191, -op_alloc_159, -op_alloc_156, -op_alloc_191, -op_lit_157_1, -op_lit_157_2, -op_lit_185_1, -op_lit_185_2, b5, hb5, hw]
      refine ⟨hile, by omega, h6, ?_⟩
      have hdel := del_new (A := ents es) (zs := zs) (r := i * 2) (m := 2) (by rw [ents_len]; omega) (by rw [ents_len, hzs]; omega)
      rw [← ents_erase, ents_len, show es.length * 2 - i * 2 - 2 = (es.length - i - 1) * 2 from by omega, show i * 2 + 2 = (i + 1) * 2 from by omega] at hdel
      refine op_copyX (n := es.length - i - 1) (x1 := i) (x2 := i + 1) (by kernel_rfl) q5.drew hg5.drew (by split; exact .inr ⟨rfl, by omega⟩; exact .inl (by simp)) (by split; exact .inr ⟨rfl, by omega⟩; exact .inl (by simp)) (by omega)
        (by rw [lw_len (by simp [ents_len, hzs]; omega)]; omega) (by rw [ents_len]; omega) ents_one fun w6 k6 z6 q6 => ?_
      have k6 := Frm.dr k6
      have b6 := k6.get b5 (by omega)
      have f6 := f5.frame k6 (by omega)
      rw [hdel] at q6
      rw [if_neg hlen] at hK
      have hel : (es.eraseIdx i).length = es.length - 1 := by rw [List.length_eraseIdx, if_pos hi]
      have kall := k1.fst (k2.old (k3.fst (k4.fst (k5.tr k6))) fun c hc => .inr (by omega))
      refine hK _ w6 (fun c => c = w3.heap.size ∨ c = w2.heap.size) (kall.to fun c hc => .inl hc) ⟨w3.heap.size, w2.heap.size, es.length - 1, rfl, .inl rfl, .inr rfl, by omega, by rw [hel]; simpa using b6, by rw [hel]; omega, q6⟩ (fun c hc => .inr (by omega)) f6
end Go.Proofs.YtbghmbbhkoniiaaGreat.I
end
section
/- Deleting a key from a branch. -/
namespace Go.Proofs.YtbghmbbhkoniiaaGreat.I
open Go.Vc Go.Proofs Go.Proofs.YtbghmbbhkoniiaaGreat Go.Vc.Nd
variable {w : World} {v hv : Value} {t : Tr} {F : Nat → Prop} {K : KV} {Kp : KP} {hash : Ky → Nat} {k : Ky} {l s rb : Nat} {mu : Bool}
theorem eq_nil (h : Rep w t v F) {wz : World} {K : KV} {Kp : KP} : (nice Tryz.prog).op (.bin .eql 107 false true v .nilIface) wz K Kp = K (.bool t.isEmp) wz := by
  by_cases e : t = .emp
  · subst e; rw [h.nil]; simp [Nd.isEmp]
  · obtain ⟨u, c, hv⟩ := h.iface e
    have he' : t.isEmp = false := by cases h : t.isEmp; rfl; exact absurd (isEmp_iff.1 h) e
    rw [hv, he']; simp
theorem delB_ok {f : Nat → Tr} {p i : Nat} {t' T : Tr} (hH : IsH hv hash) (hl : l ≤ 6) (hs : s = 5 * l) (hi0 : frag l (hash k) = i) (dl : Bool) (he : f i = .emp → dl = false)
    (hT : dl = true → T = if t'.isEmp then (if Nd.cnt f = 1 then .emp else .br false (Nd.put f i .emp)) else .br false (Nd.put f i t'))
    (child : f i ≠ .emp → DelC hv hash k mu rb (s + 5) (f i) t' dl) : DelC hv hash k mu rb s (.br false f) T dl := by
  intro w v F K Kp h hr hrb hK
  have hi := frag_lt l (hash k)
  have hfr := frag_eq (hH.lt k) hs hl
  rw [hi0] at hi hfr
  obtain ⟨b, g, cap, vs, Fs0, rfl, h2, h3, h4, hb, h6, hg, h8, h9⟩ := h
  have hF : ∀ j, j < 32 → ∀ c, Fs0 j c → F c := fun j hj c hc => (h9 j hj c hc).1
  have hkin0 : Kin w f vs Fs0 (fun c => c = b ∨ c = g) := ⟨h8, fun j hj c hc => ⟨fun e => e.elim (h9 j hj c hc).2.1 (h9 j hj c hc).2.2.1, (h9 j hj c hc).2.2.2⟩⟩
  obtain ⟨Fs, hkin, hFl⟩ : ∃ Fs : Nat → Nat → Prop, Kin w f vs Fs (fun c => c = b ∨ c = g) ∧ ∀ j, j < 32 → ∀ c, Fs j c → F c ∧ c < w.heap.size := ⟨_, hkin0.lt, fun j hj c hc => ⟨hF j hj c hc.1, hc.2⟩⟩
  clear h8 h9 hF hkin0
  simp only [inv_184_127]
  refine vc127_calls ?_
  have hbit := bit_eq hi
  have hand := and_u32 (bm_lt (f := f)) (two_pow_lt hi)
  have hxor := xor_u32 (bm_lt (f := f)) (two_pow_lt hi)
  have hless := bit_less hi
  have hpos := Nat.pow_pos (n := i) (show 0 < 2 by decide)
  have hbel := and_u32 (bm_lt (f := f)) (b := 2 ^ i - 1) (by have := two_pow_lt hi; omega)
  have hz := bm_and_zero (f := f) i hi
  have hpop := pop_rk (f := f) (i := i) (by omega)
  have hlt2 : bm f &&& (2 ^ i - 1) < 2 ^ 32 := Nat.lt_of_le_of_lt Nat.and_le_left bm_lt
  have hbm := fun e => bm_xor (f := f) hi e
  have hns := next_shift hs hl
  have hne : b ≠ rb := fun e => hrb (e ▸ h2)
  have hgr : g ≠ rb := fun e => hrb (e ▸ h3)
  have l1 := lt_of_get hb
  have l2 := lt_of_get hr
  have l3 := hg.lt
  generalize hB : bm f &&& 2 ^ i = B at *
  generalize hO : bm f ^^^ 2 ^ i = O at *
  generalize hC : bm f &&& (2 ^ i - 1) = C at *
  generalize hy : (2 : Nat) ^ i = y at *
  have hzB : ((B : Int) = 0) ↔ f i = .emp := by rw [← hz]; omega
  simp [-getElem?_pos, -Array.getElem?_eq_getElem, -Int.natCast_add, add_spot, and_assoc, Br_dec, -op_box, -op_st_4, -op_st_22, -op_st_107, -op_st_157, -op_st_185, -op_st_156, -op_st_144, -op_st_2, -op_st_191, -op_alloc_159, -op_alloc_156, -op_alloc_191, -op_lit_157_1, -op_lit_157_2, -op_lit_185_1, -op_lit_185_2, vc127, ptr, hb, hfr, hbit, hand, -Int.natCast_eq_zero, hzB]
  refine ⟨fun e => hK.1 (he e) w Frm.refl, fun e => ?_⟩
  rw [hless, hbel]
  refine pop_ok hlt2 fun w2 k2 => ?_
  rw [hpop]
  have hb2 := k2.get hb id
  have hg2 := hg.frame k2 id
  have f2 := hr.frame k2 id
  have n2 := k2.size
  have hkin1 : ∀ j, j < 32 → Rep w2 (f j) (vs j) (Fs j) := fun j hj => (hkin.1 j hj).still k2
  obtain ⟨cur, hcur, hk⟩ := kid_cell hg2
  have hk' := hk i hi e
  have hrl := rk_lt (f := f) hi e
  rw [← cnt_rk] at hrl
  have he' : (f i).isEmp = false := by cases h : (f i).isEmp; rfl; exact absurd (isEmp_iff.1 h) e
  simp [-getElem?_pos, -Array.getElem?_eq_getElem, -Int.natCast_add, add_spot, and_assoc, Br_dec, -op_box, -op_st_4, -op_st_22, -op_st_107, -op_st_157, -op_st_185, -op_st_156, -op_st_144, -op_st_2, -op_st_191, -op_alloc_159, -op_alloc_156, -op_alloc_191, -op_lit_157_1, -op_lit_157_2, -op_lit_185_1, -op_lit_185_2, hb2, hcur, hk', hns, hrl]
  refine child e (hkin1 i hi) f2 (fun h => hrb (hFl i hi rb h).1) ⟨fun hd w3 k3 => ?_, fun hd nv w3 F0 k3 r30 hF10 f3 => ?_⟩
  · have f3 := f2.frame k3 id
    unfold flag at f3
    simp [-getElem?_pos, -Array.getElem?_eq_getElem, -Int.natCast_add, add_spot, and_assoc, Br_dec, -op_box, -op_st_4, -op_st_22, -op_st_107, -op_st_157, -op_st_185, -op_st_156, -op_st_144, -op_st_2, -op_st_191, -op_alloc_159, -op_alloc_156, -op_alloc_191, -op_lit_157_1, -op_lit_157_2, -op_lit_185_1, -op_lit_185_2, f3]
    exact hK.1 hd w3 (k2.no k3)
  have hK := hK.2 hd
  rw [hT hd] at hK
  obtain ⟨F1, r3, hF1⟩ : ∃ F1 : Nat → Prop, Rep w3 t' nv F1 ∧ ∀ c, F1 c → (Fs i c ∨ w2.heap.size ≤ c) ∧ c < w3.heap.size := ⟨fun c => F0 c ∧ c < w3.heap.size, r30.lt, fun c hc => ⟨hF10 c hc.1, hc.2⟩⟩
  have hft := f3
  unfold flag at hft
  have heq := fun {wz : World} {K : KV} {Kp : KP} => eq_nil r3 (wz := wz) (K := K) (Kp := Kp)
  simp [-getElem?_pos, -Array.getElem?_eq_getElem, -Int.natCast_add, add_spot, and_assoc, Br_dec, -op_box, -op_st_4, -op_st_22, -op_st_107, -op_st_157, -op_st_185, -op_st_156, -op_st_144, -op_st_2, -op_st_191, -op_alloc_159, -op_alloc_156, -op_alloc_191, -op_lit_157_1, -op_lit_157_2, -op_lit_185_1, -op_lit_185_2, hft, heq]
  clear hft
  have n3 := k3.size
  have hbF : ¬ Fs i b := fun h => (hkin.2 i hi b h).1 (.inl rfl)
  have hgF : ¬ Fs i g := fun h => (hkin.2 i hi g h).1 (.inr rfl)
  have hb3 := k3.get hb2 (fun h => h.elim hne fun h => hbF h.2)
  have hg3 := hg2.frame k3 (fun h => h.elim hgr fun h => hgF h.2)
  have hkin3 : ∀ j, j < 32 → j ≠ i → Rep w3 (f j) (vs j) (Fs j) := fun j hj hji => (hkin1 j hj).frame k3 fun c hc h => h.elim (fun e => hrb (e ▸ (hFl j hj c hc).1)) fun h => (hkin.2 j hj c hc).2 i hi (fun e => hji e.symm) h.2
  have hF1b : ∀ c, F1 c → c ≠ b ∧ c ≠ g := fun c hc => by
    rcases (hF1 c hc).1 with h | h
    · have := (hkin.2 i hi c h).1; exact ⟨fun e => this (.inl e), fun e => this (.inr e)⟩
    · exact ⟨by omega, by omega⟩
  have hF1d : ∀ c, F1 c → ∀ j, j < 32 → j ≠ i → ¬ Fs j c := fun c hc j hj hji hjc => by
    rcases (hF1 c hc).1 with h | h
    · exact (hkin.2 i hi c h).2 j hj hji hjc
    · have := (hFl j hj c hjc).2; omega
  have hto : ∀ {w4 : World} {M : Nat → Prop}, Frm M w3 w4 → (∀ c, M c → (mu = true ∧ (c = b ∨ c = g)) ∨ w.heap.size ≤ c) → Frm (fun c => c = rb ∨ mu = true ∧ F c) w w4 := fun {w4 M} k4 hM => by
    refine Frm.old (((k2.fst k3).to fun c hc => ?_)) (k4.to (M' := fun c => (mu = true ∧ (c = b ∨ c = g)) ∨ w.heap.size ≤ c) hM) fun c hc => ?_
    · rcases hc with h | h
      · exact .inl h
      · exact .inr ⟨h.1, (hFl i hi c h.2).1⟩
    · rcases hc with ⟨hm, h | h⟩ | h
      · exact .inl (.inr ⟨hm, h ▸ h2⟩)
      · exact .inl (.inr ⟨hm, h ▸ h3⟩)
      · exact .inr h
  have hkinP : ∀ {w4 : World} {M O : Nat → Prop}, Frm M w3 w4 → (∀ c, M c → c = b ∨ c = g ∨ w3.heap.size ≤ c) → (∀ c, O c → c = b ∨ c = g ∨ w3.heap.size ≤ c) → Kin w4 (Nd.put f i t') (putV vs i nv) (fun j => if j = i then F1 else Fs j) O := fun {w4 M O} k4 hM hO => by
    have hOF : ∀ j, j < 32 → ∀ c, Fs j c → ¬ O c ∧ ¬ M c := fun j hj c hc => by
      have h1 := (hkin.2 j hj c hc).1
      have h2 := (hFl j hj c hc).2
      exact ⟨fun h => by rcases hO c h with h | h | h; exact h1 (.inl h); exact h1 (.inr h); omega, fun h => by rcases hM c h with h | h | h; exact h1 (.inl h); exact h1 (.inr h); omega⟩
    have hOF1 : ∀ c, F1 c → ¬ O c ∧ ¬ M c := fun c hc => by
      have h1 := hF1b c hc
      have h2 := (hF1 c hc).2
      exact ⟨fun h => by rcases hO c h with h | h | h; exact h1.1 h; exact h1.2 h; omega, fun h => by rcases hM c h with h | h | h; exact h1.1 h; exact h1.2 h; omega⟩
    refine ⟨fun j hj => ?_, fun j hj c hc => ?_⟩
    · by_cases e : j = i
      · subst e; rw [Nd.put_same]; simpa [putV] using r3.frame k4 fun c hc => (hOF1 c hc).2
      · rw [Nd.put_ne e]; simp only [putV, if_neg e]; exact (hkin3 j hj e).frame k4 fun c hc => (hOF j hj c hc).2
    · by_cases e : j = i
      · simp only [if_pos e] at hc
        refine ⟨(hOF1 c hc).1, fun q hq hne hqc => ?_⟩
        simp only [if_neg (show ¬ q = i by omega)] at hqc
        exact hF1d c hc q hq (by omega) hqc
      · simp only [if_neg e] at hc
        refine ⟨(hOF j hj c hc).1, fun q hq hne hqc => ?_⟩
        by_cases e' : q = i
        · simp only [if_pos e'] at hqc; exact hF1d c hqc j hj e hc
        · simp only [if_neg e'] at hqc; exact (hkin.2 j hj c hc).2 q hq hne hqc
  have hFF : ∀ {O : Nat → Prop} {w4 : World}, (∀ c, O c → F c ∨ w.heap.size ≤ c) → ∀ c, (O c ∨ ∃ j, j < 32 ∧ (if j = i then F1 else Fs j) c) → F c ∨ w.heap.size ≤ c := fun {O w4} hO c hc => by
    rcases hc with hc | ⟨j, hj, hc⟩
    · exact hO c hc
    · by_cases e : j = i
      · simp only [if_pos e] at hc
        rcases (hF1 c hc).1 with h | h
        · exact .inl (hFl i hi c h).1
        · exact .inr (by omega)
      · simp only [if_neg e] at hc
        exact .inl (hFl j hj c hc).1
  have hone := kids_one_cell hkin.1
  have hnil : ∀ q, q < 32 → f q = .emp → vs q = .nilIface := fun q hq e => by have := hkin.1 q hq; rw [e] at this; exact this.nil
  clear hkin hkin1 hkin3
  have hvs : ∀ u ∈ kids f vs, u.oneCell' = true := hone
  have hcl := cnt_le (f := f)
  have hcm := hg3.cap_le h6
  have hkl : (kids f vs).length = Nd.cnt f := kids_len
  have hw : IntKind.i64.wrap ((rk f i : Int) + 1) = ((rk f i + 1 : Nat) : Int) := by rw [IntKind.wrap_i64]; omega
  have hw1 : IntKind.i64.wrap ((Nd.cnt f : Int) - 1) = ((Nd.cnt f - 1 : Nat) : Int) := by rw [IntKind.wrap_i64]; omega
  have hc1 : ((Nd.cnt f : Int) = 1) ↔ Nd.cnt f = 1 := by omega
  refine ⟨fun ht => ?_, fun ht => ?_⟩
  · have ht := isEmp_iff.1 ht
    subst ht
    have hnv := r3.nil
    subst hnv
    simp only [Nd.isEmp, if_true] at hK
    simp [-getElem?_pos, -Array.getElem?_eq_getElem, -Int.natCast_add, add_spot, and_assoc, Br_dec, -op_box, -op_st_4, -op_st_22, -op_st_107, -op_st_157, -op_st_185, -op_st_156, -op_st_144, -op_st_2, -op_st_191, -op_alloc_159, -op_alloc_156, -op_alloc_191, -op_lit_157_1, -op_lit_157_2, -op_lit_185_1, -op_lit_185_2, hb3, hc1]
    refine ⟨fun h1 => ?_, fun h1 => ?_⟩
    · rw [if_pos h1] at hK
      exact hK _ w3 (fun _ => False) (hto (M := fun _ => False) Frm.refl fun _ h => h.elim) rfl (fun _ h => h.elim) f3
    rw [if_neg h1] at hK
    have hcn := cnt_del (f := f) hi e
    have hkd := kids_del (f := f) (vs := vs) (v := Value.nilIface) hi e
    have hbe := hbm e
    refine ⟨fun hm => ?_, fun hm => ?_⟩
    · simp [-getElem?_pos, -Array.getElem?_eq_getElem, -Int.natCast_add, add_spot, and_assoc, Br_dec, -op_box, -op_st_4, -op_st_22, -op_st_107, -op_st_157, -op_st_185, -op_st_156, -op_st_144, -op_st_2, -op_st_191, -op_alloc_159, -op_alloc_156, -op_alloc_191, -op_lit_157_1, -op_lit_157_2, -op_lit_185_1, -op_lit_185_2, hb3, hxor]
      refine op_store_ok (by kernel_rfl) hb3 (by simp) rfl fun w5 k5 z5 b5 => ?_
      have hg5 := hg3.frame k5 h4
      have f5 := f3.frame k5 (fun e => hne e.symm)
      simp [-getElem?_pos, -Array.getElem?_eq_getElem, -Int.natCast_add, add_spot, and_assoc, Br_dec, -op_box, -op_st_4, -op_st_22, -op_st_107, -op_st_157, -op_st_185, -op_st_156, -op_st_144, -op_st_2, -op_st_191, -op_alloc_159, -op_alloc_156, -op_alloc_191, -op_lit_157_1, -op_lit_157_2, -op_lit_185_1, -op_lit_185_2, b5, hw]
      refine ⟨by omega, h6, by omega, h6, ?_⟩
      refine op_copyX (n := Nd.cnt f - rk f i - 1) (x1 := rk f i) (x2 := rk f i + 1) (by kernel_rfl) hg5.drew hg5.drew (by split; exact .inr ⟨rfl, by omega⟩; exact .inl (by simp)) (by split; exact .inr ⟨rfl, by omega⟩; exact .inl (by simp)) (by omega) (by omega) (by omega) hvs fun w6 k6 z6 q6 => ?_
      have k6 := Frm.dr k6
      have b6 := k6.get b5 (fun e => h4 e.symm)
      have f6 := f5.frame k6 (fun e => hgr e.symm)
      have hlt1 : Nd.cnt f - 1 < Nd.cnt f := by omega
      simp [-getElem?_pos, -Array.getElem?_eq_getElem, -Int.natCast_add, add_spot, and_assoc, Br_dec, -op_box, -op_st_4, -op_st_22, -op_st_107, -op_st_157, -op_st_185, -op_st_156, -op_st_144, -op_st_2, -op_st_191, -op_alloc_159, -op_alloc_156, -op_alloc_191, -op_lit_157_1, -op_lit_157_2, -op_lit_185_1, -op_lit_185_2, b6, hw1, hlt1]
      simp only [Nat.mul_one] at q6
      have hdel := del_mut (A := kids f vs) (r := rk f i) (m := 1) (by omega)
      rw [hkl] at hdel
      have hl6 : (lw (kids f vs) (rk f i) (List.take (Nd.cnt f - rk f i - 1) (List.drop (rk f i + 1) (kids f vs)))).length = Nd.cnt f := by rw [lw_len (by simp; omega), hkl]
      refine op_storeR1 (by kernel_rfl) q6.drew (by rw [hl6]; omega) rfl fun w7 k7 z7 q7 => ?_
      have k7 := Frm.dr k7
      have b7 := k7.get b6 (fun e => h4 e.symm)
      have f7 := f6.frame k7 (fun e => hgr e.symm)
      have q7 := q7.take (Nd.cnt f - 1)
      rw [List.take_set_of_le (by omega), hdel, ← hkd] at q7
      have hle7 : Nd.cnt f - 1 ≤ cap := by omega
      simp [-getElem?_pos, -Array.getElem?_eq_getElem, -Int.natCast_add, add_spot, and_assoc, Br_dec, -op_box, -op_st_4, -op_st_22, -op_st_107, -op_st_157, -op_st_185, -op_st_156, -op_st_144, -op_st_2, -op_st_191, -op_alloc_159, -op_alloc_156, -op_alloc_191, -op_lit_157_1, -op_lit_157_2, -op_lit_185_1, -op_lit_185_2, b7, hw1, hle7]
      refine op_store_ok (by kernel_rfl) (show w7.drew.heap[b]? = _ from by simpa using b7) (by simp) rfl fun w8 k8 z8 b8 => ?_
      have k8 := Frm.dr k8
      have q8 := q7.frame k8 h4
      have f8 := f7.frame k8 (fun e => hne e.symm)
      have kall := (k5.tr (k6.tr (k7.tr k8)))
      have hall : ∀ c, (c = b ∨ c = g ∨ c = g ∨ c = b) → c = b ∨ c = g := fun c hc => by omega
      refine hK _ w8 _ (hto kall fun c hc => .inl ⟨hm, hall c hc⟩) (Rep.mkB (f := Nd.put f i .emp) h4 (by rw [← hbe, show Nd.cnt (Nd.put f i .emp) = Nd.cnt f - 1 from by omega]; simpa using b8) (by omega) q8 (hkinP kall (fun c hc => or_assoc.1 (.inl (hall c hc))) (fun c hc => hc.imp id .inl))) (fun c hc => hFF (O := fun c => c = b ∨ c = g) (w4 := w) (fun c hc => .inl (hc.elim (fun e => e ▸ h2) fun e => e ▸ h3)) c (or_assoc.2 hc)) f8
    · simp [-getElem?_pos, -Array.getElem?_eq_getElem, -Int.natCast_add, add_spot, and_assoc, Br_dec, -op_box, -op_st_4, -op_st_22, -op_st_107, -op_st_157, -op_st_185, -op_st_156, -op_st_144, -op_st_2, -op_st_191, -op_alloc_159, -op_alloc_156, -op_alloc_191, -op_lit_157_1, -op_lit_157_2, -op_lit_185_1, -op_lit_185_2, hb3, hxor, hw1]
      refine op_make_ok (n := Nd.cnt f - 1) apN rfl (by omega) fun w4 zs k4 z4 hzs q4 => ?_
      have k4 := Frm.dr k4
      simp only [heap_drew] at z4 q4
      have hb4 := k4.get hb3 id
      have hg4 := hg3.frame k4 id
      have f4 := f3.frame k4 id
      simp [-getElem?_pos, -Array.getElem?_eq_getElem, -Int.natCast_add, add_spot, and_assoc, Br_dec, -op_box, -op_st_4, -op_st_22, -op_st_107, -op_st_157, -op_st_185, -op_st_156, -op_st_144, -op_st_2, -op_st_191, -op_alloc_159, -op_alloc_156, -op_alloc_191, -op_lit_157_1, -op_lit_157_2, -op_lit_185_1, -op_lit_185_2, hb4]
      refine op_box_ok fun w5 k5 z5 b5 => ?_
      simp only [cells_agg] at b5
      have hb5 := k5.get hb4 id
      have hg5 := hg4.frame k5 id
      have q5 := q4.frame k5 id
      have f5 := f4.frame k5 id
      have hile : rk f i ≤ Nd.cnt f - 1 := by omega
      have hicap : rk f i ≤ cap := by omega
      simp [-getElem?_pos, -Array.getElem?_eq_getElem, -Int.natCast_add, add_spot, and_assoc, Br_dec, -op_box, -op_st_4, -op_st_22, -op_st_107, -op_st_157, -op_st_185, -op_st_156, -op_st_144, -op_st_2, -op_st_191, -op_alloc_159, -op_alloc_156, -op_alloc_191, -op_lit_157_1, -op_lit_157_2, -op_lit_185_1, -op_lit_185_2, b5, hb5, hile, hicap]
      refine op_copyX (n := rk f i) (x1 := 0) (x2 := 0) (by kernel_rfl) q5.drew hg5.drew (.inl rfl) (.inl rfl) (by omega) (by omega) (by omega) hvs fun w6 k6 z6 q6 => ?_
      have k6 := Frm.dr k6
      have b6 := k6.get b5 (by omega)
      have hb6 := k6.get hb5 (by omega)
      have hg6 := hg5.frame k6 (by omega)
      have f6 := f5.frame k6 (by omega)
      simp only [Nat.zero_mul, List.drop_zero, Nat.mul_one] at q6
      simp [-getElem?_pos, -Array.getElem?_eq_getElem, -Int.natCast_add, add_spot, and_assoc, Br_dec, -op_box, -op_st_4, -op_st_22, -op_st_107, -op_st_157, -op_st_185, -op_st_156, -op_st_144, -op_st_2, -op_st_191, -op_alloc_159, -op_alloc_156, -op_alloc_191, -op_lit_157_1, -op_lit_157_2, -op_lit_185_1, -op_lit_185_2, b6, hb6, hw]
      refine ⟨hile, by omega, h6, ?_⟩
      have hdel := del_new (A := kids f vs) (zs := zs) (r := rk f i) (m := 1) (by omega) (by omega)
      rw [hkl] at hdel
      refine op_copyX (n := Nd.cnt f - rk f i - 1) (x1 := rk f i) (x2 := rk f i + 1) (by kernel_rfl) q6.drew hg6.drew (by split; exact .inr ⟨rfl, by omega⟩; exact .inl (by simp)) (by split; exact .inr ⟨rfl, by omega⟩; exact .inl (by simp)) (by omega)
        (by rw [lw_len (by simp; omega)]; omega) (by omega) hvs fun w7 k7 z7 q7 => ?_
      have k7 := Frm.dr k7
      have b7 := k7.get b6 (by omega)
      have f7 := f6.frame k7 (by omega)
      simp only [Nat.mul_one] at q7
      rw [hdel, ← hkd] at q7
      have kall := (k4.fst (k5.fst (k6.tr k7)))
      have hall : ∀ c, (c = w3.heap.size ∨ c = w3.heap.size) → w3.heap.size ≤ c := fun c hc => by omega
      refine hK _ w7 _ (hto kall fun c hc => .inr (by have := hall c hc; omega)) (Rep.mkB (f := Nd.put f i .emp) (b := w4.heap.size) (g := w3.heap.size) (cap := Nd.cnt f - 1) (by omega) (by rw [← hbe, show Nd.cnt (Nd.put f i .emp) = Nd.cnt f - 1 from by omega]; simpa using b7) (by omega) q7 (hkinP kall (fun c hc => .inr (.inr (hall c hc))) (fun c hc => .inr (.inr (by omega))))) (fun c hc => hFF (O := fun c => c = w4.heap.size ∨ c = w3.heap.size) (w4 := w) (fun c hc => .inr (by omega)) c (or_assoc.2 hc)) f7
  · have ht' : t' ≠ .emp := fun e => by rw [e] at ht; cases ht
    rw [ht] at hK
    simp only [Bool.false_eq_true, if_false] at hK
    refine ⟨fun hm => ?_, fun hm => ?_⟩
    · simp [-getElem?_pos, -Array.getElem?_eq_getElem, -Int.natCast_add, add_spot, and_assoc, Br_dec, -op_box, -op_st_4, -op_st_22, -op_st_107, -op_st_157, -op_st_185, -op_st_156, -op_st_144, -op_st_2, -op_st_191, -op_alloc_159, -op_alloc_156, -op_alloc_191, -op_lit_157_1, -op_lit_157_2, -op_lit_185_1, -op_lit_185_2, hb3]
      refine op_make_ok (n := Nd.cnt f) apN rfl (by omega) fun w4 zs k4 z4 hzs q4 => ?_
      have k4 := Frm.dr k4
      simp only [heap_drew] at z4 q4
      have hb4 := k4.get hb3 id
      have hg4 := hg3.frame k4 id
      have f4 := f3.frame k4 id
      simp [-getElem?_pos, -Array.getElem?_eq_getElem, -Int.natCast_add, add_spot, and_assoc, Br_dec, -op_box, -op_st_4, -op_st_22, -op_st_107, -op_st_157, -op_st_185, -op_st_156, -op_st_144, -op_st_2, -op_st_191, -op_alloc_159, -op_alloc_156, -op_alloc_191, -op_lit_157_1, -op_lit_157_2, -op_lit_185_1, -op_lit_185_2, hb4]
      refine op_box_ok fun w5 k5 z5 b5 => ?_
      simp only [cells_agg] at b5
      have hb5 := k5.get hb4 id
      have hg5 := hg4.frame k5 id
      have q5 := q4.frame k5 id
      have f5 := f4.frame k5 id
      simp [-getElem?_pos, -Array.getElem?_eq_getElem, -Int.natCast_add, add_spot, and_assoc, Br_dec, -op_box, -op_st_4, -op_st_22, -op_st_107, -op_st_157, -op_st_185, -op_st_156, -op_st_144, -op_st_2, -op_st_191, -op_alloc_159, -op_alloc_156, -op_alloc_191, -op_lit_157_1, -op_lit_157_2, -op_lit_185_1, -op_lit_185_2, b5, hb5]
      refine op_copyX (n := Nd.cnt f) (x1 := 0) (x2 := 0) (by kernel_rfl) q5.drew hg5.drew (.inl rfl) (.inl rfl) (by omega) (by omega) (by omega) hvs fun w6 k6 z6 q6 => ?_
      have k6 := Frm.dr k6
      have b6 := k6.get b5 (by omega)
      have f6 := f5.frame k6 (by omega)
      have hq6 : lw zs (0 * 1) (List.take (Nd.cnt f * 1) (List.drop (0 * 1) (kids f vs))) = kids f vs := by
        simp only [Nat.zero_mul, Nat.mul_one, List.drop_zero]
        rw [List.take_of_length_le (by omega), lw_all (by omega)]
      rw [hq6] at q6
      simp [-getElem?_pos, -Array.getElem?_eq_getElem, -Int.natCast_add, add_spot, and_assoc, Br_dec, -op_box, -op_st_4, -op_st_22, -op_st_107, -op_st_157, -op_st_185, -op_st_156, -op_st_144, -op_st_2, -op_st_191, -op_alloc_159, -op_alloc_156, -op_alloc_191, -op_lit_157_1, -op_lit_157_2, -op_lit_185_1, -op_lit_185_2, b6, hrl]
      refine op_storeR1 (by kernel_rfl) q6 (by omega) r3.one fun w7 k7 z7 q7 => ?_
      rw [kids_set hi e ht'] at q7
      have b7 := k7.get b6 (by omega)
      have f7 := f6.frame k7 (by omega)
      have kall := (k4.fst (k5.fst (k6.tr k7)))
      have hall : ∀ c, (c = w3.heap.size ∨ c = w3.heap.size) → w3.heap.size ≤ c := fun c hc => by omega
      refine hK _ w7 _ (hto kall fun c hc => .inr (by have := hall c hc; omega)) (Rep.mkB (f := Nd.put f i t') (b := w4.heap.size) (g := w3.heap.size) (cap := Nd.cnt f) (by omega) (by rw [bm_keep e ht', cnt_same e ht']; simpa using b7) (by rw [cnt_same e ht']; omega) q7 (hkinP kall (fun c hc => .inr (.inr (hall c hc))) (fun c hc => .inr (.inr (by omega))))) (fun c hc => hFF (O := fun c => c = w4.heap.size ∨ c = w3.heap.size) (w4 := w) (fun c hc => .inr (by omega)) c (or_assoc.2 hc)) f7
    · simp [-getElem?_pos, -Array.getElem?_eq_getElem, -Int.natCast_add, add_spot, and_assoc, Br_dec, -op_box, -op_st_4, -op_st_22, -op_st_107, -op_st_157, -op_st_185, -op_st_156, -op_st_144, -op_st_2, -op_st_191, -op_alloc_159, -op_alloc_156, -op_alloc_191, -op_lit_157_1, -op_lit_157_2, -op_lit_185_1, -op_lit_185_2, hb3, hrl]
      refine op_storeR1 (by kernel_rfl) hg3 (by omega) r3.one fun w5 k5 z5 q5 => ?_
      rw [kids_set hi e ht'] at q5
      have f5 := f3.frame k5 (fun e => hgr e.symm)
      refine hK _ w5 _ (hto k5 fun c hc => .inl ⟨hm, .inr hc⟩) (Rep.mkB (f := Nd.put f i t') h4 (by rw [bm_keep e ht', cnt_same e ht']; exact k5.get hb3 (fun e => h4 e.symm)) (by rw [cnt_same e ht']; exact h6) q5 (hkinP k5 (fun c hc => .inr (.inl hc)) (fun c hc => hc.imp id .inl))) (fun c hc => hFF (O := fun c => c = b ∨ c = g) (w4 := w) (fun c hc => .inl (hc.elim (fun e => e ▸ h2) fun e => e ▸ h3)) c (or_assoc.2 hc)) f5
end Go.Proofs.YtbghmbbhkoniiaaGreat.I
end
section
/- Deleting a key from a branch of 32 places. -/
namespace Go.Proofs.YtbghmbbhkoniiaaGreat.I
open Go.Vc Go.Proofs Go.Proofs.YtbghmbbhkoniiaaGreat Go.Vc.Nd
variable {w : World} {v hv : Value} {t : Tr} {F : Nat → Prop} {K : KV} {Kp : KP} {hash : Ky → Nat} {k : Ky} {x : Vl} {l s rb : Nat} {mu : Bool}
theorem ne_nil (h : Rep w t v F) {wz : World} {K : KV} {Kp : KP} : (nice Tryz.prog).op (.bin .neq 107 false true v .nilIface) wz K Kp = K (.bool (!t.isEmp)) wz := by
  by_cases e : t = .emp
  · subst e; rw [h.nil]; simp [Nd.isEmp]
  · obtain ⟨u, c, hv⟩ := h.iface e
    have he' : t.isEmp = false := by cases h : t.isEmp; rfl; exact absurd (isEmp_iff.1 h) e
    rw [hv, he']; simp
theorem bmN_or {f : Nat → Tr} {j : Nat} (h : full f j = true) : bmN f j ||| 2 ^ j = bmN f (j + 1) := by
  apply Nat.eq_of_testBit_eq
  intro q
  rw [Nat.testBit_or, bmN_bit, bmN_bit, Nat.testBit_two_pow]
  by_cases e : j = q
  · subst e; simp [h]
  · simp only [e, decide_false, Bool.or_false]
    congr 1; exact decide_eq_decide.2 (by omega)
theorem bmN_skip {f : Nat → Tr} {j : Nat} (h : full f j = false) : bmN f (j + 1) = bmN f j := by rw [bmN, h]; simp
def pre (f : Nat → Tr) (vs : Nat → Value) (j : Nat) : List Value := ((List.range j).filter (full f)).map vs
theorem pre_len (f : Nat → Tr) (vs : Nat → Value) (j : Nat) : (pre f vs j).length = rk f j := by simp [pre, rk]
theorem pre_succ (f : Nat → Tr) (vs : Nat → Value) (j : Nat) : pre f vs (j + 1) = pre f vs j ++ if full f j then [vs j] else [] := by
  unfold pre; rw [List.range_succ, List.filter_append, List.map_append]; cases h : full f j <;> simp [h]
theorem kids_skip {f : Nat → Tr} {vs : Nat → Value} {i : Nat} : kids (Nd.put f i .emp) (putV vs i v) = pre (Nd.put f i .emp) vs 32 := by
  unfold kids pre
  apply List.map_congr_left
  intro q hq
  have := (List.mem_filter.1 hq).2
  by_cases e : q = i
  · subst e; rw [full_put, if_pos rfl] at this; cases this
  · simp [putV, e]
theorem delH_ok {f : Nat → Tr} {p i : Nat} {t' T : Tr} (hH : IsH hv hash) (hl : l ≤ 6) (hs : s = 5 * l) (hi0 : frag l (hash k) = i) (dl : Bool) (he : f i = .emp → dl = false)
    (hT : dl = true → T = if t'.isEmp then .br (decide (16 < Nd.cnt f)) (Nd.put f i .emp) else .br true (Nd.put f i t'))
    (child : f i ≠ .emp → DelC hv hash k mu rb (s + 5) (f i) t' dl) : DelC hv hash k mu rb s (.br true f) T dl := by
  intro w v F K Kp h hr hrb hK
  have hi := frag_lt l (hash k)
  have hfr := frag_eq (hH.lt k) hs hl
  rw [hi0] at hi hfr
  obtain ⟨b, cs, vs, Fs0, rfl, h2, hb, hcz, hc0, hcs, h8, h9⟩ := h
  obtain ⟨Fs, hrep, hdis, hFl⟩ : ∃ Fs : Nat → Nat → Prop, (∀ j, j < 32 → Rep w (f j) (vs j) (Fs j)) ∧ (∀ j, j < 32 → ∀ c, Fs j c → c ≠ b ∧ ∀ q, q < 32 → q ≠ j → ¬ Fs q c) ∧ ∀ j, j < 32 → ∀ c, Fs j c → F c ∧ c < w.heap.size :=
    ⟨fun j c => Fs0 j c ∧ c < w.heap.size, fun j hj => (h8 j hj).lt, fun j hj c hc => ⟨(h9 j hj c hc.1).2.1, fun q hq hne h => (h9 j hj c hc.1).2.2 q hq hne h.1⟩, fun j hj c hc => ⟨(h9 j hj c hc.1).1, hc.2⟩⟩
  clear h8 h9
  have hns := next_shift hs hl
  have hne : b ≠ rb := fun e => hrb (e ▸ h2)
  have l1 := lt_of_get hb
  have l2 := lt_of_get hr
  have hci := hcs i hi
  simp only [inv_188_131]
  refine vc131_calls ?_
  have hi' : (i : Int) < 32 := by omega
  have heq0 := fun {wz : World} {K : KV} {Kp : KP} => eq_nil (hrep i hi) (wz := wz) (K := K) (Kp := Kp)
  simp [-getElem?_pos, -Array.getElem?_eq_getElem, -Int.natCast_add, add_spot, and_assoc, Br_dec, -op_box, -op_st_4, -op_st_22, -op_st_107, -op_st_157, -op_st_185, -op_st_156, -op_st_144, -op_st_2, -op_st_191, -op_alloc_159, -op_alloc_156, -op_alloc_191, -op_lit_157_1, -op_lit_157_2, -op_lit_185_1, -op_lit_185_2, vc131, ptr, hb, hfr, Nat.add_comm 1, hci, hi', heq0]
  refine ⟨fun e => hK.1 (he (isEmp_iff.1 e)) w Frm.refl, fun e => ?_⟩
  have he' : f i ≠ .emp := fun h => by rw [h] at e; cases e
  rw [hns]
  refine child he' (hrep i hi) hr (fun h => hrb (hFl i hi rb h).1) ⟨fun hd w3 k3 => ?_, fun hd nv w3 F0 k3 r30 hF10 f3 => ?_⟩
  · have f3 := hr.frame k3 id
    unfold flag at f3
    simp [-getElem?_pos, -Array.getElem?_eq_getElem, -Int.natCast_add, add_spot, and_assoc, Br_dec, -op_box, -op_st_4, -op_st_22, -op_st_107, -op_st_157, -op_st_185, -op_st_156, -op_st_144, -op_st_2, -op_st_191, -op_alloc_159, -op_alloc_156, -op_alloc_191, -op_lit_157_1, -op_lit_157_2, -op_lit_185_1, -op_lit_185_2, f3]
    exact hK.1 hd w3 k3
  have hK := hK.2 hd
  rw [hT hd] at hK
  obtain ⟨F1, r3, hF1⟩ : ∃ F1 : Nat → Prop, Rep w3 t' nv F1 ∧ ∀ c, F1 c → (Fs i c ∨ w.heap.size ≤ c) ∧ c < w3.heap.size := ⟨fun c => F0 c ∧ c < w3.heap.size, r30.lt, fun c hc => ⟨hF10 c hc.1, hc.2⟩⟩
  have hft := f3
  unfold flag at hft
  have heq := fun {wz : World} {K : KV} {Kp : KP} => eq_nil r3 (wz := wz) (K := K) (Kp := Kp)
  simp [-getElem?_pos, -Array.getElem?_eq_getElem, -Int.natCast_add, add_spot, and_assoc, Br_dec, -op_box, -op_st_4, -op_st_22, -op_st_107, -op_st_157, -op_st_185, -op_st_156, -op_st_144, -op_st_2, -op_st_191, -op_alloc_159, -op_alloc_156, -op_alloc_191, -op_lit_157_1, -op_lit_157_2, -op_lit_185_1, -op_lit_185_2, hft, heq]
  clear hft
  have n3 := k3.size
  have hbF : ¬ Fs i b := fun h => (hdis i hi b h).1 rfl
  have hb3 := k3.get hb (fun h => h.elim hne fun h => hbF h.2)
  have hrep3 : ∀ j, j < 32 → j ≠ i → Rep w3 (f j) (vs j) (Fs j) := fun j hj hji => (hrep j hj).frame k3 fun c hc h => h.elim (fun e => hrb (e ▸ (hFl j hj c hc).1)) fun h => (hdis j hj c hc).2 i hi (fun e => hji e.symm) h.2
  have hcone := cells_one_H hcz hc0 hcs fun j hj => (hrep j hj).one
  have hcl := cnt_le (f := f)
  have hcp := cnt_pos (f := f) hi he'
  have hw1 : IntKind.u64.wrap ((Nd.cnt f : Int) - 1) = ((Nd.cnt f - 1 : Nat) : Int) := by rw [IntKind.wrap_u64]; omega
  refine Jn.intro (fun w4 => w4 = w3 ∧ ¬ (t'.isEmp = true ∧ Nd.cnt f ≤ 16)) ⟨fun ht => ?_, fun ht => ⟨rfl, fun h => by rw [ht] at h; cases h.1⟩, ?_⟩
  · have hcast : ((Nd.cnt f : Int) ≤ 16) ↔ Nd.cnt f ≤ 16 := by omega
    simp [-getElem?_pos, -Array.getElem?_eq_getElem, -Int.natCast_add, add_spot, and_assoc, Br_dec, -op_box, -op_st_4, -op_st_22, -op_st_107, -op_st_157, -op_st_185, -op_st_156, -op_st_144, -op_st_2, -op_st_191, -op_alloc_159, -op_alloc_156, -op_alloc_191, -op_lit_157_1, -op_lit_157_2, -op_lit_185_1, -op_lit_185_2, hb3, hc0, hcast, ht, hw1]
    intro h16
    have ht' := isEmp_iff.1 ht
    subst ht'
    have hnv := r3.nil
    subst hnv
    have hres : (if (Nd.emp : Tr).isEmp then Nd.br (decide (16 < Nd.cnt f)) (Nd.put f i .emp) else .br true (Nd.put f i .emp)) = .br false (Nd.put f i .emp) := by
      rw [decide_eq_false (by omega)]; rfl
    rw [hres] at hK
    refine op_make0 (n := Nd.cnt f - 1) apN (by omega) fun w4 k4 z4 q4 => ?_
    simp [-getElem?_pos, -Array.getElem?_eq_getElem, -Int.natCast_add, add_spot, and_assoc, Br_dec, -op_box, -op_st_4, -op_st_22, -op_st_107, -op_st_157, -op_st_185, -op_st_156, -op_st_144, -op_st_2, -op_st_191, -op_alloc_159, -op_alloc_156, -op_alloc_191, -op_lit_157_1, -op_lit_157_2, -op_lit_185_1, -op_lit_185_2]
    refine op_box_ok fun w5 k5 z5 b5 => ?_
    simp only [cells_agg] at b5
    have hb5 := k5.get (k4.get hb3 id) id
    have q5 := q4.frame k5 id
    have hcx : ∀ j, j < 32 → (cs.extract 1 33)[j]? = some (vs j) := fun j hj => by
      rw [Array.getElem?_extract, if_pos (by omega), Nat.add_comm 1, hcs j hj]
    have h33 : 33 ≤ cs.size := by omega
    obtain ⟨G, hG⟩ : ∃ G : Nat → Tr, G = Nd.put f i .emp := ⟨_, rfl⟩
    have hGi : full G i = false := by rw [hG, full_put, if_pos rfl]; rfl
    have hGj : ∀ j, j ≠ i → full G j = full f j := fun j hj => by rw [hG, full_put, if_neg hj]
    have hone : ∀ j, j < 32 → (vs j).oneCell' = true := fun j hj => (hrep j hj).one
    simp [-getElem?_pos, -Array.getElem?_eq_getElem, -Int.natCast_add, add_spot, and_assoc, Br_dec, -op_box, -op_st_4, -op_st_22, -op_st_107, -op_st_157, -op_st_185, -op_st_156, -op_st_144, -op_st_2, -op_st_191, -op_alloc_159, -op_alloc_156, -op_alloc_191, -op_lit_157_1, -op_lit_157_2, -op_lit_185_1, -op_lit_185_2, hb5, h33]
    obtain ⟨I, hI⟩ : ∃ I : KV, ∀ sv wl, I sv wl ↔ ∃ j gg cap : Nat, sv = Value.int .i64 j ∧ j ≤ 32 ∧ Frm (fun _ => False) w3 wl ∧ w3.heap.size ≤ gg ∧ gg ≠ w4.heap.size ∧ wl.heap[w4.heap.size]? = some (.cells #[.int .u32 (bmN G j), .slice (some ⟨gg, 0, none⟩) (rk G j) cap] 187 (0, 0)) ∧ rk G j ≤ cap ∧ Rw wl 107 1 gg cap (pre G vs j) := ⟨_, fun _ _ => Iff.rfl⟩
    refine Lp.intro I (fun sv _ => 32 - natOf sv) ⟨(hI _ _).2 ⟨0, w3.heap.size, Nd.cnt f - 1, rfl, by omega, k4.no k5, by omega, by omega, by simpa [bmN, rk] using b5, by simp [rk], q5⟩, ?_⟩
    intro wl sv hsv
    obtain ⟨j, gg, cap, rfl, hj, kl, hgg1, hgg2, bl, hcap, ql⟩ := (hI _ _).1 hsv
    have hjlt : ((j : Int) < 32) ↔ j < 32 := by omega
    have nl := kl.size
    have hnl := lt_of_get bl
    have hgl := ql.lt
    simp [-getElem?_pos, -Array.getElem?_eq_getElem, -Int.natCast_add, add_spot, and_assoc, Br_dec, -op_box, -op_st_4, -op_st_22, -op_st_107, -op_st_157, -op_st_185, -op_st_156, -op_st_144, -op_st_2, -op_st_191, -op_alloc_159, -op_alloc_156, -op_alloc_191, -op_lit_157_1, -op_lit_157_2, -op_lit_185_1, -op_lit_185_2, hjlt]
    refine ⟨fun hj32 => ?_, fun hj32 => ?_⟩
    · refine op_index_arr (len := 32) (el := 107) (by kernel_rfl) (by kernel_rfl) hj32 (hcx j hj32) ?_
      have hnx : IntKind.i64.wrap ((j : Int) + 1) = ((j + 1 : Nat) : Int) := by rw [IntKind.wrap_i64]; omega
      have hcv : IntKind.u32.wrap (j : Int) = (j : Int) := by rw [IntKind.wrap_u32]; omega
      have hcv2 : IntKind.u64.wrap (j : Int) = (j : Int) := by rw [IntKind.wrap_u64]; omega
      have hji : ((j : Int) = (i : Int)) ↔ j = i := by omega
      rw [ne_nil (hrep j hj32)]
      have skip : full G j = false → I (Value.int .i64 ((j + 1 : Nat) : Int)) wl ∧ 32 - natOf (Value.int .i64 ((j + 1 : Nat) : Int)) < 32 - natOf (Value.int .i64 (j : Int)) := fun hf =>
        ⟨(hI _ _).2 ⟨j + 1, gg, cap, rfl, by omega, kl, hgg1, hgg2, by rw [bmN_skip hf, rk_succ, hf]; exact bl, by rw [rk_succ, hf]; exact hcap, by rw [pre_succ, hf]; simpa using ql⟩, by simp only [natOf]; omega⟩
      simp [-getElem?_pos, -Array.getElem?_eq_getElem, -Int.natCast_add, add_spot, and_assoc, Br_dec, -op_box, -op_st_4, -op_st_22, -op_st_107, -op_st_157, -op_st_185, -op_st_156, -op_st_144, -op_st_2, -op_st_191, -op_alloc_159, -op_alloc_156, -op_alloc_191, -op_lit_157_1, -op_lit_157_2, -op_lit_185_1, -op_lit_185_2, hnx, hcv, hcv2, hji]
      refine ⟨fun hf => ⟨fun hji' => ?_, fun hji' => skip (by rw [hji']; exact hGi)⟩, fun hf => ?_⟩
      · have hfull : full G j = true := by rw [hGj j hji', full, hf]; rfl
        have hbitj := bit_eq hj32
        have horj := or_u32 (Nat.lt_of_lt_of_le (bmN_lt (f := G) j) (Nat.pow_le_pow_right (by decide) hj)) (two_pow_lt hj32)
        rw [bmN_or hfull] at horj
        generalize (2 : Nat) ^ j = yj at *
        have hrj := rk_le (f := G) j
        simp [-getElem?_pos, -Array.getElem?_eq_getElem, -Int.natCast_add, add_spot, and_assoc, Br_dec, -op_box, -op_st_4, -op_st_22, -op_st_107, -op_st_157, -op_st_185, -op_st_156, -op_st_144, -op_st_2, -op_st_191, -op_alloc_159, -op_alloc_156, -op_alloc_191, -op_lit_157_1, -op_lit_157_2, -op_lit_185_1, -op_lit_185_2, bl, hbitj, horj]
        refine op_store_ok (by kernel_rfl) bl (by simp) rfl fun wa ka za ba => ?_
        have qa := ql.frame ka hgg2
        simp [-getElem?_pos, -Array.getElem?_eq_getElem, -Int.natCast_add, add_spot, and_assoc, Br_dec, -op_box, -op_st_4, -op_st_22, -op_st_107, -op_st_157, -op_st_185, -op_st_156, -op_st_144, -op_st_2, -op_st_191, -op_alloc_159, -op_alloc_156, -op_alloc_191, -op_lit_157_1, -op_lit_157_2, -op_lit_185_1, -op_lit_185_2, ba]
        refine op_lit_ok (lit_185_1 (hone j hj32)) fun wb kb zb bb => ?_
        have hq : Rw wb 107 1 wa.heap.size 1 [vs j] := Rw.lit (n := 1) rfl (by decide) bb
        refine op_appendR apN (qa.frame kb fun h => h) (n := rk G j) (by rw [pre_len]; omega) hcap hq (m := 1) rfl (fun u hu => by simp at hu; subst hu; exact hone j hj32) (by omega) (by omega) fun wc g' cap' kc qc hcc hgg => ?_
        have bc := kc.get (kb.get ba id) (fun e => hgg2 e.symm)
        have hg'n : g' ≠ w4.heap.size := by
          rcases hgg with rfl | rfl
          · exact hgg2
          · have := kb.size; omega
        refine op_store_ok (by kernel_rfl) bc (by simp) rfl fun wd kd zd bd => ?_
        have qd := qc.frame kd hg'n
        have nb := kb.size
        refine ⟨(hI _ _).2 ⟨j + 1, g', cap', rfl, by omega, kl.old (ka.tr (kb.fst (kc.tr kd))) (fun c hc => .inr (by omega)), by rcases hgg with h | h <;> omega, hg'n, ?_, by rw [rk_succ, hfull]; exact hcc, by rw [pre_succ, hfull]; exact qd⟩, by simp only [natOf]; omega⟩
        rw [rk_succ, hfull]; simpa using bd
      · refine skip ?_
        by_cases e' : j = i
        · rw [e']; exact hGi
        · rw [hGj j e', full, hf]; rfl
    · obtain rfl : j = 32 := by omega
      have hkin : Kin wl G (putV vs i .nilIface) (fun j => if j = i then (fun _ => False) else Fs j) (fun c => c = w4.heap.size ∨ c = gg) := by
        have hlo : ∀ q, q < 32 → ∀ c, Fs q c → ¬ (c = w4.heap.size ∨ c = gg) := fun q hq c hc h => by have := (hFl q hq c hc).2; omega
        refine ⟨fun q hq => ?_, fun q hq c hc => ?_⟩
        · by_cases e' : q = i
          · subst e'; rw [hG, Nd.put_same]; simp [putV]; rfl
          · rw [hG, Nd.put_ne e']; simp only [putV, if_neg e']; exact (hrep3 q hq e').still kl
        · by_cases e' : q = i
          · simp only [if_pos e'] at hc
          · simp only [if_neg e'] at hc
            refine ⟨hlo q hq c hc, fun q' hq' hne' h' => ?_⟩
            by_cases e2 : q' = i
            · simp only [if_pos e2] at h'
            · simp only [if_neg e2] at h'; exact (hdis q hq c hc).2 q' hq' hne' h'
      subst hG
      have hks := kids_skip (f := f) (vs := vs) (i := i) (v := Value.nilIface)
      refine hK _ wl _ ((k3.to (M' := fun c => c = rb ∨ mu = true ∧ F c) fun c hc => hc.imp id fun h => ⟨h.1, (hFl i hi c h.2).1⟩).old kl fun c hc => hc.elim) (Rep.mkB (f := Nd.put f i .emp) (b := w4.heap.size) (g := gg) (cap := cap) hgg2 bl hcap (by rw [hks]; exact ql) hkin) (fun c hc => ?_) (f3.frame kl fun h => h)
      rcases hc with rfl | rfl | ⟨q, hq, hc⟩
      · exact .inr (by omega)
      · exact .inr (by omega)
      · by_cases e' : q = i
        · simp only [if_pos e'] at hc
        · simp only [if_neg e'] at hc; exact .inl (hFl q hq c hc).1
  rintro w4 ⟨rfl, h16⟩
  have hres : (if t'.isEmp then Nd.br (decide (16 < Nd.cnt f)) (Nd.put f i .emp) else .br true (Nd.put f i t')) = .br true (Nd.put f i t') := by
    cases ht : t'.isEmp with
    | false => rfl
    | true =>
      have := isEmp_iff.1 ht
      subst this
      rw [decide_eq_true (Nat.lt_of_not_le fun h => h16 ⟨ht, h⟩)]; rfl
  rw [hres] at hK
  have fin0 : ∀ {nb : Nat} {w5 : World}, Frm (fun _ => False) w4 w5 → w5.heap[nb]? = some (.cells cs 191 (0, 0)) → (nb = b ∧ mu = true ∨ nb = w4.heap.size) →
      (nice Tryz.prog).op (.store 107 (.pointer (some ⟨nb, 1 + i, none⟩)) nv) w5 (fun _ w => (t'.isEmp = true → ∃ cs', (∃ x a b, w.heap[nb]? = some (.cells cs' x (a, b))) ∧ ∃ v, cs'[0]? = some v ∧ (nice Tryz.prog).op (.bin .sub 144 false true v (.int .u64 1)) w (fun v124 w => (nice Tryz.prog).op (.store 144 (.pointer (some ⟨nb, 0, none⟩)) v124) w (fun _ w => K (.iface 188 (ptr nb)) w) Kp) Kp) ∧ (t'.isEmp = false → K (.iface 188 (ptr nb)) w)) Kp := fun {nb w5} k5 b5 hnb => by
    have f5 := f3.frame k5 id
    have hnr : nb ≠ rb := by
      rcases hnb with h | h
      · rw [h.1]; exact hne
      · have := lt_of_get f3; omega
    have fin : ∀ {w6 : World} {cs' : Array Value}, Frm (· = nb) w5 w6 → w6.heap[nb]? = some (.cells cs' 191 (0, 0)) → cs'.size = 33 → cs'[0]? = some (.int .u64 (Nd.cnt (Nd.put f i t'))) → (∀ q, q < 32 → cs'[q + 1]? = some (putV vs i nv q)) → K (.iface 188 (ptr nb)) w6 := fun {w6 cs'} k6 b6 hz5 h05 hv5 => by
      have kall := k5.fst k6
      have hnF : ∀ j, j < 32 → ∀ c, Fs j c → c ≠ nb := fun j hj c hc => by
        rcases hnb with h | h
        · rw [h.1]; exact (hdis j hj c hc).1
        · have := (hFl j hj c hc).2; omega
      have hnF1 : ∀ c, F1 c → c ≠ nb := fun c hc => by
        rcases hnb with h | h
        · rw [h.1]
          rcases (hF1 c hc).1 with h' | h'
          · exact (hdis i hi c h').1
          · omega
        · have := (hF1 c hc).2; omega
      have hF1d : ∀ c, F1 c → ∀ j, j < 32 → j ≠ i → ¬ Fs j c := fun c hc j hj hji hjc => by
        rcases (hF1 c hc).1 with h | h
        · exact (hdis i hi c h).2 j hj hji hjc
        · have := (hFl j hj c hjc).2; omega
      have hkin : Kin w6 (Nd.put f i t') (putV vs i nv) (fun j => if j = i then F1 else Fs j) (fun c => c = nb) := by
        refine ⟨fun j hj => ?_, fun j hj c hc => ?_⟩
        · by_cases e : j = i
          · subst e; rw [Nd.put_same]; simpa [putV] using r3.frame kall fun c hc h => hnF1 c hc h
          · rw [Nd.put_ne e]; simp only [putV, if_neg e]; exact (hrep3 j hj e).frame kall fun c hc h => hnF j hj c hc h
        · by_cases e : j = i
          · simp only [if_pos e] at hc
            refine ⟨hnF1 c hc, fun q hq hne hqc => ?_⟩
            simp only [if_neg (show ¬ q = i by omega)] at hqc
            exact hF1d c hc q hq (by omega) hqc
          · simp only [if_neg e] at hc
            refine ⟨hnF j hj c hc, fun q hq hne hqc => ?_⟩
            by_cases e' : q = i
            · simp only [if_pos e'] at hqc; exact hF1d c hqc j hj e hc
            · simp only [if_neg e'] at hqc; exact (hdis j hj c hc).2 q hq hne hqc
      refine hK _ w6 _ ((k3.to (M' := fun c => c = rb ∨ mu = true ∧ F c) fun c hc => hc.imp id fun h => ⟨h.1, (hFl i hi c h.2).1⟩).old kall fun c hc => ?_) (Rep.mkH (f := Nd.put f i t') b6 hz5 h05 hv5 hkin) (fun c hc => ?_) (f5.frame k6 (fun e => hnr e.symm))
      · rcases hnb with h | h
        · exact .inl (.inr ⟨h.2, by rw [hc, h.1]; exact h2⟩)
        · exact .inr (by omega)
      · rcases hc with rfl | ⟨j, hj, hc⟩
        · rcases hnb with h | h
          · exact .inl (by rw [h.1]; exact h2)
          · exact .inr (by omega)
        · by_cases e : j = i
          · simp only [if_pos e] at hc
            exact (hF1 c hc).1.imp (fun h => (hFl i hi c h).1) id
          · simp only [if_neg e] at hc
            exact .inl (hFl j hj c hc).1
    refine op_store_ok (by kernel_rfl) b5 (by omega) r3.one fun w6 k6 z6 b6 => ⟨fun ht => ?_, fun ht => ?_⟩
    · have ht' := isEmp_iff.1 ht
      subst ht'
      have hc6 : (cs.setIfInBounds (1 + i) nv)[0]? = some (.int .u64 (Nd.cnt f)) := by rw [Array.getElem?_setIfInBounds, if_neg (by omega), hc0]
      have hcn := cnt_del (f := f) hi he'
      simp [-getElem?_pos, -Array.getElem?_eq_getElem, -Int.natCast_add, add_spot, and_assoc, Br_dec, -op_box, -op_st_4, -op_st_22, -op_st_107, -op_st_157, -op_st_185, -op_st_156, -op_st_144, -op_st_2, -op_st_191, -op_alloc_159, -op_alloc_156, -op_alloc_191, -op_lit_157_1, -op_lit_157_2, -op_lit_185_1, -op_lit_185_2, b6, hc6, hw1]
      refine op_store_ok (by kernel_rfl) b6 (by simp; omega) rfl fun w7 k7 z7 b7 => ?_
      refine fin ((k6.tr k7).to fun c hc => hc.elim id id) b7 (by simp [hcz]) ?_ fun q hq => ?_
      · rw [Array.getElem?_setIfInBounds, if_pos rfl, if_pos (by simp; omega), show Nd.cnt (Nd.put f i .emp) = Nd.cnt f - 1 from by omega]
      · rw [Array.getElem?_setIfInBounds, if_neg (by omega), Array.getElem?_setIfInBounds]
        by_cases eq : q = i
        · subst eq; rw [if_pos (by omega), if_pos (by omega)]; simp [putV]
        · rw [if_neg (by omega), hcs q hq]; simp [putV, eq]
    · have ht' : t' ≠ .emp := fun e => by rw [e] at ht; cases ht
      refine fin k6 b6 (by simp [hcz]) ?_ fun q hq => ?_
      · rw [Array.getElem?_setIfInBounds, if_neg (by omega), hc0, cnt_same he' ht']
      · rw [Array.getElem?_setIfInBounds]
        by_cases eq : q = i
        · subst eq; rw [if_pos (by omega), if_pos (by omega)]; simp [putV]
        · rw [if_neg (by omega), hcs q hq]; simp [putV, eq]
  refine ⟨fun hm => ?_, fun hm => ?_⟩
  · refine clone_ok hb3 hcz hcone fun w5 k5 b5 => ?_
    simp [-getElem?_pos, -Array.getElem?_eq_getElem, -Int.natCast_add, add_spot, and_assoc, Br_dec, -op_box, -op_st_4, -op_st_22, -op_st_107, -op_st_157, -op_st_185, -op_st_156, -op_st_144, -op_st_2, -op_st_191, -op_alloc_159, -op_alloc_156, -op_alloc_191, -op_lit_157_1, -op_lit_157_2, -op_lit_185_1, -op_lit_185_2, ptr, hi', heq]
    exact fin0 k5 b5 (.inr rfl)
  · rw [Nat.add_comm i 1]; exact fin0 Frm.refl hb3 (.inl ⟨rfl, hm⟩)
end Go.Proofs.YtbghmbbhkoniiaaGreat.I
end
section
/- Deleting a key at any node, and behind a root. -/
namespace Go.Proofs.YtbghmbbhkoniiaaGreat.I
open Go.Vc Go.Proofs Go.Proofs.YtbghmbbhkoniiaaGreat Go.Vc.Nd
variable {w : World} {v hv : Value} {t : Tr} {F : Nat → Prop} {K : KV} {Kp : KP} {hash : Ky → Nat} {k : Ky} {l s rb : Nat} {mu : Bool}
theorem del_ok : ∀ {t : Tr} {l p s : Nat}, IsH hv hash → WF hash t l p → l ≤ 7 → s = 5 * l → t ≠ .emp → (toL t).length ≤ 1000000 →
    DelC hv hash k mu rb s t (delIn (hash k) k t l) (getIn (hash k) k t l).isSome
  | .emp, l, p, s, hH, hW, hl, hs, hne, hL => absurd rfl hne
  | .arr es, l, p, s, hH, hW, hl, hs, hne, hL => hW.elim
  | .val h' k' x', l, p, s, hH, hW, hl, hs, hne, hL => by
    have e : (getIn (hash k) k (Nd.val h' k' x') l).isSome = decide (k' = k) := by
      rw [getIn]; by_cases hk : k' = k <;> simp [hk]
    rw [e, delIn]
    exact delV_ok hH
  | .col h' es, l, p, s, hH, hW, hl, hs, hne, hL => by
    have e : (getIn (hash k) k (Nd.col h' es) l).isSome = (find es k).isSome := by
      rw [getIn, look_find]
      cases hx : find es k with
      | none => rfl
      | some i =>
        obtain ⟨hi, hik, _⟩ := find_some hx
        simp [hi]
    rw [e]
    exact delC_ok (p := p) hH hL hW.1
  | .br hs' f, l, p, s, hH, hW, hl, hs, hne, hL => by
    obtain ⟨hl6, hWs, hup, _⟩ := hW
    have hi := frag_lt l (hash k)
    have child : f (frag l (hash k)) ≠ .emp → DelC hv hash k mu rb (s + 5) (f (frag l (hash k))) (delIn (hash k) k (f (frag l (hash k))) (l + 1)) (getIn (hash k) k (f (frag l (hash k))) (l + 1)).isSome :=
      fun e => del_ok hH (hWs _ hi) (by omega) (by omega) e (Nat.le_trans (len_child (hs := hs') hi) hL)
    have he : f (frag l (hash k)) = .emp → (getIn (hash k) k (f (frag l (hash k))) (l + 1)).isSome = false := fun e => by rw [e]; rfl
    have hne' : ∀ d : Bool, (getIn (hash k) k (f (frag l (hash k))) (l + 1)).isSome = true → (f (frag l (hash k))).isEmp = false := fun _ h => by
      cases h' : (f (frag l (hash k))).isEmp with
      | false => rfl
      | true => rw [he (isEmp_iff.1 h')] at h; cases h
    rw [getIn]
    cases hs' with
    | false =>
      refine delB_ok (p := p) hH hl6 hs rfl _ he (fun hd => ?_) child
      rw [delIn]
      simp only [hne' true hd, Bool.not_false, Bool.and_true, Bool.true_and, Bool.false_and, decide_eq_true_eq]
    | true =>
      refine delH_ok (p := p) hH hl6 hs rfl _ he (fun hd => ?_) child
      rw [delIn]
      simp only [hne' true hd, Bool.not_false, Bool.and_true, Bool.not_true, Bool.true_and, Bool.false_and, Bool.false_eq_true, if_false]
theorem root_del_ok (hH : IsH hv hash) (hW : WFr hash t) (hne : t ≠ .emp) (hL : (toL t).length ≤ 1000000) (h : Rep w t v F) (hr : flag w rb false) (hrb : ¬ F rb) (hK : Dels w mu F rb v (getIn (hash k) k t 0).isSome (Nd.del hash t k) K) :
    (nice Tryz.prog).call (.inv v "pub-bracken/pub/immutable.delete") [ek k, .int .u64 0, .int .u32 (hash k), hv, .bool mu, ptr rb] w K Kp := by
  cases t with
  | emp => exact absurd rfl hne
  | arr es =>
    refine delA_ok hH hL (List.length_pos_iff.2 hW.1) h hr hrb ?_
    have e : (getIn (hash k) k (Nd.arr es) 0).isSome = (find es k).isSome := by
      rw [getIn, look_find]
      cases hx : find es k with
      | none => rfl
      | some i =>
        obtain ⟨hi, hik, _⟩ := find_some hx
        simp [hi]
    rw [e] at hK; exact hK
  | br hs f => exact del_ok (s := 0) (p := 0) hH hW (by decide) rfl hne hL h hr hrb hK
  | val h' k' x' => exact del_ok (s := 0) (p := 0) hH hW (by decide) rfl hne hL h hr hrb hK
  | col h' es => exact del_ok (s := 0) (p := 0) hH hW (by decide) rfl hne hL h hr hrb hK
end Go.Proofs.YtbghmbbhkoniiaaGreat.I
end
section
/- Maps: Set, Delete, Get, Len. -/
namespace Go.Proofs.YtbghmbbhkoniiaaGreat.I
open Go.Vc Go.Proofs Go.Proofs.YtbghmbbhkoniiaaGreat Go.Vc.Nd
variable {w w' : World} {t : Tr} {F : Nat → Prop} {K : KV} {Kp : KP}
def IsMap (w : World) (b : Nat) (h : Value) (t : Tr) (F : Nat → Prop) : Prop :=
  ∃ r, ∃ F0 : Nat → Prop, w.heap[b]? = some (.cells #[.int .i64 (toL t).length, r, h] 109 (0, 0)) ∧ F b ∧ Rep w t r F0 ∧ ∀ c, F0 c → F c ∧ c ≠ b
theorem IsMap.keep {h : Value} {b : Nat} (hm : IsMap w b h t F) (hw : ∀ c o, F c → w.heap[c]? = some o → w'.heap[c]? = some o) : IsMap w' b h t F := by
  obtain ⟨r, F0, h1, h2, h3, h4⟩ := hm
  exact ⟨r, F0, hw _ _ h2 h1, h2, h3.mono (fun _ h => h) (fun c o hc => hw c o (h4 c hc).1), h4⟩
theorem IsMap.lt {h : Value} {b : Nat} (hm : IsMap w b h t F) : IsMap w b h t (fun c => F c ∧ c < w.heap.size) := by
  obtain ⟨r, F0, h1, h2, h3, h4⟩ := hm
  exact ⟨r, fun c => F0 c ∧ c < w.heap.size, h1, ⟨h2, lt_of_get h1⟩, h3.lt, fun c hc => ⟨⟨(h4 c hc.1).1, hc.2⟩, (h4 c hc.1).2⟩⟩
theorem IsMap.mem {h : Value} {b : Nat} (hm : IsMap w b h t F) : F b := by obtain ⟨r, F0, h1, h2, _⟩ := hm; exact h2
theorem len_ok {h : Value} {b : Nat} (hm : IsMap w b h t F) (hK : K (.int .i64 (toL t).length) w) : Calls Tryz.prog 33 #[ptr b] w (ret K Kp) := by
  obtain ⟨r, F0, h1, _⟩ := hm
  refine vc33_calls ?_
  simp [-getElem?_pos, -Array.getElem?_eq_getElem, -Int.natCast_add, add_spot, and_assoc, Br_dec, -op_box, -op_st_4, -op_st_3, -op_st_107, -op_st_157, -op_st_185, -op_st_156, -op_alloc_4, -op_alloc_109, -op_lit_157_1, vc33, ptr, h1]
  exact hK
end Go.Proofs.YtbghmbbhkoniiaaGreat.I
end
section
/- Maps: set in both modes. -/
namespace Go.Proofs.YtbghmbbhkoniiaaGreat.I
open Go.Vc Go.Proofs Go.Proofs.YtbghmbbhkoniiaaGreat Go.Vc.Nd
variable {w w' : World} {hv : Value} {t : Tr} {F F' : Nat → Prop} {K : KV} {Kp : KP} {hash : Ky → Nat} {k : Ky} {x : Vl} {mu : Bool}
theorem clone_map_ok {b : Nat} {n r h : Value} (hb : w.heap[b]? = some (.cells #[n, r, h] 109 (0, 0))) (h1 : n.oneCell' = true) (h2 : r.oneCell' = true) (h3 : h.oneCell' = true)
    (hK : ∀ w', Frm (fun _ => False) w w' → w'.heap.size = w.heap.size + 1 → w'.heap[w.heap.size]? = some (.cells #[n, r, h] 109 (0, 0)) → K (ptr w.heap.size) w') : Calls Tryz.prog 65 #[ptr b] w (ret K Kp) := by
  refine vc65_calls ?_
  have hx : (#[n, r, h] : Array Value).extract 0 3 = #[n, r, h] := rfl
  simp [-getElem?_pos, -Array.getElem?_eq_getElem, -Int.natCast_add, add_spot, and_assoc, Br_dec, -op_box, -op_st_4, -op_st_3, -op_st_107, -op_st_157, -op_st_185, -op_st_156, -op_st_109, -op_st_74, -op_alloc_4, -op_alloc_109, -op_lit_157_1, vc65, ptr, hb, hx]
  refine op_alloc_ok (z := .agg #[.int .i64 0, .nilIface, .nilIface]) (by kernel_rfl) fun w1 k1 z1 b1 => ?_
  simp only [cells_agg] at b1
  rw [op_stn (n := 3) (by kernel_rfl)]
  refine ⟨rfl, fun u hu => ?_, _, _, b1, rfl, by show 0 + 3 ≤ 3; decide, ?_⟩
  · simp at hu
    rcases hu with rfl | rfl | rfl <;> assumption
  refine hK _ (k1.old (Frm.upd (M := (· = w.heap.size)) _ _ fun _ => rfl) fun c hc => .inr (by omega)) (by simpa using z1) ?_
  exact heap_upd_same (o := .cells #[n, r, h] 109 (0, 0)) b1
theorem set_size (hH : IsH hv hash) (hW : WFr hash t) : (toL (Nd.set hash t k x)).length = (toL t).length + if (getIn (hash k) k t 0).isNone then 1 else 0 := by
  rw [set_len hH.lt hW]
  cases hx : getIn (hash k) k t 0 with
  | none =>
    rw [if_neg]; rfl
    intro hk
    obtain ⟨y, hy⟩ := mem_keys.1 hk
    rw [(get_spec hW).2 hy] at hx; cases hx
  | some y =>
    rw [if_pos (mem_keys.2 ⟨y, (get_spec hW).1 hx⟩)]; rfl
theorem set_map_ok {b : Nat} (hH : IsH hv hash) (hW : WFr hash t) (hL : (toL t).length ≤ 1000000) (hm : IsMap w b hv t F)
    (hK : ∀ b' w' F', Frm (fun c => mu = true ∧ F c) w w' → IsMap w' b' hv (Nd.set hash t k x) F' → (∀ c, F' c → F c ∨ w.heap.size ≤ c) → (mu = true → b' = b) → K (ptr b') w') : Calls Tryz.prog 61 #[ptr b, ek k, ev x, .bool mu] w (ret K Kp) := by
  obtain ⟨r, F0, h1, h2, h3, h4⟩ := hm.lt
  obtain ⟨u, p, rfl⟩ := hH.iface
  have heq := fun {wz : World} {K : KV} {Kp : KP} => eq_nil h3 (wz := wz) (K := K) (Kp := Kp)
  refine vc61_calls ?_
  simp [-getElem?_pos, -Array.getElem?_eq_getElem, -Int.natCast_add, add_spot, and_assoc, Br_dec, -op_box, -op_st_4, -op_st_3, -op_st_107, -op_st_157, -op_st_185, -op_st_156, -op_st_109, -op_st_74, -op_alloc_4, -op_alloc_109, -op_lit_157_1, vc61, ptr, h1, heq]
  refine Jn.intro (fun hv' w1 => hv' = .iface u p ∧ w1 = w) ⟨⟨rfl, rfl⟩, ?_⟩
  rintro w0 _ ⟨rfl, rfl⟩
  obtain ⟨J, hJ⟩ : ∃ J : KV, ∀ ov w1, J ov w1 ↔ ∃ nb, ov = ptr nb ∧ Frm (fun _ => False) w0 w1 ∧ w1.heap[nb]? = some (.cells #[.int .i64 (toL t).length, r, .iface u p] 109 (0, 0)) ∧ (nb = b ∧ mu = true ∨ nb = w0.heap.size) ∧ (mu = true → nb = b) := ⟨_, fun _ _ => Iff.rfl⟩
  refine Jn.intro J ⟨fun hm => ?_, fun hm => (hJ _ _).2 ⟨b, rfl, Frm.refl, h1, .inl ⟨rfl, hm⟩, fun _ => rfl⟩, ?_⟩
  · exact clone_map_ok h1 rfl h3.one rfl fun w1 k1 z1 b1 => (hJ _ _).2 ⟨_, rfl, k1, b1, .inr rfl, fun h => by rw [h] at hm; cases hm⟩
  intro w1 ov hov
  obtain ⟨nb, rfl, k1, b1, hnb, hnbm⟩ := (hJ _ _).1 hov
  clear hov hJ J
  have hb1 := k1.get h1 id
  simp [-getElem?_pos, -Array.getElem?_eq_getElem, -Int.natCast_add, add_spot, and_assoc, Br_dec, -op_box, -op_st_4, -op_st_3, -op_st_107, -op_st_157, -op_st_185, -op_st_156, -op_st_109, -op_st_74, -op_alloc_4, -op_alloc_109, -op_lit_157_1, ptr]
  refine op_store_ok (by kernel_rfl) b1 (by simp) rfl fun w2 k2 z2 b2 => ?_
  have b2 : w2.heap[nb]? = some (.cells #[.int .i64 (toL t).length, r, .iface u p] 109 (0, 0)) := by simpa using b2
  have hb2 : w2.heap[b]? = some (.cells #[.int .i64 (toL t).length, r, .iface u p] 109 (0, 0)) := by
    by_cases e : b = nb
    · rw [e]; exact b2
    · exact k2.get hb1 e
  have l1 := lt_of_get h1
  have n1 := k1.size
  have hnF : ∀ c, F0 c → c ≠ nb := fun c hc => by
    rcases hnb with h | h
    · rw [h.1]; exact (h4 c hc).2
    · have := (h4 c hc).1.2; omega
  have r2 : Rep w2 t r F0 := (h3.still k1).frame k2 hnF
  simp [-getElem?_pos, -Array.getElem?_eq_getElem, -Int.natCast_add, add_spot, and_assoc, Br_dec, -op_box, -op_st_4, -op_st_3, -op_st_107, -op_st_157, -op_st_185, -op_st_156, -op_st_109, -op_st_74, -op_alloc_4, -op_alloc_109, -op_lit_157_1, hb2, heq]
  refine ⟨fun e => ?_, fun e => ?_⟩
  · have := isEmp_iff.1 e
    subst this
    refine op_store_ok (by kernel_rfl) b2 (by simp) rfl fun w3 k3 z3 b3 => ?_
    refine op_lit_ok lit_157_1 fun w4 k4 z4 b4 => ?_
    simp [-getElem?_pos, -Array.getElem?_eq_getElem, -Int.natCast_add, add_spot, and_assoc, Br_dec, -op_box, -op_st_4, -op_st_3, -op_st_107, -op_st_157, -op_st_185, -op_st_156, -op_st_109, -op_st_74, -op_alloc_4, -op_alloc_109, -op_lit_157_1]
    refine op_box_ok fun w5 k5 z5 b5 => ?_
    simp only [cells_agg] at b5
    have bn5 := k5.get (k4.get b3 id) id
    refine op_store_ok (by kernel_rfl) bn5 (by simp) rfl fun w6 k6 z6 b6 => ?_
    have l2 := lt_of_get b2
    have hq : Rw w6 156 2 w3.heap.size 1 (ents [(k, x)]) := ((Rw.lit (w := w4) (n := 1) (by rw [ents_len]; rfl) (by decide) (by simpa [ents, ent] using b4)).frame k5 id).frame k6 (by omega)
    have b56 := k6.get b5 (by omega)
    have kall : Frm (fun c => mu = true ∧ F c) w0 w6 := (k1.to (M' := fun c => mu = true ∧ F c) fun _ h => h.elim).old (k2.tr (k3.tr (k4.fst (k5.fst k6)))) fun c hc => by
      have hcn : c = nb := by rcases hc with h | h | h <;> exact h
      rcases hnb with h | h
      · exact .inl ⟨h.2, by rw [hcn, h.1]; exact h2.1⟩
      · exact .inr (by omega)
    refine hK nb w6 (fun c => c = nb ∨ c = w4.heap.size ∨ c = w3.heap.size) kall ⟨_, fun c => c = w4.heap.size ∨ c = w3.heap.size, by rw [show ((toL (Nd.set hash Nd.emp k x)).length : Int) = 1 from rfl]; simpa [ptr] using b6, .inl rfl, ⟨w4.heap.size, w3.heap.size, 1, rfl, .inl rfl, .inr rfl, by omega, b56, by simp, hq⟩, fun c hc => ⟨.inr hc, by omega⟩⟩ (fun c hc => ?_) hnbm
    rcases hc with h | h | h
    · rcases hnb with h' | h'
      · exact .inl (by rw [h, h'.1]; exact h2.1)
      · exact .inr (by omega)
    · exact .inr (by omega)
    · exact .inr (by omega)
  · have hne : t ≠ .emp := fun h => by rw [h] at e; cases e
    obtain ⟨u', c', rfl⟩ := h3.iface hne
    have l2 := lt_of_get b2
    refine op_alloc_ok (z := .bool false) (by kernel_rfl) fun w3 k3 z3 b3 => ?_
    have f3 : flag w3 w2.heap.size false := b3
    have hb3 := k3.get hb2 id
    simp [-getElem?_pos, -Array.getElem?_eq_getElem, -Int.natCast_add, add_spot, and_assoc, Br_dec, -op_box, -op_st_4, -op_st_3, -op_st_107, -op_st_157, -op_st_185, -op_st_156, -op_st_109, -op_st_74, -op_alloc_4, -op_alloc_109, -op_lit_157_1, hb3]
    refine hH.hsh fun w4 k4 => ?_
    have k4 := Frm.dr k4
    have hb4 := k4.get hb3 id
    have bn4 := k4.get (k3.get b2 id) id
    simp [-getElem?_pos, -Array.getElem?_eq_getElem, -Int.natCast_add, add_spot, and_assoc, Br_dec, -op_box, -op_st_4, -op_st_3, -op_st_107, -op_st_157, -op_st_185, -op_st_156, -op_st_109, -op_st_74, -op_alloc_4, -op_alloc_109, -op_lit_157_1, hb4]
    have hlow : ∀ c, F0 c → c < w0.heap.size := fun c hc => (h4 c hc).1.2
    refine root_set_ok (x := x) hH hW hne hL ((r2.still k3).still k4) (f3.frame k4 id) (fun h => by have := hlow _ h; omega) fun v' w5 F' k5 r5 hF5 f5 => ?_
    have n4 := k4.size
    have n5 := k5.size
    have bn5 := k5.get bn4 (fun h => h.elim (fun h => by omega) fun h => hnF _ h.2 rfl)
    have hF5' : ∀ c, F' c → c ≠ nb := fun c hc => by
      rcases hF5 c hc with h | h
      · exact hnF c h
      · have := lt_of_get b2; have := k3.size; omega
    refine op_store_ok (by kernel_rfl) bn5 (by simp) r5.one fun w6 k6 z6 b6 => ?_
    have f6 := f5.frame k6 (fun e => by omega)
    have r6 := r5.frame k6 (fun c hc h => hF5' c hc h)
    have f6' := f6
    unfold flag at f6'
    simp only [Bool.false_or] at f6'
    simp [-getElem?_pos, -Array.getElem?_eq_getElem, -Int.natCast_add, add_spot, and_assoc, Br_dec, -op_box, -op_st_4, -op_st_3, -op_st_107, -op_st_157, -op_st_185, -op_st_156, -op_st_109, -op_st_74, -op_alloc_4, -op_alloc_109, -op_lit_157_1, f6']
    have hsz := set_size (k := k) (x := x) hH hW
    have fin : ∀ {w7 : World}, Frm (· = nb) w6 w7 → w7.heap[nb]? = some (.cells #[.int .i64 (toL (Nd.set hash t k x)).length, v', .iface u p] 109 (0, 0)) → K (ptr nb) w7 := fun {w7} k7 b7 => by
      have kall : Frm (fun c => mu = true ∧ F c) w0 w7 := (k1.to (M' := fun c => mu = true ∧ F c) fun _ h => h.elim).old (k2.tr (k3.fst (k4.fst (k5.tr (k6.tr k7))))) fun c hc => by
        rcases hc with h | (h | h) | h | h
        · rcases hnb with h' | h'
          · exact .inl ⟨h'.2, by rw [h, h'.1]; exact h2.1⟩
          · exact .inr (by omega)
        · exact .inr (by omega)
        · exact .inl ⟨h.1, (h4 c h.2).1.1⟩
        · rcases hnb with h' | h'
          · exact .inl ⟨h'.2, by rw [h, h'.1]; exact h2.1⟩
          · exact .inr (by omega)
        · rcases hnb with h' | h'
          · exact .inl ⟨h'.2, by rw [h, h'.1]; exact h2.1⟩
          · exact .inr (by omega)
      refine hK nb w7 (fun c => c = nb ∨ F' c) kall ⟨v', F', b7, .inl rfl, r6.frame k7 (fun c hc h => hF5' c hc h), fun c hc => ⟨.inr hc, hF5' c hc⟩⟩ (fun c hc => ?_) hnbm
      rcases hc with h | h
      · rcases hnb with h' | h'
        · exact .inl (by rw [h, h'.1]; exact h2.1)
        · exact .inr (by omega)
      · rcases hF5 c h with h' | h'
        · exact .inl (h4 c h').1.1
        · exact .inr (by omega)
    have hw1 : IntKind.i64.wrap (((toL t).length : Int) + 1) = (((toL t).length + 1 : Nat) : Int) := by rw [IntKind.wrap_i64]; omega
    refine ⟨fun hn => ?_, fun hn => ?_⟩
    · simp [-getElem?_pos, -Array.getElem?_eq_getElem, -Int.natCast_add, add_spot, and_assoc, Br_dec, -op_box, -op_st_4, -op_st_3, -op_st_107, -op_st_157, -op_st_185, -op_st_156, -op_st_109, -op_st_74, -op_alloc_4, -op_alloc_109, -op_lit_157_1, b6, hw1]
      refine op_store_ok (by kernel_rfl) b6 (by simp) rfl fun w7 k7 z7 b7 => fin k7 ?_
      rw [hsz, hn]; simpa using b7
    · refine fin Frm.refl ?_
      rw [hsz]
      cases hg : getIn (hash k) k t 0 with
      | none => rw [hg] at hn; simp at hn
      | some y => simpa using b6
end Go.Proofs.YtbghmbbhkoniiaaGreat.I
end
section
/- Maps: delete in both modes. -/
namespace Go.Proofs.YtbghmbbhkoniiaaGreat.I
open Go.Vc Go.Proofs Go.Proofs.YtbghmbbhkoniiaaGreat Go.Vc.Nd
variable {w w' : World} {hv : Value} {t : Tr} {F F' : Nat → Prop} {K : KV} {Kp : KP} {hash : Ky → Nat} {k : Ky} {mu : Bool}
theorem del_size (hW : WFr hash t) : (toL t).length = (toL (Nd.del hash t k)).length + if (getIn (hash k) k t 0).isSome then 1 else 0 := by
  rw [del_len (hash := hash) (k := k) hW]
  cases hx : getIn (hash k) k t 0 with
  | none =>
    rw [if_neg]; rfl
    intro hk
    obtain ⟨y, hy⟩ := mem_keys.1 hk
    rw [(get_spec hW).2 hy] at hx; cases hx
  | some y =>
    rw [if_pos (mem_keys.2 ⟨y, (get_spec hW).1 hx⟩)]; rfl
theorem del_map_ok {b : Nat} (hH : IsH hv hash) (hW : WFr hash t) (hL : (toL t).length ≤ 1000000) (hm : IsMap w b hv t F)
    (hK0 : (getIn (hash k) k t 0).isSome = false → ∀ w', Frm (fun _ => False) w w' → K (ptr b) w')
    (hK : (getIn (hash k) k t 0).isSome = true → ∀ b' w' F', Frm (fun c => mu = true ∧ F c) w w' → IsMap w' b' hv (Nd.del hash t k) F' → (∀ c, F' c → F c ∨ w.heap.size ≤ c) → (mu = true → b' = b) → K (ptr b') w') : Calls Tryz.prog 62 #[ptr b, ek k, .bool mu] w (ret K Kp) := by
  obtain ⟨r, F0, h1, h2, h3, h4⟩ := hm.lt
  obtain ⟨u, p, rfl⟩ := hH.iface
  have heq := fun {wz : World} {K : KV} {Kp : KP} => eq_nil h3 (wz := wz) (K := K) (Kp := Kp)
  refine vc62_calls ?_
  simp [-getElem?_pos, -Array.getElem?_eq_getElem, -Int.natCast_add, add_spot, and_assoc, Br_dec, -op_box, -op_st_4, -op_st_3, -op_st_107, -op_st_157, -op_st_185, -op_st_156, -op_st_109, -op_st_74, -op_alloc_4, -op_alloc_109, -op_lit_157_1, vc62, ptr, h1, heq]
  refine ⟨fun e => ?_, fun e => ?_⟩
  · have := isEmp_iff.1 e
    subst this
    exact hK0 rfl w Frm.refl
  have hne : t ≠ .emp := fun h => by rw [h] at e; cases e
  obtain ⟨u', c', rfl⟩ := h3.iface hne
  refine op_alloc_ok (z := .bool false) (by kernel_rfl) fun w3 k3 z3 b3 => ?_
  have f3 : flag w3 w.heap.size false := b3
  have hb3 := k3.get h1 id
  simp [-getElem?_pos, -Array.getElem?_eq_getElem, -Int.natCast_add, add_spot, and_assoc, Br_dec, -op_box, -op_st_4, -op_st_3, -op_st_107, -op_st_157, -op_st_185, -op_st_156, -op_st_109, -op_st_74, -op_alloc_4, -op_alloc_109, -op_lit_157_1, hb3]
  refine hH.hsh fun w4 k4 => ?_
  have k4 := Frm.dr k4
  have hb4 := k4.get hb3 id
  simp [-getElem?_pos, -Array.getElem?_eq_getElem, -Int.natCast_add, add_spot, and_assoc, Br_dec, -op_box, -op_st_4, -op_st_3, -op_st_107, -op_st_157, -op_st_185, -op_st_156, -op_st_109, -op_st_74, -op_alloc_4, -op_alloc_109, -op_lit_157_1, hb4]
  have hlow : ∀ c, F0 c → c < w.heap.size := fun c hc => (h4 c hc).1.2
  have n4 := k4.size
  refine root_del_ok hH hW hne hL ((h3.still k3).still k4) (f3.frame k4 id) (fun h => by have := hlow _ h; omega) ⟨fun hd w5 k5 => ?_, fun hd v' w5 F' k5 r5 hF5 f5 => ?_⟩
  · have f5 := (f3.frame k4 id).frame k5 id
    unfold flag at f5
    simp [-getElem?_pos, -Array.getElem?_eq_getElem, -Int.natCast_add, add_spot, and_assoc, Br_dec, -op_box, -op_st_4, -op_st_3, -op_st_107, -op_st_157, -op_st_185, -op_st_156, -op_st_109, -op_st_74, -op_alloc_4, -op_alloc_109, -op_lit_157_1, f5]
    exact hK0 hd w5 ((k3.no k4).no k5)
  · have f5' := f5
    unfold flag at f5'
    have n5 := k5.size
    have hbF : ¬ F0 b := fun h => (h4 b h).2 rfl
    have l1 := lt_of_get h1
    have hb5 := k5.get hb4 (fun h => h.elim (fun h => by omega) fun h => hbF h.2)
    simp [-getElem?_pos, -Array.getElem?_eq_getElem, -Int.natCast_add, add_spot, and_assoc, Br_dec, -op_box, -op_st_4, -op_st_3, -op_st_107, -op_st_157, -op_st_185, -op_st_156, -op_st_109, -op_st_74, -op_alloc_4, -op_alloc_109, -op_lit_157_1, f5']
    have hsz := del_size (k := k) hW
    rw [hd, if_pos rfl] at hsz
    have hw1 : IntKind.i64.wrap (((toL t).length : Int) - 1) = ((toL (Nd.del hash t k)).length : Int) := by rw [IntKind.wrap_i64]; omega
    have fin : ∀ {nb : Nat} {w6 : World}, Frm (fun _ => False) w5 w6 → w6.heap[nb]? = some (.cells #[.int .i64 (toL t).length, .iface u' (ptr c'), .iface u p] 109 (0, 0)) → (nb = b ∧ mu = true ∨ nb = w5.heap.size) → (mu = true → nb = b) →
        (nice Tryz.prog).op (.store 3 (.pointer (some ⟨nb, 0, none⟩)) (.int .i64 (toL (Nd.del hash t k)).length)) w6 (fun _ w => (nice Tryz.prog).op (.store 107 (.pointer (some ⟨nb, 1, none⟩)) v') w (fun _ w => K (ptr nb) w) Kp) Kp := fun {nb w6} k6 b6 hnb hnbm => by
      refine op_store_ok (by kernel_rfl) b6 (by simp) rfl fun w7 k7 z7 b7 => ?_
      refine op_store_ok (by kernel_rfl) b7 (by simp) r5.one fun w8 k8 z8 b8 => ?_
      have n6 := k6.size
      have r5' := r5.lt
      have hF5' : ∀ c, F' c ∧ c < w5.heap.size → c ≠ nb := fun c hc => by
        rcases hnb with h | h
        · rw [h.1]
          rcases hF5 c hc.1 with h' | h'
          · exact (h4 c h').2
          · omega
        · omega
      refine hK hd nb w8 (fun c => c = nb ∨ F' c) ((((k3.no k4).fst k5).tr (k6.fst (k7.tr k8)) |>.mono fun c hc hlt => ?_)) ⟨v', fun c => F' c ∧ c < w5.heap.size, by simpa using b8, .inl rfl, ((r5'.still k6).frame k7 (fun c hc h => hF5' c hc h)).frame k8 (fun c hc h => hF5' c hc h), fun c hc => ⟨.inr hc.1, hF5' c hc⟩⟩ (fun c hc => ?_) ?_
      · rcases hc with (h | h) | h | h
        · omega
        · exact ⟨h.1, (h4 c h.2).1.1⟩
        · rcases hnb with h' | h'
          · exact ⟨h'.2, by rw [h, h'.1]; exact h2.1⟩
          · omega
        · rcases hnb with h' | h'
          · exact ⟨h'.2, by rw [h, h'.1]; exact h2.1⟩
          · omega
      · rcases hc with h | h
        · rcases hnb with h' | h'
          · exact .inl (by rw [h, h'.1]; exact h2.1)
          · exact .inr (by omega)
        · rcases hF5 c h with h' | h'
          · exact .inl (h4 c h').1.1
          · exact .inr (by omega)
      · exact hnbm
    refine ⟨fun hm => ?_, fun hm => ?_⟩
    · refine clone_map_ok hb5 rfl h3.one rfl fun w6 k6 z6 b6 => ?_
      simp [-getElem?_pos, -Array.getElem?_eq_getElem, -Int.natCast_add, add_spot, and_assoc, Br_dec, -op_box, -op_st_4, -op_st_3, -op_st_107, -op_st_157, -op_st_185, -op_st_156, -op_st_109, -op_st_74, -op_alloc_4, -op_alloc_109, -op_lit_157_1, ptr, k6.get hb5 id, hw1]
      exact fin k6 b6 (.inr rfl) (fun h => by rw [h] at hm; cases hm)
    · simp [-getElem?_pos, -Array.getElem?_eq_getElem, -Int.natCast_add, add_spot, and_assoc, Br_dec, -op_box, -op_st_4, -op_st_3, -op_st_107, -op_st_157, -op_st_185, -op_st_156, -op_st_109, -op_st_74, -op_alloc_4, -op_alloc_109, -op_lit_157_1, hb5, hw1]
      exact fin Frm.refl hb5 (.inl ⟨rfl, hm⟩) (fun _ => rfl)
end Go.Proofs.YtbghmbbhkoniiaaGreat.I
end
section
/- Where an iterator stands in a trie, and what is left of it. -/
namespace Go.Vc.Nd
variable {κ ν : Type} [DecidableEq κ] {f : Nat → Nd κ ν} {i j : Nat} {t : Nd κ ν} {hs : Bool}
def rest : Nd κ ν → Nat → List (κ × ν)
  | br _ f, i => (List.range' (i + 1) (31 - i)).flatMap fun j => toL (f j)
  | t, i => (toL t).drop (i + 1)
theorem flat_nil {l : List Nat} (h : ∀ j ∈ l, f j = emp) : l.flatMap (fun j => toL (f j)) = [] := by
  rw [List.flatMap_eq_nil_iff]
  intro j hj
  rw [h j hj]; rfl
theorem toL_at (hi : i < 32) (h0 : ∀ j, j < i → f j = emp) : toL (br hs f) = toL (f i) ++ rest (br hs f) i := by
  rw [toL, range_split hi, List.flatMap_append, List.flatMap_cons, flat_nil fun j hj => h0 j (List.mem_range.1 hj), List.nil_append, rest, show 32 - i - 1 = 31 - i from by omega]
theorem rest_at (hij : i < j) (hj : j < 32) (h0 : ∀ k, i < k → k < j → f k = emp) : rest (br hs f) i = toL (f j) ++ rest (br hs f) j := by
  rw [rest, rest]
  have : List.range' (i + 1) (31 - i) = List.range' (i + 1) (j - (i + 1)) ++ j :: List.range' (j + 1) (31 - j) := by
    have h1 : 31 - i = (j - (i + 1)) + (1 + (31 - j)) := by omega
    have h2 : List.range' j (1 + (31 - j)) = j :: List.range' (j + 1) (31 - j) := by rw [Nat.add_comm 1, List.range'_succ]
    rw [h1, ← List.range'_append_1, show i + 1 + (j - (i + 1)) = j from by omega, h2]
  rw [this, List.flatMap_append, List.flatMap_cons, flat_nil fun k hk => h0 k (by have := List.mem_range'_1.1 hk; omega) (by have := List.mem_range'_1.1 hk; omega), List.nil_append]
theorem rest_end (h0 : ∀ k, i < k → k < 32 → f k = emp) : rest (br hs f) i = [] := by
  rw [rest]
  exact flat_nil fun k hk => h0 k (by have := List.mem_range'_1.1 hk; omega) (by have := List.mem_range'_1.1 hk; omega)
theorem next_full : ∀ (n a : Nat), a + n = 32 → (∃ j, a ≤ j ∧ j < 32 ∧ f j ≠ emp ∧ ∀ k, a ≤ k → k < j → f k = emp) ∨ ∀ k, a ≤ k → k < 32 → f k = emp
  | 0, a, h => .inr fun k h1 h2 => by omega
  | n + 1, a, h => by
    by_cases ha : f a = emp
    · rcases next_full n (a + 1) (by omega) with ⟨j, h1, h2, h3, h4⟩ | h1
      · refine .inl ⟨j, by omega, h2, h3, fun k hk hk' => ?_⟩
        by_cases e : k = a
        · rw [e]; exact ha
        · exact h4 k (by omega) hk'
      · refine .inr fun k hk hk' => ?_
        by_cases e : k = a
        · rw [e]; exact ha
        · exact h1 k (by omega) hk'
    · exact .inl ⟨a, Nat.le_refl _, by omega, ha, fun k hk hk' => by omega⟩
theorem rk_flat : ∀ (n i : Nat), (∀ k, i ≤ k → k < i + n → f k = emp) → rk f (i + n) = rk f i
  | 0, i, _ => rfl
  | n + 1, i, h => by
    rw [show i + (n + 1) = (i + n) + 1 from rfl, rk_succ, rk_flat n i (fun k hk hk' => h k hk (by omega)), full_not.2 (h (i + n) (by omega) (by omega))]; rfl
theorem rk_first (h0 : ∀ j, j < i → f j = emp) : rk f i = 0 := by
  have := rk_flat (f := f) i 0 (fun k _ hk => h0 k (by omega))
  rw [Nat.zero_add] at this
  rw [this]; rfl
theorem rk_next (hij : i < j) (hf : f i ≠ emp) (h0 : ∀ k, i < k → k < j → f k = emp) : rk f j = rk f i + 1 := by
  have := rk_flat (f := f) (j - (i + 1)) (i + 1) (fun k hk hk' => h0 k (by omega) (by omega))
  rw [show i + 1 + (j - (i + 1)) = j from by omega, rk_succ, full_iff.2 hf] at this
  exact this
theorem rk_last (hi : i < 32) (hf : f i ≠ emp) : (∃ j, i < j ∧ j < 32 ∧ f j ≠ emp ∧ (∀ k, i < k → k < j → f k = emp) ∧ rk f j = rk f i + 1 ∧ rk f i + 1 < cnt f) ∨ ((∀ k, i < k → k < 32 → f k = emp) ∧ cnt f = rk f i + 1) := by
  rcases next_full (f := f) (31 - i) (i + 1) (by omega) with ⟨j, h1, h2, h3, h4⟩ | h1
  · have hr := rk_next (f := f) (show i < j by omega) hf (fun k hk hk' => h4 k (by omega) hk')
    refine .inl ⟨j, by omega, h2, h3, fun k hk hk' => h4 k (by omega) hk', hr, ?_⟩
    rw [← hr, cnt_rk]; exact rk_lt h2 h3
  · refine .inr ⟨fun k hk hk' => h1 k (by omega) hk', ?_⟩
    have := rk_flat (f := f) (31 - i) (i + 1) (fun k hk hk' => h1 k hk (by omega))
    rw [show i + 1 + (31 - i) = 32 from by omega, rk_succ i, full_iff.2 hf] at this
    rw [cnt_rk, this]; rfl
theorem has_first (h : ∃ i, i < 32 ∧ f i ≠ emp) : ∃ i, i < 32 ∧ f i ≠ emp ∧ ∀ j, j < i → f j = emp := by
  rcases next_full (f := f) 32 0 rfl with ⟨j, _, h2, h3, h4⟩ | h1
  · exact ⟨j, h2, h3, fun k hk => h4 k (by omega) hk⟩
  · obtain ⟨i, hi, hf⟩ := h
    exact absurd (h1 i (by omega) hi) hf
def delT (hash : κ → Nat) (t : Nd κ ν) (k : κ) : Nd κ ν := if (getIn (hash k) k t 0).isSome then Nd.del hash t k else t
theorem delT_spec {hash : κ → Nat} {k : κ} {t : Nd κ ν} (h : WFr hash t) : WFr hash (delT hash t k) ∧ ∀ e, e ∈ toL (delT hash t k) ↔ e.1 ≠ k ∧ e ∈ toL t := by
  unfold delT
  split
  · exact del_spec h
  · rename_i hn
    refine ⟨h, fun e => ⟨fun he => ⟨fun hk => hn ?_, he⟩, fun he => he.2⟩⟩
    rw [(get_spec h).2 (show (k, e.2) ∈ toL t by rw [← hk]; exact he)]; rfl
theorem delT_len {hash : κ → Nat} {k : κ} {t : Nd κ ν} (h : WFr hash t) : (toL (delT hash t k)).length ≤ (toL t).length := by
  unfold delT
  split
  · have := del_len (k := k) h; omega
  · exact Nat.le_refl _
end Go.Vc.Nd
end
section
/- Iterators: where they stand, and what is left; going down to the first pair. -/
namespace Go.Proofs.YtbghmbbhkoniiaaGreat.I
open Go.Vc Go.Proofs Go.Proofs.YtbghmbbhkoniiaaGreat Go.Vc.Nd
variable {w w' : World} {v : Value} {t : Tr} {F : Nat → Prop} {hash : Ky → Nat} {s : Nat}
theorem set_at {cs : Array Value} {i j : Nat} {u : Value} (h : j < cs.size) : (cs.setIfInBounds j u)[i]? = if j = i then some u else cs[i]? := by
  rw [Array.getElem?_setIfInBounds]
  split
  · rename_i e; subst e; simp [h]
  · rfl
def Sub (w : World) (F : Nat → Prop) (hash : Ky → Nat) (s : Tr) (v : Value) (d : Nat) : Prop :=
  d ≤ 7 ∧ ((∃ p, WF hash s d p) ∨ ∃ es, s = .arr es ∧ es ≠ []) ∧ s ≠ .emp ∧ ∃ F0 : Nat → Prop, Rep w s v F0 ∧ ∀ c, F0 c → F c
structure Fr where
  s : Tr
  v : Value
  i : Nat
def Fr.idx (r : Fr) : Nat := match r.s with
  | .br false f => rk f r.i
  | _ => r.i
def Fr.ok (r : Fr) : Prop := match r.s with
  | .br _ f => r.i < 32 ∧ f r.i ≠ .emp
  | t => r.i < (toL t).length
def left (fs : List Fr) : List (Ky × Vl) := fs.flatMap fun r => rest r.s r.i
theorem left_cons (r : Fr) (fs : List Fr) : left (r :: fs) = rest r.s r.i ++ left fs := List.flatMap_cons
def Stk (w : World) (F : Nat → Prop) (hash : Ky → Nat) (cs : Array Value) : List Fr → Prop
  | [] => True
  | r :: fs => cs[1 + fs.length * 2]? = some r.v ∧ cs[1 + fs.length * 2 + 1]? = some (.int .i64 r.idx) ∧ r.ok ∧ Sub w F hash r.s r.v fs.length ∧ Stk w F hash cs fs
theorem Sub.frame {s : Tr} {d : Nat} {M : Nat → Prop} (h : Sub w F hash s v d) (hf : Frm M w w') (hM : ∀ c, F c → ¬ M c) : Sub w' F hash s v d := by
  obtain ⟨h1, h2, h3, F0, h4, h5⟩ := h
  exact ⟨h1, h2, h3, F0, h4.frame hf fun c hc => hM c (h5 c hc), h5⟩
theorem Stk.frame {cs : Array Value} {M : Nat → Prop} (hf : Frm M w w') (hM : ∀ c, F c → ¬ M c) : ∀ {fs : List Fr}, Stk w F hash cs fs → Stk w' F hash cs fs
  | [], _ => trivial
  | r :: fs, h => ⟨h.1, h.2.1, h.2.2.1, h.2.2.2.1.frame hf hM, Stk.frame hf hM h.2.2.2.2⟩
theorem Stk.cells {cs cs' : Array Value} : ∀ {fs : List Fr}, Stk w F hash cs fs → (∀ i, i < 1 + fs.length * 2 → cs'[i]? = cs[i]?) → Stk w F hash cs' fs
  | [], _, _ => trivial
  | r :: fs, h, hc => by
    simp only [List.length_cons] at hc
    exact ⟨by rw [hc _ (by omega)]; exact h.1, by rw [hc _ (by omega)]; exact h.2.1, h.2.2.1, h.2.2.2.1, Stk.cells h.2.2.2.2 fun i hi => hc i (by omega)⟩
theorem Sub.bm {f : Nat → Tr} {d : Nat} (h : Sub w F hash (.br false f) v d) : ∃ b g cap, ∃ vs : Nat → Value, v = .iface 184 (ptr b) ∧ F b ∧ F g ∧ w.heap[b]? = some (.cells #[.int .u32 (bm f), .slice (some ⟨g, 0, none⟩) (cnt f) cap] 187 (0, 0)) ∧ cnt f ≤ cap ∧
    Rw w 107 1 g cap (kids f vs) ∧ d ≤ 6 ∧ (∃ i, i < 32 ∧ f i ≠ .emp) ∧ ∀ i, i < 32 → f i ≠ .emp → Sub w F hash (f i) (vs i) (d + 1) := by
  obtain ⟨h1, h2, h3, F0, h4, h5⟩ := h
  obtain ⟨b, g, cap, vs, Fs, k1, k2, k3, k4, k5, k6, k7, k8, k9⟩ := h4
  rcases h2 with ⟨p, hp⟩ | ⟨es, hes, _⟩
  · exact ⟨b, g, cap, vs, k1, h5 _ k2, h5 _ k3, k5, k6, k7, hp.1, hp.2.2.2.1, fun i hi hf => ⟨by have := hp.1; omega, .inl ⟨_, hp.2.1 i hi⟩, hf, Fs i, k8 i hi, fun c hc => h5 c (k9 i hi c hc).1⟩⟩
  · cases hes
theorem Sub.ha {f : Nat → Tr} {d : Nat} (h : Sub w F hash (.br true f) v d) : ∃ b cs, ∃ vs : Nat → Value, v = .iface 188 (ptr b) ∧ F b ∧ w.heap[b]? = some (.cells cs 191 (0, 0)) ∧ cs.size = 33 ∧ (∀ i, i < 32 → cs[1 + i]? = some (vs i)) ∧
    (∀ i, i < 32 → (f i = .emp ↔ vs i = .nilIface)) ∧ (∀ i, i < 32 → f i ≠ .emp → ∃ u b, vs i = .iface u (ptr b)) ∧ d ≤ 6 ∧ (∃ i, i < 32 ∧ f i ≠ .emp) ∧ ∀ i, i < 32 → f i ≠ .emp → Sub w F hash (f i) (vs i) (d + 1) := by
  obtain ⟨h1, h2, h3, F0, h4, h5⟩ := h
  obtain ⟨b, cs, vs, Fs, k1, k2, k3, k4, k5, k6, k7, k8⟩ := h4
  rcases h2 with ⟨p, hp⟩ | ⟨es, hes, _⟩
  · refine ⟨b, cs, vs, k1, h5 _ k2, k3, k4, fun i hi => (by rw [Nat.add_comm]; exact k6 i hi), fun i hi => ⟨fun he => ?_, fun he => ?_⟩, fun i hi he => (k7 i hi).iface he, hp.1, hp.2.2.2.1, fun i hi hf => ⟨by have := hp.1; omega, .inl ⟨_, hp.2.1 i hi⟩, hf, Fs i, k7 i hi, fun c hc => h5 c (k8 i hi c hc).1⟩⟩
    · have := k7 i hi; rw [he] at this; exact this.nil
    · refine Classical.byContradiction fun hne => ?_
      obtain ⟨u, b, hu⟩ := (k7 i hi).iface hne
      rw [hu] at he; cases he
  · cases hes
def depthOf (w : World) (ib : Nat) : Nat := match w.heap[ib]? with
  | some (.cells cs _ _) => match (cs[65]?).getD undef with
    | .int _ j => (j + 1).toNat
    | _ => 0
  | _ => 0
theorem depthOf_eq {ib : Nat} {d : Int} {cs : Array Value} {e : TypeId} {fz : Nat × Nat} (h : w.heap[ib]? = some (.cells cs e fz)) (hd : cs[65]? = some (.int .i64 d)) : depthOf w ib = (d + 1).toNat := by
  simp only [depthOf, h, hd, Option.getD_some]
def Low (w : World) (ib mb : Nat) (F : Nat → Prop) (hash : Ky → Nat) (cs : Array Value) (fs : List Fr) (s : Tr) (v : Value) : Prop :=
  w.heap[ib]? = some (.cells cs 114 (0, 0)) ∧ cs.size = 66 ∧ cs[0]? = some (ptr mb) ∧ cs[65]? = some (.int .i64 (fs.length : Int)) ∧ cs[1 + fs.length * 2]? = some v ∧ Sub w F hash s v fs.length ∧ Stk w F hash cs fs
def At (w : World) (ib mb : Nat) (F : Nat → Prop) (hash : Ky → Nat) (L : List (Ky × Vl)) : Prop :=
  ∃ cs, ∃ fs : List Fr, w.heap[ib]? = some (.cells cs 114 (0, 0)) ∧ cs.size = 66 ∧ cs[0]? = some (ptr mb) ∧ cs[65]? = some (.int .i64 ((fs.length : Int) - 1)) ∧ Stk w F hash cs fs ∧
    match fs with
    | [] => L = []
    | r :: _ => (∀ hs f, r.s ≠ .br hs f) ∧ ∃ e, (toL r.s)[r.i]? = some e ∧ L = e :: left fs
theorem At.frame {M : Nat → Prop} {ib mb : Nat} {L : List (Ky × Vl)} (h : At w ib mb F hash L) (hf : Frm M w w') (hM : ∀ c, F c → ¬ M c) (hi : ¬ M ib) : At w' ib mb F hash L := by
  obtain ⟨cs, fs, h1, h2, h3, h4, h5, h6⟩ := h
  exact ⟨cs, fs, hf.get h1 hi, h2, h3, h4, h5.frame hf hM, h6⟩
theorem At.lt {ib mb : Nat} {L : List (Ky × Vl)} (h : At w ib mb F hash L) : ib < w.heap.size := by
  obtain ⟨cs, fs, h1, _⟩ := h; exact lt_of_get h1
theorem Low.down {ib mb : Nat} {cs : Array Value} {fs : List Fr} {w3 : World} {hs : Bool} {f : Nat → Tr} {i : Nat} {u : Value} {d6 : fs.length ≤ 6} (h : Low w ib mb F hash cs fs (.br hs f) v) (hF : ¬ F ib) (hf : Frm (· = ib) w w3)
    (hi : i < 32) (hfi : f i ≠ .emp) (hsub : Sub w F hash (f i) u (fs.length + 1))
    (hb : w3.heap[ib]? = some (.cells (((cs.setIfInBounds (1 + fs.length * 2 + 1) (.int .i64 ((Fr.mk (.br hs f) v i).idx : Int))).setIfInBounds (1 + (fs.length + 1) * 2) u).setIfInBounds 65 (.int .i64 ((fs.length + 1 : Nat) : Int))) 114 (0, 0))) :
    Low w3 ib mb F hash (((cs.setIfInBounds (1 + fs.length * 2 + 1) (.int .i64 ((Fr.mk (.br hs f) v i).idx : Int))).setIfInBounds (1 + (fs.length + 1) * 2) u).setIfInBounds 65 (.int .i64 ((fs.length + 1 : Nat) : Int))) (⟨.br hs f, v, i⟩ :: fs) (f i) u := by
  obtain ⟨h1, h2, h3, h4, h5, h6, h7⟩ := h
  have hM : ∀ c, F c → ¬ c = ib := fun c hc e => hF (e ▸ hc)
  have g : ∀ j, (((cs.setIfInBounds (1 + fs.length * 2 + 1) (.int .i64 ((Fr.mk (.br hs f) v i).idx : Int))).setIfInBounds (1 + (fs.length + 1) * 2) u).setIfInBounds 65 (.int .i64 ((fs.length + 1 : Nat) : Int)))[j]? =
      if 65 = j then some (.int .i64 ((fs.length + 1 : Nat) : Int)) else if 1 + (fs.length + 1) * 2 = j then some u else if 1 + fs.length * 2 + 1 = j then some (.int .i64 ((Fr.mk (.br hs f) v i).idx : Int)) else cs[j]? := fun j => by
    rw [set_at (by simp; omega), set_at (by simp; omega), set_at (by omega)]
  refine ⟨hb, by simp [h2], ?_, ?_, ?_, hsub.frame hf hM, ?_, ?_, ⟨hi, hfi⟩, h6.frame hf hM, ?_⟩
  · rw [g, if_neg (by omega), if_neg (by omega), if_neg (by omega)]; exact h3
  · rw [g, if_pos rfl]; rfl
  · rw [g, if_neg (by simp; omega), if_pos (by simp)]
  · rw [g, if_neg (by omega), if_neg (by omega), if_neg (by omega)]; exact h5
  · rw [g, if_neg (by omega), if_neg (by omega), if_pos rfl]
  · exact Stk.cells (h7.frame hf hM) fun j hj => by rw [g, if_neg (by omega), if_neg (by omega), if_neg (by omega)]
theorem Low.leaf {ib mb j : Nat} {cs : Array Value} {fs : List Fr} {s : Tr} {w3 : World} {e : Ky × Vl} (h : Low w ib mb F hash cs fs s v) (hF : ¬ F ib) (hf : Frm (· = ib) w w3) (hbr : ∀ hs f, s ≠ .br hs f) (he : (toL s)[j]? = some e)
    (hb : w3.heap[ib]? = some (.cells (cs.setIfInBounds (1 + fs.length * 2 + 1) (.int .i64 (j : Int))) 114 (0, 0))) : At w3 ib mb F hash ((toL s).drop j ++ left fs) := by
  obtain ⟨h1, h2, h3, h4, h5, h6, h7⟩ := h
  have hM : ∀ c, F c → ¬ c = ib := fun c hc e => hF (e ▸ hc)
  have h67 := h6.1
  have g : ∀ i, (cs.setIfInBounds (1 + fs.length * 2 + 1) (.int .i64 (j : Int)))[i]? = if 1 + fs.length * 2 + 1 = i then some (.int .i64 (j : Int)) else cs[i]? := fun i => set_at (by omega)
  obtain ⟨hlen, hej⟩ := List.getElem?_eq_some_iff.1 he
  have hrest : (toL s).drop j = e :: rest s j := by
    have : rest s j = (toL s).drop (j + 1) := by cases s <;> first | rfl | exact absurd rfl (hbr _ _)
    rw [this, List.drop_eq_getElem_cons hlen, hej]
  refine ⟨_, ⟨s, v, j⟩ :: fs, hb, by simp [h2], ?_, ?_, ⟨?_, ?_, ?_, h6.frame hf hM, ?_⟩, hbr, e, he, ?_⟩
  · rw [g, if_neg (by omega)]; exact h3
  · rw [g, if_neg (by omega), h4]; simp
  · rw [g, if_neg (by omega)]; exact h5
  · rw [g, if_pos rfl]
    cases s <;> first | rfl | exact absurd rfl (hbr _ _)
  · cases s <;> first | exact hlen | exact absurd rfl (hbr _ _)
  · exact Stk.cells (h7.frame hf hM) fun i hi => by rw [g, if_neg (by omega)]
  · rw [left_cons]
    show (toL s).drop j ++ left fs = e :: (rest s j ++ left fs)
    rw [← List.cons_append, ← hrest]
end Go.Proofs.YtbghmbbhkoniiaaGreat.I
end
section
/- Iterators: down to the first pair. -/
namespace Go.Proofs.YtbghmbbhkoniiaaGreat.I
open Go.Vc Go.Proofs Go.Proofs.YtbghmbbhkoniiaaGreat Go.Vc.Nd
variable {w w' : World} {v : Value} {F : Nat → Prop} {K : KV} {Kp : KP} {hash : Ky → Nat} {s : Nat}
theorem first_ok {ib mb : Nat} {cs : Array Value} {fs : List Fr} {s : Tr} (h : Low w ib mb F hash cs fs s v) (hF : ¬ F ib)
    (hK : ∀ w', Frm (· = ib) w w' → w'.heap.size = w.heap.size → At w' ib mb F hash (toL s ++ left fs) → K (.tuple #[]) w') : Calls Tryz.prog 64 #[ptr ib] w (ret K Kp) := by
  refine vc64_calls ?_
  simp only [vc64]
  obtain ⟨I, hI⟩ : ∃ I : World → Prop, ∀ wl, I wl ↔ ∃ cs, ∃ fs' : List Fr, ∃ s' v', Frm (· = ib) w wl ∧ wl.heap.size = w.heap.size ∧ Low wl ib mb F hash cs fs' s' v' ∧ toL s' ++ left fs' = toL s ++ left fs := ⟨_, fun _ => Iff.rfl⟩
  refine Lp.intro I (fun wl => 41 - depthOf wl ib) ⟨(hI _).2 ⟨cs, fs, s, v, Frm.refl, rfl, h, rfl⟩, ?_⟩
  intro wl _ hl
  obtain ⟨cs, fs', s', v', hf, hz, hlow, hL⟩ := (hI _).1 hl
  clear hl h
  have ⟨h1, h2, h3, h4, h5, h6, h7⟩ := hlow
  have d7 := h6.1
  have hdep := depthOf_eq h1 h4
  have hne : s' ≠ .emp := h6.2.2.1
  have hM : ∀ c, F c → ¬ c = ib := fun c hc e => hF (e ▸ hc)
  have hdr : Frm (· = ib) wl wl.drew := Frm.drew _
  have wr1 : IntKind.i64.wrap ((fs'.length : Int) + 1) = ((fs'.length + 1 : Nat) : Int) := by rw [IntKind.wrap_i64]; omega
  have tn1 : ((fs'.length : Int) + 1).toNat = fs'.length + 1 := by omega
  have r7 : (fs'.length : Int) < 32 := by omega
  cases s' with
  | emp => exact absurd rfl hne
  | arr es =>
    obtain ⟨_, hw, _, F0, ⟨b, g, cap, rfl, _⟩, _⟩ := h6
    have hes : es ≠ [] := by
      rcases hw with ⟨p, hp⟩ | ⟨es', he, hne⟩
      · exact hp.elim
      · cases he; exact hne
    simp [-getElem?_pos, -Array.getElem?_eq_getElem, -Int.natCast_add, add_spot, and_assoc, Br_dec, -op_box, -op_st_3, -op_st_107, ptr, h1, h4, h5, r7]
    refine op_store_ok (by kernel_rfl) h1 (by rw [h2]; omega) rfl fun w3 k3 z3 b3 => ?_
    have k3 := Frm.dr k3
    obtain ⟨e, es', rfl⟩ := List.exists_cons_of_ne_nil hes
    have := hlow.leaf (e := e) hF k3 (fun _ _ h => nomatch h) rfl b3
    rw [List.drop_zero, hL] at this
    exact hK w3 (hf.trans k3 fun _ h _ => h) (by rw [z3]; exact hz) this
  | val h' k' x' =>
    obtain ⟨_, hw, _, F0, ⟨b, rfl, _⟩, _⟩ := h6
    simp [-getElem?_pos, -Array.getElem?_eq_getElem, -Int.natCast_add, add_spot, and_assoc, Br_dec, -op_box, -op_st_3, -op_st_107, ptr, h1, h4, h5, r7]
    refine op_store_ok (by kernel_rfl) h1 (by rw [h2]; omega) rfl fun w3 k3 z3 b3 => ?_
    have k3 := Frm.dr k3
    have := hlow.leaf (e := (k', x')) hF k3 (fun _ _ h => nomatch h) rfl b3
    rw [List.drop_zero, hL] at this
    exact hK w3 (hf.trans k3 fun _ h _ => h) (by rw [z3]; exact hz) this
  | col h' es =>
    obtain ⟨_, hw, _, F0, ⟨b, g, cap, rfl, _⟩, _⟩ := h6
    have hes : es ≠ [] := by
      rcases hw with ⟨p, hp⟩ | ⟨es', he, hne⟩
      · have := hp.1
        intro e; rw [e] at this; simp at this
      · cases he
    simp [-getElem?_pos, -Array.getElem?_eq_getElem, -Int.natCast_add, add_spot, and_assoc, Br_dec, -op_box, -op_st_3, -op_st_107, ptr, h1, h4, h5, r7]
    refine op_store_ok (by kernel_rfl) h1 (by rw [h2]; omega) rfl fun w3 k3 z3 b3 => ?_
    have k3 := Frm.dr k3
    obtain ⟨e, es', rfl⟩ := List.exists_cons_of_ne_nil hes
    have := hlow.leaf (e := e) hF k3 (fun _ _ h => nomatch h) rfl b3
    rw [List.drop_zero, hL] at this
    exact hK w3 (hf.trans k3 fun _ h _ => h) (by rw [z3]; exact hz) this
  | br hs f =>
    cases hs with
    | false =>
      obtain ⟨b, g, cap, vs, rfl, fb, fg, hb, hc, hrw, d6, hex, hsub⟩ := h6.bm
      obtain ⟨i, hi, hfi, hi0⟩ := has_first hex
      have hk0 := kids_get (vs := vs) hi hfi
      rw [rk_first hi0] at hk0
      have hc0 : 0 < cnt f := cnt_pos hi hfi
      simp [-getElem?_pos, -Array.getElem?_eq_getElem, -Int.natCast_add, add_spot, and_assoc, Br_dec, -op_box, -op_st_3, -op_st_107, ptr, h1, h4, h5, r7]
      refine op_store_ok (by kernel_rfl) h1 (by rw [h2]; omega) rfl fun w3 k3 z3 b3 => ?_
      have k3 := Frm.dr k3
      obtain ⟨cur, c1, c2, c3⟩ := (hrw.frame k3 (hM _ fg)).cells
      have hcur : cur[0]? = some (vs i) := by rw [c3 0 (by rw [kids_len]; exact hc0)]; exact hk0
      have hb3 := k3.get hb (hM _ fb)
      have h43 : (cs.setIfInBounds (1 + fs'.length * 2 + 1) (Value.int .i64 0))[65]? = some (.int .i64 (fs'.length : Int)) := by rw [set_at (by omega), if_neg (by omega)]; exact h4
      simp [-getElem?_pos, -Array.getElem?_eq_getElem, -Int.natCast_add, add_spot, and_assoc, Br_dec, -op_box, -op_st_3, -op_st_107, b3, h43, hb3, c1, hcur, wr1, tn1]
      refine ⟨by omega, by omega, ?_⟩
      refine op_store_ok (by kernel_rfl) b3 (by simp; omega) ?_ fun w4 k4 z4 b4 => ?_
      · obtain ⟨_, _, _, F1, hr, _⟩ := hsub i hi hfi
        exact hr.one
      have k4 := Frm.dr k4
      have h44 : ((cs.setIfInBounds (1 + fs'.length * 2 + 1) (Value.int .i64 0)).setIfInBounds (1 + (fs'.length + 1) * 2) (vs i))[65]? = some (.int .i64 (fs'.length : Int)) := by rw [set_at (by simp; omega), if_neg (by omega)]; exact h43
      simp [-getElem?_pos, -Array.getElem?_eq_getElem, -Int.natCast_add, add_spot, and_assoc, Br_dec, -op_box, -op_st_3, -op_st_107, b4, h44, wr1]
      refine op_store_ok (by kernel_rfl) b4 (by simp; omega) rfl fun w5 k5 z5 b5 => ?_
      have k345 : Frm (· = ib) wl w5 := (k3.trans k4 fun _ h _ => h).trans k5 fun _ h _ => h
      have hlow' := hlow.down (d6 := d6) hF k345 hi hfi (hsub i hi hfi) (by simpa [Fr.idx, rk_first hi0] using b5)
      have hz5 : w5.heap.size = w.heap.size := by simp only [heap_drew] at z3 z4 z5; omega
      refine ⟨(hI _).2 ⟨_, _, _, _, hf.trans k345 fun _ h _ => h, hz5, hlow', ?_⟩, ?_⟩
      · rw [← hL, toL_at (hs := false) hi hi0, left_cons, List.append_assoc]
      · rw [hdep, depthOf_eq hlow'.1 hlow'.2.2.2.1]
        simp only [List.length_cons]; omega
    | true =>
      obtain ⟨b, cs', vs, rfl, fb, hb, hcs, hvs, hemp, hif, d6, hex, hsub⟩ := h6.ha
      obtain ⟨i, hi, hfi, hi0⟩ := has_first hex
      simp [-getElem?_pos, -Array.getElem?_eq_getElem, -Int.natCast_add, add_spot, and_assoc, Br_dec, -op_box, -op_st_3, -op_st_107, ptr, h1, h4, h5, r7]
      obtain ⟨J, hJ⟩ : ∃ J : KV, ∀ s wz, J s wz ↔ ∃ j : Nat, s = Value.int .i64 j ∧ j ≤ i ∧ Frm (fun _ => False) wl wz ∧ wz.heap.size = wl.heap.size := ⟨_, fun _ _ => Iff.rfl⟩
      refine Lp.intro J (fun s _ => 32 - natOf s) ⟨(hJ _ _).2 ⟨0, rfl, by omega, Frm.drew _, rfl⟩, ?_⟩
      intro wz sz hsz
      obtain ⟨j, rfl, hji, kz, hzz⟩ := (hJ _ _).1 hsz
      have hbz := kz.get hb id
      have h1z := kz.get h1 id
      have hvj := hvs j (by omega)
      have hj32 : (j : Int) < 32 := by omega
      by_cases hij : j = i
      · subst hij
        obtain ⟨uu, bb, huu⟩ := hif j hi hfi
        rw [huu] at hvj
        simp [-getElem?_pos, -Array.getElem?_eq_getElem, -Int.natCast_add, add_spot, and_assoc, Br_dec, -op_box, -op_st_3, -op_st_107, hj32, hbz, hvj]
        refine op_store_ok (by kernel_rfl) h1z (by rw [h2]; omega) rfl fun w3 k3 z3 b3 => ?_
        have h43 : (cs.setIfInBounds (1 + fs'.length * 2 + 1) (Value.int .i64 (j : Int)))[65]? = some (.int .i64 (fs'.length : Int)) := by rw [set_at (by omega), if_neg (by omega)]; exact h4
        have hb3 := k3.get hbz (hM _ fb)
        simp [-getElem?_pos, -Array.getElem?_eq_getElem, -Int.natCast_add, add_spot, and_assoc, Br_dec, -op_box, -op_st_3, -op_st_107, b3, h43, hb3, hvj, wr1, tn1]
        refine ⟨by omega, ?_⟩
        refine op_store_ok (by kernel_rfl) b3 (by simp; omega) rfl fun w4 k4 z4 b4 => ?_
        have k4 := Frm.dr k4
        have h44 : ((cs.setIfInBounds (1 + fs'.length * 2 + 1) (Value.int .i64 (j : Int))).setIfInBounds (1 + (fs'.length + 1) * 2) (.iface uu (ptr bb)))[65]? = some (.int .i64 (fs'.length : Int)) := by rw [set_at (by simp; omega), if_neg (by omega)]; exact h43
        simp [-getElem?_pos, -Array.getElem?_eq_getElem, -Int.natCast_add, add_spot, and_assoc, Br_dec, -op_box, -op_st_3, -op_st_107, b4, h44, wr1]
        refine op_store_ok (by kernel_rfl) b4 (by simp; omega) rfl fun w5 k5 z5 b5 => ?_
        have k345 : Frm (· = ib) wl w5 := ((kz.fst k3).trans k4 fun _ h _ => h).trans k5 fun _ h _ => h
        have hlow' := hlow.down (d6 := d6) hF k345 hi hfi (hsub j hi hfi) (by simpa [Fr.idx, huu] using b5)
        have hz5 : w5.heap.size = w.heap.size := by simp only [heap_drew] at z3 z4 z5; omega
        refine ⟨(hI _).2 ⟨_, _, _, _, hf.trans k345 fun _ h _ => h, hz5, hlow', ?_⟩, ?_⟩
        · rw [← hL, toL_at (hs := true) hi hi0, left_cons, List.append_assoc]
        · rw [hdep, depthOf_eq hlow'.1 hlow'.2.2.2.1]
          simp only [List.length_cons]; omega
      · have he := (hemp j (by omega)).1 (hi0 j (by omega))
        rw [he] at hvj
        simp [-getElem?_pos, -Array.getElem?_eq_getElem, -Int.natCast_add, add_spot, and_assoc, Br_dec, -op_box, -op_st_3, -op_st_107, hj32, hbz, hvj]
        rw [wrap_i64_small (by omega) (by omega)]
        refine ⟨(hJ _ _).2 ⟨j + 1, by simp, by omega, kz, hzz⟩, ?_⟩
        simp only [natOf]; omega
end Go.Proofs.YtbghmbbhkoniiaaGreat.I
end
section
/- Iterators: on to the next pair. -/
namespace Go.Proofs.YtbghmbbhkoniiaaGreat.I
open Go.Vc Go.Proofs Go.Proofs.YtbghmbbhkoniiaaGreat Go.Vc.Nd
variable {w w' : World} {F : Nat → Prop} {K : KV} {Kp : KP} {hash : Ky → Nat} {k : Ky} {s : Nat}
def Up (w : World) (ib mb : Nat) (F : Nat → Prop) (hash : Ky → Nat) (cs : Array Value) (fs : List Fr) : Prop :=
  w.heap[ib]? = some (.cells cs 114 (0, 0)) ∧ cs.size = 66 ∧ cs[0]? = some (ptr mb) ∧ cs[65]? = some (.int .i64 ((fs.length : Int) - 1)) ∧ Stk w F hash cs fs
theorem Up.low {ib mb : Nat} {cs : Array Value} {fs : List Fr} {r : Fr} (h : Up w ib mb F hash cs (r :: fs)) : Low w ib mb F hash cs fs r.s r.v := by
  obtain ⟨h1, h2, h3, h4, h5⟩ := h
  exact ⟨h1, h2, h3, by rw [h4]; simp, h5.1, h5.2.2.2.1, h5.2.2.2.2⟩
theorem next_ok {ib mb : Nat} {cs : Array Value} {fs : List Fr} (h : Up w ib mb F hash cs fs) (hF : ¬ F ib)
    (hK : ∀ w', Frm (· = ib) w w' → w'.heap.size = w.heap.size → At w' ib mb F hash (left fs) → K (.tuple #[]) w') : Calls Tryz.prog 63 #[ptr ib] w (ret K Kp) := by
  refine vc63_calls ?_
  simp only [vc63]
  obtain ⟨I, hI⟩ : ∃ I : World → Prop, ∀ wl, I wl ↔ ∃ cs, ∃ fs' : List Fr, Frm (· = ib) w wl ∧ wl.heap.size = w.heap.size ∧ Up wl ib mb F hash cs fs' ∧ left fs' = left fs := ⟨_, fun _ => Iff.rfl⟩
  refine Lp.intro I (fun wl => depthOf wl ib) ⟨(hI _).2 ⟨cs, fs, Frm.refl, rfl, h, rfl⟩, ?_⟩
  intro wl _ hl
  obtain ⟨cs, fs', hf, hz, hup, hL⟩ := (hI _).1 hl
  clear hl h
  have ⟨h1, h2, h3, h4, h5⟩ := hup
  have hdep := depthOf_eq h1 h4
  have hM : ∀ c, F c → ¬ c = ib := fun c hc e => hF (e ▸ hc)
  cases fs' with
  | nil =>
    simp [-getElem?_pos, -Array.getElem?_eq_getElem, -Int.natCast_add, add_spot, and_assoc, Br_dec, -op_box, -op_st_3, -op_st_107, ptr, h1, h4]
    exact hK wl hf hz ⟨cs, [], h1, h2, h3, h4, trivial, by rw [← hL]; rfl⟩
  | cons r fs' =>
  have hlow := hup.low
  have ⟨_, _, _, h4', h5', h6, h7⟩ := hlow
  have d7 := h6.1
  have hi0 := h5.2.1
  have hrok := h5.2.2.1
  have wr1 : IntKind.i64.wrap ((fs'.length : Int) + 1) = ((fs'.length + 1 : Nat) : Int) := by rw [IntKind.wrap_i64]; omega
  have wr2 : IntKind.i64.wrap ((fs'.length : Int) - 1) = (fs'.length : Int) - 1 := by rw [IntKind.wrap_i64]; omega
  have tn1 : ((fs'.length : Int) + 1).toNat = fs'.length + 1 := by omega
  have r7 : (fs'.length : Int) < 32 := by omega
  have rnn : (0 : Int) ≤ (fs'.length : Int) := by omega
  simp [-getElem?_pos, -Array.getElem?_eq_getElem, -Int.natCast_add, add_spot, and_assoc, Br_dec, -op_box, -op_st_3, -op_st_107, ptr, h1, h4', rnn]
  obtain ⟨J, hJ⟩ : ∃ J : World → Prop, ∀ wz, J wz ↔ Frm (fun _ => False) wl wz ∧ wz.heap.size = wl.heap.size ∧ rest r.s r.i = [] := ⟨_, fun _ => Iff.rfl⟩
  refine Jn.intro J ⟨r7, ?_, ?_⟩
  rotate_left
  · intro wz hj
    obtain ⟨kz, zz, hr⟩ := (hJ _).1 hj
    have h1z := kz.get h1 id
    simp [-getElem?_pos, -Array.getElem?_eq_getElem, -Int.natCast_add, add_spot, and_assoc, Br_dec, -op_box, -op_st_3, -op_st_107, h1z, h4', wr2]
    refine op_store_ok (by kernel_rfl) h1z (by rw [h2]; omega) rfl fun w3 k3 z3 b3 => ?_
    have h43 : (cs.setIfInBounds 65 (Value.int .i64 ((fs'.length : Int) - 1)))[65]? = some (.int .i64 ((fs'.length : Int) - 1)) := by rw [set_at (by omega), if_pos rfl]
    refine ⟨(hI _).2 ⟨_, fs', hf.trans (kz.fst k3) fun _ h _ => h, by rw [z3, zz]; exact hz, ⟨b3, by simp [h2], ?_, h43, ?_⟩, ?_⟩, ?_⟩
    · rw [set_at (by omega), if_neg (by omega)]; exact h3
    · exact Stk.cells (h7.frame (kz.fst k3) hM) fun j hj => by rw [set_at (by omega), if_neg (by omega)]
    · rw [← hL, left_cons, hr, List.nil_append]
    · rw [hdep, depthOf_eq b3 h43]
      simp only [List.length_cons]; omega
  obtain ⟨rs, rv, ri⟩ := r
  simp only at hlow h5' h6 hi0 hrok
  have hent : ∀ {es : List (Ky × Vl)} {n : Nat}, (∀ hs f, rs ≠ .br hs f) → toL rs = es → n = es.length → ri < es.length → n ≤ 9223372036854775807 → 
      (IntKind.i64.wrap ((n : Int) - 1) = (n : Int) - 1) ∧ IntKind.i64.wrap ((ri : Int) + 1) = ((ri + 1 : Nat) : Int) := fun {es n} _ _ hn hr hn2 => by
    constructor <;> rw [IntKind.wrap_i64] <;> omega
  have hstep : ∀ {w3 : World} {es : List (Ky × Vl)}, (∀ hs f, rs ≠ .br hs f) → toL rs = es → ri + 1 < es.length → Frm (· = ib) wl w3 → w3.heap.size = wl.heap.size →
      w3.heap[ib]? = some (.cells (cs.setIfInBounds (1 + fs'.length * 2 + 1) (.int .i64 ((ri + 1 : Nat) : Int))) 114 (0, 0)) → K (.tuple #[]) w3 := fun {w3 es} hbr hes hlt k3 z3 b3 => by
    have := hlow.leaf (e := es[ri + 1]) hF k3 hbr (by rw [hes]; simp [hlt]) b3
    refine hK w3 (hf.trans k3 fun _ h _ => h) (by rw [z3]; exact hz) ?_
    rw [← hL, left_cons]
    have hr : rest rs ri = (toL rs).drop (ri + 1) := by cases rs <;> first | rfl | exact absurd rfl (hbr _ _)
    show At w3 ib mb F hash (rest rs ri ++ left fs')
    rw [hr]; exact this
  cases rs with
  | emp => exact absurd rfl h6.2.2.1
  | arr es =>
    obtain ⟨_, hw, _, F0, ⟨b, g, cap, rfl, g1, g2, g3, g4, g5, g6⟩, gF⟩ := h6
    have hri : ri < es.length := hrok
    have hcap := g6.cap_le g5
    obtain ⟨e1, e2⟩ := hent (es := es) (n := es.length) (fun _ _ h => nomatch h) rfl rfl hri hcap
    have hidx : (Fr.mk (.arr es) (.iface 153 (ptr b)) ri).idx = ri := rfl
    rw [hidx] at hi0
    simp [-getElem?_pos, -Array.getElem?_eq_getElem, -Int.natCast_add, add_spot, and_assoc, Br_dec, -op_box, -op_st_3, -op_st_107, ptr, h1, h4', h5', r7, hi0, g4, e1, e2]
    refine ⟨fun hlt => ?_, fun hge => (hJ _).2 ⟨(Frm.drew _).no (Frm.drew _), rfl, ?_⟩⟩
    · refine op_store_ok (by kernel_rfl) h1 (by rw [h2]; omega) rfl fun w3 k3 z3 b3 => ?_
      exact hstep (es := es) (fun _ _ h => nomatch h) rfl (by omega) (Frm.dr (Frm.dr k3)) z3 b3
    · show es.drop (ri + 1) = []
      rw [List.drop_eq_nil_iff]; omega
  | val h' k' x' =>
    obtain ⟨_, hw, _, F0, ⟨b, rfl, g1, g2⟩, gF⟩ := h6
    simp [-getElem?_pos, -Array.getElem?_eq_getElem, -Int.natCast_add, add_spot, and_assoc, Br_dec, -op_box, -op_st_3, -op_st_107, ptr, h1, h4', h5', r7, hi0]
    refine (hJ _).2 ⟨Frm.drew _, rfl, ?_⟩
    show [(k', x')].drop (ri + 1) = []
    simp
  | col h' es =>
    obtain ⟨_, hw, _, F0, ⟨b, g, cap, rfl, g1, g2, g3, g4, g5, g6⟩, gF⟩ := h6
    have hri : ri < es.length := hrok
    have hcap := g6.cap_le g5
    obtain ⟨e1, e2⟩ := hent (es := es) (n := es.length) (fun _ _ h => nomatch h) rfl rfl hri hcap
    have hidx : (Fr.mk (.col h' es) (.iface 163 (ptr b)) ri).idx = ri := rfl
    rw [hidx] at hi0
    simp [-getElem?_pos, -Array.getElem?_eq_getElem, -Int.natCast_add, add_spot, and_assoc, Br_dec, -op_box, -op_st_3, -op_st_107, ptr, h1, h4', h5', r7, hi0, g4, e1, e2]
    refine ⟨fun hlt => ?_, fun hge => (hJ _).2 ⟨(Frm.drew _).no (Frm.drew _), rfl, ?_⟩⟩
    · refine op_store_ok (by kernel_rfl) h1 (by rw [h2]; omega) rfl fun w3 k3 z3 b3 => ?_
      exact hstep (es := es) (fun _ _ h => nomatch h) rfl (by omega) (Frm.dr (Frm.dr k3)) z3 b3
    · show es.drop (ri + 1) = []
      rw [List.drop_eq_nil_iff]; omega
  | br hs f =>
    obtain ⟨hri, hfi⟩ : ri < 32 ∧ f ri ≠ .emp := hrok
    have hgo : ∀ {w3 : World} {cs3 : Array Value} {j : Nat} {u : Value}, ri < j → j < 32 → f j ≠ .emp → (∀ k, ri < k → k < j → f k = .emp) → Frm (· = ib) wl w3 → w3.heap.size = wl.heap.size → Low w3 ib mb F hash cs3 (⟨.br hs f, rv, j⟩ :: fs') (f j) u → Calls Tryz.prog 64 #[ptr ib] w3 (ret (fun _ w => K (.tuple #[]) w) Kp) := fun {w3 cs3 j u} h1 h2 h3 h4 k3 z3 hl => by
      refine first_ok hl hF fun w4 k4 z4 hat => hK w4 (hf.trans (k3.trans k4 fun _ h _ => h) fun _ h _ => h) (by rw [z4, z3]; exact hz) ?_
      rw [← hL, left_cons]
      show At w4 ib mb F hash (rest (.br hs f) ri ++ left fs')
      rw [rest_at h1 h2 h4, List.append_assoc]
      rw [left_cons] at hat
      exact hat
    cases hs with
    | false =>
      obtain ⟨b, g, cap, vs, rfl, fb, fg, hb, hc, hrw, d6, hex, hsub⟩ := h6.bm
      have hidx : (Fr.mk (.br false f) (.iface 184 (ptr b)) ri).idx = rk f ri := rfl
      rw [hidx] at hi0
      have hc32 : cnt f ≤ 32 := cnt_le
      have hrk : rk f ri < cnt f := by rw [cnt_rk]; exact rk_lt hri hfi
      have e1 : IntKind.i64.wrap ((cnt f : Int) - 1) = (cnt f : Int) - 1 := by rw [IntKind.wrap_i64]; omega
      have e2 : IntKind.i64.wrap ((rk f ri : Int) + 1) = ((rk f ri + 1 : Nat) : Int) := by rw [IntKind.wrap_i64]; omega
      simp [-getElem?_pos, -Array.getElem?_eq_getElem, -Int.natCast_add, add_spot, and_assoc, Br_dec, -op_box, -op_st_3, -op_st_107, ptr, h1, h4', h5', r7, hi0, hb, e1, e2]
      rcases rk_last hri hfi with ⟨j, j1, j2, j3, j4, j5, j6⟩ | ⟨j1, j2⟩
      · refine ⟨fun hlt => ?_, fun hge => by omega⟩
        have hk0 := kids_get (vs := vs) j2 j3
        rw [j5] at hk0
        refine op_store_ok (by kernel_rfl) h1 (by rw [h2]; omega) rfl fun w3 k3 z3 b3 => ?_
        have k3 := Frm.dr (Frm.dr k3)
        obtain ⟨cur, c1, c2, c3⟩ := (hrw.frame k3 (hM _ fg)).cells
        have hcur : cur[rk f ri + 1]? = some (vs j) := by rw [c3 _ (by rw [kids_len]; exact j6)]; exact hk0
        have hb3 := k3.get hb (hM _ fb)
        have h43 : (cs.setIfInBounds (1 + fs'.length * 2 + 1) (Value.int .i64 ((rk f ri + 1 : Nat) : Int)))[65]? = some (.int .i64 (fs'.length : Int)) := by rw [set_at (by omega), if_neg (by omega)]; exact h4'
        have h53 : (cs.setIfInBounds (1 + fs'.length * 2 + 1) (Value.int .i64 ((rk f ri + 1 : Nat) : Int)))[1 + fs'.length * 2 + 1]? = some (.int .i64 ((rk f ri + 1 : Nat) : Int)) := by rw [set_at (by omega), if_pos rfl]
        simp [-getElem?_pos, -Array.getElem?_eq_getElem, -Int.natCast_add, add_spot, and_assoc, Br_dec, -op_box, -op_st_3, -op_st_107, b3, h43, h53, hb3, c1, hcur, wr1, tn1]
        refine ⟨by omega, by omega, ?_⟩
        refine op_store_ok (by kernel_rfl) b3 (by simp; omega) ?_ fun w4 k4 z4 b4 => ?_
        · obtain ⟨_, _, _, F1, hr, _⟩ := hsub j j2 j3
          exact hr.one
        have k4 := Frm.dr k4
        have h44 : ((cs.setIfInBounds (1 + fs'.length * 2 + 1) (Value.int .i64 ((rk f ri + 1 : Nat) : Int))).setIfInBounds (1 + (fs'.length + 1) * 2) (vs j))[65]? = some (.int .i64 (fs'.length : Int)) := by rw [set_at (by simp; omega), if_neg (by omega)]; exact h43
        simp [-getElem?_pos, -Array.getElem?_eq_getElem, -Int.natCast_add, add_spot, and_assoc, Br_dec, -op_box, -op_st_3, -op_st_107, b4, h44, wr1]
        refine op_store_ok (by kernel_rfl) b4 (by simp; omega) rfl fun w5 k5 z5 b5 => ?_
        have k345 : Frm (· = ib) wl w5 := (k3.trans k4 fun _ h _ => h).trans k5 fun _ h _ => h
        have hlow' := hlow.down (d6 := d6) hF k345 j2 j3 (hsub j j2 j3) (by simpa [Fr.idx, j5] using b5)
        exact hgo j1 j2 j3 j4 k345 (by simp only [heap_drew] at z3 z4 z5; omega) hlow'
      · refine ⟨fun hlt => by omega, fun hge => (hJ _).2 ⟨(Frm.drew _).no (Frm.drew _), rfl, rest_end j1⟩⟩
    | true =>
      obtain ⟨b, cs', vs, rfl, fb, hb, hcs, hvs, hemp, hif, d6, hex, hsub⟩ := h6.ha
      have hidx : (Fr.mk (.br true f) (.iface 188 (ptr b)) ri).idx = ri := rfl
      rw [hidx] at hi0
      have e2 : IntKind.i64.wrap ((ri : Int) + 1) = ((ri + 1 : Nat) : Int) := by rw [IntKind.wrap_i64]; omega
      simp [-getElem?_pos, -Array.getElem?_eq_getElem, -Int.natCast_add, add_spot, and_assoc, Br_dec, -op_box, -op_st_3, -op_st_107, ptr, h1, h4', h5', r7, hi0, hb, e2]
      obtain ⟨I2, hI2⟩ : ∃ I2 : KV, ∀ s wz, I2 s wz ↔ ∃ j : Nat, s = Value.int .i64 j ∧ ri < j ∧ j ≤ 32 ∧ (∀ k, ri < k → k < j → f k = .emp) ∧ Frm (fun _ => False) wl wz ∧ wz.heap.size = wl.heap.size := ⟨_, fun _ _ => Iff.rfl⟩
      refine Lp.intro I2 (fun s _ => 32 - natOf s) ⟨(hI2 _ _).2 ⟨ri + 1, rfl, by omega, by omega, fun k hk hk' => by omega, Frm.drew _, rfl⟩, ?_⟩
      intro wz sz hsz
      obtain ⟨j, rfl, hj1, hj2, hj3, kz, hzz⟩ := (hI2 _ _).1 hsz
      have hbz := kz.get hb id
      have h1z := kz.get h1 id
      by_cases hj32 : j < 32
      · have hvj := hvs j hj32
        have hj32' : (j : Int) < 32 := by omega
        by_cases hfj : f j = .emp
        · have he := (hemp j hj32).1 hfj
          rw [he] at hvj
          simp [-getElem?_pos, -Array.getElem?_eq_getElem, -Int.natCast_add, add_spot, and_assoc, Br_dec, -op_box, -op_st_3, -op_st_107, hj32', hbz, hvj]
          rw [wrap_i64_small (by omega) (by omega)]
          refine ⟨(hI2 _ _).2 ⟨j + 1, by simp, by omega, by omega, fun k hk hk' => ?_, kz, hzz⟩, ?_⟩
          · by_cases e : k = j
            · rw [e]; exact hfj
            · exact hj3 k hk (by omega)
          · simp only [natOf]; omega
        · obtain ⟨uu, bb, huu⟩ := hif j hj32 hfj
          rw [huu] at hvj
          simp [-getElem?_pos, -Array.getElem?_eq_getElem, -Int.natCast_add, add_spot, and_assoc, Br_dec, -op_box, -op_st_3, -op_st_107, hj32', hbz, hvj]
          refine op_store_ok (by kernel_rfl) h1z (by rw [h2]; omega) rfl fun w3 k3 z3 b3 => ?_
          have h43 : (cs.setIfInBounds (1 + fs'.length * 2 + 1) (Value.int .i64 (j : Int)))[65]? = some (.int .i64 (fs'.length : Int)) := by rw [set_at (by omega), if_neg (by omega)]; exact h4'
          have h53 : (cs.setIfInBounds (1 + fs'.length * 2 + 1) (Value.int .i64 (j : Int)))[1 + fs'.length * 2 + 1]? = some (.int .i64 (j : Int)) := by rw [set_at (by omega), if_pos rfl]
          have hb3 := k3.get hbz (hM _ fb)
          simp [-getElem?_pos, -Array.getElem?_eq_getElem, -Int.natCast_add, add_spot, and_assoc, Br_dec, -op_box, -op_st_3, -op_st_107, b3, h43, h53, hb3, hvj, wr1, tn1]
          refine ⟨by omega, by omega, ?_⟩
          refine op_store_ok (by kernel_rfl) b3 (by simp; omega) rfl fun w4 k4 z4 b4 => ?_
          have k4 := Frm.dr k4
          have h44 : ((cs.setIfInBounds (1 + fs'.length * 2 + 1) (Value.int .i64 (j : Int))).setIfInBounds (1 + (fs'.length + 1) * 2) (.iface uu (ptr bb)))[65]? = some (.int .i64 (fs'.length : Int)) := by rw [set_at (by simp; omega), if_neg (by omega)]; exact h43
          simp [-getElem?_pos, -Array.getElem?_eq_getElem, -Int.natCast_add, add_spot, and_assoc, Br_dec, -op_box, -op_st_3, -op_st_107, b4, h44, wr1]
          refine op_store_ok (by kernel_rfl) b4 (by simp; omega) rfl fun w5 k5 z5 b5 => ?_
          have k345 : Frm (· = ib) wl w5 := ((kz.fst k3).trans k4 fun _ h _ => h).trans k5 fun _ h _ => h
          have hlow' := hlow.down (d6 := d6) hF k345 hj32 hfj (hsub j hj32 hfj) (by simpa [Fr.idx, huu] using b5)
          exact hgo hj1 hj32 hfj hj3 k345 (by simp only [heap_drew] at z3 z4 z5; omega) hlow'
      · have hj32' : ¬ (j : Int) < 32 := by omega
        simp [-getElem?_pos, -Array.getElem?_eq_getElem, -Int.natCast_add, add_spot, and_assoc, Br_dec, -op_box, -op_st_3, -op_st_107, hj32']
        exact (hJ _).2 ⟨kz, hzz, rest_end fun k hk hk' => hj3 k hk (by omega)⟩
end Go.Proofs.YtbghmbbhkoniiaaGreat.I
end
section
/- Further single steps with the world behind them under a name. -/
namespace Go.Vc
variable {P : Program} {w w' : World} {K : Value → World → Prop} {Kp : KP} {t e : TypeId} {b o : Nat} {cs : Array Value} {v : Value} {s g cap : Nat} {xs : List Value}
theorem op_storeN_ok {vs : Array Value} {n : Nat} (h : ldk P t = some (.agg n)) (hb : w.heap[b]? = some (.cells cs e (0, 0))) (hn : vs.size = n) (ho : o + n ≤ cs.size) (h1 : ∀ u ∈ vs, u.oneCell' = true)
    (hK : ∀ w', Frm (· = b) w w' → w'.heap.size = w.heap.size → w'.heap[b]? = some (.cells (ow cs o vs.toList) e (0, 0)) → K undef w') : (nice P).op (.store t (.pointer (some ⟨b, o, none⟩)) (.agg vs)) w K Kp := by
  rw [op_stn h]
  exact ⟨hn, fun u hu => h1 u (by simpa using hu), cs, e, hb, rfl, ho, hK _ (Frm.upd _ _ fun _ => rfl) (by simp) (heap_upd_same hb)⟩
theorem ow_get {l : List Value} {cs : Array Value} {o j : Nat} (h : o + l.length ≤ cs.size) : (ow cs o l)[j]? = if o ≤ j ∧ j < o + l.length then l[j - o]? else cs[j]? := getElem?_ow l cs o h j
theorem ow_size (l : List Value) : ∀ (cs : Array Value) (o : Nat), (ow cs o l).size = cs.size := by
  induction l with
  | nil => intro cs o; rfl
  | cons v l ih => intro cs o; rw [ow, ih]; simp
end Go.Vc
end
section
/- Iterators: Done, Next, First, and a map's Iterator. -/
namespace Go.Proofs.YtbghmbbhkoniiaaGreat.I
open Go.Vc Go.Proofs Go.Proofs.YtbghmbbhkoniiaaGreat Go.Vc.Nd
variable {w w' : World} {v : Value} {t : Tr} {F : Nat → Prop} {K : KV} {Kp : KP} {hash : Ky → Nat} {s : Nat}
theorem At.depth {ib mb : Nat} {L : List (Ky × Vl)} (h : At w ib mb F hash L) : ∃ cs, ∃ fs : List Fr, Up w ib mb F hash cs fs ∧ (L = [] ↔ fs = []) ∧ L.tail = left fs ∧ match fs with
    | [] => True
    | r :: _ => (∀ hs f, r.s ≠ .br hs f) ∧ ∃ e, (toL r.s)[r.i]? = some e ∧ L = e :: left fs := by
  obtain ⟨cs, fs, h1, h2, h3, h4, h5, h6⟩ := h
  refine ⟨cs, fs, ⟨h1, h2, h3, h4, h5⟩, ?_⟩
  cases fs with
  | nil => subst h6; exact ⟨by simp, rfl, trivial⟩
  | cons r fs =>
    obtain ⟨a, e, b, c⟩ := h6
    exact ⟨by simp [c], by rw [c]; rfl, a, e, b, c⟩
theorem done_ok {ib mb : Nat} {L : List (Ky × Vl)} (h : At w ib mb F hash L) (hK : K (.bool (decide (L = []))) w) : Calls Tryz.prog 50 #[ptr ib] w (ret K Kp) := by
  obtain ⟨cs, fs, ⟨h1, h2, h3, h4, h5⟩, h6, h7, _⟩ := h.depth
  refine vc50_calls ?_
  have e : decide ((fs.length : Int) - 1 = -1) = decide (L = []) := by
    cases fs with
    | nil => have := h6.2 rfl; subst this; rfl
    | cons r fs =>
      have hL : L ≠ [] := fun h => by have := h6.1 h; cases this
      simp only [List.length_cons]
      rw [decide_eq_false (by omega), decide_eq_false hL]
  simp [-getElem?_pos, -Array.getElem?_eq_getElem, -Int.natCast_add, add_spot, and_assoc, Br_dec, -op_box, -op_st_3, -op_st_107, -op_st_111, vc50, ptr, h1, h4]
  rw [← e] at hK
  simpa using hK
def zk : Ky := 0
def nextV (L : List (Ky × Vl)) : Value := match L with
  | [] => .tuple #[ek zk, zv, .bool false]
  | e :: _ => .tuple #[ek e.1, ev e.2, .bool true]
theorem entry_at {g cap : Nat} {es : List (Ky × Vl)} {i : Nat} {e : Ky × Vl} (h : Rw w 156 2 g cap (ents es)) (he : es[i]? = some e) : ∃ cur, w.heap[g]? = some (.cells cur 156 (0, 0)) ∧ cur[i * 2]? = some (ek e.1)
    ∧ cur[i * 2 + 1]? = some (ev e.2)
    := by
  obtain ⟨cur, h1, h2⟩ := key_cell h
  obtain ⟨hi, rfl⟩ := List.getElem?_eq_some_iff.1 he
  exact ⟨cur, h1, (h2 i hi).1, by have := (h2 i hi).2; rwa [if_pos (by decide)] at this⟩
theorem Next_ok {ib mb : Nat} {L : List (Ky × Vl)} (h : At w ib mb F hash L) (hF : ¬ F ib)
    (hK : ∀ w', Frm (· = ib) w w' → w'.heap.size = w.heap.size → At w' ib mb F hash L.tail → K (nextV L) w') : Calls Tryz.prog 51 #[ptr ib] w (ret K Kp) := by
  obtain ⟨cs, fs, hup, h6, h7, h8⟩ := h.depth
  have ⟨h1, h2, h3, h4, h5⟩ := hup
  refine vc51_calls ?_
  simp only [vc51, call_50]
  refine done_ok h ?_
  simp only [Br_dec]
  refine ⟨fun e => ?_, fun hnn => ?_⟩
  · subst e
    exact hK w Frm.refl rfl h
  cases fs with
  | nil => exact absurd (h6.2 rfl) hnn
  | cons r fs =>
  have hlow := hup.low
  have ⟨_, _, _, h4', h5', hsub, hst⟩ := hlow
  have d7 := hsub.1
  have r7 : (fs.length : Int) < 32 := by omega
  have hi0 := h5.2.1
  obtain ⟨hbr, e, he, hL⟩ := h8
  subst hL
  have hfin : ∀ {wz : World}, Frm (fun _ => False) w wz → wz.heap.size = w.heap.size → Calls Tryz.prog 63 #[ptr ib] wz (ret (fun _ w => K (.tuple #[ek e.1, ev e.2, .bool true]) w) Kp) := fun {wz} kz zz => by
    have hM : ∀ c, F c → ¬ False := fun _ _ h => h
    refine next_ok (cs := cs) (fs := r :: fs) ⟨kz.get h1 id, h2, h3, h4, h5.frame kz hM⟩ hF fun w' k' z' hat => hK w' (kz.fst k') (by rw [z', zz]) ?_
    exact hat
  obtain ⟨rs, rv, ri⟩ := r
  simp only at hsub hi0 hbr he h5'
  cases rs with
  | emp => exact absurd rfl hsub.2.2.1
  | br hs f => exact absurd rfl (hbr _ _)
  | arr es =>
    obtain ⟨_, hw, _, F0, ⟨b, g, cap, rfl, g1, g2, g3, g4, g5, g6⟩, gF⟩ := hsub
    have hri : ri < es.length := (List.getElem?_eq_some_iff.1 he).1
    have hidx : (Fr.mk (.arr es) (.iface 153 (ptr b)) ri).idx = ri := rfl
    rw [hidx] at hi0
    obtain ⟨cur, c1, c2⟩ := entry_at g6 he
    obtain ⟨c2, c3⟩ := c2
    simp [-getElem?_pos, -Array.getElem?_eq_getElem, -Int.natCast_add, add_spot, and_assoc, Br_dec, -op_box, -op_st_3, -op_st_107, -op_st_111, ptr, h1, h4', h5', r7, hi0, g4, c1, c2, c3, call_63]
    exact ⟨hri, hfin (((Frm.drew _).no (Frm.drew _)).no (Frm.drew _)) rfl⟩
  | val h' k' x' =>
    obtain ⟨_, hw, _, F0, ⟨b, rfl, g1, g2⟩, gF⟩ := hsub
    have hri : ri = 0 := by have := (List.getElem?_eq_some_iff.1 he).1; simpa [toL] using this
    subst hri
    obtain rfl : (k', x') = e := by simpa [toL] using he
    simp [-getElem?_pos, -Array.getElem?_eq_getElem, -Int.natCast_add, add_spot, and_assoc, Br_dec, -op_box, -op_st_3, -op_st_107, -op_st_111, ptr, h1, h4', h5', r7, hi0, g2, call_63]
    exact hfin ((Frm.drew _).no (Frm.drew _)) rfl
  | col h' es =>
    obtain ⟨_, hw, _, F0, ⟨b, g, cap, rfl, g1, g2, g3, g4, g5, g6⟩, gF⟩ := hsub
    have hri : ri < es.length := (List.getElem?_eq_some_iff.1 he).1
    have hidx : (Fr.mk (.col h' es) (.iface 163 (ptr b)) ri).idx = ri := rfl
    rw [hidx] at hi0
    obtain ⟨cur, c1, c2⟩ := entry_at g6 he
    obtain ⟨c2, c3⟩ := c2
    simp [-getElem?_pos, -Array.getElem?_eq_getElem, -Int.natCast_add, add_spot, and_assoc, Br_dec, -op_box, -op_st_3, -op_st_107, -op_st_111, ptr, h1, h4', h5', r7, hi0, g4, c1, c2, c3, call_63]
    exact ⟨hri, hfin (((Frm.drew _).no (Frm.drew _)).no (Frm.drew _)) rfl⟩
def Itr (w : World) (ib mb : Nat) : Prop := ∃ cs, w.heap[ib]? = some (.cells cs 114 (0, 0)) ∧ cs.size = 66 ∧ cs[0]? = some (ptr mb)
theorem First_ok {ib mb : Nat} {h : Value} (hW : WFr hash t) (hm : IsMap w mb h t F) (hi : Itr w ib mb) (hF : ¬ F ib)
    (hK : ∀ w', Frm (· = ib) w w' → w'.heap.size = w.heap.size → At w' ib mb F hash (toL t) → K (.tuple #[]) w') : Calls Tryz.prog 52 #[ptr ib] w (ret K Kp) := by
  obtain ⟨r, F0, h1, h2, h3, h4⟩ := hm
  obtain ⟨cs, g1, g2, g3⟩ := hi
  have heq := fun {wz : World} {K : KV} {Kp : KP} => eq_nil h3 (wz := wz) (K := K) (Kp := Kp)
  have hM : ∀ c, F c → ¬ c = ib := fun c hc e => hF (e ▸ hc)
  refine vc52_calls ?_
  simp [-getElem?_pos, -Array.getElem?_eq_getElem, -Int.natCast_add, add_spot, and_assoc, Br_dec, -op_box, -op_st_3, -op_st_107, -op_st_111, vc52, ptr, g1, g3, h1, heq]
  refine ⟨fun e => ?_, fun e => ?_⟩
  · have := isEmp_iff.1 e
    subst this
    refine op_store_ok (by kernel_rfl) g1 (by rw [g2]; omega) rfl fun w3 k3 z3 b3 => hK w3 k3 z3 ⟨_, [], b3, by simp [g2], ?_, ?_, trivial, rfl⟩
    · rw [set_at (by omega), if_neg (by omega)]; exact g3
    · rw [set_at (by omega), if_pos rfl]; rfl
  · have hne : t ≠ .emp := fun h => by rw [h] at e; cases e
    have r1 := h3.one
    have hcs : (2 : Nat) ≤ cs.size := by omega
    obtain ⟨u, c, rfl⟩ := h3.iface hne
    simp [-getElem?_pos, -Array.getElem?_eq_getElem, -Int.natCast_add, add_spot, and_assoc, Br_dec, -op_box, -op_st_3, -op_st_107, -op_st_111, h1]
    refine op_storeN_ok (n := 2) (by kernel_rfl) (w := w.drew) g1 rfl (by rw [g2]; omega) (by simp) fun w3 k3 z3 b3 => ?_
    have k3 := Frm.dr k3
    have hg : ∀ j, (ow cs 1 [Value.iface u (ptr c), Value.int .i64 0])[j]? = if 1 ≤ j ∧ j < 3 then [Value.iface u (ptr c), Value.int .i64 0][j - 1]? else cs[j]? := fun j => ow_get (by simp; omega)
    refine op_store_ok (by kernel_rfl) b3 (by rw [ow_size]; omega) rfl fun w4 k4 z4 b4 => ?_
    have k34 : Frm (· = ib) w w4 := k3.trans k4 fun _ h _ => h
    have hz : (ow cs 1 [Value.iface u (ptr c), Value.int .i64 0]).size = 66 := by rw [ow_size]; exact g2
    refine first_ok (fs := []) (s := t) (v := .iface u (ptr c)) (F := F) (hash := hash) (mb := mb) ⟨b4, by simpa using hz, ?_, ?_, ?_, ⟨by simp, ?_, hne, F0, h3.frame k34 fun c hc => hM c (h4 c hc).1, fun c hc => (h4 c hc).1⟩, trivial⟩ hF fun w5 k5 z5 hat => ?_
    · show ((ow cs 1 [Value.iface u (ptr c), Value.int .i64 0]).setIfInBounds 65 (.int .i64 0))[0]? = _
      rw [set_at (by omega), if_neg (by omega), hg, if_neg (by omega)]; exact g3
    · show ((ow cs 1 [Value.iface u (ptr c), Value.int .i64 0]).setIfInBounds 65 (.int .i64 0))[65]? = _
      rw [set_at (by omega), if_pos rfl]; rfl
    · show ((ow cs 1 [Value.iface u (ptr c), Value.int .i64 0]).setIfInBounds 65 (.int .i64 0))[1]? = _
      rw [set_at (by omega), if_neg (by omega), hg, if_pos (by omega)]; rfl
    · cases t with
      | arr es => exact .inr ⟨es, rfl, hW.1⟩
      | emp => exact absurd rfl hne
      | br hs f => exact .inl ⟨0, hW⟩
      | val a b c => exact .inl ⟨0, hW⟩
      | col a b => exact .inl ⟨0, hW⟩
    · refine hK w5 (k34.trans k5 fun _ h _ => h) (by rw [z5, z4, z3]; rfl) ?_
      have e : left [] = ([] : List (Ky × Vl)) := rfl
      rw [e, List.append_nil] at hat
      exact hat
theorem iterator_ok {mb : Nat} {h : Value} (hW : WFr hash t) (hm : IsMap w mb h t F) (hF : ∀ c, F c → c < w.heap.size)
    (hK : ∀ ib w', Frm (fun _ => False) w w' → w.heap.size ≤ ib → At w' ib mb F hash (toL t) → K (ptr ib) w') : Calls Tryz.prog 34 #[ptr mb] w (ret K Kp) := by
  refine vc34_calls ?_
  simp [-getElem?_pos, -Array.getElem?_eq_getElem, -Int.natCast_add, add_spot, and_assoc, Br_dec, -op_box, -op_st_3, -op_st_107, -op_st_111, vc34, ptr]
  refine op_box_ok fun w1 k1 z1 b1 => ?_
  simp only [cells_agg] at b1
  refine First_ok (ib := w.heap.size) hW (hm.keep fun c o hc ho => k1.get ho fun h => h) ⟨_, b1, by simp [zero_114], ?_⟩ (fun h => by have := hF _ h; omega) fun w2 k2 z2 hat => hK _ w2 (k1.old k2 fun c hc => .inr (by omega)) (Nat.le_refl _) hat
  rw [set_at (by decide), if_pos rfl]; rfl
end Go.Proofs.YtbghmbbhkoniiaaGreat.I
end
section
/- A region's operations one at a time, for functions whose conditions are too large to print whole. -/
namespace Go.Vc
variable {S : Sig} {all rest : List Oper} {o : Oper} {e : Env} {k : Known} {w : World} {K : KE} {Kp : KP}
def plain : Op → Bool
  | .move _ | .assign _ | .pick .. => false
  | _ => true
theorem ops_op {x : VOp} (hg : o.guard = none) (hp : plain o.op = true) (hx : toV (evalE e) o.type o.op = some x)
    (h : S.op x w (fun v w' => opsVC S all rest (put e o.dst v) (putK k o.dst none) w' K Kp) Kp) : opsVC S all (o :: rest) e k w K Kp := by
  simp only [opsVC, hg]
  unfold opVC
  split
  · rename_i h1; rw [h1] at hp; cases hp
  · rename_i h1; rw [h1] at hp; cases hp
  · rename_i h1; rw [h1] at hp; cases hp
  · rw [hx]; exact h
theorem ops_pick {c x y : Operand} {b : Bool} (hg : o.guard = none) (hp : o.op = .pick c x y) (hk : kn k c = none) (hb : evalE e c = .bool b)
    (h : opsVC S all rest (put e o.dst (evalE e (bif b then x else y))) (putK k o.dst (kn k (bif b then x else y))) w K Kp) : opsVC S all (o :: rest) e k w K Kp := by
  simp only [opsVC, hg]
  unfold opVC
  rw [hp]
  simp only [hk]
  refine ⟨b, hb, fun ht => ?_, fun hf => ?_⟩
  · subst ht; exact h
  · subst hf; exact h
theorem ops_move {x : Operand} (hg : o.guard = none) (hp : o.op = .move x ∨ o.op = .assign x) (h : opsVC S all rest (put e o.dst (evalE e x)) (putK k o.dst (kn k x)) w K Kp) : opsVC S all (o :: rest) e k w K Kp := by
  simp only [opsVC, hg]
  unfold opVC
  rcases hp with h1 | h1 <;> rw [h1] <;> exact h
theorem ite_no {c : Prop} [Decidable c] {A B : Prop} (hc : ¬ c) (h : B) : if c then A else B := by rw [if_neg hc]; exact h
theorem ite_yes {c : Prop} [Decidable c] {A B : Prop} (hc : c) (h : A) : if c then A else B := by rw [if_pos hc]; exact h
theorem ops_end {Q : QE} (h : K e k w) : opsVC S all [] e k w (thenQ K Q .normal) Kp := h
end Go.Vc
namespace Go.Vc
variable {S : Sig} {e : Env} {k : Known} {w : World} {Q : QE} {Kp : KP} {a b : Code}
theorem fVC_of {fn : Func} {c : Code} {args : List Value} {K : Value → World → Prop} (h : fn.body = some c)
    (hc : codeVC S [] [] c (nthD args) (fun _ => none) w (fun ex e _ w => match ex with
      | .normal => resVC S fn.results.toList e w K
      | .ret => resVC S fn.results.toList e w K
      | _ => False) Kp) : fVC S [] [] fn args w K Kp := by
  unfold fVC
  rw [h]; exact hc
theorem code_seq (h : codeVC S [] [] a e k w (thenQ (fun e k w => codeVC S [] [] b e k w Q Kp) Q) Kp) : codeVC S [] [] (.seq a b) e k w Q Kp := by
  unfold codeVC
  have : (firstRegion b).bind (lk · []) = none := by cases firstRegion b <;> rfl
  rw [this]; exact h
theorem code_region {id : Nat} {ops : Array Oper} (h : opsVC S ops.toList ops.toList e k w (Q .normal) Kp) : codeVC S [] [] (.region id ops false) e k w Q Kp := by
  unfold codeVC; exact h
theorem code_block {id : Nat} (h : codeVC S [] [] a e k w (blockQ id Q) Kp) : codeVC S [] [] (.block id a) e k w Q Kp := by
  unfold codeVC; exact h
theorem code_cond {c : Operand} {t : Bool} (hb : evalE e c = .bool t) (hk : kn k c = none ∨ kn k c = some (some t)) (h : codeVC S [] [] (bif t then a else b) e k w Q Kp) : codeVC S [] [] (.cond c a b) e k w Q Kp := by
  unfold codeVC
  rcases hk with hk | hk
  · rw [hk]
    refine ⟨t, hb, fun ht => ?_, fun hf => ?_⟩
    · subst ht; exact h
    · subst hf; exact h
  · rw [hk]
    cases t <;> exact h
theorem code_ret (h : Q .ret e k w) : codeVC S [] [] .ret e k w Q Kp := h
end Go.Vc
end
section
/- Two values of an interface that are compared. -/
namespace Go.Vc
variable {P : Program} {w : World} {K : Value → World → Prop} {Kp : KP} {t u : TypeId}
theorem op_eql_ifaces {xc yc : Bool} {x y : Value} {b : Bool} {ms : Array (String × TypeId)} {i : TypeInfo} (ht : P.underlying t = some (.interface ms)) (hi : P.info? u = some i) (hc : i.comparable = true)
    (he : ∀ w, (Op.equalIn 9999 u x y).run P w = .ok b w) (hK : K (.bool b) w) : (nice P).op (.bin .eql t xc yc (.iface u x) (.iface u y)) w K Kp := by
  show outOf P (VOp.bin .eql t xc yc (.iface u x) (.iface u y)).sem w K Kp
  refine out_ok (v := .bool b) (w' := w) ?_ hK
  have h1 : ∀ w, (Op.equal t (.iface u x) (.iface u y)).run P w = .ok b w := fun w => by
    unfold Op.equal Op.maxDepth
    rw [Op.equalIn]
    simp only [Sem.run_bind, run_und ht, Result.andThen_ok, ne_eq, not_true_eq_false, if_false, typeInfo, program, Sem.run, hi]
    simp [hc, he]
  have h2 : ∀ w, (eqGuard .eql t (opd xc) (opd yc) (.iface u x) (.iface u y)).run P w = .ok () w := fun w => by
    simp [eqGuard]
  simp [VOp.sem, h2, binOp, h1]
theorem eql_int {k : IntKind} {a b : Int} (hu : P.underlying u = some (.int k)) (w : World) : (Op.equalIn 9999 u (.int k a) (.int k b)).run P w = .ok (decide (a = b)) w := by
  rw [run_equalIn_int (k' := k) (h := hu)]
  by_cases h : a = b <;> simp [h]
theorem toList_inj {a b : ByteArray} : a.toList = b.toList ↔ a = b := by
  rw [ByteArray.toList_eq, ByteArray.toList_eq]
  constructor
  · intro h
    have : a.data = b.data := Array.toList_inj.1 h
    cases a; cases b; simp_all
  · rintro rfl; rfl
end Go.Vc
end
section
namespace Go.Proofs.YtbghmbbhkoniiaaGreat
open Go.Vc Go.Proofs
variable {S : Sig} {a0 a1 a2 a3 a4 a5 a6 a7 a8 a9 : Value} {w : World} {K : KV} {Kp : KP}
private theorem follows_MVcL : Tryz.prog.follows .mixedOrders = true := by kernel_rfl
def vc5 (S : Sig) (a0 a1 : Value) (w : World) (K : KV) (Kp : KP) : Prop :=
 S.op (.box 24 a0) w (fun v2 w =>
 S.op (.blt .len [26] 3 [a1]) w (fun v6 w =>
 S.op (.bin .leq 3 false true v6 (.int .i64 12)) w (fun v7 w =>
 Br v7 (
 S.call (.fn 14) [a1] w (fun v10 w =>
 Br v10 (
 S.op (.fieldAddr 24 v2 2) w (fun v13 w =>
 S.op (.load 5 v13) w (fun v14 w =>
 S.op (.bin .lss 5 false true v14 (.int .u8 32)) w (fun v15 w =>
 K v15 w) Kp) Kp) Kp) (
 K (.bool false) w)) Kp) (
 K (.bool false) w)) Kp) Kp) Kp
theorem vc5_eq : vc5 S a0 a1 w K Kp = fVC S [] [] Tryz.f5 [a0, a1] w K Kp := by kernel_rfl
theorem vc5_calls (h : vc5 (nice Tryz.prog) a0 a1 w K Kp) : Calls Tryz.prog 5 #[a0, a1] w (ret K Kp) :=
 fVC_sound (args := [a0, a1]) nice_le follows_MVcL Tryz.func5 (by kernel_rfl) (Eq.mp vc5_eq h)
def vc6 (S : Sig) (w : World) (K : KV) (Kp : KP) : Prop :=
 S.op (.build 24 []) w (fun v2 w =>
 S.op (.build 52 [(0, (.int .u8 0)), (2, (.int .i64 1)), (3, (.int .i64 5))]) w (fun v3 w =>
 S.op (.build 52 [(0, (.int .u8 0)), (1, (.int .i64 1)), (2, (.int .i64 2)), (3, (.int .i64 6))]) w (fun v4 w =>
 S.op (.build 52 [(0, (.int .u8 1)), (1, (.int .i64 2)), (2, (.int .i64 1))]) w (fun v5 w =>
 S.op (.buildSlice 33 3 [(0, v3), (1, v4), (2, v5)]) w (fun v6 w =>
 S.call (.fn 15) [v2, v6] w (fun v7 w =>
 S.op (.blt .len [50] 3 [v7]) w (fun v9 w =>
 S.op (.bin .eql 3 false true v9 (.int .i64 4)) w (fun v10 w =>
 Br v10 (
 S.op (.indexAddr 50 v7 (.int .i64 2)) w (fun v13 w =>
 S.op (.fieldAddr 55 v13 0) w (fun v14 w =>
 S.op (.load 3 v14) w (fun v15 w =>
 S.op (.bin .eql 3 false true v15 (.int .i64 2)) w (fun v16 w =>
 Br v16 (
 S.op (.indexAddr 50 v7 (.int .i64 3)) w (fun v20 w =>
 S.op (.fieldAddr 55 v20 0) w (fun v21 w =>
 S.op (.load 3 v21) w (fun v22 w =>
 S.op (.bin .eql 3 false true v22 (.int .i64 1)) w (fun v23 w =>
 Br v23 (
 S.op (.indexAddr 50 v7 (.int .i64 3)) w (fun v27 w =>
 S.op (.fieldAddr 55 v27 1) w (fun v28 w =>
 S.op (.load 53 v28) w (fun v29 w =>
 S.op (.build 58 [(0, (.int .i64 2)), (1, (.int .i64 6))]) w (fun v30 w =>
 S.op (.buildSlice 53 1 [(0, v30)]) w (fun v31 w =>
 S.call (.fn 16) [v29, v31] w (fun v32 w =>
 K v32 w) Kp) Kp) Kp) Kp) Kp) Kp) (
 K (.bool false) w)) Kp) Kp) Kp) Kp) (
 K (.bool false) w)) Kp) Kp) Kp) Kp) (
 K (.bool false) w)) Kp) Kp) Kp) Kp) Kp) Kp) Kp) Kp
theorem vc6_eq : vc6 S  w K Kp = fVC S [] [] Tryz.f6 [] w K Kp := by kernel_rfl
theorem vc6_calls (h : vc6 (nice Tryz.prog)  w K Kp) : Calls Tryz.prog 6 #[] w (ret K Kp) :=
 fVC_sound (args := []) nice_le follows_MVcL Tryz.func6 (by kernel_rfl) (Eq.mp vc6_eq h)
def vc12 (S : Sig) (a0 : Value) (w : World) (K : KV) (Kp : KP) : Prop :=
 S.op (.mkMap 37 none) w (fun v6 w =>
 S.op (.buildSlice 29 1 [(0, v6)]) w (fun v7 w =>
 S.op (.blt .len [26] 3 [a0]) w (fun v9 w =>
 Lp fun (I3 : Value → KV) (μ3 : Value → Value → World → Nat) => I3 v7 (.int .i64 0) w ∧
 ∀ (wl3 : World) (junk : Nat → Value) (s3 : Value) (s10 : Value), I3 s3 s10 wl3 →
 S.op (.bin .lss 3 false false s10 v9) wl3 (fun v11 w =>
 Br v11 (
 S.op (.indexAddr 26 a0 s10) w (fun v12 w =>
 S.op (.load 42 v12) w (fun v13 w =>
 S.op (.alloc 42) w (fun v5 w =>
 S.op (.store 42 v5 v13) w (fun _ w =>
 S.pur (.fieldAddr 42 v5 1) (fun v16 =>
 S.ld (.load 3 v16) w.drew (fun v17 =>
 S.pur (.indexAddr 29 s3 v17) (fun v18 =>
 S.ld (.load 37 v18) w.drew (fun v19 =>
 S.ld (.load 42 v5) w.drew (fun v20 =>
 S.call (.fn 17) [v19, v20] w.drew (fun v21 w =>
 S.op (.buildSlice 29 1 [(0, v21)]) w (fun v22 w =>
 S.op (.blt .append [29, 29] 29 [s3, v22]) w (fun v23 w =>
 S.op (.bin .add 3 false true s10 (.int .i64 1)) w (fun v24 w =>
 I3 v23 v24 w ∧ μ3 v23 v24 w < μ3 s3 s10 wl3) Kp) Kp) Kp) Kp)))))) Kp) Kp) Kp) Kp) (
 K s3 w)) Kp) Kp) Kp) Kp
theorem vc12_eq : vc12 S a0 w K Kp = fVC S [(3, [3, 10])] [] Tryz.f12 [a0] w K Kp := by kernel_rfl
theorem vc12_calls (h : vc12 (nice Tryz.prog) a0 w K Kp) : Calls Tryz.prog 12 #[a0] w (ret K Kp) :=
 fVC_sound (args := [a0]) nice_le follows_MVcL Tryz.func12 (by kernel_rfl) (Eq.mp vc12_eq h)
def vc9 (S : Sig) (a0 : Value) (w : World) (K : KV) (Kp : KP) : Prop :=
 S.op (.blt .len [26] 3 [a0]) w (fun v7 w =>
 Lp fun (I3 : Value → KV) (μ3 : Value → Value → World → Nat) => I3 (.slice none 0 0) (.int .i64 0) w ∧
 ∀ (wl3 : World) (junk : Nat → Value) (s3 : Value) (s8 : Value), I3 s3 s8 wl3 →
 S.op (.bin .lss 3 false false s8 v7) wl3 (fun v9 w =>
 Br v9 (
 S.op (.indexAddr 26 a0 s8) w (fun v10 w =>
 S.op (.load 42 v10) w (fun v11 w =>
 S.op (.alloc 42) w (fun v5 w =>
 S.op (.store 42 v5 v11) w (fun _ w =>
 S.op (.load 42 v5) w (fun v13 w =>
 S.op (.buildSlice 33 1 [(0, v13)]) w (fun v14 w =>
 S.op (.blt .append [33, 33] 33 [s3, v14]) w (fun v15 w =>
 S.op (.bin .add 3 false true s8 (.int .i64 1)) w (fun v16 w =>
 I3 v15 v16 w ∧ μ3 v15 v16 w < μ3 s3 s8 wl3) Kp) Kp) Kp) Kp) Kp) Kp) Kp) Kp) (
 K s3 w)) Kp) Kp
theorem vc9_eq : vc9 S a0 w K Kp = fVC S [(3, [3, 8])] [] Tryz.f9 [a0] w K Kp := by kernel_rfl
theorem vc9_calls (h : vc9 (nice Tryz.prog) a0 w K Kp) : Calls Tryz.prog 9 #[a0] w (ret K Kp) :=
 fVC_sound (args := [a0]) nice_le follows_MVcL Tryz.func9 (by kernel_rfl) (Eq.mp vc9_eq h)
def vc15 (S : Sig) (a0 a1 : Value) (w : World) (K : KV) (Kp : KP) : Prop :=
 S.op (.box 24 a0) w (fun v2 w =>
 S.op (.load 24 v2) w (fun v8 w =>
 S.call (.fn 31) [v8, a1] w (fun v10 w =>
 S.op (.blt .len [79] 3 [v10]) w (fun v11 w =>
 Lp fun (I3 : Value → KV) (μ3 : Value → Value → World → Nat) => I3 (.slice none 0 0) (.int .i64 0) w ∧
 ∀ (wl3 : World) (junk : Nat → Value) (s5 : Value) (s12 : Value), I3 s5 s12 wl3 →
 S.op (.bin .lss 3 false false s12 v11) wl3 (fun v13 w =>
 Br v13 (
 S.op (.indexAddr 79 v10 s12) w (fun v14 w =>
 S.op (.load 81 v14) w (fun v15 w =>
 S.call (.fn 33) [v15] w (fun v18 w =>
 S.call (.fn 34) [v15] w (fun v20 w =>
 S.call (.fn 32) [v18, v20] w (fun v21 w =>
 S.op (.buildSlice 50 1 [(0, v21)]) w (fun v22 w =>
 S.op (.blt .append [50, 50] 50 [s5, v22]) w (fun v23 w =>
 S.op (.bin .add 3 false true s12 (.int .i64 1)) w (fun v24 w =>
 I3 v23 v24 w ∧ μ3 v23 v24 w < μ3 s5 s12 wl3) Kp) Kp) Kp) Kp) Kp) Kp) Kp) Kp) (
 K s5 w)) Kp) Kp) Kp) Kp) Kp
theorem vc15_eq : vc15 S a0 a1 w K Kp = fVC S [(3, [5, 12])] [] Tryz.f15 [a0, a1] w K Kp := by kernel_rfl
theorem vc15_calls (h : vc15 (nice Tryz.prog) a0 a1 w K Kp) : Calls Tryz.prog 15 #[a0, a1] w (ret K Kp) :=
 fVC_sound (args := [a0, a1]) nice_le follows_MVcL Tryz.func15 (by kernel_rfl) (Eq.mp vc15_eq h)
def vc16 (S : Sig) (a0 a1 : Value) (w : World) (K : KV) (Kp : KP) : Prop :=
 S.op (.blt .len [53] 3 [a0]) w (fun v7 w =>
 S.op (.blt .len [53] 3 [a1]) w (fun v9 w =>
 S.op (.bin .neq 3 false false v7 v9) w (fun v10 w =>
 Br v10 (
 K (.bool false) w) (
 S.op (.blt .len [53] 3 [a0]) w (fun v12 w =>
 Lp fun (I4 : KV) (μ4 : Value → World → Nat) => I4 (.int .i64 0) w ∧
 ∀ (wl4 : World) (junk : Nat → Value) (s13 : Value), I4 s13 wl4 →
 S.op (.bin .lss 3 false false s13 v12) wl4 (fun v14 w =>
 Br v14 (
 S.pur (.indexAddr 53 a0 s13) (fun v18 =>
 S.ld (.load 58 v18) w.drew (fun v19 =>
 S.pur (.indexAddr 53 a1 s13) (fun v22 =>
 S.ld (.load 58 v22) w.drew (fun v23 =>
 S.pur (.bin .neq 58 false false v19 v23) (fun v24 =>
 Br v24 (
 K (.bool false) w.drew) (
 S.op (.bin .add 3 false true s13 (.int .i64 1)) w.drew (fun v25 w =>
 I4 v25 w ∧ μ4 v25 w < μ4 s13 wl4) Kp))))))) (
 K (.bool true) w)) Kp) Kp)) Kp) Kp) Kp
theorem vc16_eq : vc16 S a0 a1 w K Kp = fVC S [(4, [13])] [] Tryz.f16 [a0, a1] w K Kp := by kernel_rfl
theorem vc16_calls (h : vc16 (nice Tryz.prog) a0 a1 w K Kp) : Calls Tryz.prog 16 #[a0, a1] w (ret K Kp) :=
 fVC_sound (args := [a0, a1]) nice_le follows_MVcL Tryz.func16 (by kernel_rfl) (Eq.mp vc16_eq h)
def vc11 (S : Sig) (a0 : Value) (w : World) (K : KV) (Kp : KP) : Prop :=
 S.op (.bin .eql 26 false true a0 (.slice none 0 0)) w (fun v4 w =>
 Br v4 (
 K (.slice none 0 0) w) (
 S.op (.buildSlice 26 0 []) w (fun v5 w =>
 S.op (.blt .append [26, 26] 26 [v5, a0]) w (fun v7 w =>
 K v7 w) Kp) Kp)) Kp
theorem vc11_eq : vc11 S a0 w K Kp = fVC S [] [] Tryz.f11 [a0] w K Kp := by kernel_rfl
theorem vc11_calls (h : vc11 (nice Tryz.prog) a0 w K Kp) : Calls Tryz.prog 11 #[a0] w (ret K Kp) :=
 fVC_sound (args := [a0]) nice_le follows_MVcL Tryz.func11 (by kernel_rfl) (Eq.mp vc11_eq h)
def vc14 (S : Sig) (a0 : Value) (w : World) (K : KV) (Kp : KP) : Prop :=
 S.op (.blt .len [26] 3 [a0]) w (fun v7 w =>
 Lp fun (I3 : Value → KV) (μ3 : Value → Value → World → Nat) => I3 (.int .i64 0) (.int .i64 0) w ∧
 ∀ (wl3 : World) (junk : Nat → Value) (s3 : Value) (s8 : Value), I3 s3 s8 wl3 →
 S.op (.bin .lss 3 false false s8 v7) wl3 (fun v9 w =>
 Br v9 (
 S.op (.indexAddr 26 a0 s8) w (fun v11 w =>
 S.op (.load 42 v11) w (fun v12 w =>
 S.op (.alloc 42) w (fun v5 w =>
 S.op (.store 42 v5 v12) w (fun _ w =>
 S.op (.fieldAddr 42 v5 0) w (fun v13 w =>
 S.op (.load 5 v13) w (fun v14 w =>
 S.op (.bin .gtr 5 false true v14 (.int .u8 3)) w (fun v15 w =>
 Br v15 (
 K (.bool false) w) (
 S.op (.fieldAddr 42 v5 1) w (fun v17 w =>
 S.op (.load 3 v17) w (fun v18 w =>
 S.op (.bin .lss 3 false true v18 (.int .i64 0)) w (fun v19 w =>
 Br v19 (
 K (.bool false) w) (
 S.op (.fieldAddr 42 v5 1) w (fun v22 w =>
 S.op (.load 3 v22) w (fun v23 w =>
 S.op (.bin .gtr 3 false false v23 s8) w (fun v25 w =>
 Br v25 (
 K (.bool false) w) (
 S.op (.fieldAddr 42 v5 4) w (fun v28 w =>
 S.op (.load 3 v28) w (fun v29 w =>
 S.op (.bin .lss 3 false true v29 (.int .i64 0)) w (fun v30 w =>
 Br v30 (
 K (.bool false) w) (
 S.op (.fieldAddr 42 v5 4) w (fun v33 w =>
 S.op (.load 3 v33) w (fun v34 w =>
 S.op (.bin .gtr 3 false true v34 (.int .i64 2000)) w (fun v35 w =>
 Br v35 (
 K (.bool false) w) (
 S.op (.fieldAddr 42 v5 4) w (fun v38 w =>
 S.op (.load 3 v38) w (fun v39 w =>
 S.op (.bin .add 3 true false (.int .i64 1) v39) w (fun v40 w =>
 S.op (.bin .add 3 false false s3 v40) w (fun v41 w =>
 S.op (.bin .add 3 false true s8 (.int .i64 1)) w (fun v42 w =>
 I3 v41 v42 w ∧ μ3 v41 v42 w < μ3 s3 s8 wl3) Kp) Kp) Kp) Kp) Kp)) Kp) Kp) Kp)) Kp) Kp) Kp)) Kp) Kp) Kp)) Kp) Kp) Kp)) Kp) Kp) Kp) Kp) Kp) Kp) Kp) (
 S.op (.bin .leq 3 false true s3 (.int .i64 12000)) w (fun v44 w =>
 K v44 w) Kp)) Kp) Kp
theorem vc14_eq : vc14 S a0 w K Kp = fVC S [(3, [3, 8])] [] Tryz.f14 [a0] w K Kp := by kernel_rfl
theorem vc14_calls (h : vc14 (nice Tryz.prog) a0 w K Kp) : Calls Tryz.prog 14 #[a0] w (ret K Kp) :=
 fVC_sound (args := [a0]) nice_le follows_MVcL Tryz.func14 (by kernel_rfl) (Eq.mp vc14_eq h)
def vc17 (S : Sig) (a0 a1 : Value) (w : World) (K : KV) (Kp : KP) : Prop :=
 S.op (.box 42 a1) w (fun v3 w =>
 S.op (.mkMap 37 none) w (fun v10 w =>
 S.op (.range 37 a0) w (fun v12 w =>
 Lp fun (I3 : World → Prop) (μ3 : World → Nat) => I3 w ∧
 ∀ (wl3 : World) (junk : Nat → Value), I3 wl3 →
 S.op (.next v12 false 0) wl3 (fun v13 w =>
 S.op (.extract v13 0) w (fun v14 w =>
 Br v14 (
 S.op (.entry v12) w (fun v15 w =>
 S.op (.extract v15 0) w (fun v16 w =>
 S.op (.extract v15 1) w (fun v17 w =>
 S.op (.mapUpdate 37 v10 v16 v17) w (fun _ w =>
 I3 w ∧ μ3 w < μ3 wl3) Kp) Kp) Kp) Kp) (
 S.op (.fieldAddr 42 v3 0) w (fun v21 w =>
 S.op (.load 5 v21) w (fun v22 w =>
 S.op (.bin .eql 5 false true v22 (.int .u8 0)) w (fun v24 w =>
 Br v24 (
 S.op (.fieldAddr 42 v3 2) w (fun v26 w =>
 S.op (.load 2 v26) w (fun v27 w =>
 S.op (.fieldAddr 42 v3 3) w (fun v28 w =>
 S.op (.load 2 v28) w (fun v29 w =>
 S.op (.mapUpdate 37 v10 v27 v29) w (fun _ w =>
 K v10 w) Kp) Kp) Kp) Kp) Kp) (
 S.op (.bin .eql 5 false true v22 (.int .u8 1)) w (fun v31 w =>
 Br v31 (
 S.op (.fieldAddr 42 v3 2) w (fun v33 w =>
 S.op (.load 2 v33) w (fun v34 w =>
 S.op (.blt .delete [37, 2] 0 [v10, v34]) w (fun _ w =>
 K v10 w) Kp) Kp) Kp) (
 S.op (.bin .eql 5 false true v22 (.int .u8 2)) w (fun v36 w =>
 Br v36 (
 S.op (.fieldAddr 42 v3 4) w (fun v37 w =>
 S.op (.load 3 v37) w (fun v38 w =>
 Lp fun (I13 : KV) (μ13 : Value → World → Nat) => I13 (.int .i64 0) w ∧
 ∀ (wl13 : World) (junk : Nat → Value) (s39 : Value), I13 s39 wl13 →
 S.op (.bin .lss 3 false false s39 v38) wl13 (fun v40 w =>
 Br v40 (
 S.op (.fieldAddr 42 v3 2) w (fun v43 w =>
 S.op (.load 2 v43) w (fun v44 w =>
 S.op (.fieldAddr 42 v3 3) w (fun v46 w =>
 S.op (.load 2 v46) w (fun v47 w =>
 S.op (.bin .mul 2 false false s39 v47) w (fun v48 w =>
 S.op (.bin .add 2 false false v44 v48) w (fun v49 w =>
 S.op (.mapUpdate 37 v10 v49 s39) w (fun _ w =>
 S.op (.bin .add 3 false true s39 (.int .i64 1)) w (fun v51 w =>
 I13 v51 w ∧ μ13 v51 w < μ13 s39 wl13) Kp) Kp) Kp) Kp) Kp) Kp) Kp) Kp) (
 K v10 w)) Kp) Kp) Kp) (
 S.op (.bin .eql 5 false true v22 (.int .u8 3)) w (fun v53 w =>
 Br v53 (
 S.op (.fieldAddr 42 v3 4) w (fun v54 w =>
 S.op (.load 3 v54) w (fun v55 w =>
 Lp fun (I19 : KV) (μ19 : Value → World → Nat) => I19 (.int .i64 0) w ∧
 ∀ (wl19 : World) (junk : Nat → Value) (s56 : Value), I19 s56 wl19 →
 S.op (.bin .lss 3 false false s56 v55) wl19 (fun v57 w =>
 Br v57 (
 S.op (.fieldAddr 42 v3 2) w (fun v60 w =>
 S.op (.load 2 v60) w (fun v61 w =>
 S.op (.fieldAddr 42 v3 3) w (fun v63 w =>
 S.op (.load 2 v63) w (fun v64 w =>
 S.op (.bin .mul 2 false false s56 v64) w (fun v65 w =>
 S.op (.bin .add 2 false false v61 v65) w (fun v66 w =>
 S.op (.blt .delete [37, 2] 0 [v10, v66]) w (fun _ w =>
 S.op (.bin .add 3 false true s56 (.int .i64 1)) w (fun v67 w =>
 I19 v67 w ∧ μ19 v67 w < μ19 s56 wl19) Kp) Kp) Kp) Kp) Kp) Kp) Kp) Kp) (
 K v10 w)) Kp) Kp) Kp) (
 K v10 w)) Kp)) Kp)) Kp)) Kp) Kp) Kp)) Kp) Kp) Kp) Kp) Kp
theorem vc17_eq : vc17 S a0 a1 w K Kp = fVC S [(3, []), (13, [39]), (19, [56])] [] Tryz.f17 [a0, a1] w K Kp := by kernel_rfl
theorem vc17_calls (h : vc17 (nice Tryz.prog) a0 a1 w K Kp) : Calls Tryz.prog 17 #[a0, a1] w (ret K Kp) :=
 fVC_sound (args := [a0, a1]) nice_le follows_MVcL Tryz.func17 (by kernel_rfl) (Eq.mp vc17_eq h)
def vc31 (S : Sig) (a0 a1 : Value) (w : World) (K : KV) (Kp : KP) : Prop :=
 S.op (.box 24 a0) w (fun v2 w =>
 S.op (.load 24 v2) w (fun v12 w =>
 S.call (.fn 25) [v12] w (fun v13 w =>
 S.call (.fn 47) [v13] w (fun v14 w =>
 S.op (.buildSlice 79 1 [(0, v14)]) w (fun v15 w =>
 S.op (.blt .len [33] 3 [a1]) w (fun v17 w =>
 Lp fun (I3 : Value → KV) (μ3 : Value → Value → World → Nat) => I3 v15 (.int .i64 0) w ∧
 ∀ (wl3 : World) (junk : Nat → Value) (s5 : Value) (s18 : Value), I3 s5 s18 wl3 →
 S.op (.bin .lss 3 false false s18 v17) wl3 (fun v19 w =>
 Br v19 (
 S.op (.indexAddr 33 a1 s18) w (fun v20 w =>
 S.op (.load 52 v20) w (fun v21 w =>
 S.op (.alloc 52) w (fun v7 w =>
 S.op (.store 52 v7 v21) w (fun _ w =>
 S.op (.load 24 v2) w (fun v22 w =>
 S.call (.fn 25) [v22] w (fun v23 w =>
 S.call (.fn 47) [v23] w (fun v24 w =>
 Jn fun (J25 : KV) =>
 (S.op (.load 52 v7) w (fun v25 w =>
 S.op (.blt .len [79] 3 [s5]) w (fun v27 w =>
 S.call (.fn 36) [v25, v27] w (fun v28 w =>
 Br v28 (
 S.op (.fieldAddr 52 v7 1) w (fun v30 w =>
 S.op (.load 3 v30) w (fun v31 w =>
 S.op (.indexAddr 79 s5 v31) w (fun v32 w =>
 S.op (.load 81 v32) w (fun v33 w =>
 S.op (.fieldAddr 52 v7 0) w (fun v34 w =>
 S.op (.load 5 v34) w (fun v35 w =>
 S.op (.bin .eql 5 false true v35 (.int .u8 0)) w (fun v37 w =>
 Br v37 (
 S.op (.fieldAddr 52 v7 2) w (fun v39 w =>
 S.op (.load 2 v39) w (fun v40 w =>
 S.op (.fieldAddr 52 v7 3) w (fun v41 w =>
 S.op (.load 2 v41) w (fun v42 w =>
 S.call (.fn 48) [v33, v40, v42] w (fun v43 w =>
 J25 v43 w) Kp) Kp) Kp) Kp) Kp) (
 S.op (.bin .eql 5 false true v35 (.int .u8 1)) w (fun v45 w =>
 Br v45 (
 S.op (.fieldAddr 52 v7 2) w (fun v47 w =>
 S.op (.load 2 v47) w (fun v48 w =>
 S.call (.fn 49) [v33, v48] w (fun v49 w =>
 J25 v49 w) Kp) Kp) Kp) (
 S.op (.bin .eql 5 false true v35 (.int .u8 2)) w (fun v51 w =>
 Br v51 (
 Lp fun (I16 : Value → KV) (μ16 : Value → Value → World → Nat) => I16 v33 (.int .i64 0) w ∧
 ∀ (wl16 : World) (junk : Nat → Value) (s8 : Value) (s10 : Value), I16 s8 s10 wl16 →
 S.op (.fieldAddr 52 v7 4) wl16 (fun v54 w =>
 S.op (.load 3 v54) w (fun v55 w =>
 S.op (.bin .lss 3 false false s10 v55) w (fun v56 w =>
 Br v56 (
 S.op (.fieldAddr 52 v7 2) w (fun v60 w =>
 S.op (.load 2 v60) w (fun v61 w =>
 S.op (.fieldAddr 52 v7 3) w (fun v63 w =>
 S.op (.load 2 v63) w (fun v64 w =>
 S.op (.bin .mul 2 false false s10 v64) w (fun v65 w =>
 S.op (.bin .add 2 false false v61 v65) w (fun v66 w =>
 S.call (.fn 48) [s8, v66, s10] w (fun v68 w =>
 S.op (.bin .add 3 false true s10 (.int .i64 1)) w (fun v58 w =>
 I16 v68 v58 w ∧ μ16 v68 v58 w < μ16 s8 s10 wl16) Kp) Kp) Kp) Kp) Kp) Kp) Kp) Kp) (
 J25 s8 w)) Kp) Kp) Kp) (
 S.op (.bin .eql 5 false true v35 (.int .u8 3)) w (fun v70 w =>
 Br v70 (
 Lp fun (I22 : Value → KV) (μ22 : Value → Value → World → Nat) => I22 v33 (.int .i64 0) w ∧
 ∀ (wl22 : World) (junk : Nat → Value) (s8 : Value) (s11 : Value), I22 s8 s11 wl22 →
 S.op (.fieldAddr 52 v7 4) wl22 (fun v73 w =>
 S.op (.load 3 v73) w (fun v74 w =>
 S.op (.bin .lss 3 false false s11 v74) w (fun v75 w =>
 Br v75 (
 S.op (.fieldAddr 52 v7 2) w (fun v79 w =>
 S.op (.load 2 v79) w (fun v80 w =>
 S.op (.fieldAddr 52 v7 3) w (fun v82 w =>
 S.op (.load 2 v82) w (fun v83 w =>
 S.op (.bin .mul 2 false false s11 v83) w (fun v84 w =>
 S.op (.bin .add 2 false false v80 v84) w (fun v85 w =>
 S.call (.fn 49) [s8, v85] w (fun v86 w =>
 S.op (.bin .add 3 false true s11 (.int .i64 1)) w (fun v77 w =>
 I22 v86 v77 w ∧ μ22 v86 v77 w < μ22 s8 s11 wl22) Kp) Kp) Kp) Kp) Kp) Kp) Kp) Kp) (
 J25 s8 w)) Kp) Kp) Kp) (
 J25 v24 w)) Kp)) Kp)) Kp)) Kp) Kp) Kp) Kp) Kp) Kp) Kp) (
 J25 v24 w)) Kp) Kp) Kp) ∧
 (∀ (w : World) (junk : Nat → Value) (j8 : Value), J25 j8 w →
 S.op (.buildSlice 79 1 [(0, j8)]) w (fun v89 w =>
 S.op (.blt .append [79, 79] 79 [s5, v89]) w (fun v90 w =>
 S.op (.bin .add 3 false true s18 (.int .i64 1)) w (fun v91 w =>
 I3 v90 v91 w ∧ μ3 v90 v91 w < μ3 s5 s18 wl3) Kp) Kp) Kp)) Kp) Kp) Kp) Kp) Kp) Kp) Kp) (
 K s5 w)) Kp) Kp) Kp) Kp) Kp) Kp) Kp
theorem vc31_eq : vc31 S a0 a1 w K Kp = fVC S [(3, [5, 18]), (16, [8, 10]), (22, [8, 11])] [(25, [8])] Tryz.f31 [a0, a1] w K Kp := by kernel_rfl
theorem vc31_calls (h : vc31 (nice Tryz.prog) a0 a1 w K Kp) : Calls Tryz.prog 31 #[a0, a1] w (ret K Kp) :=
 fVC_sound (args := [a0, a1]) nice_le follows_MVcL Tryz.func31 (by kernel_rfl) (Eq.mp vc31_eq h)
def vc32 (S : Sig) (a0 a1 : Value) (w : World) (K : KV) (Kp : KP) : Prop :=
 S.op (.alloc 55) w (fun v4 w =>
 S.op (.build 55 [(0, a0)]) w (fun v10 w =>
 S.op (.alloc 55) w (fun v5 w =>
 S.op (.store 55 v5 v10) w (fun _ w =>
 Lp fun (I2 : World → Prop) (μ2 : World → Nat) => I2 w ∧
 ∀ (wl2 : World) (junk : Nat → Value), I2 wl2 →
 S.call (.fn 50) [a1] wl2 (fun v12 w =>
 S.op (.un .not v12) w (fun v13 w =>
 Br v13 (
 S.call (.fn 51) [a1] w (fun v16 w =>
 S.op (.extract v16 0) w (fun v17 w =>
 S.op (.extract v16 1) w (fun v18 w =>
 S.op (.extract v16 2) w (fun v19 w =>
 S.op (.fieldAddr 55 v5 1) w (fun v20 w =>
 S.op (.load 53 v20) w (fun v21 w =>
 S.op (.build 58 [(0, v17), (1, v18)]) w (fun v24 w =>
 S.op (.buildSlice 53 1 [(0, v24)]) w (fun v25 w =>
 S.op (.blt .append [53, 53] 53 [v21, v25]) w (fun v26 w =>
 S.op (.fieldAddr 55 v5 1) w (fun v27 w =>
 S.op (.store 53 v27 v26) w (fun _ w =>
 I2 w ∧ μ2 w < μ2 wl2) Kp) Kp) Kp) Kp) Kp) Kp) Kp) Kp) Kp) Kp) Kp) (
 S.op (.load 55 v5) w (fun v28 w =>
 S.op (.store 55 v4 v28) w (fun _ w =>
 S.ld (.load 55 v4) w (fun r0 =>
 K r0 w)) Kp) Kp)) Kp) Kp) Kp) Kp) Kp) Kp
theorem vc32_eq : vc32 S a0 a1 w K Kp = fVC S [(2, [])] [] Tryz.f32 [a0, a1] w K Kp := by kernel_rfl
theorem vc32_calls (h : vc32 (nice Tryz.prog) a0 a1 w K Kp) : Calls Tryz.prog 32 #[a0, a1] w (ret K Kp) :=
 fVC_sound (args := [a0, a1]) nice_le follows_MVcL Tryz.func32 (by kernel_rfl) (Eq.mp vc32_eq h)
def vc25 (S : Sig) (a0 : Value) (w : World) (K : KV) (Kp : KP) : Prop :=
 S.op (.box 24 a0) w (fun v1 w =>
 S.op (.fieldAddr 24 v1 0) w (fun v3 w =>
 S.op (.load 22 v3) w (fun v4 w =>
 S.op (.bin .eql 22 false true v4 (.int .u32 0)) w (fun v5 w =>
 Br v5 (
 K .nilIface w) (
 S.op (.load 24 v1) w (fun v6 w =>
 S.op (.build 98 [(0, v6)]) w (fun v7 w =>
 S.op (.mkIface 98 v7) w (fun v8 w =>
 K v8 w) Kp) Kp) Kp)) Kp) Kp) Kp) Kp
theorem vc25_eq : vc25 S a0 w K Kp = fVC S [] [] Tryz.f25 [a0] w K Kp := by kernel_rfl
theorem vc25_calls (h : vc25 (nice Tryz.prog) a0 w K Kp) : Calls Tryz.prog 25 #[a0] w (ret K Kp) :=
 fVC_sound (args := [a0]) nice_le follows_MVcL Tryz.func25 (by kernel_rfl) (Eq.mp vc25_eq h)
def vc28 (S : Sig) (a0 : Value) (w : World) (K : KV) (Kp : KP) : Prop :=
 S.op (.bin .gtr 3 false true a0 (.int .i64 100000)) w (fun v4 w =>
 Br v4 (
 K (.int .i64 0) w) (
 K a0 w)) Kp
theorem vc28_eq : vc28 S a0 w K Kp = fVC S [] [] Tryz.f28 [a0] w K Kp := by kernel_rfl
theorem vc28_calls (h : vc28 (nice Tryz.prog) a0 w K Kp) : Calls Tryz.prog 28 #[a0] w (ret K Kp) :=
 fVC_sound (args := [a0]) nice_le follows_MVcL Tryz.func28 (by kernel_rfl) (Eq.mp vc28_eq h)
def vc36 (S : Sig) (a0 a1 : Value) (w : World) (K : KV) (Kp : KP) : Prop :=
 S.op (.box 52 a0) w (fun v2 w =>
 S.op (.fieldAddr 52 v2 1) w (fun v5 w =>
 S.op (.load 3 v5) w (fun v6 w =>
 S.op (.bin .geq 3 false true v6 (.int .i64 0)) w (fun v7 w =>
 Br v7 (
 S.op (.fieldAddr 52 v2 1) w (fun v9 w =>
 S.op (.load 3 v9) w (fun v10 w =>
 S.op (.bin .lss 3 false false v10 a1) w (fun v12 w =>
 Br v12 (
 S.op (.fieldAddr 52 v2 0) w (fun v15 w =>
 S.op (.load 5 v15) w (fun v16 w =>
 S.op (.bin .leq 5 false true v16 (.int .u8 3)) w (fun v17 w =>
 Br v17 (
 S.op (.fieldAddr 52 v2 0) w (fun v20 w =>
 S.op (.load 5 v20) w (fun v21 w =>
 S.op (.bin .lss 5 false true v21 (.int .u8 2)) w (fun v22 w =>
 Br v22 (
 K (.bool true) w) (
 S.op (.fieldAddr 52 v2 4) w (fun v24 w =>
 S.op (.load 3 v24) w (fun v25 w =>
 S.op (.bin .geq 3 false true v25 (.int .i64 0)) w (fun v26 w =>
 Br v26 (
 S.op (.fieldAddr 52 v2 4) w (fun v28 w =>
 S.op (.load 3 v28) w (fun v29 w =>
 S.op (.bin .leq 3 false true v29 (.int .i64 100000)) w (fun v30 w =>
 K v30 w) Kp) Kp) Kp) (
 K (.bool false) w)) Kp) Kp) Kp)) Kp) Kp) Kp) (
 K (.bool false) w)) Kp) Kp) Kp) (
 K (.bool false) w)) Kp) Kp) Kp) (
 K (.bool false) w)) Kp) Kp) Kp) Kp
theorem vc36_eq : vc36 S a0 a1 w K Kp = fVC S [] [] Tryz.f36 [a0, a1] w K Kp := by kernel_rfl
theorem vc36_calls (h : vc36 (nice Tryz.prog) a0 a1 w K Kp) : Calls Tryz.prog 36 #[a0, a1] w (ret K Kp) :=
 fVC_sound (args := [a0, a1]) nice_le follows_MVcL Tryz.func36 (by kernel_rfl) (Eq.mp vc36_eq h)
def vc83 (S : Sig) (a0 a1 a2 : Value) (w : World) (K : KV) (Kp : KP) : Prop :=
 S.op (.box 98 a0) w (fun v3 w =>
 S.op (.bin .eql 2 false false a1 a2) w (fun v9 w =>
 K v9 w) Kp) Kp
theorem vc83_eq : vc83 S a0 a1 a2 w K Kp = fVC S [] [] Tryz.f83 [a0, a1, a2] w K Kp := by kernel_rfl
theorem vc83_calls (h : vc83 (nice Tryz.prog) a0 a1 a2 w K Kp) : Calls Tryz.prog 83 #[a0, a1, a2] w (ret K Kp) :=
 fVC_sound (args := [a0, a1, a2]) nice_le follows_MVcL Tryz.func83 (by kernel_rfl) (Eq.mp vc83_eq h)
def vc84 (S : Sig) (a0 a1 : Value) (w : World) (K : KV) (Kp : KP) : Prop :=
 S.op (.box 98 a0) w (fun v2 w =>
 S.pur (.conv 2 22 a1) (fun v6 =>
 S.pur (.fieldAddr 98 v2 0) (fun v7 =>
 S.pur (.fieldAddr 24 v7 1) (fun v8 =>
 S.ld (.load 22 v8) w.drew (fun v9 =>
 S.pur (.bin .mul 22 false false v6 v9) (fun v10 =>
 S.pur (.fieldAddr 98 v2 0) (fun v11 =>
 S.pur (.fieldAddr 24 v11 0) (fun v12 =>
 S.ld (.load 22 v12) w.drew (fun v13 =>
 S.pur (.bin .rem 22 false false v10 v13) (fun v14 =>
 S.pur (.fieldAddr 98 v2 0) (fun v15 =>
 S.pur (.fieldAddr 24 v15 2) (fun v16 =>
 S.ld (.load 5 v16) w.drew (fun v17 =>
 S.pur (.bin .shl 22 false false v14 v17) (fun v18 =>
 K v18 w.drew)))))))))))))) Kp
theorem vc84_eq : vc84 S a0 a1 w K Kp = fVC S [] [] Tryz.f84 [a0, a1] w K Kp := by kernel_rfl
theorem vc84_calls (h : vc84 (nice Tryz.prog) a0 a1 w K Kp) : Calls Tryz.prog 84 #[a0, a1] w (ret K Kp) :=
 fVC_sound (args := [a0, a1]) nice_le follows_MVcL Tryz.func84 (by kernel_rfl) (Eq.mp vc84_eq h)
def vc124 (S : Sig) (a0 a1 : Value) (w : World) (K : KV) (Kp : KP) : Prop :=
 S.op (.mkIface 2 a1) w (fun v18 w =>
 S.op (.tassert v18 20 3 true) w (fun v19 w =>
 S.op (.extract v19 1) w (fun v20 w =>
 S.op (.extract v19 0) w (fun v21 w =>
 Br v20 (
 S.op (.conv 3 177 v21) w (fun v23 w =>
 S.call (.fn 125) [v23] w (fun v24 w =>
 K v24 w) Kp) Kp) (
 S.op (.tassert v18 20 174 true) w (fun v25 w =>
 S.op (.extract v25 1) w (fun v26 w =>
 S.op (.extract v25 0) w (fun v27 w =>
 Br v26 (
 S.op (.conv 174 177 v27) w (fun v29 w =>
 S.call (.fn 125) [v29] w (fun v30 w =>
 K v30 w) Kp) Kp) (
 S.op (.tassert v18 20 175 true) w (fun v31 w =>
 S.op (.extract v31 1) w (fun v32 w =>
 S.op (.extract v31 0) w (fun v33 w =>
 Br v32 (
 S.op (.conv 175 177 v33) w (fun v35 w =>
 S.call (.fn 125) [v35] w (fun v36 w =>
 K v36 w) Kp) Kp) (
 S.op (.tassert v18 20 21 true) w (fun v37 w =>
 S.op (.extract v37 1) w (fun v38 w =>
 S.op (.extract v37 0) w (fun v39 w =>
 Br v38 (
 S.op (.conv 21 177 v39) w (fun v41 w =>
 S.call (.fn 125) [v41] w (fun v42 w =>
 K v42 w) Kp) Kp) (
 S.op (.tassert v18 20 2 true) w (fun v43 w =>
 S.op (.extract v43 1) w (fun v44 w =>
 S.op (.extract v43 0) w (fun v45 w =>
 Br v44 (
 S.op (.conv 2 177 v45) w (fun v47 w =>
 S.call (.fn 125) [v47] w (fun v48 w =>
 K v48 w) Kp) Kp) (
 S.op (.tassert v18 20 144 true) w (fun v49 w =>
 S.op (.extract v49 1) w (fun v50 w =>
 S.op (.extract v49 0) w (fun v51 w =>
 Br v50 (
 S.call (.fn 125) [v51] w (fun v53 w =>
 K v53 w) Kp) (
 S.op (.tassert v18 20 5 true) w (fun v54 w =>
 S.op (.extract v54 1) w (fun v55 w =>
 S.op (.extract v54 0) w (fun v56 w =>
 Br v55 (
 S.op (.conv 5 177 v56) w (fun v58 w =>
 S.call (.fn 125) [v58] w (fun v59 w =>
 K v59 w) Kp) Kp) (
 S.op (.tassert v18 20 176 true) w (fun v60 w =>
 S.op (.extract v60 1) w (fun v61 w =>
 S.op (.extract v60 0) w (fun v62 w =>
 Br v61 (
 S.op (.conv 176 177 v62) w (fun v64 w =>
 S.call (.fn 125) [v64] w (fun v65 w =>
 K v65 w) Kp) Kp) (
 S.op (.tassert v18 20 22 true) w (fun v66 w =>
 S.op (.extract v66 1) w (fun v67 w =>
 S.op (.extract v66 0) w (fun v68 w =>
 Br v67 (
 S.op (.conv 22 177 v68) w (fun v70 w =>
 S.call (.fn 125) [v70] w (fun v71 w =>
 K v71 w) Kp) Kp) (
 S.op (.tassert v18 20 177 true) w (fun v72 w =>
 S.op (.extract v72 1) w (fun v73 w =>
 S.op (.extract v72 0) w (fun v74 w =>
 Br v73 (
 S.call (.fn 125) [v74] w (fun v76 w =>
 K v76 w) Kp) (
 S.op (.tassert v18 20 12 true) w (fun v77 w =>
 S.op (.extract v77 1) w (fun v78 w =>
 S.op (.extract v77 0) w (fun v79 w =>
 Br v78 (
 S.call (.fn 125) [v79] w (fun v81 w =>
 K v81 w) Kp) (
 S.op (.tassert v18 20 9 true) w (fun v82 w =>
 S.op (.extract v82 1) w (fun v83 w =>
 S.op (.extract v82 0) w (fun v84 w =>
 Br v83 (
 S.call (.fn 126) [v84] w (fun v86 w =>
 K v86 w) Kp) (
 S.op (.mkIface 9 (.string { data := #[105, 109, 109, 117, 116, 97, 98, 108, 101, 46, 100, 101, 102, 97, 117, 108, 116, 72, 97, 115, 104, 101, 114, 46, 72, 97, 115, 104, 58, 32, 109, 117, 115, 116, 32, 115, 101, 116, 32, 99, 111, 109, 112, 97, 114, 101, 114, 32, 102, 111, 114, 32, 37, 84, 32, 116, 121, 112, 101] })) w (fun v87 w =>
 S.op (.panic v87) w (fun _ w =>
 K (.int .u32 0) w) Kp) Kp)) Kp) Kp) Kp)) Kp) Kp) Kp)) Kp) Kp) Kp)) Kp) Kp) Kp)) Kp) Kp) Kp)) Kp) Kp) Kp)) Kp) Kp) Kp)) Kp) Kp) Kp)) Kp) Kp) Kp)) Kp) Kp) Kp)) Kp) Kp) Kp)) Kp) Kp) Kp) Kp
theorem vc124_eq : vc124 S a0 a1 w K Kp = fVC S [] [] Tryz.f124 [a0, a1] w K Kp := by kernel_rfl
theorem vc124_calls (h : vc124 (nice Tryz.prog) a0 a1 w K Kp) : Calls Tryz.prog 124 #[a0, a1] w (ret K Kp) :=
 fVC_sound (args := [a0, a1]) nice_le follows_MVcL Tryz.func124 (by kernel_rfl) (Eq.mp vc124_eq h)
end Go.Proofs.YtbghmbbhkoniiaaGreat
end
section
/- The hasher that is chosen for a map without one. -/
namespace Go.Proofs.YtbghmbbhkoniiaaGreat.I
open Go.Vc Go.Proofs Go.Proofs.YtbghmbbhkoniiaaGreat Go.Vc.Nd
variable {w w' : World} {K : KV} {Kp : KP} {k : Ky}
theorem xor_u64 {a b : Nat} (ha : a < 2 ^ 64) (hb : b < 2 ^ 64) : bitsV .xor .u64 (a : Int) (b : Int) = ((a ^^^ b : Nat) : Int) := by
  have h : (BitVec.ofInt 64 (a : Int) ^^^ BitVec.ofInt 64 (b : Int)).toNat = a ^^^ b := by
    rw [BitVec.toNat_xor, BitVec.toNat_ofInt, BitVec.toNat_ofInt]
    congr 1 <;> omega
  show IntKind.u64.wrap ((BitVec.ofInt 64 (a : Int) ^^^ BitVec.ofInt 64 (b : Int)).toNat : Int) = _
  rw [h, IntKind.wrap_u64]
  have := Nat.xor_lt_two_pow ha hb
  omega
def h64 : Nat → Nat → Nat → Nat
  | 0, _, h => h
  | n + 1, v, h => if 4294967295 < v then h64 n (v / 4294967295) (h ^^^ (v / 4294967295)) else h
def defHash (k : Ky) : Nat := (IntKind.u32.wrap ((h64 3 (IntKind.u64.wrap k).toNat (IntKind.u64.wrap k).toNat : Nat) : Int)).toNat
theorem hash64_ok {v : Nat} (hv : v < 2 ^ 64) (hK : K (.int .u32 (IntKind.u32.wrap ((h64 3 v v : Nat) : Int))) w) : Calls Tryz.prog 125 #[.int .u64 (v : Int)] w (ret K Kp) := by
  refine vc125_calls ?_
  simp only [vc125]
  obtain ⟨I, hI⟩ : ∃ I : Value → KV, ∀ s t wl, I s t wl ↔ ∃ n x h : Nat, s = .int .u64 (x : Int) ∧ t = .int .u64 (h : Int) ∧ h < 2 ^ 64 ∧ h64 n x h = h64 3 v v ∧ (n = 3 ∧ x < 2 ^ 64 ∨ n = 2 ∧ x ≤ 4294967297 ∨ n = 1 ∧ x ≤ 1) ∧ wl = w := ⟨_, fun _ _ _ => Iff.rfl⟩
  refine Lp.intro I (fun s _ _ => natOf s) ⟨(hI _ _ _).2 ⟨3, v, v, rfl, rfl, hv, rfl, .inl ⟨rfl, hv⟩, rfl⟩, ?_⟩
  intro wl _ s t hs
  obtain ⟨n, x, h, rfl, rfl, hh, he, hn, rfl⟩ := (hI _ _ _).1 hs
  simp only [op_gtr, Br_dec]
  refine ⟨fun hgt => ?_, fun hle => ?_⟩
  · have hgt' : 4294967295 < x := by omega
    have hx64 : x < 2 ^ 64 := by omega
    have hd : (x : Int).tdiv 4294967295 = ((x / 4294967295 : Nat) : Int) := rfl
    have hdl : x / 4294967295 < 2 ^ 64 := by omega
    have hw : IntKind.u64.wrap ((x / 4294967295 : Nat) : Int) = ((x / 4294967295 : Nat) : Int) := by rw [IntKind.wrap_u64]; omega
    simp only [op_quo, hd, hw, op_xor, xor_u64 hh hdl]
    refine ⟨by decide, ?_⟩
    have hx2 := Nat.xor_lt_two_pow hh hdl
    obtain ⟨m, rfl⟩ : ∃ m, n = m + 1 := ⟨n - 1, by omega⟩
    rw [h64, if_pos hgt'] at he
    refine ⟨(hI _ _ _).2 ⟨m, _, _, rfl, rfl, hx2, he, by omega, rfl⟩, ?_⟩
    simp only [natOf, Int.toNat_natCast]; omega
  · have hle' : ¬ 4294967295 < x := by omega
    have : h64 3 v v = h := by
      rw [← he]
      cases n with
      | zero => rfl
      | succ n => rw [h64, if_neg hle']
    rw [this] at hK
    simp [-getElem?_pos, -Array.getElem?_eq_getElem, -Int.natCast_add, add_spot, and_assoc, Br_dec, -op_box]
    exact hK
def defV (d : Nat) : Value := .iface 178 (ptr d)
theorem hash_eql {w : World} {K : KV} {Kp : KP} {a b : Ky} (hK : K (.bool (decide (a = b))) w) : (nice Tryz.prog).op (.bin .eql 20 false false (.iface 2 (ek a)) (.iface 2 (ek b))) w K Kp :=
  op_eql_ifaces (i := (Tryz.prog.info? 2).getD default) Tryz.underlying20 (by kernel_rfl) (by kernel_rfl) (fun w => eql_int Tryz.underlying2 w) hK
structure IsD (hv : Value) : Prop where
  eqv : ∀ {a b : Ky} {w : World} {K : KV} {Kp : KP}, (∀ w', Frm (fun _ => False) w w' → K (.bool (decide (a = b))) w') → (nice Tryz.prog).call (.inv hv "Equal") [ek a, ek b] w K Kp
theorem defEq_ok {d : Nat} {a b : Ky} (hK : K (.bool (decide (a = b))) w) : (nice Tryz.prog).call (.inv (defV d) "Equal") [ek a, ek b] w K Kp := by
  simp only [defV, inv_178_123]
  refine vc123_calls ?_
  simp only [vc123]
  simp [-getElem?_pos, -Array.getElem?_eq_getElem, -Int.natCast_add, add_spot, and_assoc, Br_dec, -op_box]
  exact hash_eql hK
theorem defHash_ok {d : Nat} (hK : K (.int .u32 (defHash k)) w) : (nice Tryz.prog).call (.inv (defV d) "Hash") [ek k] w K Kp := by
  simp only [defV, inv_178_124]
  refine vc124_calls ?_
  simp only [vc124, ek]
  have h0 : 0 ≤ IntKind.u64.wrap k ∧ IntKind.u64.wrap k < 18446744073709551616 := by rw [IntKind.wrap_u64]; omega
  obtain ⟨v, hv⟩ : ∃ v : Nat, IntKind.u64.wrap k = v := ⟨(IntKind.u64.wrap k).toNat, by omega⟩
  simp [-getElem?_pos, -Array.getElem?_eq_getElem, -Int.natCast_add, add_spot, and_assoc, Br_dec, -op_box, hv]
  refine hash64_ok (by omega) ?_
  have e : (defHash k : Int) = IntKind.u32.wrap ((h64 3 v v : Nat) : Int) := by
    have h1 : 0 ≤ IntKind.u32.wrap ((h64 3 v v : Nat) : Int) := by rw [IntKind.wrap_u32]; omega
    rw [defHash, hv, Int.toNat_natCast]; omega
  rw [e] at hK
  exact hK
theorem defHasher_ok (d : Nat) : IsH (defV d) defHash where
  lt k := by
    have : 0 ≤ IntKind.u32.wrap ((h64 3 (IntKind.u64.wrap k).toNat (IntKind.u64.wrap k).toNat : Nat) : Int) ∧ IntKind.u32.wrap ((h64 3 (IntKind.u64.wrap k).toNat (IntKind.u64.wrap k).toNat : Nat) : Int) < 4294967296 := by rw [IntKind.wrap_u32]; omega
    rw [defHash]; omega
  eqv := fun hK => defEq_ok (hK _ Frm.refl)
  hsh := fun hK => defHash_ok (hK _ Frm.refl)
  nilE := by intro K1; simp [defV, ptr]
  iface := ⟨_, _, rfl⟩
private theorem mixed : Tryz.prog.follows .mixedOrders = true := by kernel_rfl
set_option maxHeartbeats 4000000 in
theorem newHasher_ok (hK : ∀ d w', Frm (fun _ => False) w w' → K (defV d) w') : Calls Tryz.prog 58 #[ek k] w (ret K Kp) := by
  refine fVC_sound (args := [ek k]) (aL := []) (aJ := []) nice_le mixed Tryz.func58 (by kernel_rfl) ?_
  refine fVC_of (c := _) rfl ?_
  refine code_seq ?_
  refine code_region ?_
  refine ops_move rfl (.inr rfl) ?_
  refine ops_end ?_
  refine code_seq ?_
  refine code_seq ?_
  refine code_region ?_
  refine ops_move rfl (.inl rfl) ?_
  refine ops_op rfl rfl rfl ?_
  refine Eq.mpr (op_mki_2 (v := ek k)) ?_
  refine ops_end ?_
  refine code_block ?_
  refine code_seq ?_
  refine code_region ?_
  refine ops_op rfl rfl rfl ?_
  refine Eq.mpr (op_ta_20_3 (u := 2) (v := ek k)) ?_
  refine ite_no (by decide) ?_
  refine ops_op rfl rfl rfl ?_
  refine Eq.mpr op_ext2_1 ?_
  refine ops_op rfl rfl rfl ?_
  refine Eq.mpr op_ext2_0 ?_
  refine ops_op rfl rfl rfl ?_
  refine Eq.mpr (op_ta_20_174 (u := 2) (v := ek k)) ?_
  refine ite_no (by decide) ?_
  refine ops_op rfl rfl rfl ?_
  refine Eq.mpr op_ext2_1 ?_
  refine ops_op rfl rfl rfl ?_
  refine Eq.mpr op_ext2_0 ?_
  refine ops_op rfl rfl rfl ?_
  refine Eq.mpr (op_ta_20_175 (u := 2) (v := ek k)) ?_
  refine ite_no (by decide) ?_
  refine ops_op rfl rfl rfl ?_
  refine Eq.mpr op_ext2_1 ?_
  refine ops_op rfl rfl rfl ?_
  refine Eq.mpr op_ext2_0 ?_
  refine ops_op rfl rfl rfl ?_
  refine Eq.mpr (op_ta_20_21 (u := 2) (v := ek k)) ?_
  refine ite_no (by decide) ?_
  refine ops_op rfl rfl rfl ?_
  refine Eq.mpr op_ext2_1 ?_
  refine ops_op rfl rfl rfl ?_
  refine Eq.mpr op_ext2_0 ?_
  refine ops_op rfl rfl rfl ?_
  refine Eq.mpr (op_ta_20_2 (u := 2) (v := ek k)) ?_
  refine ite_yes rfl ?_
  refine ops_op rfl rfl rfl ?_
  refine Eq.mpr op_ext2_1 ?_
  refine ops_op rfl rfl rfl ?_
  refine Eq.mpr op_ext2_0 ?_
  refine ops_op rfl rfl rfl ?_
  refine Eq.mpr (op_ta_20_144 (u := 2) (v := ek k)) ?_
  refine ite_no (by decide) ?_
  refine ops_op rfl rfl rfl ?_
  refine Eq.mpr op_ext2_1 ?_
  refine ops_op rfl rfl rfl ?_
  refine Eq.mpr op_ext2_0 ?_
  refine ops_op rfl rfl rfl ?_
  refine Eq.mpr (op_ta_20_5 (u := 2) (v := ek k)) ?_
  refine ite_no (by decide) ?_
  refine ops_op rfl rfl rfl ?_
  refine Eq.mpr op_ext2_1 ?_
  refine ops_op rfl rfl rfl ?_
  refine Eq.mpr op_ext2_0 ?_
  refine ops_op rfl rfl rfl ?_
  refine Eq.mpr (op_ta_20_176 (u := 2) (v := ek k)) ?_
  refine ite_no (by decide) ?_
  refine ops_op rfl rfl rfl ?_
  refine Eq.mpr op_ext2_1 ?_
  refine ops_op rfl rfl rfl ?_
  refine Eq.mpr op_ext2_0 ?_
  refine ops_op rfl rfl rfl ?_
  refine Eq.mpr (op_ta_20_22 (u := 2) (v := ek k)) ?_
  refine ite_no (by decide) ?_
  refine ops_op rfl rfl rfl ?_
  refine Eq.mpr op_ext2_1 ?_
  refine ops_op rfl rfl rfl ?_
  refine Eq.mpr op_ext2_0 ?_
  refine ops_op rfl rfl rfl ?_
  refine Eq.mpr (op_ta_20_177 (u := 2) (v := ek k)) ?_
  refine ite_no (by decide) ?_
  refine ops_op rfl rfl rfl ?_
  refine Eq.mpr op_ext2_1 ?_
  refine ops_op rfl rfl rfl ?_
  refine Eq.mpr op_ext2_0 ?_
  refine ops_op rfl rfl rfl ?_
  refine Eq.mpr (op_ta_20_12 (u := 2) (v := ek k)) ?_
  refine ite_no (by decide) ?_
  refine ops_op rfl rfl rfl ?_
  refine Eq.mpr op_ext2_1 ?_
  refine ops_op rfl rfl rfl ?_
  refine Eq.mpr op_ext2_0 ?_
  refine ops_op rfl rfl rfl ?_
  refine Eq.mpr (op_ta_20_9 (u := 2) (v := ek k)) ?_
  refine ite_no (by decide) ?_
  refine ops_op rfl rfl rfl ?_
  refine Eq.mpr op_ext2_1 ?_
  refine ops_op rfl rfl rfl ?_
  refine Eq.mpr op_ext2_0 ?_
  refine ops_pick (b := false) rfl rfl rfl rfl ?_
  refine ops_pick (b := false) rfl rfl rfl rfl ?_
  refine ops_pick (b := false) rfl rfl rfl rfl ?_
  refine ops_pick (b := false) rfl rfl rfl rfl ?_
  refine ops_pick (b := false) rfl rfl rfl rfl ?_
  refine ops_pick (b := false) rfl rfl rfl rfl ?_
  refine ops_pick (b := true) rfl rfl rfl rfl ?_
  refine ops_pick (b := false) rfl rfl rfl rfl ?_
  refine ops_pick (b := false) rfl rfl rfl rfl ?_
  refine ops_pick (b := false) rfl rfl rfl rfl ?_
  refine ops_pick (b := false) rfl rfl rfl rfl ?_
  refine ops_end ?_
  refine code_cond (t := true) rfl (.inr rfl) ?_
  refine code_seq ?_
  refine code_region ?_
  refine ops_op rfl rfl rfl ?_
  refine Eq.mpr (op_build (v := .agg #[]) (by kernel_rfl)) ?_
  refine ops_op rfl rfl rfl ?_
  refine op_box_ok fun w1 k1 z1 b1 => ?_
  refine ops_op rfl rfl rfl ?_
  refine Eq.mpr (op_mki_178 (v := ptr w.heap.size)) ?_
  refine ops_move rfl (.inr rfl) ?_
  refine ops_end ?_
  refine code_ret ?_
  exact hK _ w1 k1
end Go.Proofs.YtbghmbbhkoniiaaGreat.I
end
section
/- A map with its hasher, chosen or to be chosen at the first key: set, delete, get, length, iterator. -/
namespace Go.Proofs.YtbghmbbhkoniiaaGreat.I
open Go.Vc Go.Proofs Go.Proofs.YtbghmbbhkoniiaaGreat Go.Vc.Nd
variable {w w' : World} {hv : Value} {t : Tr} {F F' : Nat → Prop} {K : KV} {Kp : KP} {hash : Ky → Nat} {k : Ky} {x : Vl} {mu nl : Bool}
theorem set_first_ok {b : Nat} (hm : IsMap w b .nilIface .emp F)
    (hK : ∀ b' w' F' d, Frm (fun c => mu = true ∧ F c) w w' → IsMap w' b' (defV d) (.arr [(k, x)]) F' → (∀ c, F' c → F c ∨ w.heap.size ≤ c) → (mu = true → b' = b) → K (ptr b') w') : Calls Tryz.prog 61 #[ptr b, ek k, ev x, .bool mu] w (ret K Kp) := by
  obtain ⟨r, F0, h1, h2, h3, h4⟩ := hm.lt
  have heq := fun {wz : World} {K : KV} {Kp : KP} => eq_nil h3 (wz := wz) (K := K) (Kp := Kp)
  obtain rfl := h3.nil
  refine vc61_calls ?_
  simp [-getElem?_pos, -Array.getElem?_eq_getElem, -Int.natCast_add, add_spot, and_assoc, Br_dec, -op_box, -op_st_4, -op_st_3, -op_st_107, -op_st_157, -op_st_185, -op_st_156, -op_st_109, -op_st_74, -op_alloc_4, -op_alloc_109, -op_lit_157_1, vc61, ptr, h1]
  refine Jn.intro (fun hv' w1 => ∃ d, hv' = defV d ∧ Frm (fun _ => False) w w1) ⟨newHasher_ok fun d w1 k1 => ⟨d, rfl, k1⟩, ?_⟩
  rintro w0 _ ⟨d, rfl, k0⟩
  have h10 := k0.get h1 id
  have n0 := k0.size
  obtain ⟨J, hJ⟩ : ∃ J : KV, ∀ ov w1, J ov w1 ↔ ∃ nb, ov = ptr nb ∧ Frm (fun _ => False) w0 w1 ∧ w1.heap[nb]? = some (.cells #[.int .i64 0, .nilIface, .nilIface] 109 (0, 0)) ∧ (nb = b ∧ mu = true ∨ nb = w0.heap.size) ∧ (mu = true → nb = b) := ⟨_, fun _ _ => Iff.rfl⟩
  refine Jn.intro J ⟨fun hm => ?_, fun hm => (hJ _ _).2 ⟨b, rfl, Frm.refl, h10, .inl ⟨rfl, hm⟩, fun _ => rfl⟩, ?_⟩
  · exact clone_map_ok h10 rfl rfl rfl fun w1 k1 z1 b1 => (hJ _ _).2 ⟨_, rfl, k1, b1, .inr rfl, fun h => by rw [h] at hm; cases hm⟩
  intro w1 ov hov
  obtain ⟨nb, rfl, k1, b1, hnb, hnbm⟩ := (hJ _ _).1 hov
  clear hov hJ J
  have hb1 := k1.get h10 id
  have n1 := k1.size
  have l1 := lt_of_get h10
  simp [-getElem?_pos, -Array.getElem?_eq_getElem, -Int.natCast_add, add_spot, and_assoc, Br_dec, -op_box, -op_st_4, -op_st_3, -op_st_107, -op_st_157, -op_st_185, -op_st_156, -op_st_109, -op_st_74, -op_alloc_4, -op_alloc_109, -op_lit_157_1, ptr]
  refine op_store_ok (by kernel_rfl) b1 (by simp) rfl fun w2 k2 z2 b2 => ?_
  have b2 : w2.heap[nb]? = some (.cells #[.int .i64 0, .nilIface, defV d] 109 (0, 0)) := by simpa using b2
  obtain ⟨hh, hb2⟩ : ∃ hh, w2.heap[b]? = some (.cells #[.int .i64 0, .nilIface, hh] 109 (0, 0)) := by
    by_cases e : b = nb
    · exact ⟨_, by rw [e]; exact b2⟩
    · exact ⟨_, k2.get hb1 e⟩
  simp [-getElem?_pos, -Array.getElem?_eq_getElem, -Int.natCast_add, add_spot, and_assoc, Br_dec, -op_box, -op_st_4, -op_st_3, -op_st_107, -op_st_157, -op_st_185, -op_st_156, -op_st_109, -op_st_74, -op_alloc_4, -op_alloc_109, -op_lit_157_1, hb2]
  refine op_store_ok (by kernel_rfl) b2 (by simp) rfl fun w3 k3 z3 b3 => ?_
  refine op_lit_ok lit_157_1 fun w4 k4 z4 b4 => ?_
  simp [-getElem?_pos, -Array.getElem?_eq_getElem, -Int.natCast_add, add_spot, and_assoc, Br_dec, -op_box, -op_st_4, -op_st_3, -op_st_107, -op_st_157, -op_st_185, -op_st_156, -op_st_109, -op_st_74, -op_alloc_4, -op_alloc_109, -op_lit_157_1]
  refine op_box_ok fun w5 k5 z5 b5 => ?_
  simp only [cells_agg] at b5
  have bn5 := k5.get (k4.get b3 id) id
  refine op_store_ok (by kernel_rfl) bn5 (by simp) rfl fun w6 k6 z6 b6 => ?_
  have l2 := lt_of_get b2
  have hq : Rw w6 156 2 w3.heap.size 1 (ents [(k, x)]) := ((Rw.lit (w := w4) (n := 1) (by rw [ents_len]; rfl) (by decide) (by simpa [ents, ent] using b4)).frame k5 id).frame k6 (by omega)
  have b56 := k6.get b5 (by omega)
  have kall : Frm (fun c => mu = true ∧ F c) w w6 := (k0.to (M' := fun c => mu = true ∧ F c) fun _ h => h.elim).old (k1.fst (k2.tr (k3.tr (k4.fst (k5.fst k6))))) fun c hc => by
    have hcn : c = nb := by rcases hc with h | h | h <;> exact h
    rcases hnb with h | h
    · exact .inl ⟨h.2, by rw [hcn, h.1]; exact h2.1⟩
    · exact .inr (by omega)
  refine hK nb w6 (fun c => c = nb ∨ c = w4.heap.size ∨ c = w3.heap.size) d kall ⟨_, fun c => c = w4.heap.size ∨ c = w3.heap.size, by rw [show ((toL (Nd.arr [(k, x)])).length : Int) = 1 from rfl]; simpa [ptr] using b6, .inl rfl, ⟨w4.heap.size, w3.heap.size, 1, rfl, .inl rfl, .inr rfl, by omega, b56, by simp, hq⟩, fun c hc => ⟨.inr hc, by omega⟩⟩ (fun c hc => ?_) hnbm
  rcases hc with h | h | h
  · rcases hnb with h' | h'
    · exact .inl (by rw [h, h'.1]; exact h2.1)
    · exact .inr (by omega)
  · exact .inr (by omega)
  · exact .inr (by omega)
def Ver (w : World) (b : Nat) (hash : Ky → Nat) (nl : Bool) (t : Tr) (F : Nat → Prop) : Prop :=
  WFr hash t ∧ ∃ hv, IsMap w b hv t F ∧ (IsH hv hash ∨ nl = true ∧ hash = defHash ∧ hv = .nilIface ∧ t = .emp)
theorem Ver.keep {b : Nat} (h : Ver w b hash nl t F) (hw : ∀ c o, F c → w.heap[c]? = some o → w'.heap[c]? = some o) : Ver w' b hash nl t F := by
  obtain ⟨h1, hv, h2, h3⟩ := h
  exact ⟨h1, hv, h2.keep hw, h3⟩
theorem Ver.frame {b : Nat} {M : Nat → Prop} (h : Ver w b hash nl t F) (hf : Frm M w w') (hM : ∀ c, F c → ¬ M c) : Ver w' b hash nl t F := h.keep fun c o hc ho => hf.get ho (hM c hc)
theorem Ver.still {b : Nat} (h : Ver w b hash nl t F) (hf : Frm (fun _ => False) w w') : Ver w' b hash nl t F := h.frame hf fun _ _ h => h
theorem Ver.mono {b : Nat} (h : Ver w b hash nl t F) (hF : ∀ c, F c → F' c) : Ver w b hash nl t F' := by
  obtain ⟨h1, hv, ⟨r, F0, g1, g2, g3, g4⟩, h3⟩ := h
  exact ⟨h1, hv, ⟨r, F0, g1, hF _ g2, g3, fun c hc => ⟨hF _ (g4 c hc).1, (g4 c hc).2⟩⟩, h3⟩
theorem Ver.lt {b : Nat} (h : Ver w b hash nl t F) : Ver w b hash nl t (fun c => F c ∧ c < w.heap.size) := by
  obtain ⟨h1, hv, h2, h3⟩ := h
  exact ⟨h1, hv, h2.lt, h3⟩
theorem Ver.mem {b : Nat} (h : Ver w b hash nl t F) : F b := by obtain ⟨h1, hv, h2, h3⟩ := h; exact h2.mem
theorem ver_set_ok {b : Nat} (hdef : ∀ d, IsH (defV d) defHash) (h : Ver w b hash nl t F) (hL : (toL t).length ≤ 1000000)
    (hK : ∀ b' w' F', Frm (fun c => mu = true ∧ F c) w w' → Ver w' b' hash nl (Nd.set hash t k x) F' → (∀ c, F' c → F c ∨ w.heap.size ≤ c) → (mu = true → b' = b) → K (ptr b') w') : Calls Tryz.prog 61 #[ptr b, ek k, ev x, .bool mu] w (ret K Kp) := by
  obtain ⟨h1, hv, h2, h3 | ⟨hn, rfl, rfl, rfl⟩⟩ := h
  · exact set_map_ok (x := x) h3 h1 hL h2 fun b' w' F' k' m' hF' hb => hK b' w' F' k' ⟨(set_spec h3.lt h1).1, hv, m', .inl h3⟩ hF' hb
  · refine set_first_ok (x := x) h2 fun b' w' F' d k' m' hF' hb => hK b' w' F' k' ⟨(set_spec (hdef d).lt h1).1, defV d, m', .inl (hdef d)⟩ hF' hb
theorem ver_del_ok {b : Nat} (h : Ver w b hash nl t F) (hL : (toL t).length ≤ 1000000)
    (hK : ∀ b' w' F', Frm (fun c => mu = true ∧ F c) w w' → Ver w' b' hash nl (delT hash t k) F' → (∀ c, F' c → F c ∨ w.heap.size ≤ c) → (mu = true → b' = b) → K (ptr b') w') : Calls Tryz.prog 62 #[ptr b, ek k, .bool mu] w (ret K Kp) := by
  obtain ⟨h1, hv, h2, h3 | ⟨hn, rfl, rfl, rfl⟩⟩ := h
  · refine del_map_ok h3 h1 hL h2 (fun hg w' k' => ?_) fun hg b' w' F' k' m' hF' hb => hK b' w' F' k' ⟨(delT_spec h1).1, hv, by rw [delT, if_pos hg]; exact m', .inl h3⟩ hF' hb
    have e : delT hash t k = t := by rw [delT, if_neg (by rw [hg]; decide)]
    refine hK b w' F (k'.to fun _ h => h.elim) ?_ (fun c hc => .inl hc) fun _ => rfl
    rw [e]
    exact ⟨h1, hv, h2.keep fun c o hc ho => k'.get ho fun h => h, .inl h3⟩
  · obtain ⟨r, F0, g1, g2, g3, g4⟩ := id h2
    obtain rfl := g3.nil
    refine vc62_calls ?_
    simp [-getElem?_pos, -Array.getElem?_eq_getElem, -Int.natCast_add, add_spot, and_assoc, Br_dec, -op_box, -op_st_4, -op_st_3, -op_st_107, -op_st_157, -op_st_185, -op_st_156, -op_st_109, -op_st_74, -op_alloc_4, -op_alloc_109, -op_lit_157_1, vc62, ptr, g1]
    exact hK b w F Frm.refl ⟨h1, _, h2, .inr ⟨hn, rfl, rfl, rfl⟩⟩ (fun c hc => .inl hc) fun _ => rfl
theorem Set_ok {b : Nat} (hdef : ∀ d, IsH (defV d) defHash) (h : Ver w b hash nl t F) (hL : (toL t).length ≤ 1000000)
    (hK : ∀ b' w' F', Frm (fun _ => False) w w' → Ver w' b' hash nl (Nd.set hash t k x) F' → (∀ c, F' c → (F c ∨ w.heap.size ≤ c) ∧ c < w'.heap.size) → K (ptr b') w') : Calls Tryz.prog 48 #[ptr b, ek k, ev x] w (ret K Kp) := by
  refine vc48_calls ?_
  simp only [vc48, call_61]
  exact ver_set_ok (x := x) hdef h hL fun b' w' F' k' h' hF' _ => hK b' w' _ (k'.to fun _ h => nomatch h.1) h'.lt fun c hc => ⟨hF' c hc.1, hc.2⟩
theorem Delete_ok {b : Nat} (h : Ver w b hash nl t F) (hL : (toL t).length ≤ 1000000)
    (hK : ∀ b' w' F', Frm (fun _ => False) w w' → Ver w' b' hash nl (delT hash t k) F' → (∀ c, F' c → (F c ∨ w.heap.size ≤ c) ∧ c < w'.heap.size) → K (ptr b') w') : Calls Tryz.prog 49 #[ptr b, ek k] w (ret K Kp) := by
  refine vc49_calls ?_
  simp only [vc49, call_62]
  exact ver_del_ok h hL fun b' w' F' k' h' hF' _ => hK b' w' _ (k'.to fun _ h => nomatch h.1) h'.lt fun c hc => ⟨hF' c hc.1, hc.2⟩
theorem ver_len_ok {b : Nat} (h : Ver w b hash nl t F) (hK : K (.int .i64 (toL t).length) w) : Calls Tryz.prog 33 #[ptr b] w (ret K Kp) := by
  obtain ⟨h1, hv, h2, h3⟩ := h
  exact len_ok h2 hK
theorem ver_iter_ok {b : Nat} (h : Ver w b hash nl t F) (hF : ∀ c, F c → c < w.heap.size)
    (hK : ∀ ib w', Frm (fun _ => False) w w' → w.heap.size ≤ ib → At w' ib b F hash (toL t) → K (ptr ib) w') : Calls Tryz.prog 34 #[ptr b] w (ret K Kp) := by
  obtain ⟨h1, hv, h2, h3⟩ := h
  exact iterator_ok h1 h2 hF hK
theorem ver_new_ok {h : Value} (hv : IsH h hash ∨ nl = true ∧ hash = defHash ∧ h = .nilIface) (h1 : h.oneCell' = true) (hK : ∀ w', Frm (fun _ => False) w w' → w'.heap.size = w.heap.size + 1 → Ver w' w.heap.size hash nl .emp (· = w.heap.size) → K (ptr w.heap.size) w') : Calls Tryz.prog 47 #[h] w (ret K Kp) := by
  refine vc47_calls ?_
  simp [-getElem?_pos, -Array.getElem?_eq_getElem, -Int.natCast_add, add_spot, and_assoc, Br_dec, -op_box, -op_st_4, -op_st_3, -op_st_107, -op_st_157, -op_st_185, -op_st_156, -op_st_109, -op_st_74, -op_alloc_4, -op_alloc_109, -op_lit_157_1, vc47, h1]
  refine op_box_ok fun w1 k1 z1 b1 => ?_
  simp only [cells_agg] at b1
  refine hK w1 k1 z1 ⟨trivial, h, ⟨.nilIface, fun _ => False, b1, rfl, rfl, fun _ h => h.elim⟩, ?_⟩
  rcases hv with hv | hv
  · exact .inl hv
  · exact .inr ⟨hv.1, hv.2.1, hv.2.2, rfl⟩
end Go.Proofs.YtbghmbbhkoniiaaGreat.I
end
section
/- Scripts over maps in plain words: versions as tries, and as functions from keys to values. -/
namespace Go.Vc
open Nd
section
variable {α β σ : Type}
def vers (f : α → σ → α) (fro : σ → Nat) (a0 : α) (steps : List σ) : List α := steps.foldl (fun l s => l ++ [f (l[fro s]?.getD a0) s]) [a0]
variable {f : α → σ → α} {fro : σ → Nat} {a0 : α}
theorem vers_snoc (steps : List σ) (s : σ) : vers f fro a0 (steps ++ [s]) = vers f fro a0 steps ++ [f ((vers f fro a0 steps)[fro s]?.getD a0) s] := by simp [vers]
theorem snoc_ind {P : List σ → Prop} (h0 : P []) (h1 : ∀ l s, P l → P (l ++ [s])) (l : List σ) : P l := by
  rw [← List.reverse_reverse l]
  generalize l.reverse = r
  induction r with
  | nil => exact h0
  | cons x r ih => rw [List.reverse_cons]; exact h1 _ _ ih
theorem vers_len (steps : List σ) : (vers f fro a0 steps).length = steps.length + 1 := by
  refine snoc_ind (P := fun steps => (vers f fro a0 steps).length = steps.length + 1) rfl (fun l s ih => ?_) steps
  rw [vers_snoc, List.length_append, ih]; simp
end
structure MStep where
  kind : Nat
  fro : Int
  key : Int
  value : Int
  count : Int
def MStep.cells (s : MStep) : List Value := [.int .u8 s.kind, .int .i64 s.fro, .int .i64 s.key, .int .i64 s.value, .int .i64 s.count]
theorem mcells_len (s : MStep) : s.cells.length = 5 := rfl
def MStep.cost (s : MStep) : Nat := 1 + s.count.toNat
def MStep.ref (s : MStep) : Nat := s.fro.toNat
def kAt (k v : Int) (i : Nat) : Int := IntKind.i64.wrap (k + IntKind.i64.wrap ((i : Int) * v))
section trees
variable {κ ν : Type} [DecidableEq κ]
def mset (m : κ → Option ν) (k : κ) (v : ν) : κ → Option ν := fun j => if j = k then some v else m j
def mdel (m : κ → Option ν) (k : κ) : κ → Option ν := fun j => if j = k then none else m j
def Tells (D : List (κ × ν)) (m : κ → Option ν) : Prop := ∀ k v, (k, v) ∈ D ↔ m k = some v
def Is (hash : κ → Nat) (t : Nd κ ν) (m : κ → Option ν) : Prop := WFr hash t ∧ Tells (toL t) m
variable {hash : κ → Nat} {t : Nd κ ν} {m : κ → Option ν} {k : κ} {v : ν} {D D' : List (κ × ν)}
theorem is_emp : Is hash (.emp : Nd κ ν) (fun _ => none) := ⟨trivial, fun k v => by simp [toL]⟩
theorem is_set (hh : ∀ k, hash k < 2 ^ 32) (h : Is hash t m) : Is hash (Nd.set hash t k v) (mset m k v) := by
  have hs := set_spec (k := k) (v := v) hh h.1
  refine ⟨hs.1, fun k' v' => ?_⟩
  have h2 := hs.2
  first
    | rw [h2]
    | rw [h2.2]
  unfold mset
  by_cases hk : k' = k
  · subst hk; simp [eq_comm]
  · simp [hk, h.2 k' v']
theorem is_del (h : Is hash t m) : Is hash (delT hash t k) (mdel m k) := by
  have hs := delT_spec (k := k) h.1
  refine ⟨hs.1, fun k' v' => ?_⟩
  rw [hs.2]
  unfold mdel
  by_cases hk : k' = k
  · subst hk; simp
  · simp [hk, h.2 k' v']
theorem Is.nodup (h : Is hash t m) : ((toL t).map (·.1)).Nodup := h.1.nodup
theorem Is.get (h : Is hash t m) : getIn (hash k) k t 0 = m k := by
  cases hx : m k with
  | some x => exact (get_spec h.1).2 ((h.2 k x).2 hx)
  | none =>
    cases hy : getIn (hash k) k t 0 with
    | none => rfl
    | some y => have := (h.2 k y).1 ((get_spec h.1).1 hy); rw [hx] at this; cases this
theorem tells_upd (hn : (D.map (·.1)).Nodup) (h : Tells D m) : Tells (upd D k v) (mset m k v) := fun k' v' => by
  rw [mem_upd hn]
  unfold mset
  by_cases hk : k' = k
  · subst hk; simp [eq_comm]
  · simp [hk, h k' v']
theorem tells_wipe (hn : (D.map (·.1)).Nodup) (h : Tells D m) : Tells (wipe D k) (mdel m k) := fun k' v' => by
  unfold wipe mdel
  cases hf : find D k with
  | none =>
    by_cases hk : k' = k
    · subst hk
      simp only [if_true, reduceCtorEq, iff_false]
      intro hm
      exact find_none.1 hf _ hm rfl
    · simp [hk, h k' v']
  | some i =>
    simp only
    rw [mem_erase hn hf]
    by_cases hk : k' = k
    · subst hk; simp
    · simp [hk, h k' v']
theorem tells_look (hn : (D.map (·.1)).Nodup) (h : Tells D m) : Nd.look D k = m k := by
  cases hx : m k with
  | some x => exact (look_iff hn).2 ((h k x).2 hx)
  | none =>
    cases hy : Nd.look D k with
    | none => rfl
    | some y => have := (h k y).1 ((look_iff hn).1 hy); rw [hx] at this; cases this
theorem tells_len (hn : (D.map (·.1)).Nodup) (hn' : (D'.map (·.1)).Nodup) (h : Tells D m) (h' : Tells D' m) : D.length = D'.length :=
  len_of hn hn' fun e => by rw [h e.1 e.2, h' e.1 e.2]
theorem tells_nil : Tells ([] : List (κ × ν)) (fun _ => none) := fun k v => by simp
end trees
def setN (hash : Int → Nat) (k v : Int) (t : Nd Int Int) (n : Nat) : Nd Int Int := (List.range n).foldl (fun t i => Nd.set hash t (kAt k v i) (i : Int)) t
def delN (hash : Int → Nat) (k v : Int) (t : Nd Int Int) (n : Nat) : Nd Int Int := (List.range n).foldl (fun t i => delT hash t (kAt k v i)) t
theorem setN_succ {hash : Int → Nat} {k v : Int} {t : Nd Int Int} {n : Nat} : setN hash k v t (n + 1) = Nd.set hash (setN hash k v t n) (kAt k v n) (n : Int) := by
  unfold setN; rw [List.range_succ, List.foldl_append]; rfl
theorem delN_succ {hash : Int → Nat} {k v : Int} {t : Nd Int Int} {n : Nat} : delN hash k v t (n + 1) = delT hash (delN hash k v t n) (kAt k v n) := by
  unfold delN; rw [List.range_succ, List.foldl_append]; rfl
def trieStep (hash : Int → Nat) (t : Nd Int Int) (s : MStep) : Nd Int Int := match s.kind with
  | 0 => Nd.set hash t s.key s.value
  | 1 => delT hash t s.key
  | 2 => setN hash s.key s.value t s.count.toNat
  | _ => delN hash s.key s.value t s.count.toNat
def msetN (k v : Int) (m : Int → Option Int) (n : Nat) : Int → Option Int := (List.range n).foldl (fun m i => mset m (kAt k v i) (i : Int)) m
def mdelN (k v : Int) (m : Int → Option Int) (n : Nat) : Int → Option Int := (List.range n).foldl (fun m i => mdel m (kAt k v i)) m
theorem msetN_succ {k v : Int} {m : Int → Option Int} {n : Nat} : msetN k v m (n + 1) = mset (msetN k v m n) (kAt k v n) (n : Int) := by
  unfold msetN; rw [List.range_succ, List.foldl_append]; rfl
theorem mdelN_succ {k v : Int} {m : Int → Option Int} {n : Nat} : mdelN k v m (n + 1) = mdel (mdelN k v m n) (kAt k v n) := by
  unfold mdelN; rw [List.range_succ, List.foldl_append]; rfl
def funStep (m : Int → Option Int) (s : MStep) : Int → Option Int := match s.kind with
  | 0 => mset m s.key s.value
  | 1 => mdel m s.key
  | 2 => msetN s.key s.value m s.count.toNat
  | _ => mdelN s.key s.value m s.count.toNat
def versT (hash : Int → Nat) (steps : List MStep) : List (Nd Int Int) := vers (trieStep hash) MStep.ref .emp steps
def versM (steps : List MStep) : List (Int → Option Int) := vers funStep MStep.ref (fun _ => none) steps
theorem set_len_le {hash : Int → Nat} (hh : ∀ k, hash k < 2 ^ 32) {t : Nd Int Int} (h : WFr hash t) {k v : Int} : (toL (Nd.set hash t k v)).length ≤ (toL t).length + 1 := by
  rw [set_len hh h]; split <;> omega
def mcost (steps : List MStep) : Nat := (steps.map MStep.cost).sum
theorem mcost_snoc (l : List MStep) (s : MStep) : mcost (l ++ [s]) = mcost l + s.cost := by simp [mcost]
theorem mcost_take (l : List MStep) (i : Nat) : mcost (l.take i) ≤ mcost l := by
  have : mcost l = mcost (l.take i) + mcost (l.drop i) := by
    rw [← List.take_append_drop i l, mcost, mcost, mcost, List.map_append, List.sum_append]
    simp
  omega
theorem setN_len {hash : Int → Nat} (hh : ∀ k, hash k < 2 ^ 32) {t : Nd Int Int} (h : WFr hash t) {k v : Int} : ∀ n, WFr hash (setN hash k v t n) ∧ (toL (setN hash k v t n)).length ≤ (toL t).length + n
  | 0 => ⟨h, Nat.le_refl _⟩
  | n + 1 => by
    obtain ⟨a, b⟩ := setN_len hh h (k := k) (v := v) n
    rw [setN_succ]
    exact ⟨(set_spec hh a).1, by have := set_len_le hh a (k := kAt k v n) (v := (n : Int)); omega⟩
theorem delN_len {hash : Int → Nat} {t : Nd Int Int} (h : WFr hash t) {k v : Int} : ∀ n, WFr hash (delN hash k v t n) ∧ (toL (delN hash k v t n)).length ≤ (toL t).length
  | 0 => ⟨h, Nat.le_refl _⟩
  | n + 1 => by
    obtain ⟨a, b⟩ := delN_len h (k := k) (v := v) n
    rw [delN_succ]
    exact ⟨(delT_spec a).1, Nat.le_trans (delT_len a) b⟩
theorem step_len {hash : Int → Nat} (hh : ∀ k, hash k < 2 ^ 32) {t : Nd Int Int} (h : WFr hash t) (s : MStep) : WFr hash (trieStep hash t s) ∧ (toL (trieStep hash t s)).length ≤ (toL t).length + s.cost := by
  unfold trieStep MStep.cost
  split
  · exact ⟨(set_spec hh h).1, by have := set_len_le hh h (k := s.key) (v := s.value); omega⟩
  · exact ⟨(delT_spec h).1, by have := delT_len (k := s.key) h; omega⟩
  · have := setN_len hh h (k := s.key) (v := s.value) s.count.toNat
    exact ⟨this.1, by omega⟩
  · have := delN_len h (k := s.key) (v := s.value) s.count.toNat
    exact ⟨this.1, by omega⟩
theorem vers_size {hash : Int → Nat} (hh : ∀ k, hash k < 2 ^ 32) (steps : List MStep) : ∀ (j : Nat) t, (versT hash steps)[j]? = some t → WFr hash t ∧ (toL t).length ≤ mcost steps := by
  refine snoc_ind (P := fun steps => ∀ (j : Nat) t, (versT hash steps)[j]? = some t → WFr hash t ∧ (toL t).length ≤ mcost steps) ?_ (fun l s ih => ?_) steps
  · intro j a ha
    cases j with
    | zero => simp [versT, vers] at ha; subst ha; exact ⟨trivial, by simp [toL]⟩
    | succ j => simp [versT, vers] at ha
  · intro j a ha
    rw [versT, vers_snoc] at ha
    have hl1 := vers_len (f := trieStep hash) (fro := MStep.ref) (a0 := .emp) l
    rw [mcost_snoc]
    by_cases hj : j < l.length + 1
    · rw [List.getElem?_append_left (by omega)] at ha
      have := ih j a ha
      exact ⟨this.1, by omega⟩
    · have hj' : j = l.length + 1 := by
        have := (List.getElem?_eq_some_iff.1 ha).1
        simp [hl1] at this; omega
      subst hj'
      rw [List.getElem?_append_right (by omega), hl1] at ha
      simp at ha
      subst ha
      have hx : WFr hash ((vers (trieStep hash) MStep.ref .emp l)[s.ref]?.getD .emp) ∧ (toL ((vers (trieStep hash) MStep.ref .emp l)[s.ref]?.getD .emp)).length ≤ mcost l := by
        cases hx : (vers (trieStep hash) MStep.ref .emp l)[s.ref]? with
        | none => exact ⟨trivial, by simp [toL]⟩
        | some x => exact ih _ _ hx
      have := step_len hh hx.1 s
      exact ⟨this.1, by omega⟩
def MFit (steps : List MStep) : Prop := ∀ i (h : i < steps.length), steps[i].kind ≤ 3 ∧ 0 ≤ steps[i].fro ∧ steps[i].fro ≤ i ∧ 0 ≤ steps[i].count ∧ steps[i].count ≤ 100000
end Go.Vc
namespace Go.Vc
open Nd
theorem versM_len (l : List MStep) : (versM l).length = l.length + 1 := vers_len l
theorem versM_last {l : List MStep} {s : MStep} : (versM (l ++ [s]))[l.length + 1]? = some (funStep ((versM l)[s.ref]?.getD fun _ => none) s) := by
  have h := versM_len l
  rw [versM, vers_snoc]
  rw [List.getElem?_append_right (by rw [show (vers funStep MStep.ref (fun _ => none) l).length = l.length + 1 from h]; exact Nat.le_refl _)]
  rw [show (vers funStep MStep.ref (fun _ => none) l).length = l.length + 1 from h]
  simp [versM]
section
variable {κ ν : Type} [DecidableEq κ] {m : κ → Option ν} {k : κ} {v : ν}
theorem nodup_cons {D : List (κ × ν)} (h : Tells D m) (hn : (D.map (·.1)).Nodup) (hk : m k = none) : (((k, v) :: D).map (·.1)).Nodup := by
  rw [List.map_cons, List.nodup_cons]
  refine ⟨fun hm => ?_, hn⟩
  obtain ⟨e, he, hk'⟩ := List.mem_map.1 hm
  have := (h e.1 e.2).1 he
  rw [show e.1 = k from hk', hk] at this; cases this
end
end Go.Vc
end
section
/- RowsOf that a call lengthens by one element after the other, each element holding something in the heap. -/
namespace Go.Vc
variable {P : Program} {w w' : World} {K : Value → World → Prop} {Kp : KP} {t e : TypeId} {s base : Nat} {l v : Value} {M : Nat → Prop}
def IsSl (w : World) (v : Value) (n : Nat) (xs : List Value) : Prop := ∃ a c, v = .slice a n c ∧ n ≤ c ∧ c ≤ maxLen ∧ Row w a xs ∧ (a = none → n = 0)
theorem IsSl.frame {n : Nat} {xs : List Value} (h : IsSl w v n xs) (hf : Frm M w w') (hM : ∀ b, v.ownBlock = some b → ¬ M b) : IsSl w' v n xs := by
  obtain ⟨a, c, rfl, hc, hm, hr, ha⟩ := h
  exact ⟨a, c, rfl, hc, hm, hr.frame hf fun p hp => hM _ (by subst hp; rfl), ha⟩
theorem IsSl.still {n : Nat} {xs : List Value} (h : IsSl w v n xs) (hf : Frm (fun _ => False) w w') : IsSl w' v n xs := h.frame hf fun _ _ h => h
theorem IsSl.one {n : Nat} {xs : List Value} (h : IsSl w v n xs) : v.oneCell' = true := by obtain ⟨a, c, rfl, _⟩ := h; rfl
theorem IsSl.nil : IsSl w (.slice none 0 0) 0 [] := ⟨none, 0, rfl, Nat.le_refl _, by simp [maxLen], .inl rfl, fun _ => rfl⟩
theorem own_sl {n : Nat} {xs : List Value} (h : w.ownsRow base e s v n xs) : IsSl w v n xs := by
  obtain ⟨h1, ⟨rfl, rfl⟩ | ⟨g, cap, cur, rfl, h3, h4, h5, h6, h7, h8⟩⟩ := id h
  · exact ⟨none, 0, rfl, by omega, by simp [maxLen], .inl (List.eq_nil_of_length_eq_zero (by simpa using h1)), fun _ => rfl⟩
  · obtain ⟨a, c, hv, hc, hr, ha, _⟩ := own_slice h
    cases hv
    exact ⟨_, _, rfl, hc, h6, hr, ha⟩
structure ElOk {α : Type} (El : World → List Value → α → (Nat → Prop) → Prop) : Prop where
  frame : ∀ {w w' : World} {u : List Value} {y : α} {G M : Nat → Prop}, El w u y G → Frm M w w' → (∀ c, G c → ¬ M c) → El w' u y G
  mono : ∀ {w : World} {u : List Value} {y : α} {G G' : Nat → Prop}, El w u y G → (∀ c, G c → G' c) → El w u y G'
structure RowsOf {α : Type} (El : World → List Value → α → (Nat → Prop) → Prop) (w : World) (base : Nat) (e : TypeId) (s : Nat) (l : Value) (ys : List α) (G : Nat → Prop) : Prop where
  row : ∃ us : List (List Value), us.length = ys.length ∧ (∀ u ∈ us, u.length = s) ∧ w.ownsRow base e s l ys.length us.flatten ∧ ∀ (j : Nat) u y, us[j]? = some u → ys[j]? = some y → El w u y G
  low : ∀ c, G c → base ≤ c ∧ c < w.heap.size
  off : ∀ b, l.ownBlock = some b → ¬ G b
variable {α : Type} {El : World → List Value → α → (Nat → Prop) → Prop} {ys : List α} {G G' : Nat → Prop} {y : α}
theorem RowsOf.frame (hE : ElOk El) (h : RowsOf El w base e s l ys G) (hf : Frm M w w') (hG : ∀ c, G c → ¬ M c) (hl : ∀ b, l.ownBlock = some b → ¬ M b) : RowsOf El w' base e s l ys G := by
  obtain ⟨⟨us, h1, h2, h3, h4⟩, h5, h6⟩ := h
  exact ⟨⟨us, h1, h2, own_frame h3 hf hl, fun j u y hu hy => hE.frame (h4 j u y hu hy) hf hG⟩, fun c hc => ⟨(h5 c hc).1, Nat.lt_of_lt_of_le (h5 c hc).2 hf.size⟩, h6⟩
theorem RowsOf.still (hE : ElOk El) (h : RowsOf El w base e s l ys G) (hf : Frm (fun _ => False) w w') : RowsOf El w' base e s l ys G := h.frame hE hf (fun _ _ h => h) fun _ _ h => h
theorem RowsOf.mono (hE : ElOk El) (h : RowsOf El w base e s l ys G) (hG : ∀ c, G c → G' c) (hlow : ∀ c, G' c → base ≤ c ∧ c < w.heap.size) (hoff : ∀ b, l.ownBlock = some b → ¬ G' b) : RowsOf El w base e s l ys G' := by
  obtain ⟨⟨us, h1, h2, h3, h4⟩, h5, h6⟩ := h
  exact ⟨⟨us, h1, h2, h3, fun j u y hu hy => hE.mono (h4 j u y hu hy) hG⟩, hlow, hoff⟩
theorem RowsOf.base_le {base' : Nat} (h : RowsOf El w base e s l ys G) (hb : base' ≤ base) : RowsOf El w base' e s l ys G := by
  obtain ⟨⟨us, h1, h2, h3, h4⟩, h5, h6⟩ := h
  exact ⟨⟨us, h1, h2, own_base h3 hb, h4⟩, fun c hc => ⟨Nat.le_trans hb (h5 c hc).1, (h5 c hc).2⟩, h6⟩
theorem rows_nil : RowsOf El w base e s (.slice none 0 0) [] (fun _ => False) := ⟨⟨[], rfl, by simp, own_nil, fun j u y hu => by simp at hu⟩, fun _ h => h.elim, fun _ _ h => h⟩
theorem RowsOf.own_lt (h : RowsOf El w base e s l ys G) : ∀ b, l.ownBlock = some b → base ≤ b ∧ b < w.heap.size := by
  obtain ⟨⟨us, h1, h2, h3, h4⟩, _⟩ := h
  exact Go.Vc.own_lt h3
theorem RowsOf.one (h : RowsOf El w base e s l ys G) : l.oneCell' = true := by
  obtain ⟨⟨us, h1, h2, h3, h4⟩, _⟩ := h
  obtain ⟨a, c, rfl, _⟩ := own_slice h3; rfl
theorem flatten_get {k : Nat} : ∀ {us : List (List Value)}, (∀ u ∈ us, u.length = k) → ∀ (i r : Nat) (hi : i < us.length), r < k → us.flatten[i * k + r]? = us[i][r]?
  | [], _, i, r, hi, _ => by simp at hi
  | u :: us, h, 0, r, hi, hr => by
    rw [List.flatten_cons, List.getElem?_append_left (by rw [h u List.mem_cons_self]; omega)]; simp
  | u :: us, h, i + 1, r, hi, hr => by
    have hi' : i < us.length := by simpa using hi
    have hu := h u List.mem_cons_self
    rw [List.flatten_cons, List.getElem?_append_right (by rw [hu, Nat.add_mul]; omega), hu, show (i + 1) * k + r - k = i * k + r from by rw [Nat.add_mul]; omega]
    exact flatten_get (fun u hu => h u (List.mem_cons_of_mem _ hu)) i r hi' hr
theorem flatten_len {k : Nat} : ∀ {us : List (List Value)}, (∀ u ∈ us, u.length = k) → us.flatten.length = us.length * k
  | [], _ => by simp
  | u :: us, h => by
    rw [List.flatten_cons, List.length_append, h u List.mem_cons_self, flatten_len fun u hu => h u (List.mem_cons_of_mem _ hu), List.length_cons, Nat.add_mul]; omega
theorem RowsOf.slice (h : RowsOf El w base e s l ys G) : ∃ a c, l = .slice a ys.length c ∧ ys.length ≤ c ∧ c ≤ maxLen ∧ (a = none → ys.length = 0) := by
  obtain ⟨⟨us, h1, h2, h3, h4⟩, _⟩ := h
  obtain ⟨a, c, h5, h6, h7, h8, h9⟩ := own_sl h3
  exact ⟨a, c, h5, h6, h7, h9⟩
theorem RowsOf.get (h : RowsOf El w base e s l ys G) {j : Nat} (hj : j < ys.length) : ∃ u g c cs, l = .slice (some ⟨g, 0, none⟩) ys.length c ∧ w.heap[g]? = some (.cells cs e (0, 0)) ∧ u.length = s ∧
    (∀ r, r < s → cs[j * s + r]? = u[r]?) ∧ j * s + s ≤ cs.size ∧ cs.extract (j * s) (j * s + s) = u.toArray ∧ El w u ys[j] G := by
  obtain ⟨⟨us, h1, h2, h3, h4⟩, _⟩ := h
  obtain ⟨h5, ⟨_, h6⟩ | ⟨g, cap, cur, rfl, k3, k4, k5, k6, k7, k8⟩⟩ := h3
  · omega
  · have hju : j < us.length := by omega
    have hul := h2 _ (List.getElem_mem hju)
    have hjs : (j + 1) * s ≤ ys.length * s := Nat.mul_le_mul_right _ hj
    rw [Nat.add_mul, Nat.one_mul] at hjs
    have hsz : j * s + s ≤ cur.size := by rw [k7]; exact Nat.le_trans hjs (Nat.mul_le_mul_right _ k5)
    have hg : ∀ r, r < s → cur[j * s + r]? = us[j][r]? := fun r hr => by
      have := flatten_get h2 j r hju hr
      rw [← this, ← k8, List.getElem?_take, if_pos (by omega)]; simp
    refine ⟨us[j], g, cap, cur, rfl, k4, hul, hg, hsz, ?_, h4 j _ _ (by simp [hju]) (by simp [hj])⟩
    apply Array.ext_getElem?
    intro r
    rw [Array.getElem?_extract]
    by_cases hr : r < s
    · rw [if_pos (by omega), hg r hr]; simp
    · rw [if_neg (by omega), Array.getElem?_eq_none (by simp [hul]; omega)]
theorem op_push {bytes : Nat} {uv : Value} {u : List Value} {G2 : Nat → Prop} (hE : ElOk El) (ha : apOf P t = some (e, s, bytes)) (hl : sliceLit P t 1 [(0, uv)] = some (e, u.toArray)) (hu : u.length = s) (hone : ∀ x ∈ u, x.oneCell' = true)
    (hR : RowsOf El w base e s l ys G) (hy : El w u y G2) (hG2 : ∀ c, G2 c → base ≤ c ∧ c < w.heap.size) (hoff : ∀ b, l.ownBlock = some b → ¬ G2 b) (h63 : (ys.length + 1) * (bytes + 1) ≤ 140737488355328) (hbase : base ≤ w.heap.size)
    (hK : ∀ l' w', Frm (fun b => some b = l.ownBlock) w w' → RowsOf El w' base e s l' (ys ++ [y]) (fun c => G c ∨ G2 c) → (l'.ownBlock = l.ownBlock ∨ ∃ b, l'.ownBlock = some b ∧ w.heap.size ≤ b) → K l' w') :
    (nice P).op (.buildSlice t 1 [(0, uv)]) w (fun v w => (nice P).op (.blt .append [t, t] t [l, v]) w K Kp) Kp := by
  obtain ⟨i, z, ht, hi, hz, hsize, hby, hzs, hsz⟩ := apOf_spec ha
  refine op_lit_ok hl fun w1 k1 z1 b1 => ?_
  have hR1 := hR.still hE k1
  obtain ⟨⟨us, h1, h2, h3, h4⟩, h5, h6⟩ := hR1
  have hr : Row w1 (some ⟨w.heap.size, 0, none⟩) u := .inr ⟨_, 0, _, _, _, rfl, b1, fun j v hv => by simpa using hv⟩
  refine op_append (base := base) (n := ys.length) (m := 1) ha h3 hr (by rw [hu]; simp) hone (fun h => nomatch h) h63 (Nat.le_trans hbase k1.size) fun l' w' ho hf hb => ?_
  have hlow := hR.low
  have hGM : ∀ c, G c → ¬ some c = l.ownBlock := fun c hc e => h6 c e.symm hc
  have hGM2 : ∀ c, G2 c → ¬ some c = l.ownBlock := fun c hc e => hoff c e.symm hc
  have hnew : ∀ b, l'.ownBlock = some b → l.ownBlock = some b ∨ w.heap.size ≤ b := fun b hb' => by
    rcases hb with h | h
    · rw [h] at hb'; exact .inl hb'
    · rw [h] at hb'; have := Option.some.inj hb'; have := k1.size; exact .inr (by omega)
  refine hK l' w' (k1.fst hf) ⟨⟨us ++ [u], by simp [h1], fun x hx => ?_, ?_, fun j x y' hx hy' => ?_⟩, fun c hc => ?_, fun b hb' hc => ?_⟩ ?_
  · rcases List.mem_append.1 hx with hx | hx
    · exact h2 x hx
    · rw [List.mem_singleton.1 hx]; exact hu
  · simpa using ho
  · by_cases hj : j < us.length
    · rw [List.getElem?_append_left hj] at hx
      rw [List.getElem?_append_left (by omega)] at hy'
      exact hE.mono (hE.frame (h4 j x y' hx hy') hf hGM) fun c hc => .inl hc
    · have hj' : j = us.length := by
        have := (List.getElem?_eq_some_iff.1 hx).1
        simp at this; omega
      subst hj'
      rw [List.getElem?_append_right (by omega)] at hx
      rw [h1, List.getElem?_append_right (by omega)] at hy'
      simp at hx hy'
      subst hx hy'
      exact hE.mono (hE.frame (hE.frame hy k1 fun _ _ h => h) hf hGM2) fun c hc => .inr hc
  · have := hf.size; have := k1.size
    rcases hc with hc | hc
    · have := hlow c hc; omega
    · have := hG2 c hc; omega
  · rcases hnew b hb' with h | h
    · rcases hc with hc | hc
      · exact hR.off b h hc
      · exact hoff b h hc
    · rcases hc with hc | hc
      · have := hlow b hc; omega
      · have := hG2 b hc; omega
  · rcases hb with h | h
    · exact .inl h
    · exact .inr ⟨_, h, k1.size⟩
def Flat {α : Type} (f : α → List Value) : World → List Value → α → (Nat → Prop) → Prop := fun _ u y _ => u = f y
theorem flat_ok {α : Type} (f : α → List Value) : ElOk (Flat f) := ⟨fun h _ _ => h, fun h _ => h⟩
theorem RowsOf.flat {f : α → List Value} (h : RowsOf (Flat f) w base e s l ys G) : IsSl w l ys.length (ys.flatMap f) := by
  obtain ⟨⟨us, h1, h2, h3, h4⟩, _⟩ := h
  have : us = ys.map f := by
    apply List.ext_getElem?
    intro j
    by_cases hj : j < us.length
    · rw [List.getElem?_eq_getElem hj, List.getElem?_map, List.getElem?_eq_getElem (by omega)]
      have := h4 j us[j] (ys[j]'(by omega)) (List.getElem?_eq_getElem _) (List.getElem?_eq_getElem _)
      rw [this]; rfl
    · rw [List.getElem?_eq_none (by omega), List.getElem?_eq_none (by simp; omega)]
  rw [this] at h3
  have := own_sl h3
  rwa [← List.flatMap_def] at this
end Go.Vc
namespace Go.Vc
variable {P : Program} {w w' : World} {K : Value → World → Prop} {Kp : KP} {t e : TypeId} {s base : Nat} {α : Type} {El : World → List Value → α → (Nat → Prop) → Prop} {y : α}
theorem op_row1 {bytes : Nat} {uv : Value} {u : List Value} {G2 : Nat → Prop} (hE : ElOk El) (ha : apOf P t = some (e, s, bytes)) (hl : sliceLit P t 1 [(0, uv)] = some (e, u.toArray)) (hu : u.length = s)
    (hy : El w u y G2) (hG2 : ∀ c, G2 c → base ≤ c ∧ c < w.heap.size) (hbase : base ≤ w.heap.size)
    (hK : ∀ l' w', Frm (fun _ => False) w w' → RowsOf El w' base e s l' [y] G2 → l'.ownBlock = some w.heap.size → K l' w') :
    (nice P).op (.buildSlice t 1 [(0, uv)]) w K Kp := by
  refine op_lit_ok hl fun w1 k1 z1 b1 => ?_
  have hr : Rw w1 e s w.heap.size 1 u := ⟨_, b1, by simp [hu], by omega, by simp, by simp [maxLen]⟩
  have ho : w1.ownsRow base e s (.slice (some ⟨w.heap.size, 0, none⟩) 1 1) 1 u := by
    obtain ⟨h1, ⟨_, h2⟩ | ⟨g, cap, cur, h2, h3, h4⟩⟩ := hr.own (n := 1) (by rw [hu]; simp) (Nat.le_refl _)
    · omega
    · cases h2
      exact ⟨h1, .inr ⟨_, _, cur, rfl, hbase, h4⟩⟩
  refine hK _ w1 k1 ⟨⟨[u], rfl, by simpa using hu, by simpa using ho, fun j u' y' hu' hy' => ?_⟩, fun c hc => ⟨(hG2 c hc).1, Nat.lt_of_lt_of_le (hG2 c hc).2 k1.size⟩, fun b hb hc => ?_⟩ rfl
  · cases j with
    | zero =>
      simp at hu' hy'
      subst hu' hy'
      exact hE.frame hy k1 fun _ _ h => h
    | succ j => simp at hu'
  · have hb : w.heap.size = b := Option.some.inj hb
    subst hb
    exact Nat.lt_irrefl _ (hG2 _ hc).2
end Go.Vc
namespace Go.Vc
variable {P : Program} {w w' : World} {K : Value → World → Prop} {Kp : KP} {t e : TypeId} {s base : Nat} {α : Type} {f : α → List Value} {ys zs : List α} {l v2 : Value}
theorem op_concat {bytes : Nat} (ha : apOf P t = some (e, s, bytes)) (hf : ∀ x, (f x).length = s) (hone : ∀ x, ∀ u ∈ f x, u.oneCell' = true) (hR : RowsOf (Flat f) w base e s l ys (fun _ => False)) (h2 : IsSl w v2 zs.length (zs.flatMap f))
    (h63 : (ys.length + zs.length) * (bytes + 1) ≤ 140737488355328) (hbase : base ≤ w.heap.size)
    (hK : ∀ l' w', Frm (fun b => some b = l.ownBlock) w w' → RowsOf (Flat f) w' base e s l' (ys ++ zs) (fun _ => False) → K l' w') : (nice P).op (.blt .append [t, t] t [l, v2]) w K Kp := by
  obtain ⟨⟨us, h1, h3, h4, h5⟩, h6, h7⟩ := hR
  obtain ⟨a, c, rfl, hc, hm, hr, hn⟩ := h2
  refine op_append (base := base) (n := ys.length) (m := zs.length) ha h4 hr (flatMap_len hf zs) (fun u hu => by obtain ⟨x, _, hx⟩ := List.mem_flatMap.1 hu; exact hone x u hx) hn h63 hbase fun l' w' ho hfr hb => ?_
  have hus : us = ys.map f := by
    apply List.ext_getElem?
    intro j
    by_cases hj : j < us.length
    · rw [List.getElem?_eq_getElem hj, List.getElem?_map, List.getElem?_eq_getElem (by omega)]
      have := h5 j us[j] (ys[j]'(by omega)) (List.getElem?_eq_getElem _) (List.getElem?_eq_getElem _)
      rw [this]; rfl
    · rw [List.getElem?_eq_none (by omega), List.getElem?_eq_none (by simp; omega)]
  refine hK l' w' hfr ⟨⟨(ys ++ zs).map f, by simp, fun u hu => by obtain ⟨x, _, rfl⟩ := List.mem_map.1 hu; exact hf x, ?_, fun j u y hu hy => ?_⟩, fun _ h => h.elim, fun _ _ h => h⟩
  · rw [List.length_append]
    rw [hus] at ho
    have e1 : ((ys ++ zs).map f).flatten = (ys.map f).flatten ++ zs.flatMap f := by simp [List.flatMap_def]
    rw [e1]; exact ho
  · rw [List.getElem?_map, hy] at hu
    exact (Option.some.inj hu).symm
end Go.Vc
namespace Go.Vc
variable {P : Program} {w w' : World} {K : Value → World → Prop} {Kp : KP} {t e : TypeId} {s base : Nat} {α : Type} {f : α → List Value} {ys zs : List α} {l v2 : Value} {M : Nat → Prop} {y : α}
abbrev FRow (f : α → List Value) (w : World) (base : Nat) (e : TypeId) (s : Nat) (l : Value) (ys : List α) : Prop := RowsOf (Flat f) w base e s l ys (fun _ => False)
theorem frow_frame (h : FRow f w base e s l ys) (hf : Frm M w w') (hl : ∀ b, l.ownBlock = some b → ¬ M b) : FRow f w' base e s l ys := h.frame (flat_ok f) hf (fun _ h => h.elim) hl
theorem frow_still (h : FRow f w base e s l ys) (hf : Frm (fun _ => False) w w') : FRow f w' base e s l ys := frow_frame h hf fun _ _ h => h
theorem op_pushF {bytes : Nat} {uv : Value} (ha : apOf P t = some (e, s, bytes)) (hl : sliceLit P t 1 [(0, uv)] = some (e, (f y).toArray)) (hf : ∀ x, (f x).length = s) (hone : ∀ x, ∀ u ∈ f x, u.oneCell' = true)
    (hR : FRow f w base e s l ys) (h63 : (ys.length + 1) * (bytes + 1) ≤ 140737488355328) (hbase : base ≤ w.heap.size)
    (hK : ∀ l' w', Frm (fun b => some b = l.ownBlock) w w' → FRow f w' base e s l' (ys ++ [y]) → (l'.ownBlock = l.ownBlock ∨ ∃ b, l'.ownBlock = some b ∧ w.heap.size ≤ b) → K l' w') :
    (nice P).op (.buildSlice t 1 [(0, uv)]) w (fun v w => (nice P).op (.blt .append [t, t] t [l, v]) w K Kp) Kp :=
  op_push (flat_ok f) ha hl (hf y) (hone y) hR rfl (G2 := fun _ => False) (fun _ h => h.elim) (fun _ _ h => h) h63 hbase fun l' w' k' hR' ho => hK l' w' k' (hR'.mono (flat_ok f) (fun _ h => h.elim id id) (fun _ h => h.elim) fun _ _ h => h) ho
theorem frow_get (h : FRow f w base e s l ys) {j : Nat} (hj : j < ys.length) : ∃ g c cs, l = .slice (some ⟨g, 0, none⟩) ys.length c ∧ w.heap[g]? = some (.cells cs e (0, 0)) ∧ (∀ r, r < s → cs[j * s + r]? = (f ys[j])[r]?) ∧ j * s + s ≤ cs.size ∧ cs.extract (j * s) (j * s + s) = (f ys[j]).toArray := by
  obtain ⟨u, g, c, cs, h1, h2, h3, h4, h5, h6, h7⟩ := h.get hj
  have : u = f ys[j] := h7
  subst this
  exact ⟨g, c, cs, h1, h2, h4, h5, h6⟩
end Go.Vc
namespace Go.Vc
theorem Row.old {w w' : World} {M : Nat → Prop} {a : Option Addr} {vs : List Value} (h : Row w a vs) (hf : Frm M w w') (hM : ∀ b, M b → w.heap.size ≤ b) : Row w' a vs := by
  rcases h with h | ⟨b, o, cs, e, fz, h1, h2, h3⟩
  · exact .inl h
  · exact .inr ⟨b, o, cs, e, fz, h1, hf.get h2 fun hb => by have := hM b hb; have := lt_of_get h2; omega, h3⟩
end Go.Vc
end
section
/- What a version of a map tells: mapSeen. -/
namespace Go.Proofs.YtbghmbbhkoniiaaGreat.I
open Go.Vc Go.Proofs Go.Proofs.YtbghmbbhkoniiaaGreat Go.Vc.Nd
variable {w w' : World} {v : Value} {F : Nat → Prop} {K : KV} {Kp : KP} {hash : Ky → Nat}
theorem apPair : apOf Tryz.prog 53 = some (58, 2, 16) := by kernel_rfl
def IsPairs (w : World) (v : Value) (L : List (Ky × Vl)) : Prop := IsSl w v L.length (L.flatMap ent)
def lenAt (w : World) (b j : Nat) : Nat := match w.heap[b]? with
  | some (.cells cs _ _) => match cs[j]? with
    | some (.slice _ n _) => n
    | _ => 0
  | _ => 0
theorem nextV_cons {e : Ky × Vl} {L : List (Ky × Vl)} : nextV (e :: L) = .tuple #[ek e.1, ev e.2, .bool true] := rfl
theorem mapSeen_ok {ib mb n : Nat} {L : List (Ky × Vl)} (h : At w ib mb F hash L) (hF : ¬ F ib) (hFl : ∀ c, F c → c < w.heap.size) (hL : L.length < 2 ^ 31)
    (hK : ∀ pv w', Frm (· = ib) w w' → RowsOf (Flat ent) w' w.heap.size 58 2 pv L (fun _ => False) → K (.agg #[.int .i64 n, pv]) w') : Calls Tryz.prog 32 #[.int .i64 n, ptr ib] w (ret K Kp) := by
  refine vc32_calls ?_
  simp only [vc32]
  refine op_alloc_ok (z := .agg #[.int .i64 0, .slice none 0 0]) (by kernel_rfl) fun w1 k1 z1 b1 => ?_
  simp only [cells_agg] at b1
  simp [-getElem?_pos, -Array.getElem?_eq_getElem, -Int.natCast_add, add_spot, and_assoc, Br_dec, -op_box, -op_alloc_55, -op_lit_53_1, -op_st_55, -op_st_53]
  refine op_alloc_ok (z := .agg #[.int .i64 0, .slice none 0 0]) (by kernel_rfl) fun w2 k2 z2 b2 => ?_
  simp only [cells_agg] at b2
  refine op_storeN_ok (n := 2) (by kernel_rfl) b2 rfl (by decide) (by simp) fun w3 k3 z3 b3 => ?_
  have n1 := k1.size
  have n2 := k2.size
  have n3 := k3.size
  have b13 := k3.get (k2.get b1 fun h => h) (by omega)
  have hib := h.lt
  have b3 : w3.heap[w1.heap.size]? = some (.cells #[.int .i64 n, .slice none 0 0] 55 (0, 0)) := by simpa [ow] using b3
  have k03 : Frm (fun _ => False) w w3 := ((k1.no k2).old k3 fun c hc => .inr (by omega))
  have hA3 : At w3 ib mb F hash L := h.frame k03 (fun _ _ h => h) fun h => h
  obtain ⟨I, hI⟩ : ∃ I : World → Prop, ∀ wl, I wl ↔ ∃ D L' pv, D ++ L' = L ∧ Frm (· = ib) w wl ∧ w3.heap.size ≤ wl.heap.size ∧ At wl ib mb F hash L' ∧ wl.heap[w.heap.size]? = some (.cells #[.int .i64 0, .slice none 0 0] 55 (0, 0)) ∧
      wl.heap[w1.heap.size]? = some (.cells #[.int .i64 n, pv] 55 (0, 0)) ∧ RowsOf (Flat ent) wl w3.heap.size 58 2 pv D (fun _ => False) := ⟨_, fun _ => Iff.rfl⟩
  refine Lp.intro I (fun wl => L.length - lenAt wl w1.heap.size 1) ⟨(hI _).2 ⟨[], L, _, rfl, k03.to fun _ h => h.elim, Nat.le_refl _, hA3, b13, b3, rows_nil⟩, ?_⟩
  intro wl hl
  obtain ⟨D, L', pv, hDL, kl, zl, hA, bz, bo, hR⟩ := (hI _).1 hl
  have hib2 : ib ≠ w1.heap.size := by omega
  have hlow := hR.own_lt
  refine done_ok hA ?_
  cases L' with
  | nil =>
    simp only [List.append_nil] at hDL
    subst hDL
    simp [-getElem?_pos, -Array.getElem?_eq_getElem, -Int.natCast_add, add_spot, and_assoc, Br_dec, -op_box, -op_alloc_55, -op_lit_53_1, -op_st_55, -op_st_53, bo]
    have hx : (#[Value.int .i64 (n : Int), pv] : Array Value).extract 0 2 = #[.int .i64 n, pv] := rfl
    refine op_storeN_ok (n := 2) (by kernel_rfl) bz rfl (by decide) (by simp [hR.one]) fun w4 k4 z4 b4 => ?_
    have b4 : w4.heap[w.heap.size]? = some (.cells #[.int .i64 n, pv] 55 (0, 0)) := by simpa [ow] using b4
    simp [-getElem?_pos, -Array.getElem?_eq_getElem, -Int.natCast_add, add_spot, and_assoc, Br_dec, -op_box, -op_alloc_55, -op_lit_53_1, -op_st_55, -op_st_53, b4, hx]
    refine hK pv w4 (kl.old k4 fun c hc => .inr (by omega)) ((hR.frame (flat_ok _) k4 (fun _ h => h.elim) fun b hb he => ?_).base_le (by omega))
    have := hlow b hb; omega
  | cons e L' =>
    simp [-getElem?_pos, -Array.getElem?_eq_getElem, -Int.natCast_add, add_spot, and_assoc, Br_dec, -op_box, -op_alloc_55, -op_lit_53_1, -op_st_55, -op_st_53]
    refine Next_ok hA hF fun w4 k4 z4 hA4 => ?_
    rw [nextV_cons]
    have bo4 := k4.get bo (fun h => hib2 h.symm)
    have bz4 := k4.get bz (by omega)
    have hR4 := hR.frame (flat_ok _) k4 (fun _ h => h.elim) fun b hb he => by have := hlow b hb; omega
    simp [-getElem?_pos, -Array.getElem?_eq_getElem, -Int.natCast_add, add_spot, and_assoc, Br_dec, -op_box, -op_alloc_55, -op_lit_53_1, -op_st_55, -op_st_53, bo4, ek, ev]
    have hlen : D.length + L'.length + 1 = L.length := by rw [← hDL]; simp; omega
    refine op_push (u := ent e) (flat_ok ent) apPair lit_53_1 rfl (fun u hu => ents_one (es := [e]) u (by simpa [ents] using hu)) hR4 rfl (G2 := fun _ => False) (fun _ h => h.elim) (fun _ _ h => h) (by omega) (by omega) fun l' w5 k5 hR5 hown5 => ?_
    have hlow4 := hR4.own_lt
    have bo5 := k5.get bo4 (fun h => by have := hlow4 _ h.symm; omega)
    have bz5 := k5.get bz4 (fun h => by have := hlow4 _ h.symm; omega)
    refine op_store_ok (by kernel_rfl) bo5 (by simp) hR5.one fun w6 k6 z6 b6 => ?_
    have b6 : w6.heap[w1.heap.size]? = some (.cells #[.int .i64 n, l'] 55 (0, 0)) := by simpa using b6
    have hlow5 := hR5.own_lt
    have hF5 : ∀ c, F c → ¬ some c = pv.ownBlock := fun c hc he => by have := hlow4 _ he.symm; have := hFl c hc; omega
    have hA6 := (hA4.frame k5 hF5 (fun he => by have := hlow4 _ he.symm; omega)).frame k6 (fun c hc he => by have := hFl c hc; omega) hib2
    have n4 := k4.size
    have n5 := k5.size
    obtain ⟨a, c, rfl, _⟩ := hR5.slice
    refine ⟨(hI _).2 ⟨D ++ [e], L', _, by rw [← hDL]; simp, ((kl.trans k4 fun _ h _ => h).old k5 fun c hc => ?_).old k6 fun c hc => .inr (by omega), by omega, hA6, k6.get bz5 (by omega), b6, ?_⟩, ?_⟩
    · have := hlow4 _ hc.symm; exact .inr (by omega)
    · exact (hR5.frame (flat_ok _) k6 (fun _ h => h.elim (fun h => h.elim) fun h => h.elim) fun b hb he => by have := hlow5 b hb; omega).mono (flat_ok _) (fun _ h => h.elim (fun h => h.elim) fun h => h.elim) (fun _ h => h.elim) fun _ _ h => h
    · have e1 : lenAt wl w1.heap.size 1 = D.length := by
        obtain ⟨a0, c0, rfl, _⟩ := hR.slice
        simp [lenAt, bo]
      have e2 : lenAt w6 w1.heap.size 1 = D.length + 1 := by simp [lenAt, b6]
      rw [e1, e2]; omega
end Go.Proofs.YtbghmbbhkoniiaaGreat.I
end
section
/- The hasher of the thin package. -/
namespace Go.Proofs.YtbghmbbhkoniiaaGreat.I
open Go.Vc Go.Proofs Go.Proofs.YtbghmbbhkoniiaaGreat Go.Vc.Nd
variable {w : World} {K : KV} {Kp : KP}
def dataHash (md ml sh : Nat) (k : Int) : Nat := (IntKind.u32.wrap ((IntKind.u32.wrap (IntKind.u32.wrap k * (ml : Int))).tmod (md : Int) * 2 ^ min sh IntKind.u32.bits)).toNat
def dataV (md ml sh : Nat) : Value := .iface 98 (.agg #[.int .u32 md, .int .u32 ml, .int .u8 sh])
theorem dataHasher_ok {md ml sh : Nat} (hm : 0 < md) : IsH (dataV md ml sh) (dataHash md ml sh) where
  lt k := by
    unfold dataHash
    have : 0 ≤ IntKind.u32.wrap ((IntKind.u32.wrap (IntKind.u32.wrap k * (ml : Int))).tmod (md : Int) * 2 ^ min sh IntKind.u32.bits) ∧ IntKind.u32.wrap ((IntKind.u32.wrap (IntKind.u32.wrap k * (ml : Int))).tmod (md : Int) * 2 ^ min sh IntKind.u32.bits) < 4294967296 := by
      rw [IntKind.wrap_u32]; omega
    omega
  eqv := fun {a b w K Kp} hK => by
    simp only [dataV, inv_98_83]
    refine vc83_calls ?_
    simp only [vc83]
    refine op_box_ok fun w1 k1 z1 b1 => ?_
    simp only [ek, op_eql]
    exact hK w1 k1
  hsh := fun {k w K Kp} hK => by
    simp only [dataV, inv_98_84]
    refine vc84_calls ?_
    simp only [vc84]
    refine op_box_ok fun w1 k1 z1 b1 => ?_
    simp only [cells_agg] at b1
    have hne : ¬ ((md : Int) = 0) := by omega
    simp [-getElem?_pos, -Array.getElem?_eq_getElem, -Int.natCast_add, add_spot, and_assoc, Br_dec, -op_box, b1, ek, hne]
    have := hK w1.drew (k1.no (Frm.drew _))
    have hd : ((dataHash md ml sh k : Nat) : Int) = IntKind.u32.wrap ((IntKind.u32.wrap (IntKind.u32.wrap k * (ml : Int))).tmod (md : Int) * 2 ^ min sh IntKind.u32.bits) := by
      unfold dataHash
      exact Int.toNat_of_nonneg (by rw [IntKind.wrap_u32]; omega)
    rw [hd] at this
    first | exact this | exact ⟨by omega, this⟩
  nilE := by intro K1; simp [dataV]
  iface := ⟨_, _, rfl⟩
end Go.Proofs.YtbghmbbhkoniiaaGreat.I
end
