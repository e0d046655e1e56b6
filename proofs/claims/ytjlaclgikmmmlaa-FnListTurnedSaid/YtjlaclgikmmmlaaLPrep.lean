/- set, prepend, NewList. -/
import Derived.Test.YtjlaclgikmmmlaaLAppend
set_option maxRecDepth 100000
set_option linter.unusedSimpArgs false
set_option linter.unusedVariables false
namespace Go.Proofs.Ytjlaclgikmmmlaa
open Go.Vc Go.Proofs
variable {m : Bool} {w w' w0 : World} {d : Nat} {v rv : Value} {g g' : Int → Option Int} {F F' : Nat → Prop} {K : Value → World → Prop} {Kp : KP}

theorem lset_out {b : Nat} {xs : List Int} {N : Nat} {i x : Int} (h : IsList m w b xs N F) (hi : i < 0 ∨ (xs.length : Int) ≤ i) (hK : ∀ s, Kp (panB s) w) : Calls Try.prog 64 #[ptr b, .int .i64 i, .int .i64 x, .bool m] w (ret K Kp) := by
  obtain ⟨rv, d, o, Ft, h1, h2, h3, h4, h5⟩ := h
  refine vc64_calls ?_
  simp [-getElem?_pos, -Array.getElem?_eq_getElem, List.getElem?_cons_zero, vc64, ptr, add_spot, h1, head, Br_dec]
  refine ⟨fun h => hK _, fun _ => ⟨fun h => hK _, fun _ => by omega⟩⟩

theorem lset_ok {b : Nat} {xs : List Int} {N k : Nat} {x : Int} (h : IsList m w b xs N F) (hN : N < 2 ^ 19) (hk : k < xs.length)
    (hK : ∀ b' w' F', Frm (fun k => m = true ∧ F k) w w' → IsList m w' b' (xs.set k x) N F' → (∀ k, F' k → F k ∨ w.heap.size ≤ k) → (m = true → b' = b) → K (ptr b') w') :
    Calls Try.prog 64 #[ptr b, .int .i64 k, .int .i64 x, .bool m] w (ret K Kp) := by
  refine vc64_calls ?_
  have fin : ∀ {bo d o w1 Ft rv v' w' F'}, Dp d o xs.length N → Work m w F bo w1 rv d o xs.length (win o xs) Ft → Frm (fun b => m = true ∧ Ft b) w1 w' → Rep m w' d v' (put (win o xs) (((o + k : Nat) : Int) % 32 ^ (d + 1)) x) F' → (∀ b, F' b → Ft b ∨ w1.heap.size ≤ b) → (m = true → bo = b) →
      w'.heap[bo]? = some (head rv o xs.length) ∧ v'.oneCell' = true ∧ K (ptr bo) (w'.upd bo (head v' o xs.length)) := fun hd hW hf hr hF hbo => by
    obtain ⟨ha, hb, hW'⟩ := hW.call hf hr hF
    have hW2 := hW'.told (g' := win _ (xs.set k x)) (fun p y _ _ e => by rw [win_set hk] at e; rw [hd.mod (by omega)]; exact e)
    rw [show xs.length = (xs.set k x).length from by simp] at hW2 hd
    obtain ⟨h1, h2, h3⟩ := hW2.list hd
    rw [List.length_set] at h1 h2
    exact ⟨ha, hb, hK _ _ _ h1 h2 h3 hbo⟩
  cases m with
  | true =>
    obtain ⟨rv, d, o, Ft, hd, hW⟩ := h.work_same
    have hsm := hd.small (by omega)
    have hh := hW.2.1
    obtain ⟨t, p, he⟩ := hW.2.2.2.1.iface
    simp [-getElem?_pos, -Array.getElem?_eq_getElem, List.getElem?_cons_zero, vc64, ptr, add_spot, hh, head, Br_dec, he]
    refine ⟨fun h => by omega, fun h => by omega, fun _ => ?_⟩
    rw [wrap_small _ rfl (by omega) (by omega), ← he, show (o : Int) + k = ((o + k : Nat) : Int) from by omega]
    refine set_ok (by omega) hW.drew.2.2.2.1 fun v' w' F' hf hr hF => ?_
    obtain ⟨ha, hb, hk⟩ := fin hd hW.drew hf hr hF fun _ => rfl
    simp [-getElem?_pos, -Array.getElem?_eq_getElem, ha, head, hb, and_assoc]
    exact hk
  | false =>
    obtain ⟨rv, d, o, Ft, hd, hb, hr, hW⟩ := h.work_new
    have hsm := hd.small (by omega)
    have hh := hW.2.1
    obtain ⟨t, p, he⟩ := hr.iface
    have hb1 : (w.alloc (head rv o xs.length)).heap[b]? = some (head rv o xs.length) := hp_alloc_lt hb
    simp [-getElem?_pos, -Array.getElem?_eq_getElem, List.getElem?_cons_zero, vc64, ptr, add_spot, hb, head, Br_dec]
    refine ⟨fun h => by omega, fun h => by omega, fun _ => clone_ok hb hr.one ?_⟩
    have hnb : b ≠ w.heap.size := Nat.ne_of_lt (lt_of_get hb)
    simp [-getElem?_pos, -Array.getElem?_eq_getElem, List.getElem?_cons_zero, ptr, add_spot, hb, hnb, hp_alloc_eq, hp_alloc_ne, Br_dec, head, he]
    rw [wrap_small _ rfl (by omega) (by omega), ← he, show (o : Int) + k = ((o + k : Nat) : Int) from by omega]
    refine set_ok (by omega) hW.drew.2.2.2.1 fun v' w' F' hf hr hF => ?_
    obtain ⟨ha, hb, hk⟩ := fin hd hW.drew hf hr hF fun h => nomatch h
    simp [-getElem?_pos, -Array.getElem?_eq_getElem, ha, head, hb, and_assoc]
    exact hk

theorem win_shift {o D : Nat} {xs : List Int} (p : Int) : win (D + o) xs ((D : Int) + p) = win o xs p := by
  unfold win
  by_cases h : (o : Int) ≤ p
  · rw [if_pos h, if_pos (by omega), show ((D : Int) + p - ((D + o : Nat) : Int)).toNat = (p - (o : Int)).toNat from by omega]
  · rw [if_neg h, if_neg (by omega)]
theorem Dp.pre {d o n N : Nat} (h : Dp d (o + 1) n N) : Dp d o (n + 1) (N + 1) := by
  obtain ⟨h1, h2, h3, h4, h5⟩ := h
  exact ⟨h1, by omega, by omega, by omega, fun h => by have := h5 h; omega⟩
theorem Dp.pre_grow {d n N : Nat} (h : Dp d 0 n N) (hN : N < 2 ^ 19) : Dp (d + 1) (31 * 32 ^ (d + 1)) n N ∧ d ≤ 4 := by
  obtain ⟨h1, h2, h3, h4, h5⟩ := h
  have h6 : d ≤ 4 := by
    apply Nat.le_of_not_lt
    intro h
    have := h5 (by omega)
    have := pow_le (show 4 ≤ d - 1 from by omega)
    omega
  have h7 : 32 ^ (d + 1 + 1) = 32 ^ (d + 1) * 32 := Nat.pow_succ ..
  have h8 : 32 ^ (d + 1) ≤ 32 ^ 5 := pow_le (by omega)
  have h9 : 32 ^ (d + 1) = 32 ^ d * 32 := Nat.pow_succ ..
  refine ⟨⟨by omega, by omega, by omega, by omega, fun _ => ?_⟩, h6⟩
  rw [show d + 1 - 1 = d from by omega]
  omega

theorem prepend_ok {b : Nat} {xs : List Int} {N : Nat} {x : Int} (h : IsList m w b xs N F) (hN : N < 2 ^ 19)
    (hK : ∀ b' w' F', Frm (fun k => m = true ∧ F k) w w' → IsList m w' b' (x :: xs) (N + 1) F' → (∀ k, F' k → F k ∨ w.heap.size ≤ k) → (m = true → b' = b) → K (ptr b') w') :
    Calls Try.prog 63 #[ptr b, .int .i64 x, .bool m] w (ret K Kp) := by
  refine vc63_calls ?_
  refine Jn.intro (fun v w' => ∃ bo rv d o Ft, v = ptr bo ∧ (m = true → bo = b) ∧ Dp d o xs.length N ∧ Work m w F bo w' rv d o xs.length (win o xs) Ft) ⟨?_, ?_⟩
  · simp only [op_not]
    refine ⟨!m, rfl, fun hm => ?_, fun hm => ?_⟩
    · have hm : m = false := by simpa using hm
      subst hm
      obtain ⟨rv, d, o, Ft, hd, hb, hr, hW⟩ := h.work_new
      rw [call_66]
      exact clone_ok hb hr.one ⟨_, rv, d, o, Ft, rfl, (fun h => nomatch h), hd, hW⟩
    · have hm : m = true := by simpa using hm
      subst hm
      obtain ⟨rv, d, o, Ft, hd, hW⟩ := h.work_same
      exact ⟨_, rv, d, o, Ft, rfl, fun _ => rfl, hd, hW⟩
  · rintro w1 junk j ⟨bo, rv, d, o, Ft, rfl, hbo, hd, hW⟩
    have hsm := hd.small (by omega)
    obtain ⟨J, hJ⟩ : ∃ J : World → Prop, ∀ w', J w' ↔ ∃ rv d o Ft, Dp d (o + 1) xs.length N ∧ Work m w F bo w' rv d (o + 1) xs.length (win (o + 1) xs) Ft := ⟨_, fun _ => Iff.rfl⟩
    refine Jn.intro J ⟨?_, ?_⟩
    · have hh := hW.2.1
      have hr := hW.2.2.2.1
      simp [-getElem?_pos, -Array.getElem?_eq_getElem, List.getElem?_cons_zero, ptr, add_spot, hh, head, Br_dec]
      refine ⟨fun hc => depth_ok hr ?_, fun hc => ?_⟩
      · subst hc
        have ⟨hg, hd4⟩ := hd.pre_grow hN
        have hw : IntKind.u64.wrap ((d : Int) + 1) = ((d + 1 : Nat) : Int) := by rw [IntKind.wrap_u64]; omega
        have hnb : bo ≠ w1.heap.size := Nat.ne_of_lt (lt_of_get hh)
        have hz : zero_118.size = 33 := rfl
        have hG := hW.drew.grow (g' := win (31 * 32 ^ (d + 1)) xs) (cs := (zero_118.setIfInBounds 0 (.int .u64 ((d + 1 : Nat) : Int))).setIfInBounds 32 rv) (i := 31) (vs := fun k => if k = 31 then rv else .nilIface) (by decide)
          ⟨by simp [hz], by rw [Array.getElem?_setIfInBounds, if_neg (by decide), Array.getElem?_setIfInBounds]; simp [hz], fun k hk => by
            rw [Array.getElem?_setIfInBounds]
            by_cases e : k = 31
            · subst e; simp [hz]
            · rw [if_neg (by omega), Array.getElem?_setIfInBounds, if_neg (by omega), zero118 k hk]; simp [e]⟩ rfl (fun k _ hk => if_neg hk)
          (fun p y _ _ e => by
            have e2 := win_shift (o := 0) (D := 31 * 32 ^ (d + 1)) (xs := xs) p
            rw [sub, show (((31 : Nat) : Int) * 32 ^ (d + 1) + p) = (((31 * 32 ^ (d + 1) : Nat)) : Int) + p from by simp] at e
            rw [← e2]; exact e) (fun k hk hne p h0 h1 => by
            have h3 := cast_pow (d + 1)
            have h4 := Int.mul_le_mul_of_nonneg_right (show (k : Int) + 1 ≤ 31 from by omega) (Int.le_of_lt (pow_pos' (d + 1)))
            rw [Int.add_mul] at h4
            exact win_none (.inl (by omega)))
        have hG2 := hG.drew
        have hGh := hG.2.1
        have hGh2 := hG2.2.1
        have hsh := pow_shift (d + 1) (by omega)
        have hs2 : IntKind.i64.wrap (31 * 32 ^ (d + 1)) = ((31 * 32 ^ (d + 1) : Nat) : Int) := by
          have h1 : ∀ q : Nat, q ≤ 32 ^ 5 → IntKind.i64.wrap (31 * (q : Int)) = ((31 * q : Nat) : Int) := fun q hq => by
            rw [wrap_small _ rfl (by omega) (by omega)]; omega
          rw [← cast_pow]
          exact h1 _ (pow_le (by omega))
        have hb64 : IntKind.i64.bits = 64 := rfl
        simp only [head, ptr, heap_drew, drew_alloc, drew_upd, Int.natCast_add, Int.natCast_one, Int.natCast_zero] at hGh hGh2 hsh
        simp [-getElem?_pos, -Array.getElem?_eq_getElem, List.getElem?_cons_zero, ptr, add_spot, hh, head, Br_dec, hw, hnb, hp_alloc_ne, hp_alloc_eq, alloc_upd, and_assoc, hz, hr.one, hGh]
        refine depth_ok hG2.2.2.2.1 ?_
        simp [-getElem?_pos, -Array.getElem?_eq_getElem, List.getElem?_cons_zero, ptr, add_spot, head, hGh2, hb64, hsh, upd_upd, hs2]
        obtain ⟨o', ho'⟩ : ∃ o', 31 * 32 ^ (d + 1) = o' + 1 := ⟨31 * 32 ^ (d + 1) - 1, by have : 0 < 32 ^ (d + 1) := Nat.pow_pos (by decide); omega⟩
        have hG3 := hG2.head (31 * 32 ^ (d + 1)) xs.length
        have hsm2 := hg.small (by omega)
        have hw2 : IntKind.i64.wrap (31 * 32 ^ (d + 1)) = 31 * 32 ^ (d + 1) := by rw [hs2]; simp
        refine ⟨_, _, ⟨rfl, rfl⟩, by simp, ?_⟩
        refine Eq.mp (congrArg J ?_) ((hJ _).2 ⟨_, d + 1, o', _, ho' ▸ hg, ho' ▸ hG3⟩)
        have hI : (31 * 32 ^ (d + 1) : Int) = o' + 1 := by have := cast_pow (d + 1); omega
        simp [head, upd_upd, ptr, hI]
      · obtain ⟨o', rfl⟩ : ∃ o', o = o' + 1 := ⟨o - 1, by omega⟩
        exact (hJ _).2 ⟨rv, d, o', Ft, hd, hW⟩
    · intro w2 junk h2
      obtain ⟨rv, d, o, Ft, hd, hW⟩ := (hJ _).1 h2
      have hsm := hd.small (by omega)
      have hh := hW.2.1
      obtain ⟨t, p, he⟩ := hW.2.2.2.1.iface
      have hWh := (hW.head o (xs.length + 1)).drew
      have hu := fun o => heap_upd_same (o := o) hh
      have hu2 := fun o => heap_upd_same (w := w2.drew) (o := o) hh
      have hw : IntKind.i64.wrap ((xs.length : Int) + 1) = ((xs.length + 1 : Nat) : Int) := by rw [wrap_small _ rfl (by omega) (by omega)]; simp
      simp [-getElem?_pos, -Array.getElem?_eq_getElem, List.getElem?_cons_zero, ptr, add_spot, hh, head, hw, and_assoc, hu, hu2, he, upd_upd]
      have hwo : IntKind.i64.wrap (o : Int) = o := wrap_small _ rfl (by omega) (by omega)
      have hWh := (hW.head o (xs.length + 1)).drew
      rw [hwo, ← he]
      refine set_ok (w := (w2.upd bo (head rv o (xs.length + 1))).drew) (g := win (o + 1) xs) (F := Ft) (by omega) hWh.2.2.2.1 fun v' w' F' hf hr hF => ?_
      obtain ⟨ha, hb, hW'⟩ := hWh.call hf hr hF
      simp [-getElem?_pos, -Array.getElem?_eq_getElem, ha, head, hb, and_assoc]
      have hd2 := hd.pre
      have hW2 := hW'.told (g' := win o (x :: xs)) (fun p y _ _ e => by rw [win_cons] at e; rw [hd2.mod (by omega)]; exact e)
      rw [show xs.length + 1 = (x :: xs).length from rfl] at hW2 hd2
      obtain ⟨h1, h2, h3⟩ := hW2.list hd2
      exact hK bo _ _ h1 h2 h3 hbo
end Go.Proofs.Ytjlaclgikmmmlaa
