/- append and Append. -/
import Derived.Test.YtjlaclgikmmmlaaLWork
set_option maxRecDepth 100000
set_option linter.unusedSimpArgs false
set_option linter.unusedVariables false
namespace Go.Proofs.Ytjlaclgikmmmlaa
open Go.Vc Go.Proofs
variable {m : Bool} {w w' w0 : World} {d : Nat} {v rv : Value} {g g' : Int → Option Int} {F F' : Nat → Prop} {K : Value → World → Prop} {Kp : KP}

theorem Dp.app {d o n N : Nat} (h : Dp d o n N) (hN : N < 2 ^ 19) (hc : o + n < 32 ^ d) : Dp d o (n + 1) (N + 1) := by
  obtain ⟨h1, h2, h3, h4, h5⟩ := h
  have := pow_le (show d ≤ d + 1 from by omega)
  exact ⟨h1, by omega, by omega, by omega, fun h => by have := h5 h; omega⟩
theorem Dp.app_grow {d o n N : Nat} (h : Dp d o n N) (hN : N < 2 ^ 19) (hc : 32 ^ d ≤ o + n) : Dp (d + 1) o (n + 1) (N + 1) := by
  obtain ⟨h1, h2, h3, h4, h5⟩ := h
  have h6 : d ≤ 5 := by
    apply Nat.le_of_not_lt
    intro h
    have : d = 6 := by omega
    subst this
    omega
  have := pow_le (show d + 1 ≤ d + 1 + 1 from by omega)
  have h7 : 32 ^ (d + 1 + 1) = 32 ^ (d + 1) * 32 := Nat.pow_succ ..
  have h8 : 0 < 32 ^ (d + 1) := Nat.pow_pos (by decide)
  refine ⟨by omega, by omega, by omega, by omega, fun _ => ?_⟩
  rw [show d + 1 - 1 = d from by omega]
  omega

theorem append_ok {b : Nat} {xs : List Int} {N : Nat} {x : Int} (h : IsList m w b xs N F) (hN : N < 2 ^ 19)
    (hK : ∀ b' w' F', Frm (fun k => m = true ∧ F k) w w' → IsList m w' b' (xs ++ [x]) (N + 1) F' → (∀ k, F' k → F k ∨ w.heap.size ≤ k) → (m = true → b' = b) → K (ptr b') w') :
    Calls Try.prog 62 #[ptr b, .int .i64 x, .bool m] w (ret K Kp) := by
  refine vc62_calls ?_
  refine Jn.intro (fun v w' => ∃ bo rv d o Ft, v = ptr bo ∧ (m = true → bo = b) ∧ Dp d o xs.length N ∧ Work m w F bo w' rv d o xs.length (win o xs) Ft ∧ w'.heap[b]? = some (head rv o xs.length)) ⟨?_, ?_⟩
  · simp only [op_not]
    refine ⟨!m, rfl, fun hm => ?_, fun hm => ?_⟩
    · have hm : m = false := by simpa using hm
      subst hm
      obtain ⟨rv, d, o, Ft, hd, hb, hr, hW⟩ := h.work_new
      rw [call_66]
      exact clone_ok hb hr.one ⟨_, rv, d, o, Ft, rfl, (fun h => nomatch h), hd, hW, hp_alloc_lt hb⟩
    · have hm : m = true := by simpa using hm
      subst hm
      obtain ⟨rv, d, o, Ft, hd, hW⟩ := h.work_same
      exact ⟨_, rv, d, o, Ft, rfl, fun _ => rfl, hd, hW, hW.2.1⟩
  · rintro w1 junk j ⟨bo, rv, d, o, Ft, rfl, hbo, hd, hW, hb⟩
    have hsm := hd.small (by omega)
    obtain ⟨J, hJ⟩ : ∃ J : World → Prop, ∀ w', J w' ↔ ∃ rv d o Ft, Dp d o (xs.length + 1) (N + 1) ∧ Work m w F bo w' rv d o xs.length (win o xs) Ft := ⟨_, fun _ => Iff.rfl⟩
    refine Jn.intro J ⟨?_, ?_⟩
    · have hh := hW.2.1
      have hWd := hW.drew
      simp [-getElem?_pos, -Array.getElem?_eq_getElem, List.getElem?_cons_zero, ptr, add_spot, hh, head, Br_dec]
      rw [wrap_small _ rfl (by omega) (by omega)]
      refine cap_ok (d := d) (g := win o xs) (F := Ft) (w := w1.drew) hb hWd.2.2.2.1 (by omega) ?_
      simp [-getElem?_pos, -Array.getElem?_eq_getElem, List.getElem?_cons_zero, ptr, add_spot, hh, head, Br_dec]
      refine ⟨fun hc => ?_, fun hc => ?_⟩
      · refine depth_ok hWd.2.2.2.1 ?_
        have hw : IntKind.u64.wrap ((d : Int) + 1) = ((d + 1 : Nat) : Int) := by rw [IntKind.wrap_u64]; omega
        have hnb : bo ≠ w1.heap.size := Nat.ne_of_lt (lt_of_get hh)
        have hz : zero_118.size = 33 := rfl
        simp [-getElem?_pos, -Array.getElem?_eq_getElem, List.getElem?_cons_zero, ptr, add_spot, hh, head, Br_dec, hw, hnb, hp_alloc_ne, hp_alloc_eq, alloc_upd, and_assoc, hz, hW.2.2.2.1.one]
        refine (hJ _).2 ⟨_, d + 1, o, _, hd.app_grow hN (by have := cast_pow d; omega), hWd.drew.grow (i := 0) (vs := fun k => if k = 0 then rv else .nilIface) (by decide) ⟨by simp [hz], ?_, fun k hk => ?_⟩ rfl (fun k _ hk => if_neg hk) (fun p y _ _ e => ?_) (fun k hk hne p h0 h1 => ?_)⟩
        · rw [Array.getElem?_setIfInBounds, if_neg (by decide), Array.getElem?_setIfInBounds]; simp [hz]
        · rw [Array.getElem?_setIfInBounds]
          by_cases e : k = 0
          · subst e; simp [hz]
          · rw [if_neg (by omega), Array.getElem?_setIfInBounds, if_neg (by omega), zero118 k hk]; simp [e]
        · simpa [sub] using e
        · have h2 := hd.2.1
          have h3 := cast_pow (d + 1)
          have h4 := Int.mul_le_mul_of_nonneg_right (show (1 : Int) ≤ k from by omega) (Int.le_of_lt (pow_pos' (d + 1)))
          exact win_none (.inr (by omega))
      · have := cast_pow d
        exact (hJ _).2 ⟨rv, d, o, Ft, hd.app hN (by omega), hWd⟩
    · intro w2 junk h2
      obtain ⟨rv, d, o, Ft, hd, hW⟩ := (hJ _).1 h2
      have hsm := hd.small (by omega)
      have hh := hW.2.1
      obtain ⟨t, p, he⟩ := hW.2.2.2.1.iface
      have hWh := (hW.head o (xs.length + 1)).drew
      have hu := fun o => heap_upd_same (o := o) hh
      have hu2 := fun o => heap_upd_same (w := w2.drew) (o := o) hh
      have hw : IntKind.i64.wrap ((xs.length : Int) + 1) = ((xs.length + 1 : Nat) : Int) := by rw [wrap_small _ rfl (by omega) (by omega)]; simp
      simp [-getElem?_pos, -Array.getElem?_eq_getElem, List.getElem?_cons_zero, ptr, add_spot, hh, head, hw, and_assoc, hu, hu2, he]
      rw [wrap_small _ rfl (show (0 : Int) ≤ o + (xs.length + 1) from by omega) (by omega), wrap_small _ rfl (by omega) (by omega), show (o : Int) + (xs.length + 1) - 1 = ((o + xs.length : Nat) : Int) from by omega, ← he]
      refine set_ok (w := (w2.upd bo (head rv o (xs.length + 1))).drew) (g := win o xs) (F := Ft) (by omega) hWh.2.2.2.1 fun v' w' F' hf hr hF => ?_
      obtain ⟨ha, hb, hW'⟩ := hWh.call hf hr hF
      simp [-getElem?_pos, -Array.getElem?_eq_getElem, ha, head, hb, and_assoc]
      have hW2 := hW'.told (g' := win o (xs ++ [x])) (fun p y _ _ e => by rw [win_app] at e; rw [hd.mod (by omega)]; exact e)
      rw [show xs.length + 1 = (xs ++ [x]).length from by simp] at hW2 hd
      obtain ⟨h1, h2, h3⟩ := hW2.list hd
      rw [List.length_append] at h1 h2
      exact hK bo _ _ h1 h2 h3 hbo
end Go.Proofs.Ytjlaclgikmmmlaa
