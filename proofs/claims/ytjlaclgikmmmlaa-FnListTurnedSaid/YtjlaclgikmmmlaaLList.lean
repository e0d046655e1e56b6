/- Lists: what a list has; Len, Get; the state of the work on a list. -/
import Derived.Test.YtjlaclgikmmmlaaLDel2
set_option maxRecDepth 100000
set_option linter.unusedSimpArgs false
set_option linter.unusedVariables false
namespace Go.Proofs.Ytjlaclgikmmmlaa
open Go.Vc Go.Proofs
variable {m : Bool} {w w' w0 : World} {d : Nat} {v rv : Value} {g g' : Int → Option Int} {F F' : Nat → Prop} {K : Value → World → Prop} {Kp : KP}

/-- The elements of a list, at their places below its root. -/
def win (o : Nat) (xs : List Int) : Int → Option Int := fun p => if (o : Int) ≤ p then xs[(p - o).toNat]? else none
/-- Depth, origin and size of a list that was made by at most N single steps. -/
def Dp (d o n N : Nat) : Prop := d ≤ 6 ∧ o + n ≤ 32 ^ (d + 1) ∧ n ≤ N ∧ o + n ≤ 31 * 32 ^ 5 + N ∧ (5 ≤ d → 32 ^ (d - 1) ≤ o + N)
def head (rv : Value) (o n : Nat) : Obj := .cells #[rv, .int .i64 o, .int .i64 n] 106 (0, 0)
def IsList (m : Bool) (w : World) (b : Nat) (xs : List Int) (N : Nat) (F : Nat → Prop) : Prop :=
  ∃ rv d o Ft, w.heap[b]? = some (head rv o xs.length) ∧ Rep m w d rv (win o xs) Ft ∧ F b ∧ (∀ k, Ft k → F k ∧ (m = true → k ≠ b)) ∧ Dp d o xs.length N

theorem IsList.frame {M : Nat → Prop} {b : Nat} {xs : List Int} {N : Nat} (h : IsList m w b xs N F) (hf : Frm M w w') (hM : ∀ b, F b → ¬ M b) : IsList m w' b xs N F := by
  obtain ⟨rv, d, o, Ft, h1, h2, h3, h4, h5⟩ := h
  exact ⟨rv, d, o, Ft, hf.get h1 (hM _ h3), h2.frame hf fun k hk => hM k (h4 k hk).1, h3, h4, h5⟩
theorem IsList.more {b : Nat} {xs : List Int} {N : Nat} (h : IsList m w b xs N F) (hF : ∀ k, F k → F' k) : IsList m w b xs N F' := by
  obtain ⟨rv, d, o, Ft, h1, h2, h3, h4, h5⟩ := h
  exact ⟨rv, d, o, Ft, h1, h2, hF _ h3, fun k hk => ⟨hF _ (h4 k hk).1, (h4 k hk).2⟩, h5⟩
theorem pow_le {a b : Nat} (h : a ≤ b) : 32 ^ a ≤ 32 ^ b := Nat.pow_le_pow_right (by decide) h
theorem cast_pow (d : Nat) : ((32 ^ d : Nat) : Int) = 32 ^ d := by simp
theorem Dp.small {o n N : Nat} (h : Dp d o n N) (hN : N < 2 ^ 20) : o + n < 2 ^ 31 ∧ d ≤ 6 := by
  obtain ⟨h1, h2, h3, h4, h5⟩ := h
  exact ⟨by omega, h1⟩
theorem Dp.mod {o n N : Nat} (h : Dp d o n N) {k : Nat} (hk : k < o + n) : ((k : Int)) % 32 ^ (d + 1) = k := by
  obtain ⟨h1, h2, h3, h4, h5⟩ := h
  have : (k : Int) < 32 ^ (d + 1) := by
    have := cast_pow (d + 1)
    omega
  exact Int.emod_eq_of_lt (by omega) this

theorem len_ok {b : Nat} {xs : List Int} {N : Nat} (h : IsList m w b xs N F) (hK : K (.int .i64 xs.length) w) : Calls Try.prog 57 #[ptr b] w (ret K Kp) := by
  obtain ⟨rv, d, o, Ft, h1, h2, h3, h4, h5⟩ := h
  exact vc57_calls (by simpa [vc57, ptr, add_spot, h1, head] using hK)

theorem lget_ok {b : Nat} {xs : List Int} {N k : Nat} {x : Int} (h : IsList m w b xs N F) (hN : N < 2 ^ 19) (hx : xs[k]? = some x) (hK : K (.int .i64 x) w.drew) : Calls Try.prog 58 #[ptr b, .int .i64 k] w (ret K Kp) := by
  obtain ⟨rv, d, o, Ft, h1, h2, h3, h4, h5⟩ := h
  have hk : k < xs.length := (List.getElem?_eq_some_iff.1 hx).1
  obtain ⟨t, p, rfl⟩ := h2.iface
  have := h5.small (by omega)
  refine vc58_calls ?_
  simp [-getElem?_pos, -Array.getElem?_eq_getElem, List.getElem?_cons_zero, vc58, ptr, add_spot, h1, head, Br_dec]
  refine ⟨fun h => by omega, fun h => by omega, fun _ => ?_⟩
  rw [wrap_small _ rfl (by omega) (by omega)]
  refine get_ok (by omega) (h2.frame (Frm.drew (M := fun _ => False) w) (by simp)) ?_ hK
  rw [show (o : Int) + k = ((o + k : Nat) : Int) from by omega, h5.mod (by omega)]
  rw [win, if_pos (by omega)]
  rw [show (((o + k : Nat) : Int) - o).toNat = k from by omega]
  exact hx

def pan (s : String) : List PanicEntry := [{ v := .iface 9 (.string s.toUTF8), recovered := false }]
def panB (s : ByteArray) : List PanicEntry := [{ v := .iface 9 (.string s), recovered := false }]
theorem lget_out {b : Nat} {xs : List Int} {N : Nat} {i : Int} (h : IsList m w b xs N F) (hi : i < 0 ∨ (xs.length : Int) ≤ i) (hK : ∀ s, Kp (panB s) w) : Calls Try.prog 58 #[ptr b, .int .i64 i] w (ret K Kp) := by
  obtain ⟨rv, d, o, Ft, h1, h2, h3, h4, h5⟩ := h
  refine vc58_calls ?_
  simp [-getElem?_pos, -Array.getElem?_eq_getElem, List.getElem?_cons_zero, vc58, ptr, add_spot, h1, head, Br_dec]
  refine ⟨fun h => hK _, fun _ => ⟨fun h => hK _, fun _ => by omega⟩⟩

theorem clone_ok {b : Nat} {o n : Nat} (h : w.heap[b]? = some (head rv o n)) (hr : rv.oneCell' = true) (hK : K (ptr w.heap.size) (w.alloc (head rv o n))) : Calls Try.prog 66 #[ptr b] w (ret K Kp) := by
  refine vc66_calls ?_
  have hz : ow #[Value.nilIface, Value.int IntKind.i64 0, Value.int IntKind.i64 0] 0 [rv, Value.int IntKind.i64 o, Value.int IntKind.i64 n] = #[rv, Value.int IntKind.i64 o, Value.int IntKind.i64 n] := rfl
  simp [-getElem?_pos, -Array.getElem?_eq_getElem, List.getElem?_cons_zero, vc66, ptr, add_spot, h, head, hp_alloc_eq, alloc_upd, and_assoc, hr, hz]
  exact hK
theorem cap_ok {b : Nat} {o n : Nat} (h : w.heap[b]? = some (head rv o n)) (hr : Rep m w d rv g F) (hd : d ≤ 11) (hK : K (.int .i64 (32 ^ d)) w) : Calls Try.prog 67 #[ptr b] w (ret K Kp) := by
  refine vc67_calls ?_
  simp [-getElem?_pos, -Array.getElem?_eq_getElem, List.getElem?_cons_zero, vc67, ptr, add_spot, h, head]
  refine depth_ok hr ?_
  have : (2 : Int) ^ min (IntKind.u64.wrap ((d : Int) * 5)).toNat IntKind.i64.bits = 32 ^ d := pow_shift d (by omega)
  have h2 : (32 : Int) ^ d < 2 ^ 63 := by
    have := pow_le hd
    have h3 := cast_pow d
    have : 32 ^ d < 2 ^ 63 := Nat.lt_of_le_of_lt this (by decide)
    omega
  simp [this]
  rw [wrap_small _ rfl (Int.le_of_lt (pow_pos' d)) h2]
  exact hK
end Go.Proofs.Ytjlaclgikmmmlaa
