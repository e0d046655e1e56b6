/- The nodes of a list in the heap; what their methods do: depth, get. -/
import Derived.Test.YtjlaclgikmmmlaaVcApp
import Derived.Test.YtjlaclgikmmmlaaLVc
set_option maxRecDepth 100000
set_option linter.unusedSimpArgs false
set_option linter.unusedVariables false
namespace Go.Proofs.Ytjlaclgikmmmlaa
open Go.Vc Go.Proofs

/-! ### reckoning with slots -/
theorem wrap_small {k : IntKind} (x : Int) (hk : k = .i64) (h0 : 0 ≤ x) (h1 : x < 2 ^ 63) : k.wrap x = x := by
  subst hk; rw [IntKind.wrap_i64]; omega
theorem and31 (x : Int) : bitsV .and .i64 x 31 = x % 32 := by
  have h : (BitVec.ofInt 64 x &&& BitVec.ofInt 64 31).toNat = (x % 2 ^ 64).toNat % 32 := by
    rw [BitVec.toNat_and, BitVec.toNat_ofInt, BitVec.toNat_ofInt]
    exact Nat.and_two_pow_sub_one_eq_mod _ 5
  show IntKind.i64.wrap ((BitVec.ofInt 64 x &&& BitVec.ofInt 64 31).toNat : Int) = _
  rw [h, wrap_small _ rfl] <;> omega
@[simp] theorem u64_nonneg (x : Int) : 0 ≤ IntKind.u64.wrap x := by rw [IntKind.wrap_u64]; omega
/-- The place in its node, of depth d, of an index. -/
def slot (d : Nat) (i : Int) : Nat := (i / 32 ^ d % 32).toNat
theorem slot_lt (d : Nat) (i : Int) : slot d i < 32 := by unfold slot; omega
theorem pow_shift (d : Nat) (hd : d ≤ 12) : (2 : Int) ^ (min ((IntKind.u64.wrap ((d : Int) * 5)).toNat) 64) = 32 ^ d := by
  have h : (IntKind.u64.wrap ((d : Int) * 5)).toNat = 5 * d := by rw [IntKind.wrap_u64]; omega
  rw [h, Nat.min_eq_left (by omega), Int.pow_mul]; rfl
theorem slot_eq {d : Nat} (hd : d ≤ 12) (i : Int) : bitsV .and .i64 (i.fdiv (2 ^ (min ((IntKind.u64.wrap ((d : Int) * 5)).toNat) IntKind.i64.bits))) 31 = (slot d i : Int) := by
  show bitsV .and .i64 (i.fdiv (2 ^ (min ((IntKind.u64.wrap ((d : Int) * 5)).toNat) 64))) 31 = (slot d i : Int)
  rw [pow_shift d hd, and31, Int.fdiv_eq_ediv_of_nonneg _ (Int.le_of_lt (Int.pow_pos (by decide))), slot]
  omega
theorem slot_zero (i : Int) : (slot 0 i : Int) = i % 32 := by simp [slot]; omega
theorem pow_pos' (d : Nat) : (0 : Int) < 32 ^ d := Int.pow_pos (by decide)
/-- An index within a node is one within its child. -/
theorem mod_split (d : Nat) (i : Int) : i % 32 ^ (d + 1) = (slot d i : Int) * 32 ^ d + i % 32 ^ d := by
  have hp := pow_pos' d
  have h1 : (slot d i : Int) = i / 32 ^ d % 32 := by unfold slot; omega
  rw [h1, Int.pow_succ]
  have e1 := Int.emod_def i (32 ^ d * 32)
  have e2 := Int.emod_def i (32 ^ d)
  have e3 := Int.emod_def (i / 32 ^ d) 32
  have e4 : i / (32 ^ d * 32) = i / 32 ^ d / 32 := (Int.ediv_ediv_of_nonneg (Int.le_of_lt hp)).symm
  rw [e1, e2, e3, e4, Int.sub_mul, Int.mul_comm (32 ^ d) (i / 32 ^ d), Int.mul_comm (32 ^ d) 32, Int.mul_assoc, Int.mul_assoc, Int.mul_comm (32 ^ d) (i / 32 ^ d / 32), ]
  omega

/-! ### nodes in the heap -/
def Leaf (cs : Array Value) (g : Int → Option Int) : Prop :=
  cs.size = 33 ∧ (∃ o : Int, cs[32]? = some (.int .u32 o) ∧ 0 ≤ o ∧ o < 4294967296) ∧ ∀ j : Nat, j < 32 → ∃ x, cs[j]? = some (.int .i64 x) ∧ ∀ y, g j = some y → y = x
def Node (d : Nat) (cs : Array Value) (vs : Nat → Value) : Prop :=
  cs.size = 33 ∧ cs[0]? = some (.int .u64 d) ∧ ∀ i, i < 32 → cs[i + 1]? = some (vs i)
def ptr (b : Nat) : Value := .pointer (some ⟨b, 0, none⟩)
/-- What is in child i. -/
def sub (d i : Nat) (g : Int → Option Int) : Int → Option Int := fun p => g ((i : Int) * 32 ^ d + p)
/-- A node of depth d that is v tells at least g; its blocks lie in F, each in one place alone where m. -/
def Rep (m : Bool) (w : World) : Nat → Value → (Int → Option Int) → (Nat → Prop) → Prop
  | 0, v, g, F => ∃ b cs, v = .iface 104 (ptr b) ∧ F b ∧ w.heap[b]? = some (.cells cs 103 (0, 0)) ∧ Leaf cs g
  | d + 1, v, g, F => ∃ (b : Nat) (cs : Array Value) (vs : Nat → Value) (Fs : Nat → Nat → Prop), v = .iface 115 (ptr b) ∧ F b ∧ w.heap[b]? = some (.cells cs 118 (0, 0)) ∧ Node (d + 1) cs vs ∧
      (∀ i, i < 32 → (vs i = .nilIface ∧ ∀ p, 0 ≤ p → p < 32 ^ (d + 1) → sub (d + 1) i g p = none) ∨ Rep m w d (vs i) (sub (d + 1) i g) (Fs i)) ∧
      (∀ i, i < 32 → ∀ b', Fs i b' → F b' ∧ (m = true → b' ≠ b ∧ ∀ k, k < 32 → k ≠ i → ¬ Fs k b'))

variable {m : Bool} {w w' : World} {d : Nat} {v : Value} {g g' : Int → Option Int} {F F' : Nat → Prop}
theorem Rep.size_of (h : Rep m w d v g F) (hF : ∀ b, F b → F' b) : Rep m w d v g F' := by
  cases d with
  | zero => obtain ⟨b, cs, h1, h2, h3⟩ := h; exact ⟨b, cs, h1, hF _ h2, h3⟩
  | succ d =>
    obtain ⟨b, cs, vs, Fs, h1, h2, h3, h4, h5, h6⟩ := h
    exact ⟨b, cs, vs, Fs, h1, hF _ h2, h3, h4, h5, fun i hi b' hb => ⟨hF _ (h6 i hi b' hb).1, (h6 i hi b' hb).2⟩⟩
/-- Less is told, and blocks of the node stay. -/
theorem Rep.mono : ∀ {d : Nat} {v : Value} {g g' : Int → Option Int} {F : Nat → Prop}, Rep m w d v g F → (∀ p y, 0 ≤ p → p < 32 ^ (d + 1) → g' p = some y → g p = some y) →
    (∀ b o, F b → w.heap[b]? = some o → w'.heap[b]? = some o) → Rep m w' d v g' F
  | 0, v, g, g', F, h, hg, hw => by
    obtain ⟨b, cs, h1, h2, h3, h4, h5, h6⟩ := h
    refine ⟨b, cs, h1, h2, hw _ _ h2 h3, h4, h5, fun j hj => ?_⟩
    obtain ⟨x, hx, hy⟩ := h6 j hj
    exact ⟨x, hx, fun y e => hy y (hg _ _ (by omega) (by simp; omega) e)⟩
  | d + 1, v, g, g', F, h, hg, hw => by
    obtain ⟨b, cs, vs, Fs, h1, h2, h3, h4, h5, h6⟩ := h
    have hsub : ∀ i, i < 32 → ∀ p y, 0 ≤ p → p < 32 ^ (d + 1) → sub (d + 1) i g' p = some y → sub (d + 1) i g p = some y := fun i hi p y h0 hp e => by
      have hq := pow_pos' (d + 1)
      refine hg _ _ (by have := Int.mul_nonneg (Int.natCast_nonneg i) (Int.le_of_lt hq); omega) ?_ e
      have : ((i : Int) + 1) * 32 ^ (d + 1) ≤ 32 * 32 ^ (d + 1) := Int.mul_le_mul_of_nonneg_right (by omega) (Int.le_of_lt hq)
      rw [Int.add_mul] at this
      rw [Int.pow_succ 32 (d + 1)]
      omega
    refine ⟨b, cs, vs, Fs, h1, h2, hw _ _ h2 h3, h4, fun i hi => ?_, h6⟩
    rcases h5 i hi with ⟨hn, hp⟩ | hr
    · refine .inl ⟨hn, fun p h0 h1 => ?_⟩
      cases e : sub (d + 1) i g' p with
      | none => rfl
      | some y => rw [← hp p h0 h1, hsub i hi p y h0 h1 e]
    · exact .inr (Rep.mono hr (hsub i hi) fun b' o hb => hw b' o (h6 i hi b' hb).1)
theorem Rep.frame {M : Nat → Prop} (h : Rep m w d v g F) (hf : Frm M w w') (hM : ∀ b, F b → ¬ M b) : Rep m w' d v g F :=
  h.mono (fun _ _ _ _ e => e) fun b o hb ho => hf.get ho (hM b hb)
theorem Rep.lt : ∀ {d : Nat} {v : Value} {g : Int → Option Int} {F : Nat → Prop}, Rep m w d v g F → Rep m w d v g (fun b => F b ∧ b < w.heap.size)
  | 0, v, g, F, h => by
    obtain ⟨b, cs, h1, h2, h3, h4⟩ := h
    exact ⟨b, cs, h1, ⟨h2, lt_of_get h3⟩, h3, h4⟩
  | d + 1, v, g, F, h => by
    obtain ⟨b, cs, vs, Fs, h1, h2, h3, h4, h5, h6⟩ := h
    refine ⟨b, cs, vs, fun i b => Fs i b ∧ b < w.heap.size, h1, ⟨h2, lt_of_get h3⟩, h3, h4, fun i hi => ?_, fun i hi b' hb => ⟨⟨(h6 i hi b' hb.1).1, hb.2⟩, fun hm => ?_⟩⟩
    · exact (h5 i hi).imp id Rep.lt
    · obtain ⟨ha, hb⟩ := (h6 i hi b' hb.1).2 hm
      exact ⟨ha, fun k hk hne hc => hb k hk hne hc.1⟩

theorem Rep.iface (h : Rep m w d v g F) : ∃ t p, v = .iface t p := by
  cases d with
  | zero => obtain ⟨b, cs, h1, h2⟩ := h; exact ⟨_, _, h1⟩
  | succ d => obtain ⟨b, cs, vs, Fs, h1, h2⟩ := h; exact ⟨_, _, h1⟩

/-! ### depth and get -/
variable {K : Value → World → Prop} {Kp : KP}
theorem depth_ok (h : Rep m w d v g F) (hK : K (.int .u64 d) w) : (nice Try.prog).call (.inv v "pub-bracken/pub/immutable.depth") [] w K Kp := by
  cases d with
  | zero =>
    obtain ⟨b, cs, rfl, h2, h3, h4⟩ := h
    simp only [inv_104_87]
    exact vc87_calls (by simpa [vc87] using hK)
  | succ d =>
    obtain ⟨b, cs, vs, Fs, rfl, h2, h3, h4, h5, h6⟩ := h
    simp only [inv_115_97]
    exact vc97_calls (by simpa [vc97, ptr, add_spot, h3, h4.2.1] using hK)

theorem get_ok : ∀ {d : Nat} {v : Value} {g : Int → Option Int} {F : Nat → Prop} {i x : Int}, d ≤ 11 → Rep m w d v g F → g (i % 32 ^ (d + 1)) = some x → K (.int .i64 x) w →
    (nice Try.prog).call (.inv v "pub-bracken/pub/immutable.get") [.int .i64 i] w K Kp
  | 0, v, g, F, i, x, hd, h, hg, hK => by
    obtain ⟨b, cs, rfl, h2, h3, h4, h5, h6⟩ := h
    obtain ⟨y, hy, hx⟩ := h6 (slot 0 i) (slot_lt _ _)
    have e := hx x (by rw [slot_zero]; simpa using hg)
    subst e
    simp only [inv_104_88]
    refine vc88_calls ?_
    have hs := slot_lt 0 i
    simp [vc88, ptr, add_spot, h3, and31, ← slot_zero, hy, hK]
    omega
  | d + 1, v, g, F, i, x, hd, h, hg, hK => by
    obtain ⟨b, cs, vs, Fs, rfl, h2, h3, ⟨h4, h5, h6⟩, h7, h8⟩ := h
    have hs := slot_lt (d + 1) i
    rw [mod_split] at hg
    simp only [inv_115_98]
    refine vc98_calls ?_
    have hsl := slot_eq (d := d + 1) (by omega) i
    simp only [Int.natCast_add, Int.natCast_one] at hsl
    rcases h7 _ hs with ⟨hn, hp⟩ | hr
    · have := hp (i % 32 ^ (d + 1)) (Int.emod_nonneg _ (Int.ne_of_gt (pow_pos' _))) (Int.emod_lt_of_pos _ (pow_pos' _))
      rw [sub] at this
      rw [this] at hg; cases hg
    · have := get_ok (i := i) (x := x) (by omega) hr (by rw [sub]; exact hg) hK
      simp [vc98, ptr, add_spot, h3, h5, hsl, h6 _ hs, Nat.add_comm 1]
      exact ⟨by omega, this⟩
end Go.Proofs.Ytjlaclgikmmmlaa
