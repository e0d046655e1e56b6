/- Whether a node has elements ahead of, or behind, an index: any answer will do. -/
import Derived.Test.YtjlaclgikmmmlaaLTree
set_option maxRecDepth 100000
set_option linter.unusedSimpArgs false
set_option linter.unusedVariables false
namespace Go.Proofs.Ytjlaclgikmmmlaa
open Go.Vc Go.Proofs

/-- The table of math/bits is there. -/
def Gl (w : World) : Prop := ∃ cs e fz, w.heap[0]? = some (.cells cs e fz) ∧ ∀ j : Nat, j < 32 → ∃ x, cs[j]? = some (.int .u8 x)
variable {m : Bool} {w w' : World} {d : Nat} {v : Value} {g g' : Int → Option Int} {F F' : Nat → Prop} {K : Value → World → Prop} {Kp : KP}
theorem Gl.frame {M : Nat → Prop} (h : Gl w) (hf : Frm M w w') (hM : ¬ M 0) : Gl w' := by
  obtain ⟨cs, e, fz, h0, hj⟩ := h
  exact ⟨cs, e, fz, hf.get h0 hM, hj⟩

theorem tz_ok {o : Int} (hG : Gl w) (h0 : 0 ≤ o) (h1 : o < 4294967296) (hK : ∀ x, K (.int .i64 x) w) : Calls Try.prog 91 #[.int .u32 o] w (ret K Kp) := by
  obtain ⟨cs, e, fz, hb, hj⟩ := hG
  refine vc91_calls ?_
  simp only [vc91, op_eql, Br_dec]
  refine ⟨fun _ => hK _, fun _ => ?_⟩
  simp only [op_neg, op_and, op_mul, op_shr]
  generalize bitsV .and .u32 o (IntKind.u32.wrap (0 - o)) * 125613361 = y
  have hy : 0 ≤ (IntKind.u32.wrap y).fdiv (2 ^ min (27 : Int).toNat IntKind.u32.bits) ∧ (IntKind.u32.wrap y).fdiv (2 ^ min (27 : Int).toNat IntKind.u32.bits) < 32 := by
    rw [Int.fdiv_eq_ediv_of_nonneg _ (by decide), IntKind.wrap_u32]
    have : (2 : Int) ^ min (27 : Int).toNat IntKind.u32.bits = 134217728 := by decide
    rw [this]; omega
  generalize (IntKind.u32.wrap y).fdiv (2 ^ min (27 : Int).toNat IntKind.u32.bits) = z at hy ⊢
  obtain ⟨x, hx⟩ := hj z.toNat (by omega)
  simp [hb, add_spot, hx, hK]
  omega

theorem len32_ok {o : Int} (h0 : 0 ≤ o) (h1 : o < 4294967296) (hK : ∀ x, K (.int .i64 x) w) : Calls Try.prog 92 #[.int .u32 o] w (ret K Kp) := by
  refine vc92_calls ?_
  delta vc92
  generalize hs : (ByteArray.mk _) = s
  have hz : s.size = 256 := by rw [← hs]; rfl
  clear hs
  simp only [op_geq, op_shr, op_add, op_conv_101_5, op_conv_5_3, op_index_9, Br_dec, hK, and_true, hz]
  have e16 : (2 : Int) ^ min (16 : Int).toNat IntKind.u32.bits = 65536 := by decide
  have e8 : (2 : Int) ^ min (8 : Int).toNat IntKind.u32.bits = 256 := by decide
  rw [e16, e8, Int.fdiv_eq_ediv_of_nonneg _ (by decide), Int.fdiv_eq_ediv_of_nonneg _ (by decide), Int.fdiv_eq_ediv_of_nonneg _ (by decide)]
  simp only [IntKind.wrap_u8]
  omega
variable {i : Int}
theorem contB_leaf {b : Nat} {cs : Array Value} (hG : Gl w) (hb : w.heap[b]? = some (.cells cs 103 (0, 0))) (hl : Leaf cs g) (hK : ∀ c, K (.bool c) w) :
    Calls Try.prog 84 #[ptr b, .int .i64 i] w (ret K Kp) := by
  obtain ⟨h4, ⟨o, h5, h6, h7⟩, _⟩ := hl
  refine vc84_calls ?_
  simp only [ptr, vc84, op_and, op_nil_ptr, op_fa_103_1, add_spot, op_ld_101, hb, Option.some.injEq, Obj.cells.injEq, and_assoc, exists_and_left, exists_eq_left', Nat.zero_add, h5, call_91]
  simp [hb, h5]
  exact tz_ok hG h6 h7 fun x => by simp [hK]
theorem contA_leaf {b : Nat} {cs : Array Value} (hb : w.heap[b]? = some (.cells cs 103 (0, 0))) (hl : Leaf cs g) (hK : ∀ c, K (.bool c) w) :
    Calls Try.prog 83 #[ptr b, .int .i64 i] w (ret K Kp) := by
  obtain ⟨h4, ⟨o, h5, h6, h7⟩, _⟩ := hl
  refine vc83_calls ?_
  simp [vc83, ptr, add_spot, hb, h5]
  refine vc90_calls ?_
  simp [vc90]
  exact len32_ok h6 h7 fun x => by simp [hK]

theorem contB_ok : ∀ {d : Nat} {v : Value} {g : Int → Option Int} {F : Nat → Prop} {K : Value → World → Prop} {Kp : KP}, d ≤ 11 → Gl w → Rep m w d v g F → (∀ c, K (.bool c) w) →
    (nice Try.prog).call (.inv v "pub-bracken/pub/immutable.containsBefore") [.int .i64 i] w K Kp
  | 0, v, g, F, K, Kp, hd, hG, h, hK => by
    obtain ⟨b, cs, rfl, h2, h3, h4⟩ := h
    rw [inv_104_84]
    exact contB_leaf hG h3 h4 hK
  | d + 1, v, g, F, K, Kp, hd, hG, h, hK => by
    obtain ⟨b, cs, vs, Fs, rfl, h2, h3, ⟨h4, h5, h6⟩, h7, h8⟩ := h
    have hs := slot_lt (d + 1) i
    have hsl := slot_eq (d := d + 1) (by omega) i
    simp only [Int.natCast_add, Int.natCast_one] at hsl
    rw [inv_115_94]
    refine vc94_calls ?_
    simp [vc94, ptr, add_spot, h3, h5, hsl]
    refine Lp.intro (fun v w' => w = w' ∧ ∃ j : Nat, v = .int .i64 j ∧ j ≤ 32) (fun v _ => 32 - (match v with | .int _ j => j.toNat | _ => 0)) ⟨⟨rfl, 0, rfl, by omega⟩, ?_⟩
    rintro wl s ⟨rfl, j, rfl, hj⟩
    simp only [op_lss, Br_dec]
    refine ⟨fun hlt => ?_, fun _ => ?_⟩
    · have hj' : j < 32 := by omega
      rcases h7 j hj' with ⟨hn, _⟩ | hr
      · simp [ptr, add_spot, h3, h6 _ hj', Nat.add_comm 1, hn]
        rw [IntKind.wrap_i64]
        exact ⟨by omega, ⟨j + 1, by omega, by omega⟩, by omega⟩
      · obtain ⟨t, p, he⟩ := hr.iface
        simp [ptr, add_spot, h3, h6 _ hj', Nat.add_comm 1, he, hK]
        omega
    · rcases h7 _ hs with ⟨hn, _⟩ | hr
      · simp [ptr, add_spot, h3, h6 _ hs, Nat.add_comm 1, hn, hK]
        omega
      · obtain ⟨t, p, he⟩ := hr.iface
        have := contB_ok (K := fun v w => Br v (K (Value.bool true) w) (K (Value.bool false) w)) (Kp := Kp) (by omega) hG hr (by simp [hK])
        simp [ptr, add_spot, h3, h6 _ hs, Nat.add_comm 1, he]
        rw [he] at this
        exact ⟨by omega, this⟩
theorem contA_ok : ∀ {d : Nat} {v : Value} {g : Int → Option Int} {F : Nat → Prop} {K : Value → World → Prop} {Kp : KP}, d ≤ 11 → Rep m w d v g F → (∀ c, K (.bool c) w) →
    (nice Try.prog).call (.inv v "pub-bracken/pub/immutable.containsAfter") [.int .i64 i] w K Kp
  | 0, v, g, F, K, Kp, hd, h, hK => by
    obtain ⟨b, cs, rfl, h2, h3, h4⟩ := h
    rw [inv_104_83]
    exact contA_leaf h3 h4 hK
  | d + 1, v, g, F, K, Kp, hd, h, hK => by
    obtain ⟨b, cs, vs, Fs, rfl, h2, h3, ⟨h4, h5, h6⟩, h7, h8⟩ := h
    have hs := slot_lt (d + 1) i
    have hsl := slot_eq (d := d + 1) (by omega) i
    simp only [Int.natCast_add, Int.natCast_one] at hsl
    rw [inv_115_93]
    refine vc93_calls ?_
    simp [vc93, ptr, add_spot, h3, h5, hsl]
    refine Lp.intro (fun v w' => w = w' ∧ ∃ j : Nat, v = .int .i64 j ∧ j ≤ 32) (fun v _ => 32 - (match v with | .int _ j => j.toNat | _ => 0)) ⟨⟨rfl, slot (d + 1) i + 1, by rw [wrap_small _ rfl (by omega) (by omega)]; simp, by omega⟩, ?_⟩
    rintro wl s ⟨rfl, j, rfl, hj⟩
    simp only [op_lss, Br_dec]
    refine ⟨fun hlt => ?_, fun _ => ?_⟩
    · have hj' : j < 32 := by omega
      rcases h7 j hj' with ⟨hn, _⟩ | hr
      · simp [ptr, add_spot, h3, h6 _ hj', Nat.add_comm 1, hn]
        rw [IntKind.wrap_i64]
        exact ⟨by omega, ⟨j + 1, by omega, by omega⟩, by omega⟩
      · obtain ⟨t, p, he⟩ := hr.iface
        simp [ptr, add_spot, h3, h6 _ hj', Nat.add_comm 1, he, hK]
        omega
    · rcases h7 _ hs with ⟨hn, _⟩ | hr
      · simp [ptr, add_spot, h3, h6 _ hs, Nat.add_comm 1, hn, hK]
        omega
      · obtain ⟨t, p, he⟩ := hr.iface
        have := contA_ok (K := fun v w => Br v (K (Value.bool true) w) (K (Value.bool false) w)) (Kp := Kp) (by omega) hr (by simp [hK])
        simp [ptr, add_spot, h3, h6 _ hs, Nat.add_comm 1, he]
        rw [he] at this
        exact ⟨by omega, this⟩
end Go.Proofs.Ytjlaclgikmmmlaa
