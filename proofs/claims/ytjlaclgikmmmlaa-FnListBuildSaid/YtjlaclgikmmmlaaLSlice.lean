/- slice. -/
import Derived.Test.YtjlaclgikmmmlaaLNew
set_option maxRecDepth 100000
set_option linter.unusedSimpArgs false
set_option linter.unusedVariables false
set_option maxHeartbeats 2000000
namespace Go.Proofs.Ytjlaclgikmmmlaa
open Go.Vc Go.Proofs
variable {m : Bool} {w w' w0 : World} {d : Nat} {v rv : Value} {g g' : Int → Option Int} {F F' : Nat → Prop} {K : Value → World → Prop} {Kp : KP}

theorem lslice_out {b : Nat} {xs : List Int} {N : Nat} {s e : Int} (h : IsList m w b xs N F) (hi : ¬ (0 ≤ s ∧ s ≤ e ∧ e ≤ (xs.length : Int))) (hK : ∀ s, Kp (panB s) w) : Calls Try.prog 65 #[ptr b, .int .i64 s, .int .i64 e, .bool m] w (ret K Kp) := by
  obtain ⟨rv, d, o, Ft, h1, h2, h3, h4, h5⟩ := h
  refine vc65_calls (Jn.intro (fun _ => False) ⟨?_, fun _ _ h => h.elim⟩)
  simp [-getElem?_pos, -Array.getElem?_eq_getElem, List.getElem?_cons_zero, ptr, add_spot, h1, head, Br_dec]
  refine ⟨fun _ => hK _, fun _ => ⟨fun _ => hK _, fun _ => ⟨fun _ => hK _, fun _ => ⟨fun _ => hK _, fun _ => ⟨fun _ => hK _, by omega⟩⟩⟩⟩⟩

theorem wrap_in {x : Int} (h0 : -9223372036854775808 ≤ x) (h1 : x < 9223372036854775808) : IntKind.i64.wrap x = x := by rw [IntKind.wrap_i64]; omega
/-- The part of a list. -/
def cut (xs : List Int) (s e : Nat) : List Int := (xs.take e).drop s
theorem cut_length {xs : List Int} {s e : Nat} (h : s ≤ e) (he : e ≤ xs.length) : (cut xs s e).length = e - s := by simp [cut]; omega
theorem cut_get {xs : List Int} {s e k : Nat} (hk : k < e - s) : (cut xs s e)[k]? = xs[s + k]? := by
  rw [cut, List.getElem?_drop, List.getElem?_take, if_pos (by omega)]
theorem win_cut {xs : List Int} {s e o o' β : Nat} {p y : Int} (hs : s ≤ e) (he : e ≤ xs.length) (ho : o' + β = o + s) (h : win o' (cut xs s e) p = some y) : win o xs (p + β) = some y := by
  unfold win at h ⊢
  by_cases hp : (o' : Int) ≤ p
  · rw [if_pos hp] at h
    have hl := (List.getElem?_eq_some_iff.1 h).1
    rw [cut_length hs he] at hl
    rw [cut_get hl] at h
    rw [if_pos (by omega), show (p + β - (o : Int)).toNat = s + (p - (o' : Int)).toNat from by omega]
    exact h
  · rw [if_neg hp] at h; cases h
theorem slot_small {o d : Nat} (h : o < 32 ^ (d + 1)) : slot d o = o / 32 ^ d := by
  have hp : 0 < 32 ^ d := Nat.pow_pos (by decide)
  have h2 : o / 32 ^ d < 32 := by
    rw [Nat.div_lt_iff_lt_mul hp, Nat.mul_comm]
    rw [Nat.pow_succ] at h; exact h
  have h3 : ((o : Int) / 32 ^ d) = ((o / 32 ^ d : Nat) : Int) := by rw [← cast_pow]; simp
  unfold slot
  rw [h3]
  generalize o / 32 ^ d = q at *
  omega

/-- A child that has all of what is left becomes the root. -/
theorem Dp.down {d o n N : Nat} (h : Dp (d + 1) o n N) (hN : N < 2 ^ 19) (hd : 1 ≤ d) (hs : slot (d + 1) (o : Int) = slot (d + 1) ((o : Int) + n - 1)) :
    slot (d + 1) o * 32 ^ (d + 1) ≤ o ∧ Dp d (o - slot (d + 1) o * 32 ^ (d + 1)) n N ∧ (n = 0 → slot (d + 1) o * 32 ^ (d + 1) < o) ∧ o < slot (d + 1) o * 32 ^ (d + 1) + 32 ^ (d + 1) := by
  obtain ⟨h1, h2, h3, h4, h5⟩ := h
  have hp : 0 < 32 ^ (d + 1) := Nat.pow_pos (by decide)
  have hpp : 32 ^ (d + 1 + 1) = 32 ^ (d + 1) * 32 := Nat.pow_succ ..
  have key : ∃ q, slot (d + 1) (o : Int) = q ∧ q * 32 ^ (d + 1) ≤ o ∧ o + n ≤ q * 32 ^ (d + 1) + 32 ^ (d + 1) ∧ (n = 0 → q * 32 ^ (d + 1) < o) ∧ q = o / 32 ^ (d + 1) := by
    have hdiv : ∀ u : Nat, u / 32 ^ (d + 1) * 32 ^ (d + 1) ≤ u ∧ u < u / 32 ^ (d + 1) * 32 ^ (d + 1) + 32 ^ (d + 1) := fun u => ⟨Nat.div_mul_le_self u _, Nat.lt_div_mul_add hp⟩
    by_cases hn : n = 0
    · subst hn
      by_cases ho : o = 0
      · subst ho
        have e1 : slot (d + 1) ((0 : Nat) : Int) = 0 := by rw [slot_small (by omega)]; simp
        have e2 : slot (d + 1) (((0 : Nat) : Int) + ((0 : Nat) : Int) - 1) = 31 := by
          unfold slot
          have : (((0 : Nat) : Int) + ((0 : Nat) : Int) - 1) / 32 ^ (d + 1) = -1 := by
            have hP := pow_pos' (d + 1)
            rw [show (((0 : Nat) : Int) + ((0 : Nat) : Int) - 1) = -1 from rfl]
            exact Int.ediv_eq_neg_one_of_neg_of_le (by omega) (by omega)
          rw [this]; rfl
        rw [e1, e2] at hs; cases hs
      · rw [show ((o : Int) + ((0 : Nat) : Int) - 1) = ((o - 1 : Nat) : Int) from by omega, slot_small (o := o - 1) (by omega)] at hs
        have h7 := hdiv (o - 1)
        have h8 := hdiv o
        by_cases he : o = 32 ^ (d + 1 + 1)
        · have e1 : slot (d + 1) (o : Int) = 0 := by
            unfold slot
            have : (o : Int) / 32 ^ (d + 1) = 32 := by
              rw [he, hpp, ← cast_pow]
              have := Nat.mul_div_cancel_left 32 hp
              omega
            rw [this]; rfl
          rw [e1] at hs
          rw [← hs] at h7
          omega
        · rw [slot_small (by omega)] at hs
          refine ⟨_, slot_small (by omega), h8.1, by omega, fun _ => ?_, rfl⟩
          rw [hs]; omega
    · rw [show ((o : Int) + n - 1) = ((o + n - 1 : Nat) : Int) from by omega, slot_small (o := o + n - 1) (by omega), slot_small (by omega)] at hs
      have h7 := hdiv (o + n - 1)
      have h8 := hdiv o
      refine ⟨_, slot_small (by omega), h8.1, ?_, fun h => absurd h hn, rfl⟩
      rw [hs]; omega
  obtain ⟨q, hq, hq1, hq2, hq3, hq4⟩ := key
  rw [hq]
  refine ⟨hq1, ⟨by omega, by omega, h3, by omega, fun h => ?_⟩, hq3, by rw [hq4]; exact Nat.lt_div_mul_add hp⟩
  have hd5 : d = 5 := by omega
  subst hd5
  have := h5 (by omega)
  have : q = 0 := by rw [hq4]; exact Nat.div_eq_of_lt (by omega)
  subst this
  omega

def depthOf (w : World) : Value → Nat
  | .iface 115 (.pointer (some p)) => match w.heap[p.block]? with
    | some (.cells cs _ _) => match cs[0]? with
      | some (Value.int _ n) => n.toNat
      | _ => 0
    | _ => 0
  | _ => 0
def depthAt (w : World) (bo : Nat) : Nat := match w.heap[bo]? with
  | some (.cells cs _ _) => match cs[0]? with
    | some v => depthOf w v
    | _ => 0
  | _ => 0
theorem Rep.depthOf (h : Rep m w d v g F) : depthOf w v = d := by
  cases d with
  | zero => obtain ⟨b, cs, rfl, _⟩ := h; rfl
  | succ d =>
    obtain ⟨b, cs, vs, Fs, rfl, h2, h3, h4, h5⟩ := h
    simp [Ytjlaclgikmmmlaa.depthOf, ptr, h3, h4.2.1, -getElem?_pos, -Array.getElem?_eq_getElem]
theorem Work.depthAt {bo o n : Nat} {Ft : Nat → Prop} (h : Work m w0 F bo w rv d o n g Ft) : depthAt w bo = d := by
  simp [Ytjlaclgikmmmlaa.depthAt, h.2.1, Ytjlaclgikmmmlaa.head, h.2.2.2.1.depthOf]

theorem Work.child {bo o n i : Nat} {Ft : Nat → Prop} (h : Work m w0 F bo w rv (d + 1) o n g Ft) (hi : i < 32) :
    ∃ rb cs vs, rv = .iface 115 (ptr rb) ∧ w.heap[rb]? = some (.cells cs 118 (0, 0)) ∧ rb ≠ bo ∧ Node (d + 1) cs vs ∧
      ((∀ p, 0 ≤ p → p < 32 ^ (d + 1) → sub (d + 1) i g p = none) ∨ (vs i).oneCell' = true ∧ ∀ o' n', ∃ Fi, Work m w0 F bo (w.upd bo (Ytjlaclgikmmmlaa.head (vs i) o' n')) (vs i) d o' n' (sub (d + 1) i g) Fi) := by
  obtain ⟨h1, h2, h3, ⟨rb, cs, vs, Fs, rfl, hFt, hb, hn, h7, h8⟩, h5⟩ := h
  refine ⟨rb, cs, vs, rfl, hb, (h5 _ hFt).2.1, hn, ?_⟩
  rcases h7 i hi with ⟨_, hp⟩ | hr
  · exact .inl hp
  · refine .inr ⟨hr.one, fun o' n' => ⟨Fs i, h1.trans (Frm.upd (M := fun b => b = bo) _ _ fun _ => rfl) fun b h hb => ?_, heap_upd_same h2, h3, hr.mono (fun _ _ _ _ e => e) fun b ob hb ho => ?_, fun k hk => ?_⟩⟩
    · subst h; rcases h3 with h | h
      · exact h
      · omega
    · rw [heap_upd_ne (show bo ≠ b from fun e => (h5 b (h8 i hi b hb).1).2.1 e.symm)]; exact ho
    · have := h5 k (h8 i hi k hk).1
      exact ⟨this.1, this.2.1, by simpa using this.2.2⟩

theorem IsList.work {b : Nat} {xs : List Int} {N : Nat} (h : IsList m w b xs N F) : ∃ rv d o Ft, Dp d o xs.length N ∧ w.heap[b]? = some (Ytjlaclgikmmmlaa.head rv o xs.length) ∧ rv.oneCell' = true ∧
    (m = true → Work m w F b w rv d o xs.length (win o xs) Ft) ∧ (m = false → Work m w F w.heap.size (w.alloc (Ytjlaclgikmmmlaa.head rv o xs.length)) rv d o xs.length (win o xs) Ft) := by
  cases m with
  | true =>
    obtain ⟨rv, d, o, Ft, hd, hW⟩ := h.work_same
    exact ⟨rv, d, o, Ft, hd, hW.2.1, hW.2.2.2.1.one, fun _ => hW, fun h => nomatch h⟩
  | false =>
    obtain ⟨rv, d, o, Ft, hd, hb, hr, hW⟩ := h.work_new
    exact ⟨rv, d, o, Ft, hd, hb, hr.one, (fun h => nomatch h), fun _ => hW⟩

theorem lslice_ok {b : Nat} {xs : List Int} {N s e : Nat} (h : IsList m w b xs N F) (hN : N < 2 ^ 19) (hG : Gl w) (hF0 : m = true → ¬ F 0) (hs : s ≤ e) (he : e ≤ xs.length)
    (hK : ∀ b' w' F', Frm (fun k => m = true ∧ F k) w w' → IsList m w' b' (cut xs s e) N F' → (∀ k, F' k → F k ∨ w.heap.size ≤ k) → (m = true → b' = b) → K (ptr b') w') :
    Calls Try.prog 65 #[ptr b, .int .i64 s, .int .i64 e, .bool m] w (ret K Kp) := by
  obtain ⟨rv0, d0, o, Ft0, hd0, hb0, hr0, hW1, hW2⟩ := h.work
  have hsm0 := hd0.small (by omega)
  refine vc65_calls ?_
  refine Jn.intro (fun w' => w' = w) ⟨?_, ?_⟩
  · simp [-getElem?_pos, -Array.getElem?_eq_getElem, List.getElem?_cons_zero, ptr, add_spot, hb0, head, Br_dec]
    omega
  rintro w' _ rfl
  refine Jn.intro (fun w'' => w'' = w' ∧ ¬ (s = 0 ∧ e = xs.length)) ⟨?_, ?_⟩
  · simp [-getElem?_pos, -Array.getElem?_eq_getElem, List.getElem?_cons_zero, ptr, add_spot, hb0, head, Br_dec]
    refine ⟨fun hs0 => ⟨fun hel => ?_, fun hel _ hc => hel (by rw [hc])⟩, fun hs0 h => absurd h hs0⟩
    refine hK b w' F Frm.refl ?_ (fun _ h => .inl h) fun _ => rfl
    have hel' : e = xs.length := by omega
    have : cut xs s e = xs := by subst hs0; subst hel'; simp [cut]
    rw [this]; exact h
  rintro w'' _ ⟨rfl, hne⟩
  refine Jn.intro (fun v w' => ∃ bo rv d Ft, v = ptr bo ∧ (m = true → bo = b) ∧ Dp d o xs.length N ∧ Work m w'' F bo w' rv d o xs.length (win o xs) Ft ∧ w'.heap[b]? = some (head rv o xs.length)) ⟨?_, ?_⟩
  · simp only [op_not]
    refine ⟨!m, rfl, fun hm => ?_, fun hm => ?_⟩
    · have hm : m = false := by simpa using hm
      rw [call_66]
      exact clone_ok hb0 hr0 ⟨_, rv0, d0, Ft0, rfl, (fun h => by rw [hm] at h; cases h), hd0, hW2 hm, hp_alloc_lt hb0⟩
    · have hm : m = true := by simpa using hm
      exact ⟨_, rv0, d0, Ft0, rfl, fun _ => rfl, hd0, hW1 hm, hb0⟩
  rintro w1 _ j ⟨bo, rv, d, Ft, rfl, hbo, hd, hW, hb⟩
  have hsm := hd.small (by omega)
  have hh := hW.2.1
  have hu := fun o => heap_upd_same (o := o) hh
  have hWh := (hW.head o (e - s)).head (o + s) (e - s)
  have hws : IntKind.i64.wrap ((o : Int) + s) = ((o + s : Nat) : Int) := by rw [wrap_small _ rfl (by omega) (by omega)]; omega
  have hwe : IntKind.i64.wrap ((e : Int) - s) = ((e - s : Nat) : Int) := by rw [wrap_small _ rfl (by omega) (by omega)]; omega
  simp [-getElem?_pos, -Array.getElem?_eq_getElem, List.getElem?_cons_zero, ptr, add_spot, hh, hb, head, hws, hwe, and_assoc, hu, upd_upd]
  obtain ⟨I, hI⟩ : ∃ I : World → Prop, ∀ w', I w' ↔ ∃ rv d o' β Ft, Dp d o' (e - s) N ∧ o' + β = o + s ∧ Work m w'' F bo w' rv d o' (e - s) (fun p => win o xs (p + β)) Ft := ⟨_, fun _ => Iff.rfl⟩
  obtain ⟨μ, hμ⟩ : ∃ μ : World → Nat, ∀ {w' rv d o' n g Ft}, Work m w'' F bo w' rv d o' n g Ft → μ w' = d := ⟨fun w => depthAt w bo, fun h => h.depthAt⟩
  refine Jn.intro I ⟨?_, ?_⟩
  · have hdS : Dp d (o + s) (e - s) N := by
      obtain ⟨h1, h2, h3, h4, h5⟩ := hd
      exact ⟨h1, by omega, by omega, by omega, fun h => by have := h5 h; omega⟩
    simp only [upd_upd, head, Int.natCast_add] at hWh
    refine Lp.intro I μ ⟨(hI _).2 ⟨rv, d, o + s, 0, Ft, hdS, by omega, hWh.told fun p y _ _ e => by simpa using e⟩, ?_⟩
    intro wl hIl
    obtain ⟨rv, d, o', β, Ft, hd, hβ, hW⟩ := (hI _).1 hIl
    have hsm := hd.small (by omega)
    have hh := hW.2.1
    simp [-getElem?_pos, -Array.getElem?_eq_getElem, List.getElem?_cons_zero, hh, head]
    refine depth_ok hW.2.2.2.1 ?_
    simp [-getElem?_pos, -Array.getElem?_eq_getElem, List.getElem?_cons_zero, hh, head, Br_dec]
    refine ⟨fun hd1 => ?_, fun _ => hIl⟩
    refine depth_ok hW.drew.2.2.2.1 ?_
    simp [-getElem?_pos, -Array.getElem?_eq_getElem, List.getElem?_cons_zero, hh, head, Br_dec]
    refine depth_ok hW.drew.drew.2.2.2.1 ?_
    have hsl := slot_eq (d := d) (by omega)
    simp [-getElem?_pos, -Array.getElem?_eq_getElem, List.getElem?_cons_zero, hh, head, Br_dec, hsl]
    refine ⟨fun _ => (hI _).2 ⟨rv, d, o', β, Ft, hd, hβ, hW.drew.drew⟩, fun heq => ?_⟩
    refine depth_ok hW.drew.drew.drew.2.2.2.1 ?_
    obtain ⟨d, rfl⟩ : ∃ d', d = d' + 1 := ⟨d - 1, by omega⟩
    have hslt := slot_lt (d + 1) (o' : Int)
    have hin : slot (d + 1) (o' : Int) = slot (d + 1) ((o' : Int) + ((e - s : Nat) : Int) - 1) := by
      have e1 : IntKind.i64.wrap (IntKind.i64.wrap ((o' : Int) + ((e - s : Nat) : Int)) - 1) = (o' : Int) + ((e - s : Nat) : Int) - 1 := by
        rw [wrap_in (x := (o' : Int) + ((e - s : Nat) : Int)) (by omega) (by omega), wrap_in (by omega) (by omega)]
      rw [e1] at heq
      exact_mod_cast heq
    obtain ⟨hq1, hq2, hq3, hq4⟩ := hd.down hN (by omega) hin
    obtain ⟨rb, cs, vs, rfl, hrb, hrbo, hnode, hch⟩ := hW.drew.drew.drew.child hslt
    have hpow := pow_shift (d + 1) (by omega)
    simp only [Int.natCast_add, Int.natCast_one] at hpow
    have hb64 : IntKind.i64.bits = 64 := rfl
    rcases hch with hnil | ⟨hone, hch⟩
    · exfalso
      have hc1 : (((slot (d + 1) (o' : Int) * 32 ^ (d + 1) : Nat)) : Int) = (slot (d + 1) (o' : Int) : Int) * 32 ^ (d + 1) := by simp
      have hc2 := cast_pow (d + 1)
      generalize slot (d + 1) (o' : Int) = i at *
      have hk : ∃ q k : Nat, k < xs.length ∧ i * 32 ^ (d + 1) ≤ q ∧ q < i * 32 ^ (d + 1) + 32 ^ (d + 1) ∧ q + β = o + k := by
        by_cases hsl : s < xs.length
        · exact ⟨o', s, hsl, hq1, hq4, hβ⟩
        · exact ⟨o' - 1, s - 1, by omega, by omega, by omega, by omega⟩
      obtain ⟨q, k, hk, hk1, hk2, hk3⟩ := hk
      have := hnil ((q : Int) - ((i * 32 ^ (d + 1) : Nat) : Int)) (by omega) (by omega)
      simp only [sub] at this
      rw [← hc1, win, if_pos (by omega), List.getElem?_eq_none_iff] at this
      omega
    · have hc1 : (((slot (d + 1) (o' : Int) * 32 ^ (d + 1) : Nat)) : Int) = (slot (d + 1) (o' : Int) : Int) * 32 ^ (d + 1) := by simp
      have hw1 : IntKind.i64.wrap ((slot (d + 1) (o' : Int) : Int) * 32 ^ (d + 1)) = ((slot (d + 1) (o' : Int) * 32 ^ (d + 1) : Nat) : Int) := by rw [← hc1]; exact wrap_in (by omega) (by omega)
      have hw2 : IntKind.i64.wrap ((o' : Int) - ((slot (d + 1) (o' : Int) * 32 ^ (d + 1) : Nat) : Int)) = ((o' - slot (d + 1) (o' : Int) * 32 ^ (d + 1) : Nat) : Int) := by rw [wrap_in (by omega) (by omega)]; omega
      generalize slot (d + 1) (o' : Int) = i at *
      have hu := fun o => heap_upd_same (w := wl.drew.drew.drew) (o := o) hh
      have hrb1 : wl.heap[rb]? = some (.cells cs 118 (0, 0)) := hrb
      have hne1 : bo ≠ rb := fun h => hrbo h.symm
      obtain ⟨Fi, hWc⟩ := hch (o' - i * 32 ^ (d + 1)) (e - s)
      simp only [head] at hWc
      simp [-getElem?_pos, -Array.getElem?_eq_getElem, List.getElem?_cons_zero, hh, head, Br_dec, hb64, hpow, hw1, hw2, and_assoc, hu, ptr, add_spot, heap_upd_ne, hne1, hrb1, hnode.2.2 i hslt, Nat.add_comm 1, hone, upd_upd]
      rw [show (i : Int) * 32 ^ (d + 1) = ((i * 32 ^ (d + 1) : Nat) : Int) from hc1.symm, hw2]
      refine ⟨by omega, (hI _).2 ⟨vs i, d, o' - i * 32 ^ (d + 1), β + i * 32 ^ (d + 1), Fi, hq2, by omega, hWc.told fun p y _ _ e => ?_⟩, by rw [hμ hWc, hμ hW]; omega⟩
      rw [← e]
      simp only [sub]
      rw [← hc1]
      congr 1
      omega
  · intro w2 hI2
    obtain ⟨rv, d, o', β, Ft, hd, hβ, hW⟩ := (hI _).1 hI2
    have hsm := hd.small (by omega)
    have hlen := cut_length hs he
    have hWc : Work m w'' F bo w2 rv d o' (e - s) (win o' (cut xs s e)) Ft := hW.told fun p y _ _ e => win_cut hs he hβ e
    have hh := hW.2.1
    obtain ⟨t, p, hrv⟩ := hW.2.2.2.1.iface
    simp [-getElem?_pos, -Array.getElem?_eq_getElem, List.getElem?_cons_zero, hh, head, hrv]
    rw [← hrv]
    have hGd : ∀ {w3 : World}, Frm (fun k => m = true ∧ F k) w'' w3 → Gl w3 := fun hf => hG.frame hf fun h => hF0 h.1 h.2
    have h0 : 0 < w''.heap.size := by obtain ⟨cs, e, fz, h, _⟩ := hG; exact lt_of_get h
    refine delB_ok (by omega) (hGd hWc.drew.1) (fun hm h => ?_) hWc.drew.2.2.2.1 fun v' w' F' hf hr hF => ?_
    · rcases (hWc.2.2.2.2 _ h).1 with h | h
      · exact hF0 hm h
      · omega
    obtain ⟨ha, hb, hW'⟩ := hWc.drew.call hf hr hF
    obtain ⟨t', p', hv'⟩ := hr.iface
    have hu := fun o => heap_upd_same (o := o) ha
    simp only [head] at ha
    simp [-getElem?_pos, -Array.getElem?_eq_getElem, List.getElem?_cons_zero, ha, and_assoc, hu, hv']
    rw [← hv']
    have hw1 : IntKind.i64.wrap (IntKind.i64.wrap ((o' : Int) + ((e - s : Nat) : Int)) - 1) = (o' : Int) + ((e - s : Nat) : Int) - 1 := by
      rw [wrap_in (x := (o' : Int) + ((e - s : Nat) : Int)) (by omega) (by omega), wrap_in (by omega) (by omega)]
    rw [hw1]
    have hW2 := hW'.drew
    refine delA_ok (by omega) hW2.2.2.2.1 fun v2 w3 F2 hf2 hr2 hF2 => ?_
    obtain ⟨ha2, hb2, hW3⟩ := hW2.call hf2 hr2 hF2
    simp only [head] at ha2
    simp [-getElem?_pos, -Array.getElem?_eq_getElem, List.getElem?_cons_zero, ha2, and_assoc, hb2]
    have hW4 := hW3.told (g' := win o' (cut xs s e)) fun p y h0 h1 hy => ?_
    · rw [← hlen] at hW4 hd
      obtain ⟨h1, h2, h3⟩ := hW4.list hd
      rw [hlen] at h1 h2
      exact hK bo _ _ h1 h2 h3 hbo
    · have hp : (o' : Int) ≤ p ∧ p < ((o' + (e - s) : Nat) : Int) := by
        apply Decidable.byContradiction
        intro hc
        rw [win_none (by omega)] at hy
        cases hy
      have hm1 := hd.mod (k := o') (by omega)
      have hm2 := hd.mod (k := o' + (e - s) - 1) (by omega)
      rw [show (o' : Int) + ((e - s : Nat) : Int) - 1 = ((o' + (e - s) - 1 : Nat) : Int) from by omega, hm2, uptoG, if_pos (by omega), hm1, fromG, if_pos (by omega)]
      exact hy
end Go.Proofs.Ytjlaclgikmmmlaa
