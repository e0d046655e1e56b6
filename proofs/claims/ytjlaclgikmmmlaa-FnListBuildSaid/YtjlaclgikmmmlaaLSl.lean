/- slices.Equal, Clone, Contains, Reverse. -/
import Derived.Test.YtjlaclgikmmmlaaLRun
set_option maxRecDepth 100000
set_option linter.unusedSimpArgs false
set_option linter.unusedVariables false
set_option maxHeartbeats 4000000
namespace Go.Proofs.Ytjlaclgikmmmlaa
open Go.Vc Go.Proofs
variable {w w' w0 : World} {F F' G : Nat → Prop} {K : Value → World → Prop} {Kp : KP}
theorem eq_step {xs ys : List Int} {i : Nat} (h1 : i < xs.length) (h2 : i < ys.length) (h : xs.take i = ys.take i) (he : xs[i] = ys[i]) : xs.take (i + 1) = ys.take (i + 1) := by
  rw [List.take_succ_eq_append_getElem h1, List.take_succ_eq_append_getElem h2, h, he]
/-- Only draws have passed. -/
def Dr (w w' : World) : Prop := w'.heap = w.heap ∧ w'.os = w.os ∧ w'.tape = w.tape ∧ w'.output = w.output
theorem Dr.frm (h : Dr w w') {M : Nat → Prop} : Frm M w w' := ⟨h.2.1, h.2.2.1, h.2.2.2, by rw [h.1]; exact Nat.le_refl _, fun k _ _ => by rw [h.1]⟩

theorem equal_ok {u v : Value} {xs ys : List Int} (hu : IsInts w u xs) (hv : IsInts w v ys) (hx : xs.length < 2 ^ 31) (hK : ∀ w', Dr w w' → K (.bool (decide (xs = ys))) w') : Calls Try.prog 11 #[u, v] w (ret K Kp) := by
  refine vc11_calls ?_
  obtain ⟨a, c, rfl, hc, hr, ha⟩ := hu
  obtain ⟨a', c', rfl, hc', hr', ha'⟩ := hv
  simp [-getElem?_pos, -Array.getElem?_eq_getElem, List.getElem?_cons_zero, vc11]
  refine ⟨fun hne => ?_, fun heq => ?_⟩
  · have : ¬ xs = ys := fun h => by rw [h] at hne; simp at hne
    have h2 := hK w ⟨rfl, rfl, rfl, rfl⟩
    rw [decide_eq_false this] at h2
    exact h2
  have heq : xs.length = ys.length := by omega
  obtain ⟨I, hI⟩ : ∃ I : Value → World → Prop, ∀ v w', I v w' ↔ ∃ (i : Nat), v = .int .i64 i ∧ i ≤ xs.length ∧ Dr w w' ∧ xs.take i = ys.take i := ⟨_, fun _ _ => Iff.rfl⟩
  obtain ⟨μ, hμ⟩ : ∃ μ : Value → World → Nat, ∀ (j : Nat) w, μ (.int .i64 j) w = xs.length - j := ⟨fun v _ => xs.length - (match v with | .int _ j => j.toNat | _ => 0), fun _ _ => rfl⟩
  refine Lp.intro I μ ⟨(hI _ _).2 ⟨0, rfl, by omega, ⟨rfl, rfl, rfl, rfl⟩, rfl⟩, ?_⟩
  intro wl v hIl
  obtain ⟨i, rfl, hi, hd, ht⟩ := (hI _ _).1 hIl
  simp only [op_lss, Br_dec]
  refine ⟨fun hlt => ?_, fun hnl => ?_⟩
  · have hi1 : i < xs.length := by omega
    have hi2 : i < ys.length := by omega
    obtain ⟨b, o, cs, e, fz, rfl, h1, h2⟩ := (hr.frame (hd.frm (M := fun _ => False)) (by simp)).get (j := i) (by simpa [i64s] using hi1)
    obtain ⟨b', o', cs', e', fz', rfl, h1', h2'⟩ := (hr'.frame (hd.frm (M := fun _ => False)) (by simp)).get (j := i) (by simpa [i64s] using hi2)
    have g1 : (i64s xs)[i]'(by simpa [i64s] using hi1) = .int .i64 xs[i] := by simp [i64s]
    have g2 : (i64s ys)[i]'(by simpa [i64s] using hi2) = .int .i64 ys[i] := by simp [i64s]
    rw [g1] at h2
    rw [g2] at h2'
    obtain ⟨fa, fb⟩ := fz
    obtain ⟨fa', fb'⟩ := fz'
    have hdd : Dr w wl.drew := ⟨hd.1, hd.2.1, hd.2.2.1, hd.2.2.2⟩
    simp [-getElem?_pos, -Array.getElem?_eq_getElem, List.getElem?_cons_zero, add_spot, h1, h2, h1', h2', Br_dec, hi1, hi2]
    refine ⟨fun hne => ?_, fun he => ?_⟩
    · have : ¬ xs = ys := fun h => by subst h; exact hne rfl
      have h3 := hK wl.drew hdd
      rw [decide_eq_false this] at h3
      exact h3
    · rw [wrap_small _ rfl (by omega) (by omega)]
      refine ⟨(hI _ _).2 ⟨i + 1, rfl, by omega, hdd, eq_step hi1 hi2 ht he⟩, ?_⟩
      have e : (i : Int) + 1 = ((i + 1 : Nat) : Int) := rfl
      rw [e, hμ, hμ]; omega
  · have : i = xs.length := by omega
    subst this
    rw [List.take_length, heq, List.take_length] at ht
    have h3 := hK wl hd
    rw [decide_eq_true ht] at h3
    exact h3

theorem sclone_ok {u : Value} {xs : List Int} (hu : IsInts w u xs) (hx : xs.length < 2 ^ 31) (hK : ∀ v w', (∀ {M}, Frm M w w') → w'.ownsRow w.heap.size 2 1 v xs.length (i64s xs) → K v w') : Calls Try.prog 49 #[u] w (ret K Kp) := by
  refine vc49_calls ?_
  obtain ⟨a, c, rfl, hc, hr, ha⟩ := hu
  simp [-getElem?_pos, -Array.getElem?_eq_getElem, List.getElem?_cons_zero, vc49]
  refine ⟨fun he => ?_, fun hne => ?_⟩
  · have : xs = [] := ha (by simpa using he)
    subst this
    exact hK _ _ Frm.refl own_nil
  · have hown : (w.alloc (.cells #[] 2)).ownsRow w.heap.size 2 1 (.slice (some ⟨w.heap.size, 0, none⟩) 0 0) 0 [] := ⟨rfl, .inr ⟨_, 0, #[], rfl, Nat.le_refl _, hp_alloc_new, Nat.le_refl _, by decide, rfl, rfl⟩⟩
    refine op_append (base := w.heap.size) (size := 1) (n := 0) (m := xs.length) (xs := []) (news := i64s xs) ap22 hown (hr.frame (Frm.alloc (M := fun _ => False) _ _) (by simp)) (by simp [i64s]) (by simp [i64s]) (fun h => by rw [ha h]; rfl) (by omega) (by simp) fun l4 w4 hl4 hf4 hbl4 => ?_
    exact hK _ _ (fun {M} => (Frm.alloc (M := M) w (.cells #[] 2)).trans hf4 fun k hk hlt => by have := Option.some.inj hk; simp only at this; omega) (by simpa using hl4)

/-- A slice of truth values. -/
def IsBools (w : World) (u : Value) (ps : List Bool) : Prop := ∃ a c, u = .slice a ps.length c ∧ Row w a (bools ps)
theorem own_bools {base n : Nat} {v : Value} {ps : List Bool} (h : w.ownsRow base 4 1 v n (bools ps)) : IsBools w v ps := by
  have hn : ps.length = n := by have := h.1; simpa [bools] using this
  subst hn
  obtain ⟨a, c, rfl, hc, hr, ha, _⟩ := own_slice h
  exact ⟨a, c, rfl, hr⟩
theorem IsBools.frame {M : Nat → Prop} {u : Value} {ps : List Bool} (h : IsBools w u ps) (hf : Frm M w w') (hM : ∀ b, u.ownBlock = some b → ¬ M b) : IsBools w' u ps := by
  obtain ⟨a, c, rfl, hr⟩ := h
  exact ⟨a, c, rfl, hr.frame hf fun p hp => hM _ (by subst hp; rfl)⟩
theorem eq_stepB {xs ys : List Bool} {i : Nat} (h1 : i < xs.length) (h2 : i < ys.length) (h : xs.take i = ys.take i) (he : xs[i] = ys[i]) : xs.take (i + 1) = ys.take (i + 1) := by
  rw [List.take_succ_eq_append_getElem h1, List.take_succ_eq_append_getElem h2, h, he]

theorem equalB_ok {u v : Value} {xs ys : List Bool} (hu : IsBools w u xs) (hv : IsBools w v ys) (hx : xs.length < 2 ^ 31) (hK : ∀ w', Dr w w' → K (.bool (decide (xs = ys))) w') : Calls Try.prog 16 #[u, v] w (ret K Kp) := by
  refine vc16_calls ?_
  obtain ⟨a, c, rfl, hr⟩ := hu
  obtain ⟨a', c', rfl, hr'⟩ := hv
  simp [-getElem?_pos, -Array.getElem?_eq_getElem, List.getElem?_cons_zero, vc16]
  refine ⟨fun hne => ?_, fun heq => ?_⟩
  · have : ¬ xs = ys := fun h => by rw [h] at hne; simp at hne
    have h2 := hK w ⟨rfl, rfl, rfl, rfl⟩
    rw [decide_eq_false this] at h2
    exact h2
  have heq : xs.length = ys.length := by omega
  obtain ⟨I, hI⟩ : ∃ I : Value → World → Prop, ∀ v w', I v w' ↔ ∃ (i : Nat), v = .int .i64 i ∧ i ≤ xs.length ∧ Dr w w' ∧ xs.take i = ys.take i := ⟨_, fun _ _ => Iff.rfl⟩
  obtain ⟨μ, hμ⟩ : ∃ μ : Value → World → Nat, ∀ (j : Nat) w, μ (.int .i64 j) w = xs.length - j := ⟨fun v _ => xs.length - (match v with | .int _ j => j.toNat | _ => 0), fun _ _ => rfl⟩
  refine Lp.intro I μ ⟨(hI _ _).2 ⟨0, rfl, by omega, ⟨rfl, rfl, rfl, rfl⟩, rfl⟩, ?_⟩
  intro wl v hIl
  obtain ⟨i, rfl, hi, hd, ht⟩ := (hI _ _).1 hIl
  simp only [op_lss, Br_dec]
  refine ⟨fun hlt => ?_, fun hnl => ?_⟩
  · have hi1 : i < xs.length := by omega
    have hi2 : i < ys.length := by omega
    obtain ⟨b, o, cs, e, fz, rfl, h1, h2⟩ := (hr.frame (hd.frm (M := fun _ => False)) (by simp)).get (j := i) (by simpa [bools] using hi1)
    obtain ⟨b', o', cs', e', fz', rfl, h1', h2'⟩ := (hr'.frame (hd.frm (M := fun _ => False)) (by simp)).get (j := i) (by simpa [bools] using hi2)
    have g1 : (bools xs)[i]'(by simpa [bools] using hi1) = .bool xs[i] := by simp [bools]
    have g2 : (bools ys)[i]'(by simpa [bools] using hi2) = .bool ys[i] := by simp [bools]
    rw [g1] at h2
    rw [g2] at h2'
    obtain ⟨fa, fb⟩ := fz
    obtain ⟨fa', fb'⟩ := fz'
    have hdd : Dr w wl.drew := ⟨hd.1, hd.2.1, hd.2.2.1, hd.2.2.2⟩
    simp [-getElem?_pos, -Array.getElem?_eq_getElem, List.getElem?_cons_zero, add_spot, h1, h2, h1', h2', Br_dec, hi1, hi2]
    refine ⟨fun hne => ?_, fun he => ?_⟩
    · have : ¬ xs = ys := fun h => by subst h; simp at hne
      have h3 := hK wl.drew hdd
      rw [decide_eq_false this] at h3
      exact h3
    · rw [wrap_small _ rfl (by omega) (by omega)]
      refine ⟨(hI _ _).2 ⟨i + 1, rfl, by omega, hdd, eq_stepB hi1 hi2 ht (by simpa using he)⟩, ?_⟩
      have e : (i : Int) + 1 = ((i + 1 : Nat) : Int) := rfl
      rw [e, hμ, hμ]; omega
  · have : i = xs.length := by omega
    subst this
    rw [List.take_length, heq, List.take_length] at ht
    have h3 := hK wl hd
    rw [decide_eq_true ht] at h3
    exact h3

theorem contains_ok {u : Value} {ps : List Bool} (hu : IsBools w u ps) (hx : ps.length < 2 ^ 31) (hK : ∀ w', Dr w w' → K (.bool (decide (true ∈ ps))) w') : Calls Try.prog 22 #[u, .bool true] w (ret K Kp) := by
  refine vc22_calls ?_
  obtain ⟨a, c, rfl, hr⟩ := hu
  simp only [vc22, call_48]
  refine vc48_calls ?_
  simp [-getElem?_pos, -Array.getElem?_eq_getElem, List.getElem?_cons_zero, vc48]
  obtain ⟨I, hI⟩ : ∃ I : Value → World → Prop, ∀ v w', I v w' ↔ ∃ (i : Nat), v = .int .i64 i ∧ i ≤ ps.length ∧ Dr w w' ∧ ¬ true ∈ ps.take i := ⟨_, fun _ _ => Iff.rfl⟩
  obtain ⟨μ, hμ⟩ : ∃ μ : Value → World → Nat, ∀ (j : Nat) w, μ (.int .i64 j) w = ps.length - j := ⟨fun v _ => ps.length - (match v with | .int _ j => j.toNat | _ => 0), fun _ _ => rfl⟩
  refine Lp.intro I μ ⟨(hI _ _).2 ⟨0, rfl, by omega, ⟨rfl, rfl, rfl, rfl⟩, by simp⟩, ?_⟩
  intro wl v hIl
  obtain ⟨i, rfl, hi, hd, ht⟩ := (hI _ _).1 hIl
  simp only [op_lss, Br_dec]
  refine ⟨fun hlt => ?_, fun hnl => ?_⟩
  · have hi1 : i < ps.length := by omega
    obtain ⟨b, o, cs, e, fz, rfl, h1, h2⟩ := (hr.frame (hd.frm (M := fun _ => False)) (by simp)).get (j := i) (by simpa [bools] using hi1)
    have g1 : (bools ps)[i]'(by simpa [bools] using hi1) = .bool ps[i] := by simp [bools]
    rw [g1] at h2
    obtain ⟨fa, fb⟩ := fz
    simp [-getElem?_pos, -Array.getElem?_eq_getElem, List.getElem?_cons_zero, add_spot, h1, h2, Br_dec, hi1]
    refine ⟨fun hne => ?_, fun he => ?_⟩
    · have : true ∈ ps := by rw [List.mem_iff_getElem]; exact ⟨i, hi1, by simpa using hne⟩
      have h3 := hK wl hd
      rw [decide_eq_true this] at h3
      have : decide ((0 : Int) ≤ i) = true := by simp
      simpa using h3
    · rw [wrap_small _ rfl (by omega) (by omega)]
      refine ⟨(hI _ _).2 ⟨i + 1, rfl, by omega, hd, ?_⟩, ?_⟩
      · rw [List.take_succ_eq_append_getElem hi1]
        simp only [List.mem_append, List.mem_singleton, not_or]
        exact ⟨ht, fun h => by simp [← h] at he⟩
      · have e : (i : Int) + 1 = ((i + 1 : Nat) : Int) := rfl
        rw [e, hμ, hμ]; omega
  · have : i = ps.length := by omega
    subst this
    rw [List.take_length] at ht
    have h3 := hK wl hd
    rw [decide_eq_false ht] at h3
    simpa using h3
end Go.Proofs.Ytjlaclgikmmmlaa
