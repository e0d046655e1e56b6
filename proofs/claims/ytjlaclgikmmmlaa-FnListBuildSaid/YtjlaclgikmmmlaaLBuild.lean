/- The builder of lists: its methods, a step. -/
import Derived.Test.YtjlaclgikmmmlaaLMove
set_option maxRecDepth 100000
set_option linter.unusedSimpArgs false
set_option linter.unusedVariables false
set_option maxHeartbeats 8000000
namespace Go.Proofs.Ytjlaclgikmmmlaa
open Go.Vc Go.Proofs
variable {m : Bool} {w w' w0 : World} {F F' G Av Av' : Nat → Prop} {K : Value → World → Prop} {Kp : KP} {base : Nat}

/-- A builder that has xs; its blocks lie from base on, apart from Av. -/
def Bld (base : Nat) (Av : Nat → Prop) (w : World) (bB : Nat) (xs : List Int) (N : Nat) : Prop :=
  ∃ b F, w.heap[bB]? = some (.cells #[ptr b] 108 (0, 0)) ∧ IsList true w b xs N F ∧ base ≤ bB ∧ ¬ Av bB ∧ ∀ k, F k → base ≤ k ∧ k < w.heap.size ∧ k ≠ bB ∧ ¬ Av k
/-- What a builder may turn. -/
def Chg (base : Nat) (Av : Nat → Prop) : Nat → Prop := fun k => base ≤ k ∧ ¬ Av k
theorem Bld.frame {M : Nat → Prop} {bB N : Nat} {xs : List Int} (h : Bld base Av w bB xs N) (hf : Frm M w w') (hM : ∀ k, M k → k < base ∨ Av k) (hA : ∀ k, Av' k → Av k ∨ w.heap.size ≤ k) : Bld base Av' w' bB xs N := by
  obtain ⟨b, F, h1, h2, h3, h4, h5⟩ := h
  have hs := hf.size
  have hlt := lt_of_get h1
  refine ⟨b, F, hf.get h1 fun e => ?_, h2.frame hf fun k hk e => ?_, h3, fun e => ?_, fun k hk => ⟨(h5 k hk).1, by have := (h5 k hk).2.1; omega, (h5 k hk).2.2.1, fun e => ?_⟩⟩
  · rcases hM _ e with h | h
    · omega
    · exact h4 h
  · rcases hM _ e with h | h
    · have := (h5 k hk).1; omega
    · exact (h5 k hk).2.2.2 h
  · rcases hA _ e with h | h
    · exact h4 h
    · omega
  · rcases hA _ e with h | h
    · exact (h5 k hk).2.2.2 h
    · have := (h5 k hk).2.1; omega

/-- Behind a call on the builder's list. -/
theorem Bld.put {bB b' N' : Nat} {F F' : Nat → Prop} {ys : List Int} {w1 : World} {b : Nat} (h1 : w.heap[bB]? = some (.cells #[ptr b] 108 (0, 0))) (h3 : base ≤ bB) (h4 : ¬ Av bB) (h5 : ∀ k, F k → base ≤ k ∧ k < w.heap.size ∧ k ≠ bB ∧ ¬ Av k)
    (hAv : ∀ k, Av k → k < w.heap.size) (hf : Frm (fun k => true = true ∧ F k) w w1) (hl : IsList true w1 b' ys N' F') (hF : ∀ k, F' k → F k ∨ w.heap.size ≤ k)
    (hK : ∀ w', Frm (Chg base Av) w w' → Bld base Av w' bB ys N' → K (.tuple #[]) w') :
    w1.heap[bB]? = some (.cells #[ptr b] 108 (0, 0)) ∧ K (.tuple #[]) (w1.upd bB (.cells #[ptr b'] 108 (0, 0))) := by
  have hlt := lt_of_get h1
  have hg := hf.get h1 fun e => (h5 _ e.2).2.2.1 rfl
  have hfu : Frm (fun k => k = bB) w1 (w1.upd bB (.cells #[ptr b'] 108 (0, 0))) := Frm.upd _ _ fun _ => rfl
  refine ⟨hg, hK _ ?_ ⟨b', fun k => F' k ∧ k < w1.heap.size, heap_upd_same hg, ?_, h3, h4, fun k hk => ?_⟩⟩
  · refine (hf.mono fun k hk _ => ⟨(h5 k hk.2).1, (h5 k hk.2).2.2.2⟩).trans hfu fun k hk _ => ?_
    subst hk; exact ⟨h3, h4⟩
  · exact hl.lt.frame hfu fun k hk e => by
      subst e
      rcases hF _ hk.1 with h | h
      · exact (h5 _ h).2.2.1 rfl
      · omega
  · refine ⟨?_, by simpa using hk.2, ?_, ?_⟩
    · rcases hF _ hk.1 with h | h
      · exact (h5 _ h).1
      · omega
    · rcases hF _ hk.1 with h | h
      · exact (h5 _ h).2.2.1
      · omega
    · rcases hF _ hk.1 with h | h
      · exact (h5 _ h).2.2.2
      · exact fun e => by have := hAv _ e; omega

theorem badd_ok {bB N : Nat} {xs : List Int} {x : Int} (h : Bld base Av w bB xs N) (hAv : ∀ k, Av k → k < w.heap.size) (hN : N < 2 ^ 19)
    (hK : ∀ w', Frm (Chg base Av) w w' → Bld base Av w' bB (xs ++ [x]) (N + 1) → K (.tuple #[]) w') : Calls Try.prog 38 #[ptr bB, .int .i64 x] w (ret K Kp) := by
  obtain ⟨b, F, h1, h2, h3, h4, h5⟩ := h
  refine vc38_calls ?_
  simp only [ptr] at h1
  simp [-getElem?_pos, -Array.getElem?_eq_getElem, List.getElem?_cons_zero, vc38, ptr, add_spot, h1]
  refine vc61_calls ?_
  simp [-getElem?_pos, -Array.getElem?_eq_getElem, List.getElem?_cons_zero, vc61, add_spot, h1]
  refine append_ok h2 hN fun b' w1 F' hf hl hF hb => ?_
  obtain ⟨g1, g2⟩ := Bld.put (Av := Av) h1 h3 h4 h5 hAv hf hl hF hK
  simp only [ptr] at g1 g2
  simp [-getElem?_pos, -Array.getElem?_eq_getElem, List.getElem?_cons_zero, ptr, add_spot, g1, and_assoc]
  exact g2
theorem bpre_ok {bB N : Nat} {xs : List Int} {x : Int} (h : Bld base Av w bB xs N) (hAv : ∀ k, Av k → k < w.heap.size) (hN : N < 2 ^ 19)
    (hK : ∀ w', Frm (Chg base Av) w w' → Bld base Av w' bB (x :: xs) (N + 1) → K (.tuple #[]) w') : Calls Try.prog 40 #[ptr bB, .int .i64 x] w (ret K Kp) := by
  obtain ⟨b, F, h1, h2, h3, h4, h5⟩ := h
  refine vc40_calls ?_
  simp only [ptr] at h1
  simp [-getElem?_pos, -Array.getElem?_eq_getElem, List.getElem?_cons_zero, vc40, ptr, add_spot, h1]
  refine vc61_calls ?_
  simp [-getElem?_pos, -Array.getElem?_eq_getElem, List.getElem?_cons_zero, vc61, add_spot, h1]
  refine prepend_ok h2 hN fun b' w1 F' hf hl hF hb => ?_
  obtain ⟨g1, g2⟩ := Bld.put (Av := Av) h1 h3 h4 h5 hAv hf hl hF hK
  simp only [ptr] at g1 g2
  simp [-getElem?_pos, -Array.getElem?_eq_getElem, List.getElem?_cons_zero, ptr, add_spot, g1, and_assoc]
  exact g2
theorem bset_ok {bB N k : Nat} {xs : List Int} {x : Int} (h : Bld base Av w bB xs N) (hAv : ∀ k, Av k → k < w.heap.size) (hN : N < 2 ^ 19) (hk : k < xs.length)
    (hK : ∀ w', Frm (Chg base Av) w w' → Bld base Av w' bB (xs.set k x) N → K (.tuple #[]) w') : Calls Try.prog 41 #[ptr bB, .int .i64 k, .int .i64 x] w (ret K Kp) := by
  obtain ⟨b, F, h1, h2, h3, h4, h5⟩ := h
  refine vc41_calls ?_
  simp only [ptr] at h1
  simp [-getElem?_pos, -Array.getElem?_eq_getElem, List.getElem?_cons_zero, vc41, ptr, add_spot, h1]
  refine vc61_calls ?_
  simp [-getElem?_pos, -Array.getElem?_eq_getElem, List.getElem?_cons_zero, vc61, add_spot, h1]
  refine lset_ok h2 hN hk fun b' w1 F' hf hl hF hb => ?_
  obtain ⟨g1, g2⟩ := Bld.put (Av := Av) h1 h3 h4 h5 hAv hf hl hF hK
  simp only [ptr] at g1 g2
  simp [-getElem?_pos, -Array.getElem?_eq_getElem, List.getElem?_cons_zero, ptr, add_spot, g1, and_assoc]
  exact g2
theorem bset_out {bB N : Nat} {xs : List Int} {i x : Int} (h : Bld base Av w bB xs N) (hi : i < 0 ∨ (xs.length : Int) ≤ i) (hK : ∀ s, Kp (panB s) w) : Calls Try.prog 41 #[ptr bB, .int .i64 i, .int .i64 x] w (ret K Kp) := by
  obtain ⟨b, F, h1, h2, h3, h4, h5⟩ := h
  refine vc41_calls ?_
  simp only [ptr] at h1
  simp [-getElem?_pos, -Array.getElem?_eq_getElem, List.getElem?_cons_zero, vc41, ptr, add_spot, h1]
  refine vc61_calls ?_
  simp [-getElem?_pos, -Array.getElem?_eq_getElem, List.getElem?_cons_zero, vc61, add_spot, h1]
  exact lset_out h2 hi hK
theorem bcut_ok {bB N s e : Nat} {xs : List Int} (h : Bld base Av w bB xs N) (hAv : ∀ k, Av k → k < w.heap.size) (hN : N < 2 ^ 19) (hG : Gl w) (h0 : 0 < base) (hs : s ≤ e) (he : e ≤ xs.length)
    (hK : ∀ w', Frm (Chg base Av) w w' → Bld base Av w' bB (cut xs s e) N → K (.tuple #[]) w') : Calls Try.prog 42 #[ptr bB, .int .i64 s, .int .i64 e] w (ret K Kp) := by
  obtain ⟨b, F, h1, h2, h3, h4, h5⟩ := h
  refine vc42_calls ?_
  simp only [ptr] at h1
  simp [-getElem?_pos, -Array.getElem?_eq_getElem, List.getElem?_cons_zero, vc42, ptr, add_spot, h1]
  refine vc61_calls ?_
  simp [-getElem?_pos, -Array.getElem?_eq_getElem, List.getElem?_cons_zero, vc61, add_spot, h1]
  refine lslice_ok h2 hN hG (fun _ e => by have := (h5 _ e).1; omega) hs he fun b' w1 F' hf hl hF hb => ?_
  obtain ⟨g1, g2⟩ := Bld.put (Av := Av) h1 h3 h4 h5 hAv hf hl hF hK
  simp only [ptr] at g1 g2
  simp [-getElem?_pos, -Array.getElem?_eq_getElem, List.getElem?_cons_zero, ptr, add_spot, g1, and_assoc]
  exact g2
theorem bcut_out {bB N : Nat} {xs : List Int} {s e : Int} (h : Bld base Av w bB xs N) (hi : ¬ (0 ≤ s ∧ s ≤ e ∧ e ≤ (xs.length : Int))) (hK : ∀ s, Kp (panB s) w) : Calls Try.prog 42 #[ptr bB, .int .i64 s, .int .i64 e] w (ret K Kp) := by
  obtain ⟨b, F, h1, h2, h3, h4, h5⟩ := h
  refine vc42_calls ?_
  simp only [ptr] at h1
  simp [-getElem?_pos, -Array.getElem?_eq_getElem, List.getElem?_cons_zero, vc42, ptr, add_spot, h1]
  refine vc61_calls ?_
  simp [-getElem?_pos, -Array.getElem?_eq_getElem, List.getElem?_cons_zero, vc61, add_spot, h1]
  exact lslice_out h2 hi hK
theorem blen_ok {bB N : Nat} {xs : List Int} (h : Bld base Av w bB xs N) (hK : K (.int .i64 xs.length) w) : Calls Try.prog 44 #[ptr bB] w (ret K Kp) := by
  obtain ⟨b, F, h1, h2, h3, h4, h5⟩ := h
  refine vc44_calls ?_
  simp only [ptr] at h1
  simp [-getElem?_pos, -Array.getElem?_eq_getElem, List.getElem?_cons_zero, vc44, ptr, add_spot, h1]
  refine vc61_calls ?_
  simp [-getElem?_pos, -Array.getElem?_eq_getElem, List.getElem?_cons_zero, vc61, add_spot, h1]
  exact len_ok h2 hK
theorem bget_ok {bB N k : Nat} {xs : List Int} {x : Int} (h : Bld base Av w bB xs N) (hN : N < 2 ^ 19) (hx : xs[k]? = some x) (hK : K (.int .i64 x) w.drew) : Calls Try.prog 45 #[ptr bB, .int .i64 k] w (ret K Kp) := by
  obtain ⟨b, F, h1, h2, h3, h4, h5⟩ := h
  refine vc45_calls ?_
  simp only [ptr] at h1
  simp [-getElem?_pos, -Array.getElem?_eq_getElem, List.getElem?_cons_zero, vc45, ptr, add_spot, h1]
  refine vc61_calls ?_
  simp [-getElem?_pos, -Array.getElem?_eq_getElem, List.getElem?_cons_zero, vc61, add_spot, h1]
  exact lget_ok h2 hN hx hK

theorem counted_ok {n : Nat} (hn : n ≤ 100000) (hK : K (.int .i64 n) w) : Calls Try.prog 43 #[.int .i64 n] w (ret K Kp) := by
  refine vc43_calls ?_
  simp [vc43, Br_dec]
  exact ⟨fun h => by omega, fun _ => hK⟩

theorem bstep_ok {bs bp bB N : Nat} {s : Step} {xs : List Int} {fz : Nat × Nat} (hs : w.heap[bs]? = some (.cells s.cells.toArray 26 fz)) (hp : w.heap[bp]? = some (.cells #[ptr bB] 75 (0, 0)))
    (h : Bld base Av w bB xs N) (hAv : ∀ k, Av k → k < w.heap.size) (avs : Av bs) (avp : Av bp) (hG : Gl w) (h0 : 0 < base) (hfit : s.Fits) (hidx : 4 ≤ s.kind → s.index ≤ 100000) (hN : N + s.cost < 2 ^ 19)
    (hK : (after xs s).2 = true → ∀ w', Frm (Chg base Av) w w' → Bld base Av w' bB (after xs s).1 (N + s.cost) → K (.tuple #[]) w')
    (hKp : (after xs s).2 = false → ∀ str, Kp (panB str) w) : Calls Try.prog 39 #[ptr bs, ptr bp] w (ret K Kp) := by
  refine vc39_calls ?_
  obtain ⟨kind, fro, index, fin, value⟩ := s
  obtain ⟨fz1, fz2⟩ := fz
  simp only [Step.cells] at hs
  obtain ⟨hk5, hk4⟩ := hfit
  simp only at hk5 hk4 hidx
  have hkc : kind = 0 ∨ kind = 1 ∨ kind = 2 ∨ kind = 3 ∨ kind = 4 ∨ kind = 5 := by omega
  simp only [ptr] at hp
  rcases hkc with rfl | rfl | rfl | rfl | rfl | rfl
  · simp [-getElem?_pos, -Array.getElem?_eq_getElem, List.getElem?_cons_zero, vc39, ptr, add_spot, hs, hp, Br_dec]
    exact badd_ok h hAv (by simp only [Step.cost] at hN; omega) (hK rfl)
  · simp [-getElem?_pos, -Array.getElem?_eq_getElem, List.getElem?_cons_zero, vc39, ptr, add_spot, hs, hp, Br_dec]
    exact bpre_ok h hAv (by simp only [Step.cost] at hN; omega) (hK rfl)
  · simp [-getElem?_pos, -Array.getElem?_eq_getElem, List.getElem?_cons_zero, vc39, ptr, add_spot, hs, hp, Br_dec]
    by_cases hi : 0 ≤ index ∧ index < xs.length
    · obtain ⟨k, rfl⟩ : ∃ k : Nat, index = k := ⟨index.toNat, by omega⟩
      have ha : after xs ⟨2, fro, k, fin, value⟩ = (xs.set k value, true) := by simp only [after]; rw [if_pos hi]; simp
      rw [ha] at hK
      exact bset_ok h hAv (by omega) (by omega) (hK rfl)
    · have ha : after xs ⟨2, fro, index, fin, value⟩ = (xs, false) := by simp only [after]; rw [if_neg hi]
      rw [ha] at hKp
      exact bset_out h (by omega) (hKp rfl)
  · simp [-getElem?_pos, -Array.getElem?_eq_getElem, List.getElem?_cons_zero, vc39, ptr, add_spot, hs, hp, Br_dec]
    by_cases hi : 0 ≤ index ∧ index ≤ fin ∧ fin ≤ xs.length
    · obtain ⟨k, rfl⟩ : ∃ k : Nat, index = k := ⟨index.toNat, by omega⟩
      obtain ⟨e, rfl⟩ : ∃ e : Nat, fin = e := ⟨fin.toNat, by omega⟩
      have ha : after xs ⟨3, fro, k, e, value⟩ = (cut xs k e, true) := by simp only [after]; rw [if_pos hi]; simp
      rw [ha] at hK
      exact bcut_ok h hAv (by omega) hG h0 (by omega) (by omega) (hK rfl)
    · have ha : after xs ⟨3, fro, index, fin, value⟩ = (xs, false) := by simp only [after]; rw [if_neg hi]
      rw [ha] at hKp
      exact bcut_out h hi (hKp rfl)
  · obtain ⟨n, rfl⟩ : ∃ n : Nat, index = n := ⟨index.toNat, by have := hk4 (by omega); omega⟩
    have hn5 : n ≤ 100000 := by have := hidx (by omega); omega
    simp only [Step.cost, Int.toNat_natCast] at hN hK
    have ha : after xs ⟨4, fro, n, fin, value⟩ = (xs ++ many value (n : Int).toNat, true) := rfl
    rw [ha] at hK
    obtain ⟨I, hI⟩ : ∃ I : Value → World → Prop, ∀ v w', I v w' ↔ ∃ (j : Nat), v = .int .i64 j ∧ j ≤ n ∧ Frm (Chg base Av) w w' ∧ Bld base Av w' bB (xs ++ many value j) (N + j) := ⟨_, fun _ _ => Iff.rfl⟩
    obtain ⟨μ, hμ⟩ : ∃ μ : Value → World → Nat, ∀ (j : Nat) w, μ (.int .i64 j) w = n - j := ⟨fun v _ => n - (match v with | .int _ j => j.toNat | _ => 0), fun _ _ => rfl⟩
    simp [-getElem?_pos, -Array.getElem?_eq_getElem, List.getElem?_cons_zero, vc39, ptr, add_spot, hs, hp, Br_dec, and_assoc]
    refine Lp.intro I μ ⟨(hI _ _).2 ⟨0, rfl, by omega, Frm.refl, by simpa [many] using h⟩, ?_⟩
    intro wl v hIl
    obtain ⟨j, rfl, hj, hfr, hb⟩ := (hI _ _).1 hIl
    have hs' := hfr.get hs fun e => e.2 avs
    have hp' := hfr.get hp fun e => e.2 avp
    simp [-getElem?_pos, -Array.getElem?_eq_getElem, List.getElem?_cons_zero, ptr, add_spot, hs', hp', Br_dec, and_assoc]
    refine counted_ok hn5 ?_
    simp only [op_lss, Br_dec]
    refine ⟨fun hlt => ?_, fun hnl => ?_⟩
    · simp [-getElem?_pos, -Array.getElem?_eq_getElem, List.getElem?_cons_zero, ptr, add_spot, hs', hp', Br_dec, and_assoc]
      refine badd_ok hb (fun k hk => Nat.lt_of_lt_of_le (hAv k hk) hfr.size) (by omega) fun w2 hf2 hb2 => ?_
      rw [wrap_small _ rfl (by omega) (by omega)]
      refine ⟨(hI _ _).2 ⟨j + 1, rfl, by omega, hfr.trans hf2 fun k hk _ => hk, ?_⟩, ?_⟩
      · rw [many_succ, ← List.append_assoc, ← Nat.add_assoc]; exact hb2
      · have := hμ (j + 1) w2
        simp only [Int.natCast_add, Int.natCast_one] at this
        rw [this, hμ]; omega
    · have : j = n := by omega
      subst this
      exact hK rfl _ hfr hb
  · obtain ⟨n, rfl⟩ : ∃ n : Nat, index = n := ⟨index.toNat, by have := hk4 (by omega); omega⟩
    have hn5 : n ≤ 100000 := by have := hidx (by omega); omega
    simp only [Step.cost, Int.toNat_natCast] at hN hK
    have ha : after xs ⟨5, fro, n, fin, value⟩ = ((many value (n : Int).toNat).reverse ++ xs, true) := rfl
    rw [ha] at hK
    obtain ⟨I, hI⟩ : ∃ I : Value → World → Prop, ∀ v w', I v w' ↔ ∃ (j : Nat), v = .int .i64 j ∧ j ≤ n ∧ Frm (Chg base Av) w w' ∧ Bld base Av w' bB ((many value j).reverse ++ xs) (N + j) := ⟨_, fun _ _ => Iff.rfl⟩
    obtain ⟨μ, hμ⟩ : ∃ μ : Value → World → Nat, ∀ (j : Nat) w, μ (.int .i64 j) w = n - j := ⟨fun v _ => n - (match v with | .int _ j => j.toNat | _ => 0), fun _ _ => rfl⟩
    simp [-getElem?_pos, -Array.getElem?_eq_getElem, List.getElem?_cons_zero, vc39, ptr, add_spot, hs, hp, Br_dec, and_assoc]
    refine Lp.intro I μ ⟨(hI _ _).2 ⟨0, rfl, by omega, Frm.refl, by simpa [many] using h⟩, ?_⟩
    intro wl v hIl
    obtain ⟨j, rfl, hj, hfr, hb⟩ := (hI _ _).1 hIl
    have hs' := hfr.get hs fun e => e.2 avs
    have hp' := hfr.get hp fun e => e.2 avp
    simp [-getElem?_pos, -Array.getElem?_eq_getElem, List.getElem?_cons_zero, ptr, add_spot, hs', hp', Br_dec, and_assoc]
    refine counted_ok hn5 ?_
    simp only [op_lss, Br_dec]
    refine ⟨fun hlt => ?_, fun hnl => ?_⟩
    · simp [-getElem?_pos, -Array.getElem?_eq_getElem, List.getElem?_cons_zero, ptr, add_spot, hs', hp', Br_dec, and_assoc]
      refine bpre_ok hb (fun k hk => Nat.lt_of_lt_of_le (hAv k hk) hfr.size) (by omega) fun w2 hf2 hb2 => ?_
      rw [wrap_small _ rfl (by omega) (by omega)]
      refine ⟨(hI _ _).2 ⟨j + 1, rfl, by omega, hfr.trans hf2 fun k hk _ => hk, ?_⟩, ?_⟩
      · rw [many_succ, List.reverse_append, ← Nat.add_assoc]; exact hb2
      · have := hμ (j + 1) w2
        simp only [Int.natCast_add, Int.natCast_one] at this
        rw [this, hμ]; omega
    · have : j = n := by omega
      subst this
      exact hK rfl _ hfr hb
end Go.Proofs.Ytjlaclgikmmmlaa
