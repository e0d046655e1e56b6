/- What a step makes of a list; the closure of versionsOf. -/
import Derived.Test.YtjlaclgikmmmlaaLThrown
set_option maxRecDepth 100000
set_option linter.unusedSimpArgs false
set_option linter.unusedVariables false
set_option maxHeartbeats 4000000
namespace Go.Proofs.Ytjlaclgikmmmlaa
open Go.Vc Go.Proofs

structure Step where
  kind : Nat
  fro : Int
  index : Int
  fin : Int
  value : Int
def many (v : Int) (n : Nat) : List Int := (List.range n).map fun (i : Nat) => IntKind.i64.wrap (v + (i : Int))
/-- The list behind a step, and whether the step is in range. -/
def after (l : List Int) (s : Step) : List Int × Bool :=
  match s.kind with
  | 0 => (l ++ [s.value], true)
  | 1 => (s.value :: l, true)
  | 2 => if 0 ≤ s.index ∧ s.index < l.length then (l.set s.index.toNat s.value, true) else (l, false)
  | 3 => if 0 ≤ s.index ∧ s.index ≤ s.fin ∧ s.fin ≤ l.length then (cut l s.index.toNat s.fin.toNat, true) else (l, false)
  | 4 => (l ++ many s.value s.index.toNat, true)
  | _ => ((many s.value s.index.toNat).reverse ++ l, true)
def Step.cost (s : Step) : Nat := match s.kind with
  | 0 | 1 => 1
  | 4 | 5 => s.index.toNat
  | _ => 0
def Step.cells (s : Step) : List Value := [.int .u8 s.kind, .int .i64 s.fro, .int .i64 s.index, .int .i64 s.fin, .int .i64 s.value]
def Step.Fits (s : Step) : Prop := s.kind ≤ 5 ∧ (4 ≤ s.kind → 0 ≤ s.index)
theorem many_succ (v : Int) (n : Nat) : many v (n + 1) = many v n ++ [IntKind.i64.wrap (v + n)] := by simp [many, List.range_succ]

variable {m : Bool} {w w' w0 : World} {F F' G : Nat → Prop} {K : Value → World → Prop} {Kp : KP}
theorem IsList.lt {b : Nat} {xs : List Int} {N : Nat} (h : IsList m w b xs N F) : IsList m w b xs N (fun k => F k ∧ k < w.heap.size) := by
  obtain ⟨rv, d, o, Ft, h1, h2, h3, h4, h5⟩ := h
  exact ⟨rv, d, o, _, h1, h2.lt, ⟨h3, lt_of_get h1⟩, fun k hk => ⟨⟨(h4 k hk.1).1, hk.2⟩, (h4 k hk.1).2⟩, h5⟩

theorem lappend_ok {b : Nat} {xs : List Int} {N : Nat} {x : Int} (h : IsList false w b xs N G) (hN : N < 2 ^ 19)
    (hK : ∀ b' w' G', (∀ {M}, Frm M w w') → IsList false w' b' (xs ++ [x]) (N + 1) G' → (∀ k, G' k → (G k ∨ w.heap.size ≤ k) ∧ k < w'.heap.size) → K (ptr b') w') : Calls Try.prog 53 #[ptr b, .int .i64 x] w (ret K Kp) := by
  refine vc53_calls ?_
  simp [vc53]
  refine append_ok h hN fun b' w' F' hf hl hF hb => ?_
  exact hK b' w' _ (hf.mono fun k h _ => nomatch h.1) hl.lt fun k hk => ⟨hF k hk.1, hk.2⟩
theorem lprepend_ok {b : Nat} {xs : List Int} {N : Nat} {x : Int} (h : IsList false w b xs N G) (hN : N < 2 ^ 19)
    (hK : ∀ b' w' G', (∀ {M}, Frm M w w') → IsList false w' b' (x :: xs) (N + 1) G' → (∀ k, G' k → (G k ∨ w.heap.size ≤ k) ∧ k < w'.heap.size) → K (ptr b') w') : Calls Try.prog 54 #[ptr b, .int .i64 x] w (ret K Kp) := by
  refine vc54_calls ?_
  simp [vc54]
  refine prepend_ok h hN fun b' w' F' hf hl hF hb => ?_
  exact hK b' w' _ (hf.mono fun k h _ => nomatch h.1) hl.lt fun k hk => ⟨hF k hk.1, hk.2⟩

theorem step_ok {bs bf bx bl N : Nat} {s : Step} {xs : List Int} {v0 : Value} {fz : Nat × Nat} {et : TypeId} (hs : w.heap[bs]? = some (.cells s.cells.toArray et fz)) (hf : w.heap[bf]? = some (.cells #[ptr bl] 67 (0, 0)))
    (hx : w.heap[bx]? = some (.cells #[v0] 67 (0, 0))) (hsx : bs ≠ bx) (hfx : bf ≠ bx) (hGx : ¬ G bx) (hl : IsList false w bl xs N G) (hGl : Gl w) (hfit : s.Fits) (hN : N + s.cost < 2 ^ 19)
    (hK : (after xs s).2 = true → ∀ w' b' G', Frm (fun k => k = bx) w w' → w'.heap[bx]? = some (.cells #[ptr b'] 67 (0, 0)) → IsList false w' b' (after xs s).1 (N + s.cost) G' → (∀ k, G' k → (G k ∨ w.heap.size ≤ k) ∧ k < w'.heap.size) → K (.tuple #[]) w')
    (hKp : (after xs s).2 = false → ∀ str, Kp (panB str) w) : Calls Try.prog 52 #[ptr bs, ptr bf, ptr bx] w (ret K Kp) := by
  refine vc52_calls ?_
  obtain ⟨kind, fro, index, fin, value⟩ := s
  obtain ⟨fz1, fz2⟩ := fz
  simp only [Step.cells] at hs
  have hbx := lt_of_get hx
  have fin1 : ∀ {w1 : World} {b' : Nat} {ys : List Int} {N' : Nat} {G' : Nat → Prop}, (∀ {M}, Frm M w w1) → IsList false w1 b' ys N' G' → (∀ k, G' k → (G k ∨ w.heap.size ≤ k) ∧ k < w1.heap.size) →
      w1.heap[bx]? = some (.cells #[v0] 67 (0, 0)) ∧ Frm (fun k => k = bx) w (w1.upd bx (.cells #[ptr b'] 67 (0, 0))) ∧ (w1.upd bx (.cells #[ptr b'] 67 (0, 0))).heap[bx]? = some (.cells #[ptr b'] 67 (0, 0)) ∧
      IsList false (w1.upd bx (.cells #[ptr b'] 67 (0, 0))) b' ys N' G' := fun hfr hl hG => by
    have h1 := hfr.get (M := fun _ => False) hx (by simp)
    refine ⟨h1, (hfr (M := fun k => k = bx)).trans (Frm.upd (M := fun k => k = bx) _ _ fun _ => rfl) (fun b h _ => h), heap_upd_same h1, hl.frame (Frm.upd (M := fun k => k = bx) _ _ fun _ => rfl) fun b hb e => ?_⟩
    subst e
    rcases (hG _ hb).1 with h | h
    · exact hGx h
    · omega
  obtain ⟨hk5, hk4⟩ := hfit
  simp only at hk5 hk4
  have hkc : kind = 0 ∨ kind = 1 ∨ kind = 2 ∨ kind = 3 ∨ kind = 4 ∨ kind = 5 := by omega
  rcases hkc with rfl | rfl | rfl | rfl | rfl | rfl
  · simp [-getElem?_pos, -Array.getElem?_eq_getElem, List.getElem?_cons_zero, vc52, ptr, add_spot, hs, hf, Br_dec]
    refine lappend_ok hl (by simp only [Step.cost] at hN; omega) fun b' w1 G' hfr hl' hG' => ?_
    obtain ⟨h1, h2, h3, h4⟩ := fin1 hfr hl' hG'
    simp [-getElem?_pos, -Array.getElem?_eq_getElem, List.getElem?_cons_zero, h1, and_assoc, ptr]
    exact hK rfl _ b' G' h2 h3 h4 fun k hk => by simpa using hG' k hk
  · simp [-getElem?_pos, -Array.getElem?_eq_getElem, List.getElem?_cons_zero, vc52, ptr, add_spot, hs, hf, Br_dec]
    refine lprepend_ok hl (by simp only [Step.cost] at hN; omega) fun b' w1 G' hfr hl' hG' => ?_
    obtain ⟨h1, h2, h3, h4⟩ := fin1 hfr hl' hG'
    simp [-getElem?_pos, -Array.getElem?_eq_getElem, List.getElem?_cons_zero, h1, and_assoc, ptr]
    exact hK rfl _ b' G' h2 h3 h4 fun k hk => by simpa using hG' k hk
  · simp [-getElem?_pos, -Array.getElem?_eq_getElem, List.getElem?_cons_zero, vc52, ptr, add_spot, hs, hf, Br_dec]
    refine vc55_calls ?_
    simp only [vc55, call_64]
    by_cases hi : 0 ≤ index ∧ index < xs.length
    · obtain ⟨k, rfl⟩ : ∃ k : Nat, index = k := ⟨index.toNat, by omega⟩
      have ha : after xs ⟨2, fro, k, fin, value⟩ = (xs.set k value, true) := by simp only [after]; rw [if_pos hi]; simp
      rw [ha] at hK
      refine lset_ok hl (by omega) (by omega) fun b' w1 G' hfr hl' hG' _ => ?_
      obtain ⟨h1, h2, h3, h4⟩ := fin1 (fun {M} => hfr.mono fun k h _ => nomatch h.1) hl'.lt fun k hk => ⟨hG' k hk.1, hk.2⟩
      simp [-getElem?_pos, -Array.getElem?_eq_getElem, List.getElem?_cons_zero, h1, and_assoc, ptr]
      exact hK rfl _ b' _ h2 h3 h4 fun k hk => by simpa using ⟨hG' k hk.1, hk.2⟩
    · have ha : after xs ⟨2, fro, index, fin, value⟩ = (xs, false) := by simp only [after]; rw [if_neg hi]
      rw [ha] at hKp
      exact lset_out hl (by omega) fun str => hKp rfl str
  · simp [-getElem?_pos, -Array.getElem?_eq_getElem, List.getElem?_cons_zero, vc52, ptr, add_spot, hs, hf, Br_dec]
    refine vc56_calls ?_
    simp only [vc56, call_65]
    by_cases hi : 0 ≤ index ∧ index ≤ fin ∧ fin ≤ xs.length
    · obtain ⟨k, rfl⟩ : ∃ k : Nat, index = k := ⟨index.toNat, by omega⟩
      obtain ⟨e, rfl⟩ : ∃ e : Nat, fin = e := ⟨fin.toNat, by omega⟩
      have ha : after xs ⟨3, fro, k, e, value⟩ = (cut xs k e, true) := by simp only [after]; rw [if_pos hi]; simp
      rw [ha] at hK
      refine lslice_ok hl (by omega) hGl (fun h => nomatch h) (by omega) (by omega) fun b' w1 G' hfr hl' hG' _ => ?_
      obtain ⟨h1, h2, h3, h4⟩ := fin1 (fun {M} => hfr.mono fun k h _ => nomatch h.1) hl'.lt fun k hk => ⟨hG' k hk.1, hk.2⟩
      simp [-getElem?_pos, -Array.getElem?_eq_getElem, List.getElem?_cons_zero, h1, and_assoc, ptr]
      exact hK rfl _ b' _ h2 h3 h4 fun k hk => by simpa using ⟨hG' k hk.1, hk.2⟩
    · have ha : after xs ⟨3, fro, index, fin, value⟩ = (xs, false) := by simp only [after]; rw [if_neg hi]
      rw [ha] at hKp
      exact lslice_out hl hi fun str => hKp rfl str
  · obtain ⟨n, rfl⟩ : ∃ n : Nat, index = n := ⟨index.toNat, by have := hk4 (by omega); omega⟩
    simp only [Step.cost, Int.toNat_natCast] at hN hK
    have ha : after xs ⟨4, fro, n, fin, value⟩ = (xs ++ many value (n : Int).toNat, true) := rfl
    rw [ha] at hK
    obtain ⟨I, hI⟩ : ∃ I : Value → World → Prop, ∀ v w', I v w' ↔ ∃ (j b' : Nat) (G' : Nat → Prop), v = .int .i64 j ∧ j ≤ n ∧ Frm (fun k => k = bx) w w' ∧ w'.heap[bx]? = some (.cells #[ptr b'] 67 (0, 0)) ∧ IsList false w' b' (xs ++ many value j) (N + j) G' ∧ ∀ k, G' k → (G k ∨ w.heap.size ≤ k) ∧ k < w'.heap.size := ⟨_, fun _ _ => Iff.rfl⟩
    obtain ⟨μ, hμ⟩ : ∃ μ : Value → World → Nat, ∀ (j : Nat) w, μ (.int .i64 j) w = n - j := ⟨fun v _ => n - (match v with | .int _ j => j.toNat | _ => 0), fun _ _ => rfl⟩
    simp [-getElem?_pos, -Array.getElem?_eq_getElem, List.getElem?_cons_zero, vc52, ptr, add_spot, hs, hf, hx, Br_dec, and_assoc]
    refine Lp.intro I μ ⟨(hI _ _).2 ⟨0, bl, fun k => G k ∧ k < w.heap.size, rfl, by omega, Frm.upd _ _ fun _ => rfl, heap_upd_same hx, ?_, ?_⟩, ?_⟩
    · have := (hl.lt (F := G)).frame (Frm.upd (M := fun k => k = bx) w (.cells #[ptr bl] 67 (0, 0)) fun _ => rfl) fun b hb e => hGx (e ▸ hb.1)
      simpa [many, ptr] using this
    · exact fun k hk => ⟨.inl hk.1, by simpa using hk.2⟩
    intro wl v hIl
    obtain ⟨j, b', G', rfl, hj, hfr, hbx', hl', hG'⟩ := (hI _ _).1 hIl
    have hs' := hfr.get hs hsx
    simp [-getElem?_pos, -Array.getElem?_eq_getElem, List.getElem?_cons_zero, ptr, add_spot, hs', hbx', Br_dec, and_assoc]
    refine ⟨fun hlt => ?_, fun hnl => ?_⟩
    · refine lappend_ok hl' (by omega) fun b2 w2 G2 hfr2 hl2 hG2 => ?_
      have hbx2 := hfr2.get (M := fun _ => False) hbx' (by simp)
      simp [-getElem?_pos, -Array.getElem?_eq_getElem, List.getElem?_cons_zero, ptr, add_spot, hbx2, and_assoc]
      rw [wrap_small _ rfl (by omega) (by omega)]
      refine ⟨(hI _ _).2 ⟨j + 1, b2, G2, rfl, by omega, ?_, heap_upd_same hbx2, ?_, ?_⟩, ?_⟩
      · exact (hfr.trans (hfr2 (M := fun k => k = bx)) fun k hk _ => hk).trans (Frm.upd (M := fun k => k = bx) _ _ fun _ => rfl) fun k hk _ => hk
      · have h3 := hl2.frame (Frm.upd (M := fun k => k = bx) w2 (.cells #[ptr b2] 67 (0, 0)) fun _ => rfl) fun b hb e => by
          subst e
          rcases (hG2 _ hb).1 with h | h
          · rcases (hG' _ h).1 with h | h
            · exact hGx h
            · omega
          · have := lt_of_get hbx'; omega
        rw [many_succ]
        simpa [ptr, Nat.add_assoc] using h3
      · intro k hk
        have := hG2 k hk
        refine ⟨?_, by simpa using this.2⟩
        rcases this.1 with h | h
        · exact (hG' k h).1
        · exact .inr (Nat.le_trans hfr.size h)
      · have := hμ (j + 1) (w2.upd bx (.cells #[ptr b2] 67 (0, 0)))
        simp only [Int.natCast_add, Int.natCast_one, ptr] at this
        rw [this, hμ]; omega
    · have : j = n := by omega
      subst this
      exact hK rfl _ b' G' hfr hbx' hl' hG'
  · obtain ⟨n, rfl⟩ : ∃ n : Nat, index = n := ⟨index.toNat, by have := hk4 (by omega); omega⟩
    simp only [Step.cost, Int.toNat_natCast] at hN hK
    have ha : after xs ⟨5, fro, n, fin, value⟩ = ((many value (n : Int).toNat).reverse ++ xs, true) := rfl
    rw [ha] at hK
    obtain ⟨I, hI⟩ : ∃ I : Value → World → Prop, ∀ v w', I v w' ↔ ∃ (j b' : Nat) (G' : Nat → Prop), v = .int .i64 j ∧ j ≤ n ∧ Frm (fun k => k = bx) w w' ∧ w'.heap[bx]? = some (.cells #[ptr b'] 67 (0, 0)) ∧ IsList false w' b' ((many value j).reverse ++ xs) (N + j) G' ∧ ∀ k, G' k → (G k ∨ w.heap.size ≤ k) ∧ k < w'.heap.size := ⟨_, fun _ _ => Iff.rfl⟩
    obtain ⟨μ, hμ⟩ : ∃ μ : Value → World → Nat, ∀ (j : Nat) w, μ (.int .i64 j) w = n - j := ⟨fun v _ => n - (match v with | .int _ j => j.toNat | _ => 0), fun _ _ => rfl⟩
    simp [-getElem?_pos, -Array.getElem?_eq_getElem, List.getElem?_cons_zero, vc52, ptr, add_spot, hs, hf, hx, Br_dec, and_assoc]
    refine Lp.intro I μ ⟨(hI _ _).2 ⟨0, bl, fun k => G k ∧ k < w.heap.size, rfl, by omega, Frm.upd _ _ fun _ => rfl, heap_upd_same hx, ?_, ?_⟩, ?_⟩
    · have := (hl.lt (F := G)).frame (Frm.upd (M := fun k => k = bx) w (.cells #[ptr bl] 67 (0, 0)) fun _ => rfl) fun b hb e => hGx (e ▸ hb.1)
      simpa [many, ptr] using this
    · exact fun k hk => ⟨.inl hk.1, by simpa using hk.2⟩
    intro wl v hIl
    obtain ⟨j, b', G', rfl, hj, hfr, hbx', hl', hG'⟩ := (hI _ _).1 hIl
    have hs' := hfr.get hs hsx
    simp [-getElem?_pos, -Array.getElem?_eq_getElem, List.getElem?_cons_zero, ptr, add_spot, hs', hbx', Br_dec, and_assoc]
    refine ⟨fun hlt => ?_, fun hnl => ?_⟩
    · refine lprepend_ok hl' (by omega) fun b2 w2 G2 hfr2 hl2 hG2 => ?_
      have hbx2 := hfr2.get (M := fun _ => False) hbx' (by simp)
      simp [-getElem?_pos, -Array.getElem?_eq_getElem, List.getElem?_cons_zero, ptr, add_spot, hbx2, and_assoc]
      rw [wrap_small _ rfl (by omega) (by omega)]
      refine ⟨(hI _ _).2 ⟨j + 1, b2, G2, rfl, by omega, ?_, heap_upd_same hbx2, ?_, ?_⟩, ?_⟩
      · exact (hfr.trans (hfr2 (M := fun k => k = bx)) fun k hk _ => hk).trans (Frm.upd (M := fun k => k = bx) _ _ fun _ => rfl) fun k hk _ => hk
      · have h3 := hl2.frame (Frm.upd (M := fun k => k = bx) w2 (.cells #[ptr b2] 67 (0, 0)) fun _ => rfl) fun b hb e => by
          subst e
          rcases (hG2 _ hb).1 with h | h
          · rcases (hG' _ h).1 with h | h
            · exact hGx h
            · omega
          · have := lt_of_get hbx'; omega
        rw [many_succ]
        simpa [ptr, Nat.add_assoc] using h3
      · intro k hk
        have := hG2 k hk
        refine ⟨?_, by simpa using this.2⟩
        rcases this.1 with h | h
        · exact (hG' k h).1
        · exact .inr (Nat.le_trans hfr.size h)
      · have := hμ (j + 1) (w2.upd bx (.cells #[ptr b2] 67 (0, 0)))
        simp only [Int.natCast_add, Int.natCast_one, ptr] at this
        rw [this, hμ]; omega
    · have : j = n := by omega
      subst this
      exact hK rfl _ b' G' hfr hbx' hl' hG'
end Go.Proofs.Ytjlaclgikmmmlaa
