/- slices.Clone of steps; laws.FnListBuild. -/
import Derived.Test.YtjlaclgikmmmlaaLBuild2
set_option maxRecDepth 100000
set_option linter.unusedSimpArgs false
set_option linter.unusedVariables false
set_option maxHeartbeats 8000000
namespace Go.Proofs.Ytjlaclgikmmmlaa
open Go.Vc Go.Proofs
variable {m : Bool} {w w' w0 : World} {F F' G Av Av' : Nat → Prop} {K : Value → World → Prop} {Kp : KP} {base : Nat}
theorem ap33 : apOf Try.prog 33 = some (59, 5, 40) := by kernel_rfl

theorem stclone_ok {a : Option Addr} {c : Nat} {steps : List Step} (hr : Row w a (steps.flatMap Step.cells)) (ha : a = none → steps = []) (hn : steps.length < 2 ^ 31)
    (hK : ∀ a' c' w', (∀ {M}, Frm M w w') → (a' = none ∧ steps = [] ∨ ∃ g cur, a' = some ⟨g, 0, none⟩ ∧ w.heap.size ≤ g ∧ w'.heap[g]? = some (.cells cur 59 (0, 0)) ∧ steps.length * 5 ≤ cur.size ∧ ∀ (j : Nat) (v : Value), (steps.flatMap Step.cells)[j]? = some v → cur[j]? = some v) → K (.slice a' steps.length c') w') :
    Calls Try.prog 20 #[.slice a steps.length c] w (ret K Kp) := by
  refine vc20_calls ?_
  simp [-getElem?_pos, -Array.getElem?_eq_getElem, List.getElem?_cons_zero, vc20]
  refine ⟨fun he => ?_, fun hne => ?_⟩
  · have : steps = [] := ha (by simpa using he)
    subst this
    exact hK none 0 w Frm.refl (.inl ⟨rfl, rfl⟩)
  · have hown : (w.alloc (.cells #[] 59)).ownsRow w.heap.size 59 5 (.slice (some ⟨w.heap.size, 0, none⟩) 0 0) 0 [] := ⟨rfl, .inr ⟨_, 0, #[], rfl, Nat.le_refl _, hp_alloc_new, Nat.le_refl _, by decide, rfl, rfl⟩⟩
    refine op_append (base := w.heap.size) (size := 5) (n := 0) (m := steps.length) (xs := []) (news := steps.flatMap Step.cells) ap33 hown (hr.frame (Frm.alloc (M := fun _ => False) _ _) (by simp)) (steps_len steps) (fun u hu => ?_) (fun h => by rw [ha h]; rfl) (by omega) (by simp) fun l4 w4 hl4 hf4 hbl4 => ?_
    · obtain ⟨s, _, hs⟩ := List.mem_flatMap.1 hu
      simp [Step.cells] at hs; rcases hs with rfl | rfl | rfl | rfl | rfl <;> rfl
    have hfr : ∀ {M}, Frm M w w4 := fun {M} => (Frm.alloc (M := M) w (.cells #[] 59)).trans hf4 fun k hk hlt => by have := Option.some.inj hk; simp only at this; omega
    rw [Nat.zero_add, List.nil_append] at hl4
    obtain ⟨h1, ⟨rfl, h2⟩ | ⟨g, cap, cur, rfl, h3, h4, h5, h6, h7, h8⟩⟩ := hl4
    · have : steps = [] := List.eq_nil_of_length_eq_zero h2
      have := hK none 0 w4 hfr (.inl ⟨rfl, this⟩)
      rw [h2] at this; exact this
    · refine hK _ _ _ hfr (.inr ⟨g, cur, rfl, h3, h4, ?_, fun j v hv => ?_⟩)
      · have := congrArg List.length h8
        rw [steps_len] at this
        simp at this; omega
      · rw [← h8, List.getElem?_take] at hv
        split at hv
        · simpa using hv
        · cases hv

def line (steps : List Step) : List Step := steps.mapIdx fun k s => { s with fro := (k : Int) }
theorem line_len (steps : List Step) : (line steps).length = steps.length := by simp [line]
theorem line_fro (steps : List Step) (i : Nat) (h : i < (line steps).length) : (line steps)[i].fro = i := by simp [line]
theorem line_get (steps : List Step) (i : Nat) (h : i < steps.length) : (line steps)[i]'(by rw [line_len]; exact h) = { steps[i] with fro := (i : Int) } := by simp [line]

theorem law_build {a0 a1 : Option Addr} {c0 c1 : Nat} {xs : List Int} {steps : List Step} (hG : Gl w) (h0 : IsInts w (.slice a0 xs.length c0) xs) (h0b : ∀ p, a0 = some p → p.block < w.heap.size) (h1 : Row w a1 (steps.flatMap Step.cells)) (hn1 : a1 = none → steps = [])
    (hK : ∀ w', (∀ {M}, Frm M w w') → K (.bool true) w') : Calls Try.prog 8 #[.slice a0 xs.length c0, .slice a1 steps.length c1] w (ret K Kp) := by
  refine vc8_calls ?_
  simp [-getElem?_pos, -Array.getElem?_eq_getElem, List.getElem?_cons_zero, vc8, Br_dec]
  refine ⟨fun _ => hK w Frm.refl, fun hx31 => ⟨fun _ => hK w Frm.refl, fun hn31 => ?_⟩⟩
  have hfr0 : ∀ {w'}, (∀ {M}, Frm M w w') → Gl w' := fun hf => hG.frame (hf (M := fun _ => False)) (by simp)
  have hro : Row w a0 (i64s xs) := by obtain ⟨a, c, e, _, hr, _⟩ := h0; cases e; exact hr
  refine stclone_ok h1 hn1 (by omega) fun a2 c2 w1 hf1 hcl => ?_
  simp only [op_len_33]
  -- the loop that sets From
  have main : ∀ wl, (∀ {M}, Frm M w wl) → Row wl a2 ((line steps).flatMap Step.cells) → Calls Try.prog 12 #[.slice a0 xs.length c0, .slice a2 steps.length c2] wl (ret (fun v37 w => (nice Try.prog).op (.un .not v37) w (fun v38 w => Br v38 ((nice Try.prog).call (.fn 9) [] w (fun v39 w => K v39 w) Kp) (
      (nice Try.prog).call (.fn 13) [.slice a0 xs.length c0, .slice a2 steps.length c2] w (fun v43 w => (nice Try.prog).op (.extract v43 0) w (fun v44 w => (nice Try.prog).op (.extract v43 1) w (fun v45 w => (nice Try.prog).op (.blt .len [35] 3 [v44]) w (fun v48 w => (nice Try.prog).op (.bin .sub 3 false true v48 (.int .i64 1)) w (fun v49 w =>
      (nice Try.prog).op (.indexAddr 35 v44 v49) w (fun v50 w => (nice Try.prog).op (.load 22 v50) w (fun v51 w => (nice Try.prog).call (.fn 15) [.slice a2 steps.length c2] w (fun v55 w => (nice Try.prog).call (.fn 21) [.slice a0 xs.length c0, v55] w (fun v56 w => (nice Try.prog).op (.extract v56 0) w (fun v57 w => (nice Try.prog).op (.extract v56 1) w (fun v58 w =>
      (nice Try.prog).op (.extract v56 2) w (fun v59 w => (nice Try.prog).op (.extract v56 3) w (fun v60 w => (nice Try.prog).call (.fn 11) [v57, v51] w (fun v63 w => Br v63 ((nice Try.prog).call (.fn 11) [v58, v51] w (fun v67 w => Br v67 ((nice Try.prog).call (.fn 11) [v59, v51] w (fun v72 w => Br v72 ((nice Try.prog).call (.fn 16) [v60, v45] w (fun v77 w =>
      Br v77 ((nice Try.prog).call (.fn 9) [] w (fun v80 w => K v80 w) Kp) (K (.bool false) w)) Kp) (K (.bool false) w)) Kp) (K (.bool false) w)) Kp) (K (.bool false) w)) Kp) Kp) Kp) Kp) Kp) Kp) Kp) Kp) Kp) Kp) Kp) Kp) Kp) Kp)) Kp) Kp) := fun wl hfl hrl => by
    have eL : ∀ a c, Value.slice a steps.length c = .slice a (line steps).length c := fun a c => by rw [line_len]
    rw [eL]
    have hll := line_len steps
    refine lfits_ok (h0.frame (hfl (M := fun _ => False)) (by simp)) hrl (by omega) (by omega) (fun w2 hf2 => ?_) (fun hfit h12 w2 hf2 => ?_)
    · simp [-getElem?_pos, -Array.getElem?_eq_getElem, List.getElem?_cons_zero]
      have hfw : ∀ {M}, Frm M w w2 := fun {M} => (hfl (M := M)).trans (hf2 (M := M)) fun _ h _ => h
      exact awake_ok (hfr0 hfw) fun w3 hf3 => hK w3 fun {M} => (hfw (M := M)).trans (hf3 (M := M)) fun _ h _ => h
    generalize hln : line steps = ln at *
    have hfw2 : ∀ {M}, Frm M w w2 := fun {M} => (hfl (M := M)).trans (hf2 (M := M)) fun _ h _ => h
    simp [-getElem?_pos, -Array.getElem?_eq_getElem, List.getElem?_cons_zero]
    have hxl := hfit.base
    have hcost := hfit.cost
    have hs2 : w.heap.size ≤ w2.heap.size := (hfw2 (M := fun _ => False)).size
    refine spec_versions_ok (h0.frame (hfw2 (M := fun _ => False)) (by simp)) (fun b hb => ?_) (hrl.frame (hf2 (M := fun _ => False)) (by simp)) hfit.all (by omega) (fun i j ys hj => by have := hfit.len i j ys hj; omega) fun l p w3 hr3 => ?_
    · cases a0 with
      | none => cases hb
      | some q => cases hb; exact Nat.lt_of_lt_of_le (h0b q rfl) hs2
    obtain ⟨b, o, c, cs, e, fa, fb, rfl, hb, hu⟩ := hr3.laid
    have hfl3 := own_bools hr3.flags
    have hfw3 : ∀ {M}, Frm M w w3 := fun {M} => (hfw2 (M := M)).trans (hr3.frm (M := M)) fun _ h _ => h
    obtain ⟨ys, hys⟩ : ∃ ys, (vers xs ln).1[ln.length]? = some ys := ⟨_, List.getElem?_eq_getElem (by rw [vers_len1]; omega)⟩
    obtain ⟨u, g1, g2, g3⟩ := hu _ ys hys
    have hyl := hfit.le _ ys hys
    have e1 : IntKind.i64.wrap (((ln.length + 1 : Nat) : Int) - 1) = (ln.length : Int) := by rw [wrap_small _ rfl (by omega) (by omega)]; omega
    simp only [op_ext2_0, op_ext2_1, op_len_35, op_sub, e1, op_ix_35, op_ld_22, add_spot, Int.toNat_natCast, Nat.mul_one]
    refine ⟨⟨by omega, by omega⟩, cs, e, (fa, fb), hb, trivial, u, g1, ?_⟩
    refine to_ok (hrl.frame ((hf2 (M := fun _ => False)).trans (hr3.frm (M := fun _ => False)) fun _ h _ => h) (by simp)) (by omega) fun v4 w4 hf4 hv4 => ?_
    obtain ⟨a4, c4, rfl, _, hr4, _⟩ := own_slice hv4
    have hfw4 : ∀ {M}, Frm M w w4 := fun {M} => (hfw3 (M := M)).trans (hf4 (M := M)) fun _ h _ => h
    refine build_ok (hro.frame (hfw4 (M := fun _ => False)) (by simp)) hr4 (hfr0 hfw4) hfit.all (fun i h => by subst hln; exact line_fro steps i h) (by omega) (by omega) (fun j ys hj => by have := hfit.le j ys hj; omega) hys fun u1 u2 u3 p5 w5 hf5 i1 i2 i3 i4 => ?_
    have hfw5 : ∀ {M}, Frm M w w5 := fun {M} => (hfw4 (M := M)).trans (hf5 (M := M)) fun _ h _ => h
    have hf35 : ∀ {M}, Frm M w3 w5 := fun {M} => (hf4 (M := M)).trans (hf5 (M := M)) fun _ h _ => h
    have g5 := g2.frame (hf35 (M := fun _ => False)) (by simp)
    have hfl5 := hfl3.frame (hf35 (M := fun _ => False)) (by simp)
    have x0 : (#[u1, u2, u3, p5] : Array Value)[0]? = some u1 := rfl
    have x1 : (#[u1, u2, u3, p5] : Array Value)[1]? = some u2 := rfl
    have x2 : (#[u1, u2, u3, p5] : Array Value)[2]? = some u3 := rfl
    have x3 : (#[u1, u2, u3, p5] : Array Value)[3]? = some p5 := rfl
    rw [op_ext x0, op_ext x1, op_ext x2, op_ext x3]
    refine equal_ok i1 g5 (by omega) fun w6 hd6 => ?_
    simp [-getElem?_pos, -Array.getElem?_eq_getElem, List.getElem?_cons_zero]
    refine equal_ok (i2.frame (hd6.frm (M := fun _ => False)) (by simp)) (g5.frame (hd6.frm (M := fun _ => False)) (by simp)) (by omega) fun w7 hd7 => ?_
    have hd57 : ∀ {M}, Frm M w5 w7 := fun {M} => (hd6.frm (M := M)).trans hd7.frm fun _ h _ => h
    simp [-getElem?_pos, -Array.getElem?_eq_getElem, List.getElem?_cons_zero]
    refine equal_ok (i3.frame (hd57 (M := fun _ => False)) (by simp)) (g5.frame (hd57 (M := fun _ => False)) (by simp)) (by omega) fun w8 hd8 => ?_
    have hd58 : ∀ {M}, Frm M w5 w8 := fun {M} => (hd57 (M := M)).trans hd8.frm fun _ h _ => h
    simp [-getElem?_pos, -Array.getElem?_eq_getElem, List.getElem?_cons_zero]
    refine equalB_ok (i4.frame (hd58 (M := fun _ => False)) (by simp)) (hfl5.frame (hd58 (M := fun _ => False)) (by simp)) (by rw [vers_len2]; omega) fun w9 hd9 => ?_
    simp [-getElem?_pos, -Array.getElem?_eq_getElem, List.getElem?_cons_zero]
    have hfw9 : ∀ {M}, Frm M w w9 := fun {M} => ((hfw5 (M := M)).trans (hd58 (M := M)) fun _ h _ => h).trans hd9.frm fun _ h _ => h
    exact awake_ok (hfr0 hfw9) fun w10 hf10 => hK w10 fun {M} => (hfw9 (M := M)).trans (hf10 (M := M)) fun _ h _ => h
  rcases hcl with ⟨rfl, hs0⟩ | ⟨g, cur, rfl, hg, hcur, hsz, hcv⟩
  · subst hs0
    obtain ⟨I, hI⟩ : ∃ I : Value → World → Prop, ∀ v w', I v w' ↔ v = .int .i64 0 ∧ w' = w1 := ⟨_, fun _ _ => Iff.rfl⟩
    refine Lp.intro I (fun _ _ => 0) ⟨(hI _ _).2 ⟨rfl, rfl⟩, ?_⟩
    intro wl v hIl
    obtain ⟨rfl, rfl⟩ := (hI _ _).1 hIl
    simp only [op_lss, Br_dec, List.length_nil]
    exact ⟨fun h => by omega, fun _ => main _ hf1 (.inl rfl)⟩
  have pt : ∀ k (hk : k < steps.length) r, r < 5 → cur[k * 5 + r]? = (steps[k].cells)[r]? := fun k hk r hr => by
    have h1 := flatMap_get cells_len steps k r hk hr
    have h2 : r < (steps[k].cells).length := by rw [cells_len]; exact hr
    rw [List.getElem?_eq_getElem h2]
    exact hcv _ _ (by rw [h1, List.getElem?_eq_getElem h2])
  obtain ⟨I, hI⟩ : ∃ I : Value → World → Prop, ∀ v w', I v w' ↔ ∃ (i : Nat) (cu : Array Value), v = .int .i64 i ∧ i ≤ steps.length ∧ (∀ {M}, Frm M w w') ∧ w'.heap[g]? = some (.cells cu 59 (0, 0)) ∧ steps.length * 5 ≤ cu.size ∧
      ∀ k (hk : k < steps.length) r, r < 5 → cu[k * 5 + r]? = (if k < i then ({ steps[k] with fro := (k : Int) } : Step) else steps[k]).cells[r]? := ⟨_, fun _ _ => Iff.rfl⟩
  obtain ⟨μ, hμ⟩ : ∃ μ : Value → World → Nat, ∀ (j : Nat) w, μ (.int .i64 j) w = steps.length - j := ⟨fun v _ => steps.length - (match v with | .int _ j => j.toNat | _ => 0), fun _ _ => rfl⟩
  refine Lp.intro I μ ⟨(hI _ _).2 ⟨0, cur, rfl, by omega, hf1, hcur, hsz, fun k hk r hr => by rw [if_neg (by omega)]; exact pt k hk r hr⟩, ?_⟩
  intro wl v hIl
  obtain ⟨i, cu, rfl, hi, hfr, hcu, hszu, hpu⟩ := (hI _ _).1 hIl
  simp only [op_lss, Br_dec]
  refine ⟨fun hlt => ?_, fun hnl => ?_⟩
  · have hi' : i < steps.length := by omega
    simp [-getElem?_pos, -Array.getElem?_eq_getElem, List.getElem?_cons_zero, add_spot, hcu, and_assoc]
    rw [wrap_small _ rfl (by omega) (by omega)]
    refine ⟨hi', by omega, (hI _ _).2 ⟨i + 1, _, rfl, by omega, fun {M} => (hfr (M := M)).trans (Frm.upd (M := fun k => k = g) _ _ fun _ => rfl) fun k hk hlt => by omega, heap_upd_same hcu, by simpa using hszu, fun k hk r hr => ?_⟩, ?_⟩
    · by_cases e : k = i ∧ r = 1
      · obtain ⟨rfl, rfl⟩ := e
        rw [Array.getElem?_setIfInBounds_self_of_lt (by omega), if_pos (by omega)]
        rfl
      · rw [Array.getElem?_setIfInBounds_ne (by omega), hpu k hk r hr]
        by_cases hki : k < i
        · rw [if_pos hki, if_pos (by omega)]
        · rw [if_neg hki]
          by_cases hke : k = i
          · subst hke
            rw [if_pos (by omega)]
            match r, hr, e with
            | 0, _, _ => rfl
            | 1, _, e => exact absurd ⟨rfl, rfl⟩ e
            | 2, _, _ => rfl
            | 3, _, _ => rfl
            | 4, _, _ => rfl
          · rw [if_neg (by omega)]
    · have e : (i : Int) + 1 = ((i + 1 : Nat) : Int) := rfl
      rw [e, hμ, hμ]; omega
  · have hix : i = steps.length := by omega
    subst hix
    refine main wl hfr (.inr ⟨g, 0, cu, 59, _, rfl, hcu, fun j v hj => ?_⟩)
    have hjl : j < (line steps).length * 5 := by
      have := (List.getElem?_eq_some_iff.1 hj).1
      rwa [steps_len] at this
    rw [line_len] at hjl
    have hjc : j = j / 5 * 5 + j % 5 := by omega
    have hk : j / 5 < steps.length := by omega
    have hg1 := flatMap_get cells_len (line steps) (j / 5) (j % 5) (by rw [line_len]; exact hk) (by omega)
    rw [← hjc, line_get steps (j / 5) hk] at hg1
    have hp := hpu (j / 5) hk (j % 5) (by omega)
    rw [← hjc, if_pos hk, ← hg1, hj] at hp
    rw [Nat.zero_add]; exact hp
end Go.Proofs.Ytjlaclgikmmmlaa
