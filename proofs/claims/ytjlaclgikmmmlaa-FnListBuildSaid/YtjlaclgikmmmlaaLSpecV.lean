/- spec.ListVersions. -/
import Derived.Test.YtjlaclgikmmmlaaLAfter
set_option maxRecDepth 100000
set_option linter.unusedSimpArgs false
set_option linter.unusedVariables false
set_option maxHeartbeats 8000000
namespace Go.Proofs.Ytjlaclgikmmmlaa
open Go.Vc Go.Proofs
variable {w w' w0 : World} {F F' G : Nat → Prop} {K : Value → World → Prop} {Kp : KP}
theorem spec_versions_ok {u0 : Value} {a1 : Option Addr} {c1 : Nat} {xs : List Int} {steps : List Step} (h0 : IsInts w u0 xs) (h0b : ∀ b, u0.ownBlock = some b → b < w.heap.size) (h1 : Row w a1 (steps.flatMap Step.cells))
    (hfit : AllFit steps) (hn : steps.length < 2 ^ 19) (hxl : ∀ i (j : Nat) (ys : List Int), (vers xs (steps.take i)).1[j]? = some ys → ys.length < 2 ^ 19)
    (hK : ∀ l p w', Runs w w' xs steps l p → K (.tuple #[l, p]) w') :
    Calls Try.prog 13 #[u0, .slice a1 steps.length c1] w (ret K Kp) := by
  refine vc13_calls ?_
  have hu01 : u0.oneCell' = true := by obtain ⟨a, c, rfl, _⟩ := h0; rfl
  simp [-getElem?_pos, -Array.getElem?_eq_getElem, List.getElem?_cons_zero, vc13, hu01]
  obtain ⟨I, hI⟩ : ∃ I : Value → Value → Value → World → Prop, ∀ l p v w', I l p v w' ↔ ∃ (i : Nat) (us : List Value), v = .int .i64 i ∧ i ≤ steps.length ∧ (∀ {M}, Frm M w w') ∧ w'.ownsRow w.heap.size 22 1 l (i + 1) us ∧
      w'.ownsRow w.heap.size 4 1 p i (bools (vers xs (steps.take i)).2) ∧ (∀ b, l.ownBlock = some b → p.ownBlock ≠ some b) ∧
      (∀ (j : Nat) (ys : List Int), (vers xs (steps.take i)).1[j]? = some ys → ∃ u, us[j]? = some u ∧ IsInts w' u ys ∧ ∀ b, u.ownBlock = some b → l.ownBlock ≠ some b ∧ p.ownBlock ≠ some b ∧ b < w'.heap.size) := ⟨_, fun _ _ _ _ => Iff.rfl⟩
  obtain ⟨μ, hμ⟩ : ∃ μ : Value → Value → Value → World → Nat, ∀ l p (j : Nat) w, μ l p (.int .i64 j) w = steps.length - j := ⟨fun _ _ v _ => steps.length - (match v with | .int _ j => j.toNat | _ => 0), fun _ _ _ _ => rfl⟩
  refine Lp.intro I μ ⟨(hI _ _ _ _).2 ⟨0, [u0], rfl, by omega, Frm.alloc _ _, ⟨rfl, .inr ⟨_, 1, #[u0], rfl, Nat.le_refl _, hp_alloc_new, Nat.le_refl _, by decide, rfl, rfl⟩⟩, own_nil, (fun b _ h => nomatch h), fun j ys hys => ?_⟩, ?_⟩
  · have hj : j = 0 := by have := (List.getElem?_eq_some_iff.1 hys).1; simp [vers] at this; exact this
    subst hj
    simp [vers] at hys
    subst hys
    refine ⟨u0, rfl, h0.frame (Frm.alloc (M := fun _ => False) _ _) (by simp), fun b hb => ⟨fun e => ?_, (fun h => nomatch h), by have := h0b b hb; simp; omega⟩⟩
    have h2 := Option.some.inj e
    have := h0b b hb
    simp only at h2
    omega
  intro wl l p v hIl
  obtain ⟨i, us, rfl, hi, hf, hown, hop, hne, hus⟩ := (hI _ _ _ _).1 hIl
  simp only [op_lss, Br_dec]
  refine ⟨fun hlt => ?_, fun hnl => ?_⟩
  · have hi' : i < steps.length := by omega
    obtain ⟨bp, o, cs, e, ⟨fa, fb⟩, rfl, hcs, hsz, hext⟩ := (h1.frame (hf (M := fun _ => False)) (by simp)).part cells_len (by decide) hi'
    have hls : List.take 5 (List.drop (o + i * 5) cs.toList) = steps[i].cells := by
      have := congrArg Array.toList hext
      simpa using this
    have how : ow #[Value.int IntKind.u8 0, Value.int IntKind.i64 0, Value.int IntKind.i64 0, Value.int IntKind.i64 0, Value.int IntKind.i64 0] 0 steps[i].cells = steps[i].cells.toArray := ow_all rfl
    have hone : ∀ u, u ∈ steps[i].cells → u.oneCell' = true := by intro u hu; simp [Step.cells] at hu; rcases hu with rfl | rfl | rfl | rfl | rfl <;> rfl
    obtain ⟨hf1, hf2, hf3, hf4⟩ := hfit i hi'
    have htk : steps.take (i + 1) = steps.take i ++ [steps[i]] := List.take_succ_eq_append_getElem hi'
    have hxl' := hxl i
    have hvl : (vers xs (steps.take i)).1.length = i + 1 := by
      have := (vers_len (steps.take i) ([xs], [])).1
      simp only [List.length_take] at this
      simp only [vers]; simp at this; omega
    obtain ⟨q, hq⟩ : ∃ q : Nat, (steps[i]).fro = q := ⟨(steps[i]).fro.toNat, by omega⟩
    obtain ⟨ys, hys⟩ : ∃ ys, (vers xs (steps.take i)).1[q]? = some ys := ⟨_, List.getElem?_eq_getElem (by omega)⟩
    obtain ⟨u, hu1, hu2, hu3⟩ := hus q ys hys
    have hadv : vers xs (steps.take (i + 1)) = ((vers xs (steps.take i)).1 ++ [(after ys steps[i]).1], (vers xs (steps.take i)).2 ++ [!(after ys steps[i]).2]) := by
      rw [htk, vers_snoc, adv, hq]; simp [hys]
    obtain ⟨al, cl, rfl, hcl, hrl, hal, hol⟩ := own_slice hown
    have husl : us.length = i + 1 := by have := hown.1; simpa using this
    obtain ⟨bl, ol, csl, el, ⟨fc, fd⟩, rfl, hcl1, hcl2⟩ := hrl.get (j := q) (by omega)
    have hget : us[q]'(by omega) = u := by rw [List.getElem?_eq_getElem (by omega)] at hu1; exact Option.some.inj hu1
    rw [hget] at hcl2
    have hnel : bl ≠ wl.heap.size := Nat.ne_of_lt (lt_of_get hcl1)
    have hks : steps[i].cells.toArray = #[.int .u8 steps[i].kind, .int .i64 steps[i].fro, .int .i64 steps[i].index, .int .i64 steps[i].fin, .int .i64 steps[i].value] := rfl
    simp [-getElem?_pos, -Array.getElem?_eq_getElem, List.getElem?_cons_zero, add_spot, hcs, hsz, and_assoc, hp_alloc_eq, alloc_upd, hls, how, hks, hq, hnel, hp_alloc_ne, hcl1, hcl2]
    have hks' : #[Value.int .u8 steps[i].kind, .int .i64 (q : Int), .int .i64 steps[i].index, .int .i64 steps[i].fin, .int .i64 steps[i].value] = steps[i].cells.toArray := by rw [hks, hq]
    refine ⟨hi', hone, by omega, ?_⟩
    rw [hks']
    have hfa : ∀ {M}, Frm M wl (wl.drew.alloc (.cells steps[i].cells.toArray 59)) := (Frm.drew wl).trans (Frm.alloc _ _) fun _ h _ => h
    have hsa : (wl.drew.alloc (.cells steps[i].cells.toArray 59)).heap.size = wl.heap.size + 1 := by simp
    refine after_ok (s := steps[i]) (hu2.frame (hfa (M := fun _ => False)) (by simp)) (fun b hb => by have := (hu3 b hb).2.2; omega) (by have := hxl' q ys hys; omega) hf1 hf4 fun v w2 hf2' hv hvb => ?_
    have hv1 : v.oneCell' = true := by obtain ⟨a, c, rfl, _⟩ := hv; rfl
    have hsw2 : wl.heap.size + 1 ≤ w2.heap.size := by have := (hf2' (M := fun _ => False)).size; omega
    have hsw : w.heap.size ≤ wl.heap.size := (hf (M := fun _ => False)).size
    simp [-getElem?_pos, -Array.getElem?_eq_getElem, List.getElem?_cons_zero, hv1]
    have hfb : ∀ {M}, Frm M wl (w2.alloc (.cells #[v] 22)) := fun {M} => ((hfa (M := M)).trans (hf2' (M := M)) fun _ h _ => h).trans (Frm.alloc _ _) fun _ h _ => h
    have hob := own_lt hown
    have hpb := own_lt hop
    generalize hlg : (Value.slice (some ⟨bl, ol, none⟩) (i + 1) cl) = l at *
    have hr1 : Row (w2.alloc (.cells #[v] 22)) (some ⟨w2.heap.size, 0, none⟩) [v] := .inr ⟨_, _, _, _, _, rfl, hp_alloc_new, fun j v hj => by simpa using hj⟩
    refine op_append (base := w.heap.size) (size := 1) (n := i + 1) (m := 1) (xs := us) (news := [v]) ap35 (own_frame hown (hfb (M := fun _ => False)) (by simp)) hr1 rfl (by simp [hv1]) (by simp) (by omega) (by simp; omega) fun l4 w4 hl4 hf4 hbl4 => ?_
    have hsw4 : w2.heap.size + 1 ≤ w4.heap.size := by have := hf4.size; simpa using this
    have hbl4 : l4.ownBlock = l.ownBlock ∨ l4.ownBlock = some (w2.heap.size + 1) := by simpa using hbl4
    have hpl : ∀ k, p.ownBlock = some k → some k ≠ l.ownBlock := fun k hk e => hne k e.symm hk
    have hp4 : w4.ownsRow w.heap.size 4 1 p i (bools (vers xs (steps.take i)).2) := own_frame (own_frame hop (hfb (M := fun _ => False)) (by simp)) hf4 hpl
    have hr2 : Row (w4.alloc (.cells #[.bool !(after ys steps[i]).2] 4)) (some ⟨w4.heap.size, 0, none⟩) (bools [!(after ys steps[i]).2]) := .inr ⟨_, _, _, _, _, rfl, hp_alloc_new, fun j v hj => by simpa [bools] using hj⟩
    refine op_append (base := w.heap.size) (size := 1) (n := i) (m := 1) (xs := bools (vers xs (steps.take i)).2) (news := bools [!(after ys steps[i]).2]) ap36 (own_frame hp4 (Frm.alloc (M := fun _ => False) _ _) (by simp)) hr2 rfl (by simp [bools]) (by simp) (by omega) (by simp; omega) fun p5 w5 hp5 hf5 hbp5 => ?_
    have hsw5 : w4.heap.size + 1 ≤ w5.heap.size := by have := hf5.size; simpa using this
    have hbp5 : p5.ownBlock = p.ownBlock ∨ p5.ownBlock = some (w4.heap.size + 1) := by simpa using hbp5
    rw [wrap_small _ rfl (by omega) (by omega)]
    have hf45 : Frm (fun k => some k = l.ownBlock ∨ some k = p.ownBlock) w2 w5 :=
      (((Frm.alloc w2 _).trans hf4 fun k hk _ => .inl hk).trans (Frm.alloc (M := fun _ => False) w4 _) fun k hk _ => hk.elim).trans hf5 fun k hk _ => .inr hk
    have hfw2 : ∀ {M}, Frm M wl w2 := fun {M} => (hfa (M := M)).trans (hf2' (M := M)) fun _ h _ => h
    have hown4 : ∀ k, l4.ownBlock = some k → some k ≠ p.ownBlock := fun k hk e => by
      rcases hbl4 with h | h
      · exact hne k (h ▸ hk) e.symm
      · rw [h] at hk
        obtain rfl := Option.some.inj hk
        have := (hpb _ e.symm).2; omega
    refine ⟨(hI _ _ _ _).2 ⟨i + 1, us ++ [v], rfl, by omega, fun {M} => ?_, ?_, ?_, fun k hk hk2 => ?_, fun j zs hzs => ?_⟩, ?_⟩
    · refine ((hf (M := M)).trans (hfw2 (M := M)) fun k hk _ => hk).trans hf45 fun k hk hlt => ?_
      rcases hk with hk | hk
      · have := (hob k hk.symm).1; omega
      · have := (hpb k hk.symm).1; omega
    · exact own_frame (own_frame hl4 (Frm.alloc (M := fun _ => False) _ _) (by simp)) hf5 hown4
    · rw [hadv]
      simpa [bools] using hp5
    · rcases hbp5 with h | h
      · exact hown4 k hk (h ▸ hk2).symm
      · rw [h] at hk2
        obtain rfl := Option.some.inj hk2
        have := (own_lt hl4 _ hk).2
        omega
    · have hfin : ∀ {u' : Value} {zs : List Int}, IsInts w2 u' zs → (∀ b, u'.ownBlock = some b → l.ownBlock ≠ some b ∧ p.ownBlock ≠ some b ∧ b < w2.heap.size) →
          IsInts w5 u' zs ∧ ∀ b, u'.ownBlock = some b → l4.ownBlock ≠ some b ∧ p5.ownBlock ≠ some b ∧ b < w5.heap.size := fun hi2 hb => by
        refine ⟨hi2.frame hf45 fun b hb' he => he.elim (fun h => (hb b hb').1 h.symm) fun h => (hb b hb').2.1 h.symm, fun b hb' => ⟨?_, ?_, by have := (hb b hb').2.2; omega⟩⟩
        · rcases hbl4 with h | h
          · rw [h]; exact (hb b hb').1
          · rw [h]; intro e; have := Option.some.inj e; have := (hb b hb').2.2; omega
        · rcases hbp5 with h | h
          · rw [h]; exact (hb b hb').2.1
          · rw [h]; intro e; have := Option.some.inj e; have := (hb b hb').2.2; omega
      rw [hadv] at hzs
      by_cases hji : j < i + 1
      · rw [List.getElem?_append_left (by omega)] at hzs
        obtain ⟨u', g1, g2, g3⟩ := hus j zs hzs
        have := hfin (g2.frame (hfw2 (M := fun _ => False)) (by simp)) fun b hb => ⟨(g3 b hb).1, (g3 b hb).2.1, by have := (g3 b hb).2.2; omega⟩
        exact ⟨u', by rw [List.getElem?_append_left (by omega)]; exact g1, this⟩
      · have hj2 : j = i + 1 := by
          have := (List.getElem?_eq_some_iff.1 hzs).1
          simp at this; omega
        subst hj2
        rw [List.getElem?_append_right (by omega), hvl] at hzs
        simp at hzs
        subst hzs
        have := hfin hv fun b hb => by
          have h6 := hvb b hb
          refine ⟨fun e => ?_, fun e => ?_, h6.2⟩
          · rcases h6.1 with h | h
            · exact (hu3 b h).1 e
            · have := (hob b e).2; omega
          · rcases h6.1 with h | h
            · exact (hu3 b h).2.1 e
            · have := (hpb b e).2; omega
        exact ⟨v, by rw [List.getElem?_append_right (by omega), husl]; simp, this⟩
    · have e : (i : Int) + 1 = ((i + 1 : Nat) : Int) := rfl
      rw [e, hμ, hμ]; omega
  · have : i = steps.length := by omega
    subst this
    rw [List.take_length] at hop hus
    refine hK _ _ _ ⟨hf, ⟨us, hown, fun j ys hys => ?_⟩, hop⟩
    obtain ⟨u, h1, h2, _⟩ := hus j ys hys
    exact ⟨u, h1, h2⟩
end Go.Proofs.Ytjlaclgikmmmlaa
