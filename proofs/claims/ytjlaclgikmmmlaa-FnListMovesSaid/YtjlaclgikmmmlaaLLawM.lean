/- laws.FnListMoves, FnListTurned. -/
import Derived.Test.YtjlaclgikmmmlaaLWalk
import Derived.Test.YtjlaclgikmmmlaaLLawR
set_option maxRecDepth 100000
set_option linter.unusedSimpArgs false
set_option linter.unusedVariables false
set_option maxHeartbeats 8000000
namespace Go.Proofs.Ytjlaclgikmmmlaa
open Go.Vc Go.Proofs
variable {m : Bool} {w w' w0 : World} {F F' G : Nat → Prop} {K : Value → World → Prop} {Kp : KP} {K1 : Value → Prop}

theorem pur_neq_same {s : Sn} (hK : K1 (.bool false)) : (nice Try.prog).pur (.bin .neq 56 false false (.agg s.cells.toArray) (.agg s.cells.toArray)) K1 := by
  refine ⟨.bool false, fun w => ?_, hK⟩
  simp [VOp.sem, run_eqGuard_agg w _ 56 _ _ _ _ Try.eqGuardType56, run_neq_struct, run_equalIn_agg w 9999 56 _ _ (by unfold Program.fieldsOf; rw [Try.underlying56]) Try.stoodInHeld56, Program.fieldsOf, Try.underlying56, Sn.cells, go_sem]

theorem mto_ok {a1 : Option Addr} {c1 : Nat} {moves : List Mv} (h1 : Row w a1 (moves.flatMap Mv.cells)) (hn : moves.length < 2 ^ 19)
    (hK : ∀ v w', (∀ {M}, Frm M w w') → w'.ownsRow w.heap.size 43 2 v moves.length (moves.flatMap Mv.cells) → K v w') : Calls Try.prog 19 #[.slice a1 moves.length c1] w (ret K Kp) := by
  refine vc19_calls ?_
  simp [-getElem?_pos, -Array.getElem?_eq_getElem, List.getElem?_cons_zero, vc19]
  obtain ⟨I, hI⟩ : ∃ I : Value → Value → World → Prop, ∀ l v w', I l v w' ↔ ∃ (i : Nat), v = .int .i64 i ∧ i ≤ moves.length ∧ (∀ {M}, Frm M w w') ∧ w'.ownsRow w.heap.size 43 2 l i ((moves.take i).flatMap Mv.cells) := ⟨_, fun _ _ _ => Iff.rfl⟩
  obtain ⟨μ, hμ⟩ : ∃ μ : Value → Value → World → Nat, ∀ l (j : Nat) w, μ l (.int .i64 j) w = moves.length - j := ⟨fun _ v _ => moves.length - (match v with | .int _ j => j.toNat | _ => 0), fun _ _ _ => rfl⟩
  refine Lp.intro I μ ⟨(hI _ _ _).2 ⟨0, rfl, by omega, Frm.refl, own_nil⟩, ?_⟩
  intro wl l v hIl
  obtain ⟨i, rfl, hi, hfr, hown⟩ := (hI _ _ _).1 hIl
  simp only [op_lss, Br_dec]
  refine ⟨fun hlt => ?_, fun hnl => ?_⟩
  · have hi' : i < moves.length := by omega
    obtain ⟨bp, o, cs, e, ⟨fa, fb⟩, rfl, hcs, hsz, hext⟩ := (h1.frame (hfr (M := fun _ => False)) (by simp)).part mv_len (by decide) hi'
    have hls : List.take 2 (List.drop (o + i * 2) cs.toList) = moves[i].cells := by
      have := congrArg Array.toList hext
      simpa using this
    have how : ow #[Value.int IntKind.u8 0, Value.int IntKind.i64 0] 0 moves[i].cells = moves[i].cells.toArray := ow_all rfl
    have hone : ∀ u, u ∈ moves[i].cells → u.oneCell' = true := by intro u hu; simp [Mv.cells] at hu; rcases hu with rfl | rfl <;> rfl
    have hks : moves[i].cells.toArray = #[.int .u8 moves[i].kind, .int .i64 moves[i].index] := rfl
    simp [-getElem?_pos, -Array.getElem?_eq_getElem, List.getElem?_cons_zero, add_spot, hcs, hsz, and_assoc, hp_alloc_eq, alloc_upd, hls, how, hks]
    refine ⟨hi', hone, ?_⟩
    rw [← hks]
    have hob := own_lt hown
    have hsw : w.heap.size ≤ wl.heap.size := (hfr (M := fun _ => False)).size
    have hfb : ∀ {M}, Frm M wl ((wl.alloc (.cells moves[i].cells.toArray 51)).alloc (.cells moves[i].cells.toArray 43)) := (Frm.alloc _ _).trans (Frm.alloc _ _) fun _ h _ => h
    have hr1 : Row ((wl.alloc (.cells moves[i].cells.toArray 51)).alloc (.cells moves[i].cells.toArray 43)) (some ⟨wl.heap.size + 1, 0, none⟩) moves[i].cells := .inr ⟨_, _, _, _, _, rfl, hp_alloc_eq (by simp), fun j v hj => by simpa using hj⟩
    refine op_append (base := w.heap.size) (size := 2) (n := i) (m := 1) (xs := (moves.take i).flatMap Mv.cells) (news := moves[i].cells) ap44 (own_frame hown (hfb (M := fun _ => False)) (by simp)) hr1 rfl hone (by simp) (by omega) (by simp; omega) fun l4 w4 hl4 hf4 hbl4 => ?_
    rw [wrap_small _ rfl (by omega) (by omega)]
    refine ⟨(hI _ _ _).2 ⟨i + 1, rfl, by omega, fun {M} => ((hfr (M := M)).trans (hfb (M := M)) fun _ h _ => h).trans hf4 fun k hk hlt => by have := hob k hk.symm; omega, ?_⟩, ?_⟩
    · rw [List.take_succ_eq_append_getElem hi', List.flatMap_append]
      simpa using hl4
    · have e : (i : Int) + 1 = ((i + 1 : Nat) : Int) := rfl
      rw [e, hμ, hμ]; omega
  · have : i = moves.length := by omega
    subst this
    rw [List.take_length] at hown
    exact hK _ _ hfr hown

theorem law_moves {a0 a1 a3 : Option Addr} {c0 c1 c3 : Nat} {xs : List Int} {steps : List Step} {moves : List Mv} {ver : Nat} (hG : Gl w) (h0 : IsInts w (.slice a0 xs.length c0) xs) (h0b : ∀ p, a0 = some p → p.block < w.heap.size) (h1 : Row w a1 (steps.flatMap Step.cells))
    (h3 : Row w a3 (moves.flatMap Mv.cells)) (hver : ver < 256)
    (hK : ∀ w', (∀ {M}, Frm M w w') → K (.bool true) w') : Calls Try.prog 7 #[.slice a0 xs.length c0, .slice a1 steps.length c1, .int .u8 ver, .slice a3 moves.length c3] w (ret K Kp) := by
  refine vc7_calls ?_
  simp [-getElem?_pos, -Array.getElem?_eq_getElem, List.getElem?_cons_zero, vc7, Br_dec]
  refine ⟨fun _ => hK w Frm.refl, fun hx31 => ⟨fun _ => hK w Frm.refl, fun hn31 => ⟨fun _ => hK w Frm.refl, fun hm31 => ?_⟩⟩⟩
  have hfr0 : ∀ {w'}, (∀ {M}, Frm M w w') → Gl w' := fun hf => hG.frame (hf (M := fun _ => False)) (by simp)
  have hro : Row w a0 (i64s xs) := by obtain ⟨a, c, e, _, hr, _⟩ := h0; cases e; exact hr
  refine lfits_ok h0 h1 (by omega) (by omega) (fun w1 hf1 => ?_) (fun hfit h12 w1 hf1 => ?_)
  · simp [-getElem?_pos, -Array.getElem?_eq_getElem, List.getElem?_cons_zero]
    exact awake_ok (hfr0 hf1) fun w2 hf2 => hK w2 fun {M} => (hf1 (M := M)).trans (hf2 (M := M)) fun _ h _ => h
  simp [-getElem?_pos, -Array.getElem?_eq_getElem, List.getElem?_cons_zero, Br_dec]
  refine ⟨fun _ => awake_ok (hfr0 hf1) fun w2 hf2 => hK w2 fun {M} => (hf1 (M := M)).trans (hf2 (M := M)) fun _ h _ => h, fun hm100 => ?_⟩
  -- the kinds
  obtain ⟨I, hI⟩ : ∃ I : Value → World → Prop, ∀ v w', I v w' ↔ ∃ (i : Nat), v = .int .i64 i ∧ i ≤ moves.length ∧ ∀ {M}, Frm M w w' := ⟨_, fun _ _ => Iff.rfl⟩
  obtain ⟨μ, hμ⟩ : ∃ μ : Value → World → Nat, ∀ (j : Nat) w, μ (.int .i64 j) w = moves.length - j := ⟨fun v _ => moves.length - (match v with | .int _ j => j.toNat | _ => 0), fun _ _ => rfl⟩
  refine Lp.intro I μ ⟨(hI _ _).2 ⟨0, rfl, by omega, hf1⟩, ?_⟩
  intro wl v hIl
  obtain ⟨i, rfl, hi, hfr⟩ := (hI _ _).1 hIl
  simp only [op_lss, Br_dec]
  refine ⟨fun hlt => ?_, fun hnl => ?_⟩
  · have hi' : i < moves.length := by omega
    obtain ⟨bp, o, cs, e, ⟨fa, fb⟩, rfl, hcs, hsz, hext⟩ := (h3.frame (hfr (M := fun _ => False)) (by simp)).part mv_len (by decide) hi'
    have hls : List.take 2 (List.drop (o + i * 2) cs.toList) = moves[i].cells := by
      have := congrArg Array.toList hext
      simpa using this
    have how : ow #[Value.int IntKind.u8 0, Value.int IntKind.i64 0] 0 moves[i].cells = moves[i].cells.toArray := ow_all rfl
    have hone : ∀ u, u ∈ moves[i].cells → u.oneCell' = true := by intro u hu; simp [Mv.cells] at hu; rcases hu with rfl | rfl <;> rfl
    have hks : moves[i].cells.toArray = #[.int .u8 moves[i].kind, .int .i64 moves[i].index] := rfl
    simp [-getElem?_pos, -Array.getElem?_eq_getElem, List.getElem?_cons_zero, add_spot, hcs, hsz, and_assoc, hp_alloc_eq, alloc_upd, hls, how, hks, Br_dec]
    have hfa : ∀ {M}, Frm M w (wl.alloc (.cells moves[i].cells.toArray 51)) := fun {M} => (hfr (M := M)).trans (Frm.alloc _ _) fun _ h _ => h
    rw [← hks]
    refine ⟨hi', hone, fun _ => awake_ok (hfr0 hfa) fun w2 hf2 => hK w2 fun {M} => (hfa (M := M)).trans (hf2 (M := M)) fun _ h _ => h, fun _ => ?_⟩
    rw [wrap_small _ rfl (by omega) (by omega)]
    refine ⟨(hI _ _).2 ⟨i + 1, rfl, by omega, hfa⟩, ?_⟩
    have e : (i : Int) + 1 = ((i + 1 : Nat) : Int) := rfl
    rw [e, hμ, hμ]; omega
  clear hI hμ hIl hnl hi
  have hs1 : w.heap.size ≤ wl.heap.size := (hfr (M := fun _ => False)).size
  have hxl := hfit.base
  have hcost := hfit.cost
  refine spec_versions_ok (h0.frame (hfr (M := fun _ => False)) (by simp)) (fun b hb => ?_) (h1.frame (hfr (M := fun _ => False)) (by simp)) hfit.all (by omega) (fun i j ys hj => by have := hfit.len i j ys hj; omega) fun l p w2 hr2 => ?_
  · cases a0 with
    | none => cases hb
    | some q => cases hb; exact Nat.lt_of_lt_of_le (h0b q rfl) hs1
  obtain ⟨b, o, c, cs, e, fa, fb, rfl, hb, hu⟩ := hr2.laid
  have hf2 : ∀ {M}, Frm M w w2 := fun {M} => (hfr (M := M)).trans (hr2.frm (M := M)) fun _ h _ => h
  obtain ⟨k, hk⟩ : ∃ k, k = ver % (steps.length + 1) := ⟨_, rfl⟩
  have hkl : k < steps.length + 1 := by rw [hk]; exact Nat.mod_lt _ (by omega)
  have ev : IntKind.i64.wrap (ver : Int) = ver := wrap_small _ rfl (by omega) (by omega)
  have er : ((ver : Int)).tmod (((steps.length + 1 : Nat)) : Int) = (k : Int) := by
    rw [hk, Int.natCast_emod, Int.tmod_eq_emod_of_nonneg (by omega)]
  obtain ⟨ys, hys⟩ : ∃ ys, (vers xs steps).1[k]? = some ys := ⟨_, List.getElem?_eq_getElem (by rw [vers_len1]; exact hkl)⟩
  obtain ⟨u, g1, g2, g3⟩ := hu k ys hys
  have hyl := hfit.le k ys hys
  simp only [op_ext2_0, op_ext2_1, op_conv_5_3, ev, op_len_35, op_rem, er, op_ix_35, op_ld_22, add_spot, Int.toNat_natCast, Nat.mul_one]
  refine ⟨by omega, ⟨by omega, by omega⟩, cs, e, (fa, fb), hb, trivial, u, g1, ?_⟩
  obtain ⟨au, cu, rfl, hcu, hru, hau⟩ := g2
  refine walk_ok ⟨au, cu, rfl, hcu, hru, hau⟩ (h3.frame (hf2 (M := fun _ => False)) (by simp)) (by omega) (by omega) fun v3 w3 hf3 hv3 => ?_
  have hfw3 : ∀ {M}, Frm M w w3 := fun {M} => (hf2 (M := M)).trans (hf3 (M := M)) fun _ h _ => h
  simp only [op_ext2_0, op_ext2_1, call_15]
  refine to_ok (h1.frame (hfw3 (M := fun _ => False)) (by simp)) (by omega) fun v4 w4 hf4 hv4 => ?_
  obtain ⟨a4, c4, rfl, _, hr4, _⟩ := own_slice hv4
  have hfw4 : ∀ {M}, Frm M w w4 := fun {M} => (hfw3 (M := M)).trans (hf4 (M := M)) fun _ h _ => h
  refine mto_ok (h3.frame (hfw4 (M := fun _ => False)) (by simp)) (by omega) fun v5 w5 hf5 hv5 => ?_
  obtain ⟨a5, c5, rfl, _, hr5, _⟩ := own_slice hv5
  have hfw5 : ∀ {M}, Frm M w w5 := fun {M} => (hfw4 (M := M)).trans (hf5 (M := M)) fun _ h _ => h
  refine iterate_ok (hro.frame (hfw5 (M := fun _ => False)) (by simp)) (hr4.frame (hf5 (M := fun _ => False)) (by simp)) hr5 (hfr0 hfw5) hfit.all (by omega) (by omega) (by omega) (by omega) hys fun v6 w6 hf6 hv6 => ?_
  obtain ⟨a6, c6, rfl, _, hr6, hn6, _⟩ := own_slice hv6
  obtain ⟨a3', c3', rfl, _, hr3, hn3, _⟩ := own_slice hv3
  have hfw6 : ∀ {M}, Frm M w w6 := fun {M} => (hfw5 (M := M)).trans (hf6 (M := M)) fun _ h _ => h
  have hf36 : ∀ {M}, Frm M w3 w6 := fun {M} => ((hf4 (M := M)).trans (hf5 (M := M)) fun _ h _ => h).trans (hf6 (M := M)) fun _ h _ => h
  simp [-getElem?_pos, -Array.getElem?_eq_getElem, List.getElem?_cons_zero]
  obtain ⟨I, hI⟩ : ∃ I : Value → World → Prop, ∀ v w', I v w' ↔ ∃ (i : Nat), v = .int .i64 i ∧ i ≤ moves.length ∧ ∀ {M}, Frm M w6 w' := ⟨_, fun _ _ => Iff.rfl⟩
  obtain ⟨μ, hμ⟩ : ∃ μ : Value → World → Nat, ∀ (j : Nat) w, μ (.int .i64 j) w = moves.length - j := ⟨fun v _ => moves.length - (match v with | .int _ j => j.toNat | _ => 0), fun _ _ => rfl⟩
  refine Lp.intro I μ ⟨(hI _ _).2 ⟨0, rfl, by omega, Frm.refl⟩, ?_⟩
  intro w7 v hIl
  obtain ⟨i, rfl, hi, hfr7⟩ := (hI _ _).1 hIl
  simp only [op_lss, Br_dec]
  have hfw7 : ∀ {M}, Frm M w w7 := fun {M} => (hfw6 (M := M)).trans (hfr7 (M := M)) fun _ h _ => h
  refine ⟨fun hlt => ?_, fun hnl => ?_⟩
  · have hi' : i < (walk ys moves).2.length := by rw [walk_len]; omega
    obtain ⟨bp, o6, cs6, e6, ⟨fa6, fb6⟩, rfl, hcs6, hsz6, hext6⟩ := (hr6.frame (hfr7 (M := fun _ => False)) (by simp)).part sn_len (by decide) hi'
    obtain ⟨bq, oq, csq, eq, ⟨faq, fbq⟩, rfl, hcsq, hszq, hextq⟩ := (hr3.frame (hf36.trans (hfr7 (M := fun _ => False)) fun _ h _ => h) (by simp)).part sn_len (by decide) hi'
    generalize hsn : (walk ys moves).2[i] = sn at *
    have hls : List.take 4 (List.drop (o6 + i * 4) cs6.toList) = sn.cells := by
      have := congrArg Array.toList hext6
      simpa using this
    have how : ow #[Value.int IntKind.i64 0, Value.int IntKind.i64 0, Value.bool false, Value.bool false] 0 sn.cells = sn.cells.toArray := ow_all rfl
    have hone : ∀ u, u ∈ sn.cells → u.oneCell' = true := by intro u hu; simp [Sn.cells] at hu; rcases hu with rfl | rfl | rfl | rfl <;> rfl
    have hnq : bq ≠ w7.heap.size := Nat.ne_of_lt (lt_of_get hcsq)
    have hm7 : i < moves.length := by rwa [walk_len] at hi'
    have hself : sn.cells.toArray.extract 0 4 = sn.cells.toArray := rfl
    simp [-getElem?_pos, -Array.getElem?_eq_getElem, List.getElem?_cons_zero, add_spot, hcs6, hsz6, and_assoc, hp_alloc_eq, alloc_upd, hls, how, hp_alloc_ne, hnq, hcsq, hszq, hextq, hself]
    refine ⟨hm7, hone, hm7, pur_neq_same ?_⟩
    simp only [Br_bool, reduceCtorEq, false_implies, true_implies, true_and]
    rw [wrap_small _ rfl (by omega) (by omega)]
    refine ⟨(hI _ _).2 ⟨i + 1, rfl, by omega, fun {M} => (hfr7 (M := M)).trans ((Frm.drew _).trans (Frm.alloc _ _) fun _ h _ => h) fun _ h _ => h⟩, ?_⟩
    have e : (i : Int) + 1 = ((i + 1 : Nat) : Int) := rfl
    rw [e, hμ, hμ]; omega
  · exact awake_ok (hfr0 hfw7) fun w8 hf8 => hK w8 fun {M} => (hfw7 (M := M)).trans (hf8 (M := M)) fun _ h _ => h

/-! ### FnListTurned -/
def back (n : Nat) : List Mv := ⟨3, 0⟩ :: List.replicate n ⟨1, 0⟩
theorem back_succ (n : Nat) : back (n + 1) = back n ++ [⟨1, 0⟩] := by simp [back, List.replicate_succ']
theorem back_len (n : Nat) : (back n).length = n + 1 := by simp [back]
theorem walk_back {ys : List Int} (hy : ys ≠ []) : ∀ j, j ≤ ys.length → (walk ys (back j)).1 = (ys.length : Int) - 1 - j ∧
    ∃ s0, (walk ys (back j)).2 = s0 :: (List.range j).map fun (i : Nat) => ⟨((ys.length - 1 - i : Nat) : Int), ys.getD (ys.length - 1 - i) 0, false, decide (ys.length - 1 - i = 0)⟩
  | 0, _ => by
    have hp : ¬ ys = [] := hy
    refine ⟨?_, ⟨(mv ys 0 ⟨3, 0⟩).2.1, (mv ys 0 ⟨3, 0⟩).2.2.1, (mv ys 0 ⟨3, 0⟩).2.2.2, isDone ys (mv ys 0 ⟨3, 0⟩).1⟩, rfl⟩
    simp [walk, back, mvs, mv, hp]
  | j + 1, hj => by
    obtain ⟨h1, s0, h2⟩ := walk_back hy j (by omega)
    have hd : isDone ys ((ys.length : Int) - 1 - j) = false := by simp [isDone]; omega
    have hm : mv ys ((ys.length : Int) - 1 - j) ⟨1, 0⟩ = ((ys.length : Int) - 1 - j - 1, (ys.length : Int) - 1 - j, ys.getD ((ys.length : Int) - 1 - j).toNat 0, false) := by
      simp only [mv, hd]; rfl
    rw [back_succ, walk_snoc]
    simp only [mvs, h1, hm]
    refine ⟨by omega, s0, ?_⟩
    rw [h2, List.range_succ]
    have e1 : (ys.length : Int) - 1 - j = ((ys.length - 1 - j : Nat) : Int) := by omega
    have e2 : isDone ys (((ys.length - 1 - j : Nat) : Int) - 1) = decide (ys.length - 1 - j = 0) := by unfold isDone; exact decide_eq_decide.2 (by omega)
    rw [e1, e2]
    simp

theorem law_turned {a0 a1 : Option Addr} {c0 c1 : Nat} {xs : List Int} {steps : List Step} (hG : Gl w) (h0 : IsInts w (.slice a0 xs.length c0) xs) (h1 : Row w a1 (steps.flatMap Step.cells))
    (hK : ∀ w', (∀ {M}, Frm M w w') → K (.bool true) w') : Calls Try.prog 6 #[.slice a0 xs.length c0, .slice a1 steps.length c1] w (ret K Kp) := by
  refine vc6_calls ?_
  simp [-getElem?_pos, -Array.getElem?_eq_getElem, List.getElem?_cons_zero, vc6, Br_dec]
  refine ⟨fun _ => hK w Frm.refl, fun hx31 => ⟨fun _ => hK w Frm.refl, fun hn31 => ?_⟩⟩
  have hfr0 : ∀ {w'}, (∀ {M}, Frm M w w') → Gl w' := fun hf => hG.frame (hf (M := fun _ => False)) (by simp)
  have hro : Row w a0 (i64s xs) := by obtain ⟨a, c, e, _, hr, _⟩ := h0; cases e; exact hr
  refine lfits_ok h0 h1 (by omega) (by omega) (fun w1 hf1 => ?_) (fun hfit h12 w1 hf1 => ?_)
  · simp [-getElem?_pos, -Array.getElem?_eq_getElem, List.getElem?_cons_zero]
    exact awake_ok (hfr0 hf1) fun w2 hf2 => hK w2 fun {M} => (hf1 (M := M)).trans (hf2 (M := M)) fun _ h _ => h
  simp [-getElem?_pos, -Array.getElem?_eq_getElem, List.getElem?_cons_zero]
  have hxl := hfit.base
  have hcost := hfit.cost
  refine to_ok (h1.frame (hf1 (M := fun _ => False)) (by simp)) (by omega) fun v w3 hf3 hv => ?_
  obtain ⟨a3, c3, rfl, _, hr3, _⟩ := own_slice hv
  have hf03 : ∀ {M}, Frm M w w3 := fun {M} => (hf1 (M := M)).trans (hf3 (M := M)) fun _ h _ => h
  refine run_ok (hro.frame (hf03 (M := fun _ => False)) (by simp)) hr3 (hfr0 hf03) hfit.all (by omega) (by omega) (fun j ys hj => by have := hfit.le j ys hj; omega) fun l4 p4 w4 hr4 => ?_
  obtain ⟨b4, o4, c4, cs4, e4, fa4, fb4, rfl, hb4, hu4⟩ := hr4.laid
  have hf4 : ∀ {M}, Frm M w w4 := fun {M} => (hf03 (M := M)).trans (hr4.frm (M := M)) fun _ h _ => h
  obtain ⟨ys, hys⟩ : ∃ ys, (vers xs steps).1[steps.length]? = some ys := ⟨_, List.getElem?_eq_getElem (by rw [vers_len1]; omega)⟩
  obtain ⟨u, g1, g2, g3⟩ := hu4 _ ys hys
  have hyl := hfit.le _ ys hys
  have ew : IntKind.i64.wrap ((steps.length : Int) + 1) = (steps.length : Int) + 1 := wrap_small _ rfl (by omega) (by omega)
  obtain ⟨au, cu, rfl, hcu, hru, hau⟩ := g2
  simp [-getElem?_pos, -Array.getElem?_eq_getElem, List.getElem?_cons_zero, add_spot, hb4, g1, ew]
  obtain ⟨w5, hw5⟩ : ∃ w5, w5 = w4.alloc (.cells #[.int .u8 3, .int .i64 0] 43) := ⟨_, rfl⟩
  rw [← hw5]
  have hf45 : ∀ {M}, Frm M w4 w5 := fun {M} => by rw [hw5]; exact Frm.alloc _ _
  have hw5b : w5.heap[w4.heap.size]? = some (.cells #[.int .u8 3, .int .i64 0] 43 (0, 0)) := by rw [hw5]; exact hp_alloc_eq rfl
  refine ⟨by omega, ?_⟩
  obtain ⟨I, hI⟩ : ∃ I : Value → Value → World → Prop, ∀ l v w', I l v w' ↔ ∃ (i : Nat), v = .int .i64 i ∧ i ≤ ys.length ∧ (∀ {M}, Frm M w4 w') ∧ w'.ownsRow w4.heap.size 43 2 l (i + 1) ((back i).flatMap Mv.cells) := ⟨_, fun _ _ _ => Iff.rfl⟩
  obtain ⟨μ, hμ⟩ : ∃ μ : Value → Value → World → Nat, ∀ l (j : Nat) w, μ l (.int .i64 j) w = ys.length - j := ⟨fun _ v _ => ys.length - (match v with | .int _ j => j.toNat | _ => 0), fun _ _ _ => rfl⟩
  refine Lp.intro I μ ⟨(hI _ _ _).2 ⟨0, rfl, by omega, hf45, ⟨rfl, .inr ⟨_, 1, _, rfl, Nat.le_refl _, hw5b, Nat.le_refl _, by decide, rfl, rfl⟩⟩⟩, ?_⟩
  intro wl l v hIl
  obtain ⟨i, rfl, hi, hfr, hown⟩ := (hI _ _ _).1 hIl
  simp only [op_lss, Br_dec]
  have hob := own_lt hown
  have hsw : w4.heap.size ≤ wl.heap.size := (hfr (M := fun _ => False)).size
  refine ⟨fun hlt => ?_, fun hnl => ?_⟩
  · simp [-getElem?_pos, -Array.getElem?_eq_getElem, List.getElem?_cons_zero]
    have hr1 : Row (wl.alloc (.cells #[.int .u8 1, .int .i64 0] 43)) (some ⟨wl.heap.size, 0, none⟩) [.int .u8 1, .int .i64 0] := .inr ⟨_, _, _, _, _, rfl, hp_alloc_eq rfl, fun j v hj => by simpa using hj⟩
    refine op_append (base := w4.heap.size) (size := 2) (n := i + 1) (m := 1) (xs := (back i).flatMap Mv.cells) ap44 (own_frame hown (Frm.alloc (M := fun _ => False) _ _) (by simp)) hr1 rfl (by simp) (by simp) (by omega) (by simp; omega) fun l4 w6 hl4 hf6 hbl4 => ?_
    rw [wrap_small _ rfl (by omega) (by omega)]
    refine ⟨(hI _ _ _).2 ⟨i + 1, rfl, by omega, fun {M} => ((hfr (M := M)).trans (Frm.alloc _ _) fun _ h _ => h).trans hf6 fun k hk hlt => by have := hob k hk.symm; omega, ?_⟩, ?_⟩
    · rw [back_succ, List.flatMap_append]
      exact hl4
    · have e : (i : Int) + 1 = ((i + 1 : Nat) : Int) := rfl
      rw [e, hμ, hμ]; omega
  have hin : i = ys.length := by omega
  subst hin
  have hfwl : ∀ {M}, Frm M w wl := fun {M} => (hf4 (M := M)).trans (hfr (M := M)) fun _ h _ => h
  obtain ⟨am, cm, rfl, hcm, hrm, _⟩ := own_slice hown
  refine to_ok (h1.frame (hfwl (M := fun _ => False)) (by simp)) (by omega) fun v7 w7 hf7 hv7 => ?_
  obtain ⟨a7, c7, rfl, _, hr7, _⟩ := own_slice hv7
  have hfw7 : ∀ {M}, Frm M w w7 := fun {M} => (hfwl (M := M)).trans (hf7 (M := M)) fun _ h _ => h
  simp [-getElem?_pos, -Array.getElem?_eq_getElem, List.getElem?_cons_zero]
  have e17 : (Value.slice am (ys.length + 1) cm) = .slice am (back ys.length).length cm := by rw [back_len]
  rw [e17]
  refine iterate_ok (k := steps.length) (hro.frame (hfw7 (M := fun _ => False)) (by simp)) hr7 (hrm.frame (hf7 (M := fun _ => False)) (by simp)) (hfr0 hfw7) hfit.all (by omega) (by omega) (by rw [back_len]; omega) (by omega) hys fun v8 w8 hf8 hv8 => ?_
  obtain ⟨a8, c8, rfl, hc8, hr8, hn8, _⟩ := own_slice hv8
  have hfw8 : ∀ {M}, Frm M w w8 := fun {M} => (hfw7 (M := M)).trans (hf8 (M := M)) fun _ h _ => h
  have hf48 : ∀ {M}, Frm M w4 w8 := fun {M} => ((hfr (M := M)).trans (hf7 (M := M)) fun _ h _ => h).trans (hf8 (M := M)) fun _ h _ => h
  rw [back_len] at hc8 hn8 ⊢
  obtain ⟨p8, rfl⟩ : ∃ p, a8 = some p := by
    cases a8 with
    | none => have := hn8 rfl; omega
    | some p => exact ⟨p, rfl⟩
  have hsp : p8.spot = none := by
    rcases hr8 with h | ⟨b, o, cs, e, fz, h1, _⟩
    · have := flatMap_len sn_len (walk ys (back ys.length)).2
      rw [h, walk_len, back_len] at this; simp at this
    · cases h1; rfl
  obtain ⟨b8, o8, sp8⟩ := p8
  simp only at hsp
  subst hsp
  simp only [op_ext2_0, op_ext2_1, op_len_45, op_len_44, op_neq, decide_true, Bool.not_true, Br_bool, reduceCtorEq, false_implies, true_implies, true_and]
  refine ⟨fun h => by simp at h, fun _ => ?_⟩
  rw [op_slice_lo (e := 49) (s := 4) (by kernel_rfl)]
  refine ⟨⟨by omega, by omega, by omega⟩, ?_⟩
  simp only [op_len_45]
  have h1n : (1 : Int).toNat = 1 := rfl
  rw [h1n, Nat.add_sub_cancel, Nat.one_mul]
  obtain ⟨I, hI⟩ : ∃ I : Value → World → Prop, ∀ v w', I v w' ↔ ∃ (i : Nat), v = .int .i64 i ∧ i ≤ ys.length ∧ ∀ {M}, Frm M w8 w' := ⟨_, fun _ _ => Iff.rfl⟩
  obtain ⟨μ, hμ⟩ : ∃ μ : Value → World → Nat, ∀ (j : Nat) w, μ (.int .i64 j) w = ys.length - j := ⟨fun v _ => ys.length - (match v with | .int _ j => j.toNat | _ => 0), fun _ _ => rfl⟩
  refine Lp.intro I μ ⟨(hI _ _).2 ⟨0, rfl, by omega, Frm.refl⟩, ?_⟩
  intro w9 v hIl
  obtain ⟨i, rfl, hi, hfr9⟩ := (hI _ _).1 hIl
  simp only [op_lss, Br_dec]
  have hfw9 : ∀ {M}, Frm M w w9 := fun {M} => (hfw8 (M := M)).trans (hfr9 (M := M)) fun _ h _ => h
  refine ⟨fun hlt => ?_, fun hnl => ?_⟩
  · have hi' : i < ys.length := by omega
    have hne : ys ≠ [] := fun e => by subst e; simp at hi'
    rw [if_neg (by omega)]
    obtain ⟨hw1, s0, hw2⟩ := walk_back hne ys.length (Nat.le_refl _)
    have hl1 : i + 1 < (walk ys (back ys.length)).2.length := by rw [walk_len, back_len]; omega
    obtain ⟨bq, oq, csq, eq, ⟨faq, fbq⟩, hq0, hcsq, hszq, hextq⟩ := (hr8.frame (hfr9 (M := fun _ => False)) (by simp)).part sn_len (by decide) hl1
    obtain ⟨rfl, rfl⟩ : b8 = bq ∧ o8 = oq := by simpa using hq0
    have hsn : (walk ys (back ys.length)).2[i + 1] = ⟨((ys.length - 1 - i : Nat) : Int), ys.getD (ys.length - 1 - i) 0, false, decide (ys.length - 1 - i = 0)⟩ := by
      simp [hw2]
    rw [hsn] at hextq
    obtain ⟨q, hq⟩ : ∃ q, q = ys.length - 1 - i := ⟨_, rfl⟩
    have hqy : q < ys.length := by omega
    rw [← hq] at hextq
    have hoff : o8 + (i + 1) * 4 = o8 + 4 + i * 4 := by omega
    rw [hoff] at hextq hszq
    have hg : ys.getD q 0 = ys[q] := by simp [List.getD, hqy]
    have hls : List.take 4 (List.drop (o8 + 4 + i * 4) csq.toList) = [.int .i64 (q : Int), .int .i64 ys[q], .bool false, .bool (decide (q = 0))] := by
      have := congrArg Array.toList hextq
      simp only [Sn.cells, hg] at this
      simpa using this
    have how : ow #[Value.int IntKind.i64 0, Value.int IntKind.i64 0, Value.bool false, Value.bool false] 0 [.int .i64 (q : Int), .int .i64 ys[q], .bool false, .bool (decide (q = 0))] = #[.int .i64 (q : Int), .int .i64 ys[q], .bool false, .bool (decide (q = 0))] := rfl
    have e1 : IntKind.i64.wrap ((ys.length : Int) - 1) = (ys.length : Int) - 1 := wrap_small _ rfl (by omega) (by omega)
    have e2 : IntKind.i64.wrap ((ys.length : Int) - 1 - i) = (q : Int) := by rw [wrap_small _ rfl (by omega) (by omega)]; omega
    obtain ⟨bu, ou, csu, eu, ⟨fau, fbu⟩, rfl, hcu1, hcu2⟩ := (hru.frame ((hf48 (M := fun _ => False)).trans (hfr9 (M := fun _ => False)) fun _ h _ => h) (by simp)).get (j := q) (by simpa [i64s] using hqy)
    have hgu : (i64s ys)[q]'(by simpa [i64s] using hqy) = .int .i64 ys[q] := by simp [i64s]
    rw [hgu] at hcu2
    have hnu : bu ≠ w9.heap.size := Nat.ne_of_lt (lt_of_get hcu1)
    simp [-getElem?_pos, -Array.getElem?_eq_getElem, List.getElem?_cons_zero, add_spot, hcsq, hszq, and_assoc, hp_alloc_eq, alloc_upd, hls, how, e1, e2, hp_alloc_ne, hnu, hcu1, hcu2]
    refine ⟨hi', hqy, ?_⟩
    rw [wrap_small _ rfl (by omega) (by omega)]
    refine ⟨(hI _ _).2 ⟨i + 1, rfl, by omega, fun {M} => (hfr9 (M := M)).trans ((Frm.drew _).trans (Frm.alloc _ _) fun _ h _ => h) fun _ h _ => h⟩, ?_⟩
    have e : (i : Int) + 1 = ((i + 1 : Nat) : Int) := rfl
    rw [e, hμ, hμ]; omega
  · exact awake_ok (hfr0 hfw9) fun w10 hf10 => hK w10 fun {M} => (hfw9 (M := M)).trans (hf10 (M := M)) fun _ h _ => h
end Go.Proofs.Ytjlaclgikmmmlaa
