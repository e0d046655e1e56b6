/- The law FnListMoves returns true for every input and leaves its arguments as they were. Conditions: none beyond the given statement. -/
import Derived.Test.YtjlaclgikmmmlaaLOpen
import Derived.Test.YtjlaclgikmmmlaaLLawM
set_option maxRecDepth 100000
set_option linter.unusedSimpArgs false
set_option linter.unusedVariables false
set_option maxHeartbeats 8000000
namespace Go.Proofs.Ytjlaclgikmmmlaa
open Go.Vc Go.Proofs Go.ChangeShapes Go.WideShapes Go.ChangeAt Go.RowKit
variable {H : Type} {enc : TypeId × Value → H} {W : World}

theorem move_of {n : Nat} {cs : List Value} {x : DataW H × List MemPlace} (hl : cs.length = 2) (h : DataW.trod enc Try.prog W 0 (fun _ => true) true n 51 cs = some x) : ∃ s : Mv, cs = s.cells := by
  match cs, hl, h with
  | [u0, u1], _, h =>
    have hu := Try.underlying51
    obtain ⟨n0, y0, z0⟩ := open_fields hu h (i := 0) rfl rfl (by kernel_rfl) (by simp)
    obtain ⟨n1, y1, z1⟩ := open_fields hu h (i := 1) rfl rfl (by kernel_rfl) (by simp)
    obtain ⟨m0, e0, b0, _⟩ := field_int Try.underlying5 z0
    obtain ⟨m1, e1, _⟩ := field_int Try.underlying3 z1
    have h0 : (m0.toNat : Int) = m0 := Int.toNat_of_nonneg b0
    refine ⟨⟨m0.toNat, m1⟩, ?_⟩
    simp only [List.getElem_cons_zero, List.getElem_cons_succ] at e0 e1
    simp only [Mv.cells, h0, e0, e1]

theorem open_moves {base : Nat} {v : Value} {d : DataW H} {ps : List MemPlace} (hok : Value.okWide Try.prog W .any base 50 v) (h : DataW.Trod enc Try.prog W 0 (fun _ => true) true 50 v d ps) :
    ∃ (a : Option Addr) (cap : Nat) (moves : List Mv), v = .slice a moves.length cap ∧ (∀ p, a = some p → p.block < W.heap.size) ∧ Row W a (moves.flatMap Mv.cells) := by
  obtain ⟨a, len, cap, f, rfl, h1, h2, h3, h4, h6, h7, h8⟩ := open_rows Try.underlying50 (c := 2) (by kernel_rfl) (by decide) hok h
  obtain ⟨g, hg⟩ := Classical.axiomOfChoice (r := fun i (s : Mv) => i < len → f i = s.cells) fun i => by
    by_cases hi : i < len
    · obtain ⟨n, x, hx⟩ := h8 i hi
      obtain ⟨s, hs⟩ := move_of (h7 i) hx
      exact ⟨s, fun _ => hs⟩
    · exact ⟨⟨0, 0⟩, fun h => absurd h hi⟩
  refine ⟨a, cap, (List.range len).map g, by simp, fun p hp => (h4 p hp).2, ?_⟩
  rw [Go.Deep.flatMap_congr_range hg] at h6
  rwa [List.flatMap_map]

theorem fnListMoves_lifted (os : Os) (started : os.Started) (H : Type) (enc : TypeId × Value → H) :
    ReturnsInHanded {} Try.checked os 7 .any (Rows.fnListMovesSpec.pre6 enc Try.prog Try.f7 [] false) (Rows.fnListMovesSpec.post enc Try.prog Try.f7 false true false false) := by
  refine returns_true (C := Try.checked) (fn := Try.f7) (tb := 4) row_own started (by kernel_rfl) Try.func7
    (ChangeSpec.witness6 (enc := enc) (C := Try.checked) false ⟨#[], #[.slice none 0 0, .slice none 0 0, .int .u8 0, .slice none 0 0], []⟩ 8 (by kernel_rfl) (by kernel_rfl) (by kernel_rfl) (by kernel_rfl))
    row_laid (by kernel_rfl) rfl (by kernel_rfl) Try.underlying4 (fun ds hd => ?_) fun W base args ds before hsh hval hA hlt => ?_
  · match ds, hd with
    | [_, _, _, _], _ => rfl
  have hval' : ∀ (j : Nat) t v, Try.f7.params[j]? = some t → args[j]? = some v → Value.okWide Try.prog W .any base t v := hval
  have hA' : DataW.TrodAll enc Try.prog W 0 (fun _ => true) true Try.f7.params.toList args.toList ds before := hA
  rw [Try.params7] at hA' hval'
  obtain ⟨v0, v1, v2, v3, d0, d1, d2, d3, p0, p1, p2, p3, rfl, rfl, rfl, h0, h1, h2, h3⟩ := trodAll_four hA'
  obtain ⟨a0, c0, xs, rfl, hc0, _, hn0, hb0, hr0, _⟩ := open_i64s Try.underlying22 Try.underlying2 (by kernel_rfl) (hval' 0 22 v0 rfl rfl) h0
  obtain ⟨a1, c1, steps, rfl, hb1, hr1⟩ := open_steps (hval' 1 33 v1 rfl rfl) h1
  obtain ⟨k, rfl, rfl, _, wk⟩ := open_int Try.underlying5 (hval' 2 5 v2 rfl rfl) h2
  have : 0 ≤ k ∧ k ≤ 255 := by simpa [Lit.wf, IntKind.min, IntKind.max, IntKind.signed, IntKind.bits] using wk
  obtain ⟨k, rfl⟩ : ∃ n : Nat, k = n := ⟨k.toNat, by omega⟩
  obtain ⟨a3, c3, moves, rfl, hb3, hr3⟩ := open_moves (hval' 3 50 v3 rfl rfl) h3
  exact law_moves (gl_of hsh) (ints_of hc0 hn0 hr0) (fun p hp => (hb0 p hp).2) hr1 hr3 (by omega) fun w' hf => ⟨rfl, fun M => hf⟩

theorem fnListMoves_holds : Rows.FnListMovesSaid :=
  OpenClaim.holds_of_wide 7 Try.f7 rfl rfl rfl rfl rfl rfl rfl ⟨rfl, rfl, rfl, rfl, rfl⟩ rfl rfl rfl rfl rfl (by kernel_rfl) Try.func7 (by kernel_rfl)
    (of_decide_eq_true (by kernel_rfl)) (by unfold Func.isWrapper; first | (rw [if_pos (by decide +kernel)]; kernel_rfl) | (rw [if_neg (by decide +kernel)]; exact ⟨rfl, rfl⟩))
    (fun os started H enc _ => fnListMoves_lifted os started H enc)
#print axioms fnListMoves_holds
end Go.Proofs.Ytjlaclgikmmmlaa
