/- The law FnListBuild returns true for every input and leaves its arguments as they were. Conditions: none beyond the given statement. -/
import Derived.Test.YtjlaclgikmmmlaaLOpen
import Derived.Test.YtjlaclgikmmmlaaLLawB
set_option maxRecDepth 100000
set_option linter.unusedSimpArgs false
set_option linter.unusedVariables false
set_option maxHeartbeats 8000000
namespace Go.Proofs.Ytjlaclgikmmmlaa
open Go.Vc Go.Proofs Go.ChangeShapes Go.WideShapes Go.ChangeAt Go.RowKit
variable {H : Type} {enc : TypeId × Value → H} {W : World}

theorem open_steps' {base : Nat} {v : Value} {d : DataW H} {ps : List MemPlace} (hok : Value.okWide Try.prog W .any base 33 v) (h : DataW.Trod enc Try.prog W 0 (fun _ => true) true 33 v d ps) :
    ∃ (a : Option Addr) (cap : Nat) (steps : List Step), v = .slice a steps.length cap ∧ (∀ p, a = some p → p.block < W.heap.size) ∧ Row W a (steps.flatMap Step.cells) ∧ (a = none → steps = []) := by
  obtain ⟨a, len, cap, f, rfl, h1, h2, h3, h4, h6, h7, h8⟩ := open_rows Try.underlying33 (c := 5) (by kernel_rfl) (by decide) hok h
  obtain ⟨g, hg⟩ := Classical.axiomOfChoice (r := fun i (s : Step) => i < len → f i = s.cells) fun i => by
    by_cases hi : i < len
    · obtain ⟨n, x, hx⟩ := h8 i hi
      obtain ⟨s, hs⟩ := step_of (h7 i) hx
      exact ⟨s, fun _ => hs⟩
    · exact ⟨⟨0, 0, 0, 0, 0⟩, fun h => absurd h hi⟩
  refine ⟨a, cap, (List.range len).map g, by simp, fun p hp => (h4 p hp).2, ?_, fun e => by rw [h3 e]; rfl⟩
  rw [Go.Deep.flatMap_congr_range hg] at h6
  rwa [List.flatMap_map]

theorem fnListBuild_lifted (os : Os) (started : os.Started) (H : Type) (enc : TypeId × Value → H) :
    ReturnsInHanded {} Try.checked os 8 .any (Rows.fnListBuildSpec.pre6 enc Try.prog Try.f8 [] false) (Rows.fnListBuildSpec.post enc Try.prog Try.f8 false true false false) := by
  refine returns_true (C := Try.checked) (fn := Try.f8) (tb := 4) row_own started (by kernel_rfl) Try.func8
    (ChangeSpec.witness6 (enc := enc) (C := Try.checked) false ⟨#[], #[.slice none 0 0, .slice none 0 0], []⟩ 8 (by kernel_rfl) (by kernel_rfl) (by kernel_rfl) (by kernel_rfl))
    row_laid (by kernel_rfl) rfl (by kernel_rfl) Try.underlying4 (fun ds hd => ?_) fun W base args ds before hsh hval hA hlt => ?_
  · match ds, hd with
    | [_, _], _ => rfl
  have hval' : ∀ (j : Nat) t v, Try.f8.params[j]? = some t → args[j]? = some v → Value.okWide Try.prog W .any base t v := hval
  have hA' : DataW.TrodAll enc Try.prog W 0 (fun _ => true) true Try.f8.params.toList args.toList ds before := hA
  rw [Try.params8] at hA' hval'
  obtain ⟨v0, v1, d0, d1, p0, p1, rfl, rfl, rfl, h0, h1⟩ := trodAll_two hA'
  obtain ⟨a0, c0, xs, rfl, hc0, _, hn0, hb0, hr0, _⟩ := open_i64s Try.underlying22 Try.underlying2 (by kernel_rfl) (hval' 0 22 v0 rfl rfl) h0
  obtain ⟨a1, c1, steps, rfl, hb1, hr1, hs1⟩ := open_steps' (hval' 1 33 v1 rfl rfl) h1
  exact law_build (gl_of hsh) (ints_of hc0 hn0 hr0) (fun p hp => (hb0 p hp).2) hr1 hs1 fun w' hf => ⟨rfl, fun M => hf⟩

theorem fnListBuild_holds : Rows.FnListBuildSaid :=
  OpenClaim.holds_of_wide 8 Try.f8 rfl rfl rfl rfl rfl rfl rfl ⟨rfl, rfl, rfl, rfl, rfl⟩ rfl rfl rfl rfl rfl (by kernel_rfl) Try.func8 (by kernel_rfl)
    (of_decide_eq_true (by kernel_rfl)) (by unfold Func.isWrapper; first | (rw [if_pos (by decide +kernel)]; kernel_rfl) | (rw [if_neg (by decide +kernel)]; exact ⟨rfl, rfl⟩))
    (fun os started H enc _ => fnListBuild_lifted os started H enc)
#print axioms fnListBuild_holds
end Go.Proofs.Ytjlaclgikmmmlaa
