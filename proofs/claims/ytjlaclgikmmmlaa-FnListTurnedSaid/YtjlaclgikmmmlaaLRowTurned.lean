/- The law FnListTurned returns true for every input and leaves its arguments as they were. Conditions: none beyond the given statement. -/
import Derived.Test.YtjlaclgikmmmlaaLOpen
import Derived.Test.YtjlaclgikmmmlaaLLawM
set_option maxRecDepth 100000
set_option linter.unusedSimpArgs false
set_option linter.unusedVariables false
set_option maxHeartbeats 8000000
namespace Go.Proofs.Ytjlaclgikmmmlaa
open Go.Vc Go.Proofs Go.ChangeShapes Go.WideShapes Go.ChangeAt Go.RowKit
variable {H : Type} {enc : TypeId × Value → H} {W : World}

theorem fnListTurned_lifted (os : Os) (started : os.Started) (H : Type) (enc : TypeId × Value → H) :
    ReturnsInHanded {} Try.checked os 6 .any (Rows.fnListTurnedSpec.pre6 enc Try.prog Try.f6 [] false) (Rows.fnListTurnedSpec.post enc Try.prog Try.f6 false true false false) := by
  refine returns_true (C := Try.checked) (fn := Try.f6) (tb := 4) row_own started (by kernel_rfl) Try.func6
    (ChangeSpec.witness6 (enc := enc) (C := Try.checked) false ⟨#[], #[.slice none 0 0, .slice none 0 0], []⟩ 8 (by kernel_rfl) (by kernel_rfl) (by kernel_rfl) (by kernel_rfl))
    row_laid (by kernel_rfl) rfl (by kernel_rfl) Try.underlying4 (fun ds hd => ?_) fun W base args ds before hsh hval hA hlt => ?_
  · match ds, hd with
    | [_, _], _ => rfl
  have hval' : ∀ (j : Nat) t v, Try.f6.params[j]? = some t → args[j]? = some v → Value.okWide Try.prog W .any base t v := hval
  have hA' : DataW.TrodAll enc Try.prog W 0 (fun _ => true) true Try.f6.params.toList args.toList ds before := hA
  rw [Try.params6] at hA' hval'
  obtain ⟨v0, v1, d0, d1, p0, p1, rfl, rfl, rfl, h0, h1⟩ := trodAll_two hA'
  obtain ⟨a0, c0, xs, rfl, hc0, _, hn0, hb0, hr0, _⟩ := open_i64s Try.underlying22 Try.underlying2 (by kernel_rfl) (hval' 0 22 v0 rfl rfl) h0
  obtain ⟨a1, c1, steps, rfl, hb1, hr1⟩ := open_steps (hval' 1 33 v1 rfl rfl) h1
  exact law_turned (gl_of hsh) (ints_of hc0 hn0 hr0) hr1 fun w' hf => ⟨rfl, fun M => hf⟩

theorem fnListTurned_holds : Rows.FnListTurnedSaid :=
  OpenClaim.holds_of_wide 6 Try.f6 rfl rfl rfl rfl rfl rfl rfl ⟨rfl, rfl, rfl, rfl, rfl⟩ rfl rfl rfl rfl rfl (by kernel_rfl) Try.func6 (by kernel_rfl)
    (of_decide_eq_true (by kernel_rfl)) (by unfold Func.isWrapper; first | (rw [if_pos (by decide +kernel)]; kernel_rfl) | (rw [if_neg (by decide +kernel)]; exact ⟨rfl, rfl⟩))
    (fun os started H enc _ => fnListTurned_lifted os started H enc)
#print axioms fnListTurned_holds
end Go.Proofs.Ytjlaclgikmmmlaa
