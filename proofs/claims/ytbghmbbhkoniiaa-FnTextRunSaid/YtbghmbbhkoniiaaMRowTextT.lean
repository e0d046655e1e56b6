/- The law FnTextRun returns true for every input and leaves its arguments as they were. Conditions: none beyond the given statement. -/
import Derived.Test.YtbghmbbhkoniiaaT6
set_option maxRecDepth 100000
set_option linter.unusedSimpArgs false
set_option linter.unusedVariables false
set_option maxHeartbeats 8000000
namespace Go.Proofs.Ytbghmbbhkoniiaa
open Go.Vc Go.Proofs Go.ChangeShapes Go.WideShapes Go.ChangeAt Go.RowKit
variable {H : Type} {enc : TypeId × Value → H} {W : World}
theorem fnTextRun_lifted (os : Os) (started : os.Started) (H : Type) (enc : TypeId × Value → H) :
    ReturnsInHanded {} Try.checked os 7 .any (Rows.fnTextRunSpec.pre6 enc Try.prog Try.f7 [] false) (Rows.fnTextRunSpec.post enc Try.prog Try.f7 false true false false) := by
  refine returns_true (C := Try.checked) (fn := Try.f7) (tb := 4) T.row_own started (by kernel_rfl) Try.func7
    (ChangeSpec.witness6 (enc := enc) (C := Try.checked) false ⟨#[], #[.slice none 0 0], []⟩ 8 (by kernel_rfl) (by kernel_rfl) (by kernel_rfl) (by kernel_rfl))
    T.row_laid (by kernel_rfl) rfl (by kernel_rfl) Try.underlying4 (fun ds hd => ?_) fun W base args ds before hsh hval hA hlt => ?_
  · match ds, hd with
    | [_], _ => rfl
  have hval' : ∀ (j : Nat) t v, Try.f7.params[j]? = some t → args[j]? = some v → Value.okWide Try.prog W .any base t v := hval
  have hA' : DataW.TrodAll enc Try.prog W 0 (fun _ => true) true Try.f7.params.toList args.toList ds before := hA
  rw [Try.params7] at hA' hval'
  obtain ⟨v0, d0, rfl, rfl, g0⟩ := trodAll_one hA'
  obtain ⟨a0, c0, s0, rfl, hc0, hm0, hn0, h0⟩ := T.open_tsteps (hval' 0 53 v0 rfl rfl) g0
  exact T.law_text h0 fun w' hf => ⟨rfl, fun M => hf.to fun _ h => h.elim⟩
theorem fnTextRun_holds : Rows.FnTextRunSaid :=
  OpenClaim.holds_of_wide 7 Try.f7 rfl rfl rfl rfl rfl rfl rfl ⟨rfl, rfl, rfl, rfl, rfl⟩ rfl rfl rfl rfl rfl (by kernel_rfl) Try.func7 (by kernel_rfl)
    (of_decide_eq_true (by kernel_rfl)) (by unfold Func.isWrapper; first | (rw [if_pos (by decide +kernel)]; kernel_rfl) | (rw [if_neg (by decide +kernel)]; exact ⟨rfl, rfl⟩))
    (fun os started H enc _ => fnTextRun_lifted os started H enc)
#print axioms fnTextRun_holds
end Go.Proofs.Ytbghmbbhkoniiaa
