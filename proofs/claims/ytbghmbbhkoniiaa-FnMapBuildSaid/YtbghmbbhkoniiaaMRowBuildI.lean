/- The law FnMapBuild returns true for every input and leaves its arguments as they were. Conditions: none beyond the given statement. -/
import Derived.Test.YtbghmbbhkoniiaaB6
import Derived.Test.YtbghmbbhkoniiaaB7
set_option maxRecDepth 100000
set_option linter.unusedSimpArgs false
set_option linter.unusedVariables false
set_option maxHeartbeats 8000000
namespace Go.Proofs.Ytbghmbbhkoniiaa
open Go.Vc Go.Proofs Go.ChangeShapes Go.WideShapes Go.ChangeAt Go.RowKit
variable {H : Type} {enc : TypeId × Value → H} {W : World}
theorem fnMapBuild_lifted (os : Os) (started : os.Started) (H : Type) (enc : TypeId × Value → H) :
    ReturnsInHanded {} Try.checked os 11 .any (Rows.fnMapBuildSpec.pre6 enc Try.prog Try.f11 [] false) (Rows.fnMapBuildSpec.post enc Try.prog Try.f11 false true false false) := by
  refine returns_true (C := Try.checked) (fn := Try.f11) (tb := 4) I.row_own started (by kernel_rfl) Try.func11
    (ChangeSpec.witness6 (enc := enc) (C := Try.checked) false ⟨#[], #[.agg #[.int .u32 0, .int .u32 0, .int .u8 0], .slice none 0 0, .slice none 0 0], []⟩ 8 (by kernel_rfl) (by kernel_rfl) (by kernel_rfl) (by kernel_rfl))
    I.row_laid (by kernel_rfl) rfl (by kernel_rfl) Try.underlying4 (fun ds hd => ?_) fun W base args ds before hsh hval hA hlt => ?_
  · match ds, hd with
    | [_, _, _], _ => rfl
  have hval' : ∀ (j : Nat) t v, Try.f11.params[j]? = some t → args[j]? = some v → Value.okWide Try.prog W .any base t v := hval
  have hA' : DataW.TrodAll enc Try.prog W 0 (fun _ => true) true Try.f11.params.toList args.toList ds before := hA
  rw [Try.params11] at hA' hval'
  obtain ⟨v0, v1, v2, d0, d1, d2, p0, p1, p2, rfl, rfl, rfl, g0, g1, g2⟩ := trodAll_three hA'
  obtain ⟨md, ml, sh, rfl⟩ := I.open_hash (hval' 0 24 v0 rfl rfl) g0
  obtain ⟨a1, c1, s1, rfl, hc1, hm1, hn1, h1⟩ := I.open_msteps (hval' 1 25 v1 rfl rfl) g1
  obtain ⟨a2, c2, s2, rfl, hc2, hm2, hn2, h2⟩ := I.open_ints (hval' 2 65 v2 rfl rfl) g2
  exact I.law_build ⟨a1, c1, rfl, hc1, hm1, h1, hn1⟩ h2 fun w' hf => ⟨rfl, fun M => hf.to fun _ h => h.elim⟩
theorem fnMapBuild_holds : Rows.FnMapBuildSaid :=
  OpenClaim.holds_of_wide 11 Try.f11 rfl rfl rfl rfl rfl rfl rfl ⟨rfl, rfl, rfl, rfl, rfl⟩ rfl rfl rfl rfl rfl (by kernel_rfl) Try.func11 (by kernel_rfl)
    (of_decide_eq_true (by kernel_rfl)) (by unfold Func.isWrapper; first | (rw [if_pos (by decide +kernel)]; kernel_rfl) | (rw [if_neg (by decide +kernel)]; exact ⟨rfl, rfl⟩))
    (fun os started H enc _ => fnMapBuild_lifted os started H enc)
#print axioms fnMapBuild_holds
end Go.Proofs.Ytbghmbbhkoniiaa
