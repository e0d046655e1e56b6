/- The law FnItemBuild returns true for every input and leaves its arguments as they were. Conditions: none beyond the given statement. -/
import Derived.Test.YtbghmbbhkoniiaaGreatB4
import Derived.Test.YtbghmbbhkoniiaaGreatB6
set_option maxRecDepth 100000
set_option linter.unusedSimpArgs false
set_option linter.unusedVariables false
set_option maxHeartbeats 8000000
namespace Go.Proofs.YtbghmbbhkoniiaaGreat
open Go.Vc Go.Proofs Go.ChangeShapes Go.WideShapes Go.ChangeAt Go.RowKit
variable {H : Type} {enc : TypeId × Value → H} {W : World}
theorem fnItemBuild_lifted (os : Os) (started : os.Started) (H : Type) (enc : TypeId × Value → H) :
    ReturnsInHanded {} Tryz.checked os 4 .any (Rows.fnItemBuildSpec.pre6 enc Tryz.prog Tryz.f4 [] false) (Rows.fnItemBuildSpec.post enc Tryz.prog Tryz.f4 false true false false) := by
  refine returns_true (C := Tryz.checked) (fn := Tryz.f4) (tb := 4) I.row_own started (by kernel_rfl) Tryz.func4
    (ChangeSpec.witness6 (enc := enc) (C := Tryz.checked) false ⟨#[], #[.agg #[.int .u32 0, .int .u32 0, .int .u8 0], .slice none 0 0, .slice none 0 0], []⟩ 8 (by kernel_rfl) (by kernel_rfl) (by kernel_rfl) (by kernel_rfl))
    I.row_laid (by kernel_rfl) rfl (by kernel_rfl) Tryz.underlying4 (fun ds hd => ?_) fun W base args ds before hsh hval hA hlt => ?_
  · match ds, hd with
    | [_, _, _], _ => rfl
  have hval' : ∀ (j : Nat) t v, Tryz.f4.params[j]? = some t → args[j]? = some v → Value.okWide Tryz.prog W .any base t v := hval
  have hA' : DataW.TrodAll enc Tryz.prog W 0 (fun _ => true) true Tryz.f4.params.toList args.toList ds before := hA
  rw [Tryz.params4] at hA' hval'
  obtain ⟨v0, v1, v2, d0, d1, d2, p0, p1, p2, rfl, rfl, rfl, g0, g1, g2⟩ := trodAll_three hA'
  obtain ⟨md, ml, sh, rfl⟩ := I.open_hash (hval' 0 24 v0 rfl rfl) g0
  obtain ⟨a1, c1, s1, rfl, hc1, hm1, hn1, h1⟩ := I.open_msteps (hval' 1 26 v1 rfl rfl) g1
  obtain ⟨a2, c2, s2, rfl, hc2, hm2, hn2, h2⟩ := I.open_ints (hval' 2 25 v2 rfl rfl) g2
  exact S.law_itemBuild ⟨a1, c1, rfl, hc1, hm1, h1, hn1⟩ h2 fun w' hf => ⟨rfl, fun M => hf.to fun _ h => h.elim⟩
theorem fnItemBuild_holds : Rows.FnItemBuildSaid :=
  OpenClaim.holds_of_wide 4 Tryz.f4 rfl rfl rfl rfl rfl rfl rfl ⟨rfl, rfl, rfl, rfl, rfl⟩ rfl rfl rfl rfl rfl (by kernel_rfl) Tryz.func4 (by kernel_rfl)
    (of_decide_eq_true (by kernel_rfl)) (by unfold Func.isWrapper; first | (rw [if_pos (by decide +kernel)]; kernel_rfl) | (rw [if_neg (by decide +kernel)]; exact ⟨rfl, rfl⟩))
    (fun os started H enc _ => fnItemBuild_lifted os started H enc)
#print axioms fnItemBuild_holds
end Go.Proofs.YtbghmbbhkoniiaaGreat
