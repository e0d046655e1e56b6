import Derived.Test.YtodjijfblgnfmaaGreatDoorX4
import Derived.Test.YtodjijfblgnfmaaGreatDoorX6
import Derived.SevenTiedAt
set_option linter.unusedSimpArgs false
set_option linter.unusedVariables false
set_option linter.unusedSectionVars false
set_option maxRecDepth 100000
set_option maxHeartbeats 4000000
section
set_option maxRecDepth 100000
set_option linter.unusedSimpArgs false
set_option linter.unusedVariables false
set_option maxHeartbeats 8000000
namespace Go.Proofs.YtodjijfblgnfmaaGreatDoor
open Go.Vc Go.Proofs Go.Vc.Bt Go.ChangeShapes Go.WideShapes Go.ChangeAt Go.RowKit
variable {H : Type} {enc : TypeId × Value → H} {W : World}
theorem fnSortedBuild_lifted (os : Os) (started : os.Started) (H : Type) (enc : TypeId × Value → H) :
    ReturnsInHanded {} Tryz.checked os 9 .any (fun w args => (Rows.fnSortedBuildSpec.pre enc Tryz.prog Tryz.f9 [] false w args ∧ laidMetH Tryz.prog laid3 w) ∧ sizedMet enc Tryz.prog Tryz.f9 (OpenSpec.ofChange Rows.fnSortedBuildSpec) false w args) (Rows.fnSortedBuildSpec.post enc Tryz.prog Tryz.f9 false true false false) := by
  refine returns_true_laid (C := Tryz.checked) (fn := Tryz.f9) (tb := 4) row_own started (by kernel_rfl) Tryz.func9
    (ChangeSpec.witness_shaped (enc := enc) (C := Tryz.checked) (os := os) (X := fun w _ => laidMetH Tryz.prog laid3 w) false (World.doorLaid Tryz.prog 24 os) #[.bool false, .agg #[.int .u8 0, .int .i64 0], .slice none 0 0] 8 rfl (World.shaped_of_RefB (by kernel_rfl) (by kernel_rfl)) (by kernel_rfl) (by kernel_rfl) (by kernel_rfl) (door_met os _))
    row_laid (by kernel_rfl) rfl (by kernel_rfl) Tryz.underlying4 (fun ds hd => ?_) fun W base args ds before hsh hL hval hA hlt => ?_
  · match ds, hd with
    | [_, _, _], _ => rfl
  have hval' : ∀ (j : Nat) t v, Tryz.f9.params[j]? = some t → args[j]? = some v → Value.okWide Tryz.prog W .any base t v := hval
  have hA' : DataW.TrodAll enc Tryz.prog W 0 (fun _ => true) true Tryz.f9.params.toList args.toList ds before := hA
  rw [Tryz.params9] at hA' hval'
  obtain ⟨v0, v1, v2, d0, d1, d2, p0, p1, p2, rfl, rfl, rfl, g0, g1, g2⟩ := trodAll_three hA'
  obtain ⟨b0, rfl⟩ := open_flag (hval' 0 4 v0 rfl rfl) g0
  obtain ⟨kn1, m1, rfl, lo1, hi1⟩ := open_order (hval' 1 23 v1 rfl rfl) g1
  obtain ⟨a2, c2, s2, rfl, hc2, hm2, hn2, h2⟩ := open_steps (hval' 2 24 v2 rfl rfl) g2
  exact law_build h2 lo1 hi1 fun w' hf => ⟨rfl, fun M => hf.to fun _ h => h.elim⟩
theorem fnSortedBuild_c1 : (Rows.fnSortedBuildRow.inPlace == Tryz.pinned.checked.prog.inPlace 9) = true := by kernel_rfl
theorem fnSortedBuild_c2 : (Rows.fnSortedBuildRow.unfollowed == Tryz.pinned.checked.prog.unfollowed 9) = true := by kernel_rfl
theorem fnSortedBuild_c3 : (Rows.fnSortedBuildRow.recurses == Tryz.pinned.checked.prog.recurses 9) = true := by kernel_rfl
theorem fnSortedBuild_c4 : (Rows.fnSortedBuildRow.named == Tryz.pinned.checked.prog.varsNamed 9) = true := by kernel_rfl
theorem fnSortedBuild_c5 : laidOutB Tryz.pinned.checked.prog = true := row_laid
theorem fnSortedBuild_closed : joinedFacts Tryz.pinned.checked.prog 9 Tryz.f9 Rows.fnSortedBuildSpec Rows.fnSortedBuildRow = true := by
  unfold joinedFacts
  rw [fnSortedBuild_c1, fnSortedBuild_c2, fnSortedBuild_c3, fnSortedBuild_c4, fnSortedBuild_c5]
  kernel_rfl
theorem fnSortedBuild_holds : Rows.FnSortedBuildSaid :=
  OpenClaim.holds_of_wide 9 Tryz.f9 rfl rfl rfl rfl rfl rfl rfl ⟨rfl, rfl, rfl, rfl, rfl⟩ rfl rfl rfl rfl rfl (by kernel_rfl) Tryz.func9 fnSortedBuild_closed
    (of_decide_eq_true (by kernel_rfl)) (by unfold Func.isWrapper; first | (rw [if_pos (by decide +kernel)]; kernel_rfl) | (rw [if_neg (by decide +kernel)]; exact ⟨rfl, rfl⟩))
    (fun os started H enc _ => fnSortedBuild_lifted os started H enc)
end Go.Proofs.YtodjijfblgnfmaaGreatDoor
end
