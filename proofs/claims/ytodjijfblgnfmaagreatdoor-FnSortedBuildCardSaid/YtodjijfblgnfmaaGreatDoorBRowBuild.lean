/- The law FnSortedBuild returns true for every input and leaves its arguments as they were. Conditions: the listed package-level variables hold what the program lays into them, which the card ties to its text; none beyond the given statement. -/
import Derived.Test.YtodjijfblgnfmaaGreatDoorX7
import Derived.SevenTiedAt
set_option maxRecDepth 100000
set_option linter.unusedSimpArgs false
set_option linter.unusedVariables false
set_option maxHeartbeats 8000000
namespace Go.Proofs.YtodjijfblgnfmaaGreatDoor
open Go.Vc Go.Proofs Go.Vc.Bt Go.ChangeShapes Go.WideShapes Go.ChangeAt Go.RowKit
variable {H : Type} {enc : TypeId × Value → H} {W : World}
theorem fnSortedBuildCard_holds : Rows.FnSortedBuildCardSaid :=
  Claim7.holds_tied_plain_at .later [] [.data, .data, .data] true (true, "b77c031a9309509560a12c06badec3c13cbce84616160ed1cdc28dbca5189727") true
    fnSortedBuild_holds (fun _ h => by cases h) (by kernel_rfl) (fun _ h => by cases h) fnSortedBuild_row_tie rfl ⟨rfl, rfl⟩ (by kernel_rfl) rfl
    (fun f fn hf hfn => by
      obtain rfl : f = 9 := Option.some.inj ((show Tryz.prog.funcNamed "pub-bracken/laws.FnSortedBuild" = some 9 by kernel_rfl).symm.trans hf) |>.symm
      obtain rfl : fn = Tryz.f9 := (Option.some.inj (Tryz.func9.symm.trans hfn)).symm
      exact ⟨by kernel_rfl, fun j t ht => by
        rw [Tryz.params9] at ht
        have hm : t ∈ [4, 23, 24] := by simpa using Array.mem_of_getElem? ht
        have hall : ([4, 23, 24].all fun u => !Tryz.prog.wantsStandIn u) = true := by kernel_rfl
        exact (show Tryz.prog.wantsStandIn t = false by simpa using List.all_eq_true.1 hall t hm)⟩)
    (by kernel_rfl)
#print axioms fnSortedBuildCard_holds
end Go.Proofs.YtodjijfblgnfmaaGreatDoor
