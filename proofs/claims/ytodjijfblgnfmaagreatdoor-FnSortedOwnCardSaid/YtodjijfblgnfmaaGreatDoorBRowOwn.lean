/- The law FnSortedOwn returns true for every input and leaves its arguments as they were. Conditions: the listed package-level variables hold what the program lays into them, which the card ties to its text; none beyond the given statement. -/
import Derived.Test.YtodjijfblgnfmaaGreatDoorO5
import Derived.SevenTiedAt
set_option maxRecDepth 100000
set_option linter.unusedSimpArgs false
set_option linter.unusedVariables false
set_option maxHeartbeats 8000000
namespace Go.Proofs.YtodjijfblgnfmaaGreatDoor
open Go.Vc Go.Proofs Go.Vc.Bt Go.ChangeShapes Go.WideShapes Go.ChangeAt Go.RowKit
variable {H : Type} {enc : TypeId × Value → H} {W : World}
theorem fnSortedOwn_lifted (os : Os) (started : os.Started) (H : Type) (enc : TypeId × Value → H) :
    ReturnsInHanded {} Tryz.checked os 5 .any (fun w args => (Rows.fnSortedOwnSpec.pre enc Tryz.prog Tryz.f5 [] false w args ∧ laidMetH Tryz.prog laid3 w) ∧ sizedMet enc Tryz.prog Tryz.f5 (OpenSpec.ofChange Rows.fnSortedOwnSpec) false w args) (Rows.fnSortedOwnSpec.post enc Tryz.prog Tryz.f5 false true false false) := by
  refine returns_true_laid (C := Tryz.checked) (fn := Tryz.f5) (tb := 4) row_own started (by kernel_rfl) Tryz.func5
    (ChangeSpec.witness_shaped (enc := enc) (C := Tryz.checked) (os := os) (X := fun w _ => laidMetH Tryz.prog laid3 w) false (World.doorLaid Tryz.prog 24 os) #[.bool false, .slice none 0 0] 8 rfl (World.shaped_of_RefB (by kernel_rfl) (by kernel_rfl)) (by kernel_rfl) (by kernel_rfl) (by kernel_rfl) (door_met os _))
    row_laid (by kernel_rfl) rfl (by kernel_rfl) Tryz.underlying4 (fun ds hd => ?_) fun W base args ds before hsh hL hval hA hlt => ?_
  · match ds, hd with
    | [_, _], _ => rfl
  have hval' : ∀ (j : Nat) t v, Tryz.f5.params[j]? = some t → args[j]? = some v → Value.okWide Tryz.prog W .any base t v := hval
  have hA' : DataW.TrodAll enc Tryz.prog W 0 (fun _ => true) true Tryz.f5.params.toList args.toList ds before := hA
  rw [Tryz.params5] at hA' hval'
  obtain ⟨v0, v1, d0, d1, p0, p1, rfl, rfl, rfl, g0, g1⟩ := trodAll_two hA'
  obtain ⟨b0, rfl⟩ := open_flag (hval' 0 4 v0 rfl rfl) g0
  obtain ⟨a1, c1, s1, rfl, hc1, hm1, hn1, h1⟩ := open_pairs (hval' 1 38 v1 rfl rfl) g1
  exact law_own h1 fun w' hf => ⟨rfl, fun M => hf.to fun _ h => h.elim⟩
theorem fnSortedOwn_holds : Rows.FnSortedOwnSaid :=
  OpenClaim.holds_of_wide 5 Tryz.f5 rfl rfl rfl rfl rfl rfl rfl ⟨rfl, rfl, rfl, rfl, rfl⟩ rfl rfl rfl rfl rfl (by kernel_rfl) Tryz.func5 (by kernel_rfl)
    (of_decide_eq_true (by kernel_rfl)) (by unfold Func.isWrapper; first | (rw [if_pos (by decide +kernel)]; kernel_rfl) | (rw [if_neg (by decide +kernel)]; exact ⟨rfl, rfl⟩))
    (fun os started H enc _ => fnSortedOwn_lifted os started H enc)
theorem fnSortedOwnCard_holds : Rows.FnSortedOwnCardSaid :=
  Claim7.holds_tied_plain_at .later [] [.data, .data, .data] true (true, "b77c031a9309509560a12c06badec3c13cbce84616160ed1cdc28dbca5189727") true
    fnSortedOwn_holds (fun _ h => by cases h) (by kernel_rfl) (fun _ h => by cases h) fnSortedOwn_row_tie rfl ⟨rfl, rfl⟩ (by kernel_rfl) rfl
    (fun f fn hf hfn => by
      obtain rfl : f = 5 := Option.some.inj ((show Tryz.prog.funcNamed "pub-bracken/laws.FnSortedOwn" = some 5 by kernel_rfl).symm.trans hf) |>.symm
      obtain rfl : fn = Tryz.f5 := (Option.some.inj (Tryz.func5.symm.trans hfn)).symm
      exact ⟨by kernel_rfl, fun j t ht => by
        rw [Tryz.params5] at ht
        have hm : t ∈ [4, 38] := by simpa using Array.mem_of_getElem? ht
        have hall : ([4, 38].all fun u => !Tryz.prog.wantsStandIn u) = true := by kernel_rfl
        exact (show Tryz.prog.wantsStandIn t = false by simpa using List.all_eq_true.1 hall t hm)⟩)
    (by kernel_rfl)
#print axioms fnSortedOwnCard_holds
end Go.Proofs.YtodjijfblgnfmaaGreatDoor
