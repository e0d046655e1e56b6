/- The law FnSortedInto returns true for every input and leaves its arguments as they were. Conditions: the listed package-level variables hold what the program lays into them, which the card ties to its text; none beyond the given statement. -/
import Derived.Test.YtodjijfblgnfmaaGreatDoorP4
import Derived.Test.YtodjijfblgnfmaaGreatDoorP5
import Derived.SevenTiedAt
set_option maxRecDepth 100000
set_option linter.unusedSimpArgs false
set_option linter.unusedVariables false
set_option maxHeartbeats 8000000
namespace Go.Proofs.YtodjijfblgnfmaaGreatDoor
open Go.Vc Go.Proofs Go.Vc.Bt Go.ChangeShapes Go.WideShapes Go.ChangeAt Go.RowKit
variable {H : Type} {enc : TypeId × Value → H} {W : World}
theorem fnSortedInto_lifted (os : Os) (started : os.Started) (H : Type) (enc : TypeId × Value → H) :
    ReturnsInHanded {} Tryz.checked os 4 .any (fun w args => (Rows.fnSortedIntoSpec.pre enc Tryz.prog Tryz.f4 [] false w args ∧ laidMetH Tryz.prog laid3 w) ∧ sizedMet enc Tryz.prog Tryz.f4 (OpenSpec.ofChange Rows.fnSortedIntoSpec) false w args) (Rows.fnSortedIntoSpec.post enc Tryz.prog Tryz.f4 false true false false) := by
  refine returns_true_laid (C := Tryz.checked) (fn := Tryz.f4) (tb := 4) row_own started (by kernel_rfl) Tryz.func4
    (ChangeSpec.witness_shaped (enc := enc) (C := Tryz.checked) (os := os) (X := fun w _ => laidMetH Tryz.prog laid3 w) false (World.doorLaid Tryz.prog 24 os) #[.bool false, .agg #[.int .u8 0, .int .i64 0], .slice none 0 0, .slice none 0 0] 8 rfl (World.shaped_of_RefB (by kernel_rfl) (by kernel_rfl)) (by kernel_rfl) (by kernel_rfl) (by kernel_rfl) (door_met os _))
    row_laid (by kernel_rfl) rfl (by kernel_rfl) Tryz.underlying4 (fun ds hd => ?_) fun W base args ds before hsh hL hval hA hlt => ?_
  · match ds, hd with
    | [_, _, _, _], _ => rfl
  have hval' : ∀ (j : Nat) t v, Tryz.f4.params[j]? = some t → args[j]? = some v → Value.okWide Tryz.prog W .any base t v := hval
  have hA' : DataW.TrodAll enc Tryz.prog W 0 (fun _ => true) true Tryz.f4.params.toList args.toList ds before := hA
  rw [Tryz.params4] at hA' hval'
  obtain ⟨v0, v1, v2, v3, d0, d1, d2, d3, p0, p1, p2, p3, rfl, rfl, rfl, g0, g1, g2, g3⟩ := trodAll_four hA'
  obtain ⟨b0, rfl⟩ := open_flag (hval' 0 4 v0 rfl rfl) g0
  obtain ⟨kn1, m1, rfl, lo1, hi1⟩ := open_order (hval' 1 23 v1 rfl rfl) g1
  obtain ⟨a2, c2, s2, rfl, hc2, hm2, hn2, h2⟩ := open_pairs (hval' 2 38 v2 rfl rfl) g2
  obtain ⟨a3, c3, s3, rfl, hc3, hm3, hn3, h3⟩ := open_u16s (hval' 3 39 v3 rfl rfl) g3
  exact law_into h2 h3.1 h3.2 hn2 lo1 hi1 fun w' hf => ⟨rfl, fun M => hf.to fun _ h => h.elim⟩
theorem fnSortedInto_holds : Rows.FnSortedIntoSaid :=
  OpenClaim.holds_of_wide 4 Tryz.f4 rfl rfl rfl rfl rfl rfl rfl ⟨rfl, rfl, rfl, rfl, rfl⟩ rfl rfl rfl rfl rfl (by kernel_rfl) Tryz.func4 (by kernel_rfl)
    (of_decide_eq_true (by kernel_rfl)) (by unfold Func.isWrapper; first | (rw [if_pos (by decide +kernel)]; kernel_rfl) | (rw [if_neg (by decide +kernel)]; exact ⟨rfl, rfl⟩))
    (fun os started H enc _ => fnSortedInto_lifted os started H enc)
theorem fnSortedIntoCard_holds : Rows.FnSortedIntoCardSaid :=
  Claim7.holds_tied_plain_at .later [] [.data, .data, .data] true (true, "b77c031a9309509560a12c06badec3c13cbce84616160ed1cdc28dbca5189727") true
    fnSortedInto_holds (fun _ h => by cases h) (by kernel_rfl) (fun _ h => by cases h) fnSortedInto_row_tie rfl ⟨rfl, rfl⟩ (by kernel_rfl) rfl
    (fun f fn hf hfn => by
      obtain rfl : f = 4 := Option.some.inj ((show Tryz.prog.funcNamed "pub-bracken/laws.FnSortedInto" = some 4 by kernel_rfl).symm.trans hf) |>.symm
      obtain rfl : fn = Tryz.f4 := (Option.some.inj (Tryz.func4.symm.trans hfn)).symm
      exact ⟨by kernel_rfl, fun j t ht => by
        rw [Tryz.params4] at ht
        have hm : t ∈ [4, 23, 38, 39] := by simpa using Array.mem_of_getElem? ht
        have hall : ([4, 23, 38, 39].all fun u => !Tryz.prog.wantsStandIn u) = true := by kernel_rfl
        exact (show Tryz.prog.wantsStandIn t = false by simpa using List.all_eq_true.1 hall t hm)⟩)
    (by kernel_rfl)
#print axioms fnSortedIntoCard_holds
end Go.Proofs.YtodjijfblgnfmaaGreatDoor
