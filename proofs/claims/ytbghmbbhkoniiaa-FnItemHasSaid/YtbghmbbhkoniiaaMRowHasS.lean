/- The law FnItemHas returns true for every input and leaves its arguments as they were. Conditions: none beyond the given statement. -/
import Derived.Test.YtbghmbbhkoniiaaH4
import Derived.Test.YtbghmbbhkoniiaaH6
set_option maxRecDepth 100000
set_option linter.unusedSimpArgs false
set_option linter.unusedVariables false
set_option maxHeartbeats 8000000
namespace Go.Proofs.Ytbghmbbhkoniiaa
open Go.Vc Go.Proofs Go.ChangeShapes Go.WideShapes Go.ChangeAt Go.RowKit
variable {H : Type} {enc : TypeId × Value → H} {W : World}
theorem fnItemHas_lifted (os : Os) (started : os.Started) (H : Type) (enc : TypeId × Value → H) :
    ReturnsInHanded {} Try.checked os 10 .any (Rows.fnItemHasSpec.pre6 enc Try.prog Try.f10 [] false) (Rows.fnItemHasSpec.post enc Try.prog Try.f10 false true false false) := by
  refine returns_true (C := Try.checked) (fn := Try.f10) (tb := 4) I.row_own started (by kernel_rfl) Try.func10
    (ChangeSpec.witness6 (enc := enc) (C := Try.checked) false ⟨#[], #[.agg #[.int .u32 0, .int .u32 0, .int .u8 0], .slice none 0 0, .slice none 0 0, .int .u8 0, .slice none 0 0], []⟩ 8 (by kernel_rfl) (by kernel_rfl) (by kernel_rfl) (by kernel_rfl))
    I.row_laid (by kernel_rfl) rfl (by kernel_rfl) Try.underlying4 (fun ds hd => ?_) fun W base args ds before hsh hval hA hlt => ?_
  · match ds, hd with
    | [_, _, _, _, _], _ => rfl
  have hval' : ∀ (j : Nat) t v, Try.f10.params[j]? = some t → args[j]? = some v → Value.okWide Try.prog W .any base t v := hval
  have hA' : DataW.TrodAll enc Try.prog W 0 (fun _ => true) true Try.f10.params.toList args.toList ds before := hA
  rw [Try.params10] at hA' hval'
  obtain ⟨v0, v1, v2, v3, v4, d0, d1, d2, d3, d4, p0, p1, p2, p3, p4, rfl, rfl, rfl, g0, g1, g2, g3, g4⟩ := trodAll_five hA'
  obtain ⟨md, ml, sh, rfl⟩ := I.open_hash (hval' 0 24 v0 rfl rfl) g0
  obtain ⟨a1, c1, s1, rfl, hc1, hm1, hn1, h1⟩ := I.open_ints (hval' 1 65 v1 rfl rfl) g1
  obtain ⟨a2, c2, s2, rfl, hc2, hm2, hn2, h2⟩ := I.open_msteps (hval' 2 25 v2 rfl rfl) g2
  obtain ⟨m3, rfl, lo3, hi3⟩ := Go.Vc.open_int Try.underlying5 (hval' 3 5 v3 rfl rfl)
  obtain ⟨n3, rfl⟩ : ∃ n : Nat, m3 = n := ⟨m3.toNat, (Int.toNat_of_nonneg (by exact lo3)).symm⟩
  have hv3 : n3 < 256 := by have h : ((n3 : Nat) : Int) ≤ 255 := hi3; omega
  obtain ⟨a4, c4, s4, rfl, hc4, hm4, hn4, h4⟩ := I.open_ints (hval' 4 65 v4 rfl rfl) g4
  exact S.law_has h1 h2 h4 hv3 fun w' hf => ⟨rfl, fun M => hf.to fun _ h => h.elim⟩
theorem fnItemHas_holds : Rows.FnItemHasSaid :=
  OpenClaim.holds_of_wide 10 Try.f10 rfl rfl rfl rfl rfl rfl rfl ⟨rfl, rfl, rfl, rfl, rfl⟩ rfl rfl rfl rfl rfl (by kernel_rfl) Try.func10 (by kernel_rfl)
    (of_decide_eq_true (by kernel_rfl)) (by unfold Func.isWrapper; first | (rw [if_pos (by decide +kernel)]; kernel_rfl) | (rw [if_neg (by decide +kernel)]; exact ⟨rfl, rfl⟩))
    (fun os started H enc _ => fnItemHas_lifted os started H enc)
#print axioms fnItemHas_holds
end Go.Proofs.Ytbghmbbhkoniiaa
