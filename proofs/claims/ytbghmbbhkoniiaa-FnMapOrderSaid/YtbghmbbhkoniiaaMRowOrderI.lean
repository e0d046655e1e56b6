/- The law FnMapOrder returns true for every input and leaves its arguments as they were. Conditions: none beyond the given statement. -/
import Derived.Test.YtbghmbbhkoniiaaO6
import Derived.Test.YtbghmbbhkoniiaaO7
set_option maxRecDepth 100000
set_option linter.unusedSimpArgs false
set_option linter.unusedVariables false
set_option maxHeartbeats 8000000
namespace Go.Proofs.Ytbghmbbhkoniiaa
open Go.Vc Go.Proofs Go.ChangeShapes Go.WideShapes Go.ChangeAt Go.RowKit
variable {H : Type} {enc : TypeId × Value → H} {W : World}
theorem fnMapOrder_lifted (os : Os) (started : os.Started) (H : Type) (enc : TypeId × Value → H) :
    ReturnsInHanded {} Try.checked os 9 .any (Rows.fnMapOrderSpec.pre6 enc Try.prog Try.f9 [] false) (Rows.fnMapOrderSpec.post enc Try.prog Try.f9 false true false false) := by
  refine returns_true (C := Try.checked) (fn := Try.f9) (tb := 4) I.row_own started (by kernel_rfl) Try.func9
    (ChangeSpec.witness6 (enc := enc) (C := Try.checked) false ⟨#[], #[.agg #[.int .u32 0, .int .u32 0, .int .u8 0], .slice none 0 0, .int .u8 0], []⟩ 8 (by kernel_rfl) (by kernel_rfl) (by kernel_rfl) (by kernel_rfl))
    I.row_laid (by kernel_rfl) rfl (by kernel_rfl) Try.underlying4 (fun ds hd => ?_) fun W base args ds before hsh hval hA hlt => ?_
  · match ds, hd with
    | [_, _, _], _ => rfl
  have hval' : ∀ (j : Nat) t v, Try.f9.params[j]? = some t → args[j]? = some v → Value.okWide Try.prog W .any base t v := hval
  have hA' : DataW.TrodAll enc Try.prog W 0 (fun _ => true) true Try.f9.params.toList args.toList ds before := hA
  rw [Try.params9] at hA' hval'
  obtain ⟨v0, v1, v2, d0, d1, d2, p0, p1, p2, rfl, rfl, rfl, g0, g1, g2⟩ := trodAll_three hA'
  obtain ⟨md, ml, sh, rfl⟩ := I.open_hash (hval' 0 24 v0 rfl rfl) g0
  obtain ⟨a1, c1, s1, rfl, hc1, hm1, hn1, h1⟩ := I.open_pairs (hval' 1 43 v1 rfl rfl) g1
  obtain ⟨m2, rfl, lo2, hi2⟩ := Go.Vc.open_int Try.underlying5 (hval' 2 5 v2 rfl rfl)
  obtain ⟨n2, rfl⟩ : ∃ n : Nat, m2 = n := ⟨m2.toNat, (Int.toNat_of_nonneg (by exact lo2)).symm⟩
  have hv2 : n2 < 256 := by have h : ((n2 : Nat) : Int) ≤ 255 := hi2; omega
  exact I.law_order ⟨a1, c1, rfl, hc1, hm1, h1, hn1⟩ hv2 fun w' hf => ⟨rfl, fun M => hf.to fun _ h => h.elim⟩
theorem fnMapOrder_holds : Rows.FnMapOrderSaid :=
  OpenClaim.holds_of_wide 9 Try.f9 rfl rfl rfl rfl rfl rfl rfl ⟨rfl, rfl, rfl, rfl, rfl⟩ rfl rfl rfl rfl rfl (by kernel_rfl) Try.func9 (by kernel_rfl)
    (of_decide_eq_true (by kernel_rfl)) (by unfold Func.isWrapper; first | (rw [if_pos (by decide +kernel)]; kernel_rfl) | (rw [if_neg (by decide +kernel)]; exact ⟨rfl, rfl⟩))
    (fun os started H enc _ => fnMapOrder_lifted os started H enc)
#print axioms fnMapOrder_holds
end Go.Proofs.Ytbghmbbhkoniiaa
