/- The law FnMapNone returns true for every input and leaves its arguments as they were. Conditions: none beyond the given statement. -/
import Derived.Test.YtbghmbbhkoniiaaM6
set_option maxRecDepth 100000
set_option linter.unusedSimpArgs false
set_option linter.unusedVariables false
set_option maxHeartbeats 8000000
namespace Go.Proofs.Ytbghmbbhkoniiaa
open Go.Vc Go.Proofs Go.ChangeShapes Go.WideShapes Go.ChangeAt Go.RowKit
variable {H : Type} {enc : TypeId × Value → H} {W : World}
theorem fnMapNone_lifted (os : Os) (started : os.Started) (H : Type) (enc : TypeId × Value → H) :
    ReturnsInHanded {} Try.checked os 3 .any (Rows.fnMapNoneSpec.pre6 enc Try.prog Try.f3 [] false) (Rows.fnMapNoneSpec.post enc Try.prog Try.f3 false true false false) := by
  refine returns_true (C := Try.checked) (fn := Try.f3) (tb := 4) I.row_own started (by kernel_rfl) Try.func3
    (ChangeSpec.witness6 (enc := enc) (C := Try.checked) false ⟨#[], #[.agg #[.int .u32 0, .int .u32 0, .int .u8 0], .slice none 0 0, .int .i64 0, .int .i64 0], []⟩ 8 (by kernel_rfl) (by kernel_rfl) (by kernel_rfl) (by kernel_rfl))
    I.row_laid (by kernel_rfl) rfl (by kernel_rfl) Try.underlying4 (fun ds hd => ?_) fun W base args ds before hsh hval hA hlt => ?_
  · match ds, hd with
    | [_, _, _, _], _ => rfl
  have hval' : ∀ (j : Nat) t v, Try.f3.params[j]? = some t → args[j]? = some v → Value.okWide Try.prog W .any base t v := hval
  have hA' : DataW.TrodAll enc Try.prog W 0 (fun _ => true) true Try.f3.params.toList args.toList ds before := hA
  rw [Try.params3] at hA' hval'
  obtain ⟨v0, v1, v2, v3, d0, d1, d2, d3, p0, p1, p2, p3, rfl, rfl, rfl, g0, g1, g2, g3⟩ := trodAll_four hA'
  obtain ⟨md, ml, sh, rfl⟩ := I.open_hash (hval' 0 24 v0 rfl rfl) g0
  obtain ⟨a1, c1, s1, rfl, hc1, hm1, hn1, h1⟩ := I.open_msteps (hval' 1 25 v1 rfl rfl) g1
  obtain ⟨m2, rfl, lo2, hi2⟩ := Go.Vc.open_int Try.underlying2 (hval' 2 2 v2 rfl rfl)
  obtain ⟨m3, rfl, lo3, hi3⟩ := Go.Vc.open_int Try.underlying2 (hval' 3 2 v3 rfl rfl)
  exact I.law_none h1 fun w' hf => ⟨rfl, fun M => hf.to fun _ h => h.elim⟩
theorem fnMapNone_holds : Rows.FnMapNoneSaid :=
  OpenClaim.holds_of_wide 3 Try.f3 rfl rfl rfl rfl rfl rfl rfl ⟨rfl, rfl, rfl, rfl, rfl⟩ rfl rfl rfl rfl rfl (by kernel_rfl) Try.func3 (by kernel_rfl)
    (of_decide_eq_true (by kernel_rfl)) (by unfold Func.isWrapper; first | (rw [if_pos (by decide +kernel)]; kernel_rfl) | (rw [if_neg (by decide +kernel)]; exact ⟨rfl, rfl⟩))
    (fun os started H enc _ => fnMapNone_lifted os started H enc)
#print axioms fnMapNone_holds
end Go.Proofs.Ytbghmbbhkoniiaa
