/- The law FnListSlices returns true for every input and leaves its arguments as they were. Conditions: none beyond the given statement. -/
import Derived.Test.YtjlaclgikmmmlaaLOpen
import Derived.Test.YtjlaclgikmmmlaaLLawP
set_option maxRecDepth 100000
set_option linter.unusedSimpArgs false
set_option linter.unusedVariables false
set_option maxHeartbeats 8000000
namespace Go.Proofs.Ytjlaclgikmmmlaa
open Go.Vc Go.Proofs Go.ChangeShapes Go.WideShapes Go.ChangeAt Go.RowKit
variable {H : Type} {enc : TypeId × Value → H} {W : World}

theorem fnListSlices_lifted (os : Os) (started : os.Started) (H : Type) (enc : TypeId × Value → H) :
    ReturnsInHanded {} Try.checked os 4 .any (Rows.fnListSlicesSpec.pre6 enc Try.prog Try.f4 [] false) (Rows.fnListSlicesSpec.post enc Try.prog Try.f4 false true false false) := by
  refine returns_true (C := Try.checked) (fn := Try.f4) (tb := 4) row_own started (by kernel_rfl) Try.func4
    (ChangeSpec.witness6 (enc := enc) (C := Try.checked) false ⟨#[], #[.slice none 0 0, .int .u16 0, .int .u16 0, .int .u16 0, .int .u16 0], []⟩ 8 (by kernel_rfl) (by kernel_rfl) (by kernel_rfl) (by kernel_rfl))
    row_laid (by kernel_rfl) rfl (by kernel_rfl) Try.underlying4 (fun ds hd => ?_) fun W base args ds before hsh hval hA hlt => ?_
  · match ds, hd with
    | [_, _, _, _, _], _ => rfl
  have hval' : ∀ (j : Nat) t v, Try.f4.params[j]? = some t → args[j]? = some v → Value.okWide Try.prog W .any base t v := hval
  have hA' : DataW.TrodAll enc Try.prog W 0 (fun _ => true) true Try.f4.params.toList args.toList ds before := hA
  rw [Try.params4] at hA' hval'
  obtain ⟨v0, vs0, d0, ds0, p0, q0, hargs, rfl, rfl, h0, r0⟩ := trodAll_cons hA'
  obtain ⟨v1, vs1, d1, ds1, p1, q1, rfl, rfl, rfl, h1, r1⟩ := trodAll_cons r0
  obtain ⟨v2, vs2, d2, ds2, p2, q2, rfl, rfl, rfl, h2, r2⟩ := trodAll_cons r1
  obtain ⟨v3, vs3, d3, ds3, p3, q3, rfl, rfl, rfl, h3, r3⟩ := trodAll_cons r2
  obtain ⟨v4, vs4, d4, ds4, p4, q4, rfl, rfl, rfl, h4, r4⟩ := trodAll_cons r3
  obtain ⟨rfl, rfl, rfl⟩ := trodAll_nil r4
  obtain rfl : args = #[v0, v1, v2, v3, v4] := by cases args; simp_all
  obtain ⟨a0, c0, xs, rfl, hc0, _, hn0, hb0, hr0, _⟩ := open_i64s Try.underlying22 Try.underlying2 (by kernel_rfl) (hval' 0 22 v0 rfl rfl) h0
  obtain ⟨a, rfl, rfl, _, wa⟩ := open_int Try.underlying23 (hval' 1 23 v1 rfl rfl) h1
  obtain ⟨b, rfl, rfl, _, wb⟩ := open_int Try.underlying23 (hval' 2 23 v2 rfl rfl) h2
  obtain ⟨c, rfl, rfl, _, wc⟩ := open_int Try.underlying23 (hval' 3 23 v3 rfl rfl) h3
  obtain ⟨d, rfl, rfl, _, wd⟩ := open_int Try.underlying23 (hval' 4 23 v4 rfl rfl) h4
  have nat : ∀ x : Int, (Lit.int .u16 x).wf = true → ∃ n : Nat, x = n ∧ n < 65536 := fun x hx => by
    have : 0 ≤ x ∧ x ≤ 65535 := by simpa [Lit.wf, IntKind.min, IntKind.max, IntKind.signed, IntKind.bits] using hx
    exact ⟨x.toNat, by omega, by omega⟩
  obtain ⟨a, rfl, ha⟩ := nat a wa
  obtain ⟨b, rfl, hb⟩ := nat b wb
  obtain ⟨c, rfl, hc⟩ := nat c wc
  obtain ⟨d, rfl, hd⟩ := nat d wd
  exact law_slices (gl_of hsh) (ints_of hc0 hn0 hr0) ha hb hc hd fun w' hf => ⟨rfl, fun M => hf⟩

theorem fnListSlices_holds : Rows.FnListSlicesSaid :=
  OpenClaim.holds_of_wide 4 Try.f4 rfl rfl rfl rfl rfl rfl rfl ⟨rfl, rfl, rfl, rfl, rfl⟩ rfl rfl rfl rfl rfl (by kernel_rfl) Try.func4 (by kernel_rfl)
    (of_decide_eq_true (by kernel_rfl)) (by unfold Func.isWrapper; first | (rw [if_pos (by decide +kernel)]; kernel_rfl) | (rw [if_neg (by decide +kernel)]; exact ⟨rfl, rfl⟩))
    (fun os started H enc _ => fnListSlices_lifted os started H enc)
#print axioms fnListSlices_holds
end Go.Proofs.Ytjlaclgikmmmlaa
