/- What a law's arguments are in the heap: lists of whole numbers, steps; the table of math/bits is there. -/
import Derived.Test.YtjlaclgikmmmlaaLTo
import Derived.Test.YtjlaclgikmmmlaaVcRow
import Derived.Test.YtjlaclgikmmmlaaRows
set_option maxRecDepth 100000
set_option linter.unusedSimpArgs false
set_option linter.unusedVariables false
set_option maxHeartbeats 8000000
namespace Go.Proofs.Ytjlaclgikmmmlaa
open Go.Vc Go.Proofs Go.ChangeShapes Go.WideShapes Go.ChangeAt Go.RowKit
variable {H : Type} {enc : TypeId × Value → H} {W : World}

theorem row_own : ownKnob Try.prog.godebug = none := by kernel_rfl
theorem row_laid : laidOutB Try.prog = true := by kernel_rfl

def tab_137 : Array Value := Array.replicate 32 (.int .u8 0)
theorem gl_of (h : W.ShapedOpen Try.prog) : Gl W := by
  obtain ⟨cs, hh, hs, hr⟩ := h.1 0 tab_137 137 (by decide +kernel) (by kernel_rfl)
  obtain ⟨ts, hts, _, hall⟩ := hr (by kernel_rfl)
  have e : Try.prog.cellTypes Try.prog.depth 137 = some (List.replicate 32 5) := by kernel_rfl
  rw [e] at hts
  obtain rfl := Option.some.inj hts
  refine ⟨cs, _, _, hh, fun j hj => ?_⟩
  have hjs : j < cs.size := by rw [hs]; simpa [tab_137] using hj
  obtain ⟨u, hu, hok⟩ := hall j cs[j] (by simp [hjs])
  have hu' : u = 5 := by
    have := List.mem_of_getElem? hu
    exact (List.mem_replicate.1 this).2
  subst hu'
  rw [Array.getElem?_eq_getElem hjs]
  cases hc : cs[j] with
  | int k x =>
    rw [hc] at hok
    simp only [Cell.ok, Try.underlying5] at hok
    obtain ⟨rfl, _⟩ := hok
    exact ⟨x, rfl⟩
  | _ => rw [hc] at hok; simp [Cell.ok, Try.underlying5] at hok

theorem step_of {n : Nat} {cs : List Value} {x : DataW H × List MemPlace} (hl : cs.length = 5) (h : DataW.trod enc Try.prog W 0 (fun _ => true) true n 59 cs = some x) : ∃ s : Step, cs = s.cells := by
  match cs, hl, h with
  | [u0, u1, u2, u3, u4], _, h =>
    have hu := Try.underlying59
    obtain ⟨n0, y0, z0⟩ := open_fields hu h (i := 0) rfl rfl (by kernel_rfl) (by simp)
    obtain ⟨n1, y1, z1⟩ := open_fields hu h (i := 1) rfl rfl (by kernel_rfl) (by simp)
    obtain ⟨n2, y2, z2⟩ := open_fields hu h (i := 2) rfl rfl (by kernel_rfl) (by simp)
    obtain ⟨n3, y3, z3⟩ := open_fields hu h (i := 3) rfl rfl (by kernel_rfl) (by simp)
    obtain ⟨n4, y4, z4⟩ := open_fields hu h (i := 4) rfl rfl (by kernel_rfl) (by simp)
    obtain ⟨m0, e0, b0, _⟩ := field_int Try.underlying5 z0
    obtain ⟨m1, e1, _⟩ := field_int Try.underlying3 z1
    obtain ⟨m2, e2, _⟩ := field_int Try.underlying3 z2
    obtain ⟨m3, e3, _⟩ := field_int Try.underlying3 z3
    obtain ⟨m4, e4, _⟩ := field_int Try.underlying2 z4
    have h0 : (m0.toNat : Int) = m0 := Int.toNat_of_nonneg b0
    refine ⟨⟨m0.toNat, m1, m2, m3, m4⟩, ?_⟩
    simp only [List.getElem_cons_zero, List.getElem_cons_succ] at e0 e1 e2 e3 e4
    simp only [Step.cells, h0, e0, e1, e2, e3, e4]

theorem open_steps {base : Nat} {v : Value} {d : DataW H} {ps : List MemPlace} (hok : Value.okWide Try.prog W .any base 33 v) (h : DataW.Trod enc Try.prog W 0 (fun _ => true) true 33 v d ps) :
    ∃ (a : Option Addr) (cap : Nat) (steps : List Step), v = .slice a steps.length cap ∧ (∀ p, a = some p → p.block < W.heap.size) ∧ Row W a (steps.flatMap Step.cells) := by
  obtain ⟨a, len, cap, f, rfl, h1, h2, h3, h4, h6, h7, h8⟩ := open_rows Try.underlying33 (c := 5) (by kernel_rfl) (by decide) hok h
  obtain ⟨g, hg⟩ := Classical.axiomOfChoice (r := fun i (s : Step) => i < len → f i = s.cells) fun i => by
    by_cases hi : i < len
    · obtain ⟨n, x, hx⟩ := h8 i hi
      obtain ⟨s, hs⟩ := step_of (h7 i) hx
      exact ⟨s, fun _ => hs⟩
    · exact ⟨⟨0, 0, 0, 0, 0⟩, fun h => absurd h hi⟩
  refine ⟨a, cap, (List.range len).map g, by simp, fun p hp => (h4 p hp).2, ?_⟩
  rw [Go.Deep.flatMap_congr_range hg] at h6
  rwa [List.flatMap_map]
theorem ints_of {a : Option Addr} {cap : Nat} {xs : List Int} (hc : xs.length ≤ cap) (ha : a = none → xs = []) (hr : Row W a (xs.map (.int .i64))) : IsInts W (.slice a xs.length cap) xs := ⟨a, cap, rfl, hc, hr, ha⟩
end Go.Proofs.Ytjlaclgikmmmlaa
