/-
  No cell of these rows narrows 'for every input' (looked for: loops, veiled, ifaces, maps, wideKeys, modest, calm, conditions, laid).
  DERIVED. THE GIVEN ROWS OF THIS SEAT. 9 by the template 'for every input the law returns true; each argument reads behind the call as it read before'; 0 by the template 'total and deterministic' (their statements: YtbghmbbhkoniiaaTotals.lean).
  GIVEN WITH THE SEED: the statements are not yours to turn. If you find one false, say at which input.
  Laid BY PROGRAM, IN A SANDBOX (cutbox-rows.mjs): the forced cells as the released guide's own fill.sh prints them over the translation 46f9248b1884a910… (all of the seat's roots in one cut). By AI agents, Wed Nov 11 2026. No macro, syntax, notation, axiom, sorry.
-/
import Derived.Test.YtbghmbbhkoniiaaChecked
import GoSem.Claim
import GoSem.ClaimJoined
import GoSem.ClaimMapViews
import Derived.JoinedTies
import Derived.KernelRfl
namespace Go.Proofs.Ytbghmbbhkoniiaa
/- THE CELL 'sum', in the pinned program and in every row, IS THE sha256 OF THE DUMP (.gsa) THAT YtbghmbbhkoniiaaProg.lean LOADS. Nothing in Lean hashes anything: it is a label: what it is worth is what the hold of that sum in a sandbox is worth. -/
noncomputable def Try.pinned : Pinned := { name := "ytbghmbbhkoniiaa", sum := "46f9248b1884a9106625ce6f10d6747e06920f9ac9e6f3a6729485974597af6b", checked := Try.checked }
namespace Rows
def none {H : Type} : Left H := { results := [], args := [] }

/-- 'laws.FnMapNone': WHATEVER THE INPUT: true; the input reads as it did. -/
def fnMapNoneSpec : ChangeSpec := { name := "fnMapNone", fn := fun _ => fun
  | [d1, d2, d3, d4] => { results := [.lit (.bool true)], args := [d1, d2, d3, d4] }
  | _ => none }
def fnMapNoneRow : OpenClaim := { program := "ytbghmbbhkoniiaa", sum := "46f9248b1884a9106625ce6f10d6747e06920f9ac9e6f3a6729485974597af6b", func := "pub-bracken/laws.FnMapNone", spec := "fnMapNone", unfollowed := true, recurses := true, apart := false }
def FnMapNoneSaid : Prop := fnMapNoneRow.holds Try.pinned (OpenSpec.ofChange fnMapNoneSpec)

/-- ITS FALSE NEIGHBOUR: 'it returns false'. Refute it at one input. -/
def fnMapNoneWrong : ChangeSpec := { name := "fnMapNone", fn := fun _ => fun
  | [d1, d2, d3, d4] => { results := [.lit (.bool false)], args := [d1, d2, d3, d4] }
  | _ => none }
def FnMapNoneWrongFalsely : Prop := fnMapNoneRow.holds Try.pinned (OpenSpec.ofChange fnMapNoneWrong)

/-- 'laws.FnMapRun': WHATEVER THE INPUT: true; the input reads as it did. -/
def fnMapRunSpec : ChangeSpec := { name := "fnMapRun", fn := fun _ => fun
  | [d1, d2] => { results := [.lit (.bool true)], args := [d1, d2] }
  | _ => none }
def fnMapRunRow : OpenClaim := { program := "ytbghmbbhkoniiaa", sum := "46f9248b1884a9106625ce6f10d6747e06920f9ac9e6f3a6729485974597af6b", func := "pub-bracken/laws.FnMapRun", spec := "fnMapRun", unfollowed := true, recurses := true, apart := false }
def FnMapRunSaid : Prop := fnMapRunRow.holds Try.pinned (OpenSpec.ofChange fnMapRunSpec)

/-- ITS FALSE NEIGHBOUR: 'it returns false'. Refute it at one input. -/
def fnMapRunWrong : ChangeSpec := { name := "fnMapRun", fn := fun _ => fun
  | [d1, d2] => { results := [.lit (.bool false)], args := [d1, d2] }
  | _ => none }
def FnMapRunWrongFalsely : Prop := fnMapRunRow.holds Try.pinned (OpenSpec.ofChange fnMapRunWrong)

/-- 'laws.FnMapOf': WHATEVER THE INPUT: true; the input reads as it did. -/
def fnMapOfSpec : ChangeSpec := { name := "fnMapOf", fn := fun _ => fun
  | [d1, d2] => { results := [.lit (.bool true)], args := [d1, d2] }
  | _ => none }
def fnMapOfRow : OpenClaim := { program := "ytbghmbbhkoniiaa", sum := "46f9248b1884a9106625ce6f10d6747e06920f9ac9e6f3a6729485974597af6b", func := "pub-bracken/laws.FnMapOf", spec := "fnMapOf", unfollowed := true, recurses := true, apart := false }
def FnMapOfSaid : Prop := fnMapOfRow.holds Try.pinned (OpenSpec.ofChange fnMapOfSpec)

/-- ITS FALSE NEIGHBOUR: 'it returns false'. Refute it at one input. -/
def fnMapOfWrong : ChangeSpec := { name := "fnMapOf", fn := fun _ => fun
  | [d1, d2] => { results := [.lit (.bool false)], args := [d1, d2] }
  | _ => none }
def FnMapOfWrongFalsely : Prop := fnMapOfRow.holds Try.pinned (OpenSpec.ofChange fnMapOfWrong)

/-- 'laws.FnMapWalk': WHATEVER THE INPUT: true; the input reads as it did. -/
def fnMapWalkSpec : ChangeSpec := { name := "fnMapWalk", fn := fun _ => fun
  | [d1, d2, d3, d4] => { results := [.lit (.bool true)], args := [d1, d2, d3, d4] }
  | _ => none }
def fnMapWalkRow : OpenClaim := { program := "ytbghmbbhkoniiaa", sum := "46f9248b1884a9106625ce6f10d6747e06920f9ac9e6f3a6729485974597af6b", func := "pub-bracken/laws.FnMapWalk", spec := "fnMapWalk", unfollowed := true, recurses := true, apart := false }
def FnMapWalkSaid : Prop := fnMapWalkRow.holds Try.pinned (OpenSpec.ofChange fnMapWalkSpec)

/-- ITS FALSE NEIGHBOUR: 'it returns false'. Refute it at one input. -/
def fnMapWalkWrong : ChangeSpec := { name := "fnMapWalk", fn := fun _ => fun
  | [d1, d2, d3, d4] => { results := [.lit (.bool false)], args := [d1, d2, d3, d4] }
  | _ => none }
def FnMapWalkWrongFalsely : Prop := fnMapWalkRow.holds Try.pinned (OpenSpec.ofChange fnMapWalkWrong)

/-- 'laws.FnTextRun': WHATEVER THE INPUT: true; the input reads as it did. -/
def fnTextRunSpec : ChangeSpec := { name := "fnTextRun", fn := fun _ => fun
  | [d] => { results := [.lit (.bool true)], args := [d] }
  | _ => none }
def fnTextRunRow : OpenClaim := { program := "ytbghmbbhkoniiaa", sum := "46f9248b1884a9106625ce6f10d6747e06920f9ac9e6f3a6729485974597af6b", func := "pub-bracken/laws.FnTextRun", spec := "fnTextRun", unfollowed := true, recurses := true, apart := false }
def FnTextRunSaid : Prop := fnTextRunRow.holds Try.pinned (OpenSpec.ofChange fnTextRunSpec)

/-- ITS FALSE NEIGHBOUR: 'it returns false'. Refute it at one input. -/
def fnTextRunWrong : ChangeSpec := { name := "fnTextRun", fn := fun _ => fun
  | [d] => { results := [.lit (.bool false)], args := [d] }
  | _ => none }
def FnTextRunWrongFalsely : Prop := fnTextRunRow.holds Try.pinned (OpenSpec.ofChange fnTextRunWrong)

/-- 'laws.FnMapGet': WHATEVER THE INPUT: true; the input reads as it did. -/
def fnMapGetSpec : ChangeSpec := { name := "fnMapGet", fn := fun _ => fun
  | [d1, d2, d3, d4] => { results := [.lit (.bool true)], args := [d1, d2, d3, d4] }
  | _ => none }
def fnMapGetRow : OpenClaim := { program := "ytbghmbbhkoniiaa", sum := "46f9248b1884a9106625ce6f10d6747e06920f9ac9e6f3a6729485974597af6b", func := "pub-bracken/laws.FnMapGet", spec := "fnMapGet", unfollowed := true, recurses := true, apart := false }
def FnMapGetSaid : Prop := fnMapGetRow.holds Try.pinned (OpenSpec.ofChange fnMapGetSpec)

/-- ITS FALSE NEIGHBOUR: 'it returns false'. Refute it at one input. -/
def fnMapGetWrong : ChangeSpec := { name := "fnMapGet", fn := fun _ => fun
  | [d1, d2, d3, d4] => { results := [.lit (.bool false)], args := [d1, d2, d3, d4] }
  | _ => none }
def FnMapGetWrongFalsely : Prop := fnMapGetRow.holds Try.pinned (OpenSpec.ofChange fnMapGetWrong)

/-- 'laws.FnMapOrder': WHATEVER THE INPUT: true; the input reads as it did. -/
def fnMapOrderSpec : ChangeSpec := { name := "fnMapOrder", fn := fun _ => fun
  | [d1, d2, d3] => { results := [.lit (.bool true)], args := [d1, d2, d3] }
  | _ => none }
def fnMapOrderRow : OpenClaim := { program := "ytbghmbbhkoniiaa", sum := "46f9248b1884a9106625ce6f10d6747e06920f9ac9e6f3a6729485974597af6b", func := "pub-bracken/laws.FnMapOrder", spec := "fnMapOrder", unfollowed := true, recurses := true, apart := false }
def FnMapOrderSaid : Prop := fnMapOrderRow.holds Try.pinned (OpenSpec.ofChange fnMapOrderSpec)

/-- ITS FALSE NEIGHBOUR: 'it returns false'. Refute it at one input. -/
def fnMapOrderWrong : ChangeSpec := { name := "fnMapOrder", fn := fun _ => fun
  | [d1, d2, d3] => { results := [.lit (.bool false)], args := [d1, d2, d3] }
  | _ => none }
def FnMapOrderWrongFalsely : Prop := fnMapOrderRow.holds Try.pinned (OpenSpec.ofChange fnMapOrderWrong)

/-- 'laws.FnItemHas': WHATEVER THE INPUT: true; the input reads as it did. -/
def fnItemHasSpec : ChangeSpec := { name := "fnItemHas", fn := fun _ => fun
  | [d1, d2, d3, d4, d5] => { results := [.lit (.bool true)], args := [d1, d2, d3, d4, d5] }
  | _ => none }
def fnItemHasRow : OpenClaim := { program := "ytbghmbbhkoniiaa", sum := "46f9248b1884a9106625ce6f10d6747e06920f9ac9e6f3a6729485974597af6b", func := "pub-bracken/laws.FnItemHas", spec := "fnItemHas", unfollowed := true, recurses := true, apart := false }
def FnItemHasSaid : Prop := fnItemHasRow.holds Try.pinned (OpenSpec.ofChange fnItemHasSpec)

/-- ITS FALSE NEIGHBOUR: 'it returns false'. Refute it at one input. -/
def fnItemHasWrong : ChangeSpec := { name := "fnItemHas", fn := fun _ => fun
  | [d1, d2, d3, d4, d5] => { results := [.lit (.bool false)], args := [d1, d2, d3, d4, d5] }
  | _ => none }
def FnItemHasWrongFalsely : Prop := fnItemHasRow.holds Try.pinned (OpenSpec.ofChange fnItemHasWrong)

/-- 'laws.FnMapBuild': WHATEVER THE INPUT: true; the input reads as it did. -/
def fnMapBuildSpec : ChangeSpec := { name := "fnMapBuild", fn := fun _ => fun
  | [d1, d2, d3] => { results := [.lit (.bool true)], args := [d1, d2, d3] }
  | _ => none }
def fnMapBuildRow : OpenClaim := { program := "ytbghmbbhkoniiaa", sum := "46f9248b1884a9106625ce6f10d6747e06920f9ac9e6f3a6729485974597af6b", func := "pub-bracken/laws.FnMapBuild", spec := "fnMapBuild", unfollowed := true, recurses := true, apart := false }
def FnMapBuildSaid : Prop := fnMapBuildRow.holds Try.pinned (OpenSpec.ofChange fnMapBuildSpec)

/-- ITS FALSE NEIGHBOUR: 'it returns false'. Refute it at one input. -/
def fnMapBuildWrong : ChangeSpec := { name := "fnMapBuild", fn := fun _ => fun
  | [d1, d2, d3] => { results := [.lit (.bool false)], args := [d1, d2, d3] }
  | _ => none }
def FnMapBuildWrongFalsely : Prop := fnMapBuildRow.holds Try.pinned (OpenSpec.ofChange fnMapBuildWrong)

/- THE SECOND FORM. 'bulk': how many values and letters a reading holds, each counted each time it is reached (what is shared counts as often as it is met; a slice's spare places count too). A statement '..UptoSaid' is the law's where the arguments, and the package variables that the reading takes, are together of bulk at most 1048576: NARROWER than '..Said'. Prove '..Said' where nothing that the law and all that it calls make is longer than what came in: it says more and counts as full. Else prove '..UptoSaid'. A law counts once. -/
mutual
def uptoBulk {H : Type} : DataW H → Nat
  | .lit (.string bytes) => bytes.length + 1
  | .lit _ => 1
  | .nil => 1
  | .ptr d => uptoBulk d + 1
  | .slice elems spare => uptoBulkAll elems + uptoBulkAll spare + 1
  | .agg parts => uptoBulkAll parts + 1
  | .iface _ d => uptoBulk d + 1
  | .map entries => uptoBulkEntries entries + 1
  | .held _ => 1
def uptoBulkAll {H : Type} : List (DataW H) → Nat
  | [] => 0
  | d :: r => uptoBulk d + uptoBulkAll r
def uptoBulkEntries {H : Type} : List (Lit × DataW H) → Nat
  | [] => 0
  | x :: r => uptoBulkEntry x + uptoBulkEntries r
def uptoBulkEntry {H : Type} : Lit × DataW H → Nat
  | (.string bytes, d) => bytes.length + uptoBulk d + 1
  | (_, d) => uptoBulk d + 1
 end
def uptoSmall : (H : Type) → List (DataW H) → Bool := fun _ ds => decide (uptoBulkAll ds ≤ 1048576)
def OpenSpec.upto (s : _root_.Go.ChangeSpec) : _root_.Go.OpenSpec := { _root_.Go.OpenSpec.ofChange s with cond := some uptoSmall }

/-- 'laws.FnMapNone', WHERE WHAT IT READS IS OF BULK AT MOST 1048576: true; the input reads as it did. -/
def fnMapNoneUptoRow : OpenClaim := { program := "ytbghmbbhkoniiaa", sum := "46f9248b1884a9106625ce6f10d6747e06920f9ac9e6f3a6729485974597af6b", func := "pub-bracken/laws.FnMapNone", spec := "fnMapNone", unfollowed := true, recurses := true, apart := false, narrowed := true }
def FnMapNoneUptoSaid : Prop := fnMapNoneUptoRow.holds Try.pinned (OpenSpec.upto fnMapNoneSpec)

/-- 'laws.FnMapRun', WHERE WHAT IT READS IS OF BULK AT MOST 1048576: true; the input reads as it did. -/
def fnMapRunUptoRow : OpenClaim := { program := "ytbghmbbhkoniiaa", sum := "46f9248b1884a9106625ce6f10d6747e06920f9ac9e6f3a6729485974597af6b", func := "pub-bracken/laws.FnMapRun", spec := "fnMapRun", unfollowed := true, recurses := true, apart := false, narrowed := true }
def FnMapRunUptoSaid : Prop := fnMapRunUptoRow.holds Try.pinned (OpenSpec.upto fnMapRunSpec)

/-- 'laws.FnMapOf', WHERE WHAT IT READS IS OF BULK AT MOST 1048576: true; the input reads as it did. -/
def fnMapOfUptoRow : OpenClaim := { program := "ytbghmbbhkoniiaa", sum := "46f9248b1884a9106625ce6f10d6747e06920f9ac9e6f3a6729485974597af6b", func := "pub-bracken/laws.FnMapOf", spec := "fnMapOf", unfollowed := true, recurses := true, apart := false, narrowed := true }
def FnMapOfUptoSaid : Prop := fnMapOfUptoRow.holds Try.pinned (OpenSpec.upto fnMapOfSpec)

/-- 'laws.FnMapWalk', WHERE WHAT IT READS IS OF BULK AT MOST 1048576: true; the input reads as it did. -/
def fnMapWalkUptoRow : OpenClaim := { program := "ytbghmbbhkoniiaa", sum := "46f9248b1884a9106625ce6f10d6747e06920f9ac9e6f3a6729485974597af6b", func := "pub-bracken/laws.FnMapWalk", spec := "fnMapWalk", unfollowed := true, recurses := true, apart := false, narrowed := true }
def FnMapWalkUptoSaid : Prop := fnMapWalkUptoRow.holds Try.pinned (OpenSpec.upto fnMapWalkSpec)

/-- 'laws.FnTextRun', WHERE WHAT IT READS IS OF BULK AT MOST 1048576: true; the input reads as it did. -/
def fnTextRunUptoRow : OpenClaim := { program := "ytbghmbbhkoniiaa", sum := "46f9248b1884a9106625ce6f10d6747e06920f9ac9e6f3a6729485974597af6b", func := "pub-bracken/laws.FnTextRun", spec := "fnTextRun", unfollowed := true, recurses := true, apart := false, narrowed := true }
def FnTextRunUptoSaid : Prop := fnTextRunUptoRow.holds Try.pinned (OpenSpec.upto fnTextRunSpec)

/-- 'laws.FnMapGet', WHERE WHAT IT READS IS OF BULK AT MOST 1048576: true; the input reads as it did. -/
def fnMapGetUptoRow : OpenClaim := { program := "ytbghmbbhkoniiaa", sum := "46f9248b1884a9106625ce6f10d6747e06920f9ac9e6f3a6729485974597af6b", func := "pub-bracken/laws.FnMapGet", spec := "fnMapGet", unfollowed := true, recurses := true, apart := false, narrowed := true }
def FnMapGetUptoSaid : Prop := fnMapGetUptoRow.holds Try.pinned (OpenSpec.upto fnMapGetSpec)

/-- 'laws.FnMapOrder', WHERE WHAT IT READS IS OF BULK AT MOST 1048576: true; the input reads as it did. -/
def fnMapOrderUptoRow : OpenClaim := { program := "ytbghmbbhkoniiaa", sum := "46f9248b1884a9106625ce6f10d6747e06920f9ac9e6f3a6729485974597af6b", func := "pub-bracken/laws.FnMapOrder", spec := "fnMapOrder", unfollowed := true, recurses := true, apart := false, narrowed := true }
def FnMapOrderUptoSaid : Prop := fnMapOrderUptoRow.holds Try.pinned (OpenSpec.upto fnMapOrderSpec)

/-- 'laws.FnItemHas', WHERE WHAT IT READS IS OF BULK AT MOST 1048576: true; the input reads as it did. -/
def fnItemHasUptoRow : OpenClaim := { program := "ytbghmbbhkoniiaa", sum := "46f9248b1884a9106625ce6f10d6747e06920f9ac9e6f3a6729485974597af6b", func := "pub-bracken/laws.FnItemHas", spec := "fnItemHas", unfollowed := true, recurses := true, apart := false, narrowed := true }
def FnItemHasUptoSaid : Prop := fnItemHasUptoRow.holds Try.pinned (OpenSpec.upto fnItemHasSpec)

/-- 'laws.FnMapBuild', WHERE WHAT IT READS IS OF BULK AT MOST 1048576: true; the input reads as it did. -/
def fnMapBuildUptoRow : OpenClaim := { program := "ytbghmbbhkoniiaa", sum := "46f9248b1884a9106625ce6f10d6747e06920f9ac9e6f3a6729485974597af6b", func := "pub-bracken/laws.FnMapBuild", spec := "fnMapBuild", unfollowed := true, recurses := true, apart := false, narrowed := true }
def FnMapBuildUptoSaid : Prop := fnMapBuildUptoRow.holds Try.pinned (OpenSpec.upto fnMapBuildSpec)

end Rows
end Go.Proofs.Ytbghmbbhkoniiaa
