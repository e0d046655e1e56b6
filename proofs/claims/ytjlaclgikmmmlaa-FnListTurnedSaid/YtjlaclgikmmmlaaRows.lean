/-
  No cell of these rows narrows 'for every input' (looked for: loops, veiled, ifaces, maps, wideKeys, modest, calm, conditions, laid).
  DERIVED. THE GIVEN ROWS OF THIS SEAT. 6 by the template 'for every input the law returns true; each argument reads behind the call as it read before'; 0 by the template 'total and deterministic' (their statements: YtjlaclgikmmmlaaTotals.lean).
  GIVEN WITH THE SEED: the statements are not yours to turn. If you find one false, say at which input.
  Laid BY PROGRAM, IN A SANDBOX (cutbox-rows.mjs): the forced cells as the released guide's own fill.sh prints them over the translation 1f60ce0801a211cb… (all of the seat's roots in one cut). By AI agents, Wed Nov 11 2026. No macro, syntax, notation, axiom, sorry.
-/
import Derived.Test.YtjlaclgikmmmlaaChecked
import GoSem.Claim
import GoSem.ClaimJoined
import GoSem.ClaimMapViews
import Derived.JoinedTies
import Derived.KernelRfl
namespace Go.Proofs.Ytjlaclgikmmmlaa
/- THE CELL 'sum', in the pinned program and in every row, IS THE sha256 OF THE DUMP (.gsa) THAT YtjlaclgikmmmlaaProg.lean LOADS. Nothing in Lean hashes anything: it is a label: what it is worth is what the hold of that sum in a sandbox is worth. -/
noncomputable def Try.pinned : Pinned := { name := "ytjlaclgikmmmlaa", sum := "1f60ce0801a211cbee99c645bc80eedfce4703f273a927d56c40ac123cc90949", checked := Try.checked }
namespace Rows
def none {H : Type} : Left H := { results := [], args := [] }

/-- 'laws.FnListParts': WHATEVER THE INPUT: true; the input reads as it did. -/
def fnListPartsSpec : ChangeSpec := { name := "fnListParts", fn := fun _ => fun
  | [d1, d2] => { results := [.lit (.bool true)], args := [d1, d2] }
  | _ => none }
def fnListPartsRow : OpenClaim := { program := "ytjlaclgikmmmlaa", sum := "1f60ce0801a211cbee99c645bc80eedfce4703f273a927d56c40ac123cc90949", func := "pub-bracken/laws.FnListParts", spec := "fnListParts", unfollowed := true, recurses := true, apart := false }
def FnListPartsSaid : Prop := fnListPartsRow.holds Try.pinned (OpenSpec.ofChange fnListPartsSpec)

/-- ITS FALSE NEIGHBOUR: 'it returns false'. Refute it at one input. -/
def fnListPartsWrong : ChangeSpec := { name := "fnListParts", fn := fun _ => fun
  | [d1, d2] => { results := [.lit (.bool false)], args := [d1, d2] }
  | _ => none }
def FnListPartsWrongFalsely : Prop := fnListPartsRow.holds Try.pinned (OpenSpec.ofChange fnListPartsWrong)

/-- 'laws.FnListSlices': WHATEVER THE INPUT: true; the input reads as it did. -/
def fnListSlicesSpec : ChangeSpec := { name := "fnListSlices", fn := fun _ => fun
  | [d1, d2, d3, d4, d5] => { results := [.lit (.bool true)], args := [d1, d2, d3, d4, d5] }
  | _ => none }
def fnListSlicesRow : OpenClaim := { program := "ytjlaclgikmmmlaa", sum := "1f60ce0801a211cbee99c645bc80eedfce4703f273a927d56c40ac123cc90949", func := "pub-bracken/laws.FnListSlices", spec := "fnListSlices", unfollowed := true, recurses := true, apart := false }
def FnListSlicesSaid : Prop := fnListSlicesRow.holds Try.pinned (OpenSpec.ofChange fnListSlicesSpec)

/-- ITS FALSE NEIGHBOUR: 'it returns false'. Refute it at one input. -/
def fnListSlicesWrong : ChangeSpec := { name := "fnListSlices", fn := fun _ => fun
  | [d1, d2, d3, d4, d5] => { results := [.lit (.bool false)], args := [d1, d2, d3, d4, d5] }
  | _ => none }
def FnListSlicesWrongFalsely : Prop := fnListSlicesRow.holds Try.pinned (OpenSpec.ofChange fnListSlicesWrong)

/-- 'laws.FnListRun': WHATEVER THE INPUT: true; the input reads as it did. -/
def fnListRunSpec : ChangeSpec := { name := "fnListRun", fn := fun _ => fun
  | [d1, d2] => { results := [.lit (.bool true)], args := [d1, d2] }
  | _ => none }
def fnListRunRow : OpenClaim := { program := "ytjlaclgikmmmlaa", sum := "1f60ce0801a211cbee99c645bc80eedfce4703f273a927d56c40ac123cc90949", func := "pub-bracken/laws.FnListRun", spec := "fnListRun", unfollowed := true, recurses := true, apart := false }
def FnListRunSaid : Prop := fnListRunRow.holds Try.pinned (OpenSpec.ofChange fnListRunSpec)

/-- ITS FALSE NEIGHBOUR: 'it returns false'. Refute it at one input. -/
def fnListRunWrong : ChangeSpec := { name := "fnListRun", fn := fun _ => fun
  | [d1, d2] => { results := [.lit (.bool false)], args := [d1, d2] }
  | _ => none }
def FnListRunWrongFalsely : Prop := fnListRunRow.holds Try.pinned (OpenSpec.ofChange fnListRunWrong)

/-- 'laws.FnListTurned': WHATEVER THE INPUT: true; the input reads as it did. -/
def fnListTurnedSpec : ChangeSpec := { name := "fnListTurned", fn := fun _ => fun
  | [d1, d2] => { results := [.lit (.bool true)], args := [d1, d2] }
  | _ => none }
def fnListTurnedRow : OpenClaim := { program := "ytjlaclgikmmmlaa", sum := "1f60ce0801a211cbee99c645bc80eedfce4703f273a927d56c40ac123cc90949", func := "pub-bracken/laws.FnListTurned", spec := "fnListTurned", unfollowed := true, recurses := true, apart := false }
def FnListTurnedSaid : Prop := fnListTurnedRow.holds Try.pinned (OpenSpec.ofChange fnListTurnedSpec)

/-- ITS FALSE NEIGHBOUR: 'it returns false'. Refute it at one input. -/
def fnListTurnedWrong : ChangeSpec := { name := "fnListTurned", fn := fun _ => fun
  | [d1, d2] => { results := [.lit (.bool false)], args := [d1, d2] }
  | _ => none }
def FnListTurnedWrongFalsely : Prop := fnListTurnedRow.holds Try.pinned (OpenSpec.ofChange fnListTurnedWrong)

/-- 'laws.FnListMoves': WHATEVER THE INPUT: true; the input reads as it did. -/
def fnListMovesSpec : ChangeSpec := { name := "fnListMoves", fn := fun _ => fun
  | [d1, d2, d3, d4] => { results := [.lit (.bool true)], args := [d1, d2, d3, d4] }
  | _ => none }
def fnListMovesRow : OpenClaim := { program := "ytjlaclgikmmmlaa", sum := "1f60ce0801a211cbee99c645bc80eedfce4703f273a927d56c40ac123cc90949", func := "pub-bracken/laws.FnListMoves", spec := "fnListMoves", unfollowed := true, recurses := true, apart := false }
def FnListMovesSaid : Prop := fnListMovesRow.holds Try.pinned (OpenSpec.ofChange fnListMovesSpec)

/-- ITS FALSE NEIGHBOUR: 'it returns false'. Refute it at one input. -/
def fnListMovesWrong : ChangeSpec := { name := "fnListMoves", fn := fun _ => fun
  | [d1, d2, d3, d4] => { results := [.lit (.bool false)], args := [d1, d2, d3, d4] }
  | _ => none }
def FnListMovesWrongFalsely : Prop := fnListMovesRow.holds Try.pinned (OpenSpec.ofChange fnListMovesWrong)

/-- 'laws.FnListBuild': WHATEVER THE INPUT: true; the input reads as it did. -/
def fnListBuildSpec : ChangeSpec := { name := "fnListBuild", fn := fun _ => fun
  | [d1, d2] => { results := [.lit (.bool true)], args := [d1, d2] }
  | _ => none }
def fnListBuildRow : OpenClaim := { program := "ytjlaclgikmmmlaa", sum := "1f60ce0801a211cbee99c645bc80eedfce4703f273a927d56c40ac123cc90949", func := "pub-bracken/laws.FnListBuild", spec := "fnListBuild", unfollowed := true, recurses := true, apart := false }
def FnListBuildSaid : Prop := fnListBuildRow.holds Try.pinned (OpenSpec.ofChange fnListBuildSpec)

/-- ITS FALSE NEIGHBOUR: 'it returns false'. Refute it at one input. -/
def fnListBuildWrong : ChangeSpec := { name := "fnListBuild", fn := fun _ => fun
  | [d1, d2] => { results := [.lit (.bool false)], args := [d1, d2] }
  | _ => none }
def FnListBuildWrongFalsely : Prop := fnListBuildRow.holds Try.pinned (OpenSpec.ofChange fnListBuildWrong)

/- THE SECOND FORM. 'bulk': how many values and letters a reading holds, each counted each time it is reached (what is shared counts as often as it is met; a slice's spare places count too). A statement '..UptoSaid' is the law's where the arguments, and the package variables that the reading takes, are together of bulk at most 1048576: NARROWER than '..Said'. Prove '..Said' where nothing that the law and all that it calls make is longer than what came in: it says more and counts as full. Else prove '..UptoSaid'. A law counts once. -/
mutual
def uptoBulk {H : Type} : DataW H → Nat
  | .lit (.string bytes) => bytes.length + 1
  | .lit _ => 1
  | .nil => 1
  | .ptr d => uptoBulk d + 1
  | .slice elems spare => uptoBulkAll elems + uptoBulkAll spare + 1
  | .agg parts => uptoBulkAll parts + 1
  | .iface _ d => uptoBulk d + 1
  | .map entries => uptoBulkEntries entries + 1
  | .held _ => 1
def uptoBulkAll {H : Type} : List (DataW H) → Nat
  | [] => 0
  | d :: r => uptoBulk d + uptoBulkAll r
def uptoBulkEntries {H : Type} : List (Lit × DataW H) → Nat
  | [] => 0
  | x :: r => uptoBulkEntry x + uptoBulkEntries r
def uptoBulkEntry {H : Type} : Lit × DataW H → Nat
  | (.string bytes, d) => bytes.length + uptoBulk d + 1
  | (_, d) => uptoBulk d + 1
 end
def uptoSmall : (H : Type) → List (DataW H) → Bool := fun _ ds => decide (uptoBulkAll ds ≤ 1048576)
def OpenSpec.upto (s : _root_.Go.ChangeSpec) : _root_.Go.OpenSpec := { _root_.Go.OpenSpec.ofChange s with cond := some uptoSmall }

/-- 'laws.FnListParts', WHERE WHAT IT READS IS OF BULK AT MOST 1048576: true; the input reads as it did. -/
def fnListPartsUptoRow : OpenClaim := { program := "ytjlaclgikmmmlaa", sum := "1f60ce0801a211cbee99c645bc80eedfce4703f273a927d56c40ac123cc90949", func := "pub-bracken/laws.FnListParts", spec := "fnListParts", unfollowed := true, recurses := true, apart := false, narrowed := true }
def FnListPartsUptoSaid : Prop := fnListPartsUptoRow.holds Try.pinned (OpenSpec.upto fnListPartsSpec)

/-- 'laws.FnListSlices', WHERE WHAT IT READS IS OF BULK AT MOST 1048576: true; the input reads as it did. -/
def fnListSlicesUptoRow : OpenClaim := { program := "ytjlaclgikmmmlaa", sum := "1f60ce0801a211cbee99c645bc80eedfce4703f273a927d56c40ac123cc90949", func := "pub-bracken/laws.FnListSlices", spec := "fnListSlices", unfollowed := true, recurses := true, apart := false, narrowed := true }
def FnListSlicesUptoSaid : Prop := fnListSlicesUptoRow.holds Try.pinned (OpenSpec.upto fnListSlicesSpec)

/-- 'laws.FnListRun', WHERE WHAT IT READS IS OF BULK AT MOST 1048576: true; the input reads as it did. -/
def fnListRunUptoRow : OpenClaim := { program := "ytjlaclgikmmmlaa", sum := "1f60ce0801a211cbee99c645bc80eedfce4703f273a927d56c40ac123cc90949", func := "pub-bracken/laws.FnListRun", spec := "fnListRun", unfollowed := true, recurses := true, apart := false, narrowed := true }
def FnListRunUptoSaid : Prop := fnListRunUptoRow.holds Try.pinned (OpenSpec.upto fnListRunSpec)

/-- 'laws.FnListTurned', WHERE WHAT IT READS IS OF BULK AT MOST 1048576: true; the input reads as it did. -/
def fnListTurnedUptoRow : OpenClaim := { program := "ytjlaclgikmmmlaa", sum := "1f60ce0801a211cbee99c645bc80eedfce4703f273a927d56c40ac123cc90949", func := "pub-bracken/laws.FnListTurned", spec := "fnListTurned", unfollowed := true, recurses := true, apart := false, narrowed := true }
def FnListTurnedUptoSaid : Prop := fnListTurnedUptoRow.holds Try.pinned (OpenSpec.upto fnListTurnedSpec)

/-- 'laws.FnListMoves', WHERE WHAT IT READS IS OF BULK AT MOST 1048576: true; the input reads as it did. -/
def fnListMovesUptoRow : OpenClaim := { program := "ytjlaclgikmmmlaa", sum := "1f60ce0801a211cbee99c645bc80eedfce4703f273a927d56c40ac123cc90949", func := "pub-bracken/laws.FnListMoves", spec := "fnListMoves", unfollowed := true, recurses := true, apart := false, narrowed := true }
def FnListMovesUptoSaid : Prop := fnListMovesUptoRow.holds Try.pinned (OpenSpec.upto fnListMovesSpec)

/-- 'laws.FnListBuild', WHERE WHAT IT READS IS OF BULK AT MOST 1048576: true; the input reads as it did. -/
def fnListBuildUptoRow : OpenClaim := { program := "ytjlaclgikmmmlaa", sum := "1f60ce0801a211cbee99c645bc80eedfce4703f273a927d56c40ac123cc90949", func := "pub-bracken/laws.FnListBuild", spec := "fnListBuild", unfollowed := true, recurses := true, apart := false, narrowed := true }
def FnListBuildUptoSaid : Prop := fnListBuildUptoRow.holds Try.pinned (OpenSpec.upto fnListBuildSpec)

end Rows
end Go.Proofs.Ytjlaclgikmmmlaa
