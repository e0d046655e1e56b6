/-
  NARROWER THAN 'FOR EVERY INPUT', by the rows' own cells (each row's printed sentence says how): FnSorted: laid · FnSortedInto: laid · FnSortedOwn: laid · FnSortedTurned: laid · FnSortedUndo: laid · FnSortedOf: laid · FnSortedBuild: laid · FnSortedKeys: laid · FnSortedSeek: laid.
  DERIVED. THE GIVEN ROWS OF THIS SEAT. 9 by the template 'for every input the law returns true; each argument reads behind the call as it read before'; 0 by the template 'total and deterministic' (their statements: YtodjijfblgnfmaaGreatDoorTotals.lean).
  GIVEN WITH THE SEED: the statements are not yours to turn. If you find one false, say at which input.
  Laid BY PROGRAM, IN A SANDBOX (cutbox-rows.mjs): the forced cells as the released guide's own fill.sh prints them over the translation 9854abfc0a1074dd… (all of the seat's roots in one cut). By AI agents, Wed Nov 11 2026. No macro, syntax, notation, axiom, sorry.
-/
import Derived.Test.YtodjijfblgnfmaaGreatDoorChecked
import GoSem.Claim
import GoSem.ClaimJoined
import GoSem.ClaimMapViews
import Derived.JoinedTies
import Derived.KernelRfl
namespace Go.Proofs.YtodjijfblgnfmaaGreatDoor
/- THE CELL 'sum', in the pinned program and in every row, IS THE sha256 OF THE DUMP (.gsa) THAT YtodjijfblgnfmaaGreatDoorProg.lean LOADS. Nothing in Lean hashes anything: it is a label: what it is worth is what the hold of that sum in a sandbox is worth. -/
noncomputable def Tryz.pinned : Pinned := { name := "ytodjijfblgnfmaagreatdoor", sum := "9854abfc0a1074dd8420433e3a166e3d1af9988a9c806855dfa39c2b94a3cc12", checked := Tryz.checked }
namespace Rows
def none {H : Type} : Left H := { results := [], args := [] }

/- WHAT THE LISTED PACKAGE-LEVEL VARIABLES READ AS WHEN THE CALL BEGINS. Each datum BY PROGRAM (the guide's laid-datum.mjs) off the statement by which the dump's own 'gosem.cut.vars' lays the variable. In a bare row this is a premise. The card (YtodjijfblgnfmaaGreatDoorCards.lean) ties it to the program's text. -/
def laid_math_bits_deBruijn32tab {H : Type} : DataW H := .agg [.lit (.int .u8 0), .lit (.int .u8 1), .lit (.int .u8 28), .lit (.int .u8 2), .lit (.int .u8 29), .lit (.int .u8 14), .lit (.int .u8 24), .lit (.int .u8 3), .lit (.int .u8 30), .lit (.int .u8 22), .lit (.int .u8 20), .lit (.int .u8 15), .lit (.int .u8 25), .lit (.int .u8 17), .lit (.int .u8 4), .lit (.int .u8 8), .lit (.int .u8 31), .lit (.int .u8 27), .lit (.int .u8 13), .lit (.int .u8 23), .lit (.int .u8 21), .lit (.int .u8 19), .lit (.int .u8 16), .lit (.int .u8 7), .lit (.int .u8 26), .lit (.int .u8 12), .lit (.int .u8 18), .lit (.int .u8 6), .lit (.int .u8 11), .lit (.int .u8 5), .lit (.int .u8 10), .lit (.int .u8 9)]
def laid_math_bits_deBruijn64tab {H : Type} : DataW H := .agg [.lit (.int .u8 0), .lit (.int .u8 1), .lit (.int .u8 56), .lit (.int .u8 2), .lit (.int .u8 57), .lit (.int .u8 49), .lit (.int .u8 28), .lit (.int .u8 3), .lit (.int .u8 61), .lit (.int .u8 58), .lit (.int .u8 42), .lit (.int .u8 50), .lit (.int .u8 38), .lit (.int .u8 29), .lit (.int .u8 17), .lit (.int .u8 4), .lit (.int .u8 62), .lit (.int .u8 47), .lit (.int .u8 59), .lit (.int .u8 36), .lit (.int .u8 45), .lit (.int .u8 43), .lit (.int .u8 51), .lit (.int .u8 22), .lit (.int .u8 53), .lit (.int .u8 39), .lit (.int .u8 33), .lit (.int .u8 30), .lit (.int .u8 24), .lit (.int .u8 18), .lit (.int .u8 12), .lit (.int .u8 5), .lit (.int .u8 63), .lit (.int .u8 55), .lit (.int .u8 48), .lit (.int .u8 27), .lit (.int .u8 60), .lit (.int .u8 41), .lit (.int .u8 37), .lit (.int .u8 16), .lit (.int .u8 46), .lit (.int .u8 35), .lit (.int .u8 44), .lit (.int .u8 21), .lit (.int .u8 52), .lit (.int .u8 32), .lit (.int .u8 23), .lit (.int .u8 11), .lit (.int .u8 54), .lit (.int .u8 26), .lit (.int .u8 40), .lit (.int .u8 15), .lit (.int .u8 34), .lit (.int .u8 20), .lit (.int .u8 31), .lit (.int .u8 10), .lit (.int .u8 25), .lit (.int .u8 14), .lit (.int .u8 19), .lit (.int .u8 9), .lit (.int .u8 13), .lit (.int .u8 8), .lit (.int .u8 7), .lit (.int .u8 6)]
def laid_internal_strconv_uint64pow10 {H : Type} : DataW H := .agg [.lit (.int .u64 1), .lit (.int .u64 10), .lit (.int .u64 100), .lit (.int .u64 1000), .lit (.int .u64 10000), .lit (.int .u64 100000), .lit (.int .u64 1000000), .lit (.int .u64 10000000), .lit (.int .u64 100000000), .lit (.int .u64 1000000000), .lit (.int .u64 10000000000), .lit (.int .u64 100000000000), .lit (.int .u64 1000000000000), .lit (.int .u64 10000000000000), .lit (.int .u64 100000000000000), .lit (.int .u64 1000000000000000), .lit (.int .u64 10000000000000000), .lit (.int .u64 100000000000000000), .lit (.int .u64 1000000000000000000), .lit (.int .u64 10000000000000000000)]

/-- 'laws.FnSorted': WHATEVER THE INPUT: true; the input reads as it did. -/
def fnSortedSpec : ChangeSpec := { name := "fnSorted", fn := fun _ => fun
  | [d1, d2, d3] => { results := [.lit (.bool true)], args := [d1, d2, d3] }
  | _ => none }
def fnSortedRow : OpenClaim := { program := "ytodjijfblgnfmaagreatdoor", sum := "9854abfc0a1074dd8420433e3a166e3d1af9988a9c806855dfa39c2b94a3cc12", func := "pub-bracken/laws.FnSorted", spec := "fnSorted", unfollowed := true, recurses := true, named := ["internal/strconv.uint64pow10", "math/bits.deBruijn32tab", "math/bits.deBruijn64tab"], apart := false, laid := [("math/bits.deBruijn32tab", laid_math_bits_deBruijn32tab), ("math/bits.deBruijn64tab", laid_math_bits_deBruijn64tab), ("internal/strconv.uint64pow10", laid_internal_strconv_uint64pow10)] }
def FnSortedSaid : Prop := fnSortedRow.holds Tryz.pinned (OpenSpec.ofChange fnSortedSpec)

/-- ITS FALSE NEIGHBOUR: 'it returns false'. Refute it at one input. -/
def fnSortedWrong : ChangeSpec := { name := "fnSorted", fn := fun _ => fun
  | [d1, d2, d3] => { results := [.lit (.bool false)], args := [d1, d2, d3] }
  | _ => none }
def FnSortedWrongFalsely : Prop := fnSortedRow.holds Tryz.pinned (OpenSpec.ofChange fnSortedWrong)

/-- 'laws.FnSortedInto': WHATEVER THE INPUT: true; the input reads as it did. -/
def fnSortedIntoSpec : ChangeSpec := { name := "fnSortedInto", fn := fun _ => fun
  | [d1, d2, d3, d4] => { results := [.lit (.bool true)], args := [d1, d2, d3, d4] }
  | _ => none }
def fnSortedIntoRow : OpenClaim := { program := "ytodjijfblgnfmaagreatdoor", sum := "9854abfc0a1074dd8420433e3a166e3d1af9988a9c806855dfa39c2b94a3cc12", func := "pub-bracken/laws.FnSortedInto", spec := "fnSortedInto", unfollowed := true, recurses := true, named := ["internal/strconv.uint64pow10", "math/bits.deBruijn32tab", "math/bits.deBruijn64tab"], apart := false, laid := [("math/bits.deBruijn32tab", laid_math_bits_deBruijn32tab), ("math/bits.deBruijn64tab", laid_math_bits_deBruijn64tab), ("internal/strconv.uint64pow10", laid_internal_strconv_uint64pow10)] }
def FnSortedIntoSaid : Prop := fnSortedIntoRow.holds Tryz.pinned (OpenSpec.ofChange fnSortedIntoSpec)

/-- ITS FALSE NEIGHBOUR: 'it returns false'. Refute it at one input. -/
def fnSortedIntoWrong : ChangeSpec := { name := "fnSortedInto", fn := fun _ => fun
  | [d1, d2, d3, d4] => { results := [.lit (.bool false)], args := [d1, d2, d3, d4] }
  | _ => none }
def FnSortedIntoWrongFalsely : Prop := fnSortedIntoRow.holds Tryz.pinned (OpenSpec.ofChange fnSortedIntoWrong)

/-- 'laws.FnSortedOwn': WHATEVER THE INPUT: true; the input reads as it did. -/
def fnSortedOwnSpec : ChangeSpec := { name := "fnSortedOwn", fn := fun _ => fun
  | [d1, d2] => { results := [.lit (.bool true)], args := [d1, d2] }
  | _ => none }
def fnSortedOwnRow : OpenClaim := { program := "ytodjijfblgnfmaagreatdoor", sum := "9854abfc0a1074dd8420433e3a166e3d1af9988a9c806855dfa39c2b94a3cc12", func := "pub-bracken/laws.FnSortedOwn", spec := "fnSortedOwn", unfollowed := true, recurses := true, named := ["internal/strconv.uint64pow10", "math/bits.deBruijn32tab", "math/bits.deBruijn64tab"], apart := false, laid := [("math/bits.deBruijn32tab", laid_math_bits_deBruijn32tab), ("math/bits.deBruijn64tab", laid_math_bits_deBruijn64tab), ("internal/strconv.uint64pow10", laid_internal_strconv_uint64pow10)] }
def FnSortedOwnSaid : Prop := fnSortedOwnRow.holds Tryz.pinned (OpenSpec.ofChange fnSortedOwnSpec)

/-- ITS FALSE NEIGHBOUR: 'it returns false'. Refute it at one input. -/
def fnSortedOwnWrong : ChangeSpec := { name := "fnSortedOwn", fn := fun _ => fun
  | [d1, d2] => { results := [.lit (.bool false)], args := [d1, d2] }
  | _ => none }
def FnSortedOwnWrongFalsely : Prop := fnSortedOwnRow.holds Tryz.pinned (OpenSpec.ofChange fnSortedOwnWrong)

/-- 'laws.FnSortedTurned': WHATEVER THE INPUT: true; the input reads as it did. -/
def fnSortedTurnedSpec : ChangeSpec := { name := "fnSortedTurned", fn := fun _ => fun
  | [d1, d2] => { results := [.lit (.bool true)], args := [d1, d2] }
  | _ => none }
def fnSortedTurnedRow : OpenClaim := { program := "ytodjijfblgnfmaagreatdoor", sum := "9854abfc0a1074dd8420433e3a166e3d1af9988a9c806855dfa39c2b94a3cc12", func := "pub-bracken/laws.FnSortedTurned", spec := "fnSortedTurned", unfollowed := true, recurses := true, named := ["internal/strconv.uint64pow10", "math/bits.deBruijn32tab", "math/bits.deBruijn64tab"], apart := false, laid := [("math/bits.deBruijn32tab", laid_math_bits_deBruijn32tab), ("math/bits.deBruijn64tab", laid_math_bits_deBruijn64tab), ("internal/strconv.uint64pow10", laid_internal_strconv_uint64pow10)] }
def FnSortedTurnedSaid : Prop := fnSortedTurnedRow.holds Tryz.pinned (OpenSpec.ofChange fnSortedTurnedSpec)

/-- ITS FALSE NEIGHBOUR: 'it returns false'. Refute it at one input. -/
def fnSortedTurnedWrong : ChangeSpec := { name := "fnSortedTurned", fn := fun _ => fun
  | [d1, d2] => { results := [.lit (.bool false)], args := [d1, d2] }
  | _ => none }
def FnSortedTurnedWrongFalsely : Prop := fnSortedTurnedRow.holds Tryz.pinned (OpenSpec.ofChange fnSortedTurnedWrong)

/-- 'laws.FnSortedUndo': WHATEVER THE INPUT: true; the input reads as it did. -/
def fnSortedUndoSpec : ChangeSpec := { name := "fnSortedUndo", fn := fun _ => fun
  | [d1, d2, d3, d4] => { results := [.lit (.bool true)], args := [d1, d2, d3, d4] }
  | _ => none }
def fnSortedUndoRow : OpenClaim := { program := "ytodjijfblgnfmaagreatdoor", sum := "9854abfc0a1074dd8420433e3a166e3d1af9988a9c806855dfa39c2b94a3cc12", func := "pub-bracken/laws.FnSortedUndo", spec := "fnSortedUndo", unfollowed := true, recurses := true, named := ["internal/strconv.uint64pow10", "math/bits.deBruijn32tab", "math/bits.deBruijn64tab"], apart := false, laid := [("math/bits.deBruijn32tab", laid_math_bits_deBruijn32tab), ("math/bits.deBruijn64tab", laid_math_bits_deBruijn64tab), ("internal/strconv.uint64pow10", laid_internal_strconv_uint64pow10)] }
def FnSortedUndoSaid : Prop := fnSortedUndoRow.holds Tryz.pinned (OpenSpec.ofChange fnSortedUndoSpec)

/-- ITS FALSE NEIGHBOUR: 'it returns false'. Refute it at one input. -/
def fnSortedUndoWrong : ChangeSpec := { name := "fnSortedUndo", fn := fun _ => fun
  | [d1, d2, d3, d4] => { results := [.lit (.bool false)], args := [d1, d2, d3, d4] }
  | _ => none }
def FnSortedUndoWrongFalsely : Prop := fnSortedUndoRow.holds Tryz.pinned (OpenSpec.ofChange fnSortedUndoWrong)

/-- 'laws.FnSortedOf': WHATEVER THE INPUT: true; the input reads as it did. -/
def fnSortedOfSpec : ChangeSpec := { name := "fnSortedOf", fn := fun _ => fun
  | [d1, d2, d3] => { results := [.lit (.bool true)], args := [d1, d2, d3] }
  | _ => none }
def fnSortedOfRow : OpenClaim := { program := "ytodjijfblgnfmaagreatdoor", sum := "9854abfc0a1074dd8420433e3a166e3d1af9988a9c806855dfa39c2b94a3cc12", func := "pub-bracken/laws.FnSortedOf", spec := "fnSortedOf", unfollowed := true, recurses := true, named := ["internal/strconv.uint64pow10", "math/bits.deBruijn32tab", "math/bits.deBruijn64tab"], apart := false, laid := [("math/bits.deBruijn32tab", laid_math_bits_deBruijn32tab), ("math/bits.deBruijn64tab", laid_math_bits_deBruijn64tab), ("internal/strconv.uint64pow10", laid_internal_strconv_uint64pow10)] }
def FnSortedOfSaid : Prop := fnSortedOfRow.holds Tryz.pinned (OpenSpec.ofChange fnSortedOfSpec)

/-- ITS FALSE NEIGHBOUR: 'it returns false'. Refute it at one input. -/
def fnSortedOfWrong : ChangeSpec := { name := "fnSortedOf", fn := fun _ => fun
  | [d1, d2, d3] => { results := [.lit (.bool false)], args := [d1, d2, d3] }
  | _ => none }
def FnSortedOfWrongFalsely : Prop := fnSortedOfRow.holds Tryz.pinned (OpenSpec.ofChange fnSortedOfWrong)

/-- 'laws.FnSortedBuild': WHATEVER THE INPUT: true; the input reads as it did. -/
def fnSortedBuildSpec : ChangeSpec := { name := "fnSortedBuild", fn := fun _ => fun
  | [d1, d2, d3] => { results := [.lit (.bool true)], args := [d1, d2, d3] }
  | _ => none }
def fnSortedBuildRow : OpenClaim := { program := "ytodjijfblgnfmaagreatdoor", sum := "9854abfc0a1074dd8420433e3a166e3d1af9988a9c806855dfa39c2b94a3cc12", func := "pub-bracken/laws.FnSortedBuild", spec := "fnSortedBuild", unfollowed := true, recurses := true, named := ["internal/strconv.uint64pow10", "math/bits.deBruijn32tab", "math/bits.deBruijn64tab"], apart := false, laid := [("math/bits.deBruijn32tab", laid_math_bits_deBruijn32tab), ("math/bits.deBruijn64tab", laid_math_bits_deBruijn64tab), ("internal/strconv.uint64pow10", laid_internal_strconv_uint64pow10)] }
def FnSortedBuildSaid : Prop := fnSortedBuildRow.holds Tryz.pinned (OpenSpec.ofChange fnSortedBuildSpec)

/-- ITS FALSE NEIGHBOUR: 'it returns false'. Refute it at one input. -/
def fnSortedBuildWrong : ChangeSpec := { name := "fnSortedBuild", fn := fun _ => fun
  | [d1, d2, d3] => { results := [.lit (.bool false)], args := [d1, d2, d3] }
  | _ => none }
def FnSortedBuildWrongFalsely : Prop := fnSortedBuildRow.holds Tryz.pinned (OpenSpec.ofChange fnSortedBuildWrong)

/-- 'laws.FnSortedKeys': WHATEVER THE INPUT: true; the input reads as it did. -/
def fnSortedKeysSpec : ChangeSpec := { name := "fnSortedKeys", fn := fun _ => fun
  | [d1, d2, d3] => { results := [.lit (.bool true)], args := [d1, d2, d3] }
  | _ => none }
def fnSortedKeysRow : OpenClaim := { program := "ytodjijfblgnfmaagreatdoor", sum := "9854abfc0a1074dd8420433e3a166e3d1af9988a9c806855dfa39c2b94a3cc12", func := "pub-bracken/laws.FnSortedKeys", spec := "fnSortedKeys", unfollowed := true, recurses := true, named := ["internal/strconv.uint64pow10", "math/bits.deBruijn32tab", "math/bits.deBruijn64tab"], apart := false, laid := [("math/bits.deBruijn32tab", laid_math_bits_deBruijn32tab), ("math/bits.deBruijn64tab", laid_math_bits_deBruijn64tab), ("internal/strconv.uint64pow10", laid_internal_strconv_uint64pow10)] }
def FnSortedKeysSaid : Prop := fnSortedKeysRow.holds Tryz.pinned (OpenSpec.ofChange fnSortedKeysSpec)

/-- ITS FALSE NEIGHBOUR: 'it returns false'. Refute it at one input. -/
def fnSortedKeysWrong : ChangeSpec := { name := "fnSortedKeys", fn := fun _ => fun
  | [d1, d2, d3] => { results := [.lit (.bool false)], args := [d1, d2, d3] }
  | _ => none }
def FnSortedKeysWrongFalsely : Prop := fnSortedKeysRow.holds Tryz.pinned (OpenSpec.ofChange fnSortedKeysWrong)

/-- 'laws.FnSortedSeek': WHATEVER THE INPUT: true; the input reads as it did. -/
def fnSortedSeekSpec : ChangeSpec := { name := "fnSortedSeek", fn := fun _ => fun
  | [d1, d2, d3, d4] => { results := [.lit (.bool true)], args := [d1, d2, d3, d4] }
  | _ => none }
def fnSortedSeekRow : OpenClaim := { program := "ytodjijfblgnfmaagreatdoor", sum := "9854abfc0a1074dd8420433e3a166e3d1af9988a9c806855dfa39c2b94a3cc12", func := "pub-bracken/laws.FnSortedSeek", spec := "fnSortedSeek", unfollowed := true, recurses := true, named := ["internal/strconv.uint64pow10", "math/bits.deBruijn32tab", "math/bits.deBruijn64tab"], apart := false, laid := [("math/bits.deBruijn32tab", laid_math_bits_deBruijn32tab), ("math/bits.deBruijn64tab", laid_math_bits_deBruijn64tab), ("internal/strconv.uint64pow10", laid_internal_strconv_uint64pow10)] }
def FnSortedSeekSaid : Prop := fnSortedSeekRow.holds Tryz.pinned (OpenSpec.ofChange fnSortedSeekSpec)

/-- ITS FALSE NEIGHBOUR: 'it returns false'. Refute it at one input. -/
def fnSortedSeekWrong : ChangeSpec := { name := "fnSortedSeek", fn := fun _ => fun
  | [d1, d2, d3, d4] => { results := [.lit (.bool false)], args := [d1, d2, d3, d4] }
  | _ => none }
def FnSortedSeekWrongFalsely : Prop := fnSortedSeekRow.holds Tryz.pinned (OpenSpec.ofChange fnSortedSeekWrong)

/- THE SECOND FORM. 'bulk': how many values and letters a reading holds, each counted each time it is reached (what is shared counts as often as it is met; a slice's spare places count too). A statement '..UptoSaid' is the law's where the arguments, and the package variables that the reading takes, are together of bulk at most 1048576: NARROWER than '..Said'. Prove '..Said' where nothing that the law and all that it calls make is longer than what came in: it says more and counts as full. Else prove '..UptoSaid'. A law counts once. -/
mutual
def uptoBulk {H : Type} : DataW H → Nat
  | .lit (.string bytes) => bytes.length + 1
  | .lit _ => 1
  | .nil => 1
  | .ptr d => uptoBulk d + 1
  | .slice elems spare => uptoBulkAll elems + uptoBulkAll spare + 1
  | .agg parts => uptoBulkAll parts + 1
  | .iface _ d => uptoBulk d + 1
  | .map entries => uptoBulkEntries entries + 1
  | .held _ => 1
def uptoBulkAll {H : Type} : List (DataW H) → Nat
  | [] => 0
  | d :: r => uptoBulk d + uptoBulkAll r
def uptoBulkEntries {H : Type} : List (Lit × DataW H) → Nat
  | [] => 0
  | x :: r => uptoBulkEntry x + uptoBulkEntries r
def uptoBulkEntry {H : Type} : Lit × DataW H → Nat
  | (.string bytes, d) => bytes.length + uptoBulk d + 1
  | (_, d) => uptoBulk d + 1
 end
def uptoSmall : (H : Type) → List (DataW H) → Bool := fun _ ds => decide (uptoBulkAll ds ≤ 1048576)
def OpenSpec.upto (s : _root_.Go.ChangeSpec) : _root_.Go.OpenSpec := { _root_.Go.OpenSpec.ofChange s with cond := some uptoSmall }

/-- 'laws.FnSorted', WHERE WHAT IT READS IS OF BULK AT MOST 1048576: true; the input reads as it did. -/
def fnSortedUptoRow : OpenClaim := { program := "ytodjijfblgnfmaagreatdoor", sum := "9854abfc0a1074dd8420433e3a166e3d1af9988a9c806855dfa39c2b94a3cc12", func := "pub-bracken/laws.FnSorted", spec := "fnSorted", unfollowed := true, recurses := true, named := ["internal/strconv.uint64pow10", "math/bits.deBruijn32tab", "math/bits.deBruijn64tab"], apart := false, laid := [("math/bits.deBruijn32tab", laid_math_bits_deBruijn32tab), ("math/bits.deBruijn64tab", laid_math_bits_deBruijn64tab), ("internal/strconv.uint64pow10", laid_internal_strconv_uint64pow10)], narrowed := true }
def FnSortedUptoSaid : Prop := fnSortedUptoRow.holds Tryz.pinned (OpenSpec.upto fnSortedSpec)

/-- 'laws.FnSortedInto', WHERE WHAT IT READS IS OF BULK AT MOST 1048576: true; the input reads as it did. -/
def fnSortedIntoUptoRow : OpenClaim := { program := "ytodjijfblgnfmaagreatdoor", sum := "9854abfc0a1074dd8420433e3a166e3d1af9988a9c806855dfa39c2b94a3cc12", func := "pub-bracken/laws.FnSortedInto", spec := "fnSortedInto", unfollowed := true, recurses := true, named := ["internal/strconv.uint64pow10", "math/bits.deBruijn32tab", "math/bits.deBruijn64tab"], apart := false, laid := [("math/bits.deBruijn32tab", laid_math_bits_deBruijn32tab), ("math/bits.deBruijn64tab", laid_math_bits_deBruijn64tab), ("internal/strconv.uint64pow10", laid_internal_strconv_uint64pow10)], narrowed := true }
def FnSortedIntoUptoSaid : Prop := fnSortedIntoUptoRow.holds Tryz.pinned (OpenSpec.upto fnSortedIntoSpec)

/-- 'laws.FnSortedOwn', WHERE WHAT IT READS IS OF BULK AT MOST 1048576: true; the input reads as it did. -/
def fnSortedOwnUptoRow : OpenClaim := { program := "ytodjijfblgnfmaagreatdoor", sum := "9854abfc0a1074dd8420433e3a166e3d1af9988a9c806855dfa39c2b94a3cc12", func := "pub-bracken/laws.FnSortedOwn", spec := "fnSortedOwn", unfollowed := true, recurses := true, named := ["internal/strconv.uint64pow10", "math/bits.deBruijn32tab", "math/bits.deBruijn64tab"], apart := false, laid := [("math/bits.deBruijn32tab", laid_math_bits_deBruijn32tab), ("math/bits.deBruijn64tab", laid_math_bits_deBruijn64tab), ("internal/strconv.uint64pow10", laid_internal_strconv_uint64pow10)], narrowed := true }
def FnSortedOwnUptoSaid : Prop := fnSortedOwnUptoRow.holds Tryz.pinned (OpenSpec.upto fnSortedOwnSpec)

/-- 'laws.FnSortedTurned', WHERE WHAT IT READS IS OF BULK AT MOST 1048576: true; the input reads as it did. -/
def fnSortedTurnedUptoRow : OpenClaim := { program := "ytodjijfblgnfmaagreatdoor", sum := "9854abfc0a1074dd8420433e3a166e3d1af9988a9c806855dfa39c2b94a3cc12", func := "pub-bracken/laws.FnSortedTurned", spec := "fnSortedTurned", unfollowed := true, recurses := true, named := ["internal/strconv.uint64pow10", "math/bits.deBruijn32tab", "math/bits.deBruijn64tab"], apart := false, laid := [("math/bits.deBruijn32tab", laid_math_bits_deBruijn32tab), ("math/bits.deBruijn64tab", laid_math_bits_deBruijn64tab), ("internal/strconv.uint64pow10", laid_internal_strconv_uint64pow10)], narrowed := true }
def FnSortedTurnedUptoSaid : Prop := fnSortedTurnedUptoRow.holds Tryz.pinned (OpenSpec.upto fnSortedTurnedSpec)

/-- 'laws.FnSortedUndo', WHERE WHAT IT READS IS OF BULK AT MOST 1048576: true; the input reads as it did. -/
def fnSortedUndoUptoRow : OpenClaim := { program := "ytodjijfblgnfmaagreatdoor", sum := "9854abfc0a1074dd8420433e3a166e3d1af9988a9c806855dfa39c2b94a3cc12", func := "pub-bracken/laws.FnSortedUndo", spec := "fnSortedUndo", unfollowed := true, recurses := true, named := ["internal/strconv.uint64pow10", "math/bits.deBruijn32tab", "math/bits.deBruijn64tab"], apart := false, laid := [("math/bits.deBruijn32tab", laid_math_bits_deBruijn32tab), ("math/bits.deBruijn64tab", laid_math_bits_deBruijn64tab), ("internal/strconv.uint64pow10", laid_internal_strconv_uint64pow10)], narrowed := true }
def FnSortedUndoUptoSaid : Prop := fnSortedUndoUptoRow.holds Tryz.pinned (OpenSpec.upto fnSortedUndoSpec)

/-- 'laws.FnSortedOf', WHERE WHAT IT READS IS OF BULK AT MOST 1048576: true; the input reads as it did. -/
def fnSortedOfUptoRow : OpenClaim := { program := "ytodjijfblgnfmaagreatdoor", sum := "9854abfc0a1074dd8420433e3a166e3d1af9988a9c806855dfa39c2b94a3cc12", func := "pub-bracken/laws.FnSortedOf", spec := "fnSortedOf", unfollowed := true, recurses := true, named := ["internal/strconv.uint64pow10", "math/bits.deBruijn32tab", "math/bits.deBruijn64tab"], apart := false, laid := [("math/bits.deBruijn32tab", laid_math_bits_deBruijn32tab), ("math/bits.deBruijn64tab", laid_math_bits_deBruijn64tab), ("internal/strconv.uint64pow10", laid_internal_strconv_uint64pow10)], narrowed := true }
def FnSortedOfUptoSaid : Prop := fnSortedOfUptoRow.holds Tryz.pinned (OpenSpec.upto fnSortedOfSpec)

/-- 'laws.FnSortedBuild', WHERE WHAT IT READS IS OF BULK AT MOST 1048576: true; the input reads as it did. -/
def fnSortedBuildUptoRow : OpenClaim := { program := "ytodjijfblgnfmaagreatdoor", sum := "9854abfc0a1074dd8420433e3a166e3d1af9988a9c806855dfa39c2b94a3cc12", func := "pub-bracken/laws.FnSortedBuild", spec := "fnSortedBuild", unfollowed := true, recurses := true, named := ["internal/strconv.uint64pow10", "math/bits.deBruijn32tab", "math/bits.deBruijn64tab"], apart := false, laid := [("math/bits.deBruijn32tab", laid_math_bits_deBruijn32tab), ("math/bits.deBruijn64tab", laid_math_bits_deBruijn64tab), ("internal/strconv.uint64pow10", laid_internal_strconv_uint64pow10)], narrowed := true }
def FnSortedBuildUptoSaid : Prop := fnSortedBuildUptoRow.holds Tryz.pinned (OpenSpec.upto fnSortedBuildSpec)

/-- 'laws.FnSortedKeys', WHERE WHAT IT READS IS OF BULK AT MOST 1048576: true; the input reads as it did. -/
def fnSortedKeysUptoRow : OpenClaim := { program := "ytodjijfblgnfmaagreatdoor", sum := "9854abfc0a1074dd8420433e3a166e3d1af9988a9c806855dfa39c2b94a3cc12", func := "pub-bracken/laws.FnSortedKeys", spec := "fnSortedKeys", unfollowed := true, recurses := true, named := ["internal/strconv.uint64pow10", "math/bits.deBruijn32tab", "math/bits.deBruijn64tab"], apart := false, laid := [("math/bits.deBruijn32tab", laid_math_bits_deBruijn32tab), ("math/bits.deBruijn64tab", laid_math_bits_deBruijn64tab), ("internal/strconv.uint64pow10", laid_internal_strconv_uint64pow10)], narrowed := true }
def FnSortedKeysUptoSaid : Prop := fnSortedKeysUptoRow.holds Tryz.pinned (OpenSpec.upto fnSortedKeysSpec)

/-- 'laws.FnSortedSeek', WHERE WHAT IT READS IS OF BULK AT MOST 1048576: true; the input reads as it did. -/
def fnSortedSeekUptoRow : OpenClaim := { program := "ytodjijfblgnfmaagreatdoor", sum := "9854abfc0a1074dd8420433e3a166e3d1af9988a9c806855dfa39c2b94a3cc12", func := "pub-bracken/laws.FnSortedSeek", spec := "fnSortedSeek", unfollowed := true, recurses := true, named := ["internal/strconv.uint64pow10", "math/bits.deBruijn32tab", "math/bits.deBruijn64tab"], apart := false, laid := [("math/bits.deBruijn32tab", laid_math_bits_deBruijn32tab), ("math/bits.deBruijn64tab", laid_math_bits_deBruijn64tab), ("internal/strconv.uint64pow10", laid_internal_strconv_uint64pow10)], narrowed := true }
def FnSortedSeekUptoSaid : Prop := fnSortedSeekUptoRow.holds Tryz.pinned (OpenSpec.upto fnSortedSeekSpec)

end Rows
end Go.Proofs.YtodjijfblgnfmaaGreatDoor
