/-
  No cell of these rows narrows 'for every input' (looked for: loops, veiled, ifaces, maps, wideKeys, modest, calm, conditions, laid).
  DERIVED. THE GIVEN ROWS OF THIS SEAT. 5 by the template 'for every input the law returns true; each argument reads behind the call as it read before'; 0 by the template 'total and deterministic' (their statements: Qxb6603146aTotals.lean).
  GIVEN WITH THE SEED: the statements are not yours to turn. If you find one false, say at which input.
  Laid BY PROGRAM, IN A SANDBOX (cutbox-rows.mjs): the forced cells as the released guide's own fill.sh prints them over the translation 48f641c411b685e9… (all of the seat's roots in one cut). By AI agents, Wed Nov 11 2026. No macro, syntax, notation, axiom, sorry.
-/
import Derived.Test.Qxb6603146aChecked
import GoSem.Claim
import GoSem.ClaimJoined
import GoSem.ClaimMapViews
import Derived.JoinedTies
import Derived.KernelRfl
namespace Go.Proofs.Qxb6603146a
/- THE CELL 'sum', in the pinned program and in every row, IS THE sha256 OF THE DUMP (.gsa) THAT Qxb6603146aProg.lean LOADS. Nothing in Lean hashes anything: it is a label: what it is worth is what the hold of that sum in a sandbox is worth. -/
noncomputable def Try.pinned : Pinned := { name := "qxb6603146a", sum := "48f641c411b685e9f2a658e29857a375fa80dc8d3520292d6311c9406a350749", checked := Try.checked }
namespace Rows
def none {H : Type} : Left H := { results := [], args := [] }

/-- 'zzlaws_root_b1.FnMalformedLengthLongestEncodingPrefix': WHATEVER THE INPUT: true; the input reads as it did. -/
def fnMalformedLengthLongestEncodingPrefixSpec : ChangeSpec := { name := "fnMalformedLengthLongestEncodingPrefix", fn := fun _ => fun
  | [d] => { results := [.lit (.bool true)], args := [d] }
  | _ => none }
def fnMalformedLengthLongestEncodingPrefixRow : OpenClaim := { program := "qxb6603146a", sum := "48f641c411b685e9f2a658e29857a375fa80dc8d3520292d6311c9406a350749", func := "example.com/backslash/backslash/zzlaws_root_b1.FnMalformedLengthLongestEncodingPrefix", spec := "fnMalformedLengthLongestEncodingPrefix", apart := false }
def FnMalformedLengthLongestEncodingPrefixSaid : Prop := fnMalformedLengthLongestEncodingPrefixRow.holds Try.pinned (OpenSpec.ofChange fnMalformedLengthLongestEncodingPrefixSpec)

/-- ITS FALSE NEIGHBOUR: 'it returns false'. Refute it at one input. -/
def fnMalformedLengthLongestEncodingPrefixWrong : ChangeSpec := { name := "fnMalformedLengthLongestEncodingPrefix", fn := fun _ => fun
  | [d] => { results := [.lit (.bool false)], args := [d] }
  | _ => none }
def FnMalformedLengthLongestEncodingPrefixWrongFalsely : Prop := fnMalformedLengthLongestEncodingPrefixRow.holds Try.pinned (OpenSpec.ofChange fnMalformedLengthLongestEncodingPrefixWrong)

/-- 'zzlaws_root_b1.FnMalformedLengthPieceIsWhole': WHATEVER THE INPUT: true; the input reads as it did. -/
def fnMalformedLengthPieceIsWholeSpec : ChangeSpec := { name := "fnMalformedLengthPieceIsWhole", fn := fun _ => fun
  | [d] => { results := [.lit (.bool true)], args := [d] }
  | _ => none }
def fnMalformedLengthPieceIsWholeRow : OpenClaim := { program := "qxb6603146a", sum := "48f641c411b685e9f2a658e29857a375fa80dc8d3520292d6311c9406a350749", func := "example.com/backslash/backslash/zzlaws_root_b1.FnMalformedLengthPieceIsWhole", spec := "fnMalformedLengthPieceIsWhole", apart := false }
def FnMalformedLengthPieceIsWholeSaid : Prop := fnMalformedLengthPieceIsWholeRow.holds Try.pinned (OpenSpec.ofChange fnMalformedLengthPieceIsWholeSpec)

/-- ITS FALSE NEIGHBOUR: 'it returns false'. Refute it at one input. -/
def fnMalformedLengthPieceIsWholeWrong : ChangeSpec := { name := "fnMalformedLengthPieceIsWhole", fn := fun _ => fun
  | [d] => { results := [.lit (.bool false)], args := [d] }
  | _ => none }
def FnMalformedLengthPieceIsWholeWrongFalsely : Prop := fnMalformedLengthPieceIsWholeRow.holds Try.pinned (OpenSpec.ofChange fnMalformedLengthPieceIsWholeWrong)

/-- 'zzlaws_root_b1.FnAdvanceFirstTerminatorScan': WHATEVER THE INPUT: true; the input reads as it did. -/
def fnAdvanceFirstTerminatorScanSpec : ChangeSpec := { name := "fnAdvanceFirstTerminatorScan", fn := fun _ => fun
  | [d1, d2, d3, d4, d5] => { results := [.lit (.bool true)], args := [d1, d2, d3, d4, d5] }
  | _ => none }
def fnAdvanceFirstTerminatorScanRow : OpenClaim := { program := "qxb6603146a", sum := "48f641c411b685e9f2a658e29857a375fa80dc8d3520292d6311c9406a350749", func := "example.com/backslash/backslash/zzlaws_root_b1.FnAdvanceFirstTerminatorScan", spec := "fnAdvanceFirstTerminatorScan", inPlace := ["internal/bytealg.IndexByte"], apart := false }
def FnAdvanceFirstTerminatorScanSaid : Prop := fnAdvanceFirstTerminatorScanRow.holds Try.pinned (OpenSpec.ofChange fnAdvanceFirstTerminatorScanSpec)

/-- ITS FALSE NEIGHBOUR: 'it returns false'. Refute it at one input. -/
def fnAdvanceFirstTerminatorScanWrong : ChangeSpec := { name := "fnAdvanceFirstTerminatorScan", fn := fun _ => fun
  | [d1, d2, d3, d4, d5] => { results := [.lit (.bool false)], args := [d1, d2, d3, d4, d5] }
  | _ => none }
def FnAdvanceFirstTerminatorScanWrongFalsely : Prop := fnAdvanceFirstTerminatorScanRow.holds Try.pinned (OpenSpec.ofChange fnAdvanceFirstTerminatorScanWrong)

/-- 'zzlaws_root_b1.FnAdvanceTilesTextIntoNaturalLines': WHATEVER THE INPUT: true; the input reads as it did. -/
def fnAdvanceTilesTextIntoNaturalLinesSpec : ChangeSpec := { name := "fnAdvanceTilesTextIntoNaturalLines", fn := fun _ => fun
  | [d] => { results := [.lit (.bool true)], args := [d] }
  | _ => none }
def fnAdvanceTilesTextIntoNaturalLinesRow : OpenClaim := { program := "qxb6603146a", sum := "48f641c411b685e9f2a658e29857a375fa80dc8d3520292d6311c9406a350749", func := "example.com/backslash/backslash/zzlaws_root_b1.FnAdvanceTilesTextIntoNaturalLines", spec := "fnAdvanceTilesTextIntoNaturalLines", inPlace := ["internal/bytealg.IndexByte"], apart := false }
def FnAdvanceTilesTextIntoNaturalLinesSaid : Prop := fnAdvanceTilesTextIntoNaturalLinesRow.holds Try.pinned (OpenSpec.ofChange fnAdvanceTilesTextIntoNaturalLinesSpec)

/-- ITS FALSE NEIGHBOUR: 'it returns false'. Refute it at one input. -/
def fnAdvanceTilesTextIntoNaturalLinesWrong : ChangeSpec := { name := "fnAdvanceTilesTextIntoNaturalLines", fn := fun _ => fun
  | [d] => { results := [.lit (.bool false)], args := [d] }
  | _ => none }
def FnAdvanceTilesTextIntoNaturalLinesWrongFalsely : Prop := fnAdvanceTilesTextIntoNaturalLinesRow.holds Try.pinned (OpenSpec.ofChange fnAdvanceTilesTextIntoNaturalLinesWrong)

/-- 'zzlaws_root_b1.FnReplacedSpliceWithinOneLine': WHATEVER THE INPUT: true; the input reads as it did. -/
def fnReplacedSpliceWithinOneLineSpec : ChangeSpec := { name := "fnReplacedSpliceWithinOneLine", fn := fun _ => fun
  | [d1, d2, d3, d4, d5, d6, d7, d8, d9, d10, d11, d12] => { results := [.lit (.bool true)], args := [d1, d2, d3, d4, d5, d6, d7, d8, d9, d10, d11, d12] }
  | _ => none }
def fnReplacedSpliceWithinOneLineRow : OpenClaim := { program := "qxb6603146a", sum := "48f641c411b685e9f2a658e29857a375fa80dc8d3520292d6311c9406a350749", func := "example.com/backslash/backslash/zzlaws_root_b1.FnReplacedSpliceWithinOneLine", spec := "fnReplacedSpliceWithinOneLine", apart := false }
def FnReplacedSpliceWithinOneLineSaid : Prop := fnReplacedSpliceWithinOneLineRow.holds Try.pinned (OpenSpec.ofChange fnReplacedSpliceWithinOneLineSpec)

/-- ITS FALSE NEIGHBOUR: 'it returns false'. Refute it at one input. -/
def fnReplacedSpliceWithinOneLineWrong : ChangeSpec := { name := "fnReplacedSpliceWithinOneLine", fn := fun _ => fun
  | [d1, d2, d3, d4, d5, d6, d7, d8, d9, d10, d11, d12] => { results := [.lit (.bool false)], args := [d1, d2, d3, d4, d5, d6, d7, d8, d9, d10, d11, d12] }
  | _ => none }
def FnReplacedSpliceWithinOneLineWrongFalsely : Prop := fnReplacedSpliceWithinOneLineRow.holds Try.pinned (OpenSpec.ofChange fnReplacedSpliceWithinOneLineWrong)

end Rows
end Go.Proofs.Qxb6603146a
