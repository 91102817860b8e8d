/-
  No cell of these rows narrows 'for every input' (looked for: loops, veiled, ifaces, maps, wideKeys, modest, calm, conditions, laid).
  DERIVED. THE GIVEN ROWS OF THIS SEAT. 6 by the template 'for every input the law returns true; each argument reads behind the call as it read before'; 0 by the template 'total and deterministic' (their statements: Qxb6602841aTotals.lean).
  GIVEN WITH THE SEED: the statements are not yours to turn. If you find one false, say at which input.
  Laid BY PROGRAM, IN A SANDBOX (cutbox-rows.mjs): the forced cells as the released guide's own fill.sh prints them over the translation 27e08312264b99b2… (all of the seat's roots in one cut). By AI agents, Wed Nov 11 2026. No macro, syntax, notation, axiom, sorry.
-/
import Derived.Test.Qxb6602841aChecked
import GoSem.Claim
import GoSem.ClaimJoined
import GoSem.ClaimMapViews
import Derived.JoinedTies
import Derived.KernelRfl
namespace Go.Proofs.Qxb6602841a
/- THE CELL 'sum', in the pinned program and in every row, IS THE sha256 OF THE DUMP (.gsa) THAT Qxb6602841aProg.lean LOADS. Nothing in Lean hashes anything: it is a label: what it is worth is what the hold of that sum in a sandbox is worth. -/
noncomputable def Try.pinned : Pinned := { name := "qxb6602841a", sum := "27e08312264b99b2d0acaf353a00d34cd42d9e979fb45aaeaaeafcd3c8e0f64f", checked := Try.checked }
namespace Rows
def none {H : Type} : Left H := { results := [], args := [] }

/-- 'zzlaws_internal_stress_b1.FnPeakHeldIsDeepestOverlap': WHATEVER THE INPUT: true; the input reads as it did. -/
def fnPeakHeldIsDeepestOverlapSpec : ChangeSpec := { name := "fnPeakHeldIsDeepestOverlap", fn := fun _ => fun
  | [d] => { results := [.lit (.bool true)], args := [d] }
  | _ => none }
def fnPeakHeldIsDeepestOverlapRow : OpenClaim := { program := "qxb6602841a", sum := "27e08312264b99b2d0acaf353a00d34cd42d9e979fb45aaeaaeafcd3c8e0f64f", func := "example.com/holdfast/holdfast/zzlaws_internal_stress_b1.FnPeakHeldIsDeepestOverlap", spec := "fnPeakHeldIsDeepestOverlap", recurses := true, apart := false }
def FnPeakHeldIsDeepestOverlapSaid : Prop := fnPeakHeldIsDeepestOverlapRow.holds Try.pinned (OpenSpec.ofChange fnPeakHeldIsDeepestOverlapSpec)

/-- ITS FALSE NEIGHBOUR: 'it returns false'. Refute it at one input. -/
def fnPeakHeldIsDeepestOverlapWrong : ChangeSpec := { name := "fnPeakHeldIsDeepestOverlap", fn := fun _ => fun
  | [d] => { results := [.lit (.bool false)], args := [d] }
  | _ => none }
def FnPeakHeldIsDeepestOverlapWrongFalsely : Prop := fnPeakHeldIsDeepestOverlapRow.holds Try.pinned (OpenSpec.ofChange fnPeakHeldIsDeepestOverlapWrong)

/-- 'zzlaws_internal_stress_b1.FnPeakHeldShiftFree': WHATEVER THE INPUT: true; the input reads as it did. -/
def fnPeakHeldShiftFreeSpec : ChangeSpec := { name := "fnPeakHeldShiftFree", fn := fun _ => fun
  | [d1, d2] => { results := [.lit (.bool true)], args := [d1, d2] }
  | _ => none }
def fnPeakHeldShiftFreeRow : OpenClaim := { program := "qxb6602841a", sum := "27e08312264b99b2d0acaf353a00d34cd42d9e979fb45aaeaaeafcd3c8e0f64f", func := "example.com/holdfast/holdfast/zzlaws_internal_stress_b1.FnPeakHeldShiftFree", spec := "fnPeakHeldShiftFree", recurses := true, apart := false }
def FnPeakHeldShiftFreeSaid : Prop := fnPeakHeldShiftFreeRow.holds Try.pinned (OpenSpec.ofChange fnPeakHeldShiftFreeSpec)

/-- ITS FALSE NEIGHBOUR: 'it returns false'. Refute it at one input. -/
def fnPeakHeldShiftFreeWrong : ChangeSpec := { name := "fnPeakHeldShiftFree", fn := fun _ => fun
  | [d1, d2] => { results := [.lit (.bool false)], args := [d1, d2] }
  | _ => none }
def FnPeakHeldShiftFreeWrongFalsely : Prop := fnPeakHeldShiftFreeRow.holds Try.pinned (OpenSpec.ofChange fnPeakHeldShiftFreeWrong)

/-- 'zzlaws_internal_stress_b1.FnPeakHeldOneMoreSpanAddsAtMostOne': WHATEVER THE INPUT: true; the input reads as it did. -/
def fnPeakHeldOneMoreSpanAddsAtMostOneSpec : ChangeSpec := { name := "fnPeakHeldOneMoreSpanAddsAtMostOne", fn := fun _ => fun
  | [d1, d2, d3] => { results := [.lit (.bool true)], args := [d1, d2, d3] }
  | _ => none }
def fnPeakHeldOneMoreSpanAddsAtMostOneRow : OpenClaim := { program := "qxb6602841a", sum := "27e08312264b99b2d0acaf353a00d34cd42d9e979fb45aaeaaeafcd3c8e0f64f", func := "example.com/holdfast/holdfast/zzlaws_internal_stress_b1.FnPeakHeldOneMoreSpanAddsAtMostOne", spec := "fnPeakHeldOneMoreSpanAddsAtMostOne", recurses := true, apart := false }
def FnPeakHeldOneMoreSpanAddsAtMostOneSaid : Prop := fnPeakHeldOneMoreSpanAddsAtMostOneRow.holds Try.pinned (OpenSpec.ofChange fnPeakHeldOneMoreSpanAddsAtMostOneSpec)

/-- ITS FALSE NEIGHBOUR: 'it returns false'. Refute it at one input. -/
def fnPeakHeldOneMoreSpanAddsAtMostOneWrong : ChangeSpec := { name := "fnPeakHeldOneMoreSpanAddsAtMostOne", fn := fun _ => fun
  | [d1, d2, d3] => { results := [.lit (.bool false)], args := [d1, d2, d3] }
  | _ => none }
def FnPeakHeldOneMoreSpanAddsAtMostOneWrongFalsely : Prop := fnPeakHeldOneMoreSpanAddsAtMostOneRow.holds Try.pinned (OpenSpec.ofChange fnPeakHeldOneMoreSpanAddsAtMostOneWrong)

/-- 'zzlaws_internal_stress_b1.FnAppendChangeMatchesScanModel': WHATEVER THE INPUT: true; the input reads as it did. -/
def fnAppendChangeMatchesScanModelSpec : ChangeSpec := { name := "fnAppendChangeMatchesScanModel", fn := fun _ => fun
  | [d1, d2, d3, d4, d5, d6] => { results := [.lit (.bool true)], args := [d1, d2, d3, d4, d5, d6] }
  | _ => none }
def fnAppendChangeMatchesScanModelRow : OpenClaim := { program := "qxb6602841a", sum := "27e08312264b99b2d0acaf353a00d34cd42d9e979fb45aaeaaeafcd3c8e0f64f", func := "example.com/holdfast/holdfast/zzlaws_internal_stress_b1.FnAppendChangeMatchesScanModel", spec := "fnAppendChangeMatchesScanModel", apart := false }
def FnAppendChangeMatchesScanModelSaid : Prop := fnAppendChangeMatchesScanModelRow.holds Try.pinned (OpenSpec.ofChange fnAppendChangeMatchesScanModelSpec)

/-- ITS FALSE NEIGHBOUR: 'it returns false'. Refute it at one input. -/
def fnAppendChangeMatchesScanModelWrong : ChangeSpec := { name := "fnAppendChangeMatchesScanModel", fn := fun _ => fun
  | [d1, d2, d3, d4, d5, d6] => { results := [.lit (.bool false)], args := [d1, d2, d3, d4, d5, d6] }
  | _ => none }
def FnAppendChangeMatchesScanModelWrongFalsely : Prop := fnAppendChangeMatchesScanModelRow.holds Try.pinned (OpenSpec.ofChange fnAppendChangeMatchesScanModelWrong)

/-- 'zzlaws_internal_stress_b1.FnAppendChangeAddsBackToWrites': WHATEVER THE INPUT: true; the input reads as it did. -/
def fnAppendChangeAddsBackToWritesSpec : ChangeSpec := { name := "fnAppendChangeAddsBackToWrites", fn := fun _ => fun
  | [d1, d2, d3, d4, d5, d6] => { results := [.lit (.bool true)], args := [d1, d2, d3, d4, d5, d6] }
  | _ => none }
def fnAppendChangeAddsBackToWritesRow : OpenClaim := { program := "qxb6602841a", sum := "27e08312264b99b2d0acaf353a00d34cd42d9e979fb45aaeaaeafcd3c8e0f64f", func := "example.com/holdfast/holdfast/zzlaws_internal_stress_b1.FnAppendChangeAddsBackToWrites", spec := "fnAppendChangeAddsBackToWrites", apart := false }
def FnAppendChangeAddsBackToWritesSaid : Prop := fnAppendChangeAddsBackToWritesRow.holds Try.pinned (OpenSpec.ofChange fnAppendChangeAddsBackToWritesSpec)

/-- ITS FALSE NEIGHBOUR: 'it returns false'. Refute it at one input. -/
def fnAppendChangeAddsBackToWritesWrong : ChangeSpec := { name := "fnAppendChangeAddsBackToWrites", fn := fun _ => fun
  | [d1, d2, d3, d4, d5, d6] => { results := [.lit (.bool false)], args := [d1, d2, d3, d4, d5, d6] }
  | _ => none }
def FnAppendChangeAddsBackToWritesWrongFalsely : Prop := fnAppendChangeAddsBackToWritesRow.holds Try.pinned (OpenSpec.ofChange fnAppendChangeAddsBackToWritesWrong)

/-- 'zzlaws_internal_stress_b1.FnAppendChangeKeepsChangeAsPrefix': WHATEVER THE INPUT: true; the input reads as it did. -/
def fnAppendChangeKeepsChangeAsPrefixSpec : ChangeSpec := { name := "fnAppendChangeKeepsChangeAsPrefix", fn := fun _ => fun
  | [d1, d2, d3, d4, d5, d6] => { results := [.lit (.bool true)], args := [d1, d2, d3, d4, d5, d6] }
  | _ => none }
def fnAppendChangeKeepsChangeAsPrefixRow : OpenClaim := { program := "qxb6602841a", sum := "27e08312264b99b2d0acaf353a00d34cd42d9e979fb45aaeaaeafcd3c8e0f64f", func := "example.com/holdfast/holdfast/zzlaws_internal_stress_b1.FnAppendChangeKeepsChangeAsPrefix", spec := "fnAppendChangeKeepsChangeAsPrefix", apart := false }
def FnAppendChangeKeepsChangeAsPrefixSaid : Prop := fnAppendChangeKeepsChangeAsPrefixRow.holds Try.pinned (OpenSpec.ofChange fnAppendChangeKeepsChangeAsPrefixSpec)

/-- ITS FALSE NEIGHBOUR: 'it returns false'. Refute it at one input. -/
def fnAppendChangeKeepsChangeAsPrefixWrong : ChangeSpec := { name := "fnAppendChangeKeepsChangeAsPrefix", fn := fun _ => fun
  | [d1, d2, d3, d4, d5, d6] => { results := [.lit (.bool false)], args := [d1, d2, d3, d4, d5, d6] }
  | _ => none }
def FnAppendChangeKeepsChangeAsPrefixWrongFalsely : Prop := fnAppendChangeKeepsChangeAsPrefixRow.holds Try.pinned (OpenSpec.ofChange fnAppendChangeKeepsChangeAsPrefixWrong)

end Rows
end Go.Proofs.Qxb6602841a
