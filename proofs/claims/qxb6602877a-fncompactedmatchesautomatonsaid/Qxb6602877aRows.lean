/-
  No cell of these rows narrows 'for every input' (looked for: loops, veiled, ifaces, maps, wideKeys, modest, calm, conditions, laid).
  DERIVED. THE GIVEN ROWS OF THIS SEAT. 8 by the template 'for every input the law returns true; each argument reads behind the call as it read before'; 0 by the template 'total and deterministic' (their statements: Qxb6602877aTotals.lean).
  GIVEN WITH THE SEED: the statements are not yours to turn. If you find one false, say at which input.
  Laid BY PROGRAM, IN A SANDBOX (cutbox-rows.mjs): the forced cells as the released guide's own fill.sh prints them over the translation 22dd08886e8b1322… (all of the seat's roots in one cut). By AI agents, Wed Nov 11 2026. No macro, syntax, notation, axiom, sorry.
-/
import Derived.Test.Qxb6602877aChecked
import GoSem.Claim
import GoSem.ClaimJoined
import GoSem.ClaimMapViews
import Derived.JoinedTies
import Derived.KernelRfl
namespace Go.Proofs.Qxb6602877a
/- THE CELL 'sum', in the pinned program and in every row, IS THE sha256 OF THE DUMP (.gsa) THAT Qxb6602877aProg.lean LOADS. Nothing in Lean hashes anything: it is a label: what it is worth is what the hold of that sum in a sandbox is worth. -/
noncomputable def Try.pinned : Pinned := { name := "qxb6602877a", sum := "22dd08886e8b13223e5ce6e91d937ef0c9ceae54dbf6354c8391b02d4d534186", checked := Try.checked }
namespace Rows
def none {H : Type} : Left H := { results := [], args := [] }

/-- 'zzlaws_internal_strictjson_b1.FnScanNumberMatchesAutomaton': WHATEVER THE INPUT: true; the input reads as it did. -/
def fnScanNumberMatchesAutomatonSpec : ChangeSpec := { name := "fnScanNumberMatchesAutomaton", fn := fun _ => fun
  | [d1, d2] => { results := [.lit (.bool true)], args := [d1, d2] }
  | _ => none }
def fnScanNumberMatchesAutomatonRow : OpenClaim := { program := "qxb6602877a", sum := "22dd08886e8b13223e5ce6e91d937ef0c9ceae54dbf6354c8391b02d4d534186", func := "example.com/tallygate/tallygate/zzlaws_internal_strictjson_b1.FnScanNumberMatchesAutomaton", spec := "fnScanNumberMatchesAutomaton", unfollowed := true, recurses := true, apart := false }
def FnScanNumberMatchesAutomatonSaid : Prop := fnScanNumberMatchesAutomatonRow.holds Try.pinned (OpenSpec.ofChange fnScanNumberMatchesAutomatonSpec)

/-- ITS FALSE NEIGHBOUR: 'it returns false'. Refute it at one input. -/
def fnScanNumberMatchesAutomatonWrong : ChangeSpec := { name := "fnScanNumberMatchesAutomaton", fn := fun _ => fun
  | [d1, d2] => { results := [.lit (.bool false)], args := [d1, d2] }
  | _ => none }
def FnScanNumberMatchesAutomatonWrongFalsely : Prop := fnScanNumberMatchesAutomatonRow.holds Try.pinned (OpenSpec.ofChange fnScanNumberMatchesAutomatonWrong)

/-- 'zzlaws_internal_strictjson_b1.FnScanNumberEndsOnItsOwn': WHATEVER THE INPUT: true; the input reads as it did. -/
def fnScanNumberEndsOnItsOwnSpec : ChangeSpec := { name := "fnScanNumberEndsOnItsOwn", fn := fun _ => fun
  | [d1, d2] => { results := [.lit (.bool true)], args := [d1, d2] }
  | _ => none }
def fnScanNumberEndsOnItsOwnRow : OpenClaim := { program := "qxb6602877a", sum := "22dd08886e8b13223e5ce6e91d937ef0c9ceae54dbf6354c8391b02d4d534186", func := "example.com/tallygate/tallygate/zzlaws_internal_strictjson_b1.FnScanNumberEndsOnItsOwn", spec := "fnScanNumberEndsOnItsOwn", unfollowed := true, recurses := true, apart := false }
def FnScanNumberEndsOnItsOwnSaid : Prop := fnScanNumberEndsOnItsOwnRow.holds Try.pinned (OpenSpec.ofChange fnScanNumberEndsOnItsOwnSpec)

/-- ITS FALSE NEIGHBOUR: 'it returns false'. Refute it at one input. -/
def fnScanNumberEndsOnItsOwnWrong : ChangeSpec := { name := "fnScanNumberEndsOnItsOwn", fn := fun _ => fun
  | [d1, d2] => { results := [.lit (.bool false)], args := [d1, d2] }
  | _ => none }
def FnScanNumberEndsOnItsOwnWrongFalsely : Prop := fnScanNumberEndsOnItsOwnRow.holds Try.pinned (OpenSpec.ofChange fnScanNumberEndsOnItsOwnWrong)

/-- 'zzlaws_internal_strictjson_b1.FnScanStringMatchesModel': WHATEVER THE INPUT: true; the input reads as it did. -/
def fnScanStringMatchesModelSpec : ChangeSpec := { name := "fnScanStringMatchesModel", fn := fun _ => fun
  | [d1, d2] => { results := [.lit (.bool true)], args := [d1, d2] }
  | _ => none }
def fnScanStringMatchesModelRow : OpenClaim := { program := "qxb6602877a", sum := "22dd08886e8b13223e5ce6e91d937ef0c9ceae54dbf6354c8391b02d4d534186", func := "example.com/tallygate/tallygate/zzlaws_internal_strictjson_b1.FnScanStringMatchesModel", spec := "fnScanStringMatchesModel", apart := false }
def FnScanStringMatchesModelSaid : Prop := fnScanStringMatchesModelRow.holds Try.pinned (OpenSpec.ofChange fnScanStringMatchesModelSpec)

/-- ITS FALSE NEIGHBOUR: 'it returns false'. Refute it at one input. -/
def fnScanStringMatchesModelWrong : ChangeSpec := { name := "fnScanStringMatchesModel", fn := fun _ => fun
  | [d1, d2] => { results := [.lit (.bool false)], args := [d1, d2] }
  | _ => none }
def FnScanStringMatchesModelWrongFalsely : Prop := fnScanStringMatchesModelRow.holds Try.pinned (OpenSpec.ofChange fnScanStringMatchesModelWrong)

/-- 'zzlaws_internal_strictjson_b1.FnScanStringEndsOnItsOwn': WHATEVER THE INPUT: true; the input reads as it did. -/
def fnScanStringEndsOnItsOwnSpec : ChangeSpec := { name := "fnScanStringEndsOnItsOwn", fn := fun _ => fun
  | [d1, d2] => { results := [.lit (.bool true)], args := [d1, d2] }
  | _ => none }
def fnScanStringEndsOnItsOwnRow : OpenClaim := { program := "qxb6602877a", sum := "22dd08886e8b13223e5ce6e91d937ef0c9ceae54dbf6354c8391b02d4d534186", func := "example.com/tallygate/tallygate/zzlaws_internal_strictjson_b1.FnScanStringEndsOnItsOwn", spec := "fnScanStringEndsOnItsOwn", apart := false }
def FnScanStringEndsOnItsOwnSaid : Prop := fnScanStringEndsOnItsOwnRow.holds Try.pinned (OpenSpec.ofChange fnScanStringEndsOnItsOwnSpec)

/-- ITS FALSE NEIGHBOUR: 'it returns false'. Refute it at one input. -/
def fnScanStringEndsOnItsOwnWrong : ChangeSpec := { name := "fnScanStringEndsOnItsOwn", fn := fun _ => fun
  | [d1, d2] => { results := [.lit (.bool false)], args := [d1, d2] }
  | _ => none }
def FnScanStringEndsOnItsOwnWrongFalsely : Prop := fnScanStringEndsOnItsOwnRow.holds Try.pinned (OpenSpec.ofChange fnScanStringEndsOnItsOwnWrong)

/-- 'zzlaws_internal_strictjson_b1.FnScanStringAgreesWithPlainString': WHATEVER THE INPUT: true; the input reads as it did. -/
def fnScanStringAgreesWithPlainStringSpec : ChangeSpec := { name := "fnScanStringAgreesWithPlainString", fn := fun _ => fun
  | [d1, d2] => { results := [.lit (.bool true)], args := [d1, d2] }
  | _ => none }
def fnScanStringAgreesWithPlainStringRow : OpenClaim := { program := "qxb6602877a", sum := "22dd08886e8b13223e5ce6e91d937ef0c9ceae54dbf6354c8391b02d4d534186", func := "example.com/tallygate/tallygate/zzlaws_internal_strictjson_b1.FnScanStringAgreesWithPlainString", spec := "fnScanStringAgreesWithPlainString", apart := false }
def FnScanStringAgreesWithPlainStringSaid : Prop := fnScanStringAgreesWithPlainStringRow.holds Try.pinned (OpenSpec.ofChange fnScanStringAgreesWithPlainStringSpec)

/-- ITS FALSE NEIGHBOUR: 'it returns false'. Refute it at one input. -/
def fnScanStringAgreesWithPlainStringWrong : ChangeSpec := { name := "fnScanStringAgreesWithPlainString", fn := fun _ => fun
  | [d1, d2] => { results := [.lit (.bool false)], args := [d1, d2] }
  | _ => none }
def FnScanStringAgreesWithPlainStringWrongFalsely : Prop := fnScanStringAgreesWithPlainStringRow.holds Try.pinned (OpenSpec.ofChange fnScanStringAgreesWithPlainStringWrong)

/-- 'zzlaws_internal_strictjson_b1.FnCompactedMatchesAutomaton': WHATEVER THE INPUT: true; the input reads as it did. -/
def fnCompactedMatchesAutomatonSpec : ChangeSpec := { name := "fnCompactedMatchesAutomaton", fn := fun _ => fun
  | [d] => { results := [.lit (.bool true)], args := [d] }
  | _ => none }
def fnCompactedMatchesAutomatonRow : OpenClaim := { program := "qxb6602877a", sum := "22dd08886e8b13223e5ce6e91d937ef0c9ceae54dbf6354c8391b02d4d534186", func := "example.com/tallygate/tallygate/zzlaws_internal_strictjson_b1.FnCompactedMatchesAutomaton", spec := "fnCompactedMatchesAutomaton", unfollowed := true, recurses := true, apart := false }
def FnCompactedMatchesAutomatonSaid : Prop := fnCompactedMatchesAutomatonRow.holds Try.pinned (OpenSpec.ofChange fnCompactedMatchesAutomatonSpec)

/-- ITS FALSE NEIGHBOUR: 'it returns false'. Refute it at one input. -/
def fnCompactedMatchesAutomatonWrong : ChangeSpec := { name := "fnCompactedMatchesAutomaton", fn := fun _ => fun
  | [d] => { results := [.lit (.bool false)], args := [d] }
  | _ => none }
def FnCompactedMatchesAutomatonWrongFalsely : Prop := fnCompactedMatchesAutomatonRow.holds Try.pinned (OpenSpec.ofChange fnCompactedMatchesAutomatonWrong)

/-- 'zzlaws_internal_strictjson_b1.FnCompactedJoinOfTwo': WHATEVER THE INPUT: true; the input reads as it did. -/
def fnCompactedJoinOfTwoSpec : ChangeSpec := { name := "fnCompactedJoinOfTwo", fn := fun _ => fun
  | [d1, d2] => { results := [.lit (.bool true)], args := [d1, d2] }
  | _ => none }
def fnCompactedJoinOfTwoRow : OpenClaim := { program := "qxb6602877a", sum := "22dd08886e8b13223e5ce6e91d937ef0c9ceae54dbf6354c8391b02d4d534186", func := "example.com/tallygate/tallygate/zzlaws_internal_strictjson_b1.FnCompactedJoinOfTwo", spec := "fnCompactedJoinOfTwo", unfollowed := true, recurses := true, apart := false }
def FnCompactedJoinOfTwoSaid : Prop := fnCompactedJoinOfTwoRow.holds Try.pinned (OpenSpec.ofChange fnCompactedJoinOfTwoSpec)

/-- ITS FALSE NEIGHBOUR: 'it returns false'. Refute it at one input. -/
def fnCompactedJoinOfTwoWrong : ChangeSpec := { name := "fnCompactedJoinOfTwo", fn := fun _ => fun
  | [d1, d2] => { results := [.lit (.bool false)], args := [d1, d2] }
  | _ => none }
def FnCompactedJoinOfTwoWrongFalsely : Prop := fnCompactedJoinOfTwoRow.holds Try.pinned (OpenSpec.ofChange fnCompactedJoinOfTwoWrong)

/-- 'zzlaws_internal_strictjson_b1.FnCompactedNoCompactedPrefix': WHATEVER THE INPUT: true; the input reads as it did. -/
def fnCompactedNoCompactedPrefixSpec : ChangeSpec := { name := "fnCompactedNoCompactedPrefix", fn := fun _ => fun
  | [d1, d2] => { results := [.lit (.bool true)], args := [d1, d2] }
  | _ => none }
def fnCompactedNoCompactedPrefixRow : OpenClaim := { program := "qxb6602877a", sum := "22dd08886e8b13223e5ce6e91d937ef0c9ceae54dbf6354c8391b02d4d534186", func := "example.com/tallygate/tallygate/zzlaws_internal_strictjson_b1.FnCompactedNoCompactedPrefix", spec := "fnCompactedNoCompactedPrefix", unfollowed := true, recurses := true, apart := false }
def FnCompactedNoCompactedPrefixSaid : Prop := fnCompactedNoCompactedPrefixRow.holds Try.pinned (OpenSpec.ofChange fnCompactedNoCompactedPrefixSpec)

/-- ITS FALSE NEIGHBOUR: 'it returns false'. Refute it at one input. -/
def fnCompactedNoCompactedPrefixWrong : ChangeSpec := { name := "fnCompactedNoCompactedPrefix", fn := fun _ => fun
  | [d1, d2] => { results := [.lit (.bool false)], args := [d1, d2] }
  | _ => none }
def FnCompactedNoCompactedPrefixWrongFalsely : Prop := fnCompactedNoCompactedPrefixRow.holds Try.pinned (OpenSpec.ofChange fnCompactedNoCompactedPrefixWrong)

end Rows
end Go.Proofs.Qxb6602877a
