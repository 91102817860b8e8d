/-
  No cell of these rows narrows 'for every input' (looked for: loops, veiled, ifaces, maps, wideKeys, modest, calm, conditions, laid).
  DERIVED. THE GIVEN ROWS OF THIS SEAT. 2 by the template 'for every input the law returns true; each argument reads behind the call as it read before'; 0 by the template 'total and deterministic' (their statements: Qxb6602193aTotals.lean).
  GIVEN WITH THE SEED: the statements are not yours to turn. If you find one false, say at which input.
  Laid BY PROGRAM, IN A SANDBOX (cutbox-rows.mjs): the forced cells as the released guide's own fill.sh prints them over the translation 0f894dbaf3a34347… (all of the seat's roots in one cut). By AI agents, Wed Nov 11 2026. No macro, syntax, notation, axiom, sorry.
-/
import Derived.Test.Qxb6602193aChecked
import GoSem.Claim
import GoSem.ClaimJoined
import GoSem.ClaimMapViews
import Derived.JoinedTies
import Derived.KernelRfl
namespace Go.Proofs.Qxb6602193a
/- THE CELL 'sum', in the pinned program and in every row, IS THE sha256 OF THE DUMP (.gsa) THAT Qxb6602193aProg.lean LOADS. Nothing in Lean hashes anything: it is a label: what it is worth is what the hold of that sum in a sandbox is worth. -/
noncomputable def Try.pinned : Pinned := { name := "qxb6602193a", sum := "0f894dbaf3a343473550cbe4a8b8c591ab3d53ed5f9ff269d5275a916e311bb2", checked := Try.checked }
namespace Rows
def none {H : Type} : Left H := { results := [], args := [] }

/-- 'zzlaws_internal_names_b1.FnFirstsMatchesFirstEqualName': WHATEVER THE INPUT: true; the input reads as it did. -/
def fnFirstsMatchesFirstEqualNameSpec : ChangeSpec := { name := "fnFirstsMatchesFirstEqualName", fn := fun _ => fun
  | [d1, d2, d3, d4, d5, d6] => { results := [.lit (.bool true)], args := [d1, d2, d3, d4, d5, d6] }
  | _ => none }
def fnFirstsMatchesFirstEqualNameRow : OpenClaim := { program := "qxb6602193a", sum := "0f894dbaf3a343473550cbe4a8b8c591ab3d53ed5f9ff269d5275a916e311bb2", func := "example.com/vestwright/vestwright/zzlaws_internal_names_b1.FnFirstsMatchesFirstEqualName", spec := "fnFirstsMatchesFirstEqualName", apart := false }
def FnFirstsMatchesFirstEqualNameSaid : Prop := fnFirstsMatchesFirstEqualNameRow.holds Try.pinned (OpenSpec.ofChange fnFirstsMatchesFirstEqualNameSpec)

/-- ITS FALSE NEIGHBOUR: 'it returns false'. Refute it at one input. -/
def fnFirstsMatchesFirstEqualNameWrong : ChangeSpec := { name := "fnFirstsMatchesFirstEqualName", fn := fun _ => fun
  | [d1, d2, d3, d4, d5, d6] => { results := [.lit (.bool false)], args := [d1, d2, d3, d4, d5, d6] }
  | _ => none }
def FnFirstsMatchesFirstEqualNameWrongFalsely : Prop := fnFirstsMatchesFirstEqualNameRow.holds Try.pinned (OpenSpec.ofChange fnFirstsMatchesFirstEqualNameWrong)

/-- 'zzlaws_internal_names_b1.FnFirstsScratchFree': WHATEVER THE INPUT: true; the input reads as it did. -/
def fnFirstsScratchFreeSpec : ChangeSpec := { name := "fnFirstsScratchFree", fn := fun _ => fun
  | [d1, d2, d3, d4, d5, d6] => { results := [.lit (.bool true)], args := [d1, d2, d3, d4, d5, d6] }
  | _ => none }
def fnFirstsScratchFreeRow : OpenClaim := { program := "qxb6602193a", sum := "0f894dbaf3a343473550cbe4a8b8c591ab3d53ed5f9ff269d5275a916e311bb2", func := "example.com/vestwright/vestwright/zzlaws_internal_names_b1.FnFirstsScratchFree", spec := "fnFirstsScratchFree", apart := false }
def FnFirstsScratchFreeSaid : Prop := fnFirstsScratchFreeRow.holds Try.pinned (OpenSpec.ofChange fnFirstsScratchFreeSpec)

/-- ITS FALSE NEIGHBOUR: 'it returns false'. Refute it at one input. -/
def fnFirstsScratchFreeWrong : ChangeSpec := { name := "fnFirstsScratchFree", fn := fun _ => fun
  | [d1, d2, d3, d4, d5, d6] => { results := [.lit (.bool false)], args := [d1, d2, d3, d4, d5, d6] }
  | _ => none }
def FnFirstsScratchFreeWrongFalsely : Prop := fnFirstsScratchFreeRow.holds Try.pinned (OpenSpec.ofChange fnFirstsScratchFreeWrong)

end Rows
end Go.Proofs.Qxb6602193a
