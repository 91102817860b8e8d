import Derived.Test.Qxb6602877aRows
import Derived.JoinedOf
import Derived.KernelRfl
namespace Go.Proofs.Qxb6602877a
open Go

/-! The head's words of this dump: a long text. The kernel reads a text's signs dearly (10 GB at 791 signs), a list's cheaply: so what the row asks of the head is drawn from the list. -/

theorem strip_cut (rest : List (List Char)) : stripLifts liftWords (['c', 'u', 't'] :: rest) = ([], ['c', 'u', 't'] :: rest) := by kernel_rfl

theorem make_cut {P : Program} {rest : List (List Char)} (h : behindMainWord (wordsSigns P.initOrder.toList) = ['c', 'u', 't'] :: rest) : P.make = some .cut := by
  unfold Program.make
  rw [h]
  simp

theorem enter_cut {P : Program} {rest : List (List Char)} (h : behindMainWord (wordsSigns P.initOrder.toList) = ['c', 'u', 't'] :: rest) (h1 : P.laysLater = false) (h2 : P.bearsReflect = false) (h3 : P.doorFits [] = true) : P.mayEnter = true := by
  unfold Program.mayEnter
  rw [h]
  simp [strip_cut, h1, h2, h3]

theorem lifts_cut {P : Program} {rest : List (List Char)} (h : behindMainWord (wordsSigns P.initOrder.toList) = ['c', 'u', 't'] :: rest) : P.liftsFinal = false := by
  unfold Program.liftsFinal Program.headLifts
  rw [h]
  simp [strip_cut]

def headSigns : List Nat := [104, 97, 114, 110, 101, 115, 115, 32, 55, 49, 52, 53, 54, 49, 51, 51, 52, 100, 51, 50, 48, 50, 50, 100, 49, 99, 54, 52, 57, 49, 102, 49, 100, 100, 50, 99, 98, 52, 57, 50, 101, 100, 48, 50, 98, 54, 50, 99, 53, 50, 57, 99, 49, 57, 50, 48, 98, 99, 52, 54, 49, 101, 99, 50, 48, 97, 98, 50, 100, 48, 57, 55, 32, 99, 117, 116, 32, 97, 116, 32, 101, 120, 97, 109, 112, 108, 101, 46, 99, 111, 109, 47, 116, 97, 108, 108, 121, 103, 97, 116, 101, 47, 116, 97, 108, 108, 121, 103, 97, 116, 101, 47, 122, 122, 108, 97, 119, 115, 95, 105, 110, 116, 101, 114, 110, 97, 108, 95, 115, 116, 114, 105, 99, 116, 106, 115, 111, 110, 95, 98, 49, 46, 70, 110, 83, 99, 97, 110, 78, 117, 109, 98, 101, 114, 77, 97, 116, 99, 104, 101, 115, 65, 117, 116, 111, 109, 97, 116, 111, 110, 32, 101, 120, 97, 109, 112, 108, 101, 46, 99, 111, 109, 47, 116, 97, 108, 108, 121, 103, 97, 116, 101, 47, 116, 97, 108, 108, 121, 103, 97, 116, 101, 47, 122, 122, 108, 97, 119, 115, 95, 105, 110, 116, 101, 114, 110, 97, 108, 95, 115, 116, 114, 105, 99, 116, 106, 115, 111, 110, 95, 98, 49, 46, 70, 110, 83, 99, 97, 110, 78, 117, 109, 98, 101, 114, 69, 110, 100, 115, 79, 110, 73, 116, 115, 79, 119, 110, 32, 101, 120, 97, 109, 112, 108, 101, 46, 99, 111, 109, 47, 116, 97, 108, 108, 121, 103, 97, 116, 101, 47, 116, 97, 108, 108, 121, 103, 97, 116, 101, 47, 122, 122, 108, 97, 119, 115, 95, 105, 110, 116, 101, 114, 110, 97, 108, 95, 115, 116, 114, 105, 99, 116, 106, 115, 111, 110, 95, 98, 49, 46, 70, 110, 83, 99, 97, 110, 83, 116, 114, 105, 110, 103, 77, 97, 116, 99, 104, 101, 115, 77, 111, 100, 101, 108, 32, 101, 120, 97, 109, 112, 108, 101, 46, 99, 111, 109, 47, 116, 97, 108, 108, 121, 103, 97, 116, 101, 47, 116, 97, 108, 108, 121, 103, 97, 116, 101, 47, 122, 122, 108, 97, 119, 115, 95, 105, 110, 116, 101, 114, 110, 97, 108, 95, 115, 116, 114, 105, 99, 116, 106, 115, 111, 110, 95, 98, 49, 46, 70, 110, 83, 99, 97, 110, 83, 116, 114, 105, 110, 103, 69, 110, 100, 115, 79, 110, 73, 116, 115, 79, 119, 110, 32, 101, 120, 97, 109, 112, 108, 101, 46, 99, 111, 109, 47, 116, 97, 108, 108, 121, 103, 97, 116, 101, 47, 116, 97, 108, 108, 121, 103, 97, 116, 101, 47, 122, 122, 108, 97, 119, 115, 95, 105, 110, 116, 101, 114, 110, 97, 108, 95, 115, 116, 114, 105, 99, 116, 106, 115, 111, 110, 95, 98, 49, 46, 70, 110, 83, 99, 97, 110, 83, 116, 114, 105, 110, 103, 65, 103, 114, 101, 101, 115, 87, 105, 116, 104, 80, 108, 97, 105, 110, 83, 116, 114, 105, 110, 103, 32, 101, 120, 97, 109, 112, 108, 101, 46, 99, 111, 109, 47, 116, 97, 108, 108, 121, 103, 97, 116, 101, 47, 116, 97, 108, 108, 121, 103, 97, 116, 101, 47, 122, 122, 108, 97, 119, 115, 95, 105, 110, 116, 101, 114, 110, 97, 108, 95, 115, 116, 114, 105, 99, 116, 106, 115, 111, 110, 95, 98, 49, 46, 70, 110, 67, 111, 109, 112, 97, 99, 116, 101, 100, 77, 97, 116, 99, 104, 101, 115, 65, 117, 116, 111, 109, 97, 116, 111, 110, 32, 101, 120, 97, 109, 112, 108, 101, 46, 99, 111, 109, 47, 116, 97, 108, 108, 121, 103, 97, 116, 101, 47, 116, 97, 108, 108, 121, 103, 97, 116, 101, 47, 122, 122, 108, 97, 119, 115, 95, 105, 110, 116, 101, 114, 110, 97, 108, 95, 115, 116, 114, 105, 99, 116, 106, 115, 111, 110, 95, 98, 49, 46, 70, 110, 67, 111, 109, 112, 97, 99, 116, 101, 100, 74, 111, 105, 110, 79, 102, 84, 119, 111, 32, 101, 120, 97, 109, 112, 108, 101, 46, 99, 111, 109, 47, 116, 97, 108, 108, 121, 103, 97, 116, 101, 47, 116, 97, 108, 108, 121, 103, 97, 116, 101, 47, 122, 122, 108, 97, 119, 115, 95, 105, 110, 116, 101, 114, 110, 97, 108, 95, 115, 116, 114, 105, 99, 116, 106, 115, 111, 110, 95, 98, 49, 46, 70, 110, 67, 111, 109, 112, 97, 99, 116, 101, 100, 78, 111, 67, 111, 109, 112, 97, 99, 116, 101, 100, 80, 114, 101, 102, 105, 120]
theorem head_text : Try.pinned.checked.prog.initOrder = String.ofList (headSigns.map Char.ofNat) := by kernel_rfl
theorem head_list : Try.pinned.checked.prog.initOrder.toList = headSigns.map Char.ofNat := by rw [head_text, String.toList_ofList]
theorem head_words : behindMainWord (wordsSigns (headSigns.map Char.ofNat)) = ['c', 'u', 't'] :: (behindMainWord (wordsSigns (headSigns.map Char.ofNat))).tail := by kernel_rfl
theorem head_cut : behindMainWord (wordsSigns Try.pinned.checked.prog.initOrder.toList) = ['c', 'u', 't'] :: (behindMainWord (wordsSigns (headSigns.map Char.ofNat))).tail := by rw [head_list]; exact head_words

theorem made : Try.pinned.checked.prog.make = some .cut := make_cut head_cut
theorem enters : Try.pinned.checked.prog.mayEnter = true := enter_cut head_cut (by kernel_rfl) (by kernel_rfl) (by kernel_rfl)
theorem lifts : Try.pinned.checked.prog.liftsFinal = false := lifts_cut head_cut

/-- The three facts of the row's that ask the head. -/
theorem lifts_beq {c : OpenClaim} (h : c.lifted = false) : (c.lifted == Try.pinned.checked.prog.liftsFinal) = true := by rw [lifts, h]; rfl
theorem made_beq {c : OpenClaim} (h : c.make = .cut) : (Try.pinned.checked.prog.make == some c.make) = true := by rw [made, h]; rfl

end Go.Proofs.Qxb6602877a
