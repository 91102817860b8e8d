import Derived.Test.Qxb6603146aRows
import Derived.JoinedOf
import Derived.KernelRfl
namespace Go.Proofs.Qxb6603146a
open Go

/-! The head's words of this dump: a long text. The kernel reads a text's signs dearly (10 GB at 791 signs in a sister seat), a list's cheaply: so what the row asks of the head is drawn from the list. -/

theorem strip_cut (rest : List (List Char)) : stripLifts liftWords (['c', 'u', 't'] :: rest) = ([], ['c', 'u', 't'] :: rest) := by kernel_rfl

theorem make_cut {P : Program} {rest : List (List Char)} (h : behindMainWord (wordsSigns P.initOrder.toList) = ['c', 'u', 't'] :: rest) : P.make = some .cut := by
  unfold Program.make
  rw [h]
  simp

theorem enter_cut {P : Program} {rest : List (List Char)} (h : behindMainWord (wordsSigns P.initOrder.toList) = ['c', 'u', 't'] :: rest) (h1 : P.laysLater = false) (h2 : P.bearsReflect = false) (h3 : P.doorFits [] = true) : P.mayEnter = true := by
  unfold Program.mayEnter
  rw [h]
  simp [strip_cut, h1, h2, h3]

theorem lifts_cut {P : Program} {rest : List (List Char)} (h : behindMainWord (wordsSigns P.initOrder.toList) = ['c', 'u', 't'] :: rest) : P.liftsFinal = false := by
  unfold Program.liftsFinal Program.headLifts
  rw [h]
  simp [strip_cut]

def headSigns : List Nat := [104, 97, 114, 110, 101, 115, 115, 32, 98, 99, 51, 98, 51, 102, 97, 50, 49, 54, 52, 100, 53, 100, 52, 51, 53, 52, 55, 50, 54, 50, 52, 51, 49, 101, 98, 99, 48, 50, 99, 52, 102, 49, 102, 49, 51, 55, 49, 56, 51, 50, 99, 97, 101, 100, 53, 98, 50, 53, 100, 54, 53, 49, 98, 51, 50, 50, 101, 50, 54, 49, 54, 53, 32, 99, 117, 116, 32, 97, 116, 32, 101, 120, 97, 109, 112, 108, 101, 46, 99, 111, 109, 47, 98, 97, 99, 107, 115, 108, 97, 115, 104, 47, 98, 97, 99, 107, 115, 108, 97, 115, 104, 47, 122, 122, 108, 97, 119, 115, 95, 114, 111, 111, 116, 95, 98, 49, 46, 70, 110, 77, 97, 108, 102, 111, 114, 109, 101, 100, 76, 101, 110, 103, 116, 104, 76, 111, 110, 103, 101, 115, 116, 69, 110, 99, 111, 100, 105, 110, 103, 80, 114, 101, 102, 105, 120, 32, 101, 120, 97, 109, 112, 108, 101, 46, 99, 111, 109, 47, 98, 97, 99, 107, 115, 108, 97, 115, 104, 47, 98, 97, 99, 107, 115, 108, 97, 115, 104, 47, 122, 122, 108, 97, 119, 115, 95, 114, 111, 111, 116, 95, 98, 49, 46, 70, 110, 77, 97, 108, 102, 111, 114, 109, 101, 100, 76, 101, 110, 103, 116, 104, 80, 105, 101, 99, 101, 73, 115, 87, 104, 111, 108, 101, 32, 101, 120, 97, 109, 112, 108, 101, 46, 99, 111, 109, 47, 98, 97, 99, 107, 115, 108, 97, 115, 104, 47, 98, 97, 99, 107, 115, 108, 97, 115, 104, 47, 122, 122, 108, 97, 119, 115, 95, 114, 111, 111, 116, 95, 98, 49, 46, 70, 110, 65, 100, 118, 97, 110, 99, 101, 70, 105, 114, 115, 116, 84, 101, 114, 109, 105, 110, 97, 116, 111, 114, 83, 99, 97, 110, 32, 101, 120, 97, 109, 112, 108, 101, 46, 99, 111, 109, 47, 98, 97, 99, 107, 115, 108, 97, 115, 104, 47, 98, 97, 99, 107, 115, 108, 97, 115, 104, 47, 122, 122, 108, 97, 119, 115, 95, 114, 111, 111, 116, 95, 98, 49, 46, 70, 110, 65, 100, 118, 97, 110, 99, 101, 84, 105, 108, 101, 115, 84, 101, 120, 116, 73, 110, 116, 111, 78, 97, 116, 117, 114, 97, 108, 76, 105, 110, 101, 115, 32, 101, 120, 97, 109, 112, 108, 101, 46, 99, 111, 109, 47, 98, 97, 99, 107, 115, 108, 97, 115, 104, 47, 98, 97, 99, 107, 115, 108, 97, 115, 104, 47, 122, 122, 108, 97, 119, 115, 95, 114, 111, 111, 116, 95, 98, 49, 46, 70, 110, 82, 101, 112, 108, 97, 99, 101, 100, 83, 112, 108, 105, 99, 101, 87, 105, 116, 104, 105, 110, 79, 110, 101, 76, 105, 110, 101]
theorem head_text : Try.pinned.checked.prog.initOrder = String.ofList (headSigns.map Char.ofNat) := by kernel_rfl
theorem head_list : Try.pinned.checked.prog.initOrder.toList = headSigns.map Char.ofNat := by rw [head_text, String.toList_ofList]
theorem head_words : behindMainWord (wordsSigns (headSigns.map Char.ofNat)) = ['c', 'u', 't'] :: (behindMainWord (wordsSigns (headSigns.map Char.ofNat))).tail := by kernel_rfl
theorem head_cut : behindMainWord (wordsSigns Try.pinned.checked.prog.initOrder.toList) = ['c', 'u', 't'] :: (behindMainWord (wordsSigns (headSigns.map Char.ofNat))).tail := by rw [head_list]; exact head_words

theorem made : Try.pinned.checked.prog.make = some .cut := make_cut head_cut
theorem enters : Try.pinned.checked.prog.mayEnter = true := enter_cut head_cut (by kernel_rfl) (by kernel_rfl) (by kernel_rfl)
theorem lifts : Try.pinned.checked.prog.liftsFinal = false := lifts_cut head_cut

/-- The three facts of the row's that ask the head. -/
theorem lifts_beq {c : OpenClaim} (h : c.lifted = false) : (c.lifted == Try.pinned.checked.prog.liftsFinal) = true := by rw [lifts, h]; rfl
theorem made_beq {c : OpenClaim} (h : c.make = .cut) : (Try.pinned.checked.prog.make == some c.make) = true := by rw [made, h]; rfl

end Go.Proofs.Qxb6603146a
