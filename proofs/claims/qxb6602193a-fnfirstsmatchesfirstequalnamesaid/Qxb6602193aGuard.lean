import Derived.Test.Qxb6602193aRows
import Derived.Test.Qxb6602193aName
namespace Go.Proofs.Qxb6602193a
open Go.RowKit Go.Deep

set_option maxHeartbeats 1000000 in
theorem zzBytes (a0 : Option Addr) (l0 c0 : Nat) (a1 : Option Addr) (l1 c1 : Nat) (a2 : Option Addr) (l2 c2 : Nat) (a3 : Option Addr) (l3 c3 : Nat) (a4 : Option Addr) (l4 c4 : Nat) (a5 : Option Addr) (l5 c5 : Nat) (w : World)
    (h0 : l0 ≤ maxLen) (h1 : l1 ≤ maxLen) (h2 : l2 ≤ maxLen) (h3 : l3 ≤ maxLen) (h4 : l4 ≤ maxLen) (h5 : l5 ≤ maxLen) :
    Calls Try.prog 5 #[.slice a0 l0 c0, .slice a1 l1 c1, .slice a2 l2 c2, .slice a3 l3 c3, .slice a4 l4 c4, .slice a5 l5 c5] w fun e w' => ∃ v, e = .returned (.bool v) ∧ w' = w ∧
      (v = true → l0 ≤ 1048576 ∧ l1 ≤ 1048576 ∧ l2 ≤ 1048576 ∧ l3 ≤ 1048576 ∧ l4 ≤ 1048576 ∧ l5 ≤ 1048576) := by
  unfold maxLen at *
  go_enter Try.func5, Try.ntmps5
  go_wp2
  all_goals go_ret
  all_goals first
    | exact ⟨false, rfl, rfl, fun h => by cases h⟩
    | exact ⟨true, rfl, rfl, fun _ => by omega⟩

/-- What the two tests give. -/
theorem froms_le {n tl : Nat} {F : Nat → Nat} (h1 : ∀ i, i + 1 < n → (F i : Int) ≤ (F (i + 1) : Int)) (h2 : 0 < n → (F (n - 1) : Int) ≤ tl) (i : Nat) (hi : i < n) : (F i : Int) ≤ tl := by
  have key : ∀ d, ∀ i, i + d + 1 = n → (F i : Int) ≤ tl := by
    intro d
    induction d with
    | zero =>
      intro i hi
      have := h2 (by omega)
      rw [show n - 1 = i by omega] at this
      exact this
    | succ d ih =>
      intro i hi
      have a := h1 i (by omega)
      have b := ih (i + 1) (by omega)
      omega
  exact key (n - 1 - i) i (by omega)

theorem froms_end {n tl : Nat} {F : Nat → Nat} (h1 : ∀ i, i + 1 < n → (F i : Int) ≤ (F (i + 1) : Int)) (h2 : 0 < n → (F (n - 1) : Int) ≤ tl) (i : Nat) (hi : i < n) :
    (F i : Int) ≤ endOf n tl (fun t => (F t : Int)) i ∧ endOf n tl (fun t => (F t : Int)) i ≤ tl := by
  unfold endOf
  split
  · exact ⟨h1 i (by omega), froms_le h1 h2 _ (by omega)⟩
  · exact ⟨froms_le h1 h2 i hi, by omega⟩

theorem places_lt {n m : Nat} {P : Nat → Nat} (h1 : ∀ i, i + 1 < n → (P i : Int) < (P (i + 1) : Int)) (h2 : 0 < n → (P (n - 1) : Int) < m) (i : Nat) (hi : i < n) : P i < m := by
  have key : ∀ d, ∀ i, i + d + 1 = n → P i < m := by
    intro d
    induction d with
    | zero =>
      intro i hi
      have := h2 (by omega)
      rw [show n - 1 = i by omega] at this
      omega
    | succ d ih =>
      intro i hi
      have a := h1 i (by omega)
      have b := ih (i + 1) (by omega)
      omega
  exact key (n - 1 - i) i (by omega)

end Go.Proofs.Qxb6602193a
