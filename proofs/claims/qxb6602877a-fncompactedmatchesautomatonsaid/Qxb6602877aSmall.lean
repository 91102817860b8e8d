import Derived.Test.Qxb6602877aRows
import Derived.Test.Qxb6602877aKit
import Derived.Test.Qxb6602877aModel
namespace Go.Proofs.Qxb6602877a
open Go.RowKit Go.Deep

theorem isHigh38 (u : Int) (w : World) : Calls Try.prog 38 #[.int .i32 u] w fun e w' => e = .returned (.bool (isHigh u)) ∧ w' = w := by
  by_cases h1 : 55296 ≤ u
  · have q1 : decide (55296 ≤ u) = true := decide_eq_true h1
    have q : isHigh u = decide (u ≤ 56319) := by unfold isHigh; rw [q1]; rfl
    rw [q]
    clear q
    go_enter Try.func38, Try.ntmps38
    go_wp2
    all_goals go_ret
    all_goals first
      | exact ⟨by simp [*], rfl⟩
      | exact ⟨rfl, rfl⟩
  · have q1 : decide (55296 ≤ u) = false := decide_eq_false h1
    have q : isHigh u = false := by unfold isHigh; rw [q1]; rfl
    rw [q]
    clear q
    go_enter Try.func38, Try.ntmps38
    go_wp2
    go_ret
    exact ⟨rfl, rfl⟩

theorem isLow39 (u : Int) (w : World) : Calls Try.prog 39 #[.int .i32 u] w fun e w' => e = .returned (.bool (isLow u)) ∧ w' = w := by
  by_cases h1 : 56320 ≤ u
  · have q1 : decide (56320 ≤ u) = true := decide_eq_true h1
    have q : isLow u = decide (u ≤ 57343) := by unfold isLow; rw [q1]; rfl
    rw [q]
    clear q
    go_enter Try.func39, Try.ntmps39
    go_wp2
    all_goals go_ret
    all_goals first
      | exact ⟨by simp [*], rfl⟩
      | exact ⟨rfl, rfl⟩
  · have q1 : decide (56320 ≤ u) = false := decide_eq_false h1
    have q : isLow u = false := by unfold isLow; rw [q1]; rfl
    rw [q]
    clear q
    go_enter Try.func39, Try.ntmps39
    go_wp2
    go_ret
    exact ⟨rfl, rfl⟩

theorem hexVal32 (c : Int) (w : World) (hc : 0 ≤ c ∧ c ≤ 255) : Calls Try.prog 32 #[.int .u8 c] w fun e w' => e = .returned (.int .i32 (hexV c)) ∧ w' = w := by
  by_cases h1 : 48 ≤ c ∧ c ≤ 57
  · rw [show hexV c = c - 48 by unfold hexV; rw [if_pos h1]]
    obtain ⟨h1, h2⟩ := h1
    go_enter Try.func32, Try.ntmps32
    go_wp2
    go_ret
    exact ⟨by simp, rfl⟩
  by_cases h2 : 97 ≤ c ∧ c ≤ 102
  · rw [show hexV c = c - 97 + 10 by unfold hexV; rw [if_neg h1, if_pos h2]]
    obtain ⟨h2, h3⟩ := h2
    have q3 : decide (48 ≤ c) = true := decide_eq_true (by omega)
    have q4 : decide (c ≤ 57) = false := decide_eq_false (by omega)
    clear h1
    go_enter Try.func32, Try.ntmps32
    go_wp2
    go_ret
    exact ⟨by simp, rfl⟩
  by_cases h3 : 65 ≤ c ∧ c ≤ 70
  · rw [show hexV c = c - 65 + 10 by unfold hexV; rw [if_neg h1, if_neg h2, if_pos h3]]
    obtain ⟨h3, h4⟩ := h3
    have q3 : decide (48 ≤ c) = true := decide_eq_true (by omega)
    have q4 : decide (c ≤ 57) = false := decide_eq_false (by omega)
    have q5 : decide (97 ≤ c) = false := decide_eq_false (by omega)
    clear h1 h2
    go_enter Try.func32, Try.ntmps32
    go_wp2
    go_ret
    exact ⟨by simp, rfl⟩
  · rw [show hexV c = -1 by unfold hexV; rw [if_neg h1, if_neg h2, if_neg h3]]
    go_enter Try.func32, Try.ntmps32
    go_wp2
    all_goals go_ret
    all_goals first
      | exact ⟨rfl, rfl⟩
      | exact ⟨by simp, rfl⟩

theorem simple31 (c : Int) (w : World) : Calls Try.prog 31 #[.int .u8 c] w fun e w' => e = .returned (.bool (simpleE c)) ∧ w' = w := by
  obtain ⟨R, hR⟩ : ∃ R, R = simpleE c := ⟨_, rfl⟩
  rw [← hR]
  have HR : Hid (R = simpleE c) := hR
  clear hR
  go_enter Try.func31, Try.ntmps31
  go_wp2
  all_goals go_ret
  all_goals
    rw [HR.out]
    refine ⟨?_, rfl⟩
    simp [simpleE, *]
end Go.Proofs.Qxb6602877a
