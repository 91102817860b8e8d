import Derived.Test.Qxb6602877aRows
import Derived.Test.Qxb6602877aKit
import Derived.Test.Qxb6602877aAuto
namespace Go.Proofs.Qxb6602877a
open Go.RowKit Go.Deep

theorem after41 (c : Int) (w : World) : Calls Try.prog 41 #[.int .u8 c] w fun e w' => e = .returned (.int .i64 ((afterV c : Nat) : Int)) ∧ w' = w := by
  by_cases h1 : c = 44
  · have q1 : (c == 44) = true := by simp [h1]
    rw [show afterV c = 13 by unfold afterV; rw [if_pos h1]]
    clear h1
    go_enter Try.func41, Try.ntmps41
    go_wp2_with fail
    go_ret
    exact ⟨rfl, rfl⟩
  have q1 : (c == 44) = false := by simp [h1]
  by_cases h2 : c = 125
  · have q2 : (c == 125) = true := by simp [h2]
    rw [show afterV c = 2 by unfold afterV; rw [if_neg h1, if_pos h2]]
    clear h1 h2
    go_enter Try.func41, Try.ntmps41
    go_wp2_with fail
    go_ret
    exact ⟨rfl, rfl⟩
  · have q2 : (c == 125) = false := by simp [h2]
    rw [show afterV c = 24 by unfold afterV; rw [if_neg h1, if_neg h2]]
    clear h1 h2
    go_enter Try.func41, Try.ntmps41
    go_wp2_with fail
    go_ret
    exact ⟨rfl, rfl⟩

theorem acc28 (s : Nat) (hs : s ≤ 9) (w : World) : Calls Try.prog 28 #[.int .i64 s] w fun e w' => e = .returned (.bool (numA s)) ∧ w' = w := by
  match s, hs with
  | 0, _ | 1, _ | 2, _ | 3, _ | 4, _ | 5, _ | 6, _ | 7, _ | 8, _ | 9, _ =>
    all_goals
      go_enter Try.func28, Try.ntmps28
      go_wp2_with fail
      go_ret
      exact ⟨rfl, rfl⟩

set_option linter.unusedSimpArgs false

theorem next27_0 (c : Int) (w : World) (hc : 0 ≤ c ∧ c ≤ 255) : Calls Try.prog 27 #[.int .i64 0, .int .u8 c] w fun e w' => e = .returned (.int .i64 ((numN 0 c : Nat) : Int)) ∧ w' = w := by
  obtain ⟨R, hR⟩ : ∃ R, R = numN 0 c := ⟨_, rfl⟩
  rw [← hR]
  have HR : Hid (R = numN 0 c) := hR
  clear hR
  go_enter Try.func27, Try.ntmps27
  go_wp2
  all_goals go_ret
  all_goals
    rw [HR.out]
    refine ⟨?_, rfl⟩
    try simp only [beq_iff_eq, beq_eq_false_iff_ne, ne_eq] at *
    refine congrArg (fun x => Ending.returned (.int .i64 x)) (?_ : _ = ((numN 0 c : Nat) : Int))
    rw [show numN 0 c = (if c = 45 then 1 else if c = 48 then 2 else if 49 ≤ c ∧ c ≤ 57 then 3 else 9) from rfl]
    (repeat' split) <;> first | rfl | (exfalso; omega)

theorem next27_1 (c : Int) (w : World) (hc : 0 ≤ c ∧ c ≤ 255) : Calls Try.prog 27 #[.int .i64 1, .int .u8 c] w fun e w' => e = .returned (.int .i64 ((numN 1 c : Nat) : Int)) ∧ w' = w := by
  obtain ⟨R, hR⟩ : ∃ R, R = numN 1 c := ⟨_, rfl⟩
  rw [← hR]
  have HR : Hid (R = numN 1 c) := hR
  clear hR
  go_enter Try.func27, Try.ntmps27
  go_wp2
  all_goals go_ret
  all_goals
    rw [HR.out]
    refine ⟨?_, rfl⟩
    try simp only [beq_iff_eq, beq_eq_false_iff_ne, ne_eq] at *
    refine congrArg (fun x => Ending.returned (.int .i64 x)) (?_ : _ = ((numN 1 c : Nat) : Int))
    rw [show numN 1 c = (if c = 48 then 2 else if 49 ≤ c ∧ c ≤ 57 then 3 else 9) from rfl]
    (repeat' split) <;> first | rfl | (exfalso; omega)

theorem next27_2 (c : Int) (w : World) (hc : 0 ≤ c ∧ c ≤ 255) : Calls Try.prog 27 #[.int .i64 2, .int .u8 c] w fun e w' => e = .returned (.int .i64 ((numN 2 c : Nat) : Int)) ∧ w' = w := by
  obtain ⟨R, hR⟩ : ∃ R, R = numN 2 c := ⟨_, rfl⟩
  rw [← hR]
  have HR : Hid (R = numN 2 c) := hR
  clear hR
  go_enter Try.func27, Try.ntmps27
  go_wp2
  all_goals go_ret
  all_goals
    rw [HR.out]
    refine ⟨?_, rfl⟩
    try simp only [beq_iff_eq, beq_eq_false_iff_ne, ne_eq] at *
    refine congrArg (fun x => Ending.returned (.int .i64 x)) (?_ : _ = ((numN 2 c : Nat) : Int))
    rw [show numN 2 c = (if c = 46 then 4 else if c = 101 ∨ c = 69 then 6 else 9) from rfl]
    (repeat' split) <;> first | rfl | (exfalso; omega)

theorem next27_3 (c : Int) (w : World) (hc : 0 ≤ c ∧ c ≤ 255) : Calls Try.prog 27 #[.int .i64 3, .int .u8 c] w fun e w' => e = .returned (.int .i64 ((numN 3 c : Nat) : Int)) ∧ w' = w := by
  obtain ⟨R, hR⟩ : ∃ R, R = numN 3 c := ⟨_, rfl⟩
  rw [← hR]
  have HR : Hid (R = numN 3 c) := hR
  clear hR
  go_enter Try.func27, Try.ntmps27
  go_wp2
  all_goals go_ret
  all_goals
    rw [HR.out]
    refine ⟨?_, rfl⟩
    try simp only [beq_iff_eq, beq_eq_false_iff_ne, ne_eq] at *
    refine congrArg (fun x => Ending.returned (.int .i64 x)) (?_ : _ = ((numN 3 c : Nat) : Int))
    rw [show numN 3 c = (if 48 ≤ c ∧ c ≤ 57 then 3 else if c = 46 then 4 else if c = 101 ∨ c = 69 then 6 else 9) from rfl]
    (repeat' split) <;> first | rfl | (exfalso; omega)

theorem next27_4 (c : Int) (w : World) (hc : 0 ≤ c ∧ c ≤ 255) : Calls Try.prog 27 #[.int .i64 4, .int .u8 c] w fun e w' => e = .returned (.int .i64 ((numN 4 c : Nat) : Int)) ∧ w' = w := by
  obtain ⟨R, hR⟩ : ∃ R, R = numN 4 c := ⟨_, rfl⟩
  rw [← hR]
  have HR : Hid (R = numN 4 c) := hR
  clear hR
  go_enter Try.func27, Try.ntmps27
  go_wp2
  all_goals go_ret
  all_goals
    rw [HR.out]
    refine ⟨?_, rfl⟩
    try simp only [beq_iff_eq, beq_eq_false_iff_ne, ne_eq] at *
    refine congrArg (fun x => Ending.returned (.int .i64 x)) (?_ : _ = ((numN 4 c : Nat) : Int))
    rw [show numN 4 c = (if 48 ≤ c ∧ c ≤ 57 then 5 else 9) from rfl]
    (repeat' split) <;> first | rfl | (exfalso; omega)

theorem next27_5 (c : Int) (w : World) (hc : 0 ≤ c ∧ c ≤ 255) : Calls Try.prog 27 #[.int .i64 5, .int .u8 c] w fun e w' => e = .returned (.int .i64 ((numN 5 c : Nat) : Int)) ∧ w' = w := by
  obtain ⟨R, hR⟩ : ∃ R, R = numN 5 c := ⟨_, rfl⟩
  rw [← hR]
  have HR : Hid (R = numN 5 c) := hR
  clear hR
  go_enter Try.func27, Try.ntmps27
  go_wp2
  all_goals go_ret
  all_goals
    rw [HR.out]
    refine ⟨?_, rfl⟩
    try simp only [beq_iff_eq, beq_eq_false_iff_ne, ne_eq] at *
    refine congrArg (fun x => Ending.returned (.int .i64 x)) (?_ : _ = ((numN 5 c : Nat) : Int))
    rw [show numN 5 c = (if 48 ≤ c ∧ c ≤ 57 then 5 else if c = 101 ∨ c = 69 then 6 else 9) from rfl]
    (repeat' split) <;> first | rfl | (exfalso; omega)

theorem next27_6 (c : Int) (w : World) (hc : 0 ≤ c ∧ c ≤ 255) : Calls Try.prog 27 #[.int .i64 6, .int .u8 c] w fun e w' => e = .returned (.int .i64 ((numN 6 c : Nat) : Int)) ∧ w' = w := by
  obtain ⟨R, hR⟩ : ∃ R, R = numN 6 c := ⟨_, rfl⟩
  rw [← hR]
  have HR : Hid (R = numN 6 c) := hR
  clear hR
  go_enter Try.func27, Try.ntmps27
  go_wp2
  all_goals go_ret
  all_goals
    rw [HR.out]
    refine ⟨?_, rfl⟩
    try simp only [beq_iff_eq, beq_eq_false_iff_ne, ne_eq] at *
    refine congrArg (fun x => Ending.returned (.int .i64 x)) (?_ : _ = ((numN 6 c : Nat) : Int))
    rw [show numN 6 c = (if c = 43 ∨ c = 45 then 7 else if 48 ≤ c ∧ c ≤ 57 then 8 else 9) from rfl]
    (repeat' split) <;> first | rfl | (exfalso; omega)

theorem next27_7 (c : Int) (w : World) (hc : 0 ≤ c ∧ c ≤ 255) : Calls Try.prog 27 #[.int .i64 7, .int .u8 c] w fun e w' => e = .returned (.int .i64 ((numN 7 c : Nat) : Int)) ∧ w' = w := by
  obtain ⟨R, hR⟩ : ∃ R, R = numN 7 c := ⟨_, rfl⟩
  rw [← hR]
  have HR : Hid (R = numN 7 c) := hR
  clear hR
  go_enter Try.func27, Try.ntmps27
  go_wp2
  all_goals go_ret
  all_goals
    rw [HR.out]
    refine ⟨?_, rfl⟩
    try simp only [beq_iff_eq, beq_eq_false_iff_ne, ne_eq] at *
    refine congrArg (fun x => Ending.returned (.int .i64 x)) (?_ : _ = ((numN 7 c : Nat) : Int))
    rw [show numN 7 c = (if 48 ≤ c ∧ c ≤ 57 then 8 else 9) from rfl]
    (repeat' split) <;> first | rfl | (exfalso; omega)

theorem next27_8 (c : Int) (w : World) (hc : 0 ≤ c ∧ c ≤ 255) : Calls Try.prog 27 #[.int .i64 8, .int .u8 c] w fun e w' => e = .returned (.int .i64 ((numN 8 c : Nat) : Int)) ∧ w' = w := by
  obtain ⟨R, hR⟩ : ∃ R, R = numN 8 c := ⟨_, rfl⟩
  rw [← hR]
  have HR : Hid (R = numN 8 c) := hR
  clear hR
  go_enter Try.func27, Try.ntmps27
  go_wp2
  all_goals go_ret
  all_goals
    rw [HR.out]
    refine ⟨?_, rfl⟩
    try simp only [beq_iff_eq, beq_eq_false_iff_ne, ne_eq] at *
    refine congrArg (fun x => Ending.returned (.int .i64 x)) (?_ : _ = ((numN 8 c : Nat) : Int))
    rw [show numN 8 c = (if 48 ≤ c ∧ c ≤ 57 then 8 else 9) from rfl]
    (repeat' split) <;> first | rfl | (exfalso; omega)

theorem next27 (s : Nat) (hs : s ≤ 8) (c : Int) (w : World) (hc : 0 ≤ c ∧ c ≤ 255) : Calls Try.prog 27 #[.int .i64 s, .int .u8 c] w fun e w' => e = .returned (.int .i64 ((numN s c : Nat) : Int)) ∧ w' = w := by
  match s, hs with
  | 0, _ => exact next27_0 c w hc
  | 1, _ => exact next27_1 c w hc
  | 2, _ => exact next27_2 c w hc
  | 3, _ => exact next27_3 c w hc
  | 4, _ => exact next27_4 c w hc
  | 5, _ => exact next27_5 c w hc
  | 6, _ => exact next27_6 c w hc
  | 7, _ => exact next27_7 c w hc
  | 8, _ => exact next27_8 c w hc
end Go.Proofs.Qxb6602877a
