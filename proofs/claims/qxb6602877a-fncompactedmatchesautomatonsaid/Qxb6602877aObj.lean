import Derived.Test.Qxb6602877aNext
import Derived.Test.Qxb6602877aSmall
namespace Go.Proofs.Qxb6602877a
open Go.RowKit Go.Deep
set_option linter.unusedSimpArgs false
set_option linter.unusedVariables false

theorem numN_le (s : Nat) (hs : s ≤ 8) (c : Int) : numN s c ≤ 9 := by
  match s, hs with
  | 0, _ => show (if c = 45 then 1 else if c = 48 then 2 else if 49 ≤ c ∧ c ≤ 57 then 3 else 9) ≤ 9; (repeat' split) <;> omega
  | 1, _ => show (if c = 48 then 2 else if 49 ≤ c ∧ c ≤ 57 then 3 else 9) ≤ 9; (repeat' split) <;> omega
  | 2, _ => show (if c = 46 then 4 else if c = 101 ∨ c = 69 then 6 else 9) ≤ 9; (repeat' split) <;> omega
  | 3, _ => show (if 48 ≤ c ∧ c ≤ 57 then 3 else if c = 46 then 4 else if c = 101 ∨ c = 69 then 6 else 9) ≤ 9; (repeat' split) <;> omega
  | 4, _ => show (if 48 ≤ c ∧ c ≤ 57 then 5 else 9) ≤ 9; (repeat' split) <;> omega
  | 5, _ => show (if 48 ≤ c ∧ c ≤ 57 then 5 else if c = 101 ∨ c = 69 then 6 else 9) ≤ 9; (repeat' split) <;> omega
  | 6, _ => show (if c = 43 ∨ c = 45 then 7 else if 48 ≤ c ∧ c ≤ 57 then 8 else 9) ≤ 9; (repeat' split) <;> omega
  | 7, _ => show (if 48 ≤ c ∧ c ≤ 57 then 8 else 9) ≤ 9; (repeat' split) <;> omega
  | 8, _ => show (if 48 ≤ c ∧ c ≤ 57 then 8 else 9) ≤ 9; (repeat' split) <;> omega

set_option maxHeartbeats 4000000 in
theorem obj35_numA (S t : Nat) (c : Int) (w : World) (q : (S : Int) - 32 = (t : Int)) (q0 : (32 : Int) ≤ (S : Int)) (q1 : (S : Int) ≤ 40) (A : Nat)
    (k27 : Calls Try.prog 27 #[.int .i64 (t : Int), .int .u8 c] w fun e w' => e = .returned (.int .i64 9) ∧ w' = w)
    (k28 : Calls Try.prog 28 #[.int .i64 (t : Int)] w fun e w' => e = .returned (.bool true) ∧ w' = w)
    (k41 : Calls Try.prog 41 #[.int .u8 c] w fun e w' => e = .returned (.int .i64 (A : Int)) ∧ w' = w) :
    Calls Try.prog 35 #[.int .i64 (S : Int), .int .u8 c] w fun e w' => e = .returned (.int .i64 (A : Int)) ∧ w' = w := by
  go_enter Try.func35, Try.ntmps35
  go_wp2_with fail
  refine k27.mono ?_
  rintro _ w2 ⟨rfl, hw2⟩
  subst w2
  clear k27
  go_wp2_with fail
  refine k28.mono ?_
  rintro _ w2 ⟨rfl, hw2⟩
  subst w2
  clear k28
  go_wp2_with fail
  refine k41.mono ?_
  rintro _ w2 ⟨rfl, hw2⟩
  subst w2
  clear k41
  go_wp2_with fail
  go_ret
  exact ⟨rfl, rfl⟩

set_option maxHeartbeats 4000000 in
theorem obj35_numB (S t : Nat) (c : Int) (w : World) (q : (S : Int) - 32 = (t : Int)) (q0 : (32 : Int) ≤ (S : Int)) (q1 : (S : Int) ≤ 40)
    (k27 : Calls Try.prog 27 #[.int .i64 (t : Int), .int .u8 c] w fun e w' => e = .returned (.int .i64 9) ∧ w' = w)
    (k28 : Calls Try.prog 28 #[.int .i64 (t : Int)] w fun e w' => e = .returned (.bool false) ∧ w' = w) :
    Calls Try.prog 35 #[.int .i64 (S : Int), .int .u8 c] w fun e w' => e = .returned (.int .i64 24) ∧ w' = w := by
  go_enter Try.func35, Try.ntmps35
  go_wp2_with fail
  refine k27.mono ?_
  rintro _ w2 ⟨rfl, hw2⟩
  subst w2
  clear k27
  go_wp2_with fail
  refine k28.mono ?_
  rintro _ w2 ⟨rfl, hw2⟩
  subst w2
  clear k28
  go_wp2_with fail
  go_ret
  exact ⟨rfl, rfl⟩

set_option maxHeartbeats 4000000 in
theorem obj35_numC (S t m : Nat) (c : Int) (w : World) (q : (S : Int) - 32 = (t : Int)) (q0 : (32 : Int) ≤ (S : Int)) (q1 : (S : Int) ≤ 40) (hle : m ≤ 9) (q9 : ((m : Int) != 9) = true)
    (k27 : Calls Try.prog 27 #[.int .i64 (t : Int), .int .u8 c] w fun e w' => e = .returned (.int .i64 (m : Int)) ∧ w' = w) :
    Calls Try.prog 35 #[.int .i64 (S : Int), .int .u8 c] w fun e w' => e = .returned (.int .i64 (32 + (m : Int))) ∧ w' = w := by
  go_enter Try.func35, Try.ntmps35
  go_wp2_with fail
  refine k27.mono ?_
  rintro _ w2 ⟨rfl, hw2⟩
  subst w2
  clear k27
  go_wp2_with fail
  go_ret
  exact ⟨rfl, rfl⟩

theorem obj35_num (t : Nat) (ht : t ≤ 8) (c : Int) (w : World) (hc : 0 ≤ c ∧ c ≤ 255) : Calls Try.prog 35 #[.int .i64 ((32 + t : Nat) : Int), .int .u8 c] w fun e w' => e = .returned (.int .i64 ((objN (32 + t) c : Nat) : Int)) ∧ w' = w := by
  have k27 := next27 t ht c w hc
  have k28 := acc28 t (by omega) w
  have k41 := after41 c w
  have hle := numN_le t ht c
  have e : objN (32 + t) c = if numN t c = 9 then (if numA t = true then afterV c else 24) else 32 + numN t c := by
    unfold objN
    rw [if_pos (by omega), show 32 + t - 32 = t by omega]
  rw [e]
  have q : ((32 + t : Nat) : Int) - 32 = (t : Int) := by omega
  have q0 : (32 : Int) ≤ ((32 + t : Nat) : Int) := by omega
  have q1 : ((32 + t : Nat) : Int) ≤ 40 := by omega
  by_cases h9 : numN t c = 9
  · rw [if_pos h9]
    rw [h9] at k27
    cases hv : numA t with
    | true =>
      rw [hv] at k28
      rw [if_pos rfl]
      exact obj35_numA _ t c w q q0 q1 _ k27 k28 k41
    | false =>
      rw [hv] at k28
      rw [if_neg (by decide)]
      exact obj35_numB _ t c w q q0 q1 k27 k28
  · rw [if_neg h9, Int.natCast_add]
    exact obj35_numC _ t _ c w q q0 q1 hle (by simp; omega) k27

set_option maxRecDepth 100000 in
set_option maxHeartbeats 1000000 in
theorem obj35_2 (c : Int) (w : World) (hc : 0 ≤ c ∧ c ≤ 255) : Calls Try.prog 35 #[.int .i64 2, .int .u8 c] w fun e w' => e = .returned (.int .i64 ((objN 2 c : Nat) : Int)) ∧ w' = w := by
  obtain ⟨R, hR⟩ : ∃ R, R = objN 2 c := ⟨_, rfl⟩
  rw [← hR]
  have HR : Hid (R = 24) := hR
  clear hR
  go_enter Try.func35, Try.ntmps35
  go_wp2
  go_ret
  rw [HR.out]
  exact ⟨rfl, rfl⟩

set_option maxHeartbeats 1000000 in
theorem obj35_0 (c : Int) (w : World) (hc : 0 ≤ c ∧ c ≤ 255) : Calls Try.prog 35 #[.int .i64 0, .int .u8 c] w fun e w' => e = .returned (.int .i64 ((objN 0 c : Nat) : Int)) ∧ w' = w := by
  obtain ⟨R, hR⟩ : ∃ R, R = objN 0 c := ⟨_, rfl⟩
  rw [← hR]
  have HR : Hid (R = objN 0 c) := hR
  clear hR
  go_enter Try.func35, Try.ntmps35
  go_wp2
  all_goals go_ret
  all_goals
    rw [HR.out]
    refine ⟨?_, rfl⟩
    try simp only [beq_iff_eq, beq_eq_false_iff_ne, bne_iff_ne, bne_eq_false_iff_eq, ne_eq] at *
    refine congrArg (fun x => Ending.returned (.int .i64 x)) (?_ : _ = ((objN 0 c : Nat) : Int))
    rw [show objN 0 c = (if c = 123 then 1 else 24) from rfl]
    (repeat' split) <;> first | rfl | (exfalso; omega)

set_option maxHeartbeats 1000000 in
theorem obj35_1 (c : Int) (w : World) (hc : 0 ≤ c ∧ c ≤ 255) : Calls Try.prog 35 #[.int .i64 1, .int .u8 c] w fun e w' => e = .returned (.int .i64 ((objN 1 c : Nat) : Int)) ∧ w' = w := by
  obtain ⟨R, hR⟩ : ∃ R, R = objN 1 c := ⟨_, rfl⟩
  rw [← hR]
  have HR : Hid (R = objN 1 c) := hR
  clear hR
  go_enter Try.func35, Try.ntmps35
  go_wp2
  all_goals go_ret
  all_goals
    rw [HR.out]
    refine ⟨?_, rfl⟩
    try simp only [beq_iff_eq, beq_eq_false_iff_ne, bne_iff_ne, bne_eq_false_iff_eq, ne_eq] at *
    refine congrArg (fun x => Ending.returned (.int .i64 x)) (?_ : _ = ((objN 1 c : Nat) : Int))
    rw [show objN 1 c = (if c = 34 then 3 else if c = 125 then 2 else 24) from rfl]
    (repeat' split) <;> first | rfl | (exfalso; omega)

set_option maxHeartbeats 1000000 in
theorem obj35_3 (c : Int) (w : World) (hc : 0 ≤ c ∧ c ≤ 255) : Calls Try.prog 35 #[.int .i64 3, .int .u8 c] w fun e w' => e = .returned (.int .i64 ((objN 3 c : Nat) : Int)) ∧ w' = w := by
  obtain ⟨R, hR⟩ : ∃ R, R = objN 3 c := ⟨_, rfl⟩
  rw [← hR]
  have HR : Hid (R = objN 3 c) := hR
  clear hR
  go_enter Try.func35, Try.ntmps35
  go_wp2
  all_goals go_ret
  all_goals
    rw [HR.out]
    refine ⟨?_, rfl⟩
    try simp only [beq_iff_eq, beq_eq_false_iff_ne, bne_iff_ne, bne_eq_false_iff_eq, ne_eq] at *
    refine congrArg (fun x => Ending.returned (.int .i64 x)) (?_ : _ = ((objN 3 c : Nat) : Int))
    rw [show objN 3 c = (if c = 34 then 4 else if 32 ≤ c ∧ c ≤ 126 ∧ c ≠ 92 then 3 else 24) from rfl]
    (repeat' split) <;> first | rfl | (exfalso; omega)

set_option maxHeartbeats 1000000 in
theorem obj35_4 (c : Int) (w : World) (hc : 0 ≤ c ∧ c ≤ 255) : Calls Try.prog 35 #[.int .i64 4, .int .u8 c] w fun e w' => e = .returned (.int .i64 ((objN 4 c : Nat) : Int)) ∧ w' = w := by
  obtain ⟨R, hR⟩ : ∃ R, R = objN 4 c := ⟨_, rfl⟩
  rw [← hR]
  have HR : Hid (R = objN 4 c) := hR
  clear hR
  go_enter Try.func35, Try.ntmps35
  go_wp2
  all_goals go_ret
  all_goals
    rw [HR.out]
    refine ⟨?_, rfl⟩
    try simp only [beq_iff_eq, beq_eq_false_iff_ne, bne_iff_ne, bne_eq_false_iff_eq, ne_eq] at *
    refine congrArg (fun x => Ending.returned (.int .i64 x)) (?_ : _ = ((objN 4 c : Nat) : Int))
    rw [show objN 4 c = (if c = 58 then 5 else 24) from rfl]
    (repeat' split) <;> first | rfl | (exfalso; omega)

set_option maxHeartbeats 1000000 in
theorem obj35_6 (c : Int) (w : World) (hc : 0 ≤ c ∧ c ≤ 255) : Calls Try.prog 35 #[.int .i64 6, .int .u8 c] w fun e w' => e = .returned (.int .i64 ((objN 6 c : Nat) : Int)) ∧ w' = w := by
  obtain ⟨R, hR⟩ : ∃ R, R = objN 6 c := ⟨_, rfl⟩
  rw [← hR]
  have HR : Hid (R = objN 6 c) := hR
  clear hR
  go_enter Try.func35, Try.ntmps35
  go_wp2
  all_goals go_ret
  all_goals
    rw [HR.out]
    refine ⟨?_, rfl⟩
    try simp only [beq_iff_eq, beq_eq_false_iff_ne, bne_iff_ne, bne_eq_false_iff_eq, ne_eq] at *
    refine congrArg (fun x => Ending.returned (.int .i64 x)) (?_ : _ = ((objN 6 c : Nat) : Int))
    rw [show objN 6 c = (if c = 34 then 12 else if c = 92 then 7 else if 32 ≤ c then 6 else 24) from rfl]
    (repeat' split) <;> first | rfl | (exfalso; omega)

set_option maxHeartbeats 1000000 in
theorem obj35_13 (c : Int) (w : World) (hc : 0 ≤ c ∧ c ≤ 255) : Calls Try.prog 35 #[.int .i64 13, .int .u8 c] w fun e w' => e = .returned (.int .i64 ((objN 13 c : Nat) : Int)) ∧ w' = w := by
  obtain ⟨R, hR⟩ : ∃ R, R = objN 13 c := ⟨_, rfl⟩
  rw [← hR]
  have HR : Hid (R = objN 13 c) := hR
  clear hR
  go_enter Try.func35, Try.ntmps35
  go_wp2
  all_goals go_ret
  all_goals
    rw [HR.out]
    refine ⟨?_, rfl⟩
    try simp only [beq_iff_eq, beq_eq_false_iff_ne, bne_iff_ne, bne_eq_false_iff_eq, ne_eq] at *
    refine congrArg (fun x => Ending.returned (.int .i64 x)) (?_ : _ = ((objN 13 c : Nat) : Int))
    rw [show objN 13 c = (if c = 34 then 3 else 24) from rfl]
    (repeat' split) <;> first | rfl | (exfalso; omega)

set_option maxHeartbeats 1000000 in
theorem obj35_14 (c : Int) (w : World) (hc : 0 ≤ c ∧ c ≤ 255) : Calls Try.prog 35 #[.int .i64 14, .int .u8 c] w fun e w' => e = .returned (.int .i64 ((objN 14 c : Nat) : Int)) ∧ w' = w := by
  obtain ⟨R, hR⟩ : ∃ R, R = objN 14 c := ⟨_, rfl⟩
  rw [← hR]
  have HR : Hid (R = objN 14 c) := hR
  clear hR
  go_enter Try.func35, Try.ntmps35
  go_wp2
  all_goals go_ret
  all_goals
    rw [HR.out]
    refine ⟨?_, rfl⟩
    try simp only [beq_iff_eq, beq_eq_false_iff_ne, bne_iff_ne, bne_eq_false_iff_eq, ne_eq] at *
    refine congrArg (fun x => Ending.returned (.int .i64 x)) (?_ : _ = ((objN 14 c : Nat) : Int))
    rw [show objN 14 c = (if c = 114 then 15 else 24) from rfl]
    (repeat' split) <;> first | rfl | (exfalso; omega)

set_option maxHeartbeats 1000000 in
theorem obj35_15 (c : Int) (w : World) (hc : 0 ≤ c ∧ c ≤ 255) : Calls Try.prog 35 #[.int .i64 15, .int .u8 c] w fun e w' => e = .returned (.int .i64 ((objN 15 c : Nat) : Int)) ∧ w' = w := by
  obtain ⟨R, hR⟩ : ∃ R, R = objN 15 c := ⟨_, rfl⟩
  rw [← hR]
  have HR : Hid (R = objN 15 c) := hR
  clear hR
  go_enter Try.func35, Try.ntmps35
  go_wp2
  all_goals go_ret
  all_goals
    rw [HR.out]
    refine ⟨?_, rfl⟩
    try simp only [beq_iff_eq, beq_eq_false_iff_ne, bne_iff_ne, bne_eq_false_iff_eq, ne_eq] at *
    refine congrArg (fun x => Ending.returned (.int .i64 x)) (?_ : _ = ((objN 15 c : Nat) : Int))
    rw [show objN 15 c = (if c = 117 then 16 else 24) from rfl]
    (repeat' split) <;> first | rfl | (exfalso; omega)

set_option maxHeartbeats 1000000 in
theorem obj35_16 (c : Int) (w : World) (hc : 0 ≤ c ∧ c ≤ 255) : Calls Try.prog 35 #[.int .i64 16, .int .u8 c] w fun e w' => e = .returned (.int .i64 ((objN 16 c : Nat) : Int)) ∧ w' = w := by
  obtain ⟨R, hR⟩ : ∃ R, R = objN 16 c := ⟨_, rfl⟩
  rw [← hR]
  have HR : Hid (R = objN 16 c) := hR
  clear hR
  go_enter Try.func35, Try.ntmps35
  go_wp2
  all_goals go_ret
  all_goals
    rw [HR.out]
    refine ⟨?_, rfl⟩
    try simp only [beq_iff_eq, beq_eq_false_iff_ne, bne_iff_ne, bne_eq_false_iff_eq, ne_eq] at *
    refine congrArg (fun x => Ending.returned (.int .i64 x)) (?_ : _ = ((objN 16 c : Nat) : Int))
    rw [show objN 16 c = (if c = 101 then 12 else 24) from rfl]
    (repeat' split) <;> first | rfl | (exfalso; omega)

set_option maxHeartbeats 1000000 in
theorem obj35_17 (c : Int) (w : World) (hc : 0 ≤ c ∧ c ≤ 255) : Calls Try.prog 35 #[.int .i64 17, .int .u8 c] w fun e w' => e = .returned (.int .i64 ((objN 17 c : Nat) : Int)) ∧ w' = w := by
  obtain ⟨R, hR⟩ : ∃ R, R = objN 17 c := ⟨_, rfl⟩
  rw [← hR]
  have HR : Hid (R = objN 17 c) := hR
  clear hR
  go_enter Try.func35, Try.ntmps35
  go_wp2
  all_goals go_ret
  all_goals
    rw [HR.out]
    refine ⟨?_, rfl⟩
    try simp only [beq_iff_eq, beq_eq_false_iff_ne, bne_iff_ne, bne_eq_false_iff_eq, ne_eq] at *
    refine congrArg (fun x => Ending.returned (.int .i64 x)) (?_ : _ = ((objN 17 c : Nat) : Int))
    rw [show objN 17 c = (if c = 97 then 18 else 24) from rfl]
    (repeat' split) <;> first | rfl | (exfalso; omega)

set_option maxHeartbeats 1000000 in
theorem obj35_18 (c : Int) (w : World) (hc : 0 ≤ c ∧ c ≤ 255) : Calls Try.prog 35 #[.int .i64 18, .int .u8 c] w fun e w' => e = .returned (.int .i64 ((objN 18 c : Nat) : Int)) ∧ w' = w := by
  obtain ⟨R, hR⟩ : ∃ R, R = objN 18 c := ⟨_, rfl⟩
  rw [← hR]
  have HR : Hid (R = objN 18 c) := hR
  clear hR
  go_enter Try.func35, Try.ntmps35
  go_wp2
  all_goals go_ret
  all_goals
    rw [HR.out]
    refine ⟨?_, rfl⟩
    try simp only [beq_iff_eq, beq_eq_false_iff_ne, bne_iff_ne, bne_eq_false_iff_eq, ne_eq] at *
    refine congrArg (fun x => Ending.returned (.int .i64 x)) (?_ : _ = ((objN 18 c : Nat) : Int))
    rw [show objN 18 c = (if c = 108 then 19 else 24) from rfl]
    (repeat' split) <;> first | rfl | (exfalso; omega)

set_option maxHeartbeats 1000000 in
theorem obj35_19 (c : Int) (w : World) (hc : 0 ≤ c ∧ c ≤ 255) : Calls Try.prog 35 #[.int .i64 19, .int .u8 c] w fun e w' => e = .returned (.int .i64 ((objN 19 c : Nat) : Int)) ∧ w' = w := by
  obtain ⟨R, hR⟩ : ∃ R, R = objN 19 c := ⟨_, rfl⟩
  rw [← hR]
  have HR : Hid (R = objN 19 c) := hR
  clear hR
  go_enter Try.func35, Try.ntmps35
  go_wp2
  all_goals go_ret
  all_goals
    rw [HR.out]
    refine ⟨?_, rfl⟩
    try simp only [beq_iff_eq, beq_eq_false_iff_ne, bne_iff_ne, bne_eq_false_iff_eq, ne_eq] at *
    refine congrArg (fun x => Ending.returned (.int .i64 x)) (?_ : _ = ((objN 19 c : Nat) : Int))
    rw [show objN 19 c = (if c = 115 then 20 else 24) from rfl]
    (repeat' split) <;> first | rfl | (exfalso; omega)

set_option maxHeartbeats 1000000 in
theorem obj35_20 (c : Int) (w : World) (hc : 0 ≤ c ∧ c ≤ 255) : Calls Try.prog 35 #[.int .i64 20, .int .u8 c] w fun e w' => e = .returned (.int .i64 ((objN 20 c : Nat) : Int)) ∧ w' = w := by
  obtain ⟨R, hR⟩ : ∃ R, R = objN 20 c := ⟨_, rfl⟩
  rw [← hR]
  have HR : Hid (R = objN 20 c) := hR
  clear hR
  go_enter Try.func35, Try.ntmps35
  go_wp2
  all_goals go_ret
  all_goals
    rw [HR.out]
    refine ⟨?_, rfl⟩
    try simp only [beq_iff_eq, beq_eq_false_iff_ne, bne_iff_ne, bne_eq_false_iff_eq, ne_eq] at *
    refine congrArg (fun x => Ending.returned (.int .i64 x)) (?_ : _ = ((objN 20 c : Nat) : Int))
    rw [show objN 20 c = (if c = 101 then 12 else 24) from rfl]
    (repeat' split) <;> first | rfl | (exfalso; omega)

set_option maxHeartbeats 1000000 in
theorem obj35_21 (c : Int) (w : World) (hc : 0 ≤ c ∧ c ≤ 255) : Calls Try.prog 35 #[.int .i64 21, .int .u8 c] w fun e w' => e = .returned (.int .i64 ((objN 21 c : Nat) : Int)) ∧ w' = w := by
  obtain ⟨R, hR⟩ : ∃ R, R = objN 21 c := ⟨_, rfl⟩
  rw [← hR]
  have HR : Hid (R = objN 21 c) := hR
  clear hR
  go_enter Try.func35, Try.ntmps35
  go_wp2
  all_goals go_ret
  all_goals
    rw [HR.out]
    refine ⟨?_, rfl⟩
    try simp only [beq_iff_eq, beq_eq_false_iff_ne, bne_iff_ne, bne_eq_false_iff_eq, ne_eq] at *
    refine congrArg (fun x => Ending.returned (.int .i64 x)) (?_ : _ = ((objN 21 c : Nat) : Int))
    rw [show objN 21 c = (if c = 117 then 22 else 24) from rfl]
    (repeat' split) <;> first | rfl | (exfalso; omega)

set_option maxHeartbeats 1000000 in
theorem obj35_22 (c : Int) (w : World) (hc : 0 ≤ c ∧ c ≤ 255) : Calls Try.prog 35 #[.int .i64 22, .int .u8 c] w fun e w' => e = .returned (.int .i64 ((objN 22 c : Nat) : Int)) ∧ w' = w := by
  obtain ⟨R, hR⟩ : ∃ R, R = objN 22 c := ⟨_, rfl⟩
  rw [← hR]
  have HR : Hid (R = objN 22 c) := hR
  clear hR
  go_enter Try.func35, Try.ntmps35
  go_wp2
  all_goals go_ret
  all_goals
    rw [HR.out]
    refine ⟨?_, rfl⟩
    try simp only [beq_iff_eq, beq_eq_false_iff_ne, bne_iff_ne, bne_eq_false_iff_eq, ne_eq] at *
    refine congrArg (fun x => Ending.returned (.int .i64 x)) (?_ : _ = ((objN 22 c : Nat) : Int))
    rw [show objN 22 c = (if c = 108 then 23 else 24) from rfl]
    (repeat' split) <;> first | rfl | (exfalso; omega)

set_option maxHeartbeats 1000000 in
theorem obj35_23 (c : Int) (w : World) (hc : 0 ≤ c ∧ c ≤ 255) : Calls Try.prog 35 #[.int .i64 23, .int .u8 c] w fun e w' => e = .returned (.int .i64 ((objN 23 c : Nat) : Int)) ∧ w' = w := by
  obtain ⟨R, hR⟩ : ∃ R, R = objN 23 c := ⟨_, rfl⟩
  rw [← hR]
  have HR : Hid (R = objN 23 c) := hR
  clear hR
  go_enter Try.func35, Try.ntmps35
  go_wp2
  all_goals go_ret
  all_goals
    rw [HR.out]
    refine ⟨?_, rfl⟩
    try simp only [beq_iff_eq, beq_eq_false_iff_ne, bne_iff_ne, bne_eq_false_iff_eq, ne_eq] at *
    refine congrArg (fun x => Ending.returned (.int .i64 x)) (?_ : _ = ((objN 23 c : Nat) : Int))
    rw [show objN 23 c = (if c = 108 then 12 else 24) from rfl]
    (repeat' split) <;> first | rfl | (exfalso; omega)

set_option maxHeartbeats 1000000 in
theorem obj35_12 (c : Int) (w : World) (hc : 0 ≤ c ∧ c ≤ 255) : Calls Try.prog 35 #[.int .i64 12, .int .u8 c] w fun e w' => e = .returned (.int .i64 ((objN 12 c : Nat) : Int)) ∧ w' = w := by
  have k41 := after41 c w
  rw [show objN 12 c = afterV c from rfl]
  obtain ⟨A, hA⟩ : ∃ A, A = afterV c := ⟨_, rfl⟩
  rw [← hA] at k41 ⊢
  clear hA
  go_enter Try.func35, Try.ntmps35
  go_wp2_with fail
  refine k41.mono ?_
  rintro _ w2 ⟨rfl, hw2⟩
  subst w2
  go_wp2_with fail
  go_ret
  exact ⟨rfl, rfl⟩

set_option maxHeartbeats 1000000 in
theorem obj35_8 (c : Int) (w : World) (hc : 0 ≤ c ∧ c ≤ 255) : Calls Try.prog 35 #[.int .i64 8, .int .u8 c] w fun e w' => e = .returned (.int .i64 ((objN 8 c : Nat) : Int)) ∧ w' = w := by
  have k32 := hexVal32 c w hc
  rw [show objN 8 c = (if 0 ≤ hexV c then 9 else 24) from rfl]
  have hb := hexV_bd c
  obtain ⟨v, hv⟩ : ∃ v, v = hexV c := ⟨_, rfl⟩
  rw [← hv] at k32 hb ⊢
  clear hv
  by_cases h : 0 ≤ v
  · rw [if_pos h]
    go_enter Try.func35, Try.ntmps35
    go_wp2_with fail
    refine k32.mono ?_
    rintro _ w2 ⟨rfl, hw2⟩
    subst w2
    go_wp2_with fail
    go_ret
    exact ⟨by first | rfl | simp, rfl⟩
  · rw [if_neg h]
    go_enter Try.func35, Try.ntmps35
    go_wp2_with fail
    refine k32.mono ?_
    rintro _ w2 ⟨rfl, hw2⟩
    subst w2
    go_wp2_with fail
    go_ret
    exact ⟨rfl, rfl⟩

set_option maxHeartbeats 1000000 in
theorem obj35_9 (c : Int) (w : World) (hc : 0 ≤ c ∧ c ≤ 255) : Calls Try.prog 35 #[.int .i64 9, .int .u8 c] w fun e w' => e = .returned (.int .i64 ((objN 9 c : Nat) : Int)) ∧ w' = w := by
  have k32 := hexVal32 c w hc
  rw [show objN 9 c = (if 0 ≤ hexV c then 10 else 24) from rfl]
  have hb := hexV_bd c
  obtain ⟨v, hv⟩ : ∃ v, v = hexV c := ⟨_, rfl⟩
  rw [← hv] at k32 hb ⊢
  clear hv
  by_cases h : 0 ≤ v
  · rw [if_pos h]
    go_enter Try.func35, Try.ntmps35
    go_wp2_with fail
    refine k32.mono ?_
    rintro _ w2 ⟨rfl, hw2⟩
    subst w2
    go_wp2_with fail
    go_ret
    exact ⟨by first | rfl | simp, rfl⟩
  · rw [if_neg h]
    go_enter Try.func35, Try.ntmps35
    go_wp2_with fail
    refine k32.mono ?_
    rintro _ w2 ⟨rfl, hw2⟩
    subst w2
    go_wp2_with fail
    go_ret
    exact ⟨rfl, rfl⟩

set_option maxHeartbeats 1000000 in
theorem obj35_10 (c : Int) (w : World) (hc : 0 ≤ c ∧ c ≤ 255) : Calls Try.prog 35 #[.int .i64 10, .int .u8 c] w fun e w' => e = .returned (.int .i64 ((objN 10 c : Nat) : Int)) ∧ w' = w := by
  have k32 := hexVal32 c w hc
  rw [show objN 10 c = (if 0 ≤ hexV c then 11 else 24) from rfl]
  have hb := hexV_bd c
  obtain ⟨v, hv⟩ : ∃ v, v = hexV c := ⟨_, rfl⟩
  rw [← hv] at k32 hb ⊢
  clear hv
  by_cases h : 0 ≤ v
  · rw [if_pos h]
    go_enter Try.func35, Try.ntmps35
    go_wp2_with fail
    refine k32.mono ?_
    rintro _ w2 ⟨rfl, hw2⟩
    subst w2
    go_wp2_with fail
    go_ret
    exact ⟨by first | rfl | simp, rfl⟩
  · rw [if_neg h]
    go_enter Try.func35, Try.ntmps35
    go_wp2_with fail
    refine k32.mono ?_
    rintro _ w2 ⟨rfl, hw2⟩
    subst w2
    go_wp2_with fail
    go_ret
    exact ⟨rfl, rfl⟩

set_option maxHeartbeats 1000000 in
theorem obj35_11 (c : Int) (w : World) (hc : 0 ≤ c ∧ c ≤ 255) : Calls Try.prog 35 #[.int .i64 11, .int .u8 c] w fun e w' => e = .returned (.int .i64 ((objN 11 c : Nat) : Int)) ∧ w' = w := by
  have k32 := hexVal32 c w hc
  rw [show objN 11 c = (if 0 ≤ hexV c then 6 else 24) from rfl]
  have hb := hexV_bd c
  obtain ⟨v, hv⟩ : ∃ v, v = hexV c := ⟨_, rfl⟩
  rw [← hv] at k32 hb ⊢
  clear hv
  by_cases h : 0 ≤ v
  · rw [if_pos h]
    go_enter Try.func35, Try.ntmps35
    go_wp2_with fail
    refine k32.mono ?_
    rintro _ w2 ⟨rfl, hw2⟩
    subst w2
    go_wp2_with fail
    go_ret
    exact ⟨by first | rfl | simp, rfl⟩
  · rw [if_neg h]
    go_enter Try.func35, Try.ntmps35
    go_wp2_with fail
    refine k32.mono ?_
    rintro _ w2 ⟨rfl, hw2⟩
    subst w2
    go_wp2_with fail
    go_ret
    exact ⟨rfl, rfl⟩

set_option maxHeartbeats 1000000 in
theorem obj35_7 (c : Int) (w : World) (hc : 0 ≤ c ∧ c ≤ 255) : Calls Try.prog 35 #[.int .i64 7, .int .u8 c] w fun e w' => e = .returned (.int .i64 ((objN 7 c : Nat) : Int)) ∧ w' = w := by
  rw [show objN 7 c = (if c = 117 then 8 else if simpleE c = true then 6 else 24) from rfl]
  by_cases h : c = 117
  · have q : (c == 117) = true := by simp [h]
    rw [if_pos h]
    clear h
    go_enter Try.func35, Try.ntmps35
    go_wp2_with fail
    go_ret
    exact ⟨rfl, rfl⟩
  have q : (c == 117) = false := by simp [h]
  rw [if_neg h]
  have k31 := simple31 c w
  obtain ⟨v, hv⟩ : ∃ v, v = simpleE c := ⟨_, rfl⟩
  rw [← hv] at k31 ⊢
  clear hv h
  cases v with
  | true =>
    rw [if_pos rfl]
    go_enter Try.func35, Try.ntmps35
    go_wp2_with fail
    refine k31.mono ?_
    rintro _ w2 ⟨rfl, hw2⟩
    subst w2
    go_wp2_with fail
    go_ret
    exact ⟨rfl, rfl⟩
  | false =>
    rw [if_neg (by decide)]
    go_enter Try.func35, Try.ntmps35
    go_wp2_with fail
    refine k31.mono ?_
    rintro _ w2 ⟨rfl, hw2⟩
    subst w2
    go_wp2_with fail
    go_ret
    exact ⟨rfl, rfl⟩

set_option maxHeartbeats 1000000 in
theorem obj35_5 (c : Int) (w : World) (hc : 0 ≤ c ∧ c ≤ 255) : Calls Try.prog 35 #[.int .i64 5, .int .u8 c] w fun e w' => e = .returned (.int .i64 ((objN 5 c : Nat) : Int)) ∧ w' = w := by
  rw [show objN 5 c = (if c = 34 then 6 else if c = 116 then 14 else if c = 102 then 17 else if c = 110 then 21 else if numN 0 c = 9 then 24 else 32 + numN 0 c) from rfl]
  by_cases ha : c = 34
  · have qa : (c == 34) = true := by simp [ha]
    rw [if_pos ha]
    clear ha
    go_enter Try.func35, Try.ntmps35
    go_wp2_with fail
    go_ret
    exact ⟨rfl, rfl⟩
  have qa : (c == 34) = false := by simp [ha]
  rw [if_neg ha]
  clear ha
  by_cases hb : c = 116
  · have qb : (c == 116) = true := by simp [hb]
    rw [if_pos hb]
    clear hb
    go_enter Try.func35, Try.ntmps35
    go_wp2_with fail
    go_ret
    exact ⟨rfl, rfl⟩
  have qb : (c == 116) = false := by simp [hb]
  rw [if_neg hb]
  clear hb
  by_cases hd : c = 102
  · have qd : (c == 102) = true := by simp [hd]
    rw [if_pos hd]
    clear hd
    go_enter Try.func35, Try.ntmps35
    go_wp2_with fail
    go_ret
    exact ⟨rfl, rfl⟩
  have qd : (c == 102) = false := by simp [hd]
  rw [if_neg hd]
  clear hd
  by_cases he : c = 110
  · have qe : (c == 110) = true := by simp [he]
    rw [if_pos he]
    clear he
    go_enter Try.func35, Try.ntmps35
    go_wp2_with fail
    go_ret
    exact ⟨rfl, rfl⟩
  have qe : (c == 110) = false := by simp [he]
  rw [if_neg he]
  clear he
  have k27 := next27_0 c w hc
  have hle := numN_le 0 (by omega) c
  obtain ⟨m, hm⟩ : ∃ m, m = numN 0 c := ⟨_, rfl⟩
  rw [← hm] at k27 hle ⊢
  clear hm
  by_cases h9 : m = 9
  · subst h9
    rw [if_pos rfl]
    go_enter Try.func35, Try.ntmps35
    go_wp2_with fail
    refine k27.mono ?_
    rintro _ w2 ⟨rfl, hw2⟩
    subst w2
    go_wp2_with fail
    go_ret
    exact ⟨rfl, rfl⟩
  · rw [if_neg h9]
    have q9 : ((m : Int) != 9) = true := by simp; omega
    go_enter Try.func35, Try.ntmps35
    go_wp2_with fail
    refine k27.mono ?_
    rintro _ w2 ⟨rfl, hw2⟩
    subst w2
    go_wp2_with fail
    go_ret
    exact ⟨by simp, rfl⟩

/-- The states that the automaton comes to. -/
def okS (s : Nat) : Prop := s ≤ 23 ∨ (32 ≤ s ∧ s ≤ 40)

theorem objNext35 (s : Nat) (hs : okS s) (c : Int) (w : World) (hc : 0 ≤ c ∧ c ≤ 255) : Calls Try.prog 35 #[.int .i64 (s : Int), .int .u8 c] w fun e w' => e = .returned (.int .i64 ((objN s c : Nat) : Int)) ∧ w' = w := by
  by_cases h : 32 ≤ s
  · obtain ⟨t, rfl⟩ : ∃ t, s = 32 + t := ⟨s - 32, by omega⟩
    exact obj35_num t (by unfold okS at hs; omega) c w hc
  have h2 : s ≤ 23 := by unfold okS at hs; omega
  clear hs h
  match s, h2 with
  | 0, _ => exact obj35_0 c w hc
  | 1, _ => exact obj35_1 c w hc
  | 2, _ => exact obj35_2 c w hc
  | 3, _ => exact obj35_3 c w hc
  | 4, _ => exact obj35_4 c w hc
  | 5, _ => exact obj35_5 c w hc
  | 6, _ => exact obj35_6 c w hc
  | 7, _ => exact obj35_7 c w hc
  | 8, _ => exact obj35_8 c w hc
  | 9, _ => exact obj35_9 c w hc
  | 10, _ => exact obj35_10 c w hc
  | 11, _ => exact obj35_11 c w hc
  | 12, _ => exact obj35_12 c w hc
  | 13, _ => exact obj35_13 c w hc
  | 14, _ => exact obj35_14 c w hc
  | 15, _ => exact obj35_15 c w hc
  | 16, _ => exact obj35_16 c w hc
  | 17, _ => exact obj35_17 c w hc
  | 18, _ => exact obj35_18 c w hc
  | 19, _ => exact obj35_19 c w hc
  | 20, _ => exact obj35_20 c w hc
  | 21, _ => exact obj35_21 c w hc
  | 22, _ => exact obj35_22 c w hc
  | 23, _ => exact obj35_23 c w hc
  | k + 24, h => exact absurd h (by omega)

theorem okS_next (s : Nat) (hs : okS s) (c : Int) : objN s c = 24 ∨ okS (objN s c) := by
  by_cases h : 32 ≤ s
  · obtain ⟨t, rfl⟩ : ∃ t, s = 32 + t := ⟨s - 32, by omega⟩
    have ht : t ≤ 8 := by unfold okS at hs; omega
    have hle := numN_le t ht c
    have e : objN (32 + t) c = if numN t c = 9 then (if numA t = true then afterV c else 24) else 32 + numN t c := by
      unfold objN
      rw [if_pos (by omega), show 32 + t - 32 = t by omega]
    rw [e]
    unfold okS afterV
    (repeat' split) <;> omega
  · have h2 : s ≤ 23 := by unfold okS at hs; omega
    have hle := numN_le 0 (by omega) c
    have e : objN s c = objM s c := by unfold objN; rw [if_neg h]
    rw [e]
    clear e hs h
    unfold okS
    match s, h2 with
    | 0, _ => show (if c = 123 then 1 else 24) = 24 ∨ ((if c = 123 then 1 else 24) ≤ 23 ∨ (32 ≤ (if c = 123 then 1 else 24) ∧ (if c = 123 then 1 else 24) ≤ 40)); (repeat' split) <;> omega
    | 1, _ => show (if c = 34 then 3 else if c = 125 then 2 else 24) = 24 ∨ ((if c = 34 then 3 else if c = 125 then 2 else 24) ≤ 23 ∨ (32 ≤ (if c = 34 then 3 else if c = 125 then 2 else 24) ∧ (if c = 34 then 3 else if c = 125 then 2 else 24) ≤ 40)); (repeat' split) <;> omega
    | 2, _ => show (24) = 24 ∨ ((24) ≤ 23 ∨ (32 ≤ (24) ∧ (24) ≤ 40)); (repeat' split) <;> omega
    | 3, _ => show (if c = 34 then 4 else if 32 ≤ c ∧ c ≤ 126 ∧ c ≠ 92 then 3 else 24) = 24 ∨ ((if c = 34 then 4 else if 32 ≤ c ∧ c ≤ 126 ∧ c ≠ 92 then 3 else 24) ≤ 23 ∨ (32 ≤ (if c = 34 then 4 else if 32 ≤ c ∧ c ≤ 126 ∧ c ≠ 92 then 3 else 24) ∧ (if c = 34 then 4 else if 32 ≤ c ∧ c ≤ 126 ∧ c ≠ 92 then 3 else 24) ≤ 40)); (repeat' split) <;> omega
    | 4, _ => show (if c = 58 then 5 else 24) = 24 ∨ ((if c = 58 then 5 else 24) ≤ 23 ∨ (32 ≤ (if c = 58 then 5 else 24) ∧ (if c = 58 then 5 else 24) ≤ 40)); (repeat' split) <;> omega
    | 5, _ => show (if c = 34 then 6 else if c = 116 then 14 else if c = 102 then 17 else if c = 110 then 21 else if numN 0 c = 9 then 24 else 32 + numN 0 c) = 24 ∨ ((if c = 34 then 6 else if c = 116 then 14 else if c = 102 then 17 else if c = 110 then 21 else if numN 0 c = 9 then 24 else 32 + numN 0 c) ≤ 23 ∨ (32 ≤ (if c = 34 then 6 else if c = 116 then 14 else if c = 102 then 17 else if c = 110 then 21 else if numN 0 c = 9 then 24 else 32 + numN 0 c) ∧ (if c = 34 then 6 else if c = 116 then 14 else if c = 102 then 17 else if c = 110 then 21 else if numN 0 c = 9 then 24 else 32 + numN 0 c) ≤ 40)); (repeat' split) <;> omega
    | 6, _ => show (if c = 34 then 12 else if c = 92 then 7 else if 32 ≤ c then 6 else 24) = 24 ∨ ((if c = 34 then 12 else if c = 92 then 7 else if 32 ≤ c then 6 else 24) ≤ 23 ∨ (32 ≤ (if c = 34 then 12 else if c = 92 then 7 else if 32 ≤ c then 6 else 24) ∧ (if c = 34 then 12 else if c = 92 then 7 else if 32 ≤ c then 6 else 24) ≤ 40)); (repeat' split) <;> omega
    | 7, _ => show (if c = 117 then 8 else if simpleE c = true then 6 else 24) = 24 ∨ ((if c = 117 then 8 else if simpleE c = true then 6 else 24) ≤ 23 ∨ (32 ≤ (if c = 117 then 8 else if simpleE c = true then 6 else 24) ∧ (if c = 117 then 8 else if simpleE c = true then 6 else 24) ≤ 40)); (repeat' split) <;> omega
    | 8, _ => show (if 0 ≤ hexV c then 9 else 24) = 24 ∨ ((if 0 ≤ hexV c then 9 else 24) ≤ 23 ∨ (32 ≤ (if 0 ≤ hexV c then 9 else 24) ∧ (if 0 ≤ hexV c then 9 else 24) ≤ 40)); (repeat' split) <;> omega
    | 9, _ => show (if 0 ≤ hexV c then 10 else 24) = 24 ∨ ((if 0 ≤ hexV c then 10 else 24) ≤ 23 ∨ (32 ≤ (if 0 ≤ hexV c then 10 else 24) ∧ (if 0 ≤ hexV c then 10 else 24) ≤ 40)); (repeat' split) <;> omega
    | 10, _ => show (if 0 ≤ hexV c then 11 else 24) = 24 ∨ ((if 0 ≤ hexV c then 11 else 24) ≤ 23 ∨ (32 ≤ (if 0 ≤ hexV c then 11 else 24) ∧ (if 0 ≤ hexV c then 11 else 24) ≤ 40)); (repeat' split) <;> omega
    | 11, _ => show (if 0 ≤ hexV c then 6 else 24) = 24 ∨ ((if 0 ≤ hexV c then 6 else 24) ≤ 23 ∨ (32 ≤ (if 0 ≤ hexV c then 6 else 24) ∧ (if 0 ≤ hexV c then 6 else 24) ≤ 40)); (repeat' split) <;> omega
    | 12, _ => show afterV c = 24 ∨ (afterV c ≤ 23 ∨ (32 ≤ afterV c ∧ afterV c ≤ 40)); unfold afterV; (repeat' split) <;> omega
    | 13, _ => show (if c = 34 then 3 else 24) = 24 ∨ ((if c = 34 then 3 else 24) ≤ 23 ∨ (32 ≤ (if c = 34 then 3 else 24) ∧ (if c = 34 then 3 else 24) ≤ 40)); (repeat' split) <;> omega
    | 14, _ => show (if c = 114 then 15 else 24) = 24 ∨ ((if c = 114 then 15 else 24) ≤ 23 ∨ (32 ≤ (if c = 114 then 15 else 24) ∧ (if c = 114 then 15 else 24) ≤ 40)); (repeat' split) <;> omega
    | 15, _ => show (if c = 117 then 16 else 24) = 24 ∨ ((if c = 117 then 16 else 24) ≤ 23 ∨ (32 ≤ (if c = 117 then 16 else 24) ∧ (if c = 117 then 16 else 24) ≤ 40)); (repeat' split) <;> omega
    | 16, _ => show (if c = 101 then 12 else 24) = 24 ∨ ((if c = 101 then 12 else 24) ≤ 23 ∨ (32 ≤ (if c = 101 then 12 else 24) ∧ (if c = 101 then 12 else 24) ≤ 40)); (repeat' split) <;> omega
    | 17, _ => show (if c = 97 then 18 else 24) = 24 ∨ ((if c = 97 then 18 else 24) ≤ 23 ∨ (32 ≤ (if c = 97 then 18 else 24) ∧ (if c = 97 then 18 else 24) ≤ 40)); (repeat' split) <;> omega
    | 18, _ => show (if c = 108 then 19 else 24) = 24 ∨ ((if c = 108 then 19 else 24) ≤ 23 ∨ (32 ≤ (if c = 108 then 19 else 24) ∧ (if c = 108 then 19 else 24) ≤ 40)); (repeat' split) <;> omega
    | 19, _ => show (if c = 115 then 20 else 24) = 24 ∨ ((if c = 115 then 20 else 24) ≤ 23 ∨ (32 ≤ (if c = 115 then 20 else 24) ∧ (if c = 115 then 20 else 24) ≤ 40)); (repeat' split) <;> omega
    | 20, _ => show (if c = 101 then 12 else 24) = 24 ∨ ((if c = 101 then 12 else 24) ≤ 23 ∨ (32 ≤ (if c = 101 then 12 else 24) ∧ (if c = 101 then 12 else 24) ≤ 40)); (repeat' split) <;> omega
    | 21, _ => show (if c = 117 then 22 else 24) = 24 ∨ ((if c = 117 then 22 else 24) ≤ 23 ∨ (32 ≤ (if c = 117 then 22 else 24) ∧ (if c = 117 then 22 else 24) ≤ 40)); (repeat' split) <;> omega
    | 22, _ => show (if c = 108 then 23 else 24) = 24 ∨ ((if c = 108 then 23 else 24) ≤ 23 ∨ (32 ≤ (if c = 108 then 23 else 24) ∧ (if c = 108 then 23 else 24) ≤ 40)); (repeat' split) <;> omega
    | 23, _ => show (if c = 108 then 12 else 24) = 24 ∨ ((if c = 108 then 12 else 24) ≤ 23 ∨ (32 ≤ (if c = 108 then 12 else 24) ∧ (if c = 108 then 12 else 24) ≤ 40)); (repeat' split) <;> omega
    | k + 24, h => exact absurd h (by omega)
end Go.Proofs.Qxb6602877a
