import Derived.Test.Qxb6602877aRows
import Derived.Test.Qxb6602877aKit
import Derived.Test.Qxb6602877aPlain
namespace Go.Proofs.Qxb6602877a
open Go.RowKit Go.Deep

def plainV : Option Nat → Ending
  | some e => .returned (.tuple #[.int .i64 (e : Int), .bool true])
  | none => .returned (.tuple #[.int .i64 0, .bool false])

set_option maxHeartbeats 1000000 in
theorem plainString (a : Option Addr) (n cap i : Nat) (Z : Nat → Int) (w : World) (hn : n ≤ 1048576) (hi : i ≤ n) (hZ : ∀ i, 0 ≤ Z i ∧ Z i ≤ 255) (hr : Reads .u8 w a n Z) :
    Calls Try.prog 33 #[.slice a n cap, .int .i64 i] w fun e w' => e = plainV (if i < n ∧ Z i = 34 then plainL (sfx n Z (i + 1)) (i + 1) else none) ∧ w' = w := by
  by_cases hin : i < n
  case neg =>
    obtain rfl : i = n := by omega
    have q : ((i : Int) == (i : Int)) = true := by simp
    rw [if_neg (by omega)]
    go_enter Try.func33, Try.ntmps33
    go_wp2
    go_ret2
    exact ⟨rfl, rfl⟩
  have q : ((i : Int) == (n : Int)) = false := by simp; omega
  have hiz : (i : Int) < (n : Int) := by omega
  obtain ⟨b, o, rfl, _, hcell⟩ := hr.form hin
  have c0 := hcell i hin
  by_cases h34 : Z i = 34
  case neg =>
    have q2 : (Z i != 34) = true := by simp [h34]
    rw [if_neg (by omega)]
    go_enter Try.func33, Try.ntmps33
    go_wp2
    go_ret2
    exact ⟨rfl, rfl⟩
  have q2 : (Z i != 34) = false := by simp [h34]
  rw [if_pos ⟨hin, h34⟩]
  clear h34
  obtain ⟨R, hR⟩ : ∃ R, R = plainL (sfx n Z (i + 1)) (i + 1) := ⟨_, rfl⟩
  rw [← hR]
  have HR0 : Hid (R = plainL (sfx n Z (i + 1)) (i + 1)) := hR
  clear hR
  go_enter Try.func33, Try.ntmps33
  go_wp2
  clear c0 q q2
  go_loopg [6] (n - (i + 1)) (fun g e wr => wr = w ∧ ∃ j : Nat, i < j ∧ j ≤ n ∧ g = n - j ∧ e = .int .i64 j ∧ Hid (R = plainL (sfx n Z j) j))
  case atStart => exact ⟨rfl, i + 1, by omega, by omega, rfl, by simp, HR0⟩
  case round =>
    clear HR0
    obtain ⟨rfl, j, hij, hjn, rfl, rfl, HR⟩ := hrel
    by_cases hlt : j < n
    · have hltz : (j : Int) < (n : Int) := by omega
      have c1 := hcell j hlt
      have bz := hZ j
      have hs := sfx_cons (Z := Z) hlt
      by_cases h1 : Z j = 34
      · have q1 : (Z j == 34) = true := by simp [h1]
        have HE : Hid (R = some (j + 1)) := by show R = _; rw [HR.out, hs, plainL, if_pos h1]
        clear h1 hs hcell
        go_wp2
        go_ret2
        rw [HE.out]
        exact ⟨rfl, rfl⟩
      · have q1 : (Z j == 34) = false := by simp [h1]
        by_cases h2 : Z j < 32 ∨ 126 < Z j ∨ Z j = 92
        · have HE : Hid (R = none) := by show R = _; rw [HR.out, hs, plainL, if_neg h1, if_pos h2]
          clear h1 hs hcell
          rcases h2 with h2 | h2 | h2
          · have q2 : decide (Z j < 32) = true := decide_eq_true h2
            go_wp2
            go_ret2
            rw [HE.out]
            exact ⟨rfl, rfl⟩
          · have q2 : decide (Z j < 32) = false := decide_eq_false (by omega)
            have q3 : decide (126 < Z j) = true := decide_eq_true h2
            go_wp2
            go_ret2
            rw [HE.out]
            exact ⟨rfl, rfl⟩
          · have q2 : decide (Z j < 32) = false := decide_eq_false (by omega)
            have q3 : decide (126 < Z j) = false := decide_eq_false (by omega)
            have q4 : (Z j == 92) = true := by simp [h2]
            clear h2
            go_wp2
            go_ret2
            rw [HE.out]
            exact ⟨rfl, rfl⟩
        · have q2 : decide (Z j < 32) = false := decide_eq_false (by omega)
          have q3 : decide (126 < Z j) = false := decide_eq_false (by omega)
          have q4 : (Z j == 92) = false := by simp; omega
          have HE : Hid (R = plainL (sfx n Z (j + 1)) (j + 1)) := by show R = _; rw [HR.out, hs, plainL, if_neg h1, if_neg h2]
          clear h1 h2 hs hcell
          go_wp2
          go_roundg (n - (j + 1))
          case measure => go_light; omega
          case rel => go_light; exact ⟨rfl, j + 1, by omega, by omega, rfl, by simp, HE⟩
    · have HE : Hid (R = none) := by show R = _; rw [HR.out, sfx_nil (by omega)]; rfl
      go_wp2
      go_ret2
      rw [HE.out]
      exact ⟨rfl, rfl⟩
end Go.Proofs.Qxb6602877a
