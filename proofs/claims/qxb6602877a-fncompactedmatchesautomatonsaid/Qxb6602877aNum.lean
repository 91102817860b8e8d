import Derived.Test.Qxb6602877aRows
import Derived.Test.Qxb6602877aKit
import Derived.Test.Qxb6602877aAuto
namespace Go.Proofs.Qxb6602877a
open Go.RowKit Go.Deep

theorem dig_more {n : Nat} {Z : Nat → Int} {k : Nat} (hk : k < n) (h : 48 ≤ Z k ∧ Z k ≤ 57) : k + dig (sfx n Z k) = k + 1 + dig (sfx n Z (k + 1)) := by
  rw [sfx_cons hk, dig, if_pos h]; omega
theorem dig_done {n : Nat} {Z : Nat → Int} {k : Nat} (h : k < n → ¬ (48 ≤ Z k ∧ Z k ≤ 57)) : k + dig (sfx n Z k) = k := by
  by_cases hk : k < n
  · rw [sfx_cons hk, dig, if_neg (h hk)]; rfl
  · rw [sfx_nil (by omega)]; rfl

set_option maxHeartbeats 1000000 in
theorem digits36 (a : Option Addr) (n j g : Nat) (Z : Nat → Int) (w : World) (hn : n ≤ 1048576) (hj : j ≤ n) (hr : Reads .u8 w a n Z) (hg : w.cell? ⟨g, 0, none⟩ = some (.slice a n n)) :
    Calls Try.prog 36 #[.int .i64 j, .pointer (some ⟨g, 0, none⟩)] w fun e w' => e = .returned (.int .i64 ((j + dig (sfx n Z j) : Nat) : Int)) ∧ w' = w := by
  obtain ⟨R, hR⟩ : ∃ R, R = j + dig (sfx n Z j) := ⟨_, rfl⟩
  rw [← hR]
  have HR0 : Hid (R = j + dig (sfx n Z j)) := hR
  clear hR
  go_enter Try.func36, Try.ntmps36
  go_wp2
  go_loopg [0] (n - j) (fun g e wr => wr = w ∧ ∃ k : Nat, k ≤ n ∧ g = n - k ∧ e = .int .i64 k ∧ Hid (R = k + dig (sfx n Z k)))
  case atStart => exact ⟨rfl, j, hj, rfl, rfl, HR0⟩
  case round =>
    clear HR0
    obtain ⟨rfl, k, hk, rfl, rfl, HR⟩ := hrel
    by_cases hlt : k < n
    case neg =>
      have HE : Hid (R = k) := (HR.out.trans (dig_done (fun h => absurd h hlt)) : R = k)
      have hz : ¬ (k : Int) < (n : Int) := by omega
      clear hr
      go_wp2
      go_ret
      rw [HE.out]
      exact ⟨rfl, rfl⟩
    have hltz : (k : Int) < (n : Int) := by omega
    obtain ⟨b, o, rfl, _, hcell⟩ := hr.form hlt
    have c1 := hcell k hlt
    clear hr hcell
    by_cases h1 : 48 ≤ Z k
    case neg =>
      have HE : Hid (R = k) := (HR.out.trans (dig_done (fun _ h => h1 h.1)) : R = k)
      have q1 : decide (48 ≤ Z k) = false := decide_eq_false h1
      go_wp2
      go_ret
      rw [HE.out]
      exact ⟨rfl, rfl⟩
    have q1 : decide (48 ≤ Z k) = true := decide_eq_true h1
    by_cases h2 : Z k ≤ 57
    case neg =>
      have HE : Hid (R = k) := (HR.out.trans (dig_done (fun _ h => h2 h.2)) : R = k)
      have q2 : decide (Z k ≤ 57) = false := decide_eq_false h2
      go_wp2
      go_ret
      rw [HE.out]
      exact ⟨rfl, rfl⟩
    have q2 : decide (Z k ≤ 57) = true := decide_eq_true h2
    have HE : Hid (R = k + 1 + dig (sfx n Z (k + 1))) := (HR.out.trans (dig_more hlt ⟨h1, h2⟩) : R = _)
    go_wp2
    go_roundg (n - (k + 1))
    case measure => go_light; omega
    case rel => go_light; exact ⟨rfl, k + 1, by omega, rfl, by simp, HE⟩
end Go.Proofs.Qxb6602877a
