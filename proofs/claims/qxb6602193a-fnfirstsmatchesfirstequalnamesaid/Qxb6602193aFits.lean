import Derived.Test.Qxb6602193aRows
import Derived.Test.Qxb6602193aKit
namespace Go.Proofs.Qxb6602193a
open Go.RowKit Go.Deep

set_option maxHeartbeats 400000 in
theorem fromsFit (a : Option Addr) (len cap m : Nat) (Z : Nat → Int) (w : World) (hlen : len ≤ 1048576) (hm : m ≤ 1048576) (hZ : ∀ i, 0 ≤ Z i ∧ Z i ≤ 4294967295)
    (hc : Reads .u32 w a len Z) :
    Calls Try.prog 6 #[.slice a len cap, .int .i64 m] w fun e w' => ∃ v, e = .returned (.bool v) ∧
      (∃ q, w' = w.drewN q) ∧ (v = true → (∀ i, i + 1 < len → Z i ≤ Z (i + 1)) ∧ (0 < len → Z (len - 1) ≤ m)) := by
  go_enter Try.func6, Try.ntmps6
  go_wp2
  go_loopg [5] len (fun g i wr => ∃ k : Nat, k ≤ len ∧ g = len - k ∧ i = .int .i64 k ∧ (∃ q, wr = w.drewN q) ∧ ∀ i, i < k → i + 1 < len → Z i ≤ Z (i + 1))
  case atStart => exact ⟨0, Nat.zero_le _, rfl, rfl, ⟨0, rfl⟩, fun i hi => by omega⟩
  case round =>
    obtain ⟨k, hk, rfl, rfl, ⟨q, rfl⟩, hle⟩ := hrel
    have HL : Hid (∀ i, i < k → i + 1 < len → Z i ≤ Z (i + 1)) := hle
    clear hle
    by_cases hlt : k + 1 < len
    · have hltz : (k : Int) + 1 < (len : Int) := by omega
      have hltz' : (k : Int) < (len : Int) := by omega
      obtain ⟨b, o, rfl, _, hcell⟩ := hc.form hlt
      have c1 := hcell k (by omega)
      have c2 := hcell (k + 1) (by omega)
      have b1 := hZ k
      have b2 := hZ (k + 1)
      clear hc hZ hcell
      go_wp2
      go_quiet (fail)
      go_wp2
      · go_ret
        exact ⟨false, rfl, ⟨_, World.drewN_drewN _ _ _⟩, fun h => by cases h⟩
      · go_roundg (len - (k + 1))
        case measure => go_light; omega
        case rel =>
          have h1 : Z k ≤ Z (k + 1) := by assumption
          go_light
          exact ⟨k + 1, by omega, rfl, by simp, ⟨_, rfl⟩, fun i hi h2 => by
            by_cases e : i = k
            · subst e; exact h1
            · exact HL.out i (by omega) h2⟩
    · by_cases h0 : len = 0
      · subst h0
        go_wp2
        go_ret
        exact ⟨true, rfl, ⟨_, rfl⟩, fun _ => ⟨fun i hi => by omega, fun h => by omega⟩⟩
      · obtain ⟨n, rfl⟩ : ∃ n, len = n + 1 := ⟨len - 1, by omega⟩
        have hb := hZ n
        obtain ⟨b, o, rfl, _, hcell⟩ := hc.form (i := n) (by omega)
        have c1 := hcell n (by omega)
        clear hc hZ hcell
        have hz1 : (((n + 1 : Nat) : Int) == 0) = false := by simp; omega
        go_wp2
        go_ret
        refine ⟨_, rfl, ⟨_, rfl⟩, fun h => ⟨fun i hi => HL.out i (by omega) hi, fun _ => ?_⟩⟩
        simpa using h

set_option maxHeartbeats 400000 in
theorem placesFit (a : Option Addr) (len cap m : Nat) (Z : Nat → Int) (w : World) (hlen : len ≤ 1048576) (hm : m ≤ 1048576) (hZ : ∀ i, 0 ≤ Z i ∧ Z i ≤ 4294967295)
    (hc : Reads .u32 w a len Z) :
    Calls Try.prog 7 #[.slice a len cap, .int .i64 m] w fun e w' => ∃ v, e = .returned (.bool v) ∧
      (∃ q, w' = w.drewN q) ∧ (v = true → (∀ i, i + 1 < len → Z i < Z (i + 1)) ∧ (0 < len → Z (len - 1) < m)) := by
  go_enter Try.func7, Try.ntmps7
  go_wp2
  go_loopg [5] len (fun g i wr => ∃ k : Nat, k ≤ len ∧ g = len - k ∧ i = .int .i64 k ∧ (∃ q, wr = w.drewN q) ∧ ∀ i, i < k → i + 1 < len → Z i < Z (i + 1))
  case atStart => exact ⟨0, Nat.zero_le _, rfl, rfl, ⟨0, rfl⟩, fun i hi => by omega⟩
  case round =>
    obtain ⟨k, hk, rfl, rfl, ⟨q, rfl⟩, hle⟩ := hrel
    have HL : Hid (∀ i, i < k → i + 1 < len → Z i < Z (i + 1)) := hle
    clear hle
    by_cases hlt : k + 1 < len
    · have hltz : (k : Int) + 1 < (len : Int) := by omega
      have hltz' : (k : Int) < (len : Int) := by omega
      obtain ⟨b, o, rfl, _, hcell⟩ := hc.form hlt
      have c1 := hcell k (by omega)
      have c2 := hcell (k + 1) (by omega)
      have b1 := hZ k
      have b2 := hZ (k + 1)
      clear hc hZ hcell
      go_wp2
      go_quiet (fail)
      go_wp2
      · go_ret
        exact ⟨false, rfl, ⟨_, World.drewN_drewN _ _ _⟩, fun h => by cases h⟩
      · go_roundg (len - (k + 1))
        case measure => go_light; omega
        case rel =>
          have h1 : Z k < Z (k + 1) := by assumption
          go_light
          exact ⟨k + 1, by omega, rfl, by simp, ⟨_, rfl⟩, fun i hi h2 => by
            by_cases e : i = k
            · subst e; exact h1
            · exact HL.out i (by omega) h2⟩
    · by_cases h0 : len = 0
      · subst h0
        go_wp2
        go_ret
        exact ⟨true, rfl, ⟨_, rfl⟩, fun _ => ⟨fun i hi => by omega, fun h => by omega⟩⟩
      · obtain ⟨n, rfl⟩ : ∃ n, len = n + 1 := ⟨len - 1, by omega⟩
        have hb := hZ n
        obtain ⟨b, o, rfl, _, hcell⟩ := hc.form (i := n) (by omega)
        have c1 := hcell n (by omega)
        clear hc hZ hcell
        have hz1 : (((n + 1 : Nat) : Int) == 0) = false := by simp; omega
        go_wp2
        go_ret
        refine ⟨_, rfl, ⟨_, rfl⟩, fun h => ⟨fun i hi => HL.out i (by omega) hi, fun _ => ?_⟩⟩
        simpa using h

end Go.Proofs.Qxb6602193a
