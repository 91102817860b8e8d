import Derived.Test.Qxb6602193aRows
import Derived.Test.Qxb6602193aKit
namespace Go.Proofs.Qxb6602193a
open Go.RowKit Go.Deep

set_option maxHeartbeats 400000 in
theorem bytesEq (a : Option Addr) (la ca : Nat) (Za : Nat → Int) (b : Option Addr) (lb cb : Nat) (Zb : Nat → Int) (w : World) (hla : la ≤ 1048576) (hlb : lb ≤ 1048576)
    (ha : Reads .u8 w a la Za) (hb : Reads .u8 w b lb Zb) :
    Calls Try.prog 13 #[.slice a la ca, .slice b lb cb] w fun e w' => ∃ v, e = .returned (.bool v) ∧
      (∃ q, w' = w.drewN q) ∧ (v = true ↔ la = lb ∧ ∀ i, i < la → Za i = Zb i) := by
  by_cases hl : la = lb
  · subst hl
    have hd : ((la : Int) != (la : Int)) = false := by simp
    go_enter Try.func13, Try.ntmps13
    go_wp2
    go_loopg [5] la (fun g i wr => ∃ k : Nat, k ≤ la ∧ g = la - k ∧ i = .int .i64 k ∧ (∃ q, wr = w.drewN q) ∧ ∀ i, i < k → Za i = Zb i)
    case atStart => exact ⟨0, Nat.zero_le _, rfl, rfl, ⟨0, rfl⟩, fun i hi => by omega⟩
    case round =>
      obtain ⟨k, hk, rfl, rfl, ⟨q, rfl⟩, hle⟩ := hrel
      have HL : Hid (∀ i, i < k → Za i = Zb i) := hle
      clear hle
      by_cases hlt : k < la
      · have hltz : (k : Int) < (la : Int) := by omega
        obtain ⟨b1, o1, rfl, _, hcell1⟩ := ha.form hlt
        obtain ⟨b2, o2, rfl, _, hcell2⟩ := hb.form hlt
        have c1 := hcell1 k hlt
        have c2 := hcell2 k hlt
        clear ha hb hcell1 hcell2
        by_cases hz : Za k = Zb k
        · have hz1 : (Za k != Zb k) = false := by simp [hz]
          have HZ : Hid (Za k = Zb k) := hz
          clear hz
          go_wp2
          go_quiet (fail)
          go_wp2
          go_roundg (la - (k + 1))
          case measure => go_light; omega
          case rel =>
            go_light
            exact ⟨k + 1, by omega, rfl, by simp, ⟨_, rfl⟩, fun i hi => by
              by_cases e : i = k
              · subst e; exact HZ.out
              · exact HL.out i (by omega)⟩
        · have hz1 : (Za k != Zb k) = true := by simp [hz]
          go_wp2
          go_quiet (fail)
          go_wp2
          go_ret
          exact ⟨false, rfl, ⟨_, World.drewN_drewN _ _ _⟩, by simp; exact ⟨k, hlt, hz⟩⟩
      · go_wp2
        go_ret
        exact ⟨true, rfl, ⟨_, rfl⟩, by simp; exact fun i hi => HL.out i (by omega)⟩
  · have hd : ((la : Int) != (lb : Int)) = true := by simp; omega
    go_enter Try.func13, Try.ntmps13
    go_wp2
    go_ret
    exact ⟨false, rfl, ⟨0, rfl⟩, by simp [hl]⟩

set_option maxHeartbeats 400000 in
theorem i32Eq (a : Option Addr) (la ca : Nat) (Za : Nat → Int) (b : Option Addr) (lb cb : Nat) (Zb : Nat → Int) (w : World) (hla : la ≤ 1048576) (hlb : lb ≤ 1048576)
    (ha : Reads .i32 w a la Za) (hb : Reads .i32 w b lb Zb) :
    Calls Try.prog 15 #[.slice a la ca, .slice b lb cb] w fun e w' => ∃ v, e = .returned (.bool v) ∧
      (∃ q, w' = w.drewN q) ∧ (v = true ↔ la = lb ∧ ∀ i, i < la → Za i = Zb i) := by
  by_cases hl : la = lb
  · subst hl
    have hd : ((la : Int) != (la : Int)) = false := by simp
    go_enter Try.func15, Try.ntmps15
    go_wp2
    go_loopg [5] la (fun g i wr => ∃ k : Nat, k ≤ la ∧ g = la - k ∧ i = .int .i64 k ∧ (∃ q, wr = w.drewN q) ∧ ∀ i, i < k → Za i = Zb i)
    case atStart => exact ⟨0, Nat.zero_le _, rfl, rfl, ⟨0, rfl⟩, fun i hi => by omega⟩
    case round =>
      obtain ⟨k, hk, rfl, rfl, ⟨q, rfl⟩, hle⟩ := hrel
      have HL : Hid (∀ i, i < k → Za i = Zb i) := hle
      clear hle
      by_cases hlt : k < la
      · have hltz : (k : Int) < (la : Int) := by omega
        obtain ⟨b1, o1, rfl, _, hcell1⟩ := ha.form hlt
        obtain ⟨b2, o2, rfl, _, hcell2⟩ := hb.form hlt
        have c1 := hcell1 k hlt
        have c2 := hcell2 k hlt
        clear ha hb hcell1 hcell2
        by_cases hz : Za k = Zb k
        · have hz1 : (Za k != Zb k) = false := by simp [hz]
          have HZ : Hid (Za k = Zb k) := hz
          clear hz
          go_wp2
          go_quiet (fail)
          go_wp2
          go_roundg (la - (k + 1))
          case measure => go_light; omega
          case rel =>
            go_light
            exact ⟨k + 1, by omega, rfl, by simp, ⟨_, rfl⟩, fun i hi => by
              by_cases e : i = k
              · subst e; exact HZ.out
              · exact HL.out i (by omega)⟩
        · have hz1 : (Za k != Zb k) = true := by simp [hz]
          go_wp2
          go_quiet (fail)
          go_wp2
          go_ret
          exact ⟨false, rfl, ⟨_, World.drewN_drewN _ _ _⟩, by simp; exact ⟨k, hlt, hz⟩⟩
      · go_wp2
        go_ret
        exact ⟨true, rfl, ⟨_, rfl⟩, by simp; exact fun i hi => HL.out i (by omega)⟩
  · have hd : ((la : Int) != (lb : Int)) = true := by simp; omega
    go_enter Try.func15, Try.ntmps15
    go_wp2
    go_ret
    exact ⟨false, rfl, ⟨0, rfl⟩, by simp [hl]⟩

end Go.Proofs.Qxb6602193a
