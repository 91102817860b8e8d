import Derived.Test.Qxb6603146aRows
import Derived.Test.Qxb6603146aKit
namespace Go.Proofs.Qxb6603146a
open Go.RowKit Go.Deep

set_option maxHeartbeats 400000 in
theorem equal23 (a : Option Addr) (n ca : Nat) (Z : Nat → Int) (b : Option Addr) (cb : Nat) (w : World) (hn : n ≤ 4194304) (ha : Reads .u8 w a n Z) (hb : Reads .u8 w b n Z) :
    Calls Try.prog 23 #[.slice a n ca, .slice b n cb] w fun e w' => e = .returned (.bool true) ∧ (∃ q, w' = w.drewN q) := by
  have hd : ((n : Int) != (n : Int)) = false := by simp
  go_enter Try.func23, Try.ntmps23
  go_wp2
  clear hd
  go_loopg [5] (n - 0) (fun g i wr => ∃ k : Nat, k ≤ n ∧ g = n - k ∧ i = .int .i64 k ∧ (∃ q, wr = w.drewN q))
  case atStart => exact ⟨0, Nat.zero_le _, rfl, rfl, ⟨0, rfl⟩⟩
  case round =>
    obtain ⟨k, hk, rfl, rfl, ⟨q, rfl⟩⟩ := hrel
    by_cases hlt : k < n
    · have hltz : (k : Int) < (n : Int) := by omega
      obtain ⟨b1, o1, rfl, _, hcell1⟩ := ha.form hlt
      obtain ⟨b2, o2, rfl, _, hcell2⟩ := hb.form hlt
      have c1 := hcell1 k hlt
      have c2 := hcell2 k hlt
      have hz1 : (Z k != Z k) = false := by simp
      clear ha hb hcell1 hcell2
      go_wp2
      go_quiet (fail)
      go_wp2
      go_roundg (n - (k + 1))
      case measure => go_light; omega
      case rel => go_light; exact ⟨k + 1, by omega, rfl, by simp, ⟨_, rfl⟩⟩
    · go_wp2
      go_ret
      exact ⟨rfl, _, rfl⟩

def TiledAt (L : Nat) (S F T P : Nat → Int) (i : Nat) : Prop := 0 ≤ S i ∧ S i ≤ F i ∧ F i ≤ T i ∧ T i ≤ P i ∧ P i ≤ (L : Int) ∧ (0 < i → S i = P (i - 1))
def TiledIf (v : Bool) (L n : Nat) (S F T P : Nat → Int) : Prop := v = true → ∀ i, i < n → TiledAt L S F T P i

set_option maxHeartbeats 4000000 in
set_option maxRecDepth 100000 in
theorem tiled19 (a0 : Option Addr) (L c0 : Nat) (a1 a2 a3 a4 : Option Addr) (n c1 c2 c3 c4 : Nat) (S F T P : Nat → Int) (w : World) (hn : n ≤ 1048576)
    (r1 : Reads .i64 w a1 n S) (r2 : Reads .i64 w a2 n F) (r3 : Reads .i64 w a3 n T) (r4 : Reads .i64 w a4 n P) :
    Calls Try.prog 19 #[.slice a0 L c0, .slice a1 n c1, .slice a2 n c2, .slice a3 n c3, .slice a4 n c4] w fun e w' => ∃ v, e = .returned (.bool v) ∧ (∃ q, w' = w.drewN q) ∧ TiledIf v L n S F T P := by
  have no : TiledIf false L n S F T P := fun h => by cases h
  go_enter Try.func19, Try.ntmps19
  go_wp2
  go_loopg [11] (n - 0) (fun g i wr => ∃ k : Nat, k ≤ n ∧ g = n - k ∧ i = .int .i64 k ∧ (∃ q, wr = w.drewN q) ∧ Hid (∀ i, i < k → TiledAt L S F T P i))
  case atStart => exact ⟨0, Nat.zero_le _, rfl, rfl, ⟨0, rfl⟩, fun i hi => by omega⟩
  case round =>
    obtain ⟨k, hk, rfl, rfl, ⟨q, rfl⟩, hall⟩ := hrel
    by_cases hlt : k < n
    case neg =>
      go_wp2
      go_ret
      exact ⟨true, rfl, ⟨_, rfl⟩, fun _ i hi => hall.out i (by omega)⟩
    have hltz : (k : Int) < (n : Int) := by omega
    obtain ⟨b1, o1, rfl, _, cell1⟩ := r1.form hlt
    obtain ⟨b2, o2, rfl, _, cell2⟩ := r2.form hlt
    obtain ⟨b3, o3, rfl, _, cell3⟩ := r3.form hlt
    obtain ⟨b4, o4, rfl, _, cell4⟩ := r4.form hlt
    have d1 := cell1 k hlt
    have d2 := cell2 k hlt
    have d3 := cell3 k hlt
    have d4 := cell4 k hlt
    have Hc4 : Hid (∀ j, j < n → w.cell? ⟨b4, o4 + j, none⟩ = some (.int .i64 (P j))) := cell4
    clear r1 r2 r3 r4 cell1 cell2 cell3 cell4
    by_cases h0 : S k < 0
    · have q0 : decide (S k < 0) = true := decide_eq_true h0
      clear h0
      go_wp2
      go_quiet (fail)
      go_wp2
      go_ret
      exact ⟨false, rfl, ⟨_, World.drewN_drewN _ _ _⟩, no⟩
    have q0 : decide (S k < 0) = false := decide_eq_false h0
    by_cases h1 : F k < S k
    · have q1 : decide (F k < S k) = true := decide_eq_true h1
      clear h1
      go_wp2
      go_quiet (fail)
      go_wp2
      go_ret
      exact ⟨false, rfl, ⟨_, World.drewN_drewN _ _ _⟩, no⟩
    have q1 : decide (F k < S k) = false := decide_eq_false h1
    by_cases h2 : T k < F k
    · have q2 : decide (T k < F k) = true := decide_eq_true h2
      clear h2
      go_wp2
      go_quiet (fail)
      go_wp2
      go_ret
      exact ⟨false, rfl, ⟨_, World.drewN_drewN _ _ _⟩, no⟩
    have q2 : decide (T k < F k) = false := decide_eq_false h2
    by_cases h3 : P k < T k
    · have q3 : decide (P k < T k) = true := decide_eq_true h3
      clear h3
      go_wp2
      go_quiet (fail)
      go_wp2
      go_ret
      exact ⟨false, rfl, ⟨_, World.drewN_drewN _ _ _⟩, no⟩
    have q3 : decide (P k < T k) = false := decide_eq_false h3
    by_cases h4 : (L : Int) < P k
    · have q4 : decide ((L : Int) < P k) = true := decide_eq_true h4
      clear h4
      go_wp2
      go_quiet (fail)
      go_wp2
      go_ret
      exact ⟨false, rfl, ⟨_, World.drewN_drewN _ _ _⟩, no⟩
    have q4 : decide ((L : Int) < P k) = false := decide_eq_false h4
    have base : 0 ≤ S k ∧ S k ≤ F k ∧ F k ≤ T k ∧ T k ≤ P k ∧ P k ≤ (L : Int) := by omega
    have next : (0 < k → S k = P (k - 1)) → Hid (∀ i, i < k + 1 → TiledAt L S F T P i) := fun h => (fun i hi => by
      by_cases e : i = k
      · subst e; exact ⟨base.1, base.2.1, base.2.2.1, base.2.2.2.1, base.2.2.2.2, h⟩
      · exact hall.out i (by omega) : ∀ i, i < k + 1 → TiledAt L S F T P i)
    clear base h0 h1 h2 h3 h4 hall
    cases k with
    | zero =>
      have N := next (fun h => by omega)
      rw [Nat.add_zero] at d1 d2 d3 d4
      clear next
      go_wp2
      go_quiet (fail)
      go_wp2
      go_quiet (fail)
      go_wp2
      go_roundg (n - (0 + 1))
      case measure => go_light; omega
      case rel => go_light; exact ⟨0 + 1, by omega, rfl, by simp, ⟨_, rfl⟩, N⟩
    | succ p =>
      have z1 : (0 : Int) < ((p + 1 : Nat) : Int) := by omega
      have z2 : ((p + 1 : Nat) : Int) - 1 = (p : Int) := by omega
      have z3 : (p : Int) < (n : Int) := by omega
      have d5 := Hc4.out p (by omega)
      by_cases he : S (p + 1) = P p
      · have q5 : (S (p + 1) != P p) = false := by simp [he]
        have N := next (fun _ => he)
        clear next he
        go_wp2
        go_quiet (fail)
        go_wp2
        go_quiet (fail)
        go_wp2
        go_roundg (n - (p + 1 + 1))
        case measure => go_light; omega
        case rel => go_light; exact ⟨p + 1 + 1, by omega, rfl, by simp, ⟨_, rfl⟩, N⟩
      · have q5 : (S (p + 1) != P p) = true := by simp [he]
        clear next he
        go_wp2
        go_quiet (fail)
        go_wp2
        go_quiet (fail)
        go_wp2
        go_ret
        exact ⟨false, rfl, ⟨_, by simp; rfl⟩, no⟩
end Go.Proofs.Qxb6603146a
