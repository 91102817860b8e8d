import Derived.Test.Qxb6602877aSmall
namespace Go.Proofs.Qxb6602877a
open Go.RowKit Go.Deep

theorem high_not_low {u : Int} (h : isHigh u = true) : isLow u = false := by
  simp [isHigh, isLow] at *; omega

theorem paired_false {U : Nat → Int} {n k : Nat} (hk : k < n) (h : okAt U n k = false) : paired (listF U n) = false := by
  cases hp : paired (listF U n) with
  | false => rfl
  | true => rw [(paired_iff U n).1 hp k hk] at h; cases h

set_option maxHeartbeats 1000000 in
theorem paired30 (a : Option Addr) (n c : Nat) (U : Nat → Int) (w : World) (hn : n ≤ 1048577) (hr : Reads .i32 w a n U) :
    Calls Try.prog 30 #[.slice a n c] w fun e w' => e = .returned (.bool (paired (listF U n))) ∧ w' = w := by
  obtain ⟨R, hR⟩ : ∃ R, R = paired (listF U n) := ⟨_, rfl⟩
  rw [← hR]
  have HR : Hid (R = paired (listF U n)) := hR
  clear hR
  go_enter Try.func30, Try.ntmps30
  go_wp2
  go_loopg [3] (n - 0) (fun g e wr => wr = w ∧ ∃ k : Nat, k ≤ n ∧ g = n - k ∧ e = .int .i64 k ∧ Hid (∀ t, t < k → okAt U n t = true))
  case atStart => exact ⟨rfl, 0, by omega, rfl, rfl, fun t ht => by omega⟩
  case round =>
    obtain ⟨rfl, k, hk, rfl, rfl, hall⟩ := hrel
    by_cases hlt : k < n
    case neg =>
      have HE : Hid (R = true) := by
        show R = true
        rw [HR.out]
        exact (paired_iff U n).2 (fun t ht => hall.out t (by omega))
      go_wp2_with fail
      go_ret
      rw [HE.out]
      exact ⟨rfl, rfl⟩
    have hltz : (k : Int) < (n : Int) := by omega
    obtain ⟨b, o, rfl, _, hcell⟩ := hr.form hlt
    clear hr
    have c1 := hcell k hlt
    have next : okAt U n k = true → Hid (∀ t, t < k + 1 → okAt U n t = true) := fun h => (fun t ht => by
      by_cases e : t = k
      · rw [e]; exact h
      · exact hall.out t (by omega) : ∀ t, t < k + 1 → okAt U n t = true)
    have bad : okAt U n k = false → Hid (R = false) := fun h => (HR.out.trans (paired_false hlt h) : R = false)
    clear hall HR
    have k38 := isHigh38 (U k) wr
    have k39 := isLow39 (U k) wr
    cases hh : isHigh (U k) with
    | true =>
      have hl := high_not_low hh
      rw [hh] at k38
      rw [hl] at k39
      by_cases h1 : k + 1 < n
      · have q1 : ((k : Int) + 1 == (n : Int)) = false := by simp; omega
        have h1z : (k : Int) + 1 < (n : Int) := by omega
        have c2 := hcell (k + 1) h1
        have k40 := isLow39 (U (k + 1)) wr
        cases hl1 : isLow (U (k + 1)) with
        | true =>
          rw [hl1] at k40
          have N := next (by simp [okAt, hh, hl, h1, hl1])
          clear next bad hh hl hl1 hcell
          go_wp2_with fail
          refine k38.mono ?_
          rintro _ _ ⟨rfl, rfl⟩
          go_wp2_with fail
          refine k40.mono ?_
          rintro _ _ ⟨rfl, rfl⟩
          go_wp2_with fail
          refine k39.mono ?_
          rintro _ _ ⟨rfl, rfl⟩
          go_wp2_with fail
          go_roundg (n - (k + 1))
          case measure => go_light; omega
          case rel => go_light; exact ⟨rfl, k + 1, by omega, rfl, by simp, N⟩
        | false =>
          rw [hl1] at k40
          have N := bad (by simp [okAt, hh, hl, h1, hl1])
          clear next bad hh hl hl1 hcell
          go_wp2_with fail
          refine k38.mono ?_
          rintro _ _ ⟨rfl, rfl⟩
          go_wp2_with fail
          refine k40.mono ?_
          rintro _ _ ⟨rfl, rfl⟩
          go_wp2_with fail
          go_ret
          rw [N.out]
          exact ⟨rfl, rfl⟩
      · have q1 : ((k : Int) + 1 == (n : Int)) = true := by simp; omega
        have N := bad (by simp [okAt, hh, hl, h1])
        clear next bad hh hl hcell
        go_wp2_with fail
        refine k38.mono ?_
        rintro _ _ ⟨rfl, rfl⟩
        go_wp2_with fail
        go_ret
        rw [N.out]
        exact ⟨rfl, rfl⟩
    | false =>
      rw [hh] at k38
      cases hl : isLow (U k) with
      | false =>
        rw [hl] at k39
        have N := next (by simp [okAt, hh, hl])
        clear next bad hh hl hcell
        go_wp2_with fail
        refine k38.mono ?_
        rintro _ _ ⟨rfl, rfl⟩
        go_wp2_with fail
        refine k39.mono ?_
        rintro _ _ ⟨rfl, rfl⟩
        go_wp2_with fail
        go_roundg (n - (k + 1))
        case measure => go_light; omega
        case rel => go_light; exact ⟨rfl, k + 1, by omega, rfl, by simp, N⟩
      | true =>
        rw [hl] at k39
        cases k with
        | zero =>
          rw [Nat.add_zero] at c1
          have N := bad (by simp [okAt, hh, hl, before])
          clear next bad hh hl hcell
          go_wp2_with fail
          refine k38.mono ?_
          rintro _ _ ⟨rfl, rfl⟩
          go_wp2_with fail
          refine k39.mono ?_
          rintro _ _ ⟨rfl, rfl⟩
          go_wp2_with fail
          go_ret
          rw [N.out]
          exact ⟨rfl, rfl⟩
        | succ p =>
          have q1 : (((p + 1 : Nat) : Int) == 0) = false := by simp; omega
          have q2 : ((p + 1 : Nat) : Int) - 1 = (p : Int) := by omega
          have c2 := hcell p (by omega)
          have hpz : (p : Int) < (n : Int) := by omega
          have k40 := isHigh38 (U p) wr
          cases hl1 : isHigh (U p) with
          | true =>
            rw [hl1] at k40
            have N := next (by simp [okAt, hh, hl, before, hl1])
            clear next bad hh hl hl1 hcell
            go_wp2_with fail
            refine k38.mono ?_
            rintro _ _ ⟨rfl, rfl⟩
            go_wp2_with fail
            refine k39.mono ?_
            rintro _ _ ⟨rfl, rfl⟩
            go_wp2_with fail
            refine k40.mono ?_
            rintro _ _ ⟨rfl, rfl⟩
            go_wp2_with fail
            go_roundg (n - (p + 1 + 1))
            case measure => go_light; omega
            case rel => go_light; exact ⟨rfl, p + 1 + 1, by omega, rfl, by simp, N⟩
          | false =>
            rw [hl1] at k40
            have N := bad (by simp [okAt, hh, hl, before, hl1])
            clear next bad hh hl hl1 hcell
            go_wp2_with fail
            refine k38.mono ?_
            rintro _ _ ⟨rfl, rfl⟩
            go_wp2_with fail
            refine k39.mono ?_
            rintro _ _ ⟨rfl, rfl⟩
            go_wp2_with fail
            refine k40.mono ?_
            rintro _ _ ⟨rfl, rfl⟩
            go_wp2_with fail
            go_ret
            rw [N.out]
            exact ⟨rfl, rfl⟩
end Go.Proofs.Qxb6602877a
