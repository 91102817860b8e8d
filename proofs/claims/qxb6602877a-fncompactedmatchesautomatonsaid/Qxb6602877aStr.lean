import Derived.Test.Qxb6602877aRows
import Derived.Test.Qxb6602877aKit
import Derived.Test.Qxb6602877aPlain
import Derived.Test.Qxb6602877aHex
namespace Go.Proofs.Qxb6602877a
open Go.RowKit Go.Deep

def scanV : Option (Nat × Bool) → Ending
  | some (e, t) => .returned (.tuple #[.int .i64 (e : Int), .bool t, .bool true])
  | none => .returned (.tuple #[.int .i64 0, .bool false, .bool false])

theorem simple_cases {e : Int} (h : simpleE e = true) : e = 34 ∨ e = 92 ∨ e = 47 ∨ e = 98 ∨ e = 102 ∨ e = 110 ∨ e = 114 ∨ e = 116 := by
  simp [simpleE] at h; omega
theorem simple_not {e : Int} (h : simpleE e = false) : (e == 34) = false ∧ (e == 92) = false ∧ (e == 47) = false ∧ (e == 98) = false ∧ (e == 102) = false ∧ (e == 110) = false ∧ (e == 114) = false ∧ (e == 116) = false := by
  simpa [simpleE, Bool.or_eq_false_iff, and_assoc] using h

set_option maxHeartbeats 4000000 in
set_option maxRecDepth 100000 in
theorem scanString (a : Option Addr) (n i : Nat) (Z : Nat → Int) (w : World) (hn : n ≤ 1048576) (hi : i ≤ n) (hZ : ∀ i, 0 ≤ Z i ∧ Z i ≤ 255) (hr : Reads .u8 w a n Z) :
    Calls Try.prog 29 #[.slice a n n, .int .i64 i] w fun e w' => e = scanV (if i < n ∧ Z i = 34 then scanL (sfx n Z (i + 1)) (i + 1) true false else none) ∧ w' = w := by
  by_cases hin : i < n
  case neg =>
    obtain rfl : i = n := by omega
    have q : ((i : Int) == (i : Int)) = true := by simp
    rw [if_neg (by omega)]
    go_enter Try.func29, Try.ntmps29
    go_wp2
    go_ret3
    exact ⟨rfl, rfl⟩
  have q : ((i : Int) == (n : Int)) = false := by simp; omega
  have hiz : (i : Int) < (n : Int) := by omega
  have hr' := hr
  obtain ⟨b, o, rfl, _, hcell⟩ := hr.form hin
  clear hr
  have c0 := hcell i hin
  by_cases h34 : Z i = 34
  case neg =>
    have q2 : (Z i != 34) = true := by simp [h34]
    rw [if_neg (by omega)]
    go_enter Try.func29, Try.ntmps29
    go_wp2
    go_ret3
    exact ⟨rfl, rfl⟩
  have q2 : (Z i != 34) = false := by simp [h34]
  rw [if_pos ⟨hin, h34⟩]
  clear h34
  obtain ⟨R, hR⟩ : ∃ R, R = scanL (sfx n Z (i + 1)) (i + 1) true false := ⟨_, rfl⟩
  rw [← hR]
  have HR0 : Hid (R = scanL (sfx n Z (i + 1)) (i + 1) true false) := hR
  clear hR
  go_enter Try.func29, Try.ntmps29
  go_wp2
  clear c0 q q2
  go_loopg [5, 7, 8] (n - (i + 1)) (fun g s5 s7 s8 wr => wr = w ∧ ∃ (j : Nat) (t h : Bool), i < j ∧ j ≤ n ∧ g = n - j ∧ s5 = .bool t ∧ s7 = .bool h ∧ s8 = .int .i64 j ∧ Hid (R = scanL (sfx n Z j) j t h))
  case atStart => exact ⟨rfl, i + 1, true, false, by omega, by omega, rfl, rfl, rfl, by simp, HR0⟩
  case round =>
    clear HR0
    obtain ⟨rfl, j, t, h, hij, hjn, rfl, rfl, rfl, rfl, HR⟩ := hrel
    by_cases hlt : j < n
    case neg =>
      have HE : Hid (R = none) := by show R = _; rw [HR.out, scan_end (by omega)]
      go_wp2
      go_ret3
      rw [HE.out]
      exact ⟨rfl, rfl⟩
    have hltz : (j : Int) < (n : Int) := by omega
    have c1 := hcell j hlt
    have bz := hZ j
    go_upto_block 2 with (fail)
    go_cut [5, 8, 9] (fun s5 s8 s9 wc => wc = wr ∧ ∃ (j' : Nat) (u : Int), j ≤ j' ∧ j' < n ∧ s5 = .bool t ∧ s8 = .int .i64 j' ∧ s9 = .int .i32 u ∧ Hid (R = scanL (sfx n Z (j' + 1)) (j' + 1) (t && (h == isLow u)) (isHigh u)))
    case first =>
      by_cases h1 : Z j = 34
      · have q1 : (Z j == 34) = true := by simp [h1]
        have HE : Hid (R = some (j + 1, t && !h)) := by show R = _; rw [HR.out, scan_quote hlt h1]
        clear h1 hcell
        cases t <;> cases h
        all_goals
          go_wp2
          go_ret3
          rw [HE.out]
          exact ⟨rfl, rfl⟩
      have q1 : (Z j == 34) = false := by simp [h1]
      by_cases h2 : Z j < 32
      · have q2 : decide (Z j < 32) = true := decide_eq_true h2
        have HE : Hid (R = none) := by show R = _; rw [HR.out, scan_ctl hlt h2]
        go_wp2
        go_ret3
        rw [HE.out]
        exact ⟨rfl, rfl⟩
      have q2 : decide (Z j < 32) = false := decide_eq_false h2
      by_cases h3 : Z j = 92
      case neg =>
        have q3 : (Z j == 92) = false := by simp [h3]
        have HE : Hid (R = scanL (sfx n Z (j + 1)) (j + 1) (t && (h == isLow (-1))) (isHigh (-1))) := by show R = _; rw [HR.out, scan_raw hlt h1 h2 h3]; rfl
        clear h1 h2 h3 hcell
        go_wp2
        go_meet
        go_light
        exact ⟨rfl, j, -1, by omega, by omega, rfl, rfl, rfl, HE⟩
      have q3 : (Z j == 92) = true := by simp [h3]
      by_cases h4 : j + 1 = n
      · have q4 : ((j : Int) + 1 == (n : Int)) = true := by simp; omega
        have HE : Hid (R = none) := by show R = _; rw [HR.out, scan_esc_end hlt h3 h4]
        clear h1 h2 h3 h4 hcell
        go_wp2
        go_ret3
        rw [HE.out]
        exact ⟨rfl, rfl⟩
      have q4 : ((j : Int) + 1 == (n : Int)) = false := by simp; omega
      have hj1 : j + 1 < n := by omega
      have hj1z : (j : Int) + 1 < (n : Int) := by omega
      have c2 := hcell (j + 1) hj1
      have bz2 := hZ (j + 1)
      by_cases h5 : simpleE (Z (j + 1)) = true
      · have HE : Hid (R = scanL (sfx n Z (j + 1 + 1)) (j + 1 + 1) (t && (h == isLow (-1))) (isHigh (-1))) := by show R = _; rw [HR.out, scan_simple hj1 h3 h5]; rfl
        have he := simple_cases h5
        clear h1 h2 h3 h4 h5 hcell bz2
        rcases he with he | he | he | he | he | he | he | he
        · rw [he] at c2
          clear he
          go_wp2
          go_meet
          go_light
          exact ⟨rfl, j + 1, -1, by omega, by omega, rfl, by simp, rfl, HE⟩
        · rw [he] at c2
          clear he
          go_wp2
          go_meet
          go_light
          exact ⟨rfl, j + 1, -1, by omega, by omega, rfl, by simp, rfl, HE⟩
        · rw [he] at c2
          clear he
          go_wp2
          go_meet
          go_light
          exact ⟨rfl, j + 1, -1, by omega, by omega, rfl, by simp, rfl, HE⟩
        · rw [he] at c2
          clear he
          go_wp2
          go_meet
          go_light
          exact ⟨rfl, j + 1, -1, by omega, by omega, rfl, by simp, rfl, HE⟩
        · rw [he] at c2
          clear he
          go_wp2
          go_meet
          go_light
          exact ⟨rfl, j + 1, -1, by omega, by omega, rfl, by simp, rfl, HE⟩
        · rw [he] at c2
          clear he
          go_wp2
          go_meet
          go_light
          exact ⟨rfl, j + 1, -1, by omega, by omega, rfl, by simp, rfl, HE⟩
        · rw [he] at c2
          clear he
          go_wp2
          go_meet
          go_light
          exact ⟨rfl, j + 1, -1, by omega, by omega, rfl, by simp, rfl, HE⟩
        · rw [he] at c2
          clear he
          go_wp2
          go_meet
          go_light
          exact ⟨rfl, j + 1, -1, by omega, by omega, rfl, by simp, rfl, HE⟩
      have h5' : simpleE (Z (j + 1)) = false := by simpa using h5
      obtain ⟨r1, r2, r3, r4, r5, r6, r7, r8⟩ := simple_not h5'
      by_cases h6 : Z (j + 1) = 117
      · have hu := scan_u (t := t) (h := h) hj1 h3 h6
        rw [h6] at c2
        obtain ⟨X, hX⟩ : ∃ X, X = hexL (sfx n Z (j + 2)) := ⟨_, rfl⟩
        rw [← hX] at hu
        have HU := hex4 (some ⟨b, o, none⟩) n (j + 2) Z wr hn (by omega) hZ hr'
        rw [← hX] at HU
        have hz2 : ((j + 2 : Nat) : Int) = (j : Int) + 1 + 1 := by omega
        rw [hz2] at HU
        cases X with
        | none =>
          have HE : Hid (R = none) := by show R = _; rw [HR.out, hu]
          replace HU : Calls Try.prog 37 #[.slice (some ⟨b, o, none⟩) n n, .int .i64 ((j : Int) + 1 + 1)] wr (fun e w' => e = .returned (.tuple #[.int .i32 0, .bool false]) ∧ w' = wr) := HU
          clear h1 h2 h3 h4 h5 h5' h6 hcell hu hX r1 r2 r3 r4 r5 r6 r7 r8 hz2
          go_wp2_with fail
          refine HU.mono ?_
          rintro e w' ⟨rfl, rfl⟩
          clear HU
          go_wp2_with fail
          go_ret3
          rw [HE.out]
          exact ⟨rfl, rfl⟩
        | some u =>
          have h7 : j + 6 ≤ n := by
            apply Classical.byContradiction
            intro hc
            rw [hexL_short (by omega)] at hX
            cases hX
          have HE : Hid (R = scanL (sfx n Z (j + 5 + 1)) (j + 5 + 1) (t && (h == isLow u)) (isHigh u)) := by show R = _; rw [HR.out, hu]
          replace HU : Calls Try.prog 37 #[.slice (some ⟨b, o, none⟩) n n, .int .i64 ((j : Int) + 1 + 1)] wr (fun e w' => e = .returned (.tuple #[.int .i32 u, .bool true]) ∧ w' = wr) := HU
          clear h1 h2 h3 h4 h5 h5' h6 hcell hu hX r1 r2 r3 r4 r5 r6 r7 r8 hz2
          go_wp2_with fail
          refine HU.mono ?_
          rintro e w' ⟨rfl, rfl⟩
          clear HU
          go_wp2_with fail
          go_meet
          go_light
          exact ⟨rfl, j + 5, u, by omega, by omega, rfl, by go_num, rfl, HE⟩
      · have r9 : (Z (j + 1) == 117) = false := by simp [h6]
        have HE : Hid (R = none) := by show R = _; rw [HR.out, scan_esc_bad hj1 h3 h5' h6]
        clear h1 h2 h3 h4 h5 h5' h6 hcell
        go_wp2
        go_ret3
        rw [HE.out]
        exact ⟨rfl, rfl⟩
    case rest =>
      obtain ⟨rfl, j', u, hjj, hjn', rfl, rfl, rfl, HE⟩ := hcut
      clear c1 bz hcell HR
      have fin : ∀ (T H : Bool), T = (t && (h == isLow u)) → H = isHigh u → Hid (R = scanL (sfx n Z (j' + 1)) (j' + 1) T H) := fun T H hT hH => by
        rw [hT, hH]; exact HE
      have e1 : isLow u = (decide (56320 ≤ u) && decide (u ≤ 57343)) := rfl
      have e2 : isHigh u = (decide (55296 ≤ u) && decide (u ≤ 56319)) := rfl
      have FIN : Hid (∀ (T H : Bool), T = (t && (h == (decide (56320 ≤ u) && decide (u ≤ 57343)))) → H = (decide (55296 ≤ u) && decide (u ≤ 56319)) → Hid (R = scanL (sfx n Z (j' + 1)) (j' + 1) T H)) := fun T H hT hH => fin T H (by rw [e1]; exact hT) (by rw [e2]; exact hH)
      clear fin e1 e2 HE
      have rng : u < 55296 ∨ (55296 ≤ u ∧ u ≤ 56319) ∨ (56320 ≤ u ∧ u ≤ 57343) ∨ 57343 < u := by omega
      cases t <;> cases h
      all_goals
        rcases rng with g | ⟨g, g'⟩ | ⟨g, g'⟩ | g
        all_goals
          go_wp2
          go_roundg (n - (j' + 1))
          case measure => go_light; omega
          case rel =>
            go_light
            exact ⟨rfl, j' + 1, _, _, by omega, by omega, rfl, rfl, rfl, by simp, FIN.out _ _ (by first | rfl | (simp; try omega)) (by first | rfl | (simp; try omega))⟩
end Go.Proofs.Qxb6602877a
