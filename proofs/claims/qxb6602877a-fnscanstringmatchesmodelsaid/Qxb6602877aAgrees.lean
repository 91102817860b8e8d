import Derived.Test.Qxb6602877aRows
import Derived.Test.Qxb6602877aCopy
import Derived.Test.Qxb6602877aScan
import Derived.Test.Qxb6602877aStr
namespace Go.Proofs.Qxb6602877a
open Go.RowKit Go.Deep

theorem zzBytes19 (a : Option Addr) (l c : Nat) (i : Int) (w : World) (h : l ≤ maxLen) :
    Calls Try.prog 19 #[.slice a l c, .int .i64 i] w fun e w' => ∃ v, e = .returned (.bool v) ∧ w' = w ∧ (v = true → l ≤ 1048576) := by
  unfold maxLen at *
  go_enter Try.func19, Try.ntmps19
  go_wp2
  all_goals go_ret
  all_goals first
    | exact ⟨false, rfl, rfl, fun h => by cases h⟩
    | exact ⟨true, rfl, rfl, fun _ => by omega⟩

theorem zzPlain_none (a : Option Addr) (n i : Nat) (Z : Nat → Int) (w : World) (hn : n ≤ 1048576) (hi : i ≤ n) (hZ : ∀ i, 0 ≤ Z i ∧ Z i ≤ 255) (hr : Reads .u8 w a n Z)
    (hp : (if i < n ∧ Z i = 34 then plainL (sfx n Z (i + 1)) (i + 1) else none) = none) :
    Calls Try.prog 20 #[.slice a n n, .int .i64 i] w fun e w' => e = .returned (.tuple #[.int .i64 0, .bool false]) ∧ w' = w := by
  have hc := plainString a n n i Z w hn hi hZ hr
  rw [hp] at hc
  replace hc : Calls Try.prog 33 #[.slice a n n, .int .i64 i] w fun e w' => e = .returned (.tuple #[.int .i64 0, .bool false]) ∧ w' = w := hc
  clear hp hr
  go_enter Try.func20, Try.ntmps20
  go_wp2_with fail
  refine hc.mono ?_
  rintro e w' ⟨rfl, rfl⟩
  clear hc
  go_wp2_with fail
  go_ret2
  exact ⟨rfl, rfl⟩

theorem zzPlain_some (a : Option Addr) (n i : Nat) (Z : Nat → Int) (w : World) (hn : n ≤ 1048576) (hi : i ≤ n) (hZ : ∀ i, 0 ≤ Z i ∧ Z i ≤ 255) (hr : Reads .u8 w a n Z) {e0 : Nat}
    (hp : (if i < n ∧ Z i = 34 then plainL (sfx n Z (i + 1)) (i + 1) else none) = some e0) :
    Calls Try.prog 20 #[.slice a n n, .int .i64 i] w fun e w' => e = .returned (.tuple #[.int .i64 (e0 : Int), .bool true]) ∧ w' = w := by
  have hc := plainString a n n i Z w hn hi hZ hr
  rw [hp] at hc
  replace hc : Calls Try.prog 33 #[.slice a n n, .int .i64 i] w fun e w' => e = .returned (.tuple #[.int .i64 (e0 : Int), .bool true]) ∧ w' = w := hc
  clear hp hr
  go_enter Try.func20, Try.ntmps20
  go_wp2_with fail
  refine hc.mono ?_
  rintro e w' ⟨rfl, rfl⟩
  clear hc
  go_wp2_with fail
  go_ret2
  exact ⟨rfl, rfl⟩

theorem zzScan_none (a : Option Addr) (n i : Nat) (Z : Nat → Int) (w : World) (hn : n ≤ 1048576) (hi : i ≤ n) (hZ : ∀ i, 0 ≤ Z i ∧ Z i ≤ 255) (hr : Reads .u8 w a n Z)
    (hp : (if i < n ∧ Z i = 34 then scanL (sfx n Z (i + 1)) (i + 1) true false else none) = none) :
    Calls Try.prog 16 #[.slice a n n, .int .i64 i] w fun e w' => e = .returned (.tuple #[.int .i64 0, .bool false, .bool false]) ∧ w' = w := by
  have hc := scanString a n i Z w hn hi hZ hr
  rw [hp] at hc
  replace hc : Calls Try.prog 29 #[.slice a n n, .int .i64 i] w fun e w' => e = .returned (.tuple #[.int .i64 0, .bool false, .bool false]) ∧ w' = w := hc
  clear hp hr
  go_enter Try.func16, Try.ntmps16
  go_wp2_with fail
  refine hc.mono ?_
  rintro e w' ⟨rfl, rfl⟩
  clear hc
  go_wp2_with fail
  go_ret3
  exact ⟨rfl, rfl⟩

theorem zzScan_some (a : Option Addr) (n i : Nat) (Z : Nat → Int) (w : World) (hn : n ≤ 1048576) (hi : i ≤ n) (hZ : ∀ i, 0 ≤ Z i ∧ Z i ≤ 255) (hr : Reads .u8 w a n Z) {e0 : Nat} {t0 : Bool}
    (hp : (if i < n ∧ Z i = 34 then scanL (sfx n Z (i + 1)) (i + 1) true false else none) = some (e0, t0)) :
    Calls Try.prog 16 #[.slice a n n, .int .i64 i] w fun e w' => e = .returned (.tuple #[.int .i64 (e0 : Int), .bool t0, .bool true]) ∧ w' = w := by
  have hc := scanString a n i Z w hn hi hZ hr
  rw [hp] at hc
  replace hc : Calls Try.prog 29 #[.slice a n n, .int .i64 i] w fun e w' => e = .returned (.tuple #[.int .i64 (e0 : Int), .bool t0, .bool true]) ∧ w' = w := hc
  clear hp hr
  go_enter Try.func16, Try.ntmps16
  go_wp2_with fail
  refine hc.mono ?_
  rintro e w' ⟨rfl, rfl⟩
  clear hc
  go_wp2_with fail
  go_ret3
  exact ⟨rfl, rfl⟩

set_option maxHeartbeats 2000000 in
theorem law7 (a : Option Addr) (n c : Nat) (i : Int) (Z : Nat → Int) (w : World) (hl : n ≤ maxLen) (hn0 : a = none → c = 0) (hZ : ∀ i, 0 ≤ Z i ∧ Z i ≤ 255) (hr : Reads .u8 w a n Z) :
    Calls Try.prog 7 #[.slice a n c, .int .i64 i] w fun e w' => e = .returned (.bool true) ∧ Below w.heap.size w w' := by
  have hne := fun w a n c => run_neq_slice_nil_any (P := Try.prog) w 22 5 a n c 0 0 Try.underlying22
  go_enter Try.func7, Try.ntmps7
  go_wp2_with fail
  refine (zzBytes19 a n c i w hl).mono ?_
  rintro e w1 ⟨v, rfl, hw, hv⟩
  subst hw
  cases v with
  | false =>
    go_wp2_with fail
    go_ret
    exact ⟨rfl, Below.refl _ _⟩
  | true =>
    have hn := hv rfl
    clear hv
    by_cases h0 : i < 0
    · have q0 : decide (i < 0) = true := decide_eq_true h0
      go_wp2_with fail
      go_ret
      exact ⟨rfl, Below.refl _ _⟩
    have q0 : decide (i < 0) = false := decide_eq_false h0
    by_cases h1 : (n : Int) < i
    · go_wp2_with fail
      go_ret
      exact ⟨rfl, Below.refl _ _⟩
    obtain ⟨k, rfl⟩ := Int.eq_ofNat_of_zero_le (show 0 ≤ i by omega)
    have hk : k ≤ n := by omega
    -- the copy
    go_upto_if 27 with (fail)
    go_cut [0] (fun s0 wc => ∃ r, s0 = .slice r n n ∧ Reads .u8 wc r n Z ∧ Below w1.heap.size w1 wc)
    case first =>
      cases a with
      | none =>
        obtain rfl := hn0 rfl
        obtain rfl := hr.none_len
        go_wp2_with fail
        go_meet
        go_light
        exact ⟨none, rfl, hr, Below.refl _ _⟩
      | some x =>
        have hmk := run_make_row' (P := Try.prog) 22 5 (.int .u8 0) 1 Try.underlying22 info5 rfl .i64 .i64 n (by omega) (by omega)
        obtain ⟨W, hrun, hrow, hbW⟩ := copy_run w1 x n c Z hr
        have hs : (some x).isSome = true := rfl
        go_wp2_with fail
        go_meet
        go_light
        exact ⟨_, rfl, reads_row hrow, hbW⟩
    case rest =>
      obtain ⟨r, rfl, hrd, hb⟩ := hcut
      clear hne hr h1 h0 q0 hn0
      have hb' : Hid (Below w1.heap.size w1 wc) := hb
      cases hP : (if k < n ∧ Z k = 34 then plainL (sfx n Z (k + 1)) (k + 1) else none) with
      | none =>
        go_wp2_with fail
        refine (zzPlain_none r n k Z wc hn hk hZ hrd hP).mono ?_
        rintro e w' ⟨rfl, rfl⟩
        clear hP
        go_wp2_with fail
        go_ret
        exact ⟨rfl, hb'.out⟩
      | some e0 =>
        have hS : (if k < n ∧ Z k = 34 then scanL (sfx n Z (k + 1)) (k + 1) true false else none) = some (e0, true) := by
          by_cases hc : k < n ∧ Z k = 34
          · rw [if_pos hc] at hP ⊢
            exact plain_scan _ _ _ hP
          · rw [if_neg hc] at hP; cases hP
        have HS : Hid ((if k < n ∧ Z k = 34 then scanL (sfx n Z (k + 1)) (k + 1) true false else none) = some (e0, true)) := hS
        have HP : Hid ((if k < n ∧ Z k = 34 then plainL (sfx n Z (k + 1)) (k + 1) else none) = some e0) := hP
        clear hS hP
        go_wp2_with fail
        refine (zzPlain_some r n k Z wc hn hk hZ hrd HP.out).mono ?_
        rintro e w' ⟨rfl, rfl⟩
        go_wp2_with fail
        refine (zzScan_some r n k Z _ hn hk hZ hrd HS.out).mono ?_
        rintro e w' ⟨rfl, rfl⟩
        go_wp2_with fail
        go_ret
        exact ⟨by simp, hb'.out⟩
end Go.Proofs.Qxb6602877a
