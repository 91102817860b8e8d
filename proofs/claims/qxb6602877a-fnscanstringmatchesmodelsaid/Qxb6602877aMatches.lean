import Derived.Test.Qxb6602877aAgrees
import Derived.Test.Qxb6602877aModelWalk
namespace Go.Proofs.Qxb6602877a
open Go.RowKit Go.Deep

theorem zzBytes15 (a : Option Addr) (l c : Nat) (i : Int) (w : World) (h : l ≤ maxLen) :
    Calls Try.prog 15 #[.slice a l c, .int .i64 i] w fun e w' => ∃ v, e = .returned (.bool v) ∧ w' = w ∧ (v = true → l ≤ 1048576) := by
  unfold maxLen at *
  go_enter Try.func15, Try.ntmps15
  go_wp2
  all_goals go_ret
  all_goals first
    | exact ⟨false, rfl, rfl, fun h => by cases h⟩
    | exact ⟨true, rfl, rfl, fun _ => by omega⟩

set_option maxHeartbeats 2000000 in
theorem law5 (a : Option Addr) (n c : Nat) (i : Int) (Z : Nat → Int) (w : World) (hl : n ≤ maxLen) (hn0 : a = none → c = 0) (hZ : ∀ i, 0 ≤ Z i ∧ Z i ≤ 255) (hr : Reads .u8 w a n Z) :
    Calls Try.prog 5 #[.slice a n c, .int .i64 i] w fun e w' => e = .returned (.bool true) ∧ Below w.heap.size w w' := by
  have hne := fun w a n c => run_neq_slice_nil_any (P := Try.prog) w 22 5 a n c 0 0 Try.underlying22
  go_enter Try.func5, Try.ntmps5
  go_wp2_with fail
  refine (zzBytes15 a n c i w hl).mono ?_
  rintro e w1 ⟨v, rfl, hw, hv⟩
  subst hw
  cases v with
  | false =>
    go_wp2_with fail
    go_ret
    exact ⟨rfl, Below.refl _ _⟩
  | true =>
    have hn := hv rfl
    clear hv
    by_cases h0 : i < 0
    · have q0 : decide (i < 0) = true := decide_eq_true h0
      go_wp2_with fail
      go_ret
      exact ⟨rfl, Below.refl _ _⟩
    have q0 : decide (i < 0) = false := decide_eq_false h0
    by_cases h1 : (n : Int) < i
    · go_wp2_with fail
      go_ret
      exact ⟨rfl, Below.refl _ _⟩
    obtain ⟨k, rfl⟩ := Int.eq_ofNat_of_zero_le (show 0 ≤ i by omega)
    have hk : k ≤ n := by omega
    -- the copy
    go_upto_if 28 with (fail)
    go_cut [0] (fun s0 wc => ∃ r, s0 = .slice r n n ∧ Reads .u8 wc r n Z ∧ Below w1.heap.size w1 wc)
    case first =>
      cases a with
      | none =>
        obtain rfl := hn0 rfl
        obtain rfl := hr.none_len
        go_wp2_with fail
        go_meet
        go_light
        exact ⟨none, rfl, hr, Below.refl _ _⟩
      | some x =>
        have hmk := run_make_row' (P := Try.prog) 22 5 (.int .u8 0) 1 Try.underlying22 info5 rfl .i64 .i64 n (by omega) (by omega)
        obtain ⟨W, hrun, hrow, hbW⟩ := copy_run w1 x n c Z hr
        have hs : (some x).isSome = true := rfl
        go_wp2_with fail
        go_meet
        go_light
        exact ⟨_, rfl, reads_row hrow, hbW⟩
    case rest =>
      obtain ⟨r, rfl, hrd, hb⟩ := hcut
      clear hne hr h1 h0 q0 hn0
      have hb' : Hid (Below w1.heap.size w1 wc) := hb
      have k17 := model17 r n k Z wc hn hk hZ hrd
      have fin : ∀ w2, Below wc.heap.size wc w2 → Hid (Below w1.heap.size w1 w2) := fun w2 h => (hb'.out.trans (h.mono hb'.out.size) : Below w1.heap.size w1 w2)
      cases hS : (if k < n ∧ Z k = 34 then scanL (sfx n Z (k + 1)) (k + 1) true false else none) with
      | none =>
        rw [hS] at k17
        replace k17 : Calls Try.prog 17 #[.slice r n n, .int .i64 k] wc fun e w' => e = .returned (.tuple #[.int .i64 0, .bool false, .bool false]) ∧ Below wc.heap.size wc w' := k17
        have k16 := zzScan_none r n k Z wc hn hk hZ hrd hS
        clear hS hrd hb
        go_wp2_with fail
        refine k16.mono ?_
        rintro _ w2 ⟨rfl, hw2⟩
        subst w2
        go_wp2_with fail
        refine k17.mono ?_
        rintro _ w2 ⟨rfl, hw2⟩
        have F := fin w2 hw2
        clear hw2 fin
        go_wp2_with fail
        go_ret
        exact ⟨by simp, F.out⟩
      | some p =>
        obtain ⟨e0, t0⟩ := p
        rw [hS] at k17
        replace k17 : Calls Try.prog 17 #[.slice r n n, .int .i64 k] wc fun e w' => e = .returned (.tuple #[.int .i64 (e0 : Int), .bool t0, .bool true]) ∧ Below wc.heap.size wc w' := k17
        have k16 := zzScan_some r n k Z wc hn hk hZ hrd hS
        clear hS hrd hb
        go_wp2_with fail
        refine k16.mono ?_
        rintro _ w2 ⟨rfl, hw2⟩
        subst w2
        go_wp2_with fail
        refine k17.mono ?_
        rintro _ w2 ⟨rfl, hw2⟩
        have F := fin w2 hw2
        clear hw2 fin
        go_wp2_with fail
        go_ret
        exact ⟨by simp, F.out⟩
end Go.Proofs.Qxb6602877a
