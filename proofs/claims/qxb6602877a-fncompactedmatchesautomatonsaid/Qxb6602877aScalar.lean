import Derived.Test.Qxb6602877aNumber
import Derived.Test.Qxb6602877aWords
import Derived.Test.Qxb6602877aStr
namespace Go.Proofs.Qxb6602877a
open Go.RowKit Go.Deep

section
variable {n : Nat} {Z : Nat → Int} {i : Nat}
theorem scal_str (hi : i < n) (h : Z i = 34) : scalL (sfx n Z i) i = (scanL (sfx n Z (i + 1)) (i + 1) true false).map Prod.fst := by
  rw [sfx_cons hi]; show (if Z i = 34 then _ else _) = _; rw [if_pos h]
theorem scal_lit (hi : i < n) (h : Z i = 116 ∨ Z i = 102 ∨ Z i = 110) : scalL (sfx n Z i) i = litF 0 (sfx n Z i) i := by
  rw [sfx_cons hi]; show (if Z i = 34 then _ else if _ then _ else _) = _; rw [if_neg (by omega), if_pos h]; rfl
theorem scal_num (hi : i < n) (h : Z i = 45 ∨ (48 ≤ Z i ∧ Z i ≤ 57)) : scalL (sfx n Z i) i = numR (sfx n Z i) i := by
  rw [sfx_cons hi]; show (if Z i = 34 then _ else if _ then _ else if _ then _ else _) = _; rw [if_neg (by omega), if_neg (by omega), if_pos h]
theorem scal_bad (hi : i < n) (h1 : Z i ≠ 34) (h2 : ¬ (Z i = 116 ∨ Z i = 102 ∨ Z i = 110)) (h3 : ¬ (Z i = 45 ∨ (48 ≤ Z i ∧ Z i ≤ 57))) : scalL (sfx n Z i) i = none := by
  rw [sfx_cons hi]; show (if Z i = 34 then _ else if _ then _ else if _ then _ else _) = _; rw [if_neg h1, if_neg h2, if_neg h3]
theorem scal_end (hi : n ≤ i) : scalL (sfx n Z i) i = none := by rw [sfx_nil hi]; rfl
end

set_option maxHeartbeats 4000000 in
set_option maxRecDepth 100000 in
theorem scalar34 (a : Option Addr) (n i : Nat) (Z : Nat → Int) (w : World) (hn : n ≤ 1048576) (hi : i ≤ n) (hZ : ∀ i, 0 ≤ Z i ∧ Z i ≤ 255) (hr : Reads .u8 w a n Z) :
    Calls Try.prog 34 #[.slice a n n, .int .i64 i] w fun e w' => e = plainV (scalL (sfx n Z i) i) ∧ Below w.heap.size w w' := by
  by_cases hin : i < n
  case neg =>
    obtain rfl : i = n := by omega
    have q : ((i : Int) == (i : Int)) = true := by simp
    rw [scal_end (Nat.le_refl _)]
    go_enter Try.func34, Try.ntmps34
    go_wp2_with fail
    go_ret2
    exact ⟨rfl, Below.refl _ _⟩
  have q : ((i : Int) == (n : Int)) = false := by simp; omega
  have hiz : (i : Int) < (n : Int) := by omega
  have hr0 : Hid (Reads .u8 w a n Z) := hr
  obtain ⟨b, o, rfl, hbw, hcell⟩ := hr.form hin
  clear hr
  have c0 := hcell i hin
  have bz := hZ i
  by_cases h1 : Z i = 34
  · have q1 : (Z i == 34) = true := by simp [h1]
    rw [scal_str hin h1]
    have hc := scanString _ n i Z w hn hi hZ hr0.out
    rw [if_pos ⟨hin, h1⟩] at hc
    clear h1 hcell
    cases hS : scanL (sfx n Z (i + 1)) (i + 1) true false with
    | none =>
      rw [hS] at hc
      replace hc : Calls Try.prog 29 #[.slice (some ⟨b, o, none⟩) n n, .int .i64 i] w fun e w' => e = .returned (.tuple #[.int .i64 0, .bool false, .bool false]) ∧ w' = w := hc
      clear hS
      show Calls Try.prog 34 #[.slice (some ⟨b, o, none⟩) n n, .int .i64 i] w fun e w' => e = plainV none ∧ Below w.heap.size w w'
      go_enter Try.func34, Try.ntmps34
      go_wp2_with fail
      refine hc.mono ?_
      rintro _ w2 ⟨rfl, hw2⟩
      subst w2
      clear hc
      go_wp2_with fail
      go_ret2
      exact ⟨rfl, Below.refl _ _⟩
    | some p =>
      obtain ⟨e0, t0⟩ := p
      rw [hS] at hc
      replace hc : Calls Try.prog 29 #[.slice (some ⟨b, o, none⟩) n n, .int .i64 i] w fun e w' => e = .returned (.tuple #[.int .i64 (e0 : Int), .bool t0, .bool true]) ∧ w' = w := hc
      clear hS
      show Calls Try.prog 34 #[.slice (some ⟨b, o, none⟩) n n, .int .i64 i] w fun e w' => e = plainV (some e0) ∧ Below w.heap.size w w'
      go_enter Try.func34, Try.ntmps34
      go_wp2_with fail
      refine hc.mono ?_
      rintro _ w2 ⟨rfl, hw2⟩
      subst w2
      clear hc
      go_wp2_with fail
      go_ret2
      exact ⟨rfl, Below.refl _ _⟩
  have q1 : (Z i == 34) = false := by simp [h1]
  by_cases h2 : Z i = 116 ∨ Z i = 102 ∨ Z i = 110
  case neg =>
    have q2 : (Z i == 116) = false := by simp; omega
    have q3 : (Z i == 102) = false := by simp; omega
    have q4 : (Z i == 110) = false := by simp; omega
    by_cases h3 : Z i = 45 ∨ (48 ≤ Z i ∧ Z i ≤ 57)
    · rw [scal_num hin h3]
      have hc := number26 _ n i Z w hn hin hr0.out
      obtain ⟨R, hR⟩ : ∃ R, R = numR (sfx n Z i) i := ⟨_, rfl⟩
      rw [← hR] at hc ⊢
      clear hR hcell h1 h2
      cases R with
      | none =>
        replace hc : Calls Try.prog 26 #[.slice (some ⟨b, o, none⟩) n n, .int .i64 i] w fun e w' => e = .returned (.tuple #[.int .i64 0, .bool false]) ∧ Below w.heap.size w w' := hc
        rcases h3 with h3 | ⟨h3, h4⟩
        · have q5 : (Z i == 45) = true := by simp [h3]
          clear h3
          go_enter Try.func34, Try.ntmps34
          go_wp2_with fail
          refine hc.mono ?_
          rintro _ w2 ⟨rfl, hw2⟩
          have hw : Hid (Below w.heap.size w w2) := hw2
          clear hc hw2
          go_wp2_with fail
          go_ret2
          exact ⟨rfl, hw.out⟩
        · have q5 : (Z i == 45) = false := by simp; omega
          have q6 : decide (48 ≤ Z i) = true := decide_eq_true h3
          have q7 : decide (Z i ≤ 57) = true := decide_eq_true h4
          clear h3 h4
          go_enter Try.func34, Try.ntmps34
          go_wp2_with fail
          refine hc.mono ?_
          rintro _ w2 ⟨rfl, hw2⟩
          have hw : Hid (Below w.heap.size w w2) := hw2
          clear hc hw2
          go_wp2_with fail
          go_ret2
          exact ⟨rfl, hw.out⟩
      | some e0 =>
        replace hc : Calls Try.prog 26 #[.slice (some ⟨b, o, none⟩) n n, .int .i64 i] w fun e w' => e = .returned (.tuple #[.int .i64 (e0 : Int), .bool true]) ∧ Below w.heap.size w w' := hc
        rcases h3 with h3 | ⟨h3, h4⟩
        · have q5 : (Z i == 45) = true := by simp [h3]
          clear h3
          go_enter Try.func34, Try.ntmps34
          go_wp2_with fail
          refine hc.mono ?_
          rintro _ w2 ⟨rfl, hw2⟩
          have hw : Hid (Below w.heap.size w w2) := hw2
          clear hc hw2
          go_wp2_with fail
          go_ret2
          exact ⟨rfl, hw.out⟩
        · have q5 : (Z i == 45) = false := by simp; omega
          have q6 : decide (48 ≤ Z i) = true := decide_eq_true h3
          have q7 : decide (Z i ≤ 57) = true := decide_eq_true h4
          clear h3 h4
          go_enter Try.func34, Try.ntmps34
          go_wp2_with fail
          refine hc.mono ?_
          rintro _ w2 ⟨rfl, hw2⟩
          have hw : Hid (Below w.heap.size w w2) := hw2
          clear hc hw2
          go_wp2_with fail
          go_ret2
          exact ⟨rfl, hw.out⟩
    · rw [scal_bad hin h1 h2 h3]
      have q5 : (Z i == 45) = false := by simp; omega
      clear hcell h1 h2
      by_cases h4 : 48 ≤ Z i
      · have q6 : decide (48 ≤ Z i) = true := decide_eq_true h4
        have q7 : decide (Z i ≤ 57) = false := decide_eq_false (by omega)
        clear h3 h4
        go_enter Try.func34, Try.ntmps34
        go_wp2_with fail
        go_ret2
        exact ⟨rfl, Below.refl _ _⟩
      · have q6 : decide (48 ≤ Z i) = false := decide_eq_false h4
        clear h3 h4
        go_enter Try.func34, Try.ntmps34
        go_wp2_with fail
        go_ret2
        exact ⟨rfl, Below.refl _ _⟩
  -- the three words
  rw [scal_lit hin h2]
  exact words34 b o n i Z w hn hin hZ hr0 h2
end Go.Proofs.Qxb6602877a
