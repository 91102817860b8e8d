import Derived.Test.Qxb6602877aNum
import Derived.Test.Qxb6602877aScan
namespace Go.Proofs.Qxb6602877a
open Go.RowKit Go.Deep

section
variable {n : Nat} {Z : Nat → Int} {k : Nat}
theorem numR_minus (hk : k < n) (h : Z k = 45) : numR (sfx n Z k) k = num1 (sfx n Z (k + 1)) (k + 1) := by
  rw [sfx_cons hk]; show (if Z k = 45 then _ else _) = _; rw [if_pos h]
theorem numR_plus (hk : k < n) (h : Z k ≠ 45) : numR (sfx n Z k) k = num1 (sfx n Z k) k := by
  rw [sfx_cons hk]; show (if Z k = 45 then _ else _) = _; rw [if_neg h]
theorem num1_end (hk : n ≤ k) : num1 (sfx n Z k) k = none := by rw [sfx_nil hk]; rfl
theorem num1_zero (hk : k < n) (h : Z k = 48) : num1 (sfx n Z k) k = num2 (sfx n Z (k + 1)) (k + 1) := by
  rw [sfx_cons hk]; show (if Z k = 48 then _ else _) = _; rw [if_pos h]
theorem num1_int (hk : k < n) (h : 49 ≤ Z k ∧ Z k ≤ 57) : num1 (sfx n Z k) k = num2 (sfx n Z (k + dig (sfx n Z k))) (k + dig (sfx n Z k)) := by
  rw [← drop_sfx n Z k (dig (sfx n Z k))]
  generalize hL : sfx n Z k = L
  rw [sfx_cons hk] at hL
  subst hL
  show (if Z k = 48 then _ else if _ then _ else _) = _
  rw [if_neg (by omega), if_pos h]
theorem num1_bad (hk : k < n) (h : Z k ≠ 48) (h2 : ¬ (49 ≤ Z k ∧ Z k ≤ 57)) : num1 (sfx n Z k) k = none := by
  rw [sfx_cons hk]; show (if Z k = 48 then _ else if _ then _ else _) = _; rw [if_neg h, if_neg h2]
theorem num2_skip (h : k < n → Z k ≠ 46) : num2 (sfx n Z k) k = num3 (sfx n Z k) k := by
  by_cases hk : k < n
  · rw [sfx_cons hk]; show (if Z k = 46 then _ else _) = _; rw [if_neg (h hk)]
  · rw [sfx_nil (by omega)]; rfl
theorem num2_dot (hk : k < n) (h : Z k = 46) (hd : 0 < dig (sfx n Z (k + 1))) : num2 (sfx n Z k) k = num3 (sfx n Z (k + 1 + dig (sfx n Z (k + 1)))) (k + 1 + dig (sfx n Z (k + 1))) := by
  rw [← drop_sfx n Z (k + 1) (dig (sfx n Z (k + 1))), sfx_cons hk]
  show (if Z k = 46 then (if _ then _ else _) else _) = _
  rw [if_pos h, if_pos hd]
theorem num2_bad (hk : k < n) (h : Z k = 46) (hd : dig (sfx n Z (k + 1)) = 0) : num2 (sfx n Z k) k = none := by
  rw [sfx_cons hk]
  show (if Z k = 46 then (if _ then _ else _) else _) = _
  rw [if_pos h, if_neg (by omega)]
theorem num3_skip (h : k < n → Z k ≠ 101 ∧ Z k ≠ 69) : num3 (sfx n Z k) k = some k := by
  by_cases hk : k < n
  · rw [sfx_cons hk]; show (if Z k = 101 ∨ Z k = 69 then _ else _) = _; rw [if_neg (by have := h hk; omega)]
  · rw [sfx_nil (by omega)]; rfl
theorem num3_exp (hk : k < n) (h : Z k = 101 ∨ Z k = 69) : num3 (sfx n Z k) k = num4 (sfx n Z (k + 1)) (k + 1) := by
  rw [sfx_cons hk]; show (if Z k = 101 ∨ Z k = 69 then _ else _) = _; rw [if_pos h]
theorem num4_skip (h : k < n → Z k ≠ 43 ∧ Z k ≠ 45) : num4 (sfx n Z k) k = num5 (sfx n Z k) k := by
  by_cases hk : k < n
  · rw [sfx_cons hk]; show (if Z k = 43 ∨ Z k = 45 then _ else _) = _; rw [if_neg (by have := h hk; omega)]
  · rw [sfx_nil (by omega)]; rfl
theorem num4_sign (hk : k < n) (h : Z k = 43 ∨ Z k = 45) : num4 (sfx n Z k) k = num5 (sfx n Z (k + 1)) (k + 1) := by
  rw [sfx_cons hk]; show (if Z k = 43 ∨ Z k = 45 then _ else _) = _; rw [if_pos h]
theorem num5_ok (h : 0 < dig (sfx n Z k)) : num5 (sfx n Z k) k = some (k + dig (sfx n Z k)) := by unfold num5; rw [if_pos h]
theorem num5_bad (h : dig (sfx n Z k) = 0) : num5 (sfx n Z k) k = none := by unfold num5; rw [if_neg (by omega)]
theorem dig_sfx_le (hk : k ≤ n) : k + dig (sfx n Z k) ≤ n := by have := dig_le (sfx n Z k); rw [sfx_length] at this; omega
end

set_option maxHeartbeats 4000000 in
set_option maxRecDepth 100000 in
theorem number26 (a : Option Addr) (n i : Nat) (Z : Nat → Int) (w : World) (hn : n ≤ 1048576) (hi : i < n) (hr : Reads .u8 w a n Z) :
    Calls Try.prog 26 #[.slice a n n, .int .i64 i] w fun e w' => e = plainV (numR (sfx n Z i) i) ∧ Below w.heap.size w w' := by
  obtain ⟨R, hR⟩ : ∃ R, R = numR (sfx n Z i) i := ⟨_, rfl⟩
  rw [← hR]
  have HR0 : Hid (R = numR (sfx n Z i) i) := hR
  clear hR
  have hrow : Hid (Reads .u8 w a n Z) := hr
  clear hr
  go_enter Try.func26, Try.ntmps26
  go_upto_region 1 with (fail)
  go_cut [2, 6] (fun s2 s6 wc => ∃ g, s2 = .pointer (some ⟨g, 0, none⟩) ∧ s6 = .func (.func 36) #[] #[.pointer (some ⟨g, 0, none⟩)] ∧ wc.cell? ⟨g, 0, none⟩ = some (.slice a n n) ∧ Reads .u8 wc a n Z ∧ Hid (Below w.heap.size w wc))
  case first =>
    go_wp2_with fail
    go_meet
    go_light
    have hB : Below w.heap.size w (w.alloc (Obj.cells #[Value.slice a n n] 22)) := (Below.refl _ _).alloc (Nat.le_refl _) _
    exact ⟨_, rfl, rfl, by simp, hrow.out.below hB, hB⟩
  case rest =>
    obtain ⟨g, rfl, rfl, hg, hr, hb⟩ := hcut
    clear hrow
    obtain ⟨b, o, ha, _, hcell⟩ := hr.form hi
    subst ha
    have dg := fun (j : Nat) (hj : j ≤ n) => digits36 _ n j g Z wc hn hj hr hg
    have HD : Hid (∀ j : Nat, j ≤ n → Calls Try.prog 36 #[.int .i64 j, .pointer (some ⟨g, 0, none⟩)] wc fun e w' => e = .returned (.int .i64 ((j + dig (sfx n Z j) : Nat) : Int)) ∧ w' = wc) := dg
    have HC : Hid (∀ j, j < n → wc.cell? ⟨b, o + j, none⟩ = some (.int .u8 (Z j))) := hcell
    have c1 := hcell i hi
    clear dg hcell hr
    have hiz : (i : Int) < (n : Int) := by omega
    -- the sign
    go_upto_if 14 with (fail)
    go_cut [1] (fun s1 wx => wx = wc ∧ ∃ k : Nat, k ≤ n ∧ s1 = .int .i64 k ∧ Hid (R = num1 (sfx n Z k) k))
    case first =>
      by_cases h1 : Z i = 45
      · have q1 : (Z i == 45) = true := by simp [h1]
        have HE : Hid (R = num1 (sfx n Z (i + 1)) (i + 1)) := (HR0.out.trans (numR_minus hi h1) : R = _)
        clear h1
        go_wp2_with fail
        go_meet
        go_light
        exact ⟨rfl, i + 1, by omega, by simp, HE⟩
      · have q1 : (Z i == 45) = false := by simp [h1]
        have HE : Hid (R = num1 (sfx n Z i) i) := (HR0.out.trans (numR_plus hi h1) : R = _)
        clear h1
        go_wp2_with fail
        go_meet
        go_light
        exact ⟨rfl, i, by omega, rfl, HE⟩
    case rest =>
    clear HR0 c1 hiz
    obtain ⟨hwx, k, hk, rfl, HR⟩ := hcut
    subst hwx
    -- the integer part
    go_upto_block 0 with (fail)
    go_cut [1] (fun s1 wx => wx = wc ∧ ∃ k : Nat, k ≤ n ∧ s1 = .int .i64 k ∧ Hid (R = num2 (sfx n Z k) k))
    case first =>
      by_cases h0 : k < n
      case neg =>
        obtain rfl : k = n := by omega
        have q0 : ((k : Int) == (k : Int)) = true := by simp
        have HE : Hid (R = none) := (HR.out.trans (num1_end (Nat.le_refl _)) : R = _)
        go_wp2_with fail
        go_ret2
        rw [HE.out]
        exact ⟨rfl, hb.out⟩
      have q0 : ((k : Int) == (n : Int)) = false := by simp; omega
      have hkz : (k : Int) < (n : Int) := by omega
      have c1 := HC.out k h0
      by_cases h1 : Z k = 48
      · have q1 : (Z k == 48) = true := by simp [h1]
        have HE : Hid (R = num2 (sfx n Z (k + 1)) (k + 1)) := (HR.out.trans (num1_zero h0 h1) : R = _)
        clear h1
        go_wp2_with fail
        go_meet
        go_light
        exact ⟨rfl, k + 1, by omega, by simp, HE⟩
      have q1 : (Z k == 48) = false := by simp [h1]
      by_cases h2 : 49 ≤ Z k ∧ Z k ≤ 57
      · have q2 : decide (49 ≤ Z k) = true := decide_eq_true h2.1
        have q3 : decide (Z k ≤ 57) = true := decide_eq_true h2.2
        have HE : Hid (R = num2 (sfx n Z (k + dig (sfx n Z k))) (k + dig (sfx n Z k))) := (HR.out.trans (num1_int h0 h2) : R = _)
        have hle := dig_sfx_le (Z := Z) hk
        clear h1 h2
        go_wp2_with fail
        refine (HD.out k hk).mono ?_
        rintro _ w2 ⟨rfl, hw2⟩
        subst w2
        go_wp2_with fail
        go_meet
        go_light
        exact ⟨rfl, _, hle, rfl, HE⟩
      · have HE : Hid (R = none) := (HR.out.trans (num1_bad h0 h1 h2) : R = _)
        by_cases h3 : 49 ≤ Z k
        · have q2 : decide (49 ≤ Z k) = true := decide_eq_true h3
          have q3 : decide (Z k ≤ 57) = false := decide_eq_false (by omega)
          clear h1 h2
          go_wp2_with fail
          go_ret2
          rw [HE.out]
          exact ⟨rfl, hb.out⟩
        · have q2 : decide (49 ≤ Z k) = false := decide_eq_false h3
          clear h1 h2
          go_wp2_with fail
          go_ret2
          rw [HE.out]
          exact ⟨rfl, hb.out⟩
    case rest =>
    clear HR hk
    obtain ⟨hwx, j, hj, rfl, HR⟩ := hcut
    subst hwx
    -- the fraction
    go_upto_region 11 with (fail)
    go_cut [56] (fun s0 wx => wx = wc ∧ ∃ t : Bool, s0 = .bool t ∧ Hid (t = true ↔ (j < n ∧ (Z j = 46))))
    case first =>
      by_cases h0 : j < n
      case neg =>
        have hz : ¬ (j : Int) < (n : Int) := by omega
        go_wp2_with fail
        go_meet
        go_light
        exact ⟨rfl, _, rfl, (by simp [h0] : false = true ↔ (j < n ∧ (Z j = 46)))⟩
      have hz : (j : Int) < (n : Int) := by omega
      have c1 := HC.out j h0
      by_cases h1 : Z j = 46
      · have q1 : (Z j == 46) = true := by simp [h1]
        have e : Hid (j < n ∧ (Z j = 46)) := (by simp [h0, h1] : j < n ∧ (Z j = 46))
        clear h1
        go_wp2_with fail
        go_meet
        go_light
        exact ⟨rfl, true, rfl, iff_of_true rfl e.out⟩
      · have q1 : (Z j == 46) = false := by simp [h1]
        have e : Hid (¬ (j < n ∧ (Z j = 46))) := (by simp [h1] : ¬ (j < n ∧ (Z j = 46)))
        clear h1
        go_wp2_with fail
        go_meet
        go_light
        exact ⟨rfl, false, rfl, iff_of_false (by decide) e.out⟩
    case rest =>
    obtain ⟨hwx, t, rfl, ht⟩ := hcut
    subst hwx
    go_upto_if 56 with (fail)
    go_cut [1] (fun s1 wx => wx = wc ∧ ∃ k : Nat, k ≤ n ∧ s1 = .int .i64 k ∧ Hid (R = num3 (sfx n Z k) k))
    case first =>
      cases t with
      | false =>
        have HE : Hid (R = num3 (sfx n Z j) j) := (HR.out.trans (num2_skip (fun h h2 => by have := ht.out.2 ⟨h, h2⟩; cases this)) : R = _)
        go_wp2_with fail
        go_meet
        go_light
        exact ⟨rfl, j, hj, rfl, HE⟩
      | true =>
        have h := ht.out.1 rfl
        have hj1 : j + 1 ≤ n := by omega
        have hle := dig_sfx_le (Z := Z) hj1
        have hc := HD.out (j + 1) hj1
        rw [show ((j + 1 : Nat) : Int) = (j : Int) + 1 by omega] at hc
        by_cases hd : dig (sfx n Z (j + 1)) = 0
        · have HE : Hid (R = none) := (HR.out.trans (num2_bad h.1 h.2 hd) : R = _)
          have q : ¬ (j : Int) + 1 < ((j + 1 + dig (sfx n Z (j + 1)) : Nat) : Int) := by omega
          generalize dig (sfx n Z (j + 1)) = d at hc q hle
          clear h hd
          go_wp2_with fail
          refine hc.mono ?_
          rintro _ w2 ⟨rfl, hw2⟩
          subst w2
          clear hc
          go_wp2_with fail
          go_ret2
          rw [HE.out]
          exact ⟨rfl, hb.out⟩
        · have HE : Hid (R = num3 (sfx n Z (j + 1 + dig (sfx n Z (j + 1)))) (j + 1 + dig (sfx n Z (j + 1)))) := (HR.out.trans (num2_dot h.1 h.2 (by omega)) : R = _)
          have q : (j : Int) + 1 < ((j + 1 + dig (sfx n Z (j + 1)) : Nat) : Int) := by omega
          generalize dig (sfx n Z (j + 1)) = d at hc q hle HE
          clear h hd
          go_wp2_with fail
          refine hc.mono ?_
          rintro _ w2 ⟨rfl, hw2⟩
          subst w2
          clear hc
          go_wp2_with fail
          go_meet
          go_light
          exact ⟨rfl, _, hle, rfl, HE⟩
    case rest =>
    clear HR hj ht
    obtain ⟨hwx, m, hm, rfl, HR⟩ := hcut
    subst hwx
    -- the exponent
    go_upto_region 16 with (fail)
    go_cut [83] (fun s0 wx => wx = wc ∧ ∃ t : Bool, s0 = .bool t ∧ Hid (t = true ↔ (m < n ∧ (Z m = 101 ∨ Z m = 69))))
    case first =>
      by_cases h0 : m < n
      case neg =>
        have hz : ¬ (m : Int) < (n : Int) := by omega
        go_wp2_with fail
        go_meet
        go_light
        exact ⟨rfl, _, rfl, (by simp [h0] : false = true ↔ (m < n ∧ (Z m = 101 ∨ Z m = 69)))⟩
      have hz : (m : Int) < (n : Int) := by omega
      have c1 := HC.out m h0
      by_cases h1 : Z m = 101
      · have q1 : (Z m == 101) = true := by simp [h1]
        have e : Hid (m < n ∧ (Z m = 101 ∨ Z m = 69)) := (by simp [h0, h1] : m < n ∧ (Z m = 101 ∨ Z m = 69))
        clear h1
        go_wp2_with fail
        go_meet
        go_light
        exact ⟨rfl, true, rfl, iff_of_true rfl e.out⟩
      have q1 : (Z m == 101) = false := by simp [h1]
      by_cases h2 : Z m = 69
      · have q2 : (Z m == 69) = true := by simp [h2]
        have e : Hid (m < n ∧ (Z m = 101 ∨ Z m = 69)) := (by simp [h0, h2] : m < n ∧ (Z m = 101 ∨ Z m = 69))
        clear h1 h2
        go_wp2_with fail
        go_meet
        go_light
        exact ⟨rfl, true, rfl, iff_of_true rfl e.out⟩
      · have q2 : (Z m == 69) = false := by simp [h2]
        have e : Hid (¬ (m < n ∧ (Z m = 101 ∨ Z m = 69))) := (by simp [h1, h2] : ¬ (m < n ∧ (Z m = 101 ∨ Z m = 69)))
        clear h1 h2
        go_wp2_with fail
        go_meet
        go_light
        exact ⟨rfl, false, rfl, iff_of_false (by decide) e.out⟩
    case rest =>
    obtain ⟨hwx, t, rfl, ht⟩ := hcut
    subst hwx
    cases t with
    | false =>
      have HE : Hid (R = some m) := (HR.out.trans (num3_skip (fun h => ⟨fun h2 => (by have := ht.out.2 ⟨h, .inl h2⟩; cases this), fun h2 => (by have := ht.out.2 ⟨h, .inr h2⟩; cases this)⟩)) : R = _)
      go_wp2_with fail
      go_ret2
      rw [HE.out]
      exact ⟨rfl, hb.out⟩
    | true =>
    have h := ht.out.1 rfl
    have HR4 : Hid (R = num4 (sfx n Z (m + 1)) (m + 1)) := (HR.out.trans (num3_exp h.1 h.2) : R = _)
    have hm1 : m + 1 ≤ n := by omega
    clear h ht HR hm
    go_upto_region 17 with (fail)
    go_cut [1] (fun s1 wx => wx = wc ∧ ∃ k : Nat, k ≤ n ∧ s1 = .int .i64 k ∧ Hid (R = num4 (sfx n Z k) k))
    case first =>
      go_wp2_with fail
      go_meet
      go_light
      exact ⟨rfl, m + 1, hm1, by simp, HR4⟩
    case rest =>
    clear HR4 hm1
    obtain ⟨hwx, q, hq, rfl, HR⟩ := hcut
    subst hwx
    go_upto_region 18 with (fail)
    go_cut [103] (fun s0 wx => wx = wc ∧ ∃ t : Bool, s0 = .bool t ∧ Hid (t = true ↔ (q < n ∧ (Z q = 43 ∨ Z q = 45))))
    case first =>
      by_cases h0 : q < n
      case neg =>
        have hz : ¬ (q : Int) < (n : Int) := by omega
        go_wp2_with fail
        go_meet
        go_light
        exact ⟨rfl, _, rfl, (by simp [h0] : false = true ↔ (q < n ∧ (Z q = 43 ∨ Z q = 45)))⟩
      have hz : (q : Int) < (n : Int) := by omega
      have c1 := HC.out q h0
      by_cases h1 : Z q = 43
      · have q1 : (Z q == 43) = true := by simp [h1]
        have e : Hid (q < n ∧ (Z q = 43 ∨ Z q = 45)) := (by simp [h0, h1] : q < n ∧ (Z q = 43 ∨ Z q = 45))
        clear h1
        go_wp2_with fail
        go_meet
        go_light
        exact ⟨rfl, true, rfl, iff_of_true rfl e.out⟩
      have q1 : (Z q == 43) = false := by simp [h1]
      by_cases h2 : Z q = 45
      · have q2 : (Z q == 45) = true := by simp [h2]
        have e : Hid (q < n ∧ (Z q = 43 ∨ Z q = 45)) := (by simp [h0, h2] : q < n ∧ (Z q = 43 ∨ Z q = 45))
        clear h1 h2
        go_wp2_with fail
        go_meet
        go_light
        exact ⟨rfl, true, rfl, iff_of_true rfl e.out⟩
      · have q2 : (Z q == 45) = false := by simp [h2]
        have e : Hid (¬ (q < n ∧ (Z q = 43 ∨ Z q = 45))) := (by simp [h1, h2] : ¬ (q < n ∧ (Z q = 43 ∨ Z q = 45)))
        clear h1 h2
        go_wp2_with fail
        go_meet
        go_light
        exact ⟨rfl, false, rfl, iff_of_false (by decide) e.out⟩
    case rest =>
    obtain ⟨hwx, t, rfl, ht⟩ := hcut
    subst hwx
    go_upto_if 103 with (fail)
    go_cut [1] (fun s1 wx => wx = wc ∧ ∃ k : Nat, k ≤ n ∧ s1 = .int .i64 k ∧ Hid (R = num5 (sfx n Z k) k))
    case first =>
      cases t with
      | false =>
        have HE : Hid (R = num5 (sfx n Z q) q) := (HR.out.trans (num4_skip (fun h => ⟨fun h2 => (by have := ht.out.2 ⟨h, .inl h2⟩; cases this), fun h2 => (by have := ht.out.2 ⟨h, .inr h2⟩; cases this)⟩)) : R = _)
        go_wp2_with fail
        go_meet
        go_light
        exact ⟨rfl, q, hq, rfl, HE⟩
      | true =>
        have h := ht.out.1 rfl
        have HE : Hid (R = num5 (sfx n Z (q + 1)) (q + 1)) := (HR.out.trans (num4_sign h.1 h.2) : R = _)
        have hq1 : q + 1 ≤ n := by omega
        clear h
        go_wp2_with fail
        go_meet
        go_light
        exact ⟨rfl, q + 1, hq1, by simp, HE⟩
    case rest =>
    clear HR hq ht
    obtain ⟨hwx, p, hp, rfl, HR⟩ := hcut
    subst hwx
    have hle := dig_sfx_le (Z := Z) hp
    have hc := HD.out p hp
    by_cases hd : dig (sfx n Z p) = 0
    · have HE : Hid (R = none) := (HR.out.trans (num5_bad hd) : R = _)
      have q : ¬ (p : Int) < ((p + dig (sfx n Z p) : Nat) : Int) := by omega
      generalize dig (sfx n Z p) = d at hc q hle
      clear hd
      go_wp2_with fail
      refine hc.mono ?_
      rintro _ w2 ⟨rfl, hw2⟩
      subst w2
      clear hc
      go_wp2_with fail
      go_ret2
      rw [HE.out]
      exact ⟨rfl, hb.out⟩
    · have HE : Hid (R = some (p + dig (sfx n Z p))) := (HR.out.trans (num5_ok (by omega)) : R = _)
      have q : (p : Int) < ((p + dig (sfx n Z p) : Nat) : Int) := by omega
      generalize dig (sfx n Z p) = d at hc q hle HE
      clear hd
      go_wp2_with fail
      refine hc.mono ?_
      rintro _ w2 ⟨rfl, hw2⟩
      subst w2
      clear hc
      go_wp2_with fail
      go_ret2
      rw [HE.out]
      exact ⟨rfl, hb.out⟩
end Go.Proofs.Qxb6602877a
