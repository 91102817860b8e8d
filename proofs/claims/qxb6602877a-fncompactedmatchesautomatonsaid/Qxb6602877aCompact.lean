import Derived.Test.Qxb6602877aScalar
namespace Go.Proofs.Qxb6602877a
open Go.RowKit Go.Deep

theorem plain_none {a : Option Addr} {n i : Nat} {Z : Nat → Int} {w : World} (hn : n ≤ 1048576) (hi : i ≤ n) (hZ : ∀ i, 0 ≤ Z i ∧ Z i ≤ 255) (hr : Reads .u8 w a n Z)
    (hp : (if i < n ∧ Z i = 34 then plainL (sfx n Z (i + 1)) (i + 1) else none) = none) :
    Calls Try.prog 33 #[.slice a n n, .int .i64 i] w fun e w' => e = .returned (.tuple #[.int .i64 0, .bool false]) ∧ w' = w := by
  have hc := plainString a n n i Z w hn hi hZ hr
  rw [hp] at hc
  exact hc
theorem plain_some {a : Option Addr} {n i e0 : Nat} {Z : Nat → Int} {w : World} (hn : n ≤ 1048576) (hi : i ≤ n) (hZ : ∀ i, 0 ≤ Z i ∧ Z i ≤ 255) (hr : Reads .u8 w a n Z)
    (hp : (if i < n ∧ Z i = 34 then plainL (sfx n Z (i + 1)) (i + 1) else none) = some e0) :
    Calls Try.prog 33 #[.slice a n n, .int .i64 i] w fun e w' => e = .returned (.tuple #[.int .i64 (e0 : Int), .bool true]) ∧ w' = w := by
  have hc := plainString a n n i Z w hn hi hZ hr
  rw [hp] at hc
  exact hc
theorem scalar_none {a : Option Addr} {n i : Nat} {Z : Nat → Int} {w : World} (hn : n ≤ 1048576) (hi : i ≤ n) (hZ : ∀ i, 0 ≤ Z i ∧ Z i ≤ 255) (hr : Reads .u8 w a n Z) (hp : scalL (sfx n Z i) i = none) :
    Calls Try.prog 34 #[.slice a n n, .int .i64 i] w fun e w' => e = .returned (.tuple #[.int .i64 0, .bool false]) ∧ Below w.heap.size w w' := by
  have hc := scalar34 a n i Z w hn hi hZ hr
  rw [hp] at hc
  exact hc
theorem scalar_some {a : Option Addr} {n i e0 : Nat} {Z : Nat → Int} {w : World} (hn : n ≤ 1048576) (hi : i ≤ n) (hZ : ∀ i, 0 ≤ Z i ∧ Z i ≤ 255) (hr : Reads .u8 w a n Z) (hp : scalL (sfx n Z i) i = some e0) :
    Calls Try.prog 34 #[.slice a n n, .int .i64 i] w fun e w' => e = .returned (.tuple #[.int .i64 (e0 : Int), .bool true]) ∧ Below w.heap.size w w' := by
  have hc := scalar34 a n i Z w hn hi hZ hr
  rw [hp] at hc
  exact hc

set_option maxHeartbeats 4000000 in
set_option maxRecDepth 100000 in
theorem compact22 (a : Option Addr) (n : Nat) (Z : Nat → Int) (w : World) (hn : n ≤ 1048576) (hZ : ∀ i, 0 ≤ Z i ∧ Z i ≤ 255) (hr : Reads .u8 w a n Z) :
    Calls Try.prog 22 #[.slice a n n] w fun e w' => e = .returned (.bool (auto 0 (sfx n Z 0))) ∧ Below w.heap.size w w' := by
  by_cases h0 : n < 2
  · have q0 : (n : Int) < 2 := by omega
    rw [start_short h0]
    clear hr
    go_enter Try.func22, Try.ntmps22
    go_wp2_with fail
    go_ret
    exact ⟨rfl, Below.refl _ _⟩
  have q0 : ¬ (n : Int) < 2 := by omega
  have hr0 : Hid (Reads .u8 w a n Z) := hr
  have HZ : Hid (∀ i, 0 ≤ Z i ∧ Z i ≤ 255) := hZ
  obtain ⟨b, o, rfl, hbw, hcell⟩ := hr.form (i := 0) (by omega)
  have c0 := hcell 0 (by omega)
  have c1 := hcell 1 (by omega)
  rw [Nat.add_zero] at c0
  have z0 : (0 : Int) < (n : Int) := by omega
  have z1 : (1 : Int) < (n : Int) := by omega
  clear hr hcell hZ
  by_cases h1 : Z 0 = 123
  case neg =>
    have q1 : (Z 0 != 123) = true := by simp [h1]
    rw [start_bad (by omega) h1]
    clear h1
    go_enter Try.func22, Try.ntmps22
    go_wp2_with fail
    go_ret
    exact ⟨rfl, Below.refl _ _⟩
  have q1 : (Z 0 != 123) = false := by simp [h1]
  by_cases h2 : Z 1 = 125
  · have q2 : (Z 1 == 125) = true := by simp [h2]
    rw [start_empty (by omega) h1 h2]
    clear h1 h2
    by_cases h3 : n = 2
    · have q3 : ((n : Int) == 2) = true := by simp; omega
      rw [decide_eq_true h3]
      clear h3
      go_enter Try.func22, Try.ntmps22
      go_wp2_with fail
      go_ret
      exact ⟨rfl, Below.refl _ _⟩
    · have q3 : ((n : Int) == 2) = false := by simp; omega
      rw [decide_eq_false h3]
      clear h3
      go_enter Try.func22, Try.ntmps22
      go_wp2_with fail
      go_ret
      exact ⟨rfl, Below.refl _ _⟩
  have q2 : (Z 1 == 125) = false := by simp [h2]
  rw [start_some (by omega) h1 h2]
  obtain ⟨R, hR⟩ : ∃ R, R = auto 13 (sfx n Z 1) := ⟨_, rfl⟩
  rw [← hR]
  have HR0 : Hid (R = auto 13 (sfx n Z 1)) := hR
  clear hR h1 h2
  go_enter Try.func22, Try.ntmps22
  go_wp2_with fail
  clear c0 c1 q1 q2 z0 z1
  go_loopg [3] (n - 1) (fun g e wr => ∃ i : Nat, i ≤ n ∧ g = n - i ∧ e = .int .i64 i ∧ Hid (Below w.heap.size w wr) ∧ Hid (R = auto 13 (sfx n Z i)))
  case atStart => exact ⟨1, by omega, rfl, rfl, Below.refl _ _, HR0⟩
  case round =>
    clear HR0
    obtain ⟨i, hi, rfl, rfl, hb, HR⟩ := hrel
    have hrr : Hid (Reads .u8 wr (some ⟨b, o, none⟩) n Z) := hr0.out.below hb.out
    cases hP : (if i < n ∧ Z i = 34 then plainL (sfx n Z (i + 1)) (i + 1) else none) with
    | none =>
      have HE : Hid (R = false) := (HR.out.trans (key_none hP) : R = _)
      have kp := plain_none hn hi HZ.out hrr.out hP
      clear hP HR
      go_wp2_with fail
      refine kp.mono ?_
      rintro _ w2 ⟨rfl, hw2⟩
      subst w2
      clear kp
      go_wp2_with fail
      go_ret
      rw [HE.out]
      exact ⟨rfl, hb.out⟩
    | some e =>
      have kp := plain_some hn hi HZ.out hrr.out hP
      obtain ⟨hie, hen, hA⟩ := key_some hP
      have HR4 : Hid (R = auto 4 (sfx n Z e)) := (HR.out.trans hA : R = _)
      clear hP HR hA
      by_cases h3 : e < n
      case neg =>
        have q3 : ((e : Int) == (n : Int)) = true := by simp; omega
        have HE : Hid (R = false) := (HR4.out.trans (colon_bad (fun h => absurd h h3)) : R = _)
        go_wp2_with fail
        refine kp.mono ?_
        rintro _ w2 ⟨rfl, hw2⟩
        subst w2
        clear kp
        go_wp2_with fail
        go_ret
        rw [HE.out]
        exact ⟨rfl, hb.out⟩
      have q3 : ((e : Int) == (n : Int)) = false := by simp; omega
      have hez : (e : Int) < (n : Int) := by omega
      have ce := (hrr.out.at h3).2.2
      by_cases h4 : Z e = 58
      case neg =>
        have q4 : (Z e != 58) = true := by simp [h4]
        have HE : Hid (R = false) := (HR4.out.trans (colon_bad (fun _ => h4)) : R = _)
        clear h4
        go_wp2_with fail
        refine kp.mono ?_
        rintro _ w2 ⟨rfl, hw2⟩
        subst w2
        clear kp
        go_wp2_with fail
        go_ret
        rw [HE.out]
        exact ⟨rfl, hb.out⟩
      have q4 : (Z e != 58) = false := by simp [h4]
      have HR5 : Hid (R = auto 5 (sfx n Z (e + 1))) := (HR4.out.trans (colon_ok h3 h4) : R = _)
      clear h4 HR4
      have he1 : e + 1 ≤ n := by omega
      cases hS : scalL (sfx n Z (e + 1)) (e + 1) with
      | none =>
        have HE : Hid (R = false) := (HR5.out.trans (scal_none hS) : R = _)
        have ks := scalar_none hn he1 HZ.out hrr.out hS
        rw [show ((e + 1 : Nat) : Int) = (e : Int) + 1 by omega] at ks
        clear hS HR5
        go_wp2_with fail
        refine kp.mono ?_
        rintro _ w2 ⟨rfl, hw2⟩
        subst w2
        clear kp
        go_wp2_with fail
        refine ks.mono ?_
        rintro _ w2 ⟨rfl, hw2⟩
        have hb2 : Hid (Below w.heap.size w w2) := hb.out.trans (hw2.mono hb.out.size)
        clear ks hw2 ce
        go_wp2_with fail
        go_ret
        rw [HE.out]
        exact ⟨rfl, hb2.out⟩
      | some f =>
        have ks := scalar_some hn he1 HZ.out hrr.out hS
        rw [show ((e + 1 : Nat) : Int) = (e : Int) + 1 by omega] at ks
        obtain ⟨hef, hfn, hA⟩ := scal_some he1 hS
        have HR12 : Hid (R = auto 12 (sfx n Z f)) := (HR5.out.trans hA : R = _)
        clear hS HR5 hA
        go_wp2_with fail
        refine kp.mono ?_
        rintro _ w2 ⟨rfl, hw2⟩
        subst w2
        clear kp
        go_wp2_with fail
        refine ks.mono ?_
        rintro _ w2 ⟨rfl, hw2⟩
        have hb2 : Hid (Below w.heap.size w w2) := hb.out.trans (hw2.mono hb.out.size)
        have hrr2 : Hid (Reads .u8 w2 (some ⟨b, o, none⟩) n Z) := hr0.out.below hb2.out
        clear ks hw2 ce hrr hb q3 q4
        by_cases h5 : f < n
        case neg =>
          have q5 : ((f : Int) == (n : Int)) = true := by simp; omega
          have HE : Hid (R = false) := (HR12.out.trans (after_end (by omega)) : R = _)
          go_wp2_with fail
          go_ret
          rw [HE.out]
          exact ⟨rfl, hb2.out⟩
        have q5 : ((f : Int) == (n : Int)) = false := by simp; omega
        have hfz : (f : Int) < (n : Int) := by omega
        have cf := (hrr2.out.at h5).2.2
        by_cases h6 : Z f = 125
        · have q6 : (Z f == 125) = true := by simp [h6]
          have HE : Hid (R = decide (f + 1 = n)) := (HR12.out.trans (after_close h5 h6) : R = _)
          clear h6
          by_cases h7 : f + 1 = n
          · have q7 : ((f : Int) + 1 == (n : Int)) = true := by simp; omega
            rw [decide_eq_true h7] at HE
            go_wp2_with fail
            go_ret
            rw [HE.out]
            exact ⟨rfl, hb2.out⟩
          · have q7 : ((f : Int) + 1 == (n : Int)) = false := by simp; omega
            rw [decide_eq_false h7] at HE
            go_wp2_with fail
            go_ret
            rw [HE.out]
            exact ⟨rfl, hb2.out⟩
        have q6 : (Z f == 125) = false := by simp [h6]
        by_cases h7 : Z f = 44
        · have q7 : (Z f == 44) = true := by simp [h7]
          have HE : Hid (R = auto 13 (sfx n Z (f + 1))) := (HR12.out.trans (after_comma h5 h7) : R = _)
          clear h6 h7
          go_wp2_with fail
          go_roundg (n - (f + 1))
          case measure => go_light; omega
          case rel => go_light; exact ⟨f + 1, by omega, rfl, by simp, hb2, HE⟩
        · have q7 : (Z f == 44) = false := by simp [h7]
          have HE : Hid (R = false) := (HR12.out.trans (after_bad h5 h7 h6) : R = _)
          clear h6 h7
          go_wp2_with fail
          go_ret
          rw [HE.out]
          exact ⟨rfl, hb2.out⟩
end Go.Proofs.Qxb6602877a
