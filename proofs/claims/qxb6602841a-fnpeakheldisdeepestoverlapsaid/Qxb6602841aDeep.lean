import Derived.Test.Qxb6602841aRows
import Derived.Test.Qxb6602841aPeak
namespace Go.Proofs.Qxb6602841a
open Go.RowKit Go.Deep Go.Sort

set_option maxHeartbeats 1000000 in
theorem deepest (a : Option Addr) (n cap : Nat) (A B : Nat → Int) (w : World) (hn : n ≤ 4096) (hc : Pairs w a n A B) :
    Calls Try.prog 13 #[.slice a n cap] w fun e w' => e = .returned (.int .i64 (top (fun j => cnt A B (A j) n) n : Nat)) ∧ w' = w := by
  go_enter Try.func13, Try.ntmps13
  go_wp2
  go_loopg [3, 4] n (fun g bs i wr => wr = w ∧ ∃ j t : Nat, j ≤ n ∧ g = n - j ∧ i = .int .i64 j ∧ bs = .int .i64 (t : Int) ∧ t ≤ 4096 ∧ Hid (t = top (fun j => cnt A B (A j) n) j))
  case atStart => exact ⟨rfl, 0, 0, Nat.zero_le _, rfl, rfl, rfl, by omega, rfl⟩
  case round =>
    obtain ⟨rfl, j, t, hj, rfl, rfl, rfl, ht4, ht⟩ := hrel
    by_cases hjn : j < n
    · have hjz : (j : Int) < (n : Int) := by omega
      obtain ⟨b, o, rfl, _, c1, _⟩ := hc j hjn
      obtain ⟨x, hx⟩ : ∃ x, x = A j := ⟨_, rfl⟩
      rw [← hx] at c1
      have HX : Hid (x = A j) := hx
      clear hx
      go_wp2
      clear c1
      go_loopg [6, 7] n (fun g nn i wx => wx = wr ∧ ∃ k c : Nat, k ≤ n ∧ g = n - k ∧ i = .int .i64 k ∧ nn = .int .i64 (c : Int) ∧ c ≤ k ∧ Hid (c = cnt A B x k))
      case atStart => exact ⟨rfl, 0, 0, Nat.zero_le _, rfl, rfl, rfl, Nat.le_refl _, rfl⟩
      case round =>
        obtain ⟨rfl, k, c, hk, rfl, rfl, rfl, hck, hcn⟩ := hrel
        by_cases hkn : k < n
        · have hkz : (k : Int) < (n : Int) := by omega
          obtain ⟨b', o', e', _, c1, c2⟩ := hc k hkn
          simp at e'
          obtain ⟨rfl, rfl⟩ := e'
          by_cases h1 : A k ≤ x
          · have q1 : decide (A k ≤ x) = true := decide_eq_true h1
            by_cases h2 : x < B k
            · have q2 : decide (x < B k) = true := decide_eq_true h2
              go_wp2
              go_roundg (n - (k + 1))
              case measure => go_light; omega
              case rel =>
                go_light
                exact ⟨rfl, k + 1, c + 1, by omega, rfl, by simp, by simp, by omega, by show c + 1 = cnt A B x k + _; rw [if_pos ⟨h1, h2⟩, hcn.out]⟩
            · have q2 : decide (x < B k) = false := decide_eq_false h2
              go_wp2
              go_roundg (n - (k + 1))
              case measure => go_light; omega
              case rel =>
                go_light
                exact ⟨rfl, k + 1, c, by omega, rfl, by simp, by simp, by omega, by show c = cnt A B x k + _; rw [if_neg (by omega), hcn.out]; rfl⟩
          · have q1 : decide (A k ≤ x) = false := decide_eq_false h1
            go_wp2
            go_roundg (n - (k + 1))
            case measure => go_light; omega
            case rel =>
              go_light
              exact ⟨rfl, k + 1, c, by omega, rfl, by simp, by simp, by omega, by show c = cnt A B x k + _; rw [if_neg (by omega), hcn.out]; rfl⟩
        · obtain rfl : k = n := by omega
          have HT : Hid (max t c = top (fun j => cnt A B (A j) k) (j + 1)) := by
            show max t c = max (top (fun j => cnt A B (A j) k) j) (cnt A B (A j) k)
            rw [ht.out, hcn.out, HX.out]
          by_cases hgt : t < c
          · have q1 : (t : Int) < (c : Int) := by omega
            go_wp2
            go_roundg (k - (j + 1))
            case measure => go_light; omega
            case rel =>
              go_light
              exact ⟨rfl, j + 1, c, by omega, rfl, by simp, rfl, by omega, by rw [← HT.out]; show c = _; omega⟩
          · have q1 : ¬ (t : Int) < (c : Int) := by omega
            go_wp2
            go_roundg (k - (j + 1))
            case measure => go_light; omega
            case rel =>
              go_light
              exact ⟨rfl, j + 1, t, by omega, rfl, by simp, rfl, by omega, by rw [← HT.out]; show t = _; omega⟩
    · go_wp2
      go_ret
      obtain rfl : j = n := by omega
      have hte := ht.out
      clear ht
      exact ⟨by rw [← hte]; rfl, rfl⟩

set_option maxHeartbeats 1000000 in
theorem zzPeakHeld (a : Option Addr) (n cap : Nat) (A B : Nat → Int) (w : World) (hn : n ≤ 4096) (hAB : ∀ i, i < n → A i < B i) (hc : Pairs w a n A B) :
    Calls Try.prog 12 #[.slice a n cap] w fun e w' => e = .returned (.int .i64 (top (fun j => cnt A B (A j) n) n : Nat)) ∧ Below w.heap.size w w' := by
  have hmk := make_46 n hn
  go_enter Try.func12, Try.ntmps12
  go_wp2_with fail
  clear hmk
  go_loopg [10] n (fun g i wr => ∃ k : Nat, k ≤ n ∧ g = n - k ∧ i = .int .i64 k ∧ Below w.heap.size w wr ∧ wr.rowIs w.heap.size 48 (2 * n) (fun i => if i < 2 * k then pairF A B i else .int .i64 0))
  case atStart => exact ⟨0, Nat.zero_le _, rfl, rfl, (Below.refl _ _).alloc (Nat.le_refl _) _, (made_pairs n 48 w).congr (fun i _ => by simp)⟩
  case round =>
    obtain ⟨k, hk, rfl, rfl, hbel, hrow⟩ := hrel
    by_cases hlt : k < n
    · have hltz : (k : Int) < (n : Int) := by omega
      obtain ⟨b, o, rfl, _, c1, c2⟩ := (hc.below hbel) k hlt
      have c3 : wr.cell? ⟨w.heap.size, k * 2, none⟩ = some (.int .i64 0) := by rw [hrow.cell (i := k * 2) (by omega), if_neg (by omega)]
      have c4 : wr.cell? ⟨w.heap.size, k * 2 + 1, none⟩ = some (.int .i64 0) := by rw [hrow.cell (i := k * 2 + 1) (by omega), if_neg (by omega)]
      have f3 := hrow.frozen (k * 2)
      have f4 := hrow.frozen (k * 2 + 1)
      go_wp2_with fail
      go_region
      all_goals
        go_wp2_with fail
        go_roundg (n - (k + 1))
        case measure => go_light; omega
        case rel =>
          go_light
          exact ⟨k + 1, by omega, rfl, by simp, ((hbel.setCell (Nat.le_refl _) _).setCell (Nat.le_refl _) _).drew, ((hrow.set (k * 2) _).set (k * 2 + 1) _).congr (fun i _ => pair_step A B i k)⟩
    · obtain rfl : k = n := by omega
      have hr := hrow.congr (g := pairF A B) (fun i hi => by rw [if_pos hi])
      clear hrow
      go_wp2_with fail
      refine (peakHeld w.heap.size k A B wr hn hAB hr).mono ?_
      rintro e w2 ⟨rfl, hb2⟩
      go_wp2_with fail
      go_ret
      exact ⟨rfl, hbel.trans (hb2.mono hbel.size)⟩

theorem law (a : Option Addr) (l c : Nat) (A B : Nat → Int) (w : World) (hl : l ≤ maxLen) (hn : a = none → c = 0) (hc : Pairs w a l A B) :
    Calls Try.prog 3 #[.slice a l c] w fun e w' => e = .returned (.bool true) ∧ Below w.heap.size w w' := by
  go_enter Try.func3, Try.ntmps3
  go_wp2_with fail
  refine (zzBytes a l c w hl).mono ?_
  rintro e w1 ⟨v, rfl, hw, hv⟩
  subst hw
  cases v with
  | false =>
    go_wp2_with fail
    go_ret
    exact ⟨rfl, Below.refl _ _⟩
  | true =>
    have hl2 := hv rfl
    clear hv
    by_cases h4 : 4096 < l
    · go_wp2_with fail
      go_ret
      exact ⟨rfl, Below.refl _ _⟩
    go_wp2_with fail
    refine (spansValid a l c A B w1 (by omega) hc).mono ?_
    rintro e w2 ⟨v, rfl, ⟨q, hq⟩, hv⟩
    subst hq
    cases v with
    | false =>
      go_wp2_with fail
      go_ret
      exact ⟨rfl, below_drewN (Below.refl _ _) _⟩
    | true =>
      have hAB := hv rfl
      clear hv
      have E0 : Below w1.heap.size w1 (w1.drewN q) := below_drewN (Below.refl _ _) _
      generalize w1.drewN q = X0 at *
      go_wp2_with fail
      refine (copy_any a l c A B X0 (by omega) (hc.below E0) hn).mono ?_
      rintro e X1 ⟨r, rfl, hp, e1⟩
      have E1 : Below w1.heap.size w1 X1 := E0.trans (e1.mono E0.size)
      go_wp2_with fail
      refine (zzPeakHeld r l l A B X1 (by omega) hAB hp).mono ?_
      rintro e X2 ⟨rfl, e2⟩
      have E2 : Below w1.heap.size w1 X2 := E1.trans (e2.mono E1.size)
      go_wp2_with fail
      refine (deepest r l l A B X2 (by omega) (hp.below e2)).mono ?_
      rintro e X3 ⟨rfl, rfl⟩
      go_wp2_with fail
      go_ret
      exact ⟨by simp, E2⟩

end Go.Proofs.Qxb6602841a
