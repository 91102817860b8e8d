import Derived.Test.Qxb6602841aRows
import Derived.Test.Qxb6602841aKit
import Derived.Test.Qxb6602841aPlain
namespace Go.Proofs.Qxb6602841a
open Go.RowKit Go.Deep

theorem info28 : (Try.prog.info? 28).map (fun i => (i.zero, i.size, i.bytes)) = some (some (.agg #[.int .i64 0, .int .i64 0]), 2, 16) := by kernel_rfl
theorem info48 : (Try.prog.info? 48).map (fun i => (i.zero, i.size, i.bytes)) = some (some (.agg #[.int .i64 0, .int .i64 0]), 2, 16) := by kernel_rfl
theorem info2 : (Try.prog.info? 2).map (fun i => (i.zero, i.size, i.bytes)) = some (some (.int .i64 0), 1, 8) := by kernel_rfl

theorem make_22 (n : Nat) (hn : n ≤ 4096) (w : World) :
    (Instr.makeSlice 22 (.int .i64 (n : Int)) (.int .i64 (n : Int))).run Try.prog w = .ok (.slice (some ⟨w.heap.size, 0, none⟩) n n) (w.alloc (.cells (madeCells #[.int .i64 0, .int .i64 0] (n * 2)) 28)) := by
  obtain ⟨i, hi, hz, hs, hb⟩ := info_parts info28
  have h := run_make (P := Try.prog) w 22 28 i _ Try.underlying22 hi hz .i64 .i64 n n (by omega) (Int.le_refl _) (by rw [hb]; omega) (by omega)
  simp only [Int.toNat_natCast, hs] at h
  exact h
theorem make_46 (n : Nat) (hn : n ≤ 4096) (w : World) :
    (Instr.makeSlice 46 (.int .i64 (n : Int)) (.int .i64 (n : Int))).run Try.prog w = .ok (.slice (some ⟨w.heap.size, 0, none⟩) n n) (w.alloc (.cells (madeCells #[.int .i64 0, .int .i64 0] (n * 2)) 48)) := by
  obtain ⟨i, hi, hz, hs, hb⟩ := info_parts info48
  have h := run_make (P := Try.prog) w 46 48 i _ Try.underlying46 hi hz .i64 .i64 n n (by omega) (Int.le_refl _) (by rw [hb]; omega) (by omega)
  simp only [Int.toNat_natCast, hs] at h
  exact h

theorem zzBytes (a : Option Addr) (l c : Nat) (w : World) (h : l ≤ maxLen) :
    Calls Try.prog 9 #[.slice a l c] w fun e w' => ∃ v, e = .returned (.bool v) ∧ w' = w ∧ (v = true → l ≤ 1048576) := by
  unfold maxLen at *
  go_enter Try.func9, Try.ntmps9
  go_wp2
  all_goals go_ret
  all_goals first
    | exact ⟨false, rfl, rfl, fun h => by cases h⟩
    | exact ⟨true, rfl, rfl, fun _ => by omega⟩

set_option maxHeartbeats 400000 in
theorem spansValid (a : Option Addr) (len cap : Nat) (A B : Nat → Int) (w : World) (hlen : len ≤ 4096) (hc : Pairs w a len A B) :
    Calls Try.prog 10 #[.slice a len cap] w fun e w' => ∃ v, e = .returned (.bool v) ∧ (∃ q, w' = w.drewN q) ∧ (v = true → ∀ i, i < len → A i < B i) := by
  go_enter Try.func10, Try.ntmps10
  go_wp2
  go_loopg [3] len (fun g i wr => ∃ k : Nat, k ≤ len ∧ g = len - k ∧ i = .int .i64 k ∧ (∃ q, wr = w.drewN q) ∧ Hid (∀ i, i < k → A i < B i))
  case atStart => exact ⟨0, Nat.zero_le _, rfl, rfl, ⟨0, rfl⟩, fun i hi => by omega⟩
  case round =>
    obtain ⟨k, hk, rfl, rfl, ⟨q, rfl⟩, HL⟩ := hrel
    by_cases hlt : k < len
    · have hltz : (k : Int) < (len : Int) := by omega
      obtain ⟨b, o, rfl, _, c1, c2⟩ := hc k hlt
      clear hc
      by_cases hz : A k < B k
      · have hz1 : decide (B k ≤ A k) = false := decide_eq_false (by omega)
        go_wp2
        go_quiet (fail)
        go_wp2
        go_roundg (len - (k + 1))
        case measure => go_light; omega
        case rel =>
          go_light
          exact ⟨k + 1, by omega, rfl, by simp, ⟨_, rfl⟩, fun i hi => by
            by_cases e : i = k
            · subst e; exact hz
            · exact HL.out i (by omega)⟩
      · have hz1 : decide (B k ≤ A k) = true := decide_eq_true (by omega)
        go_wp2
        go_quiet (fail)
        go_wp2
        go_ret
        exact ⟨false, rfl, ⟨_, World.drewN_drewN _ _ _⟩, fun h => by cases h⟩
    · go_wp2
      go_ret
      exact ⟨true, rfl, ⟨_, rfl⟩, fun _ i hi => HL.out i (by omega)⟩

set_option maxHeartbeats 400000 in
theorem copy_some (x : Addr) (len cap : Nat) (A B : Nat → Int) (w : World) (hlen : len ≤ 4096) (hc : Pairs w (some x) len A B) :
    Calls Try.prog 11 #[.slice (some x) len cap] w fun e w' => e = .returned (.slice (some ⟨w.heap.size, 0, none⟩) len len) ∧
      Below w.heap.size w w' ∧ w'.heap.size = w.heap.size + 1 ∧ w'.rowIs w.heap.size 28 (2 * len) (pairF A B) := by
  have hmk := make_22 len hlen
  have hne := fun w a n c => Lib.run_eql_slice_nil (P := Try.prog) w 22 28 a n c 0 0 Try.underlying22
  go_enter Try.func11, Try.ntmps11
  go_wp2
  clear hmk
  go_loopg [4] len (fun g i wr => ∃ k : Nat, k ≤ len ∧ g = len - k ∧ i = .int .i64 k ∧ Below w.heap.size w wr ∧ wr.heap.size = w.heap.size + 1 ∧
    wr.rowIs w.heap.size 28 (2 * len) (fun i => if i < 2 * k then pairF A B i else .int .i64 0))
  case atStart => exact ⟨0, Nat.zero_le _, rfl, rfl, (Below.refl _ _).alloc (Nat.le_refl _) _, by simp, (made_pairs len 28 w).congr (fun i _ => by simp)⟩
  case round =>
    obtain ⟨k, hk, rfl, rfl, hbel, hsz, hrow⟩ := hrel
    by_cases hlt : k < len
    · have hltz : (k : Int) < (len : Int) := by omega
      obtain ⟨b, o, hx, hb, e1, e2⟩ := (hc.below hbel) k hlt
      have hx' : x = ⟨b, o, none⟩ := by simpa using hx
      subst hx'
      clear hx
      have c1 : wr.cell? ⟨w.heap.size, k * 2, none⟩ = some (.int .i64 0) := by rw [hrow.cell (i := k * 2) (by omega), if_neg (by omega)]
      have c2 : wr.cell? ⟨w.heap.size, k * 2 + 1, none⟩ = some (.int .i64 0) := by rw [hrow.cell (i := k * 2 + 1) (by omega), if_neg (by omega)]
      have c3 := hrow.frozen (k * 2)
      have c4 := hrow.frozen (k * 2 + 1)
      go_wp2
      go_roundg (len - (k + 1))
      case measure => go_light; omega
      case rel =>
        go_light
        exact ⟨k + 1, by omega, rfl, by simp, (hbel.setCell (Nat.le_refl _) _).setCell (Nat.le_refl _) _, by simpa [World.setCell] using hsz, ((hrow.set (k * 2) _).set (k * 2 + 1) _).congr (fun i _ => pair_step A B i k)⟩
    · go_wp2
      go_ret
      exact ⟨rfl, hbel, hsz, hrow.congr (fun i hi => by rw [if_pos (by omega)])⟩

theorem copy_none (w : World) :
    Calls Try.prog 11 #[.slice none 0 0] w fun e w' => e = .returned (.slice none 0 0) ∧ w' = w := by
  have hne := fun w a n c => Lib.run_eql_slice_nil (P := Try.prog) w 22 28 a n c 0 0 Try.underlying22
  go_enter Try.func11, Try.ntmps11
  go_wp2
  go_ret
  exact ⟨rfl, rfl⟩

theorem copy_any (a : Option Addr) (len cap : Nat) (A B : Nat → Int) (w : World) (hlen : len ≤ 4096) (hc : Pairs w a len A B) (hn : a = none → cap = 0) :
    Calls Try.prog 11 #[.slice a len cap] w fun e w' => ∃ r, e = .returned (.slice r len len) ∧ Pairs w' r len A B ∧ Below w.heap.size w w' := by
  cases a with
  | none =>
    obtain rfl := hn rfl
    obtain rfl := hc.none_len
    exact (copy_none w).mono fun e w' ⟨he, hw⟩ => ⟨none, he, fun i hi => by omega, by rw [hw]; exact Below.refl _ _⟩
  | some x => exact (copy_some x len cap A B w hlen hc).mono fun e w' ⟨he, hb, _, hr⟩ => ⟨_, he, pairs_of_row hr, hb⟩

end Go.Proofs.Qxb6602841a
