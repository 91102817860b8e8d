import Derived.Test.Qxb6603146aRows
import Derived.Test.Qxb6603146aKit
namespace Go.Proofs.Qxb6603146a
open Go.RowKit Go.Deep

theorem info5 : (Try.prog.info? 5).map (fun i => (i.zero, i.size, i.bytes)) = some (some (.int .u8 0), 1, 1) := by kernel_rfl

set_option maxHeartbeats 400000 in
theorem cloneBytes_some (x : Addr) (len cap : Nat) (Z : Nat → Int) (w : World) (hlen : len ≤ 1048576) (hc : Reads .u8 w (some x) len Z) :
    Calls Try.prog 9 #[.slice (some x) len cap] w fun e w' => e = .returned (.slice (some ⟨w.heap.size, 0, none⟩) len len) ∧
      Below w.heap.size w w' ∧ w'.heap.size = w.heap.size + 1 ∧ w'.rowIs w.heap.size 5 len (fun i => .int .u8 (Z i)) := by
  have hmk := run_make_row' (P := Try.prog) 22 5 (.int .u8 0) 1 Try.underlying22 info5 rfl .i64 .i64 len (by omega) (by omega)
  have hne := fun w a n c => Lib.run_eql_slice_nil (P := Try.prog) w 22 5 a n c 0 0 Try.underlying22
  go_enter Try.func9, Try.ntmps9
  go_wp2
  clear hmk
  go_loopg [4] len (fun g i wr => ∃ k : Nat, k ≤ len ∧ g = len - k ∧ i = .int .i64 k ∧ Below w.heap.size w wr ∧ wr.heap.size = w.heap.size + 1 ∧
    wr.rowIs w.heap.size 5 len (fun i => if i < k then .int .u8 (Z i) else .int .u8 0))
  case atStart => exact ⟨0, Nat.zero_le _, rfl, rfl, (Below.refl _ _).alloc (Nat.le_refl _) _, by simp, (World.rowIs_made w (.int .u8 0) len 5).congr (fun i _ => by simp)⟩
  case round =>
    obtain ⟨k, hk, rfl, rfl, hbel, hsz, hrow⟩ := hrel
    by_cases hlt : k < len
    · have hltz : (k : Int) < (len : Int) := by omega
      obtain ⟨b, o, hx, hb, hcell⟩ := hc k hlt
      have hx' : x = ⟨b, o, none⟩ := by simpa using hx
      subst hx'
      clear hx
      have c1 : wr.cell? ⟨b, o + k, none⟩ = some (.int .u8 (Z k)) := by rw [hbel.cell (p := ⟨b, o + k, none⟩) hb]; exact hcell
      have c2 : wr.cell? ⟨w.heap.size, k, none⟩ = some (.int .u8 0) := by simpa using hrow.cell hlt
      have c3 := hrow.frozen k
      go_wp2
      go_roundg (len - (k + 1))
      case measure => go_light; omega
      case rel =>
        go_light
        exact ⟨k + 1, by omega, rfl, by simp, hbel.setCell (Nat.le_refl _) _, by simpa [World.setCell] using hsz, (hrow.set k _).congr (fun i _ => clone_step i k)⟩
    · go_wp2
      go_ret
      exact ⟨rfl, hbel, hsz, hrow.congr (fun i hi => by rw [if_pos (by omega)])⟩

theorem cloneBytes_none (w : World) :
    Calls Try.prog 9 #[.slice none 0 0] w fun e w' => e = .returned (.slice none 0 0) ∧ w' = w := by
  have hne := fun w a n c => Lib.run_eql_slice_nil (P := Try.prog) w 22 5 a n c 0 0 Try.underlying22
  go_enter Try.func9, Try.ntmps9
  go_wp2
  go_ret
  exact ⟨rfl, rfl⟩

theorem cloneBytes_any (a : Option Addr) (len cap : Nat) (Z : Nat → Int) (w : World) (hlen : len ≤ 1048576) (hc : Reads .u8 w a len Z) (hn : a = none → cap = 0) :
    Calls Try.prog 9 #[.slice a len cap] w fun e w' => ∃ r, e = .returned (.slice r len len) ∧ Own .u8 5 w' w.heap.size r len Z ∧ Below w.heap.size w w' := by
  cases a with
  | none =>
    obtain rfl := hn rfl
    obtain rfl := hc.none_len
    exact (cloneBytes_none w).mono fun e w' ⟨he, hw⟩ => ⟨none, he, .inl ⟨rfl, rfl⟩, by rw [hw]; exact Below.refl _ _⟩
  | some x => exact (cloneBytes_some x len cap Z w hlen hc).mono fun e w' ⟨he, hb, _, hr⟩ => ⟨_, he, .inr ⟨_, rfl, Nat.le_refl _, hr⟩, hb⟩

theorem info3 : (Try.prog.info? 3).map (fun i => (i.zero, i.size, i.bytes)) = some (some (.int .i64 0), 1, 8) := by kernel_rfl

set_option maxHeartbeats 400000 in
theorem cloneInts_some (x : Addr) (len cap : Nat) (Z : Nat → Int) (w : World) (hlen : len ≤ 1048576) (hc : Reads .i64 w (some x) len Z) :
    Calls Try.prog 20 #[.slice (some x) len cap] w fun e w' => e = .returned (.slice (some ⟨w.heap.size, 0, none⟩) len len) ∧
      Below w.heap.size w w' ∧ w'.heap.size = w.heap.size + 1 ∧ w'.rowIs w.heap.size 3 len (fun i => .int .i64 (Z i)) := by
  have hmk := run_make_row' (P := Try.prog) 30 3 (.int .i64 0) 8 Try.underlying30 info3 rfl .i64 .i64 len (by omega) (by omega)
  have hne := fun w a n c => Lib.run_eql_slice_nil (P := Try.prog) w 30 3 a n c 0 0 Try.underlying30
  go_enter Try.func20, Try.ntmps20
  go_wp2
  clear hmk
  go_loopg [4] len (fun g i wr => ∃ k : Nat, k ≤ len ∧ g = len - k ∧ i = .int .i64 k ∧ Below w.heap.size w wr ∧ wr.heap.size = w.heap.size + 1 ∧
    wr.rowIs w.heap.size 3 len (fun i => if i < k then .int .i64 (Z i) else .int .i64 0))
  case atStart => exact ⟨0, Nat.zero_le _, rfl, rfl, (Below.refl _ _).alloc (Nat.le_refl _) _, by simp, (World.rowIs_made w (.int .i64 0) len 3).congr (fun i _ => by simp)⟩
  case round =>
    obtain ⟨k, hk, rfl, rfl, hbel, hsz, hrow⟩ := hrel
    by_cases hlt : k < len
    · have hltz : (k : Int) < (len : Int) := by omega
      obtain ⟨b, o, hx, hb, hcell⟩ := hc k hlt
      have hx' : x = ⟨b, o, none⟩ := by simpa using hx
      subst hx'
      clear hx
      have c1 : wr.cell? ⟨b, o + k, none⟩ = some (.int .i64 (Z k)) := by rw [hbel.cell (p := ⟨b, o + k, none⟩) hb]; exact hcell
      have c2 : wr.cell? ⟨w.heap.size, k, none⟩ = some (.int .i64 0) := by simpa using hrow.cell hlt
      have c3 := hrow.frozen k
      go_wp2
      go_roundg (len - (k + 1))
      case measure => go_light; omega
      case rel =>
        go_light
        exact ⟨k + 1, by omega, rfl, by simp, hbel.setCell (Nat.le_refl _) _, by simpa [World.setCell] using hsz, (hrow.set k _).congr (fun i _ => clone_step i k)⟩
    · go_wp2
      go_ret
      exact ⟨rfl, hbel, hsz, hrow.congr (fun i hi => by rw [if_pos (by omega)])⟩

theorem cloneInts_none (w : World) :
    Calls Try.prog 20 #[.slice none 0 0] w fun e w' => e = .returned (.slice none 0 0) ∧ w' = w := by
  have hne := fun w a n c => Lib.run_eql_slice_nil (P := Try.prog) w 30 3 a n c 0 0 Try.underlying30
  go_enter Try.func20, Try.ntmps20
  go_wp2
  go_ret
  exact ⟨rfl, rfl⟩

theorem cloneInts_any (a : Option Addr) (len cap : Nat) (Z : Nat → Int) (w : World) (hlen : len ≤ 1048576) (hc : Reads .i64 w a len Z) (hn : a = none → cap = 0) :
    Calls Try.prog 20 #[.slice a len cap] w fun e w' => ∃ r, e = .returned (.slice r len len) ∧ Own .i64 3 w' w.heap.size r len Z ∧ Below w.heap.size w w' := by
  cases a with
  | none =>
    obtain rfl := hn rfl
    obtain rfl := hc.none_len
    exact (cloneInts_none w).mono fun e w' ⟨he, hw⟩ => ⟨none, he, .inl ⟨rfl, rfl⟩, by rw [hw]; exact Below.refl _ _⟩
  | some x => exact (cloneInts_some x len cap Z w hlen hc).mono fun e w' ⟨he, hb, _, hr⟩ => ⟨_, he, .inr ⟨_, rfl, Nat.le_refl _, hr⟩, hb⟩

end Go.Proofs.Qxb6603146a
