import Derived.Test.Qxb6602193aRows
import Derived.Test.Qxb6602193aKit
import Derived.Test.Qxb6602193aName
namespace Go.Proofs.Qxb6602193a
open Go.RowKit Go.Deep

theorem info43 : (Try.prog.info? 43).map (fun i => (i.zero, i.size, i.bytes)) = some (some (.agg #[.int .u32 0, .int .u32 0, .int .u32 0]), 3, 12) := by kernel_rfl

theorem make_ents (n : Nat) (hn : n ≤ 4096) (w : World) :
    (Instr.makeSlice 30 (.int .i64 (n : Int)) (.int .i64 (n : Int))).run Try.prog w = .ok (.slice (some ⟨w.heap.size, 0, none⟩) n n) (w.alloc (.cells (madeCells #[.int .u32 0, .int .u32 0, .int .u32 0] (n * 3)) 43)) := by
  obtain ⟨i, hi, hz, hs, hb⟩ := info_parts info43
  have h := run_make (P := Try.prog) w 30 43 i _ Try.underlying30 hi hz .i64 .i64 n n (by omega) (Int.le_refl _) (by rw [hb]; omega) (by omega)
  simp only [Int.toNat_natCast, hs] at h
  exact h

theorem made_row (n : Nat) (w : World) : (w.alloc (.cells (madeCells #[.int .u32 0, .int .u32 0, .int .u32 0] (n * 3)) 43)).rowIs w.heap.size 43 (3 * n) (fun _ => .int .u32 0) := by
  refine ⟨_, blk_alloc_new _ _, by rw [size_madeCells]; omega, fun i hi => ?_⟩
  have h3 : i % 3 = 0 ∨ i % 3 = 1 ∨ i % 3 = 2 := by omega
  rcases h3 with h | h | h <;> simp [madeCells, show i < n * 3 by omega, h]

theorem ent_step (P H F : Nat → Int) (i k : Nat) :
    (if i = k * 3 + 2 then Value.int .u32 (F k) else if i = k * 3 + 1 then .int .u32 (H k) else if i = k * 3 then .int .u32 (P k) else if i < 3 * k then entF P H F i else .int .u32 0) =
    if i < 3 * (k + 1) then entF P H F i else .int .u32 0 := by
  by_cases h2 : i = k * 3 + 2
  · rw [if_pos h2, if_pos (by omega), h2, ent2]
  · rw [if_neg h2]
    by_cases h1 : i = k * 3 + 1
    · rw [if_pos h1, if_pos (by omega), h1, ent1]
    · rw [if_neg h1]
      by_cases h0 : i = k * 3
      · rw [if_pos h0, if_pos (by omega), h0, ent0]
      · rw [if_neg h0]
        by_cases h : i < 3 * k
        · rw [if_pos h, if_pos (by omega)]
        · rw [if_neg h, if_neg (by omega)]

set_option maxHeartbeats 800000 in
theorem makePart (a1 a2 a3 : Option Addr) (n : Nat) (tr : Option Addr) (tl : Nat) (P H F : Nat → Int) (w : World) (hn : n ≤ 4096)
    (hP : Reads .u32 w a1 n P) (hH : Reads .u32 w a2 n H) (hF : Reads .u32 w a3 n F) :
    Calls Try.prog 11 #[.slice a1 n n, .slice a2 n n, .slice a3 n n, .slice tr tl tl] w fun e w' =>
      e = .returned (.agg #[.slice (some ⟨w.heap.size + 1, 0, none⟩) n n, .slice tr tl tl]) ∧ Below w.heap.size w w' ∧ w'.rowIs (w.heap.size + 1) 43 (3 * n) (entF P H F) := by
  have hmk := make_ents n hn
  go_enter Try.func11, Try.ntmps11
  go_wp2
  clear hmk
  go_loopg [10] n (fun g i wr => ∃ k : Nat, k ≤ n ∧ g = n - k ∧ i = .int .i64 k ∧ Below w.heap.size w wr ∧ wr.heap.size = w.heap.size + 2 ∧ wr.rowIs w.heap.size 32 2 (fun _ => .slice none 0 0) ∧
    wr.rowIs (w.heap.size + 1) 43 (3 * n) (fun i => if i < 3 * k then entF P H F i else .int .u32 0))
  case atStart =>
    refine ⟨0, Nat.zero_le _, rfl, rfl, ((Below.refl _ _).alloc (Nat.le_refl _) _).alloc (by simp) _, by simp, ?_, ?_⟩
    · exact (World.rowIs_alloc w #[.slice none 0 0, .slice none 0 0] 32 (fun _ => .slice none 0 0) (fun i hi => by match i, hi with | 0, _ => rfl | 1, _ => rfl)).alloc _
    · have h := made_row n (w.alloc (.cells #[.slice none 0 0, .slice none 0 0] 32))
      rw [World.size_alloc] at h
      exact h.congr (fun i _ => by simp)
  case round =>
    obtain ⟨k, hk, rfl, rfl, hbel, hsz, hcell, hrow⟩ := hrel
    by_cases hlt : k < n
    · have hltz : (k : Int) < (n : Int) := by omega
      obtain ⟨b1, o1, rfl, h1, e1⟩ := (hP.below hbel) k hlt
      obtain ⟨b2, o2, rfl, h2, e2⟩ := (hH.below hbel) k hlt
      obtain ⟨b3, o3, rfl, h3, e3⟩ := (hF.below hbel) k hlt
      have c1 : wr.cell? ⟨b1, o1 + k, none⟩ = some (.int .u32 (P k)) := e1
      have c2 : wr.cell? ⟨b2, o2 + k, none⟩ = some (.int .u32 (H k)) := e2
      have c3 : wr.cell? ⟨b3, o3 + k, none⟩ = some (.int .u32 (F k)) := e3
      clear e1 e2 e3
      have c4 : wr.cell? ⟨w.heap.size + 1, k * 3, none⟩ = some (.int .u32 0) := by rw [hrow.cell (i := k * 3) (by omega), if_neg (by omega)]
      have c5 : wr.cell? ⟨w.heap.size + 1, k * 3 + 1, none⟩ = some (.int .u32 0) := by rw [hrow.cell (i := k * 3 + 1) (by omega), if_neg (by omega)]
      have c6 : wr.cell? ⟨w.heap.size + 1, k * 3 + 2, none⟩ = some (.int .u32 0) := by rw [hrow.cell (i := k * 3 + 2) (by omega), if_neg (by omega)]
      have f4 := hrow.frozen (k * 3)
      have f5 := hrow.frozen (k * 3 + 1)
      have f6 := hrow.frozen (k * 3 + 2)
      go_wp2
      go_region
      all_goals go_wp2
      all_goals
        go_roundg (n - (k + 1))
        case measure => go_light; omega
        case rel =>
          go_light
          refine ⟨k + 1, by omega, rfl, by simp, (((hbel.setCell (by simp) _).setCell (by simp) _).setCell (by simp) _).drew, by simpa [World.setCell] using hsz, ((hcell.setOther (by simp) _).setOther (by simp) _).setOther (by simp) _, ?_⟩
          exact (((hrow.set (k * 3) _).set (k * 3 + 1) _).set (k * 3 + 2) _).congr (fun i _ => ent_step P H F i k)
    · have d1 : wr.cell? ⟨w.heap.size, 0, none⟩ = some (.slice none 0 0) := hcell.cell (i := 0) (by omega)
      have d2 : wr.cell? ⟨w.heap.size, 1, none⟩ = some (.slice none 0 0) := hcell.cell (i := 1) (by omega)
      have e1 := hcell.frozen 0
      have e2 := hcell.frozen 1
      go_wp2
      have R2 := (hcell.set 0 (.slice (some ⟨w.heap.size + 1, 0, none⟩) n n)).set 1 (.slice tr tl tl)
      have q0 := R2.cell (i := 0) (by omega)
      have q1 := R2.cell (i := 1) (by omega)
      simp at q0 q1
      refine bodyPost_ret (v := .agg #[.slice (some ⟨w.heap.size + 1, 0, none⟩) n n, .slice tr tl tl]) (by go_light; simp [results, Try.results11, go_sem, q0, q1]) rfl ⟨rfl, (hbel.setCell (by simp) _).setCell (by simp) _, ?_⟩
      exact ((hrow.setOther (by simp) _).setOther (by simp) _).congr (fun i hi => by rw [if_pos (by omega)])
end Go.Proofs.Qxb6602193a
