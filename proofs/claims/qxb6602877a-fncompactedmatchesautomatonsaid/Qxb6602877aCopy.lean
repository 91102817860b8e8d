import Derived.Test.Qxb6602877aRows
import Derived.Test.Qxb6602877aKit
import Derived.Laws.CopyOwn
namespace Go.Proofs.Qxb6602877a
open Go.RowKit Go.Deep

theorem info5 : (Try.prog.info? 5).map (fun i => (i.zero, i.size, i.bytes)) = some (some (.int .u8 0), 1, 1) := by kernel_rfl
theorem size5 : (Try.prog.info? 5).map (·.size) = some 1 := by kernel_rfl

def bytesOf (n : Nat) (Z : Nat → Int) : List Value := (List.range n).map (fun i => .int .u8 (Z i))

theorem bytesOf_length (n : Nat) (Z : Nat → Int) : (bytesOf n Z).length = n := by simp [bytesOf]

theorem made_blk (w : World) (n : Nat) : (w.alloc (.cells (madeCells #[.int .u8 0] n) 5)).heap[w.heap.size]? = some (.cells (madeCells #[.int .u8 0] n) 5 (0, 0)) := blk_alloc_new _ _

theorem copy_src {w : World} {a : Option Addr} {n : Nat} {Z : Nat → Int} (hr : Reads .u8 w a n Z) (o : Obj) (hp : 0 < n) :
    ∃ ad, a = some ad ∧ ∀ j v, (bytesOf n Z)[j]? = some v → (w.alloc o).cell? (ad.add j) = some v := by
  obtain ⟨b, p, rfl, hb, hc⟩ := hr.form hp
  refine ⟨_, rfl, fun j v hv => ?_⟩
  have hj : j < n := by
    rcases Nat.lt_or_ge j n with h | h
    · exact h
    · simp [bytesOf, h] at hv
  simp [bytesOf, hj] at hv
  rw [Addr.add_lit, ← hv]
  have hB : Below w.heap.size w (w.alloc o) := (Below.refl _ _).alloc (Nat.le_refl _) _
  rw [hB.cell (p := ⟨b, p + j, none⟩) hb]
  exact hc j hj

theorem bytesOf_one (n : Nat) (Z : Nat → Int) : ∀ v ∈ bytesOf n Z, v.oneCell' = true := by
  intro v hv
  obtain ⟨i, _, rfl⟩ := List.mem_map.1 hv
  rfl

/-- 'zzc := make([]byte, len(data)); copy(zzc, data)': the run of the copy, and what it leaves. -/
theorem copy_run (w : World) (x : Addr) (n c : Nat) (Z : Nat → Int) (hr : Reads .u8 w (some x) n Z) :
    ∃ W, (∀ ty, (Builtin.copy_ #[22, 22] ty #[.slice (some ⟨w.heap.size, 0, none⟩) n n, .slice (some x) n c]).run Try.prog (w.alloc (.cells (madeCells #[.int .u8 0] n) 5)) = .ok (.int .i64 (n : Int)) W) ∧
      W.rowIs w.heap.size 5 n (fun i => .int .u8 (Z i)) ∧ Below w.heap.size w W := by
  have hB : Below w.heap.size w (w.alloc (.cells (madeCells #[.int .u8 0] n) 5)) := (Below.refl _ _).alloc (Nat.le_refl _) _
  rcases Nat.eq_zero_or_pos n with h0 | h0
  · subst h0
    refine ⟨w.alloc (.cells (madeCells #[.int .u8 0] 0) 5), fun ty => ?_, ?_, hB⟩
    · exact run_copy_none (P := Try.prog) _ 22 22 ty 5 _ _ 0 0 0 c Try.underlying22 size5 rfl
    · exact (World.rowIs_made w (.int .u8 0) 0 5).congr (fun i hi => by omega)
  · obtain ⟨ad, hx, hsrc⟩ := copy_src hr (.cells (madeCells #[.int .u8 0] n) 5) h0
    obtain rfl := Option.some.inj hx
    have hblk := made_blk w n
    have hlen := bytesOf_length n Z
    have hrun := fun ty => run_copy_row (P := Try.prog) (w.alloc (.cells (madeCells #[.int .u8 0] n) 5)) 22 22 ty 5 w.heap.size 0 n n x n c (madeCells #[.int .u8 0] n) 5 (bytesOf n Z) Try.underlying22 size5 hblk (by rw [hlen]; simp) hsrc (by rw [hlen, size_madeCells]; omega) (bytesOf_one n Z)
    have hcells : ((madeCells #[.int .u8 0] n).toList.take 0 ++ bytesOf n Z ++ (madeCells #[.int .u8 0] n).toList.drop (0 + (bytesOf n Z).length)) = bytesOf n Z := by
      rw [List.take_zero, List.nil_append, List.drop_of_length_le (by rw [Array.length_toList, size_madeCells, hlen]; omega), List.append_nil]
    rw [hcells, hlen] at hrun
    refine ⟨_, hrun, ⟨_, setRow_heap _ _ _ _ 5 _ hblk, by simp [bytesOf], fun i hi => by simp [bytesOf, hi]⟩, below_setRow hB (Nat.le_refl _) _⟩

theorem reads_row {w : World} {b n : Nat} {Z : Nat → Int} (h : w.rowIs b 5 n (fun i => .int .u8 (Z i))) : Reads .u8 w (some ⟨b, 0, none⟩) n Z :=
  Own.reads (T := 5) (lo := 0) (.inr ⟨b, rfl, Nat.zero_le _, h⟩)

end Go.Proofs.Qxb6602877a
