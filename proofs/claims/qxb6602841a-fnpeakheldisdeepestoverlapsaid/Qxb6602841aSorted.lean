import Derived.Test.Qxb6602841aRows
import Derived.Test.Qxb6602841aKit
import Derived.Test.Qxb6602841aShelf
import Derived.Test.Qxb6602841aPlain
import Derived.Sort.Grow
namespace Go.Proofs.Qxb6602841a
open Go.RowKit Go.Deep Go.Sort

/-- Of what was there one block alone may have turned. -/
structure Kept1 (x : Nat) (w w' : World) : Prop where
  os : w'.os = w.os
  tape : w'.tape = w.tape
  output : w'.output = w.output
  size : w.heap.size ≤ w'.heap.size
  block : ∀ k, k < w.heap.size → k ≠ x → w'.heap[k]? = w.heap[k]?

theorem Kept1.to_below {x B : Nat} {a b : World} (h : Kept1 x a b) (hB : B ≤ a.heap.size) (hx : B ≤ x) : Below B a b :=
  ⟨h.os, h.tape, h.output, h.size, fun k hk => h.block k (by omega) (by omega)⟩
theorem Kept1.row {x : Nat} {a b : World} (h : Kept1 x a b) {k : Nat} {t : TypeId} {n : Nat} {f : Nat → Value} (hr : a.rowIs k t n f) (h1 : k ≠ x) : b.rowIs k t n f :=
  hr.of_block (h.block k hr.lt h1)

def sorted (l : List Int) : List Int := l.mergeSort fun x y => decide (x ≤ y)
theorem sorted_length (l : List Int) : (sorted l).length = l.length := by unfold sorted; exact List.length_mergeSort l
theorem sorted_perm (l : List Int) : (sorted l).Perm l := by unfold sorted; exact List.mergeSort_perm l _
theorem sorted_up (l : List Int) : Up (sorted l) := up_mergeSort l

/-- slices.Sort over a row of the call's own. -/
theorem sort_row (b : Nat) (T : TypeId) (l : List Int) (w : World) (hl : l.length ≤ 4096) (h : w.rowIs b T l.length (fun i => .int .i64 (l.getD i 0))) :
    Calls Try.prog 28 #[.slice (some ⟨b, 0, none⟩) l.length l.length] w fun e w' => e = .returned (.tuple #[]) ∧ w'.rowIs b T l.length (fun i => .int .i64 ((sorted l).getD i 0)) ∧ Kept1 b w w' := by
  rcases Nat.eq_zero_or_pos l.length with h0 | h0
  · have hc : Calls Try.prog 28 #[.slice (some ⟨b, 0, none⟩) 0 l.length] w fun e w' => e = .returned (.tuple #[]) ∧ w' = w := AnyM.slices_Sort_int_none Try.srt _ _ w
    rw [h0] at hc h ⊢
    refine hc.mono fun e w' ⟨he, hw⟩ => ⟨he, ?_, ?_⟩
    · rw [hw]; exact h.congr (fun i hi => by omega)
    · rw [hw]; exact ⟨rfl, rfl, rfl, Nat.le_refl _, fun _ _ _ => rfl⟩
  · have hH : Holds (Value.int .i64) w b 0 l.toArray := by
      intro j hj
      have hj' : j < l.length := by simpa using hj
      refine ⟨?_, h.frozen _⟩
      rw [Nat.zero_add, h.cell hj']
      simp [hj', List.getD_eq_getElem?_getD]
    have hc : Calls Try.prog 28 #[.slice (some ⟨b, 0, none⟩) l.length l.length] w fun e w' =>
      e = .returned (.tuple #[]) ∧ ∃ n os, w' = grow (putRow (Value.int .i64) (Sort.ahead w n) b 0 (l.mergeSort fun x y => decide (x ≤ y)).toArray) os :=
      AnyM.slices_Sort_int Try.srt b 0 l.length l w hH h.lt (by omega)
    refine hc.mono fun e w' ⟨he, n, os, hw⟩ => ⟨he, ?_, ?_⟩
    · obtain ⟨c, hb, hn, hcc⟩ := h
      have hg : b < w.heap.size := (Array.getElem?_eq_some_iff.1 hb).1
      have hsl := sorted_length l
      unfold sorted at *
      refine ⟨putCells (Value.int .i64) 0 (l.mergeSort fun x y => decide (x ≤ y)).toArray c, ?_, by simp [putCells, hn], fun i hi => ?_⟩
      · rw [hw, heap_grow_old _ _ (by simpa using hg)]
        simp [putRow, mapBlock, Sort.ahead, Array.getElem?_modify, hb, onCells]
      · simp [putCells, show i < c.size by omega, hi, hsl, List.getD_eq_getElem?_getD]
    · rw [hw]
      refine ⟨rfl, rfl, rfl, by simp, fun k hk hne => ?_⟩
      rw [heap_grow_old _ _ (by simpa using hk)]
      have : b ≠ k := fun e => hne e.symm
      simp [putRow, mapBlock, Sort.ahead, Array.getElem?_modify, this]

end Go.Proofs.Qxb6602841a
