import Derived.WalkKit
import Derived.WalkLawsBesides
import Derived.WalkSpells
import Derived.ProofKit
import Derived.Below
import Derived.Deep.OwnRows
import Derived.Deep.LoopGhost
import Derived.Deep.QuietTactic
import Derived.Deep.Light
import Derived.Deep.DeepCutAuto
import Derived.BigQuiet
namespace Go.Proofs.Qxb6602841a
open Go.RowKit Go.Deep

/-- The cells of a row of pairs: start and end, one after the other. -/
def pairF (A B : Nat → Int) (i : Nat) : Value := .int .i64 (if i % 2 = 0 then A (i / 2) else B (i / 2))

theorem pair0 (A B : Nat → Int) (k : Nat) : pairF A B (k * 2) = .int .i64 (A k) := by
  unfold pairF; rw [if_pos (by omega), show k * 2 / 2 = k from by omega]
theorem pair1 (A B : Nat → Int) (k : Nat) : pairF A B (k * 2 + 1) = .int .i64 (B k) := by
  unfold pairF; rw [if_neg (by omega), show (k * 2 + 1) / 2 = k from by omega]

/-- What a slice of pairs leads to. -/
def Pairs (w : World) (a : Option Addr) (len : Nat) (A B : Nat → Int) : Prop :=
  ∀ i, i < len → ∃ b o, a = some ⟨b, o, none⟩ ∧ b < w.heap.size ∧ w.cell? ⟨b, o + i * 2, none⟩ = some (.int .i64 (A i)) ∧ w.cell? ⟨b, o + i * 2 + 1, none⟩ = some (.int .i64 (B i))

theorem Pairs.below {w w' : World} {a : Option Addr} {len : Nat} {A B : Nat → Int} (h : Pairs w a len A B) (hb : Below w.heap.size w w') : Pairs w' a len A B := by
  intro i hi
  obtain ⟨b, o, rfl, h1, h2, h3⟩ := h i hi
  exact ⟨b, o, rfl, Nat.lt_of_lt_of_le h1 hb.size, by rw [hb.cell (p := ⟨b, o + i * 2, none⟩) h1]; exact h2, by rw [hb.cell (p := ⟨b, o + i * 2 + 1, none⟩) h1]; exact h3⟩

theorem Pairs.none_len {w : World} {len : Nat} {A B : Nat → Int} (h : Pairs w none len A B) : len = 0 := by
  rcases Nat.eq_zero_or_pos len with h0 | h0
  · exact h0
  · obtain ⟨_, _, e, _⟩ := h 0 h0
    cases e

theorem row_below {w w' : World} {b : Nat} {t : TypeId} {n : Nat} {f : Nat → Value} (h : w.rowIs b t n f) (hb : Below w.heap.size w w') : w'.rowIs b t n f := h.of_block (hb.block b h.lt)

theorem pairs_of_row {w : World} {b T len : Nat} {A B : Nat → Int} (h : w.rowIs b T (2 * len) (pairF A B)) : Pairs w (some ⟨b, 0, none⟩) len A B := by
  intro i hi
  refine ⟨b, 0, rfl, h.lt, ?_, ?_⟩
  · rw [Nat.zero_add, h.cell (i := i * 2) (by omega), pair0]
  · rw [Nat.zero_add, h.cell (i := i * 2 + 1) (by omega), pair1]

theorem pair_step (A B : Nat → Int) (i k : Nat) :
    (if i = k * 2 + 1 then Value.int .i64 (B k) else if i = k * 2 then .int .i64 (A k) else if i < 2 * k then pairF A B i else .int .i64 0) =
    if i < 2 * (k + 1) then pairF A B i else .int .i64 0 := by
  by_cases h1 : i = k * 2 + 1
  · rw [if_pos h1, if_pos (by omega), h1, pair1]
  · rw [if_neg h1]
    by_cases h0 : i = k * 2
    · rw [if_pos h0, if_pos (by omega), h0, pair0]
    · rw [if_neg h0]
      by_cases h : i < 2 * k
      · rw [if_pos h, if_pos (by omega)]
      · rw [if_neg h, if_neg (by omega)]

theorem made_pairs (n : Nat) (T : TypeId) (w : World) : (w.alloc (.cells (madeCells #[.int .i64 0, .int .i64 0] (n * 2)) T)).rowIs w.heap.size T (2 * n) (fun _ => .int .i64 0) := by
  refine ⟨_, blk_alloc_new _ _, by rw [size_madeCells]; omega, fun i hi => ?_⟩
  have h3 : i % 2 = 0 ∨ i % 2 = 1 := by omega
  rcases h3 with h | h <;> simp [madeCells, show i < n * 2 by omega, h]

end Go.Proofs.Qxb6602841a
