import Derived.WalkKit
import Derived.WalkLawsBesides
import Derived.WalkSpells
import Derived.ProofKit
import Derived.Below
import Derived.Deep.OwnRows
import Derived.Deep.LoopGhost
import Derived.Deep.QuietTactic
import Derived.Deep.Light
import Derived.Deep.DeepCutAuto
import Derived.Deep.CutBlock
import Derived.BigQuiet
namespace Go.Proofs.Qxb6603146a
open Go.RowKit Go.Deep

/-- What a slice value leads to: its first 'len' cells hold the numbers Z 0, Z 1, and so on. -/
def Reads (k : IntKind) (w : World) (a : Option Addr) (len : Nat) (Z : Nat → Int) : Prop :=
  ∀ i, i < len → ∃ b o, a = some ⟨b, o, none⟩ ∧ b < w.heap.size ∧ w.cell? ⟨b, o + i, none⟩ = some (.int k (Z i))

theorem Reads.at {k : IntKind} {w : World} {b o : Nat} {s : Option Nat} {len : Nat} {Z : Nat → Int} (h : Reads k w (some ⟨b, o, s⟩) len Z) {i : Nat} (hi : i < len) :
    s = none ∧ b < w.heap.size ∧ w.cell? ⟨b, o + i, none⟩ = some (.int k (Z i)) := by
  obtain ⟨b', o', e', hb, hc⟩ := h i hi
  simp at e'
  obtain ⟨rfl, rfl, rfl⟩ := e'
  exact ⟨rfl, hb, hc⟩

theorem Reads.form {k : IntKind} {w : World} {a : Option Addr} {len : Nat} {Z : Nat → Int} (h : Reads k w a len Z) {i : Nat} (hi : i < len) :
    ∃ b o, a = some ⟨b, o, none⟩ ∧ b < w.heap.size ∧ ∀ j, j < len → w.cell? ⟨b, o + j, none⟩ = some (.int k (Z j)) := by
  obtain ⟨b, o, rfl, hb, _⟩ := h i hi
  exact ⟨b, o, rfl, hb, fun j hj => (h.at hj).2.2⟩

theorem Reads.below {k : IntKind} {w w' : World} {a : Option Addr} {len : Nat} {Z : Nat → Int} (h : Reads k w a len Z) (hb : Below w.heap.size w w') : Reads k w' a len Z := by
  intro i hi
  obtain ⟨b, o, rfl, h1, h2⟩ := h i hi
  exact ⟨b, o, rfl, Nat.lt_of_lt_of_le h1 hb.size, by rw [hb.cell (p := ⟨b, o + i, none⟩) h1]; exact h2⟩

theorem Reads.none_len {k : IntKind} {w : World} {len : Nat} {Z : Nat → Int} (h : Reads k w none len Z) : len = 0 := by
  rcases Nat.eq_zero_or_pos len with h0 | h0
  · exact h0
  · obtain ⟨_, _, e, _⟩ := h 0 h0
    cases e

theorem clone_step {k : IntKind} {Z : Nat → Int} (i j : Nat) :
    (if i = j then Value.int k (Z j) else if i < j then .int k (Z i) else .int k 0) = if i < j + 1 then .int k (Z i) else .int k 0 := by
  by_cases h : i = j
  · subst h; simp
  · by_cases h2 : i < j
    · rw [if_neg h, if_pos h2, if_pos (by omega)]
    · rw [if_neg h, if_neg h2, if_neg (by omega)]

/-- A row of the call's own: nothing at all, or a block of its own from 'lo' on. -/
def Own (k : IntKind) (T : TypeId) (w : World) (lo : Nat) (r : Option Addr) (len : Nat) (Z : Nat → Int) : Prop :=
  (r = none ∧ len = 0) ∨ ∃ b, r = some ⟨b, 0, none⟩ ∧ lo ≤ b ∧ w.rowIs b T len (fun i => .int k (Z i))

theorem Own.reads {k : IntKind} {T : TypeId} {w : World} {lo : Nat} {r : Option Addr} {len : Nat} {Z : Nat → Int} (h : Own k T w lo r len Z) : Reads k w r len Z := by
  intro i hi
  rcases h with ⟨_, rfl⟩ | ⟨b, rfl, _, hr⟩
  · omega
  · exact ⟨b, 0, rfl, hr.lt, by rw [Nat.zero_add]; exact hr.cell hi⟩

theorem Own.below {k : IntKind} {T : TypeId} {w w' : World} {lo : Nat} {r : Option Addr} {len : Nat} {Z : Nat → Int} (h : Own k T w lo r len Z) (hb : Below w.heap.size w w') : Own k T w' lo r len Z := by
  rcases h with h | ⟨b, rfl, hl, hr⟩
  · exact .inl h
  · exact .inr ⟨b, rfl, hl, hr.of_block (hb.block b hr.lt)⟩

end Go.Proofs.Qxb6603146a
