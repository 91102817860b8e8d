import Derived.Test.Qxb6602193aKit
import Derived.Test.Qxb6602193aPlain
import Derived.Deep.DeepCutAuto
namespace Go.Proofs.Qxb6602193a
open Go.RowKit Go.Deep

/-- Of what was there two blocks alone may have turned. -/
structure Kept2 (x y : Nat) (w w' : World) : Prop where
  os : w'.os = w.os
  tape : w'.tape = w.tape
  output : w'.output = w.output
  size : w.heap.size ≤ w'.heap.size
  block : ∀ k, k < w.heap.size → k ≠ x → k ≠ y → w'.heap[k]? = w.heap[k]?

theorem Kept2.refl (x y : Nat) (w : World) : Kept2 x y w w := ⟨rfl, rfl, rfl, Nat.le_refl _, fun _ _ _ _ => rfl⟩
theorem Kept2.trans {x y : Nat} {a b c : World} (h : Kept2 x y a b) (k : Kept2 x y b c) : Kept2 x y a c :=
  ⟨k.os.trans h.os, k.tape.trans h.tape, k.output.trans h.output, Nat.le_trans h.size k.size, fun i hi h1 h2 => (k.block i (Nat.lt_of_lt_of_le hi h.size) h1 h2).trans (h.block i hi h1 h2)⟩
theorem Kept2.of_below {x y : Nat} {a b : World} (h : Below a.heap.size a b) : Kept2 x y a b := ⟨h.os, h.tape, h.output, h.size, fun i hi _ _ => h.block i hi⟩
theorem Kept2.below {x y : Nat} {a b c : World} (h : Kept2 x y a b) (k : Below b.heap.size b c) : Kept2 x y a c := h.trans (Kept2.of_below k)
theorem Kept2.setX {x y : Nat} {a b : World} (h : Kept2 x y a b) (o : Nat) (v : Value) : Kept2 x y a (b.setCell ⟨x, o, none⟩ v) :=
  h.trans ⟨rfl, rfl, rfl, by simp [World.setCell], fun i _ h1 _ => Below.heap_setCell _ _ _ _ h1⟩
theorem Kept2.setY {x y : Nat} {a b : World} (h : Kept2 x y a b) (o : Nat) (v : Value) : Kept2 x y a (b.setCell ⟨y, o, none⟩ v) :=
  h.trans ⟨rfl, rfl, rfl, by simp [World.setCell], fun i _ _ h2 => Below.heap_setCell _ _ _ _ h2⟩
theorem Kept2.drew {x y : Nat} {a b : World} (h : Kept2 x y a b) : Kept2 x y a b.drew := ⟨h.os, h.tape, h.output, h.size, h.block⟩
theorem Kept2.drewN {x y : Nat} {a b : World} (h : Kept2 x y a b) (n : Nat) : Kept2 x y a (b.drewN n) := ⟨h.os, h.tape, h.output, h.size, h.block⟩
theorem Kept2.row {x y : Nat} {a b : World} (h : Kept2 x y a b) {k : Nat} {t : TypeId} {n : Nat} {f : Nat → Value} (hr : a.rowIs k t n f) (h1 : k ≠ x) (h2 : k ≠ y) : b.rowIs k t n f :=
  hr.of_block (h.block k hr.lt h1 h2)
theorem Kept2.reads {x y : Nat} {a b : World} (h : Kept2 x y a b) {k : IntKind} {r : Option Addr} {n : Nat} {Z : Nat → Int} (hr : Reads k a r n Z) (hxy : ∀ c, r = some c → c.block ≠ x ∧ c.block ≠ y) : Reads k b r n Z := by
  intro i hi
  obtain ⟨c, o, rfl, h1, h2⟩ := hr i hi
  have hne := hxy _ rfl
  exact ⟨c, o, rfl, Nat.lt_of_lt_of_le h1 h.size, by rw [World.cell?_of_block (w := a) (a := ⟨c, o + i, none⟩) (h.block c h1 hne.1 hne.2)]; exact h2⟩
/-- Where both lie behind B nothing below B has turned. -/
theorem Kept2.to_below {x y B : Nat} {a b : World} (h : Kept2 x y a b) (hB : B ≤ a.heap.size) (hx : B ≤ x) (hy : B ≤ y) : Below B a b :=
  ⟨h.os, h.tape, h.output, h.size, fun k hk => h.block k (by omega) (by omega) (by omega)⟩

theorem row_below {w w' : World} {b : Nat} {t : TypeId} {n : Nat} {f : Nat → Value} (h : w.rowIs b t n f) (hb : Below w.heap.size w w') : w'.rowIs b t n f := h.of_block (hb.block b h.lt)

/-- A stretch of a row that is cleared. -/
theorem row_fill {b : Nat} {t : TypeId} {m : Nat} {z : Value} : ∀ (n o : Nat) {f : Nat → Value} {w : World}, w.rowIs b t m f →
    (w.setCells b o (List.replicate n z)).rowIs b t m (fun i => if o ≤ i ∧ i < o + n then z else f i)
  | 0, o, f, w, h => by
    refine (h : w.rowIs b t m f).congr (fun i _ => ?_)
    rw [if_neg (by omega)]
  | n + 1, o, f, w, h => by
    have := row_fill (z := z) n (o + 1) (h.set o z)
    refine World.rowIs.congr (w := (w.setCell ⟨b, o, none⟩ z).setCells b (o + 1) (List.replicate n z)) this (fun i _ => ?_)
    by_cases h1 : i = o
    · subst h1
      rw [if_neg (by omega), if_pos rfl, if_pos (by omega)]
    · by_cases h2 : o + 1 ≤ i ∧ i < o + 1 + n
      · rw [if_pos h2, if_pos (by omega)]
      · rw [if_neg h2, if_neg h1, if_neg (by omega)]

theorem kept_fill {x y : Nat} {z : Value} {a : World} : ∀ (n o : Nat) {w : World}, Kept2 x y a w → Kept2 x y a (w.setCells y o (List.replicate n z))
  | 0, _, _, h => h
  | n + 1, o, w, h => kept_fill n (o + 1) (w := w.setCell ⟨y, o, none⟩ z) (h.setY o z)

theorem and_mask (x p : Nat) (hx : x < 4294967296) (hp : 2 ^ p ≤ 4294967296) : bits .and .u32 (x : Int) (((2 ^ p : Nat) : Int) - 1) = ((x % 2 ^ p : Nat) : Int) := by
  have hpos : 0 < 2 ^ p := Nat.pow_pos (by omega)
  have e : (((2 ^ p : Nat) : Int) - 1) = ((2 ^ p - 1 : Nat) : Int) := by omega
  rw [e]
  have h1 : (BitVec.ofInt 32 (x : Int)).toNat = x := by
    rw [BitVec.ofInt_natCast, BitVec.toNat_ofNat]; exact Nat.mod_eq_of_lt (by omega)
  have h2 : (BitVec.ofInt 32 ((2 ^ p - 1 : Nat) : Int)).toNat = 2 ^ p - 1 := by
    rw [BitVec.ofInt_natCast, BitVec.toNat_ofNat]; exact Nat.mod_eq_of_lt (by omega)
  show IntKind.u32.wrap ((BitVec.ofInt 32 (x : Int) &&& BitVec.ofInt 32 ((2 ^ p - 1 : Nat) : Int)).toNat : Int) = _
  rw [BitVec.toNat_and, h1, h2, Nat.and_two_pow_sub_one_eq_mod]
  have := Nat.mod_lt x hpos
  generalize x % 2 ^ p = m at *
  simp only [IntKind.wrap, IntKind.bits, IntKind.signed]
  simp
  omega

theorem and_pred_zero (p : Nat) (hp : 2 ^ p ≤ 4294967296) : bits .and .i64 ((2 ^ p : Nat) : Int) (((2 ^ p : Nat) : Int) - 1) = 0 := by
  have hpos : 0 < 2 ^ p := Nat.pow_pos (by omega)
  have e : (((2 ^ p : Nat) : Int) - 1) = ((2 ^ p - 1 : Nat) : Int) := by omega
  rw [e]
  have h1 : (BitVec.ofInt 64 ((2 ^ p : Nat) : Int)).toNat = 2 ^ p := by
    rw [BitVec.ofInt_natCast, BitVec.toNat_ofNat]; exact Nat.mod_eq_of_lt (by omega)
  have h2 : (BitVec.ofInt 64 ((2 ^ p - 1 : Nat) : Int)).toNat = 2 ^ p - 1 := by
    rw [BitVec.ofInt_natCast, BitVec.toNat_ofNat]; exact Nat.mod_eq_of_lt (by omega)
  show IntKind.i64.wrap ((BitVec.ofInt 64 ((2 ^ p : Nat) : Int) &&& BitVec.ofInt 64 ((2 ^ p - 1 : Nat) : Int)).toNat : Int) = _
  rw [BitVec.toNat_and, h1, h2, Nat.and_two_pow_sub_one_eq_mod, Nat.mod_self]
  rfl

end Go.Proofs.Qxb6602193a
