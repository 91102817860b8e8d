import Derived.Test.Qxb6603146aFrm
namespace Go.Proofs.Qxb6603146a
open Go.RowKit Go.Deep

theorem t5size : Try.t5.size = 1 := rfl

/-- A part of a byte row: what it leads to. -/
def Part (w : World) (Zt : Nat → Int) (lo : Nat) (r : Option Addr) (m c : Nat) : Prop := (r = none → c = 0) ∧ Reads .u8 w r m (fun i => Zt (lo + i))

theorem part_of {w : World} {rt : Option Addr} {lt : Nat} {Zt : Nat → Int} (h : Reads .u8 w rt lt Zt) {lo m : Nat} (hm : lo + m ≤ lt) :
    Part w Zt lo (if lt = lo then rt else rt.map (·.add lo)) m (lt - lo) := by
  constructor
  · intro e
    split at e
    · omega
    · cases rt with
      | none => have := h.none_len; omega
      | some ad => simp at e
  · intro i hi
    obtain ⟨b, o, rfl, h1, h2⟩ := h (lo + i) (by omega)
    rw [if_neg (by omega)]
    refine ⟨b, o + lo, by simp [Addr.add], h1, ?_⟩
    rw [Nat.add_assoc]
    exact h2

theorem cut_both {rt : Option Addr} {lt lo hi : Nat} (h1 : lo ≤ hi) (h2 : hi ≤ lt) (w : World) :
    (Instr.slice 22 (.slice rt lt lt) (some (.int .i64 (lo : Int))) (some (.int .i64 (hi : Int))) none).run Try.prog w = .ok (.slice (if lt = lo then rt else rt.map (·.add lo)) (hi - lo) (lt - lo)) w := by
  simp [Instr.slice, Instr.sliceBounds, Instr.sliceBound, asIntOf, run_underlying Try.underlying22, h1, h2, sizeOf, t5size, go_sem]

theorem cut_low {rt : Option Addr} {lt lo : Nat} (h1 : lo ≤ lt) (w : World) :
    (Instr.slice 22 (.slice rt lt lt) (some (.int .i64 (lo : Int))) none none).run Try.prog w = .ok (.slice (if lt = lo then rt else rt.map (·.add lo)) (lt - lo) (lt - lo)) w := by
  simp [Instr.slice, Instr.sliceBounds, Instr.sliceBound, asIntOf, run_underlying Try.underlying22, h1, sizeOf, t5size, go_sem]

theorem cut_high {rt : Option Addr} {lt hi : Nat} (h2 : hi ≤ lt) (w : World) :
    (Instr.slice 22 (.slice rt lt lt) none (some (.int .i64 (hi : Int))) none).run Try.prog w = .ok (.slice (if lt = 0 then rt else rt.map (·.add 0)) hi lt) w := by
  simp [Instr.slice, Instr.sliceBounds, Instr.sliceBound, asIntOf, run_underlying Try.underlying22, h2, go_sem]

/-- text[lo:hi], text[lo:], text[:hi]: the runs, and what the new value leads to. -/
theorem cutBoth {w : World} {rt : Option Addr} {lt : Nat} {Zt : Nat → Int} (h : Reads .u8 w rt lt Zt) {lo hi : Nat} (h1 : lo ≤ hi) (h2 : hi ≤ lt) :
    ∃ r c, (∀ w', (Instr.slice 22 (.slice rt lt lt) (some (.int .i64 (lo : Int))) (some (.int .i64 (hi : Int))) none).run Try.prog w' = .ok (.slice r (hi - lo) c) w') ∧ Part w Zt lo r (hi - lo) c :=
  ⟨_, _, cut_both h1 h2, part_of h (by omega)⟩
theorem cutLow {w : World} {rt : Option Addr} {lt : Nat} {Zt : Nat → Int} (h : Reads .u8 w rt lt Zt) {lo : Nat} (h1 : lo ≤ lt) :
    ∃ r c, (∀ w', (Instr.slice 22 (.slice rt lt lt) (some (.int .i64 (lo : Int))) none none).run Try.prog w' = .ok (.slice r (lt - lo) c) w') ∧ Part w Zt lo r (lt - lo) c :=
  ⟨_, _, cut_low h1, part_of h (by omega)⟩
theorem cutHigh {w : World} {rt : Option Addr} {lt : Nat} {Zt : Nat → Int} (h : Reads .u8 w rt lt Zt) {hi : Nat} (h2 : hi ≤ lt) :
    ∃ r c, (∀ w', (Instr.slice 22 (.slice rt lt lt) none (some (.int .i64 (hi : Int))) none).run Try.prog w' = .ok (.slice r hi c) w') ∧ (r = none → c = 0) ∧ Reads .u8 w r hi Zt := by
  refine ⟨_, _, cut_high h2, ?_⟩
  have := part_of h (lo := 0) (m := hi) (by omega)
  simpa [Part] using this
end Go.Proofs.Qxb6603146a
