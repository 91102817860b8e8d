/-
  'Rows.FnPeakHeldIsDeepestOverlapSaid': the row's frame after the guide's tool's own for a slice that came in; the walk is Qxb6602841aDeep.lean's 'law'.
-/
import Derived.Test.Qxb6602841aRows
import Derived.Test.Qxb6602841aDeep
import Derived.WalkKit
import Derived.ProofKit
import Derived.OpenShut
import Derived.ShutString
import Derived.ChangeOld
import Derived.Below
import Derived.Deep.Slices
namespace Go.Proofs.Qxb6602841a.fnPeakHeldIsDeepestOverlap
open Go.ChangeShapes Go.WideShapes Go.ChangeAt Go.RowKit
set_option linter.unusedVariables false

theorem own : ownKnob Try.prog.godebug = none := by kernel_rfl
theorem laidOut : laidOutB Try.prog = true := by kernel_rfl
theorem cells28 : Try.prog.cellsOf 28 = 2 := by kernel_rfl
theorem cells2 : Try.prog.cellsOf 2 = 1 := by kernel_rfl

/-- A slice of arrays of two, opened. -/
theorem open_arrs {H : Type} {enc : TypeId × Value → H} {w : World} {base : Nat} {spare : Nat → Bool} {held : Bool} {fuel : Nat} {cs : List Value} {x : DataW H × List MemPlace}
    (h : DataW.trod enc Try.prog w base spare held fuel 22 cs = some x) :
    cs = [.slice none 0 0] ∨ ∃ (a : Addr) (len cap : Nat) (A B : Nat → Int), cs = [.slice (some a) len cap] ∧ len ≤ cap ∧ cap ≤ maxLen ∧
      ∀ i, i < len → w.cell? (a.add (i * 2)) = some (.int .i64 (A i)) ∧ w.cell? (a.add (i * 2 + 1)) = some (.int .i64 (B i)) := by
  rcases Deep.open_slice Try.underlying22 h with ⟨h0, _⟩ | ⟨a, len, cap, m, n, D, Pl, rfl, hb, hl, hm, hmm, rfl, hx⟩
  · exact .inl h0
  right
  have hlm : len ≤ m := by rw [hmm]; split <;> omega
  have each : ∀ i, i < len → ∃ q : Int × Int, w.cell? (a.add (i * 2)) = some (.int .i64 q.1) ∧ w.cell? (a.add (i * 2 + 1)) = some (.int .i64 q.2) := by
    intro i hi
    obtain ⟨cs', h1, h2⟩ := hx i (by omega)
    rw [cells28] at h1
    obtain ⟨_, hlen, hcell⟩ := World.cells?_some h1
    obtain ⟨xs, k, hk, hxy, _, hxl, hf⟩ := DataW.trod_array Try.underlying28 h2
    match xs, hxl, cs', hlen with
    | [y0, y1], _, [v0, v1], _ =>
      have g0 := hf 0 (by omega)
      have g1 := hf 1 (by omega)
      simp [cells2] at g0 g1
      obtain ⟨z0, e0, _, _⟩ := DataW.trod_int Try.underlying2 g0
      obtain ⟨z1, e1, _, _⟩ := DataW.trod_int Try.underlying2 g1
      simp at e0 e1
      have f0 := hcell 0 (by omega)
      have f1 := hcell 1 (by omega)
      rw [Deep.add_add] at f0 f1
      exact ⟨(z0, z1), by simpa [e0] using f0, by simpa [e1] using f1⟩
  obtain ⟨q, hq⟩ := Deep.choose_lt each
  exact ⟨a, len, cap, fun i => (q i).1, fun i => (q i).2, rfl, hl, hm, hq⟩

theorem walk (a0 : Option Addr) (len0 cap0 : Nat) (A B : Nat → Int) (w : World) (hm : len0 ≤ maxLen) (hn : a0 = none → cap0 = 0) (h : Pairs w a0 len0 A B) :
    Calls Try.prog 3 #[.slice a0 len0 cap0] w fun e w' => e = .returned (.bool true) ∧ Below w.heap.size w w' := law a0 len0 cap0 A B w hm hn h

set_option maxRecDepth 100000 in
theorem lifted (os : Os) (started : os.Started) (H : Type) (enc : TypeId × Value → H) :
    ReturnsInHanded {} Try.checked os 3 .any (Rows.fnPeakHeldIsDeepestOverlapSpec.pre6 enc Try.prog Try.f3 Rows.fnPeakHeldIsDeepestOverlapRow.domain false) (Rows.fnPeakHeldIsDeepestOverlapSpec.post enc Try.prog Try.f3 false true false false) := by
  refine returnsInHanded_of_change (C := Try.checked) own started (by kernel_rfl) Try.func3
    (ChangeSpec.witness6 (enc := enc) (C := Try.checked) false ⟨#[], #[.slice none 0 0], []⟩ 8 (by kernel_rfl) (by kernel_rfl) (by kernel_rfl) (by kernel_rfl)) ?_
  intro W base args ds gs before hval0 hW hcnd _
  have hval : ∀ (j : Nat) t v, Try.f3.params[j]? = some t → args[j]? = some v → Value.okWide Try.prog W .any base t v := hval0
  have hW' := hW
  obtain ⟨p, q, hA0, hV, rfl, hfz, hnd⟩ := hW
  have hA : DataW.TrodAll enc Try.prog W 0 (fun _ => true) true Try.f3.params.toList args.toList ds p := hA0
  rw [Try.params3] at hA hval
  obtain ⟨v0, vs0, d0, ds0, p0, q0, hargs, rfl, rfl, h0, r0⟩ := trodAll_cons hA
  obtain ⟨rfl, rfl, rfl⟩ := trodAll_nil r0
  obtain rfl : args = #[v0] := by cases args; simp_all
  obtain ⟨rfl, rfl⟩ := trodVars_none hV
  obtain ⟨a0, len0, cap0, rfl⟩ := okWide_slice Try.underlying22 (hval 0 22 v0 rfl rfl)
  have k0 := h0
  have lt0 : ∀ x ∈ p0, x.block < W.heap.size := by obtain ⟨m, hm⟩ := k0; exact DataW.trod_lt m _ _ _ hm
  obtain ⟨A, B, hm, hn, hp⟩ : ∃ A B, len0 ≤ maxLen ∧ (a0 = none → cap0 = 0) ∧ Pairs W a0 len0 A B := by
    obtain ⟨fuel, hf⟩ := h0
    rcases open_arrs hf with hcs | ⟨x, l, c, A, B, hcs, hl, hm, hcell⟩
    · simp [Value.cells] at hcs
      obtain ⟨rfl, rfl, rfl⟩ := hcs
      exact ⟨fun _ => 0, fun _ => 0, Nat.zero_le _, fun _ => rfl, fun i hi => by omega⟩
    · simp [Value.cells] at hcs
      obtain ⟨rfl, rfl, rfl⟩ := hcs
      refine ⟨A, B, Nat.le_trans hl hm, fun h => (by cases h), fun i hi => ?_⟩
      obtain ⟨b, o, s⟩ := x
      have hs : s = none := by simpa [Addr.add] using World.cell?_spot (hcell 0 (by omega)).1
      subst hs
      obtain ⟨e1, e2⟩ := hcell i hi
      rw [Addr.add_lit] at e1 e2
      exact ⟨b, o, rfl, World.block_lt_of_cell? _ _ e1, e1, by rw [Nat.add_assoc]; exact e2⟩
  clear hA0 hval0
  refine (walk a0 len0 cap0 A B W hm hn hp).mono fun e W' ⟨he, bel⟩ => ?_
  subst he
  exact ⟨_, rfl, _, _, _, [], _, [], hW', trodAll_mk1 (shut_bool Try.underlying4 _), (trodAll_cons_mk (Below.trod laidOut (by kernel_rfl) (of_decide_eq_true (by kernel_rfl)) k0 bel lt0) trodAll_mk0), rfl, bel.frame _, fun h => by cases h⟩

theorem over : Rows.fnPeakHeldIsDeepestOverlapRow.holds Try.pinned (OpenSpec.ofChange Rows.fnPeakHeldIsDeepestOverlapSpec) :=
  OpenClaim.holds_of_wide 3 Try.f3 rfl rfl rfl rfl rfl rfl rfl ⟨rfl, rfl, rfl, rfl, rfl⟩ rfl rfl rfl rfl rfl (by kernel_rfl) Try.func3 (by kernel_rfl)
    (of_decide_eq_true (by kernel_rfl)) (by unfold Func.isWrapper; first | (rw [if_pos (by decide +kernel)]; kernel_rfl) | (rw [if_neg (by decide +kernel)]; exact ⟨rfl, rfl⟩))
    (fun os started H enc _ => lifted os started H enc)

/-- THE STATEMENT. -/
theorem proved : Rows.FnPeakHeldIsDeepestOverlapSaid := over
end Go.Proofs.Qxb6602841a.fnPeakHeldIsDeepestOverlap
