import Derived.Test.Qxb6603146aJoin
import Derived.Deep.AppendLies
import Derived.Deep.RegionHeld3
namespace Go.Proofs.Qxb6603146a
open Go.RowKit Go.Deep

/-- 'append(out, xs...)' as a step of a region that draws its order: out the call's own, xs nil or not. -/
theorem step_append_reads {w : World} {ops : Array Oper} {o : Oper} {a : Act} {K : Act → World → Prop} {Q : Exit → Act → World → Prop} {E : Prop} (hgd : o.guard = none) (s x : Operand)
    (ho : o.op = .call { callee := .builtin .append, args := #[s, x], argTypes := #[22, 22] })
    (base : Nat) (v : Value) (n : Nat) (xs : List Value) (hs : a.eval s = v) (hown : w.ownsRow base 5 1 v n xs)
    (r : Option Addr) (m c : Nat) (Z : Nat → Int) (hx : a.eval x = .slice r m c) (hc : r = none → c = 0) (hr : Reads .u8 w r m Z)
    (hm : n + m ≤ 8388608) (hbase : base ≤ w.heap.size)
    (h : ∀ v' w', w'.ownsRow base 5 1 v' (n + m) (xs ++ bys m Z) → w.grownBy w' v.ownBlock → K (a.put o.dst v') w') :
    if Region.wanted o (yielded ops a.tmps) = true then Oper.wp Try.prog o a w K Q else E := by
  have hw : Region.wanted o (yielded ops a.tmps) = true := by simp [Region.wanted, hgd]
  rw [if_pos hw]
  obtain ⟨i0, hi, hz0, hz1, hz2⟩ := info_parts info5b
  cases r with
  | none =>
    obtain rfl := hr.none_len
    obtain rfl := hc rfl
    have hrun := run_append_owned_none (P := Try.prog) (w := w) base 22 o.type 5 i0 1 Try.underlying22 hi v n xs hown
    unfold Oper.wp
    simp [execOp, ho, resolve, invoke, builtin, hs, hx, hrun, Result.andThen]
    exact h v w (by simpa [bys] using hown) ⟨rfl, rfl, rfl, Nat.le_refl _, fun _ _ _ => rfl⟩
  | some ad =>
    refine wp_append_own w s x 22 ho base 5 i0 (.int .u8 0) 1 1 Try.underlying22 hi hz0 hz1 hz2 rfl (by decide) v n xs hs hown ad m c (bys m Z) hx (by rw [bys_length]; omega) ?_ (bys_one m Z) (by unfold maxLen; omega) (by omega) hbase (fun v' w' h1 h2 _ => h v' w' h1 h2)
    intro j u hj
    have hjm : j < m := by
      rcases Nat.lt_or_ge j m with h | h
      · exact h
      · simp [bys, h] at hj
    rw [bys_get hjm] at hj
    obtain ⟨b, p, e, _, hcell⟩ := hr j hjm
    obtain rfl := Option.some.inj e
    rw [Addr.add_lit, hcell]
    exact hj
end Go.Proofs.Qxb6603146a
