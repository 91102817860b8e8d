import Derived.Test.Qxb6603146aRows
import Derived.Test.Qxb6603146aKit
import Derived.Laws.AppendOwnNone
namespace Go.Proofs.Qxb6603146a
open Go.RowKit Go.Deep

theorem info5b : (Try.prog.info? 5).map (fun i => (i.zero, i.size, i.bytes)) = some (some (.int .u8 0), 1, 1) := by kernel_rfl

/-- The first m bytes of Z. -/
def bys (m : Nat) (Z : Nat → Int) : List Value := (List.range m).map (fun i => .int .u8 (Z i))
theorem bys_length (m : Nat) (Z : Nat → Int) : (bys m Z).length = m := by simp [bys]
theorem bys_get {m : Nat} {Z : Nat → Int} {j : Nat} (h : j < m) : (bys m Z)[j]? = some (.int .u8 (Z j)) := by simp [bys, h]
theorem bys_one (m : Nat) (Z : Nat → Int) : ∀ v ∈ bys m Z, v.oneCell' = true := by
  intro v hv
  obtain ⟨i, _, rfl⟩ := List.mem_map.1 hv
  rfl

/-- 'append(out, xs...)', out the call's own, xs nil or not. -/
theorem append_reads {w : World} {ops : Array Oper} {rest : List Oper} {o : Oper} {a : Act} {Q : Exit → Act → World → Prop} (hgd : o.guard = none) (s x : Operand)
    (ho : o.op = .call { callee := .builtin .append, args := #[s, x], argTypes := #[22, 22] })
    (base : Nat) (v : Value) (n : Nat) (xs : List Value) (hs : a.eval s = v) (hown : w.ownsRow base 5 1 v n xs)
    (r : Option Addr) (m c : Nat) (Z : Nat → Int) (hx : a.eval x = .slice r m c) (hc : r = none → c = 0) (hr : Reads .u8 w r m Z)
    (hm : n + m ≤ 8388608) (hbase : base ≤ w.heap.size)
    (h : ∀ v' w', w'.ownsRow base 5 1 v' (n + m) (xs ++ bys m Z) → w.grownBy w' v.ownBlock → wpList Try.prog ops Q rest (a.put o.dst v') w') : wpList Try.prog ops Q (o :: rest) a w := by
  obtain ⟨i0, hi, hz0, hz1, hz2⟩ := info_parts info5b
  cases r with
  | none =>
    obtain rfl := hr.none_len
    obtain rfl := hc rfl
    refine wpList_append_own_none hgd s x 22 ho base 5 i0 1 Try.underlying22 hi v n xs hs hown hx ?_
    refine h v w (by simpa [bys] using hown) ?_
    exact ⟨rfl, rfl, rfl, Nat.le_refl _, fun _ _ _ => rfl⟩
  | some ad =>
    refine wpList_append_own w hgd s x 22 ho base 5 i0 (.int .u8 0) 1 1 Try.underlying22 hi hz0 hz1 hz2 rfl (by decide) v n xs hs hown ad m c (bys m Z) hx (by rw [bys_length]; omega) ?_ (bys_one m Z) (by unfold maxLen; omega) (by omega) hbase (fun v' w' h1 h2 _ => h v' w' h1 h2)
    intro j u hj
    have hjm : j < m := by
      rcases Nat.lt_or_ge j m with h | h
      · exact h
      · simp [bys, h] at hj
    rw [bys_get hjm] at hj
    obtain ⟨b, p, e, _, hcell⟩ := hr j hjm
    obtain rfl := Option.some.inj e
    rw [Addr.add_lit, hcell]
    exact hj

set_option maxHeartbeats 2000000 in
theorem join22 (ra rb rc : Option Addr) (la lb lc ca cb cc : Nat) (Za Zb Zc : Nat → Int) (w : World) (hsum : la + lb + lc ≤ 4194304) (na : ra = none → ca = 0) (nb : rb = none → cb = 0) (nc : rc = none → cc = 0)
    (ha : Reads .u8 w ra la Za) (hb : Reads .u8 w rb lb Zb) (hc : Reads .u8 w rc lc Zc) :
    Calls Try.prog 22 #[.slice ra la ca, .slice rb lb cb, .slice rc lc cc] w fun e w' => ∃ v, e = .returned v ∧ w'.ownsRow w.heap.size 5 1 v (la + lb + lc) (bys la Za ++ bys lb Zb ++ bys lc Zc) ∧ Below w.heap.size w w' := by
  obtain ⟨i0, hi, hz0, hz1, hz2⟩ := info_parts info5b
  have Ha : Hid (Reads .u8 w ra la Za) := ha
  have Hb : Hid (Reads .u8 w rb lb Zb) := hb
  have Hc : Hid (Reads .u8 w rc lc Zc) := hc
  clear ha hb hc
  go_enter Try.func22, Try.ntmps22
  go_upto_region 2 with (first
    | (at_make; refine wpList_make_own _ rfl _ _ 22 rfl w.heap.size 5 i0 (.int .u8 0) 1 Try.underlying22 hi hz0 hz1 .i64 .i64 _ (la + lb + lc) rfl rfl (by omega) (by rw [hz2]; omega) (by unfold maxLen; omega) (Nat.le_refl _) ?_; intro w0 hown0 hgrow0))
  have hb0 : Hid (Below w.heap.size w w0) := (Below.refl _ _).grown hgrow0 (Nat.le_refl _) (fun k h => by cases h)
  clear hgrow0
  go_upto_region 3 with (first
    | (at_builtin; refine append_reads rfl _ _ rfl w.heap.size _ 0 [] rfl hown0 ra la ca Za rfl na (Ha.out.below hb0.out) (by omega) hb0.out.size ?_; intro v1 w1 hown1 hgrow1))
  have hb1 : Hid (Below w.heap.size w w1) := hb0.out.grown hgrow1 hb0.out.size (fun k hk => (hown0.lt k hk).1)
  clear hgrow1 hown0
  go_upto_region 4 with (first
    | (at_builtin; refine append_reads rfl _ _ rfl w.heap.size _ _ _ rfl hown1 rb lb cb Zb rfl nb (Hb.out.below hb1.out) (by omega) hb1.out.size ?_; intro v2 w2 hown2 hgrow2))
  have hb2 : Hid (Below w.heap.size w w2) := hb1.out.grown hgrow2 hb1.out.size (fun k hk => (hown1.lt k hk).1)
  clear hgrow2 hown1
  go_upto_region 5 with (first
    | (at_builtin; refine append_reads rfl _ _ rfl w.heap.size _ _ _ rfl hown2 rc lc cc Zc rfl nc (Hc.out.below hb2.out) (by omega) hb2.out.size ?_; intro v3 w3 hown3 hgrow3))
  have hb3 : Hid (Below w.heap.size w w3) := hb2.out.grown hgrow3 hb2.out.size (fun k hk => (hown2.lt k hk).1)
  clear hgrow3 hown2
  go_wp2_with fail
  go_ret
  exact ⟨v3, rfl, by simpa using hown3, hb3.out⟩
end Go.Proofs.Qxb6603146a
