import Derived.Test.Qxb6602193aRows
import Derived.Test.Qxb6602193aZz
import Derived.Test.Qxb6602193aGuard
import Derived.Test.Qxb6602193aFits
import Derived.Test.Qxb6602193aEqs
import Derived.Test.Qxb6602193aPart
namespace Go.Proofs.Qxb6602193a
open Go.RowKit Go.Deep

theorem info4 : (Try.prog.info? 4).map (fun i => (i.zero, i.size, i.bytes)) = some (some (.bool false), 1, 1) := by kernel_rfl

theorem Own.pos {k : IntKind} {T : TypeId} {w : World} {lo : Nat} {r : Option Addr} {len : Nat} {Z : Nat → Int} (h : Own k T w lo r len Z) :
    ∃ b, lo ≤ b ∧ (0 < len → r = some ⟨b, 0, none⟩ ∧ w.rowIs b T len (fun i => .int k (Z i))) := by
  rcases h with ⟨_, rfl⟩ | ⟨b, e, hl, hr⟩
  · exact ⟨lo, Nat.le_refl _, fun h => by omega⟩
  · exact ⟨b, hl, fun _ => ⟨e, hr⟩⟩

theorem Own.none_cap {k : IntKind} {T : TypeId} {w : World} {lo : Nat} {r : Option Addr} {len : Nat} {Z : Nat → Int} (h : Own k T w lo r len Z) : r = none → len = 0 := by
  rcases h with ⟨_, h⟩ | ⟨b, e, _⟩
  · exact fun _ => h
  · intro hr; rw [hr] at e; cases e

theorem Own.range {k : IntKind} {T : TypeId} {w : World} {lo : Nat} {r : Option Addr} {len : Nat} {Z : Nat → Int} (h : Own k T w lo r len Z) : ∀ c, r = some c → lo ≤ c.block ∧ c.block < w.heap.size := by
  rcases h with ⟨h, _⟩ | ⟨b, e, hl, hr⟩
  · intro c hc; rw [h] at hc; cases hc
  · intro c hc
    rw [e] at hc
    obtain rfl := Option.some.inj hc
    exact ⟨hl, hr.lt⟩

theorem Own.text {w : World} {lo : Nat} {r : Option Addr} {len : Nat} {Z : Nat → Int} (h : Own .u8 5 w lo r len Z) : TextIs w r len Z := by
  rcases h with h | ⟨b, rfl, hl, hr⟩
  · exact .inl h
  · exact .inr ⟨b, rfl, Own.reads (T := 5) (lo := lo) (.inr ⟨b, rfl, hl, hr⟩)⟩

/-- What stands at the head of the first loop's k-th round. -/
structure L1 (P : Nat → Nat) (e : Nat → Nat → Bool) (f0 : Nat → Int) (n m wb ib : Nat) (Y : World) (k : Nat) (wr : World) : Prop where
  kept : Kept2 wb ib Y wr
  want : 0 < m → wr.rowIs wb 21 m (fun x => .int .i32 (wantF P e f0 k x))
  isf : wr.rowIs ib 4 n (fun i => .bool (decide (i < k ∧ fst e i = i)))

theorem nmLen_le {n tl k : Nat} {F : Nat → Int} (h : endOf n tl F k ≤ tl) : nmLen n tl F k ≤ tl := by unfold nmLen; omega

theorem keepS1 {B : Nat} {w0 wa : World} {a0 a1 a2 a3 : Addr} {v0 v1 v2 v3 : Value} (h : wa.cell? a0 = some v0 ∧ wa.cell? a1 = some v1 ∧ wa.cell? a2 = some v2 ∧ wa.cell? a3 = some v3 ∧ Below B w0 wa) (q : Nat) :
    (wa.drewN q).cell? a0 = some v0 ∧ (wa.drewN q).cell? a1 = some v1 ∧ (wa.drewN q).cell? a2 = some v2 ∧ (wa.drewN q).cell? a3 = some v3 ∧ Below B w0 (wa.drewN q) :=
  ⟨h.1, h.2.1, h.2.2.1, h.2.2.2.1, below_drewN h.2.2.2.2 q⟩

theorem isf_step (e : Nat → Nat → Bool) (i k : Nat) (h : fst e k = k) : (if i = k then Value.bool true else .bool (decide (i < k ∧ fst e i = i))) = .bool (decide (i < k + 1 ∧ fst e i = i)) := by
  by_cases hi : i = k
  · subst hi; simp [h]
  · rw [if_neg hi]
    have : (i < k ∧ fst e i = i) ↔ (i < k + 1 ∧ fst e i = i) := by constructor <;> (intro h'; exact ⟨by omega, h'.2⟩)
    simp [this]

theorem isf_keep (e : Nat → Nat → Bool) (i k : Nat) (h : fst e k ≠ k) : Value.bool (decide (i < k ∧ fst e i = i)) = .bool (decide (i < k + 1 ∧ fst e i = i)) := by
  have : (i < k ∧ fst e i = i) ↔ (i < k + 1 ∧ fst e i = i) := by
    constructor
    · intro h'; exact ⟨by omega, h'.2⟩
    · intro h'
      refine ⟨?_, h'.2⟩
      rcases Nat.lt_or_ge i k with h1 | h1
      · exact h1
      · have : i = k := by omega
        subst this
        exact absurd h'.2 h
  simp [this]

theorem want_step {P : Nat → Nat} {e : Nat → Nat → Bool} {f0 : Nat → Int} {k j : Nat} (hf : fst e k = j) (x : Nat) :
    (if x = P k then Value.int .i32 (P j : Int) else .int .i32 (wantF P e f0 k x)) = .int .i32 (wantF P e f0 (k + 1) x) := by
  show _ = Value.int .i32 (if x = P k then ((P (fst e k) : Nat) : Int) else wantF P e f0 k x)
  rw [hf]
  split <;> rfl

/-- The k-th name is the first of its kind. -/
theorem l1_new {P : Nat → Nat} {e : Nat → Nat → Bool} {f0 : Nat → Int} {n m wb ib : Nat} {Y w4 : World} {k : Nat} (K : Kept2 wb ib Y w4) (X : w4.rowIs wb 21 m (fun x => .int .i32 (wantF P e f0 k x)))
    (Z : w4.rowIs ib 4 n (fun i => .bool (decide (i < k ∧ fst e i = i)))) (hne : wb ≠ ib) (hf : fst e k = k) :
    L1 P e f0 n m wb ib Y (k + 1) ((w4.setCell ⟨wb, P k, none⟩ (.int .i32 (P k : Int))).setCell ⟨ib, k, none⟩ (.bool true)).drew :=
  ⟨((K.setX (P k) _).setY k _).drew, fun _ => ((X.set (P k) _).setOther (a := ⟨ib, k, none⟩) hne _).congr (fun x _ => want_step hf x), ((Z.setOther (a := ⟨wb, P k, none⟩) (fun h => hne h.symm) _).set k _).congr (fun i _ => isf_step e i k hf)⟩

/-- The k-th name is that of an earlier one. -/
theorem l1_old {P : Nat → Nat} {e : Nat → Nat → Bool} {f0 : Nat → Int} {n m wb ib : Nat} {Y w4 : World} {k j : Nat} (K : Kept2 wb ib Y w4) (X : w4.rowIs wb 21 m (fun x => .int .i32 (wantF P e f0 k x)))
    (Z : w4.rowIs ib 4 n (fun i => .bool (decide (i < k ∧ fst e i = i)))) (hne : wb ≠ ib) (hf : fst e k = j) (hjk : j < k) :
    L1 P e f0 n m wb ib Y (k + 1) (w4.setCell ⟨wb, P k, none⟩ (.int .i32 (P j : Int))).drew :=
  ⟨(K.setX (P k) _).drew, fun _ => (X.set (P k) _).congr (fun x _ => want_step hf x), (Z.setOther (a := ⟨wb, P k, none⟩) (fun h => hne h.symm) _).congr (fun i _ => isf_keep e i k (by omega))⟩

/-- A number for a row's block: its own, or one that no block bears. -/
theorem Own.num {k : IntKind} {T : TypeId} {w : World} {lo : Nat} {r : Option Addr} {len : Nat} {Z : Nat → Int} (h : Own k T w lo r len Z) (hi d : Nat) (hr : ∀ c, r = some c → lo ≤ c.block ∧ c.block < hi) :
    ∃ b, (0 < len → r = some ⟨b, 0, none⟩ ∧ w.rowIs b T len (fun i => .int k (Z i))) ∧ ((0 < len ∧ lo ≤ b ∧ b < hi) ∨ (len = 0 ∧ b = d)) := by
  rcases Nat.eq_zero_or_pos len with h0 | h0
  · exact ⟨d, fun h => by omega, .inr ⟨h0, rfl⟩⟩
  · obtain ⟨b, _, hb⟩ := h.pos
    have := hr _ (hb h0).1
    exact ⟨b, hb, .inl ⟨h0, this.1, this.2⟩⟩

theorem reads_of_row {k : IntKind} {T : TypeId} {w : World} {r : Option Addr} {b len : Nat} {Z : Nat → Int} (h : 0 < len → r = some ⟨b, 0, none⟩ ∧ w.rowIs b T len (fun i => .int k (Z i))) : Reads k w r len Z := by
  intro i hi
  obtain ⟨e, hr⟩ := h (by omega)
  exact ⟨b, 0, e, hr.lt, by rw [Nat.zero_add]; exact hr.cell hi⟩

def seenB (tb : Nat → Nat) (s i : Nat) : Bool := (List.range s).any (fun t => tb t == i + 1)

theorem seenB_zero (tb : Nat → Nat) (i : Nat) : seenB tb 0 i = false := rfl
theorem seenB_succ (tb : Nat → Nat) (s i : Nat) : seenB tb (s + 1) i = (seenB tb s i || tb s == i + 1) := by
  unfold seenB; rw [List.range_succ, List.any_append]; simp
theorem seenB_false {tb : Nat → Nat} {s i : Nat} (h : ∀ t, t < s → tb t ≠ i + 1) : seenB tb s i = false := by
  unfold seenB
  rw [List.any_eq_false]
  intro t ht
  simpa using h t (List.mem_range.1 ht)

/-- What stands at the head of the last loop's s-th round. -/
structure L3 (tb : Nat → Nat) (n sn : Nat) (Z : World) (s : Nat) (wr : World) : Prop where
  kept : Kept2 sn sn Z wr
  seen : wr.rowIs sn 4 n (fun i => .bool (seenB tb s i))

theorem l3_skip {tb : Nat → Nat} {n sn : Nat} {Z wr : World} {s : Nat} (h : L3 tb n sn Z s wr) (h0 : tb s = 0) : L3 tb n sn Z (s + 1) wr :=
  ⟨h.kept, h.seen.congr (fun i _ => by rw [seenB_succ, h0]; simp)⟩

theorem l3_put {tb : Nat → Nat} {n sn : Nat} {Z wr : World} {s i : Nat} (h : L3 tb n sn Z s wr) (hi : tb s = i + 1) : L3 tb n sn Z (s + 1) (wr.setCell ⟨sn, i, none⟩ (.bool true)) :=
  ⟨h.kept.setX i _, (h.seen.set i _).congr (fun j _ => by
    rw [seenB_succ, hi]
    by_cases hj : j = i
    · subst hj; simp
    · rw [if_neg hj]
      have : (i + 1 == j + 1) = false := by simp; omega
      rw [this, Bool.or_false])⟩

/-- A place on the way from where the hash points to the slot. -/
structure OnWay (H : Nat → Nat) (size : Nat) (tb : Nat → Nat) (i d s d' t : Nat) : Prop where
  pos : t = (H i + d') % size
  le : d' ≤ d
  dlt : d < size
  here : s = (H i + d) % size
  path : ∀ x, x < d → tb ((H i + x) % size) ≠ 0

theorem OnWay.more {H : Nat → Nat} {size : Nat} {tb : Nat → Nat} {i d s d' t : Nat} (h : OnWay H size tb i d s d' t) (hne : t ≠ s) : d' < d ∧ tb t ≠ 0 ∧ OnWay H size tb i d s (d' + 1) ((t + 1) % size) := by
  have hlt : d' < d := by
    rcases Nat.lt_or_ge d' d with h1 | h1
    · exact h1
    · exfalso
      have : d' = d := by have := h.le; omega
      exact hne (by rw [h.pos, h.here, this])
  refine ⟨hlt, by rw [h.pos]; exact h.path d' hlt, ?_, hlt, h.dlt, h.here, h.path⟩
  rw [h.pos, Nat.mod_add_mod, Nat.add_assoc]

set_option maxHeartbeats 8000000 in
set_option maxRecDepth 100000 in
theorem law (a0 : Option Addr) (l0 c0 : Nat) (a1 : Option Addr) (l1 c1 : Nat) (a2 : Option Addr) (l2 c2 : Nat) (a3 : Option Addr) (l3 c3 : Nat) (a4 : Option Addr) (l4 c4 : Nat) (a5 : Option Addr) (l5 c5 : Nat)
    (P H F : Nat → Nat) (T f0 S : Nat → Int) (w : World)
    (h0 : l0 ≤ maxLen) (h1 : l1 ≤ maxLen) (h2 : l2 ≤ maxLen) (h3 : l3 ≤ maxLen) (h4 : l4 ≤ maxLen) (h5 : l5 ≤ maxLen)
    (n0 : a0 = none → c0 = 0) (n1 : a1 = none → c1 = 0) (n2 : a2 = none → c2 = 0) (n3 : a3 = none → c3 = 0) (n4 : a4 = none → c4 = 0) (n5 : a5 = none → c5 = 0)
    (r0 : Reads .u32 w a0 l0 (fun i => (P i : Int))) (r1 : Reads .u32 w a1 l1 (fun i => (H i : Int))) (r2 : Reads .u32 w a2 l2 (fun i => (F i : Int))) (r3 : Reads .u8 w a3 l3 T) (r4 : Reads .i32 w a4 l4 f0) (r5 : Reads .u32 w a5 l5 S)
    (hP : ∀ i, P i ≤ 4294967295) (hH : ∀ i, H i ≤ 4294967295) (hF : ∀ i, F i ≤ 4294967295) (hT : ∀ i, 0 ≤ T i ∧ T i ≤ 255) :
    Calls Try.prog 3 #[.slice a0 l0 c0, .slice a1 l1 c1, .slice a2 l2 c2, .slice a3 l3 c3, .slice a4 l4 c4, .slice a5 l5 c5] w fun e w' => e = .returned (.bool true) ∧ Below w.heap.size w w' := by
  go_enter Try.func3, Try.ntmps3
  go_wp2_with fail
  refine (zzBytes a0 l0 c0 a1 l1 c1 a2 l2 c2 a3 l3 c3 a4 l4 c4 a5 l5 c5 w h0 h1 h2 h3 h4 h5).mono ?_
  rintro e w1 ⟨v, rfl, hw, hv⟩
  subst hw
  cases v with
  | false =>
    go_wp2_with fail
    go_ret
    exact ⟨rfl, Below.refl _ _⟩
  | true =>
    have hv' := hv rfl
    clear hv
    obtain ⟨b0, b1, b2, b3, b4, b5⟩ := hv'
    unfold maxLen at h0 h1 h2 h3 h4 h5
    have q0 : decide (1048576 < (l0 : Int)) = false := decide_eq_false (by omega)
    have q1 : decide (1048576 < (l1 : Int)) = false := decide_eq_false (by omega)
    have q2 : decide (1048576 < (l2 : Int)) = false := decide_eq_false (by omega)
    have q3 : decide (1048576 < (l3 : Int)) = false := decide_eq_false (by omega)
    have q4 : decide (1048576 < (l4 : Int)) = false := decide_eq_false (by omega)
    have q5 : decide (1048576 < (l5 : Int)) = false := decide_eq_false (by omega)
    clear h0 h1 h2 h3 h4 h5
    go_upto_if 85 with (fail)
    clear q0 q1 q2 q3 q4 q5
    by_cases hsum : 1048576 < 4 * ((l0 : Int) + l1 + l2 + l4 + l5) + l3
    · go_wp2_with fail
      go_ret
      exact ⟨rfl, Below.refl _ _⟩
    by_cases hn : 4096 < l0
    · have q : decide (4096 < (l0 : Int)) = true := decide_eq_true (by omega)
      go_wp2_with fail
      go_ret
      exact ⟨rfl, Below.refl _ _⟩
    have hnz : decide (4096 < (l0 : Int)) = false := decide_eq_false (by omega)
    by_cases hl1 : l1 = l0
    case neg =>
      have hl1z : ((l1 : Int) != (l0 : Int)) = true := by simp; omega
      go_wp2_with fail
      go_ret
      exact ⟨rfl, Below.refl _ _⟩
    subst hl1
    by_cases hl2 : l2 = l1
    case neg =>
      have hl1z : ((l1 : Int) != (l1 : Int)) = false := by simp
      have hl2z : ((l2 : Int) != (l1 : Int)) = true := by simp; omega
      go_wp2_with fail
      go_ret
      exact ⟨rfl, Below.refl _ _⟩
    subst hl2
    have hl1z : ((l2 : Int) != (l2 : Int)) = false := by simp
    go_wp2_with fail
    clear hnz hl1z
    refine (fromsFit a2 l2 c2 l3 _ w1 b2 b3 (fun i => ⟨by omega, by have := hF i; omega⟩) r2).mono ?_
    rintro e w2 ⟨v, rfl, ⟨q, hq⟩, hv⟩
    subst hq
    cases v with
    | false =>
      go_wp2_with fail
      go_ret
      exact ⟨rfl, below_drewN (Below.refl _ _) _⟩
    | true =>
      have hfro := hv rfl
      clear hv
      go_wp2_with fail
      refine (placesFit a0 l2 c0 l4 _ _ b2 b4 (fun i => ⟨by omega, by have := hP i; omega⟩) (r0.below (below_drewN (Below.refl _ _) _))).mono ?_
      rintro e w2 ⟨v, rfl, ⟨q', hq⟩, hv⟩
      subst hq
      cases v with
      | false =>
        go_wp2_with fail
        go_ret
        exact ⟨rfl, below_drewN (Below.refl _ _) _⟩
      | true =>
        have hpl := hv rfl
        clear hv
        have hend := fun i hi => froms_end hfro.1 hfro.2 i hi
        have hPm := fun i hi => places_lt hpl.1 hpl.2 i hi
        go_wp2_with fail
        have E0 : Below w1.heap.size w1 (w1.drewN (q + q')) := below_drewN (Below.refl _ _) _
        generalize w1.drewN (q + q') = X0 at *
        clear hfro hpl hsum
        refine (cloneU32_any a0 l2 c0 _ X0 b2 (r0.below E0) n0).mono ?_
        rintro e X1 ⟨p0, rfl, o0, e1⟩
        have E1 : Below w1.heap.size w1 X1 := E0.trans (e1.mono E0.size)
        go_wp2_with fail
        refine (cloneU32_any a1 l2 c1 _ X1 b2 (r1.below E1) n1).mono ?_
        rintro e X2 ⟨p1, rfl, o1, e2⟩
        have E2 : Below w1.heap.size w1 X2 := E1.trans (e2.mono E1.size)
        go_wp2_with fail
        refine (cloneU32_any a2 l2 c2 _ X2 b2 (r2.below E2) n2).mono ?_
        rintro e X3 ⟨p2, rfl, o2, e3⟩
        have E3 : Below w1.heap.size w1 X3 := E2.trans (e3.mono E2.size)
        go_wp2_with fail
        refine (cloneBytes_any a3 l3 c3 _ X3 b3 (r3.below E3) n3).mono ?_
        rintro e X4 ⟨p3, rfl, o3, e4⟩
        have E4 : Below w1.heap.size w1 X4 := E3.trans (e4.mono E3.size)
        go_wp2_with fail
        refine (cloneI32_any a4 l4 c4 _ X4 b4 (r4.below E4) n4).mono ?_
        rintro e X5 ⟨p4, rfl, o4, e5⟩
        have E5 : Below w1.heap.size w1 X5 := E4.trans (e5.mono E4.size)
        go_wp2_with fail
        refine (cloneU32_any a5 l5 c5 _ X5 b5 (r5.below E5) n5).mono ?_
        rintro e X6 ⟨p5, rfl, o5, e6⟩
        have E6 : Below w1.heap.size w1 X6 := E5.trans (e6.mono E5.size)
        have F5 : Below X4.heap.size X4 X6 := e5.trans (e6.mono e5.size)
        have F4 : Below X3.heap.size X3 X6 := e4.trans (F5.mono e4.size)
        have F3 : Below X2.heap.size X2 X6 := e3.trans (F4.mono e3.size)
        have F2 : Below X1.heap.size X1 X6 := e2.trans (F3.mono e2.size)
        have g0 := o0.range
        have g1 := o1.range
        have g3 := o3.range
        have g4 := o4.range
        have g5 := o5.range
        replace o0 := o0.below F2
        replace o1 := o1.below F3
        replace o2 := o2.below F4
        replace o3 := o3.below F5
        replace o4 := o4.below e6
        have s0 := E0.size
        have s1 := e1.size
        have s2 := e2.size
        have s3 := e3.size
        have s4 := e4.size
        have s5 := e5.size
        have s6 := e6.size
        clear r0 r1 r2 r3 r4 r5 E0 E1 E2 E3 E4 E5 F2 F3 F4 F5 e1 e2 e3 e4 e5 e6 n0 n1 n2 n3 n4 n5
        go_wp2_with fail
        refine (makePart p0 p1 p2 l2 p3 l3 _ _ _ X6 (by omega) o0.reads o1.reads o2.reads).mono ?_
        rintro e X7 ⟨rfl, e7, hent⟩
        have s7' : X6.heap.size + 1 < X7.heap.size := hent.lt
        have s7 := e7.size
        replace o0 := o0.below e7
        replace o1 := o1.below e7
        replace o3 := o3.below e7
        replace o4 := o4.below e7
        replace o5 := o5.below e7
        have E7 : Below w1.heap.size w1 X7 := E6.trans (e7.mono E6.size)
        clear E6 e7
        have e0 : Below X7.heap.size X7 (X7.alloc (.cells #[.slice (some ⟨X6.heap.size + 1, 0, none⟩) l2 l2, .slice p3 l3 l3] 32)) := (Below.refl _ _).alloc (Nat.le_refl _) _
        have hbox := box_row (X6.heap.size + 1) l2 p3 l3 X7
        go_wp2_with fail
        refine (cloneI32_any p4 l4 l4 f0 _ b4 (o4.below e0).reads (fun h => o4.none_cap h)).mono ?_
        rintro e X8 ⟨p6, rfl, o6, e8⟩
        rw [World.size_alloc] at o6 e8
        have g6 := o6.range
        have s8 := e8.size
        rw [World.size_alloc] at s8
        have e78 : Below X7.heap.size X7 X8 := e0.trans (e8.mono (by omega))
        replace o0 := o0.below e78
        replace o1 := o1.below e78
        replace o3 := o3.below e78
        replace o4 := o4.below e78
        replace o5 := o5.below e78
        replace hent := row_below hent e78
        replace hbox := hbox.of_block (e8.block _ (by omega))
        have E8 : Below w1.heap.size w1 X8 := E7.trans (e78.mono E7.size)
        clear E7 e78 e0 e8
        -- isFirst is made; the world in which the first loop begins
        have hmk := run_make_row' (P := Try.prog) 34 4 (.bool false) 1 Try.underlying34 info4 rfl .i64 .i64 l2 (by omega) (by omega)
        go_wp2_with fail
        clear hmk
        have e9 : Below X8.heap.size X8 (X8.alloc (.cells (madeCells #[.bool false] l2) 4)) := (Below.refl _ _).alloc (Nat.le_refl _) _
        have hisf := World.rowIs_made X8 (.bool false) l2 4
        obtain ⟨Y, hY⟩ : ∃ Y, Y = X8.alloc (.cells (madeCells #[.bool false] l2) 4) := ⟨_, rfl⟩
        rw [← hY] at e9 hisf ⊢
        have s9 : X8.heap.size < Y.heap.size := hisf.lt
        replace o0 := o0.below e9
        replace o1 := o1.below e9
        replace o3 := o3.below e9
        replace o4 := o4.below e9
        replace o5 := o5.below e9
        replace o6 := o6.below e9
        replace hent := row_below hent e9
        replace hbox := row_below hbox e9
        have EY : Below w1.heap.size w1 Y := E8.trans (e9.mono E8.size)
        have htx := o3.text
        obtain ⟨wb, hwb, hwr⟩ := o6.pos
        clear hY E8 e9 o2
        have hK := keyE_ok l2 l3 H F T
        have hL1 : L1 P (keyE l2 l3 H F T) f0 l2 l4 wb X8.heap.size Y 0 Y := ⟨Kept2.refl _ _ _, fun h => (hwr h).2, hisf.congr (fun i _ => by simp)⟩
        go_loopg [17, 18] l2 (fun g nf i wr => ∃ k : Nat, k ≤ l2 ∧ g = l2 - k ∧ i = .int .i64 k ∧ nf = .int .i64 (countF (keyE l2 l3 H F T) k) ∧ L1 P (keyE l2 l3 H F T) f0 l2 l4 wb X8.heap.size Y k wr)
        case atStart => exact ⟨0, Nat.zero_le _, rfl, rfl, rfl, hL1⟩
        case round =>
          clear hL1
          obtain ⟨k, hk, rfl, rfl, rfl, hR⟩ := hrel
          by_cases hkn : k < l2
          · have hknz : (k : Int) < (l2 : Int) := by omega
            have E3' := hR.kept.row hbox (by omega) (by omega)
            have z0 : wr.cell? ⟨X7.heap.size, 0, none⟩ = some (.slice (some ⟨X6.heap.size + 1, 0, none⟩) l2 l2) := by rw [E3'.cell (i := 0) (by omega)]; rfl
            have z1 : wr.cell? ⟨X7.heap.size, 1, none⟩ = some (.slice p3 l3 l3) := by rw [E3'.cell (i := 1) (by omega)]; rfl
            have hFz : ∀ i, (0 : Int) ≤ ((F i : Nat) : Int) ∧ ((F i : Nat) : Int) ≤ 4294967295 := fun i => ⟨by omega, by have := hF i; omega⟩
            have htxk : ∀ c, p3 = some c → c.block ≠ wb ∧ c.block ≠ X8.heap.size := fun c hc => by have := g3 c hc; omega
            go_wp2_with fail
            refine (zzName_any (X6.heap.size + 1) l2 p3 l3 k _ _ _ T _ (by omega) b3 hkn hFz (hend k hkn).1 (hend k hkn).2 (hR.kept.row hent (by omega) (by omega)) (text_kept hR.kept htx htxk)).mono ?_
            rintro e W ⟨r, c, rfl, hrd, B2⟩
            clear z0 z1
            have hmp : 0 < l4 := by have := hPm k hkn; omega
            obtain ⟨hp6, hwrow⟩ := hwr hmp
            subst hp6
            have hwbl : wb < X8.heap.size := (g6 _ rfl).2
            have GK : Kept2 wb X8.heap.size Y W := hR.kept.below B2
            have G1 := GK.row hent (by omega) (by omega)
            have G2 := text_kept GK htx htxk
            have G3 := GK.row hbox (by omega) (by omega)
            have G4 := row_below (hR.want hmp) B2
            have G5 := row_below hR.isf B2
            have G6 := GK.reads o0.reads (fun c hc => by have := g0 c hc; omega)
            have G7 := GK.reads o1.reads (fun c hc => by have := g1 c hc; omega)
            generalize hnl : nmLen l2 l3 (fun t => (F t : Int)) k = nl at *
            have HNL : Hid (nmLen l2 l3 (fun t => (F t : Int)) k = nl) := hnl
            have hnll : nl ≤ 1048576 := by have := nmLen_le (hend k hkn).2; omega
            have hcle := countF_le (keyE l2 l3 H F T) k
            obtain ⟨cf, hcf⟩ : ∃ cf, cf = countF (keyE l2 l3 H F T) k := ⟨_, rfl⟩
            rw [← hcf] at hcle ⊢
            have HCF : Hid (cf = countF (keyE l2 l3 H F T) k) := hcf
            clear hcf hnl hR E3' B2 hwrow
            go_wp2_with fail
            go_loopg [17, 20] (k + 1) (fun g nf i wx => ∃ j : Nat, j ≤ k ∧ g = k + 1 - j ∧ nf = .int .i64 (cf : Int) ∧ i = .int .i64 j ∧ Hid (∀ j', j' < j → keyE l2 l3 H F T j' k = false) ∧ Below W.heap.size W wx)
            case atStart => exact ⟨0, Nat.zero_le _, rfl, rfl, rfl, fun j' hj' => by omega, Below.refl _ _⟩
            case round =>
              obtain ⟨j, hjk, rfl, rfl, rfl, hno, hbx⟩ := hrel
              have hjn : j < l2 := by omega
              have hjz : (j : Int) ≤ (k : Int) := by omega
              have hjz' : (j : Int) < (l2 : Int) := by omega
              obtain ⟨hb, ho, rfl, _, hcell⟩ := (G7.below hbx).form hjn
              have c1 := hcell j hjn
              have c2 := hcell k hkn
              have X3 := row_below G3 hbx
              have z0 : wr.cell? ⟨X7.heap.size, 0, none⟩ = some (.slice (some ⟨X6.heap.size + 1, 0, none⟩) l2 l2) := by rw [X3.cell (i := 0) (by omega)]; rfl
              have z1 : wr.cell? ⟨X7.heap.size, 1, none⟩ = some (.slice p3 l3 l3) := by rw [X3.cell (i := 1) (by omega)]; rfl
              clear hcell
              by_cases hh : H j = H k
              · have hd : ((H j : Int) == (H k : Int)) = true := by rw [hh]; simp
                have HH : Hid (H j = H k) := hh
                have hej := hend j hjn
                have hjl : nmLen l2 l3 (fun t => (F t : Int)) j ≤ 1048576 := by have := nmLen_le hej.2; omega
                clear hh
                go_wp2_with fail
                go_region_held3 (fun w' => w'.cell? ⟨X7.heap.size, 0, none⟩ = some (.slice (some ⟨X6.heap.size + 1, 0, none⟩) l2 l2) ∧ w'.cell? ⟨X7.heap.size, 1, none⟩ = some (.slice p3 l3 l3) ∧ w'.cell? ⟨hb, ho + j, none⟩ = some (.int .u32 (H j : Int)) ∧ w'.cell? ⟨hb, ho + k, none⟩ = some (.int .u32 (H k : Int)) ∧ Below W.heap.size W w') (first | (refine ⟨z0, z1, c1, c2, ?_⟩; first | exact hbx.drew | exact hbx) | exact keepS (wa := wr.drew) ⟨z0, z1, c1, c2, hbx.drew⟩ hbx.size hb3 | exact keepS1 (keepS (wa := wr.drew) ⟨z0, z1, c1, c2, hbx.drew⟩ hbx.size hb3) _)
                  (first | (go_at_call 12; refine (zzName_any (X6.heap.size + 1) l2 p3 l3 j _ _ _ T _ (by omega) b3 hjn hFz hej.1 hej.2 (by exact row_below G1 hbx.drew) (by exact G2.below hbx.drew)).mono ?_; rintro e w3 ⟨r3, c3, rfl, hrd3, hb3⟩) | (go_at_call 13; refine (bytesEq _ _ _ _ _ _ _ _ _ hjl hnll (by exact hrd3) (by exact (hrd.below hbx.drew).below hb3)).mono ?_; rintro e w4 ⟨v, rfl, ⟨q4, hw4⟩, hv⟩; subst hw4))
                rename_i hHeld
                have hke : Hid (keyE l2 l3 H F T j k = v) := by
                  show keyE l2 l3 H F T j k = v
                  symm
                  rw [Bool.eq_iff_iff, hv]
                  simp only [keyE, decide_eq_true_eq, HNL.out]
                  exact ⟨fun h => ⟨HH.out, h⟩, fun h => h.2⟩
                have hbx4 : Below W.heap.size W (w3.drewN q4) := hHeld.2.2.2.2
                generalize w3.drewN q4 = w4 at *
                clear hHeld hv hrd3 hb3 z0 z1 c1 c2
                cases v with
                | false =>
                  have hjk' : j ≠ k := fun h => by have := hke.out; rw [h, hK.refl] at this; cases this
                  go_wp2_with fail
                  go_roundg (k + 1 - (j + 1))
                  case measure => go_light; omega
                  case rel =>
                    go_light
                    exact ⟨j + 1, by omega, rfl, rfl, by simp, fun j' hj' => by
                      by_cases h : j' = j
                      · subst h; exact hke.out
                      · exact hno j' (by omega), hbx4⟩
                | true =>
                  have hfst : Hid (fst (keyE l2 l3 H F T) k = j) := fst_uniq hK hke.out hno.out
                  have hPk := hPm k hkn
                  have hPj := hPm j hjn
                  have hPz : (P k : Int) < (l4 : Int) := by omega
                  obtain ⟨pb, po, rfl, _, hcell⟩ := (G6.below hbx4).form hjn
                  have c1 := hcell j hjn
                  have c2 := hcell k hkn
                  have Y4 := row_below G4 hbx4
                  have Y5 := row_below G5 hbx4
                  have z3 : w4.cell? ⟨wb, P k, none⟩ = some (.int .i32 (wantF P (keyE l2 l3 H F T) f0 k (P k))) := Y4.cell hPk
                  have z4 := Y4.frozen (P k)
                  clear hcell
                  have Z5 : ∀ v, (w4.setCell ⟨wb, P k, none⟩ v).rowIs X8.heap.size 4 l2 (fun i => .bool (decide (i < k ∧ fst (keyE l2 l3 H F T) i = i))) := fun v => Y5.setOther (a := ⟨wb, P k, none⟩) (by simp; omega) v
                  by_cases hjke : j = k
                  · have hq : ((j : Int) == (k : Int)) = true := by rw [hjke]; simp
                    have z5 : ∀ v, (w4.setCell ⟨wb, P k, none⟩ v).cell? ⟨X8.heap.size, k, none⟩ = some (.bool false) := fun v => by rw [(Z5 v).cell hkn]; simp
                    have z6 : ∀ v, (w4.setCell ⟨wb, P k, none⟩ v).frozen? ⟨X8.heap.size, k, none⟩ = false := fun v => (Z5 v).frozen k
                    have R := l1_new (m := l4) (GK.below hbx4) Y4 Y5 (by omega) (by rw [hfst.out]; exact hjke)
                    have HJ : Hid (j = k) := hjke
                    have HN : Hid ((cf : Int) + 1 = countF (keyE l2 l3 H F T) (k + 1)) := by
                      show (cf : Int) + 1 = ((countF (keyE l2 l3 H F T) k + if fst (keyE l2 l3 H F T) k = k then 1 else 0 : Nat) : Int)
                      rw [HCF.out, if_pos (by rw [hfst.out]; exact hjke)]; rfl
                    clear hjke Z5
                    go_wp2_with fail
                    go_region
                    all_goals
                      go_wp2_with fail
                      go_roundg (l2 - (k + 1))
                      case measure => go_light; omega
                      case rel =>
                        go_light
                        rw [HJ.out]
                        exact ⟨k + 1, by omega, rfl, by simp, by rw [HN.out], R⟩
                  · have hq : ((j : Int) == (k : Int)) = false := by simp; omega
                    have R := l1_old (m := l4) (GK.below hbx4) Y4 Y5 (by omega) hfst.out (by omega)
                    have HN : Hid ((cf : Int) = countF (keyE l2 l3 H F T) (k + 1)) := by
                      show (cf : Int) = ((countF (keyE l2 l3 H F T) k + if fst (keyE l2 l3 H F T) k = k then 1 else 0 : Nat) : Int)
                      rw [HCF.out, if_neg (by rw [hfst.out]; exact hjke)]; rfl
                    clear hjke Z5
                    go_wp2_with fail
                    go_region
                    all_goals
                      go_wp2_with fail
                      go_roundg (l2 - (k + 1))
                      case measure => go_light; omega
                      case rel =>
                        go_light
                        exact ⟨k + 1, by omega, rfl, by simp, by rw [HN.out], R⟩
              · have hd : ((H j : Int) == (H k : Int)) = false := by simp; omega
                have hnk : keyE l2 l3 H F T j k = false := by simp [keyE, hh]
                have hjk' : j ≠ k := fun h => hh (by rw [h])
                go_wp2_with fail
                go_quiet (fail)
                go_wp2_with fail
                go_roundg (k + 1 - (j + 1))
                case measure => go_light; omega
                case rel =>
                  go_light
                  exact ⟨j + 1, by omega, rfl, rfl, by simp, fun j' hj' => by
                    by_cases h : j' = j
                    · subst h; exact hnk
                    · exact hno j' (by omega), below_drewN hbx _⟩
          · -- the first loop is over
            obtain rfl : k = l2 := by omega
            have hVs := hR.kept.size
            have hrange : ∀ c, p3 = some c → c.block ≠ wb ∧ c.block ≠ X8.heap.size := fun c hc => by have := g3 c hc; omega
            have V0 := hR.kept.row hbox (by omega) (by omega)
            have V1 := hR.kept.row hent (by omega) (by omega)
            have V2 := text_kept hR.kept htx hrange
            have V7 : Reads .u32 wr p1 k (fun i => (H i : Int)) := hR.kept.reads o1.reads (fun c hc => by have := g1 c hc; omega)
            obtain ⟨fb, hfr, hfd⟩ := o4.num X5.heap.size (wr.heap.size + 10) (fun c hc => by have := g4 c hc; omega)
            obtain ⟨sb, hsr, hsd⟩ := o5.num X6.heap.size (wr.heap.size + 11) (fun c hc => by have := g5 c hc; omega)
            have z0 : wr.cell? ⟨X7.heap.size, 0, none⟩ = some (.slice (some ⟨X6.heap.size + 1, 0, none⟩) k k) := by rw [V0.cell (i := 0) (by omega)]; rfl
            have z1 : wr.cell? ⟨X7.heap.size, 1, none⟩ = some (.slice p3 l3 l3) := by rw [V0.cell (i := 1) (by omega)]; rfl
            have hcle := countF_le (keyE k l3 H F T) k
            go_wp2_with fail
            refine (zzFirsts_any (X6.heap.size + 1) k p3 l3 fb l4 p4 sb l5 p5 P H F T f0 (fun i => .int .u32 (S i)) wr (by omega) b3 b4 b5 hF hPm hH hT (fun i hi => (hend i hi).1) (fun i hi => (hend i hi).2) V1 V2
              (fun h => ⟨(hfr h).1, hR.kept.row (hfr h).2 (by omega) (by omega)⟩) (fun h => ⟨(hsr h).1, hR.kept.row (hsr h).2 (by omega) (by omega)⟩)
              (by omega) (by omega) (by omega) (fun c hc => by have := g3 c hc; omega) (by omega) (by omega) (by omega)).mono ?_
            rintro e V ⟨size, tbk, cap, tb, M, g, rfl, hsize, hI, htrow, hMs, hg, hfir, htk, hK2⟩
            have hVs2 := hK2.size
            have EV : Below w1.heap.size w1 V := (EY.trans (hR.kept.to_below (by omega) (by omega) (by omega))).trans (hK2.to_below (by omega) (by omega) (by omega))
            have J1 : Reads .i32 V p4 l4 (wantF P (keyE k l3 H F T) f0 k) := reads_of_row (fun h => ⟨(hfr h).1, hfir h⟩)
            have J2 : Reads .i32 V p6 l4 (wantF P (keyE k l3 H F T) f0 k) := reads_of_row (fun h => ⟨(hwr h).1, hK2.row (hR.want h) (by have := (hR.want h).lt; omega) (by have := (hR.want h).lt; omega)⟩)
            have J3 := hK2.row hR.isf (by omega) (by omega)
            have J4 : Reads .u32 V p1 k (fun i => (H i : Int)) := hK2.reads V7 (fun c hc => by have := g1 c hc; omega)
            have hMx : tbk ≠ X8.heap.size := by omega
            obtain ⟨pw, hpw⟩ := hsize.pow
            have hsz1 : size = 1 ∨ size < 4 * k := hsize.lt
            have hsz2 : 2 * k ≤ size := hsize.ge
            have hsz0 : 1 ≤ size := by rw [hpw]; exact Nat.pow_pos (by omega)
            have hsz3 : size ≤ 16384 := by omega
            have HI : Hid (TabInv (keyE k l3 H F T) H size k tb) := hI
            have HPW : Hid (size = 2 ^ pw) := hpw
            have hand : bits .and .i64 (size : Int) ((size : Int) - 1) = 0 := by rw [hpw]; exact and_pred_zero _ (by rw [← hpw]; omega)
            clear hR hK2 V0 V1 V2 V7 hfr hsr hfir z0 z1 hI hpw hsize hwr EY o0 o1 o3 o4 o5 o6 hent hbox hisf htx hfd hsd htk g0 g1 g3 g4 g5 g6 hend hF hT
            go_wp2_with fail
            refine (i32Eq p4 l4 l4 _ p6 l4 l4 _ V b4 b4 J1 J2).mono ?_
            rintro e V1 ⟨v, rfl, ⟨q5, hq5⟩, hv⟩
            subst hq5
            obtain rfl : v = true := hv.2 ⟨rfl, fun i _ => rfl⟩
            clear hv J1 J2
            have q1 : decide ((size : Int) < 1) = false := decide_eq_false (by omega)
            have q2 : decide ((size : Int) < 2 * (k : Int)) = false := decide_eq_false (by omega)
            go_upto_region 40 with (fail)
            clear q1 q2 hand
            go_cut [215] (fun s215 wc => s215 = .bool false ∧ wc = V.drewN q5)
            case first =>
              by_cases h1 : size = 1
              · have q3 : decide (1 < (size : Int)) = false := decide_eq_false (by omega)
                go_wp2_with fail
                go_meet
                exact ⟨rfl, rfl⟩
              · have q3 : decide (1 < (size : Int)) = true := decide_eq_true (by omega)
                have q4 : decide (4 * (k : Int) ≤ (size : Int)) = false := decide_eq_false (by omega)
                go_wp2_with fail
                go_meet
                exact ⟨rfl, rfl⟩
            case rest =>
              obtain ⟨rfl, hwc⟩ := hcut
              have hb9 : Below V.heap.size V wc := by rw [hwc]; exact below_drewN (Below.refl _ _) _
              have J3' := row_below J3 hb9
              have J4' := J4.below hb9
              have J5 := row_below htrow hb9
              have EV' : Below w1.heap.size w1 wc := EV.trans (hb9.mono EV.size)
              have hmk := run_make_row' (P := Try.prog) 34 4 (.bool false) 1 Try.underlying34 info4 rfl .i64 .i64 k (by omega) (by omega)
              clear J3 J4 htrow hb9 hwc EV
              go_wp2_with fail
              clear hmk
              have hsn := World.rowIs_made wc (.bool false) k 4
              have e9 : Below wc.heap.size wc (wc.alloc (.cells (madeCells #[.bool false] k) 4)) := (Below.refl _ _).alloc (Nat.le_refl _) _
              obtain ⟨Z, hZ⟩ : ∃ Z, Z = wc.alloc (.cells (madeCells #[.bool false] k) 4) := ⟨_, rfl⟩
              rw [← hZ] at hsn e9 ⊢
              have K3 := row_below J3' e9
              have K4 := J4'.below e9
              have K5 := row_below J5 e9
              have EZ : Below w1.heap.size w1 Z := EV'.trans (e9.mono EV'.size)
              have hw1 : w1.heap.size ≤ wc.heap.size := EV'.size
              have hib := J3'.lt
              have htl' := J5.lt
              have hrd1 : ∀ c, p1 = some c → 0 < k → c.block < wc.heap.size := fun c hc hk0 => by
                obtain ⟨b, o, e, hb, _⟩ := J4' 0 hk0
                rw [e] at hc; obtain rfl := Option.some.inj hc; exact hb
              have hL3 : L3 tb k wc.heap.size Z 0 Z := ⟨Kept2.refl _ _ _, hsn.congr (fun i _ => by rw [seenB_zero])⟩
              generalize wc.heap.size = sn at *
              have hcle2 := countNZ_le tb size
              clear hZ e9 J3' J4' J5 EV' hsn
              go_loopg [25, 26] size (fun g ct i wr => ∃ s : Nat, s ≤ size ∧ g = size - s ∧ i = .int .i64 s ∧ ct = .int .i64 (countNZ tb s) ∧ L3 tb k sn Z s wr)
              case atStart => exact ⟨0, Nat.zero_le _, rfl, rfl, rfl, hL3⟩
              case round =>
                clear hL3
                obtain ⟨s, hs, rfl, rfl, rfl, hR⟩ := hrel
                have hcl := countNZ_le tb s
                obtain ⟨cn, hcn⟩ : ∃ cn, cn = countNZ tb s := ⟨_, rfl⟩
                rw [← hcn] at hcl ⊢
                have HCN : Hid (cn = countNZ tb s) := hcn
                clear hcn
                by_cases hlt : s < size
                · have hltz : (s : Int) < (size : Int) := by omega
                  have M5 := hR.kept.row K5 (by omega) (by omega)
                  by_cases h0 : tb s = 0
                  · have t1 : wr.cell? ⟨tbk, s, none⟩ = some (.int .u32 0) := by rw [M5.cell (by omega), hg s hlt, h0]; rfl
                    have R := l3_skip hR h0
                    have HN : Hid (cn = countNZ tb (s + 1)) := by show cn = countNZ tb s + _; rw [HCN.out, if_pos h0]; rfl
                    clear h0
                    go_wp2_with fail
                    go_roundg (size - (s + 1))
                    case measure => go_light; omega
                    case rel => go_light; exact ⟨s + 1, by omega, rfl, by simp, by rw [HN.out], R⟩
                  · obtain ⟨i, hi⟩ : ∃ i, tb s = i + 1 := ⟨tb s - 1, by omega⟩
                    have hik : i < k := by have := HI.out.le s hlt; omega
                    have hikz : (i : Int) < (k : Int) := by omega
                    have t1 : wr.cell? ⟨tbk, s, none⟩ = some (.int .u32 ((i : Int) + 1)) := by rw [M5.cell (by omega), hg s hlt, hi]; rfl
                    have M3 := hR.kept.row K3 (by omega) (by omega)
                    have hfi : fst (keyE k l3 H F T) i = i := by have := HI.out.lead s hlt h0; rw [hi] at this; exact this
                    have t2 : wr.cell? ⟨X8.heap.size, i, none⟩ = some (.bool true) := by rw [M3.cell hik]; simp [hik, hfi]
                    have hsf : seenB tb s i = false := seenB_false (fun t ht he => by
                      have := HI.out.inj t s (by omega) hlt (by omega) (by omega)
                      omega)
                    have t3 : wr.cell? ⟨sn, i, none⟩ = some (.bool false) := by rw [hR.seen.cell hik, hsf]
                    have t4 := hR.seen.frozen i
                    obtain ⟨d, hd1, hd2, hd3⟩ := HI.out.path s hlt h0
                    rw [hi] at hd2 hd3
                    obtain ⟨t0, ht0⟩ : ∃ t0, t0 = H i % size := ⟨_, rfl⟩
                    have hway : OnWay H size tb i d s 0 t0 := ⟨ht0, Nat.zero_le _, hd1, hd2, hd3⟩
                    have hand : bits .and .u32 (H i : Int) ((size : Int) - 1) = (t0 : Int) := by
                      have := and_mask (H i) pw (by have := hH i; omega) (by rw [← HPW.out]; omega)
                      rw [← HPW.out] at this
                      rw [this, ht0]
                    obtain ⟨hb, ho, rfl, _, hcell⟩ := (hR.kept.reads K4 (fun c hc => by have := hrd1 c hc (by omega); omega)).form hik
                    have hbn : hb ≠ sn := by have := hrd1 _ rfl (by omega); simp at this; omega
                    have t5 : ∀ v, (wr.setCell ⟨sn, i, none⟩ v).cell? ⟨hb, ho + i, none⟩ = some (.int .u32 (H i : Int)) := fun v => by
                      rw [World.cell?_setCell_other _ _ _ _ (fun e => hbn (by have := congrArg Addr.block e; simp at this; omega))]; exact hcell i hik
                    have R := l3_put hR hi
                    have HN : Hid ((cn : Int) + 1 = countNZ tb (s + 1)) := by
                      show (cn : Int) + 1 = ((countNZ tb s + if tb s = 0 then 0 else 1 : Nat) : Int)
                      rw [HCN.out, if_neg h0]; rfl
                    have M5' : ∀ v, (wr.setCell ⟨sn, i, none⟩ v).rowIs tbk 36 M g := fun v => M5.setOther (a := ⟨sn, i, none⟩) (by simp; omega) v
                    clear hcell hd2 hd3 ht0 hi h0 M3 M5 hfi hsf
                    go_wp2_with fail
                    clear hand t1 t2 t3 t4 t5
                    go_loopg [29, 30] size (fun g tv st wx => wx = wr.setCell ⟨sn, i, none⟩ (.bool true) ∧ ∃ d' t : Nat, g = size - d' ∧ tv = .int .u32 (t : Int) ∧ st = .int .i64 (d' : Int) ∧ OnWay H size tb i d s d' t)
                    case atStart => exact ⟨rfl, 0, t0, rfl, rfl, rfl, hway⟩
                    case round =>
                      clear hway
                      obtain ⟨rfl, d', t, rfl, rfl, rfl, hw⟩ := hrel
                      have htl2 : t < size := by rw [hw.pos]; exact Nat.mod_lt _ (by omega)
                      have hdd : d' < size := by have := hw.le; have := hw.dlt; omega
                      by_cases hts : t = s
                      · have hq : ((t : Int) != (s : Int)) = false := by rw [hts]; simp
                        clear hts
                        go_wp2_with fail
                        go_roundg (size - (s + 1))
                        case measure => go_light; omega
                        case rel => go_light; exact ⟨s + 1, by omega, rfl, by simp, by rw [HN.out], R⟩
                      · have hq : ((t : Int) != (s : Int)) = true := by simp; omega
                        obtain ⟨m1, m2, m3⟩ := hw.more hts
                        have htz : (t : Int) < (size : Int) := by omega
                        have u1 : (wr.setCell ⟨sn, i, none⟩ (.bool true)).cell? ⟨tbk, t, none⟩ = some (.int .u32 (tb t : Int)) := by rw [(M5' _).cell (by omega), hg t htl2]
                        have u2 : ((tb t : Int) == 0) = false := by simp; omega
                        have u3 : decide ((size : Int) ≤ (d' : Int)) = false := decide_eq_false (by omega)
                        obtain ⟨t', ht'⟩ : ∃ t', t' = (t + 1) % size := ⟨_, rfl⟩
                        have hand : bits .and .u32 ((t : Int) + 1) ((size : Int) - 1) = (t' : Int) := by
                          have := and_mask (t + 1) pw (by omega) (by rw [← HPW.out]; omega)
                          rw [← HPW.out] at this
                          rw [ht', ← this]; rfl
                        rw [← ht'] at m3
                        clear hts ht'
                        go_wp2_with fail
                        go_roundg (size - (d' + 1))
                        case measure => go_light; omega
                        case rel => go_light; exact ⟨rfl, d' + 1, t', rfl, rfl, by simp, m3⟩
                · go_wp2_with fail
                  go_ret
                  obtain rfl : s = size := by omega
                  have h1 := HI.out.cnt
                  have h2 : cn = countF (keyE k l3 H F T) k := by rw [HCN.out, h1]
                  refine ⟨?_, EZ.trans (hR.kept.to_below EZ.size (by omega) (by omega))⟩
                  rw [h2]
                  simp
end Go.Proofs.Qxb6602193a
