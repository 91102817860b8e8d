import Derived.Test.Qxb6603146aLawA
import Derived.Test.Qxb6603146aLawB
import Derived.Test.Qxb6603146aLawC
namespace Go.Proofs.Qxb6603146a
open Go.RowKit Go.Deep

/-- 'if the test: return true', and what is behind it. -/
def ifRet (f : Func) (n c m : Nat) : Code := (Reg f n).seq (.cond (.tmp c) ((Reg f m).seq .ret) .skip)
def endCode (f : Func) : Code := (Reg f 33).seq ((Reg f 34).seq (((Reg f 35).seq (.cond (.tmp 254) (Reg f 36) ((Reg f 37).seq ((Reg f 38).seq (Reg f 39))))).seq ((Reg f 40).seq .ret)))
def cloneCode (f : Func) : Code := (Reg f 25).seq ((Reg f 26).seq ((Reg f 27).seq ((Reg f 28).seq ((Reg f 29).seq ((Reg f 30).seq ((Reg f 31).seq ((Reg f 32).seq (endCode f))))))))
def code7 (f : Func) : Code := (Reg f 0).seq ((ifRet f 1 46 2).seq ((ifRet f 3 59 4).seq ((ifRet f 5 82 6).seq ((ifRet f 7 107 8).seq ((Reg f 9).seq ((ifRet f 10 135 11).seq ((ifRet f 12 147 13).seq ((ifRet f 14 154 15).seq ((Reg f 16).seq ((ifRet f 17 180 18).seq ((Reg f 19).seq ((ifRet f 20 204 21).seq ((Reg f 22).seq ((ifRet f 23 224 24).seq (cloneCode f)))))))))))))))
theorem body7 : Try.f7.body = some (code7 Try.f7) := by kernel_rfl

theorem below_drewN (B : Nat) (w : World) : ∀ m, Below B w (w.drewN m)
  | 0 => Below.refl _ _
  | m + 1 => (below_drewN B w m).drew

theorem Own.nil {k : IntKind} {T : TypeId} {w : World} {lo : Nat} {r : Option Addr} {len : Nat} {Z : Nat → Int} (h : Own k T w lo r len Z) (hr : r = none) : len = 0 := by
  rcases h with ⟨_, h⟩ | ⟨b, e, _⟩
  · exact h
  · rw [hr] at e; cases e

theorem void_reads {w : World} {r : Option Addr} {m : Nat} {Z : Nat → Int} (hm : m = 0) : Reads .u8 w r m Z := fun t ht => by omega

theorem bys_split (a b : Nat) (Z : Nat → Int) : bys a Z ++ bys b (fun i => Z (a + i)) = bys (a + b) Z := by
  unfold bys
  rw [List.range_add, List.map_append, List.map_map]
  rfl

/-- The number at i of a list of bytes. -/
def valOf (xs : List Value) (i : Nat) : Int := match xs[i]? with
  | some (.int _ z) => z
  | _ => 0

theorem owns_reads {w : World} {B n : Nat} {v : Value} {xs : List Value} (h : w.ownsRow B 5 1 v n xs) (hb : ∀ u ∈ xs, ∃ z, u = Value.int .u8 z) : ∃ r c, v = .slice r n c ∧ Reads .u8 w r n (valOf xs) := by
  have hl := h.1
  have hcells := fun {g : Nat} (hg : v.ownBlock = some g) => h.cells hg
  have hlt := h.lt
  obtain ⟨_, ⟨rfl, rfl⟩ | ⟨g, cap, cur, rfl, _, hblk, _⟩⟩ := h
  · exact ⟨none, 0, rfl, fun i hi => by omega⟩
  · refine ⟨_, _, rfl, fun i hi => ⟨g, 0, rfl, (hlt g rfl).2, ?_⟩⟩
    have hi' : i < xs.length := by omega
    obtain ⟨z, hz⟩ := hb xs[i] (List.getElem_mem hi')
    have hx : xs[i]? = some (.int .u8 z) := by rw [List.getElem?_eq_getElem hi', hz]
    have hc := hcells rfl i (.int .u8 z) hx
    rw [Addr.add_lit] at hc
    unfold valOf
    rw [hx]
    exact hc

theorem bys_bytes (m : Nat) (Z : Nat → Int) : ∀ u ∈ bys m Z, ∃ z, u = Value.int .u8 z := by
  intro v hv
  obtain ⟨i, _, rfl⟩ := List.mem_map.1 hv
  exact ⟨_, rfl⟩

theorem app_bytes {xs ys : List Value} (hx : ∀ u ∈ xs, ∃ z, u = Value.int .u8 z) (hy : ∀ u ∈ ys, ∃ z, u = Value.int .u8 z) : ∀ u ∈ xs ++ ys, ∃ z, u = Value.int .u8 z := by
  intro u hu
  rcases List.mem_append.1 hu with h | h
  · exact hx u h
  · exact hy u h

/-- Two rows of the same bytes: the last call, and 'return'. -/
theorem last7 {w wr w1 : World} {a : Act} {x0 x1 x2 x3 x4 x5 x6 x7 x8 x9 x10 x11 x25 x26 x27 x28 x31 x32 v1 v2 : Value} {B B' n : Nat} {xs : List Value} (hx : ∀ u ∈ xs, ∃ z, u = Value.int .u8 z) (hn : n ≤ 4194304)
    (o1 : w1.ownsRow B 5 1 v1 n xs) (b1 : Below w1.heap.size w1 wr) (o2 : wr.ownsRow B' 5 1 v2 n xs) (hb : Below w.heap.size w wr)
    (hF : Fr7 a x0 x1 x2 x3 x4 x5 x6 x7 x8 x9 x10 x11 x25 x26 x27 x28 v1 v2 x31 x32) :
    ((Reg Try.f7 40).seq .ret).wp Try.prog (bodyPost Try.prog Try.f7 (fun e w' => e = .returned (.bool true) ∧ Below w.heap.size w w')) a wr := by
  obtain ⟨ra, ca, rfl, h1⟩ := owns_reads o1 hx
  obtain ⟨rb, cb, rfl, h2⟩ := owns_reads o2 hx
  exact q40 ra n ca rb cb (valOf xs) hn (h1.below b1) h2 hF (fun m => ⟨rfl, hb.trans (below_drewN _ _ m)⟩)

theorem end7 (w : World) {wr : World} {a : Act} {x25 x29 x30 x31 x32 : Value} (rt : Option Addr) (lt : Nat) (a1 a2 a3 a4 a5 a6 : Option Addr) (n n6 k : Nat) (em : Bool) (ri : Option Addr) (li : Nat) (cf ct : Int) (S F T P A : Nat → Int) (Zt Zi : Nat → Int)
    (hn : n ≤ 1048576) (hk : k < n) (hlt : lt ≤ 1048576) (hli : li ≤ 1048576) (r1 : Reads .i64 wr a1 n S) (r2 : Reads .i64 wr a2 n F) (r3 : Reads .i64 wr a3 n T) (r4 : Reads .i64 wr a4 n P) (r5 : Reads .i64 wr a5 n A)
    (rT : Reads .u8 wr rt lt Zt) (rI : Reads .u8 wr ri li Zi) (ni : ri = none → li = 0)
    (hem : em = ((cf == A k) && ((li : Int) == 0) && (ct - A k == T k - F k))) (h0 : (em && ((k : Int) == 0)) = false) (hti : ∀ i, i < n → TiledAt lt S F T P i)
    (bc : 0 ≤ cf ∧ cf ≤ 1073741824) (bt : 0 ≤ ct ∧ ct ≤ 1073741824) (g1 : A k ≤ cf) (g2 : cf ≤ ct) (g3 : ct - A k ≤ T k - F k)
    (hF : Fr7 a (.slice rt lt lt) (.slice a1 n n) (.slice a2 n n) (.slice a3 n n) (.slice a4 n n) (.slice a5 n n) (.slice a6 n6 n6) (.int .i64 cf) (.int .i64 ct) (.int .i64 k) (.int .i64 k) (.slice ri li li) x25 (.int .i64 (A k)) (.int .i64 (T k - F k)) (.bool em) x29 x30 x31 x32)
    (hb : Below w.heap.size w wr) :
    (endCode Try.f7).wp Try.prog (bodyPost Try.prog Try.f7 (fun e w' => e = .returned (.bool true) ∧ Below w.heap.size w w')) a wr := by
  obtain ⟨k1, k2, k3, k4, k5, _⟩ := hti k hk
  obtain ⟨t, ht⟩ : ∃ t : Nat, T k = (t : Int) := ⟨(T k).toNat, by omega⟩
  obtain ⟨pp, hpp⟩ : ∃ t : Nat, P k = (t : Int) := ⟨(P k).toNat, by omega⟩
  obtain ⟨p0, hp⟩ : ∃ t : Nat, F k + cf - A k = (t : Int) := ⟨(F k + cf - A k).toNat, by omega⟩
  obtain ⟨q, hq⟩ : ∃ t : Nat, F k + ct - A k = (t : Int) := ⟨(F k + ct - A k).toNat, by omega⟩
  obtain ⟨κ, hκ⟩ : ∃ κ : Nat, k = κ + (if em then 1 else 0) := by
    cases em with
    | true =>
      have : k ≠ 0 := by
        intro e
        rw [e] at h0
        simp at h0
      exact ⟨k - 1, by rw [if_pos rfl]; omega⟩
    | false => exact ⟨k, by rw [if_neg (by decide)]; omega⟩
  have hκn : κ < n := by omega
  obtain ⟨j1, j2, j3, j4, j5, _⟩ := hti κ hκn
  obtain ⟨t', ht'⟩ : ∃ t : Nat, T κ = (t : Int) := ⟨(T κ).toNat, by omega⟩
  obtain ⟨pp', hpp'⟩ : ∃ t : Nat, P κ = (t : Int) := ⟨(P κ).toNat, by omega⟩
  have hem' : em = ((cf == A k) && (((li : Nat) : Int) == 0) && (((t - q : Nat) : Int) == 0)) := by
    have e : (((t - q : Nat) : Int) == 0) = (ct - A k == T k - F k) := by
      rw [Bool.eq_iff_iff, beq_iff_eq, beq_iff_eq]
      omega
    rw [e]
    exact hem
  have hcall := zz21 wr a1 a2 a3 a4 a5 a6 n n n n n n n6 n6 k κ em rt lt ri li li cf ct S F T P A t pp t' pp' p0 q Zt Zi hn hk hκ hem' r1 r2 r3 r4 r5 ht hpp ht' hpp' rT ⟨ni, rI⟩ hlt hli (by omega) bc bt hp hq (by omega) (by omega) (by omega) (by omega) (by omega) (by omega)
  unfold endCode
  refine wp_seq (q33 (fun v w' => w'.ownsRow wr.heap.size 5 1 v (foreLen em p0 li q t t' + (pp' - t') + (lt - pp)) (fore em p0 li q t t' Zt Zi ++ bys (pp' - t') (fun i => Zt (t' + i)) ++ bys (lt - pp) (fun i => Zt (pp + i))) ∧ Below wr.heap.size wr w') hcall hF (fun b1 v1 w1 hF1 hG1 => ?_))
  change Code.wp Try.prog _ _ _ _
  obtain ⟨ho1, hb1⟩ := hG1
  refine wp_seq (q34 hF1 (fun b2 hF2 => ?_))
  change Code.wp Try.prog _ _ _ _
  refine wp_seq (wp_seq (q35 em hF2 (fun b3 hF3 he3 => ?_)))
  change Code.wp Try.prog _ _ _ _
  have rT1 := rT.below hb1
  cases em with
  | true =>
    rw [if_pos rfl] at hκ
    refine wp_cond_true he3 ?_
    obtain ⟨B1, O1, rfl, f1, c1⟩ := (r1.below hb1) k hk
    obtain ⟨B4, O4, rfl, f4, c4⟩ := (r4.below hb1) k hk
    have hS : S k = ((pp' : Nat) : Int) := by
      have := (hti k hk).2.2.2.2.2 (by omega)
      rw [this, ← hpp', show k - 1 = κ from by omega]
    rw [hS] at c1
    rw [hpp] at c4
    obtain ⟨ra, ca, hra, hna, hRa⟩ := cutHigh rT1 (hi := pp') (by omega)
    obtain ⟨rc, cc, hrc, hnc, hRc⟩ := cutLow rT1 (lo := pp) (by omega)
    have hj := join22 ra none rc pp' 0 (lt - pp) ca 0 cc Zt Zt (fun i => Zt (pp + i)) w1.drew (by omega) hna (fun _ => rfl) hnc (by exact hRa) (void_reads rfl) (by exact hRc)
    refine q36 rt lt B1 O1 B4 O4 n n n k pp' pp ra ca rc (lt - pp) cc (fun v w' => w'.ownsRow w1.heap.size 5 1 v (pp' + 0 + (lt - pp)) (bys pp' Zt ++ bys 0 Zt ++ bys (lt - pp) (fun i => Zt (pp + i)))) c1 c4 (by omega) f1 f4 hra hrc (hj.mono (fun e w' h => ?_)) hF3 (fun b4 v4 w4 hF4 ho4 hb4 => ?_)
    · obtain ⟨v, he, ho, hbb⟩ := h
      exact ⟨v, he, ho, ⟨hbb.os, hbb.tape, hbb.output, hbb.size, hbb.block⟩⟩
    change Code.wp Try.prog _ _ _ _
    have e1 : foreLen true p0 li q t t' + (pp' - t') + (lt - pp) = pp' + (lt - pp) := by
      show t' + (pp' - t') + (lt - pp) = _
      omega
    have e2 : fore true p0 li q t t' Zt Zi ++ bys (pp' - t') (fun i => Zt (t' + i)) ++ bys (lt - pp) (fun i => Zt (pp + i)) = bys pp' Zt ++ bys (lt - pp) (fun i => Zt (pp + i)) := by
      show bys t' Zt ++ bys (pp' - t') (fun i => Zt (t' + i)) ++ bys (lt - pp) (fun i => Zt (pp + i)) = _
      rw [bys_split, show t' + (pp' - t') = pp' from by omega]
    have e3 : bys pp' Zt ++ bys 0 Zt ++ bys (lt - pp) (fun i => Zt (pp + i)) = bys pp' Zt ++ bys (lt - pp) (fun i => Zt (pp + i)) := by
      rw [show bys 0 Zt = [] from rfl, List.append_nil]
    rw [e1, e2] at ho1
    rw [Nat.add_zero, e3] at ho4
    exact last7 (app_bytes (bys_bytes _ _) (bys_bytes _ _)) (by omega) ho1 hb4 ho4 ((hb.trans (hb1.mono hb.size)).trans (hb4.mono (Nat.le_trans hb.size hb1.size))) hF4
  | false =>
    rw [if_neg (by decide)] at hκ
    obtain rfl : k = κ := hκ
    obtain rfl : t = t' := by omega
    obtain rfl : pp = pp' := by omega
    refine wp_cond_false he3 ?_
    obtain ⟨B2, O2, rfl, f2, c2⟩ := (r2.below hb1) k hk
    refine wp_seq (q37 B2 O2 n n k F (A k) cf p0 c2 (by omega) (by omega) bc hp (by omega) hF3 (fun b4 hF4 => ?_))
    change Code.wp Try.prog _ _ _ _
    refine wp_seq (q38 B2 O2 n n k F (A k) ct q c2 (by omega) (by omega) bt hq (by omega) hF4 (fun b5 hF5 => ?_))
    change Code.wp Try.prog _ _ _ _
    obtain ⟨ra, ca, hra, hna, hRa⟩ := cutHigh rT1 (hi := p0) (by omega)
    obtain ⟨rc, cc, hrc, hnc, hRc⟩ := cutLow rT1 (lo := q) (by omega)
    have hj := join22 ra ri rc p0 li (lt - q) ca li cc Zt Zi (fun i => Zt (q + i)) w1.drew (by omega) hna ni hnc (by exact hRa) (by exact rI.below hb1.drew) (by exact hRc)
    refine q39 rt lt p0 q ra ca rc (lt - q) cc (fun v w' => w'.ownsRow w1.heap.size 5 1 v (p0 + li + (lt - q)) (bys p0 Zt ++ bys li Zi ++ bys (lt - q) (fun i => Zt (q + i)))) hra hrc (hj.mono (fun e w' h => ?_)) hF5 (fun b6 v6 w6 hF6 ho6 hb6 => ?_)
    · obtain ⟨v, he, ho, hbb⟩ := h
      exact ⟨v, he, ho, ⟨hbb.os, hbb.tape, hbb.output, hbb.size, hbb.block⟩⟩
    change Code.wp Try.prog _ _ _ _
    have e1 : foreLen false p0 li q t t + (pp - t) + (lt - pp) = p0 + li + (lt - q) := by
      show p0 + li + (t - q) + (pp - t) + (lt - pp) = _
      omega
    have e2 : fore false p0 li q t t Zt Zi ++ bys (pp - t) (fun i => Zt (t + i)) ++ bys (lt - pp) (fun i => Zt (pp + i)) = bys p0 Zt ++ bys li Zi ++ bys (lt - q) (fun i => Zt (q + i)) := by
      show bys p0 Zt ++ bys li Zi ++ bys (t - q) (fun i => Zt (q + i)) ++ bys (pp - t) (fun i => Zt (t + i)) ++ bys (lt - pp) (fun i => Zt (pp + i)) = _
      have s1 := bys_split (t - q) (pp - t) (fun i => Zt (q + i))
      have s2 := bys_split (t - q + (pp - t)) (lt - pp) (fun i => Zt (q + i))
      have u1 : (fun i => Zt (q + (t - q + i))) = fun i => Zt (t + i) := by
        funext i
        rw [show q + (t - q + i) = t + i from by omega]
      have u2 : (fun i => Zt (q + (t - q + (pp - t) + i))) = fun i => Zt (pp + i) := by
        funext i
        rw [show q + (t - q + (pp - t) + i) = pp + i from by omega]
      rw [u1] at s1
      rw [u2, show t - q + (pp - t) + (lt - pp) = lt - q from by omega] at s2
      rw [List.append_assoc (bys p0 Zt ++ bys li Zi), s1, List.append_assoc (bys p0 Zt ++ bys li Zi), s2]
    rw [e1, e2] at ho1
    exact last7 (app_bytes (app_bytes (bys_bytes _ _) (bys_bytes _ _)) (bys_bytes _ _)) (by omega) ho1 hb6 ho6 ((hb.trans (hb1.mono hb.size)).trans (hb6.mono (Nat.le_trans hb.size hb1.size))) hF6

theorem clone7 (w : World) {wr : World} {a : Act} {x25 x29 x30 x31 x32 : Value} (a0 a1 a2 a3 a4 a5 a6 a7 : Option Addr) (n0 c0 n c1 c2 c3 c4 c5 n6 c6 n7 c7 k : Nat) (em : Bool) (cf ct : Int) (Z0 S F T P A Z6 Z7 : Nat → Int)
    (hn : n ≤ 1048576) (h0 : n0 ≤ 1048576) (h6 : n6 ≤ 1048576) (h7 : n7 ≤ 1048576) (hk : k < n)
    (R0 : Reads .u8 wr a0 n0 Z0) (R1 : Reads .i64 wr a1 n S) (R2 : Reads .i64 wr a2 n F) (R3 : Reads .i64 wr a3 n T) (R4 : Reads .i64 wr a4 n P) (R5 : Reads .i64 wr a5 n A) (R6 : Reads .u8 wr a6 n6 Z6) (R7 : Reads .u8 wr a7 n7 Z7)
    (N0 : a0 = none → c0 = 0) (N1 : a1 = none → c1 = 0) (N2 : a2 = none → c2 = 0) (N3 : a3 = none → c3 = 0) (N4 : a4 = none → c4 = 0) (N5 : a5 = none → c5 = 0) (N6 : a6 = none → c6 = 0) (N7 : a7 = none → c7 = 0)
    (hem : em = ((cf == A k) && ((n7 : Int) == 0) && (ct - A k == T k - F k))) (hz : (em && ((k : Int) == 0)) = false) (hti : ∀ i, i < n → TiledAt n0 S F T P i)
    (bc : 0 ≤ cf ∧ cf ≤ 1073741824) (bt : 0 ≤ ct ∧ ct ≤ 1073741824) (g1 : A k ≤ cf) (g2 : cf ≤ ct) (g3 : ct - A k ≤ T k - F k)
    (hF : Fr7 a (.slice a0 n0 c0) (.slice a1 n c1) (.slice a2 n c2) (.slice a3 n c3) (.slice a4 n c4) (.slice a5 n c5) (.slice a6 n6 c6) (.int .i64 cf) (.int .i64 ct) (.int .i64 k) (.int .i64 k) (.slice a7 n7 c7) x25 (.int .i64 (A k)) (.int .i64 (T k - F k)) (.bool em) x29 x30 x31 x32)
    (hb : Below w.heap.size w wr) :
    (cloneCode Try.f7).wp Try.prog (bodyPost Try.prog Try.f7 (fun e w' => e = .returned (.bool true) ∧ Below w.heap.size w w')) a wr := by
  unfold cloneCode
  refine wp_seq (q25 a0 n0 c0 Z0 h0 R0 N0 hF (fun b1 t0 W1 hF1 O1 B1 => ?_))
  change Code.wp Try.prog _ _ _ _
  have bb1 : Below wr.heap.size wr W1 := B1
  refine wp_seq (q26 a1 n c1 S hn (R1.below bb1) N1 hF1 (fun b2 t1 W2 hF2 O2 B2 => ?_))
  change Code.wp Try.prog _ _ _ _
  have bb2 : Below wr.heap.size wr W2 := bb1.trans (B2.mono bb1.size)
  refine wp_seq (q27 a2 n c2 F hn (R2.below bb2) N2 hF2 (fun b3 t2 W3 hF3 O3 B3 => ?_))
  change Code.wp Try.prog _ _ _ _
  have bb3 : Below wr.heap.size wr W3 := bb2.trans (B3.mono bb2.size)
  refine wp_seq (q28 a3 n c3 T hn (R3.below bb3) N3 hF3 (fun b4 t3 W4 hF4 O4 B4 => ?_))
  change Code.wp Try.prog _ _ _ _
  have bb4 : Below wr.heap.size wr W4 := bb3.trans (B4.mono bb3.size)
  refine wp_seq (q29 a4 n c4 P hn (R4.below bb4) N4 hF4 (fun b5 t4 W5 hF5 O5 B5 => ?_))
  change Code.wp Try.prog _ _ _ _
  have bb5 : Below wr.heap.size wr W5 := bb4.trans (B5.mono bb4.size)
  refine wp_seq (q30 a5 n c5 A hn (R5.below bb5) N5 hF5 (fun b6 t5 W6 hF6 O6 B6 => ?_))
  change Code.wp Try.prog _ _ _ _
  have bb6 : Below wr.heap.size wr W6 := bb5.trans (B6.mono bb5.size)
  refine wp_seq (q31 a6 n6 c6 Z6 h6 (R6.below bb6) N6 hF6 (fun b7 t6 W7 hF7 O7 B7 => ?_))
  change Code.wp Try.prog _ _ _ _
  have bb7 : Below wr.heap.size wr W7 := bb6.trans (B7.mono bb6.size)
  refine wp_seq (q32 a7 n7 c7 Z7 h7 (R7.below bb7) N7 hF7 (fun b8 t7 W8 hF8 O8 B8 => ?_))
  change Code.wp Try.prog _ _ _ _
  have bb8 : Below wr.heap.size wr W8 := bb7.trans (B8.mono bb7.size)
  have d8 : Below W8.heap.size W8 W8 := Below.refl _ _
  have d7 : Below W7.heap.size W7 W8 := B8.trans (d8.mono B8.size)
  have d6 : Below W6.heap.size W6 W8 := B7.trans (d7.mono B7.size)
  have d5 : Below W5.heap.size W5 W8 := B6.trans (d6.mono B6.size)
  have d4 : Below W4.heap.size W4 W8 := B5.trans (d5.mono B5.size)
  have d3 : Below W3.heap.size W3 W8 := B4.trans (d4.mono B4.size)
  have d2 : Below W2.heap.size W2 W8 := B3.trans (d3.mono B3.size)
  have d1 : Below W1.heap.size W1 W8 := B2.trans (d2.mono B2.size)
  exact end7 w t0 n0 t1 t2 t3 t4 t5 t6 n n6 k em t7 n7 cf ct S F T P A Z0 Z7 hn hk h0 h7 (O2.reads.below d2) (O3.reads.below d3) (O4.reads.below d4) (O5.reads.below d5) (O6.reads.below d6) (O1.reads.below d1) (O8.reads.below d8) O8.nil hem hz hti bc bt g1 g2 g3 hF8 (hb.trans (bb8.mono hb.size))

theorem law7 (w : World) (a0 a1 a2 a3 a4 a5 a6 a7 : Option Addr) (n0 c0 n1 c1 n2 c2 n3 c3 n4 c4 n5 c5 n6 c6 n7 c7 : Nat) (cf ct ki kr : Int) (Z0 S F T P A Z6 Z7 : Nat → Int)
    (m0 : n0 ≤ maxLen) (m1 : n1 ≤ maxLen) (m2 : n2 ≤ maxLen) (m3 : n3 ≤ maxLen) (m4 : n4 ≤ maxLen) (m5 : n5 ≤ maxLen) (m6 : n6 ≤ maxLen) (m7 : n7 ≤ maxLen)
    (R0 : Reads .u8 w a0 n0 Z0) (R1 : Reads .i64 w a1 n1 S) (R2 : Reads .i64 w a2 n2 F) (R3 : Reads .i64 w a3 n3 T) (R4 : Reads .i64 w a4 n4 P) (R5 : Reads .i64 w a5 n5 A) (R6 : Reads .u8 w a6 n6 Z6) (R7 : Reads .u8 w a7 n7 Z7)
    (N0 : a0 = none → c0 = 0) (N1 : a1 = none → c1 = 0) (N2 : a2 = none → c2 = 0) (N3 : a3 = none → c3 = 0) (N4 : a4 = none → c4 = 0) (N5 : a5 = none → c5 = 0) (N6 : a6 = none → c6 = 0) (N7 : a7 = none → c7 = 0) :
    Calls Try.prog 7 #[.slice a0 n0 c0, .slice a1 n1 c1, .slice a2 n2 c2, .slice a3 n3 c3, .slice a4 n4 c4, .slice a5 n5 c5, .slice a6 n6 c6, .int .i64 cf, .int .i64 ct, .int .i64 ki, .int .i64 kr, .slice a7 n7 c7] w fun e w' => e = .returned (.bool true) ∧ Below w.heap.size w w' := by
  refine calls_of_wp Try.func7 body7 ?_
  unfold code7 ifRet
  refine wp_seq (q0 (entry7 _ _ _ _ _ _ _ _ _ _ _ _) (fun b0 hF0 => ?_))
  change Code.wp Try.prog _ _ _ _
  have B0 := Below.refl w.heap.size w
  refine wp_seq (wp_seq (q1 a0 a1 a2 a3 a4 a5 a6 a7 n0 c0 n1 c1 n2 c2 n3 c3 n4 c4 n5 c5 n6 c6 n7 c7 cf ct ki kr m0 m1 m2 m3 m4 m5 m6 m7 hF0 (fun b1 v1 hF1 he1 hs1 => ?_)))
  change Code.wp Try.prog _ _ _ _
  cases v1 with
  | false => exact wp_cond_true he1 (r2 hF1 ⟨rfl, B0⟩)
  | true =>
  refine wp_cond_false he1 (wp_skip ?_)
  change Code.wp Try.prog _ _ _ _
  have hsum := hs1 rfl
  refine wp_seq (wp_seq (q3 a0 a6 a7 n0 c0 n6 c6 n7 c7 (by omega) (by omega) (by omega) hF1 (fun b2 hF2 he2 => ?_)))
  change Code.wp Try.prog _ _ _ _
  refine wp_cond_false he2 (wp_skip ?_)
  change Code.wp Try.prog _ _ _ _
  refine wp_seq (wp_seq (q5 a1 a2 a3 a4 a5 n1 c1 n2 c2 n3 c3 n4 c4 n5 c5 hF2 (fun b3 hF3 he3 => ?_)))
  change Code.wp Try.prog _ _ _ _
  refine wp_cond_split he3 (fun _ => r6 hF3 ⟨rfl, B0⟩) (fun _ => wp_skip ?_)
  change Code.wp Try.prog _ _ _ _
  refine wp_seq (wp_seq (q7 a0 a1 a2 a3 a4 a5 a6 a7 n0 c0 n1 c1 n2 c2 n3 c3 n4 c4 n5 c5 n6 c6 n7 c7 hF3 (fun b4 v4 hF4 he4 => ?_)))
  change Code.wp Try.prog _ _ _ _
  refine wp_cond_split he4 (fun _ => r8 hF4 ⟨rfl, B0⟩) (fun _ => wp_skip ?_)
  change Code.wp Try.prog _ _ _ _
  refine wp_seq (q9 a1 n1 c1 hF4 (fun b5 hF5 => ?_))
  change Code.wp Try.prog _ _ _ _
  refine wp_seq (wp_seq (q10 a2 a3 a4 a5 n2 c2 n3 c3 n4 c4 n5 c5 n1 hF5 (fun b6 hF6 he6 => ?_)))
  change Code.wp Try.prog _ _ _ _
  refine wp_cond_split he6 (fun _ => r11 hF6 ⟨rfl, B0⟩) (fun h6 => wp_skip ?_)
  change Code.wp Try.prog _ _ _ _
  obtain ⟨hn0, rfl, rfl, rfl, rfl⟩ : n1 ≠ 0 ∧ n1 = n2 ∧ n1 = n3 ∧ n1 = n4 ∧ n1 = n5 := by
    simp at h6
    omega
  refine wp_seq (wp_seq (q12 n1 ki kr hF6 (fun b7 hF7 he7 => ?_)))
  change Code.wp Try.prog _ _ _ _
  refine wp_cond_split he7 (fun _ => r13 hF7 ⟨rfl, B0⟩) (fun h7 => wp_skip ?_)
  change Code.wp Try.prog _ _ _ _
  obtain ⟨hk1, hk2, hk3⟩ : kr = ki ∧ 0 ≤ ki ∧ ki < (n1 : Int) := by
    simp at h7
    omega
  obtain ⟨k, hki⟩ : ∃ k : Nat, ki = (k : Int) := ⟨ki.toNat, by omega⟩
  subst hk1
  subst hki
  have hk : k < n1 := by omega
  refine wp_seq (wp_seq (q14 a0 a1 a2 a3 a4 n0 n1 c0 c1 c2 c3 c4 S F T P (by omega) R1 R2 R3 R4 hF7 (fun b8 v8 m8 hF8 he8 ht8 => ?_)))
  change Code.wp Try.prog _ _ _ _
  have B8 := below_drewN w.heap.size w m8
  cases v8 with
  | false => exact wp_cond_true he8 (r15 hF8 ⟨rfl, B8⟩)
  | true =>
  refine wp_cond_false he8 (wp_skip ?_)
  change Code.wp Try.prog _ _ _ _
  have hti := ht8 rfl
  obtain ⟨y5, o5, rfl, f5, e5⟩ := (R5.below B8) k hk
  refine wp_seq (q16 y5 o5 n1 c5 k A e5 hk3 hF8 (fun b9 hF9 => ?_))
  change Code.wp Try.prog _ _ _ _
  refine wp_seq (wp_seq (q17 (A k) cf ct hF9 (fun b10 hF10 he10 => ?_)))
  change Code.wp Try.prog _ _ _ _
  refine wp_cond_split he10 (fun _ => r18 hF10 ⟨rfl, B8⟩) (fun h10 => wp_skip ?_)
  change Code.wp Try.prog _ _ _ _
  obtain ⟨bA, bc, bt⟩ : (0 ≤ A k ∧ A k ≤ 1073741824) ∧ (0 ≤ cf ∧ cf ≤ 1073741824) ∧ 0 ≤ ct ∧ ct ≤ 1073741824 := by
    simp at h10
    omega
  obtain ⟨k1, k2, k3, k4, k5, _⟩ := hti k hk
  obtain ⟨y3, o3, rfl, f3, e3⟩ := (R3.below B8) k hk
  obtain ⟨y2, o2, rfl, f2, e2⟩ := (R2.below B8) k hk
  refine wp_seq (q19 y3 o3 y2 o2 n1 c3 c2 k F T e3 e2 hk3 (by omega) hF10 (fun b11 m11 hF11 => ?_))
  change Code.wp Try.prog _ _ _ _
  have B11 : Below w.heap.size w ((w.drewN m8).drewN m11) := B8.trans (below_drewN _ _ m11)
  refine wp_seq (wp_seq (q20 (A k) cf ct (T k - F k) bA bt hF11 (fun b12 hF12 he12 => ?_)))
  change Code.wp Try.prog _ _ _ _
  refine wp_cond_split he12 (fun _ => r21 hF12 ⟨rfl, B11⟩) (fun h12 => wp_skip ?_)
  change Code.wp Try.prog _ _ _ _
  obtain ⟨g1, g2, g3⟩ : A k ≤ cf ∧ cf ≤ ct ∧ ct - A k ≤ T k - F k := by
    simp at h12
    omega
  refine wp_seq (q22 a7 n7 c7 (A k) cf ct (T k - F k) bA bt hF12 (fun b13 hF13 => ?_))
  change Code.wp Try.prog _ _ _ _
  refine wp_seq (wp_seq (q23 _ k hF13 (fun b14 hF14 he14 => ?_)))
  change Code.wp Try.prog _ _ _ _
  refine wp_cond_split he14 (fun _ => r24 hF14 ⟨rfl, B11⟩) (fun h14 => wp_skip ?_)
  change Code.wp Try.prog _ _ _ _
  exact clone7 w a0 a1 _ _ a4 _ a6 a7 n0 c0 n1 c1 c2 c3 c4 c5 n6 c6 n7 c7 k _ cf ct Z0 S F T P A Z6 Z7 (by omega) (by omega) (by omega) (by omega) hk (R0.below B11) (R1.below B11) (R2.below B11) (R3.below B11) (R4.below B11) (R5.below B11) (R6.below B11) (R7.below B11)
    N0 N1 N2 N3 N4 N5 N6 N7 rfl h14 hti bc bt g1 g2 g3 hF14 B11
end Go.Proofs.Qxb6603146a
