import Derived.Test.Qxb6603146aPieceA
import Derived.Test.Qxb6603146aPieceB
namespace Go.Proofs.Qxb6603146a
open Go.RowKit Go.Deep

def tailCode (f : Func) : Code := (Reg f 16).seq (((Reg f 17).seq (.cond (.tmp 180) (Reg f 18) .skip)).seq ((Reg f 19).seq ((Code.block 0 ((Reg f 20).seq (.cond (.tmp 204) (Reg f 21) ((Reg f 22).seq (.cond (.tmp 219) ((Reg f 23).seq ((Reg f 24).seq (Reg f 25))) .skip))))).seq ((Reg f 26).seq .ret))))
def midCode (f : Func) : Code := (Reg f 10).seq (((Reg f 11).seq (.cond (.tmp 129) ((Reg f 12).seq ((Reg f 13).seq (Reg f 14))) (Reg f 15))).seq (tailCode f))
def headCode (f : Func) : Code := (Reg f 0).seq ((Reg f 1).seq ((Reg f 2).seq (((Reg f 3).seq (.cond (.tmp 25) (Reg f 4) .skip)).seq ((Reg f 5).seq (((Reg f 6).seq (.cond (.tmp 57) (Reg f 7) .skip)).seq (((Reg f 8).seq (.cond (.tmp 110) (Reg f 9) .skip)).seq (midCode f)))))))
theorem body27 : Try.f27.body = some (headCode Try.f27) := by kernel_rfl

/-- The change and the line, as the call keeps them. -/
structure St (w wr : World) (cf ct : Int) (k : Nat) (fI : Int) (t pp : Nat) (aI : Int) : Prop where
  below : Below w.heap.size w wr
  two : w.heap.size + 2 ≤ wr.heap.size
  c0 : wr.cell? ⟨w.heap.size, 0, none⟩ = some (.int .i64 cf)
  c1 : wr.cell? ⟨w.heap.size, 1, none⟩ = some (.int .i64 ct)
  c2 : wr.cell? ⟨w.heap.size, 2, none⟩ = some (.int .i64 k)
  c3 : wr.cell? ⟨w.heap.size, 3, none⟩ = some (.int .i64 k)
  l1 : wr.cell? ⟨w.heap.size + 1, 1, none⟩ = some (.int .i64 fI)
  l2 : wr.cell? ⟨w.heap.size + 1, 2, none⟩ = some (.int .i64 t)
  l3 : wr.cell? ⟨w.heap.size + 1, 3, none⟩ = some (.int .i64 pp)
  l4 : wr.cell? ⟨w.heap.size + 1, 4, none⟩ = some (.int .i64 aI)

theorem St.drewN {w wr : World} {cf ct : Int} {k : Nat} {fI : Int} {t pp : Nat} {aI : Int} (h : St w wr cf ct k fI t pp aI) : ∀ m, St w (wr.drewN m) cf ct k fI t pp aI
  | 0 => h
  | m + 1 => ⟨(St.drewN h m).below.drew, (St.drewN h m).two, (St.drewN h m).c0, (St.drewN h m).c1, (St.drewN h m).c2, (St.drewN h m).c3, (St.drewN h m).l1, (St.drewN h m).l2, (St.drewN h m).l3, (St.drewN h m).l4⟩

theorem owns_drewN {wr : World} {B n : Nat} {v : Value} {xs : List Value} (h : wr.ownsRow B 5 1 v n xs) : ∀ m, (wr.drewN m).ownsRow B 5 1 v n xs
  | 0 => h
  | m + 1 => (owns_drewN h m).drew

theorem St.grown {w wr w' : World} {cf ct : Int} {k : Nat} {fI : Int} {t pp : Nat} {aI : Int} {row : Option Nat} (h : St w wr cf ct k fI t pp aI) (hg : wr.grownBy w' row) (hr : ∀ j, row = some j → w.heap.size + 2 ≤ j) : St w w' cf ct k fI t pp aI := by
  have e : ∀ b o, b < w.heap.size + 2 → w'.cell? ⟨b, o, none⟩ = wr.cell? ⟨b, o, none⟩ := fun b o hb =>
    hg.cell_far ⟨b, o, none⟩ (Nat.lt_of_lt_of_le hb h.two) (fun e => by have := hr b e.symm; omega)
  exact ⟨h.below.grown hg (Nat.le_trans (by omega) h.two) (fun j hj => by have := hr j hj; omega), Nat.le_trans h.two hg.size, (e _ _ (by omega)).trans h.c0, (e _ _ (by omega)).trans h.c1, (e _ _ (by omega)).trans h.c2, (e _ _ (by omega)).trans h.c3,
    (e _ _ (by omega)).trans h.l1, (e _ _ (by omega)).trans h.l2, (e _ _ (by omega)).trans h.l3, (e _ _ (by omega)).trans h.l4⟩

theorem St.old {w wr : World} {cf ct : Int} {k : Nat} {fI : Int} {t pp : Nat} {aI : Int} (h : St w wr cf ct k fI t pp aI) {b o : Nat} {v : Value} (hb : b < w.heap.size) (hv : w.cell? ⟨b, o, none⟩ = some v) : wr.cell? ⟨b, o, none⟩ = some v :=
  (h.below.cell (p := ⟨b, o, none⟩) hb).trans hv

theorem far_of {wr : World} {B n : Nat} {v : Value} {xs : List Value} (h : wr.ownsRow B 5 1 v n xs) {b : Nat} (hb : b < B) (hs : b < wr.heap.size) : Far wr v b :=
  ⟨hs, fun e => by have := (h.lt b e.symm).1; omega⟩

theorem owns_low {wr : World} {B B' n : Nat} {v : Value} {xs : List Value} (h : wr.ownsRow B 5 1 v n xs) (hb : B' ≤ B) : wr.ownsRow B' 5 1 v n xs := by
  obtain ⟨h1, h2 | ⟨g, cap, cur, e, hg, rest⟩⟩ := h
  · exact ⟨h1, .inl h2⟩
  · exact ⟨h1, .inr ⟨g, cap, cur, e, Nat.le_trans hb hg, rest⟩⟩

/-- From the last line that stays to the end. -/
theorem tail27 {w wr : World} {a : Act} {x2 x8 x11 v : Value} (D Lb n k κ : Nat) (rt : Option Addr) (lt : Nat) (cf ct fI aI : Int) (t pp : Nat) (s' f' a' : Int) (t' pp' : Nat) (Zt : Nat → Int) (nn : Nat) (xs : List Value)
    (hk : k < n) (hκ : κ < n) (hD : D < w.heap.size) (hL : Lb < w.heap.size) (d0 : w.cell? ⟨D, 0, none⟩ = some (.slice rt lt lt)) (d1 : w.cell? ⟨D, 1, none⟩ = some (.slice (some ⟨Lb, 0, none⟩) n n))
    (s1 : w.cell? ⟨Lb, κ * 5, none⟩ = some (.int .i64 s')) (s2 : w.cell? ⟨Lb, κ * 5 + 1, none⟩ = some (.int .i64 f')) (s3 : w.cell? ⟨Lb, κ * 5 + 2, none⟩ = some (.int .i64 t')) (s4 : w.cell? ⟨Lb, κ * 5 + 3, none⟩ = some (.int .i64 pp')) (s5 : w.cell? ⟨Lb, κ * 5 + 4, none⟩ = some (.int .i64 a'))
    (rT : Reads .u8 w rt lt Zt) (hlt : lt ≤ 1048576) (hnn : nn ≤ 4194304) (h1 : t' ≤ pp') (h2 : pp' ≤ lt) (h3 : pp ≤ lt)
    (hF : Fr a (.pointer (some ⟨D, 0, none⟩)) x2 (.pointer (some ⟨w.heap.size, 0, none⟩)) (.pointer (some ⟨w.heap.size + 1, 0, none⟩)) x8 (.int .i64 κ) v x11)
    (hS : St w wr cf ct k fI t pp aI) (hown : wr.ownsRow (w.heap.size + 2) 5 1 v nn xs) :
    (tailCode Try.f27).wp Try.prog (bodyPost Try.prog Try.f27 (fun e w' => ∃ v, e = .returned v ∧ w'.ownsRow w.heap.size 5 1 v (nn + (pp' - t') + (lt - pp)) (xs ++ bys (pp' - t') (fun i => Zt (t' + i)) ++ bys (lt - pp) (fun i => Zt (pp + i))) ∧ Below w.heap.size w w')) a wr := by
  unfold tailCode
  refine wp_seq (p16 D Lb n κ s' f' t' pp' a' (hS.old hD d1) (hS.old hL s1) (hS.old hL s2) (hS.old hL s3) (hS.old hL s4) (hS.old hL s5) (by omega) hF (fun a1 w1 hF1 hg1 hz1 hc1 => ?_))
  change Code.wp Try.prog _ _ _ _
  have hown1 : w1.ownsRow (w.heap.size + 2) 5 1 v nn xs := hown.kept hg1 (by cases v.ownBlock <;> simp)
  have hS1 := hS.grown hg1 (fun j e => by cases e)
  have hEne : some wr.heap.size ≠ v.ownBlock := fun e => by have := (hown.lt _ e.symm).2; omega
  have htwo := hS.two
  refine wp_seq (wp_seq (p17 D w.heap.size Lb n k (hS1.old hD d1) hS1.c3 hk hF1 (fun a2 m2 hF2 he2 => ?_)))
  change Code.wp Try.prog _ _ _ _
  refine wp_cond_false he2 (wp_skip ?_)
  change Code.wp Try.prog _ _ _ _
  have hS2 := hS1.drewN m2
  have hown2 := owns_drewN hown1 m2
  have hc2 : (w1.drewN m2).cell? ⟨wr.heap.size, 2, none⟩ = some (.int .i64 t') ∧ (w1.drewN m2).cell? ⟨wr.heap.size, 3, none⟩ = some (.int .i64 pp') := by
    simpa using hc1
  have hz2 : (w1.drewN m2).heap.size = wr.heap.size + 1 := by simpa using hz1
  obtain ⟨r', c', hrun, hpart⟩ := cutBoth (rT.below hS2.below) h1 h2
  refine wp_seq (p19 D wr.heap.size rt lt t' pp' r' c' (w.heap.size + 2) nn xs Zt (hS2.old hD d0) hc2.1 hc2.2 hrun hpart hown2 (by omega) (by omega) (far_of hown2 (by omega) (by omega)) ⟨by omega, hEne⟩ hF2 (fun a3 v3 w3 hF3 hown3 hg3 => ?_))
  change Code.wp Try.prog _ _ _ _
  have hS3 := hS2.grown hg3 (fun j e => (hown2.lt j e).1)
  have htwo3 := hS3.two
  refine wp_seq (wp_block (wp_seq (p20 w.heap.size k hS3.c2 hS3.c3 hF3 (fun a4 hF4 he4 => ?_))))
  change Code.wp Try.prog _ _ _ _
  refine wp_cond_true he4 ?_
  obtain ⟨r4, c4, hrun4, hpart4⟩ := cutLow (rT.below hS3.below) h3
  refine p21 D (w.heap.size + 1) rt lt pp r4 c4 (w.heap.size + 2) _ _ Zt (hS3.old hD d0) hS3.l3 hrun4 hpart4 hown3 (by omega) (by omega) (far_of hown3 (by omega) (by omega)) (far_of hown3 (by omega) (by omega)) hF4 (fun a5 v5 w5 hF5 hown5 hg5 => ?_)
  change Code.wp Try.prog _ _ _ _
  have hS5 := hS3.grown hg5 (fun j e => (hown3.lt j e).1)
  exact pEnd hF5 ⟨v5, rfl, owns_low hown5 (by omega), hS5.below⟩

/-- What is appended ahead of the ending. -/
def fore (em : Bool) (p0 li q t t' : Nat) (Zt Zi : Nat → Int) : List Value := if em then bys t' Zt else bys p0 Zt ++ bys li Zi ++ bys (t - q) (fun i => Zt (q + i))
def foreLen (em : Bool) (p0 li q t t' : Nat) : Nat := if em then t' else p0 + li + (t - q)
def Done (w : World) (em : Bool) (p0 li q t t' pp' pp lt : Nat) (Zt Zi : Nat → Int) (e : Ending) (w' : World) : Prop :=
  ∃ v, e = .returned v ∧ w'.ownsRow w.heap.size 5 1 v (foreLen em p0 li q t t' + (pp' - t') + (lt - pp)) (fore em p0 li q t t' Zt Zi ++ bys (pp' - t') (fun i => Zt (t' + i)) ++ bys (lt - pp) (fun i => Zt (pp + i))) ∧ Below w.heap.size w w'

theorem mid27 {w wr : World} {a : Act} {x10 x11 : Value} (D Lb n k κ : Nat) (em : Bool) (rt : Option Addr) (lt : Nat) (ri : Option Addr) (li ci : Nat) (r8 : Option Addr) (c8 : Nat) (cf ct fI aI : Int) (t pp : Nat) (s' f' a' : Int) (t' pp' : Nat) (p0 q : Nat) (Zt Zi : Nat → Int)
    (hk : k < n) (hκ : κ < n) (hem : (((κ : Nat) : Int) == ((k : Nat) : Int)) = !em) (hD : D < w.heap.size) (hL : Lb < w.heap.size) (d0 : w.cell? ⟨D, 0, none⟩ = some (.slice rt lt lt)) (d1 : w.cell? ⟨D, 1, none⟩ = some (.slice (some ⟨Lb, 0, none⟩) n n))
    (s1 : w.cell? ⟨Lb, κ * 5, none⟩ = some (.int .i64 s')) (s2 : w.cell? ⟨Lb, κ * 5 + 1, none⟩ = some (.int .i64 f')) (s3 : w.cell? ⟨Lb, κ * 5 + 2, none⟩ = some (.int .i64 t')) (s4 : w.cell? ⟨Lb, κ * 5 + 3, none⟩ = some (.int .i64 pp')) (s5 : w.cell? ⟨Lb, κ * 5 + 4, none⟩ = some (.int .i64 a'))
    (rT : Reads .u8 w rt lt Zt) (rI : (ri = none → ci = 0) ∧ Reads .u8 w ri li Zi) (r8h : (r8 = none → c8 = 0) ∧ Reads .u8 w r8 (t - q) (fun i => Zt (q + i))) (hlt : lt ≤ 1048576) (hli : li ≤ 1048576)
    (bf : 0 ≤ fI ∧ fI ≤ 1048576) (bc : 0 ≤ cf ∧ cf ≤ 1073741824) (hp : fI + cf - aI = (p0 : Int)) (hpl : p0 ≤ lt) (htl : t ≤ lt) (h1 : t' ≤ pp') (h2 : pp' ≤ lt) (h3 : pp ≤ lt)
    (hF : Fr a (.pointer (some ⟨D, 0, none⟩)) (.slice ri li ci) (.pointer (some ⟨w.heap.size, 0, none⟩)) (.pointer (some ⟨w.heap.size + 1, 0, none⟩)) (.slice r8 (t - q) c8) (.int .i64 κ) x10 x11)
    (hS : St w wr cf ct k fI t pp aI) :
    (midCode Try.f27).wp Try.prog (bodyPost Try.prog Try.f27 (Done w em p0 li q t t' pp' pp lt Zt Zi)) a wr := by
  unfold midCode
  refine wp_seq (p10 D rt lt ri li ci (hS.old hD d0) hlt hli hF (fun a1 v1 w1 hF1 hown1 hg1 => ?_))
  change Code.wp Try.prog _ _ _ _
  have hS1 := hS.grown hg1 (fun j e => by cases e)
  have hown1 : w1.ownsRow (w.heap.size + 2) 5 1 v1 0 [] := owns_low hown1 hS.two
  have htwo := hS1.two
  refine wp_seq (wp_seq (p11 w.heap.size k κ (!em) hS1.c2 hem hF1 (fun a2 hF2 he2 => ?_)))
  change Code.wp Try.prog _ _ _ _
  cases em with
  | true =>
    refine wp_cond_false he2 ?_
    obtain ⟨r', c', hrun, hpart⟩ := cutHigh (rT.below hS1.below) (Nat.le_trans h1 h2)
    refine p15 D Lb n κ rt lt t' r' c' (w.heap.size + 2) 0 [] Zt (hS1.old hD d0) (hS1.old hD d1) (hS1.old hL s3) (by omega) hrun hpart hown1 (by omega) (by omega) (far_of hown1 (by omega) (by omega)) (far_of hown1 (by omega) (by omega)) hF2 (fun a3 v3 w3 hF3 hown3 hg3 => ?_)
    change Code.wp Try.prog _ _ _ _
    have hS3 := hS1.grown hg3 (fun j e => (hown1.lt j e).1)
    rw [List.nil_append, Nat.zero_add] at hown3
    exact tail27 D Lb n k κ rt lt cf ct fI aI t pp s' f' a' t' pp' Zt _ _ hk hκ hD hL d0 d1 s1 s2 s3 s4 s5 rT hlt (by show t' ≤ 4194304; omega) h1 h2 h3 hF3 hS3 hown3
  | false =>
    refine wp_cond_true he2 ?_
    obtain ⟨r', c', hrun, hpart⟩ := cutHigh (rT.below hS1.below) hpl
    refine wp_seq (p12 D w.heap.size (w.heap.size + 1) rt lt fI cf aI p0 r' c' (w.heap.size + 2) 0 [] Zt (hS1.old hD d0) hS1.c0 hS1.l1 hS1.l4 bf bc hp (by omega) hrun hpart hown1 (by omega) (by omega) (far_of hown1 (by omega) (by omega)) (far_of hown1 (by omega) (by omega)) (far_of hown1 (by omega) (by omega)) hF2 (fun a3 v3 w3 hF3 hown3 hg3 => ?_))
    change Code.wp Try.prog _ _ _ _
    have hS3 := hS1.grown hg3 (fun j e => (hown1.lt j e).1)
    have htwo3 := hS3.two
    rw [List.nil_append, Nat.zero_add] at hown3
    refine wp_seq (p13 ri li ci (w.heap.size + 2) _ _ Zi ⟨rI.1, rI.2.below hS3.below⟩ hown3 (by omega) (by omega) hF3 (fun a4 v4 w4 hF4 hown4 hg4 => ?_))
    change Code.wp Try.prog _ _ _ _
    have hS4 := hS3.grown hg4 (fun j e => (hown3.lt j e).1)
    have htwo4 := hS4.two
    refine p14 r8 (t - q) c8 (w.heap.size + 2) _ _ (fun i => Zt (q + i)) ⟨r8h.1, r8h.2.below hS4.below⟩ hown4 (by omega) (by omega) hF4 (fun a5 v5 w5 hF5 hown5 hg5 => ?_)
    change Code.wp Try.prog _ _ _ _
    have hS5 := hS4.grown hg5 (fun j e => (hown4.lt j e).1)
    exact tail27 D Lb n k κ rt lt cf ct fI aI t pp s' f' a' t' pp' Zt _ _ hk hκ hD hL d0 d1 s1 s2 s3 s4 s5 rT hlt (by show p0 + li + (t - q) ≤ 4194304; omega) h1 h2 h3 hF5 hS5 hown5

theorem entry (a0 a1 a2 : Value) : Fr ⟨#[a0, a1, a2] ++ Array.replicate (Try.f27.ntmps - (#[a0, a1, a2] : Array Value).size) undef, []⟩ a0 a2 undef undef undef undef undef undef ∧ (#[a0, a1, a2] ++ Array.replicate (Try.f27.ntmps - (#[a0, a1, a2] : Array Value).size) undef)[1]? = some a1 := by
  rw [Try.ntmps27]
  refine ⟨⟨rfl, ?_, ?_, ?_, ?_, ?_, ?_, ?_, ?_, ?_⟩, ?_⟩ <;> simp

/-- '(*definition).replaced', where the change begins and ends in one line. -/
theorem repl27 (w : World) (D Lb n k κ : Nat) (em : Bool) (rt : Option Addr) (lt : Nat) (ri : Option Addr) (li ci : Nat) (cf ct : Int) (s fI aI : Int) (t pp : Nat) (s' f' a' : Int) (t' pp' : Nat) (p0 q : Nat) (Zt Zi : Nat → Int)
    (hn : n ≤ 1048576) (hk : k < n) (hκ : k = κ + (if em then 1 else 0)) (hem : em = ((cf == aI) && (((li : Nat) : Int) == 0) && (((t - q : Nat) : Int) == 0))) (hD : D < w.heap.size) (hL : Lb < w.heap.size) (d0 : w.cell? ⟨D, 0, none⟩ = some (.slice rt lt lt)) (d1 : w.cell? ⟨D, 1, none⟩ = some (.slice (some ⟨Lb, 0, none⟩) n n))
    (r1 : w.cell? ⟨Lb, k * 5, none⟩ = some (.int .i64 s)) (r2 : w.cell? ⟨Lb, k * 5 + 1, none⟩ = some (.int .i64 fI)) (r3 : w.cell? ⟨Lb, k * 5 + 2, none⟩ = some (.int .i64 t)) (r4 : w.cell? ⟨Lb, k * 5 + 3, none⟩ = some (.int .i64 pp)) (r5 : w.cell? ⟨Lb, k * 5 + 4, none⟩ = some (.int .i64 aI))
    (s1 : w.cell? ⟨Lb, κ * 5, none⟩ = some (.int .i64 s')) (s2 : w.cell? ⟨Lb, κ * 5 + 1, none⟩ = some (.int .i64 f')) (s3 : w.cell? ⟨Lb, κ * 5 + 2, none⟩ = some (.int .i64 t')) (s4 : w.cell? ⟨Lb, κ * 5 + 3, none⟩ = some (.int .i64 pp')) (s5 : w.cell? ⟨Lb, κ * 5 + 4, none⟩ = some (.int .i64 a'))
    (rT : Reads .u8 w rt lt Zt) (rI : (ri = none → ci = 0) ∧ Reads .u8 w ri li Zi) (hlt : lt ≤ 1048576) (hli : li ≤ 1048576)
    (bf : 0 ≤ fI ∧ fI ≤ 1048576) (bc : 0 ≤ cf ∧ cf ≤ 1073741824) (bt : 0 ≤ ct ∧ ct ≤ 1073741824) (hp : fI + cf - aI = (p0 : Int)) (hq : fI + ct - aI = (q : Int)) (hpq : p0 ≤ q) (hqt : q ≤ t) (htl : t ≤ pp) (h3 : pp ≤ lt) (h1 : t' ≤ pp') (h2 : pp' ≤ lt) :
    Calls Try.prog 27 #[.pointer (some ⟨D, 0, none⟩), .agg #[.int .i64 cf, .int .i64 ct, .int .i64 k, .int .i64 k], .slice ri li ci] w (Done w em p0 li q t t' pp' pp lt Zt Zi) := by
  refine calls_of_wp Try.func27 body27 ?_
  unfold headCode
  refine wp_seq (Go.Proofs.Qxb6603146a.p0 cf ct k (entry _ _ _).2 (entry _ _ _).1 (fun a1 w1 hF1 hb1 hz1 hc1 => ?_))
  change Code.wp Try.prog _ _ _ _
  have old1 : ∀ {b o : Nat} {v : Value}, b < w.heap.size → w.cell? ⟨b, o, none⟩ = some v → w1.cell? ⟨b, o, none⟩ = some v := fun hb hv => (hb1.cell (p := ⟨_, _, none⟩) hb).trans hv
  refine wp_seq (p1 D w.heap.size Lb n k s fI t pp aI (old1 hD d1) hc1.2.2.1 (old1 hL r1) (old1 hL r2) (old1 hL r3) (old1 hL r4) (old1 hL r5) (by omega) (by omega) (by omega) (by omega) hF1 (fun a2 w2 hF2 hb2 hz2 hc2 => ?_))
  change Code.wp Try.prog _ _ _ _
  rw [hz1] at hF2 hb2 hz2 hc2
  have hS2 : St w w2 cf ct k fI t pp aI := by
    have e : ∀ o, w2.cell? ⟨w.heap.size, o, none⟩ = w1.cell? ⟨w.heap.size, o, none⟩ := fun o => hb2.cell (p := ⟨w.heap.size, o, none⟩) (by show w.heap.size < _; omega)
    exact ⟨hb1.trans (hb2.mono (by omega)), by omega, (e _).trans hc1.1, (e _).trans hc1.2.1, (e _).trans hc1.2.2.1, (e _).trans hc1.2.2.2, hc2.1, hc2.2.1, hc2.2.2.1, hc2.2.2.2⟩
  clear hc2 hb2 hz2 hc1 hb1 old1
  refine wp_seq (p2 hF2 (fun a3 hF3 => ?_))
  change Code.wp Try.prog _ _ _ _
  refine wp_seq (wp_seq (p3 w.heap.size k hS2.c2 hS2.c3 hF3 (fun a4 hF4 he4 => ?_)))
  change Code.wp Try.prog _ _ _ _
  refine wp_cond_true he4 ?_
  obtain ⟨r8, c8, hrun, hpart⟩ := cutBoth rT hqt (Nat.le_trans htl h3)
  refine p4 D w.heap.size (w.heap.size + 1) rt lt fI ct aI t q r8 c8 (hS2.old hD d0) hS2.c1 hS2.l1 hS2.l2 hS2.l4 bf bt hq (by omega) hrun hF4 (fun a5 m5 hF5 => ?_)
  change Code.wp Try.prog _ _ _ _
  have hS5 := hS2.drewN m5
  refine wp_seq (p5 w.heap.size k hS5.c2 hF5 (fun a6 hF6 => ?_))
  change Code.wp Try.prog _ _ _ _
  refine wp_seq (wp_seq (p6 w.heap.size (w.heap.size + 1) cf aI ri li ci r8 (t - q) c8 em hS5.c0 hS5.l4 hem hF6 (fun a7 hF7 he7 => ?_)))
  change Code.wp Try.prog _ _ _ _
  have go : ∀ a8 x10 x11, Fr a8 (.pointer (some ⟨D, 0, none⟩)) (.slice ri li ci) (.pointer (some ⟨w.heap.size, 0, none⟩)) (.pointer (some ⟨w.heap.size + 1, 0, none⟩)) (.slice r8 (t - q) c8) (.int .i64 κ) x10 x11 →
      Code.wp Try.prog (((Reg Try.f27 8).seq (.cond (.tmp 110) (Reg Try.f27 9) .skip)).seq (midCode Try.f27)) (bodyPost Try.prog Try.f27 (Done w em p0 li q t t' pp' pp lt Zt Zi)) a8 (w2.drewN m5) := by
    intro a8 x10 x11 hF8
    refine wp_seq (wp_seq (p8 D w.heap.size (w.heap.size + 1) k hS5.c2 hS5.c3 hF8 (fun a9 m9 hF9 he9 => ?_)))
    change Code.wp Try.prog _ _ _ _
    refine wp_cond_false he9 (wp_skip ?_)
    change Code.wp Try.prog _ _ _ _
    have hS9 := hS5.drewN m9
    refine mid27 D Lb n k κ em rt lt ri li ci r8 c8 cf ct fI aI t pp s' f' a' t' pp' p0 q Zt Zi hk (by split at hκ <;> omega) ?_ hD hL d0 d1 s1 s2 s3 s4 s5 rT rI hpart hlt hli bf bc hp (by omega) (by omega) h1 h2 h3 hF9 hS9
    cases em with
    | true => rw [if_pos rfl] at hκ; show _ = false; rw [beq_eq_false_iff_ne]; omega
    | false => rw [if_neg (by decide)] at hκ; show _ = true; rw [beq_iff_eq]; omega
  cases em with
  | true =>
    rw [if_pos rfl] at hκ
    refine wp_cond_true he7 ?_
    refine p7 k κ hκ (by omega) hF7 (fun a8 hF8 => ?_)
    change Code.wp Try.prog _ _ _ _
    exact go _ _ _ hF8
  | false =>
    rw [if_neg (by decide)] at hκ
    obtain rfl : k = κ := hκ
    refine wp_cond_false he7 (wp_skip ?_)
    change Code.wp Try.prog _ _ _ _
    exact go _ _ _ hF7
end Go.Proofs.Qxb6603146a
