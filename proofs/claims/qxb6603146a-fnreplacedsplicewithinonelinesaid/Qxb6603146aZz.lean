import Derived.Test.Qxb6603146aRepl
namespace Go.Proofs.Qxb6603146a
open Go.RowKit Go.Deep

theorem info44 : (Try.prog.info? 44).map (fun i => (i.zero, i.size, i.bytes)) = some (some (.agg #[.int .i64 0, .int .i64 0, .int .i64 0, .int .i64 0, .int .i64 0]), 5, 40) := by kernel_rfl

theorem make_lines (n : Nat) (hn : n ≤ 1048576) (w : World) :
    (Instr.makeSlice 42 (.int .i64 (n : Int)) (.int .i64 (n : Int))).run Try.prog w = .ok (.slice (some ⟨w.heap.size, 0, none⟩) n n) (w.alloc (.cells (madeCells #[.int .i64 0, .int .i64 0, .int .i64 0, .int .i64 0, .int .i64 0] (n * 5)) 44)) := by
  obtain ⟨i, hi, hz, hs, hb⟩ := info_parts info44
  have h := run_make (P := Try.prog) w 42 44 i _ Try.underlying42 hi hz .i64 .i64 n n (by omega) (Int.le_refl _) (by rw [hb]; omega) (by omega)
  simp only [Int.toNat_natCast, hs] at h
  exact h

theorem made_lines (n : Nat) (w : World) : (w.alloc (.cells (madeCells #[.int .i64 0, .int .i64 0, .int .i64 0, .int .i64 0, .int .i64 0] (n * 5)) 44)).rowIs w.heap.size 44 (5 * n) (fun _ => .int .i64 0) := by
  refine ⟨_, blk_alloc_new _ _, by rw [size_madeCells]; omega, fun i hi => ?_⟩
  have h5 : i % 5 = 0 ∨ i % 5 = 1 ∨ i % 5 = 2 ∨ i % 5 = 3 ∨ i % 5 = 4 := by omega
  rcases h5 with h | h | h | h | h <;> simp [madeCells, show i < n * 5 by omega, h]

/-- The cells of the lines. -/
def lineF (S F T P A : Nat → Int) (i : Nat) : Value := .int .i64 (if i % 5 = 0 then S (i / 5) else if i % 5 = 1 then F (i / 5) else if i % 5 = 2 then T (i / 5) else if i % 5 = 3 then P (i / 5) else A (i / 5))
theorem line0 (S F T P A : Nat → Int) (k : Nat) : lineF S F T P A (k * 5) = .int .i64 (S k) := by
  unfold lineF; rw [if_pos (by omega), show k * 5 / 5 = k from by omega]
theorem line1 (S F T P A : Nat → Int) (k : Nat) : lineF S F T P A (k * 5 + 1) = .int .i64 (F k) := by
  unfold lineF; rw [if_neg (by omega), if_pos (by omega), show (k * 5 + 1) / 5 = k from by omega]
theorem line2 (S F T P A : Nat → Int) (k : Nat) : lineF S F T P A (k * 5 + 2) = .int .i64 (T k) := by
  unfold lineF; rw [if_neg (by omega), if_neg (by omega), if_pos (by omega), show (k * 5 + 2) / 5 = k from by omega]
theorem line3 (S F T P A : Nat → Int) (k : Nat) : lineF S F T P A (k * 5 + 3) = .int .i64 (P k) := by
  unfold lineF; rw [if_neg (by omega), if_neg (by omega), if_neg (by omega), if_pos (by omega), show (k * 5 + 3) / 5 = k from by omega]
theorem line4 (S F T P A : Nat → Int) (k : Nat) : lineF S F T P A (k * 5 + 4) = .int .i64 (A k) := by
  unfold lineF; rw [if_neg (by omega), if_neg (by omega), if_neg (by omega), if_neg (by omega), show (k * 5 + 4) / 5 = k from by omega]

theorem line_step (S F T P A : Nat → Int) (i k : Nat) :
    (if i = k * 5 + 4 then Value.int .i64 (A k) else if i = k * 5 + 3 then .int .i64 (P k) else if i = k * 5 + 2 then .int .i64 (T k) else if i = k * 5 + 1 then .int .i64 (F k) else if i = k * 5 then .int .i64 (S k) else if i < 5 * k then lineF S F T P A i else .int .i64 0) =
    if i < 5 * (k + 1) then lineF S F T P A i else .int .i64 0 := by
  by_cases h4 : i = k * 5 + 4
  · rw [if_pos h4, if_pos (by omega), h4, line4]
  rw [if_neg h4]
  by_cases h3 : i = k * 5 + 3
  · rw [if_pos h3, if_pos (by omega), h3, line3]
  rw [if_neg h3]
  by_cases h2 : i = k * 5 + 2
  · rw [if_pos h2, if_pos (by omega), h2, line2]
  rw [if_neg h2]
  by_cases h1 : i = k * 5 + 1
  · rw [if_pos h1, if_pos (by omega), h1, line1]
  rw [if_neg h1]
  by_cases h0 : i = k * 5
  · rw [if_pos h0, if_pos (by omega), h0, line0]
  rw [if_neg h0]
  by_cases h : i < 5 * k
  · rw [if_pos h, if_pos (by omega)]
  · rw [if_neg h, if_neg (by omega)]

/-- What the call of 'replaced' gives, seen from before the lines and the definition were laid. -/
theorem Done.seen {w w1 : World} (hb : Below w.heap.size w w1) {em : Bool} {p0 li q t t' pp' pp lt : Nat} {Zt Zi : Nat → Int} {e : Ending} {w' : World} (h : Done w1 em p0 li q t t' pp' pp lt Zt Zi e w') : Done w em p0 li q t t' pp' pp lt Zt Zi e w' := by
  obtain ⟨v, he, ho, hb'⟩ := h
  exact ⟨v, he, owns_low ho hb.size, hb.trans (hb'.mono hb.size)⟩

theorem dr {wr : World} {p : Addr} {u : Value} (h : wr.cell? p = some u) : wr.drew.cell? p = some u := h

theorem far5 {wr : World} {H b o : Nat} {u : Value} {o0 o1 o2 o3 o4 : Nat} {v0 v1 v2 v3 v4 : Value} (h : b < H) (hc : wr.cell? ⟨b, o, none⟩ = some u) :
    (((((wr.setCell ⟨H, o0, none⟩ v0).setCell ⟨H, o1, none⟩ v1).setCell ⟨H, o2, none⟩ v2).setCell ⟨H, o3, none⟩ v3).setCell ⟨H, o4, none⟩ v4).drew.cell? ⟨b, o, none⟩ = some u :=
  ((((((((Below.refl H wr).setCell (p := ⟨H, o0, none⟩) (Nat.le_refl _) v0).setCell (p := ⟨H, o1, none⟩) (Nat.le_refl _) v1).setCell (p := ⟨H, o2, none⟩) (Nat.le_refl _) v2).setCell (p := ⟨H, o3, none⟩) (Nat.le_refl _) v3).setCell (p := ⟨H, o4, none⟩) (Nat.le_refl _) v4).drew).cell (p := ⟨b, o, none⟩) h).trans hc

set_option maxHeartbeats 4000000 in
set_option maxRecDepth 100000 in
theorem zz21 (w : World) (a1 a2 a3 a4 a5 a6 : Option Addr) (n c1 c2 c3 c4 c5 l6 c6 k κ : Nat) (em : Bool) (rt : Option Addr) (lt : Nat) (ri : Option Addr) (li ci : Nat) (cf ct : Int) (S F T P A : Nat → Int) (t pp t' pp' : Nat) (p0 q : Nat) (Zt Zi : Nat → Int)
    (hn : n ≤ 1048576) (hk : k < n) (hκ : k = κ + (if em then 1 else 0)) (hem : em = ((cf == A k) && (((li : Nat) : Int) == 0) && (((t - q : Nat) : Int) == 0)))
    (r1 : Reads .i64 w a1 n S) (r2 : Reads .i64 w a2 n F) (r3 : Reads .i64 w a3 n T) (r4 : Reads .i64 w a4 n P) (r5 : Reads .i64 w a5 n A)
    (hT : T k = (t : Int)) (hP : P k = (pp : Int)) (hT' : T κ = (t' : Int)) (hP' : P κ = (pp' : Int))
    (rT : Reads .u8 w rt lt Zt) (rI : (ri = none → ci = 0) ∧ Reads .u8 w ri li Zi) (hlt : lt ≤ 1048576) (hli : li ≤ 1048576)
    (bf : 0 ≤ F k ∧ F k ≤ 1048576) (bc : 0 ≤ cf ∧ cf ≤ 1073741824) (bt : 0 ≤ ct ∧ ct ≤ 1073741824) (hp : F k + cf - A k = (p0 : Int)) (hq : F k + ct - A k = (q : Int)) (hpq : p0 ≤ q) (hqt : q ≤ t) (htl : t ≤ pp) (h3 : pp ≤ lt) (h1 : t' ≤ pp') (h2 : pp' ≤ lt) :
    Calls Try.prog 21 #[.slice rt lt lt, .slice a1 n c1, .slice a2 n c2, .slice a3 n c3, .slice a4 n c4, .slice a5 n c5, .slice a6 l6 c6, .int .i64 cf, .int .i64 ct, .int .i64 k, .int .i64 k, .slice ri li ci] w (Done w em p0 li q t t' pp' pp lt Zt Zi) := by
  have hmk := make_lines n hn
  have HX : Hid (∀ w1 D Lb, Below w.heap.size w w1 → D < w1.heap.size → w1.rowIs Lb 44 (5 * n) (lineF S F T P A) → w1.cell? ⟨D, 0, none⟩ = some (.slice rt lt lt) → w1.cell? ⟨D, 1, none⟩ = some (.slice (some ⟨Lb, 0, none⟩) n n) →
      Calls Try.prog 27 #[.pointer (some ⟨D, 0, none⟩), .agg #[.int .i64 cf, .int .i64 ct, .int .i64 k, .int .i64 k], .slice ri li ci] w1 (Done w em p0 li q t t' pp' pp lt Zt Zi)) := by
    intro w1 D Lb hb hD hL d0 d1
    have hκn : κ < n := by omega
    have c0 := hL.cell (i := k * 5) (by omega)
    have c1 := hL.cell (i := k * 5 + 1) (by omega)
    have c2 := hL.cell (i := k * 5 + 2) (by omega)
    have c3 := hL.cell (i := k * 5 + 3) (by omega)
    have c4 := hL.cell (i := k * 5 + 4) (by omega)
    have g0 := hL.cell (i := κ * 5) (by omega)
    have g1 := hL.cell (i := κ * 5 + 1) (by omega)
    have g2 := hL.cell (i := κ * 5 + 2) (by omega)
    have g3 := hL.cell (i := κ * 5 + 3) (by omega)
    have g4 := hL.cell (i := κ * 5 + 4) (by omega)
    rw [line0] at c0 g0
    rw [line1] at c1 g1
    rw [line2, hT] at c2
    rw [line2, hT'] at g2
    rw [line3, hP] at c3
    rw [line3, hP'] at g3
    rw [line4] at c4 g4
    exact (repl27 w1 D Lb n k κ em rt lt ri li ci cf ct _ _ _ t pp _ _ _ t' pp' p0 q Zt Zi hn hk hκ hem hD hL.lt d0 d1 c0 c1 c2 c3 c4 g0 g1 g2 g3 g4 (rT.below hb) ⟨rI.1, rI.2.below hb⟩ hlt hli bf bc bt hp hq hpq hqt htl h3 h1 h2).mono (fun e w' h => h.seen hb)
  have HR : Hid (Reads .i64 w a1 n S ∧ Reads .i64 w a2 n F ∧ Reads .i64 w a3 n T ∧ Reads .i64 w a4 n P ∧ Reads .i64 w a5 n A) := ⟨r1, r2, r3, r4, r5⟩
  clear hκ hem r1 r2 r3 r4 r5 hT hP hT' hP' rT rI bf bc bt hp hq hpq hqt htl h3 h1 h2 hlt hli
  go_enter Try.func21, Try.ntmps21
  go_wp2_with fail
  clear hmk
  go_loopg [26] n (fun g i wr => ∃ j : Nat, j ≤ n ∧ g = n - j ∧ i = .int .i64 j ∧ Below w.heap.size w wr ∧ wr.heap.size = w.heap.size + 1 ∧ wr.rowIs w.heap.size 44 (5 * n) (fun i => if i < 5 * j then lineF S F T P A i else .int .i64 0))
  case atStart =>
    refine ⟨0, Nat.zero_le _, rfl, rfl, (Below.refl _ _).alloc (Nat.le_refl _) _, by simp, ?_⟩
    exact (made_lines n w).congr (fun i _ => by simp)
  case round =>
    obtain ⟨j, hj, rfl, rfl, hbel, hsz, hrow⟩ := hrel
    by_cases hlt : j < n
    · have hltz : (j : Int) < (n : Int) := by omega
      obtain ⟨b1, o1, rfl, h1, d1⟩ := HR.out.1 j hlt
      obtain ⟨b2, o2, rfl, h2, d2⟩ := HR.out.2.1 j hlt
      obtain ⟨b3, o3, rfl, h3, d3⟩ := HR.out.2.2.1 j hlt
      obtain ⟨b4, o4, rfl, h4, d4⟩ := HR.out.2.2.2.1 j hlt
      obtain ⟨b5, o5, rfl, h5, d5⟩ := HR.out.2.2.2.2 j hlt
      have e1 := (hbel.cell (p := ⟨b1, o1 + j, none⟩) h1).trans d1
      have e2 := (hbel.cell (p := ⟨b2, o2 + j, none⟩) h2).trans d2
      have e3 := (hbel.cell (p := ⟨b3, o3 + j, none⟩) h3).trans d3
      have e4 := (hbel.cell (p := ⟨b4, o4 + j, none⟩) h4).trans d4
      have e5 := (hbel.cell (p := ⟨b5, o5 + j, none⟩) h5).trans d5
      have HH : Hid (b1 < w.heap.size ∧ b2 < w.heap.size ∧ b3 < w.heap.size ∧ b4 < w.heap.size ∧ b5 < w.heap.size) := ⟨h1, h2, h3, h4, h5⟩
      have z0 : wr.cell? ⟨w.heap.size, j * 5, none⟩ = some (.int .i64 0) := by rw [hrow.cell (i := j * 5) (by omega), if_neg (by omega)]
      have z1 : wr.cell? ⟨w.heap.size, j * 5 + 1, none⟩ = some (.int .i64 0) := by rw [hrow.cell (i := j * 5 + 1) (by omega), if_neg (by omega)]
      have z2 : wr.cell? ⟨w.heap.size, j * 5 + 2, none⟩ = some (.int .i64 0) := by rw [hrow.cell (i := j * 5 + 2) (by omega), if_neg (by omega)]
      have z3 : wr.cell? ⟨w.heap.size, j * 5 + 3, none⟩ = some (.int .i64 0) := by rw [hrow.cell (i := j * 5 + 3) (by omega), if_neg (by omega)]
      have z4 : wr.cell? ⟨w.heap.size, j * 5 + 4, none⟩ = some (.int .i64 0) := by rw [hrow.cell (i := j * 5 + 4) (by omega), if_neg (by omega)]
      have f0 := hrow.frozen (j * 5)
      have f1 := hrow.frozen (j * 5 + 1)
      have f2 := hrow.frozen (j * 5 + 2)
      have f3 := hrow.frozen (j * 5 + 3)
      have f4 := hrow.frozen (j * 5 + 4)
      have Hb : Hid (Below w.heap.size w wr ∧ wr.heap.size = w.heap.size + 1 ∧ wr.rowIs w.heap.size 44 (5 * n) (fun i => if i < 5 * j then lineF S F T P A i else .int .i64 0)) := ⟨hbel, hsz, hrow⟩
      clear hbel hsz hrow h1 h2 h3 h4 h5 d1 d2 d3 d4 d5
      go_wp2_with fail
      go_region_held3 (fun w' => w'.cell? ⟨b1, o1 + j, none⟩ = some (.int .i64 (S j)) ∧ w'.cell? ⟨b2, o2 + j, none⟩ = some (.int .i64 (F j)) ∧ w'.cell? ⟨b3, o3 + j, none⟩ = some (.int .i64 (T j)) ∧ w'.cell? ⟨b4, o4 + j, none⟩ = some (.int .i64 (P j)) ∧ w'.cell? ⟨b5, o5 + j, none⟩ = some (.int .i64 (A j))) 
        (first | with_reducible exact ⟨e1, e2, e3, e4, e5⟩ | with_reducible exact ⟨dr e1, dr e2, dr e3, dr e4, dr e5⟩ | exact ⟨far5 HH.out.1 e1, far5 HH.out.2.1 e2, far5 HH.out.2.2.1 e3, far5 HH.out.2.2.2.1 e4, far5 HH.out.2.2.2.2 e5⟩) (fail)
      go_wp2_with fail
      go_roundg (n - (j + 1))
      case measure => go_light; omega
      case rel =>
        go_light
        obtain ⟨hbel, hsz, hrow⟩ := Hb.out
        refine ⟨j + 1, by omega, rfl, by simp, (((((hbel.setCell (by simp) _).setCell (by simp) _).setCell (by simp) _).setCell (by simp) _).setCell (by simp) _).drew, by simpa [World.setCell] using hsz, ?_⟩
        exact (((((hrow.set (j * 5) _).set (j * 5 + 1) _).set (j * 5 + 2) _).set (j * 5 + 3) _).set (j * 5 + 4) _).congr (fun i _ => line_step S F T P A i j)
    · have hrow' : wr.rowIs w.heap.size 44 (5 * n) (lineF S F T P A) := hrow.congr (fun i hi => by rw [if_pos (by omega)])
      have Hb : Hid (Below w.heap.size w wr ∧ wr.heap.size = w.heap.size + 1 ∧ wr.rowIs w.heap.size 44 (5 * n) (lineF S F T P A)) := ⟨hbel, hsz, hrow'⟩
      clear hbel hsz hrow hrow'
      go_wp2_with fail
      obtain ⟨hbel, hsz, hrow⟩ := Hb.out
      refine (HX.out _ wr.heap.size w.heap.size (hbel.alloc (by omega) _) (by simp) (hrow.alloc _) (by simp) (by simp)).mono ?_
      rintro e w2 ⟨v, rfl, ho, hb2⟩
      have HD : Hid (Done w em p0 li q t t' pp' pp lt Zt Zi (.returned v) w2) := ⟨v, rfl, ho, hb2⟩
      clear ho hb2 hbel hsz hrow HX HR
      go_wp2_with fail
      go_ret
      exact HD.out
end Go.Proofs.Qxb6603146a
