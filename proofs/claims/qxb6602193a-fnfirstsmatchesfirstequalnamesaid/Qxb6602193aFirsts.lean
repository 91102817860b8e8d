import Derived.Test.Qxb6602193aRows
import Derived.Test.Qxb6602193aTable
import Derived.Test.Qxb6602193aName
import Derived.Test.Qxb6602193aEqual
import Derived.Test.Qxb6602193aClones
namespace Go.Proofs.Qxb6602193a
open Go.RowKit Go.Deep

/-- Two names are one: their hashes, their lengths and their texts. -/
def keyE (n tl : Nat) (H F : Nat → Nat) (T : Nat → Int) (i j : Nat) : Bool :=
  decide (H i = H j ∧ nmLen n tl (fun t => (F t : Int)) i = nmLen n tl (fun t => (F t : Int)) j ∧ ∀ t, t < nmLen n tl (fun t => (F t : Int)) i → nmAt (fun t => (F t : Int)) T i t = nmAt (fun t => (F t : Int)) T j t)

theorem keyE_ok (n tl : Nat) (H F : Nat → Nat) (T : Nat → Int) : EqKey (keyE n tl H F T) H where
  refl := fun i => by simp [keyE]
  symm := fun i j h => by
    simp only [keyE, decide_eq_true_eq] at h ⊢
    exact ⟨h.1.symm, h.2.1.symm, fun t ht => (h.2.2 t (by omega)).symm⟩
  trans := fun i j k h h' => by
    simp only [keyE, decide_eq_true_eq] at h h' ⊢
    exact ⟨h.1.trans h'.1, h.2.1.trans h'.2.1, fun t ht => (h.2.2 t ht).trans (h'.2.2 t (by omega))⟩
  hash := fun i j h => by
    simp only [keyE, decide_eq_true_eq] at h
    exact h.1

/-- What firsts leaves. -/
def FirstsRet (n tl m fb sb : Nat) (P H F : Nat → Nat) (T f0 : Nat → Int) (w : World) (e : Ending) (w' : World) : Prop :=
  ∃ (size tbk cap : Nat) (tb : Nat → Nat) (M : Nat) (g : Nat → Value), e = .returned (.slice (some ⟨tbk, 0, none⟩) size cap) ∧ SizeOk n size ∧ TabInv (keyE n tl H F T) H size n tb ∧
    w'.rowIs tbk 36 M g ∧ size ≤ M ∧ (∀ s, s < size → g s = .int .u32 (tb s : Int)) ∧ (0 < m → w'.rowIs fb 21 m (fun x => .int .i32 (wantF P (keyE n tl H F T) f0 n x))) ∧
    (tbk = sb ∨ w.heap.size ≤ tbk) ∧ Kept2 fb sb w w'

theorem zero36 (w : World) : (zeroValue 36).run Try.prog w = .ok (.int .u32 0) w := by kernel_rfl

def boxF (eb n : Nat) (tr : Option Addr) (tl : Nat) (i : Nat) : Value := if i = 0 then .slice (some ⟨eb, 0, none⟩) n n else .slice tr tl tl

/-- What stands at the head of the great loop's k-th round. -/
structure MainRel (n tl m fb tbk sz M : Nat) (P H F : Nat → Nat) (T f0 : Nat → Int) (W : World) (k : Nat) (wr : World) : Prop where
  kept : Kept2 fb tbk W wr
  fir : 0 < m → wr.rowIs fb 21 m (fun x => .int .i32 (wantF P (keyE n tl H F T) f0 k x))
  tab : ∃ (tb : Nat → Nat) (g : Nat → Value), TabInv (keyE n tl H F T) H sz k tb ∧ wr.rowIs tbk 36 M g ∧ ∀ s, s < sz → g s = .int .u32 (tb s : Int)

/-- The search has come d slots far. -/
structure InRel (e : Nat → Nat → Bool) (H : Nat → Nat) (sz k : Nat) (tb : Nat → Nat) (d s : Nat) : Prop where
  pos : s = (H k + d) % sz
  lt : s < sz
  dlt : d < sz
  seen : Seen e H sz k tb d

theorem pow_two {sz : Nat} (h : Hid (∃ p, sz = 2 ^ p)) : Hid (∃ p, 2 * sz = 2 ^ p) := by
  obtain ⟨p, rfl⟩ := h.out
  exact ⟨p + 1, by rw [Nat.pow_succ]; omega⟩

theorem box_row (eb n : Nat) (tr : Option Addr) (tl : Nat) (w : World) : (w.alloc (.cells #[.slice (some ⟨eb, 0, none⟩) n n, .slice tr tl tl] 32)).rowIs w.heap.size 32 2 (boxF eb n tr tl) :=
  World.rowIs_alloc w #[.slice (some ⟨eb, 0, none⟩) n n, .slice tr tl tl] 32 (boxF eb n tr tl) (fun i hi => by match i, hi with | 0, _ => rfl | 1, _ => rfl)

theorem text_kept {x y : Nat} {a b : World} (h : Kept2 x y a b) {tr : Option Addr} {tl : Nat} {T : Nat → Int} (ht : TextIs a tr tl T) (hxy : ∀ c, tr = some c → c.block ≠ x ∧ c.block ≠ y) : TextIs b tr tl T := by
  rcases ht with h0 | ⟨tb, rfl, hr⟩
  · exact .inl h0
  · exact .inr ⟨tb, rfl, h.reads hr (fun c hc => hxy c hc)⟩

theorem put_cell {tb : Nat → Nat} {g : Nat → Value} {sz : Nat} (hg : ∀ s, s < sz → g s = .int .u32 (tb s : Int)) (s k t : Nat) (ht : t < sz) :
    (if t = s then Value.int .u32 ((k : Int) + 1) else g t) = .int .u32 (put tb s (k + 1) t : Int) := by
  by_cases h : t = s
  · subst h; rw [if_pos rfl, put_same]; rfl
  · rw [if_neg h, put_other _ _ h, hg t ht]

theorem main_add {n tl m fb tbk sz M : Nat} {P H F : Nat → Nat} {T f0 : Nat → Int} {W wx : World} {k d s : Nat} {tb : Nat → Nat} {g : Nat → Value} (hI : TabInv (keyE n tl H F T) H sz k tb)
    (hin : InRel (keyE n tl H F T) H sz k tb d s) (hz : tb s = 0) (K : Kept2 fb tbk W wx) (X4 : wx.rowIs fb 21 m (fun x => .int .i32 (wantF P (keyE n tl H F T) f0 k x))) (X5 : wx.rowIs tbk 36 M g)
    (hg : ∀ s, s < sz → g s = .int .u32 (tb s : Int)) (hne : fb ≠ tbk) :
    MainRel n tl m fb tbk sz M P H F T f0 W (k + 1) ((wx.setCell ⟨tbk, s, none⟩ (.int .u32 ((k : Int) + 1))).setCell ⟨fb, P k, none⟩ (.int .i32 (P k : Int))) := by
  have hp := hin.pos
  have hf : fst (keyE n tl H F T) k = k := hI.miss (keyE_ok n tl H F T) hin.seen (by rw [← hp]; exact hz)
  refine ⟨(K.setY s _).setX (P k) _, fun _ => ((X4.setOther (a := ⟨tbk, s, none⟩) hne _).set (P k) _).congr (fun x _ => ?_), put tb s (k + 1), _, ?_, (X5.set s _).setOther (a := ⟨fb, P k, none⟩) (fun e => hne e.symm) _, fun t ht => put_cell hg s k t ht⟩
  · show (if x = P k then _ else _) = Value.int .i32 (if x = P k then ((P (fst (keyE n tl H F T) k) : Nat) : Int) else wantF P (keyE n tl H F T) f0 k x)
    rw [hf]
    split <;> rfl
  · have := hI.add hf hin.dlt hin.seen (by rw [← hp]; exact hz)
    rw [← hp] at this
    exact this

theorem main_hit {n tl m fb tbk sz M : Nat} {P H F : Nat → Nat} {T f0 : Nat → Int} {W wx : World} {k i s : Nat} {tb : Nat → Nat} {g : Nat → Value} (hI : TabInv (keyE n tl H F T) H sz k tb)
    (hs : s < sz) (hz : tb s = i + 1) (hik : i < k) (he : keyE n tl H F T i k = true) (K : Kept2 fb tbk W wx) (X4 : wx.rowIs fb 21 m (fun x => .int .i32 (wantF P (keyE n tl H F T) f0 k x))) (X5 : wx.rowIs tbk 36 M g)
    (hg : ∀ s, s < sz → g s = .int .u32 (tb s : Int)) (hne : fb ≠ tbk) :
    MainRel n tl m fb tbk sz M P H F T f0 W (k + 1) ((wx.setCell ⟨fb, P k, none⟩ (.int .i32 (P i : Int))).drew) := by
  have hf : fst (keyE n tl H F T) k = i := by
    have := hI.hit (keyE_ok n tl H F T) hs (by omega) (by rw [hz]; exact he)
    rw [this, hz]; rfl
  refine ⟨(K.setX (P k) _).drew, fun _ => (X4.set (P k) _).congr (fun x _ => ?_), tb, g, hI.keep (by omega), X5.setOther (a := ⟨fb, P k, none⟩) (fun e => hne e.symm) _, hg⟩
  show (if x = P k then _ else _) = Value.int .i32 (if x = P k then ((P (fst (keyE n tl H F T) k) : Nat) : Int) else wantF P (keyE n tl H F T) f0 k x)
  rw [hf]
  split <;> rfl

theorem keepS {B : Nat} {w0 wa wb : World} {a0 a1 a2 a3 : Addr} {v0 v1 v2 v3 : Value} (h : wa.cell? a0 = some v0 ∧ wa.cell? a1 = some v1 ∧ wa.cell? a2 = some v2 ∧ wa.cell? a3 = some v3 ∧ Below B w0 wa) (hB : B ≤ wa.heap.size) (hb : Below wa.heap.size wa wb) :
    wb.cell? a0 = some v0 ∧ wb.cell? a1 = some v1 ∧ wb.cell? a2 = some v2 ∧ wb.cell? a3 = some v3 ∧ Below B w0 wb := by
  obtain ⟨h0, h1, h2, h3, h4⟩ := h
  exact ⟨by rw [hb.cell (World.block_lt_of_cell? _ _ h0)]; exact h0, by rw [hb.cell (World.block_lt_of_cell? _ _ h1)]; exact h1, by rw [hb.cell (World.block_lt_of_cell? _ _ h2)]; exact h2,
    by rw [hb.cell (World.block_lt_of_cell? _ _ h3)]; exact h3, h4.trans (hb.mono hB)⟩

theorem row_other {b y : Nat} {t : TypeId} {m : Nat} {z : Value} {f : Nat → Value} : ∀ (n o : Nat) {w : World}, w.rowIs b t m f → b ≠ y → (w.setCells y o (List.replicate n z)).rowIs b t m f
  | 0, _, _, h, _ => h
  | n + 1, o, w, h, hne => row_other n (o + 1) (w := w.setCell ⟨y, o, none⟩ z) (h.setOther (a := ⟨y, o, none⟩) hne z) hne

theorem kept_join {fb sb tbk : Nat} {w W wr : World} (h : Kept2 fb sb w W) (k : Kept2 fb tbk W wr) (ht : tbk = sb ∨ w.heap.size ≤ tbk) : Kept2 fb sb w wr :=
  ⟨k.os.trans h.os, k.tape.trans h.tape, k.output.trans h.output, Nat.le_trans h.size k.size, fun j hj h1 h2 => (k.block j (Nat.lt_of_lt_of_le hj h.size) h1 (by omega)).trans (h.block j hj h1 h2)⟩

/-- One slot further. -/
theorem in_next {e : Nat → Nat → Bool} {H : Nat → Nat} {sz k : Nat} {tb : Nat → Nat} {d s : Nat} (hI : TabInv e H sz k tb) (hk : k < sz) (hin : InRel e H sz k tb d s) (hz : tb s ≠ 0) (he : e (tb s - 1) k = false) :
    InRel e H sz k tb (d + 1) ((s + 1) % sz) := by
  have hp := hin.pos
  have hs : Seen e H sz k tb (d + 1) := fun d' hd' => by
    by_cases h : d' = d
    · subst h; rw [← hp]; exact ⟨hz, he⟩
    · exact hin.seen d' (by omega)
  obtain ⟨d0, hd0, h0⟩ := hI.free hk (H k)
  refine ⟨?_, Nat.mod_lt _ (by omega), ?_, hs⟩
  · rw [hp, Nat.mod_add_mod, Nat.add_assoc]
  · rcases Nat.lt_or_ge d0 (d + 1) with h | h
    · exact absurd h0 (hs d0 h).1
    · omega

set_option maxHeartbeats 4000000 in
set_option maxRecDepth 100000 in
theorem firsts_any (eb n : Nat) (tr : Option Addr) (tl : Nat) (fb m : Nat) (fr : Option Addr) (sb sl : Nat) (sr : Option Addr) (P H F : Nat → Nat) (T f0 : Nat → Int) (S : Nat → Value) (w : World)
    (hn : n ≤ 4096) (htl : tl ≤ 1048576) (hm : m ≤ 1048576) (hsl : sl ≤ 1048576)
    (hF : ∀ i, F i ≤ 4294967295) (hP : ∀ i, i < n → P i < m) (hH : ∀ i, H i ≤ 4294967295) (hT : ∀ i, 0 ≤ T i ∧ T i ≤ 255)
    (hle : ∀ i, i < n → (F i : Int) ≤ endOf n tl (fun t => (F t : Int)) i) (hend : ∀ i, i < n → endOf n tl (fun t => (F t : Int)) i ≤ tl)
    (he : w.rowIs eb 43 (3 * n) (entF (fun i => (P i : Int)) (fun i => (H i : Int)) (fun i => (F i : Int)))) (ht : TextIs w tr tl T)
    (hf : 0 < m → fr = some ⟨fb, 0, none⟩ ∧ w.rowIs fb 21 m (fun x => .int .i32 (f0 x)))
    (hs : 0 < sl → sr = some ⟨sb, 0, none⟩ ∧ w.rowIs sb 36 sl S)
    (d1 : eb ≠ fb) (d2 : eb ≠ sb) (d3 : fb ≠ sb) (d4 : ∀ c, tr = some c → c.block ≠ fb ∧ c.block ≠ sb ∧ c.block < w.heap.size) (d5 : 0 < m → fb < w.heap.size) (d5' : fb ≠ w.heap.size ∧ fb ≠ w.heap.size + 1) (d6 : 0 < sl → sb < w.heap.size) :
    Calls Try.prog 19 #[.agg #[.slice (some ⟨eb, 0, none⟩) n n, .slice tr tl tl], .slice fr m m, .slice sr sl sl] w (FirstsRet n tl m fb sb P H F T f0 w) := by
  go_enter Try.func19, Try.ntmps19
  go_wp2
  -- the size of the table
  go_loopg [7] (2 * n - 1) (fun g i wr => wr = w.alloc (.cells #[.slice (some ⟨eb, 0, none⟩) n n, .slice tr tl tl] 32) ∧ ∃ sz : Nat, Hid (∃ p, sz = 2 ^ p) ∧ g = 2 * n - sz ∧ 1 ≤ sz ∧ (sz = 1 ∨ sz < 4 * n) ∧ i = .int .i64 sz)
  case atStart => exact ⟨rfl, 1, ⟨0, rfl⟩, rfl, Nat.le_refl _, .inl rfl, rfl⟩
  case round =>
    obtain ⟨rfl, sz, hpow, rfl, h1, h4, rfl⟩ := hrel
    have hsz : sz ≤ 16384 := by omega
    by_cases hlt : sz < 2 * n
    · have hltz : (sz : Int) < 2 * (n : Int) := by omega
      go_wp2
      go_roundg (2 * n - 2 * sz)
      case measure => go_light; omega
      case rel => go_light; exact ⟨rfl, 2 * sz, pow_two hpow, rfl, by omega, .inr (by omega), by go_num⟩
    · have hltz : ¬ (sz : Int) < 2 * (n : Int) := by omega
      go_upto_if 25 with (fail)
      -- room for the table
      go_cut [2] (fun s2 wc => ∃ (tbk M : Nat) (g : Nat → Value), s2 = .slice (some ⟨tbk, 0, none⟩) M M ∧ sz ≤ M ∧ M ≤ 1048576 ∧ wc.rowIs tbk 36 M g ∧ ((tbk = sb ∧ sb < w.heap.size) ∨ tbk = w.heap.size + 1) ∧ Below (w.heap.size + 1) (w.alloc (.cells #[.slice (some ⟨eb, 0, none⟩) n n, .slice tr tl tl] 32)) wc)
      case first =>
        by_cases hcap : sl < sz
        · have hmk := run_make_row' (P := Try.prog) 22 36 (.int .u32 0) 4 Try.underlying22 info36 rfl .i64 .i64 sz (by omega) (by omega)
          go_wp2
          go_meet
          go_light
          refine ⟨w.heap.size + 1, sz, fun _ => .int .u32 0, rfl, Nat.le_refl _, by omega, ?_, .inr rfl, (Below.refl _ _).alloc (by simp) _⟩
          have := World.rowIs_made (w.alloc (.cells #[.slice (some ⟨eb, 0, none⟩) n n, .slice tr tl tl] 32)) (.int .u32 0) sz 36
          rw [World.size_alloc] at this
          exact this
        · obtain ⟨hsr, hsrow⟩ := hs (by omega)
          subst hsr
          go_wp2
          go_meet
          go_light
          exact ⟨sb, sl, S, rfl, by omega, hsl, hsrow.alloc _, .inl ⟨rfl, d6 (by omega)⟩, Below.refl _ _⟩
      case rest =>
        obtain ⟨tbk, M, g, rfl, hszM, hM, hrow, htbk, hbel⟩ := hcut
        have hkw : Kept2 fb tbk w wc := (Kept2.of_below ((Below.refl _ w).alloc (Nat.le_refl _) _)).trans (Kept2.of_below (hbel.mono (by simp)))
        have hpb := box_row eb n tr tl w
        have hpbc : wc.rowIs w.heap.size 32 2 (boxF eb n tr tl) := hpb.of_block (hbel.block _ (by omega))
        have htb : tbk ≠ eb ∧ tbk ≠ fb ∧ tbk ≠ w.heap.size := by
          have := he.lt
          rcases htbk with ⟨h, _⟩ | h
          · exact ⟨by omega, by omega, by omega⟩
          · exact ⟨by omega, by omega, by omega⟩
        have htx : ∀ c, tr = some c → c.block ≠ fb ∧ c.block ≠ tbk := fun c hc => by
          have h4 := d4 c hc
          exact ⟨h4.1, by rcases htbk with ⟨h, _⟩ | h <;> omega⟩
        have hcl : ∀ ty, (Builtin.clear_ #[22] ty #[.slice (some ⟨tbk, 0, none⟩) sz M]).run Try.prog wc = .ok (.tuple #[]) (wc.setCells tbk 0 (List.replicate sz (.int .u32 0))) :=
          fun ty => Lib.run_clear_slice wc 22 36 ty (.int .u32 0) Try.underlying22 zero36 rfl rfl tbk 0 sz M h1 (fun j hj => by rw [Nat.zero_add, hrow.cell (by omega)]; rfl) (fun j hj => hrow.frozen _)
        have hszMz : (sz : Int) ≤ (M : Int) := by omega
        -- the world in which the great loop begins
        obtain ⟨W1, hW1⟩ : ∃ W1, W1 = wc.setCells tbk 0 (List.replicate sz (.int .u32 0)) := ⟨_, rfl⟩
        rw [← hW1] at hcl
        have hk1 : Kept2 fb tbk wc W1 := by rw [hW1]; exact kept_fill sz 0 (Kept2.refl _ _ _)
        have R1 : W1.rowIs eb 43 (3 * n) (entF (fun i => (P i : Int)) (fun i => (H i : Int)) (fun i => (F i : Int))) := hk1.row (hkw.row he d1 (by omega)) d1 (by omega)
        have R2 : TextIs W1 tr tl T := text_kept hk1 (text_kept hkw ht htx) htx
        have R3 : W1.rowIs w.heap.size 32 2 (boxF eb n tr tl) := hk1.row hpbc (by omega) (by omega)
        have R4 : 0 < m → W1.rowIs fb 21 m (fun x => .int .i32 (f0 x)) := fun h => by
          have hfc : wc.rowIs fb 21 m (fun x => .int .i32 (f0 x)) := ((hf h).2.alloc _).of_block (hbel.block _ (by have := d5 h; omega))
          rw [hW1]
          exact row_other sz 0 hfc (by omega)
        have R5 : W1.rowIs tbk 36 M (fun i => if 0 ≤ i ∧ i < 0 + sz then .int .u32 0 else g i) := by rw [hW1]; exact row_fill sz 0 hrow
        have RK : Kept2 fb sb w W1 := by
          have hkb : Below w.heap.size w wc := ((Below.refl _ w).alloc (Nat.le_refl _) _).trans (hbel.mono (by omega))
          rcases htbk with ⟨h, _⟩ | h
          · subst h
            exact (Kept2.of_below hkb).trans hk1
          · exact ⟨hk1.os.trans hkb.os, hk1.tape.trans hkb.tape, hk1.output.trans hkb.output, Nat.le_trans hkb.size hk1.size, fun j hj h1 _ => (hk1.block j (Nat.lt_of_lt_of_le hj hkb.size) h1 (by omega)).trans (hkb.block j hj)⟩
        have RM : MainRel n tl m fb tbk sz M P H F T f0 W1 0 W1 := ⟨Kept2.refl _ _ _, R4, fun _ => 0, _, TabInv.start _ _ _, R5, fun s hs => by rw [if_pos (by omega)]; rfl⟩
        have hfr : 0 < m → fr = some ⟨fb, 0, none⟩ := fun h => (hf h).1
        have hWs : w.heap.size < W1.heap.size := R3.lt
        have cb : W1.cell? ⟨w.heap.size, 0, none⟩ = some (.slice (some ⟨eb, 0, none⟩) n n) := R3.cell (by omega)
        have htk : tbk = sb ∨ w.heap.size ≤ tbk := by omega
        clear hs hf he ht hpb hpbc hrow hkw hk1 R4 R5 hbel hW1 htbk
        go_wp2_with (simp only [hcl])
        clear hcl cb
        go_loopg [38] n (fun g i wr => ∃ k : Nat, k ≤ n ∧ g = n - k ∧ i = .int .i64 k ∧ MainRel n tl m fb tbk sz M P H F T f0 W1 k wr)
        case atStart => exact ⟨0, Nat.zero_le _, rfl, rfl, RM⟩
        case round =>
          obtain ⟨k, hk, rfl, rfl, hR⟩ := hrel
          clear RM
          by_cases hkn : k < n
          · have hknz : (k : Int) < (n : Int) := by omega
            have hfb := d5 (by have := hP k hkn; omega)
            have E1 := hR.kept.row R1 d1 (by omega)
            have E3 := hR.kept.row R3 (by omega) (by omega)
            have c0 : wr.cell? ⟨eb, k * 3, none⟩ = some (.int .u32 (P k : Int)) := by rw [E1.cell (i := k * 3) (by omega), ent0]
            have c1 : wr.cell? ⟨eb, k * 3 + 1, none⟩ = some (.int .u32 (H k : Int)) := by rw [E1.cell (i := k * 3 + 1) (by omega), ent1]
            have c2 : wr.cell? ⟨eb, k * 3 + 2, none⟩ = some (.int .u32 (F k : Int)) := by rw [E1.cell (i := k * 3 + 2) (by omega), ent2]
            have e0 : ∀ o, (wr.alloc o).cell? ⟨w.heap.size, 0, none⟩ = some (.slice (some ⟨eb, 0, none⟩) n n) := fun o => by rw [(E3.alloc o).cell (i := 0) (by omega)]; rfl
            have e1 : ∀ o, (wr.alloc o).cell? ⟨w.heap.size, 1, none⟩ = some (.slice tr tl tl) := fun o => by rw [(E3.alloc o).cell (i := 1) (by omega)]; rfl
            go_wp2_with fail
            refine (name_any eb n tr tl k _ _ _ T _ hn htl hkn (fun i => ⟨by omega, by have := hF i; omega⟩) (hle k hkn) (hend k hkn) (E1.alloc _) ((text_kept hR.kept R2 htx).below ((Below.refl _ _).alloc (Nat.le_refl _) _))).mono ?_
            rintro e w2 ⟨r, c, rfl, hrd, hb2⟩
            have B2 : Below wr.heap.size wr w2 := ((Below.refl _ _).alloc (Nat.le_refl _) _).trans (hb2.mono (by simp))
            have G6 : w2.rowIs wr.heap.size 43 3 (fun i => .int .u32 (if i = 0 then (P k : Int) else if i = 1 then (H k : Int) else (F k : Int))) :=
              row_below (World.rowIs_alloc wr #[.int .u32 (P k : Int), .int .u32 (H k : Int), .int .u32 (F k : Int)] 43 _ (fun i hi => by match i, hi with | 0, _ => rfl | 1, _ => rfl | 2, _ => rfl)) hb2
            obtain ⟨p, hp⟩ := hpow.out
            obtain ⟨s0, hs0⟩ : ∃ s0, s0 = H k % sz := ⟨_, rfl⟩
            have hand : bits .and .u32 (H k : Int) ((sz : Int) - 1) = (s0 : Int) := by rw [hs0, hp]; exact and_mask _ _ (by have := hH k; omega) (by rw [← hp]; omega)
            have HP : Hid (sz = 2 ^ p) := hp
            have q1 : w2.cell? ⟨wr.heap.size, 1, none⟩ = some (.int .u32 (H k : Int)) := by rw [G6.cell (i := 1) (by omega)]; rfl
            obtain ⟨tb, g, hI, htrow, hg⟩ := hR.tab
            have hs0l : s0 < sz := by rw [hs0]; exact Nat.mod_lt _ (by omega)
            have I0 : InRel (keyE n tl H F T) H sz k tb 0 s0 := ⟨hs0, hs0l, by omega, fun d' hd' => by omega⟩
            -- what is known of the world in which the search begins
            have G1 := row_below E1 B2
            have G2 := (text_kept hR.kept R2 htx).below B2
            have G3 := row_below E3 B2
            have G4 : 0 < m → w2.rowIs fb 21 m (fun x => .int .i32 (wantF P (keyE n tl H F T) f0 k x)) := fun h => row_below (hR.fir h) B2
            have G5 := row_below htrow B2
            have GK : Kept2 fb tbk W1 w2 := hR.kept.below B2
            have hneB : wr.heap.size ≠ fb ∧ wr.heap.size ≠ tbk := ⟨by have := hR.kept.size; omega, by have := htrow.lt; omega⟩
            generalize wr.heap.size = eB at *
            generalize hnl : nmLen n tl (fun t => (F t : Int)) k = nl at *
            have HNL : Hid (nmLen n tl (fun t => (F t : Int)) k = nl) := hnl
            clear hp c0 c1 c2 e0 e1 hs0 htrow hR E1 E3 B2 hb2 hnl
            go_wp2
            clear hand q1
            go_loopg [12] sz (fun g i wx => ∃ d s : Nat, g = sz - d ∧ i = .int .u32 (s : Int) ∧ InRel (keyE n tl H F T) H sz k tb d s ∧ Below w2.heap.size w2 wx)
            case atStart => exact ⟨0, s0, rfl, rfl, I0, Below.refl _ _⟩
            case round =>
              clear I0
              obtain ⟨d, s, rfl, rfl, hin, hbx⟩ := hrel
              have hsz' : s < sz := hin.lt
              have hszI : (s : Int) < (sz : Int) := by omega
              have X5 := row_below G5 hbx
              have X6 := row_below G6 hbx
              by_cases hz : tb s = 0
              · have t1 : wr.cell? ⟨tbk, s, none⟩ = some (.int .u32 0) := by rw [X5.cell (by omega), hg s hsz', hz]; rfl
                have t2 := X5.frozen s
                have hmp : 0 < m := by have := hP k hkn; omega
                have hPk := hP k hkn
                have hPz : (P k : Int) < (m : Int) := by omega
                obtain rfl := hfr hmp
                have X4 := row_below (G4 hmp) hbx
                have t3 : ∀ v, (wr.setCell ⟨tbk, s, none⟩ v).cell? ⟨eB, 0, none⟩ = some (.int .u32 (P k : Int)) := fun v => by rw [(X6.setOther (a := ⟨tbk, s, none⟩) hneB.2 v).cell (i := 0) (by omega)]; rfl
                have t4 : ∀ v, (wr.setCell ⟨tbk, s, none⟩ v).cell? ⟨fb, P k, none⟩ = some (.int .i32 (wantF P (keyE n tl H F T) f0 k (P k))) := fun v => (X4.setOther (a := ⟨tbk, s, none⟩) (by simp; omega) v).cell hPk
                have t5 : ∀ v, (wr.setCell ⟨tbk, s, none⟩ v).frozen? ⟨fb, P k, none⟩ = false := fun v => (X4.setOther (a := ⟨tbk, s, none⟩) (by simp; omega) v).frozen _
                have R := main_add hI hin hz (GK.below hbx) X4 X5 hg (by omega)
                go_wp2
                go_roundg (n - (k + 1))
                case measure => go_light; omega
                case rel => go_light; exact ⟨k + 1, by omega, rfl, by simp, R⟩
              · obtain ⟨i, hi⟩ : ∃ i, tb s = i + 1 := ⟨tb s - 1, by omega⟩
                have hik : i < k := by have := hI.le s hsz'; omega
                have hin' : i < n := by omega
                have hiz : (i : Int) < (n : Int) := by omega
                have X1 := row_below G1 hbx
                have X3 := row_below G3 hbx
                have t1 : wr.cell? ⟨tbk, s, none⟩ = some (.int .u32 ((i : Int) + 1)) := by rw [X5.cell (by omega), hg s hsz', hi]; rfl
                have p0 : wr.cell? ⟨w.heap.size, 0, none⟩ = some (.slice (some ⟨eb, 0, none⟩) n n) := by rw [X3.cell (i := 0) (by omega)]; rfl
                have p1 : wr.cell? ⟨w.heap.size, 1, none⟩ = some (.slice tr tl tl) := by rw [X3.cell (i := 1) (by omega)]; rfl
                have p2 : wr.cell? ⟨eb, i * 3 + 1, none⟩ = some (.int .u32 (H i : Int)) := by rw [X1.cell (i := i * 3 + 1) (by omega), ent1]
                have p3 : wr.cell? ⟨eB, 1, none⟩ = some (.int .u32 (H k : Int)) := by rw [X6.cell (i := 1) (by omega)]; rfl
                obtain ⟨p, hp⟩ := hpow.out
                obtain ⟨s1, hs1⟩ : ∃ s1, s1 = (s + 1) % sz := ⟨_, rfl⟩
                have hand : bits .and .u32 ((s : Int) + 1) ((sz : Int) - 1) = (s1 : Int) := by
                  rw [hs1, hp]; exact and_mask (s + 1) _ (by omega) (by rw [← hp]; omega)
                have HS1 : Hid (s1 = (s + 1) % sz) := hs1
                have HTI : Hid (tb s = i + 1) := hi
                clear hs1 hp hi
                by_cases hh : H i = H k
                · have hd : ((H i : Int) == (H k : Int)) = true := by rw [hh]; simp
                  have HH : Hid (H i = H k) := hh
                  have hFz : ∀ i, (0 : Int) ≤ ((F i : Nat) : Int) ∧ ((F i : Nat) : Int) ≤ 4294967295 := fun i => ⟨by omega, by have := hF i; omega⟩
                  have hlei := hle i hin'
                  have hendi := hend i hin'
                  clear hh
                  go_wp2_with fail
                  go_region_held3 (fun w' => w'.cell? ⟨w.heap.size, 0, none⟩ = some (.slice (some ⟨eb, 0, none⟩) n n) ∧ w'.cell? ⟨w.heap.size, 1, none⟩ = some (.slice tr tl tl) ∧ w'.cell? ⟨eb, i * 3 + 1, none⟩ = some (.int .u32 (H i : Int)) ∧ w'.cell? ⟨eB, 1, none⟩ = some (.int .u32 (H k : Int)) ∧ Below w2.heap.size w2 w') (first | (refine ⟨p0, p1, p2, p3, ?_⟩; first | exact hbx.drew | exact hbx) | exact keepS (wa := wr.drew) ⟨p0, p1, p2, p3, hbx.drew⟩ hbx.size hb3)
                    (first | (go_at_call 18; refine (name_any eb n tr tl i _ _ _ T _ hn htl hin' hFz hlei hendi (by exact row_below G1 hbx.drew) (by exact G2.below hbx.drew)).mono ?_; rintro e w3 ⟨r3, c3, rfl, hrd3, hb3⟩) | (go_at_call 20; refine (bytesEqual _ _ _ _ _ _ _ _ _ (by exact hrd3) (by exact (hrd.below hbx.drew).below hb3) (fun t => hT _) (fun t => hT _)).mono ?_; rintro e w4 ⟨v, rfl, hw4, hv⟩; subst hw4))
                  rename_i hHeld
                  have hbx4 : Below w2.heap.size w2 w4 := hHeld.2.2.2.2
                  have hke : Hid (keyE n tl H F T i k = v) := by
                    show keyE n tl H F T i k = v
                    symm
                    rw [Bool.eq_iff_iff, hv]
                    simp only [keyE, decide_eq_true_eq, HNL.out]
                    exact ⟨fun h => ⟨HH.out, h⟩, fun h => h.2⟩
                  clear hHeld hv hrd3
                  cases v with
                  | false =>
                    go_wp2
                    go_roundg (sz - (d + 1))
                    case measure => have := hin.dlt; go_light; omega
                    case rel =>
                      go_light
                      refine ⟨d + 1, s1, rfl, rfl, ?_, hbx4⟩
                      rw [HS1.out]
                      exact in_next hI (by omega) hin hz (by rw [HTI.out]; exact hke.out)
                  | true =>
                    have hmp : 0 < m := by have := hP k hkn; omega
                    have hPk := hP k hkn
                    have hPz : (P k : Int) < (m : Int) := by omega
                    have hPi := hP i hin'
                    obtain rfl := hfr hmp
                    have Y1 := row_below G1 hbx4
                    have Y3 := row_below G3 hbx4
                    have Y4 := row_below (G4 hmp) hbx4
                    have Y5 := row_below G5 hbx4
                    have Y6 := row_below G6 hbx4
                    have z0 : w4.cell? ⟨w.heap.size, 0, none⟩ = some (.slice (some ⟨eb, 0, none⟩) n n) := by rw [Y3.cell (i := 0) (by omega)]; rfl
                    have z1 : w4.cell? ⟨eb, i * 3, none⟩ = some (.int .u32 (P i : Int)) := by rw [Y1.cell (i := i * 3) (by omega), ent0]
                    have z2 : w4.cell? ⟨eB, 0, none⟩ = some (.int .u32 (P k : Int)) := by rw [Y6.cell (i := 0) (by omega)]; rfl
                    have z3 : w4.cell? ⟨fb, P k, none⟩ = some (.int .i32 (wantF P (keyE n tl H F T) f0 k (P k))) := Y4.cell hPk
                    have z4 := Y4.frozen (P k)
                    have R := main_hit hI hsz' HTI.out hik hke.out (GK.below hbx4) Y4 Y5 hg (by omega)
                    clear p0 p1 p2 p3 t1
                    go_wp2
                    go_region
                    all_goals
                      go_wp2
                      go_roundg (n - (k + 1))
                      case measure => go_light; omega
                      case rel => go_light; exact ⟨k + 1, by omega, rfl, by simp, R⟩
                · have hd : ((H i : Int) == (H k : Int)) = false := by simp; omega
                  have hnk : keyE n tl H F T i k = false := by simp [keyE, hh]
                  go_wp2_with fail
                  go_quiet (fail)
                  go_wp2
                  go_roundg (sz - (d + 1))
                  case measure => have := hin.dlt; go_light; omega
                  case rel =>
                    go_light
                    refine ⟨d + 1, s1, rfl, rfl, ?_, below_drewN hbx _⟩
                    rw [HS1.out]
                    exact in_next hI (by omega) hin hz (by rw [HTI.out]; exact hnk)
          · go_wp2
            go_ret
            obtain ⟨tb, g, hI, hrow, hg⟩ := hR.tab
            obtain rfl : k = n := by omega
            exact ⟨sz, tbk, M, tb, M, g, rfl, ⟨hpow.out, by omega, h4⟩, hI, hrow, hszM, hg, hR.fir, htk, kept_join RK hR.kept htk⟩
end Go.Proofs.Qxb6602193a
