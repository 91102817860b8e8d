import Derived.Test.Qxb6603146aCut
namespace Go.Proofs.Qxb6603146a
open Go.RowKit Go.Deep

/-- The block that a row appended to lies in is not this one, and this one is there. -/
def Far (w : World) (v : Value) (b : Nat) : Prop := b < w.heap.size ∧ some b ≠ v.ownBlock
theorem Far.cell {w w' : World} {v : Value} {b o : Nat} (h : Far w v b) (hg : w.drew.grownBy w' v.ownBlock) : w'.cell? ⟨b, o, none⟩ = w.cell? ⟨b, o, none⟩ :=
  hg.cell_far ⟨b, o, none⟩ h.1 h.2

set_option maxHeartbeats 4000000 in
set_option maxRecDepth 100000 in
theorem p10 {Q : Exit → Act → World → Prop} {a : Act} {wr : World} {x4 x7 x8 x9 x10 x11 : Value} (D : Nat) (rt : Option Addr) (lt : Nat) (ri : Option Addr) (li ci : Nat)
    (d0 : wr.cell? ⟨D, 0, none⟩ = some (.slice rt lt lt)) (hlt : lt ≤ 1048576) (hli : li ≤ 1048576)
    (h : Fr a (.pointer (some ⟨D, 0, none⟩)) (.slice ri li ci) x4 x7 x8 x9 x10 x11)
    (hQ : ∀ a' v' w', Fr a' (.pointer (some ⟨D, 0, none⟩)) (.slice ri li ci) x4 x7 x8 x9 v' x11 → w'.ownsRow wr.heap.size 5 1 v' 0 [] → wr.grownBy w' none → Q .normal a' w') : (Reg Try.f27 10).wp Try.prog Q a wr := by
  obtain ⟨u, rfl⟩ := fr_lit h
  have HQ : Hid (∀ a' v' w', Fr a' (.pointer (some ⟨D, 0, none⟩)) (.slice ri li ci) x4 x7 x8 x9 v' x11 → w'.ownsRow wr.heap.size 5 1 v' 0 [] → wr.grownBy w' none → Q .normal a' w') := hQ
  clear hQ h
  obtain ⟨i0, hi, hz0, hz1, hz2⟩ := info_parts info5b
  conv => arg 2; whnf
  go_wp2_with (first
    | (at_make; refine wpList_make_own _ rfl _ _ 22 rfl wr.heap.size 5 i0 (.int .u8 0) 1 Try.underlying22 hi hz0 hz1 .i64 .i64 _ (lt + li) rfl rfl (by omega) (by rw [hz2]; omega) (by unfold maxLen; omega) (Nat.le_refl _) ?_; intro w0 hown0 hgrow0))
  exact HQ.out _ _ _ ⟨rfl, rfl, rfl, rfl, rfl, rfl, rfl, rfl, rfl, rfl⟩ hown0 hgrow0

set_option maxHeartbeats 4000000 in
set_option maxRecDepth 100000 in
theorem p11 {Q : Exit → Act → World → Prop} {a : Act} {wr : World} {x0 x2 x7 x8 x10 x11 : Value} (c k κ : Nat) (b : Bool)
    (v2 : wr.cell? ⟨c, 2, none⟩ = some (.int .i64 k)) (hb : (((κ : Nat) : Int) == ((k : Nat) : Int)) = b)
    (h : Fr a x0 x2 (.pointer (some ⟨c, 0, none⟩)) x7 x8 (.int .i64 κ) x10 x11)
    (hQ : ∀ a', Fr a' x0 x2 (.pointer (some ⟨c, 0, none⟩)) x7 x8 (.int .i64 κ) x10 x11 → a'.eval (.tmp 129) = .bool b → Q .normal a' wr) : (Reg Try.f27 11).wp Try.prog Q a wr := by
  obtain ⟨u, rfl⟩ := fr_lit h
  have HQ : Hid (∀ a', Fr a' x0 x2 (.pointer (some ⟨c, 0, none⟩)) x7 x8 (.int .i64 κ) x10 x11 → a'.eval (.tmp 129) = .bool b → Q .normal a' wr) := hQ
  clear hQ h
  conv => arg 2; whnf
  go_wp2_with fail
  exact HQ.out _ ⟨rfl, rfl, rfl, rfl, rfl, rfl, rfl, rfl, rfl, rfl⟩ rfl

set_option maxHeartbeats 4000000 in
set_option maxRecDepth 100000 in
theorem p12 {Q : Exit → Act → World → Prop} {a : Act} {wr : World} {x2 x8 x9 x11 : Value} {v : Value} (D c l : Nat) (rt : Option Addr) (lt : Nat) (fI cf aI : Int) (p0 : Nat) (r' : Option Addr) (c' : Nat) (B nn : Nat) (xs : List Value) (Zt : Nat → Int)
    (d0 : wr.cell? ⟨D, 0, none⟩ = some (.slice rt lt lt)) (v0 : wr.cell? ⟨c, 0, none⟩ = some (.int .i64 cf)) (u1 : wr.cell? ⟨l, 1, none⟩ = some (.int .i64 fI)) (u4 : wr.cell? ⟨l, 4, none⟩ = some (.int .i64 aI))
    (bf : 0 ≤ fI ∧ fI ≤ 1048576) (bt : 0 ≤ cf ∧ cf ≤ 1073741824) (hq : fI + cf - aI = (p0 : Int)) (hqs : p0 ≤ 8388608)
    (hs : ∀ w', (Instr.slice 22 (.slice rt lt lt) none (some (.int .i64 (p0 : Int))) none).run Try.prog w' = .ok (.slice r' p0 c') w') (hr : (r' = none → c' = 0) ∧ Reads .u8 wr r' p0 Zt)
    (hown : wr.ownsRow B 5 1 v nn xs) (hB : B ≤ wr.heap.size) (hn : nn + p0 ≤ 8388608) (fD : Far wr v D) (fc : Far wr v c) (fl : Far wr v l)
    (h : Fr a (.pointer (some ⟨D, 0, none⟩)) x2 (.pointer (some ⟨c, 0, none⟩)) (.pointer (some ⟨l, 0, none⟩)) x8 x9 v x11)
    (hQ : ∀ a' v' w', Fr a' (.pointer (some ⟨D, 0, none⟩)) x2 (.pointer (some ⟨c, 0, none⟩)) (.pointer (some ⟨l, 0, none⟩)) x8 x9 v' x11 → w'.ownsRow B 5 1 v' (nn + (p0)) (xs ++ bys (p0) Zt) → wr.grownBy w' v.ownBlock → Q .normal a' w') : (Reg Try.f27 12).wp Try.prog Q a wr := by
  obtain ⟨u, rfl⟩ := fr_lit h
  have HQ : Hid (∀ a' v' w', Fr a' (.pointer (some ⟨D, 0, none⟩)) x2 (.pointer (some ⟨c, 0, none⟩)) (.pointer (some ⟨l, 0, none⟩)) x8 x9 v' x11 → w'.ownsRow B 5 1 v' (nn + (p0)) (xs ++ bys (p0) Zt) → wr.grownBy w' v.ownBlock → Q .normal a' w') := hQ
  have HR : Hid ((r' = none → c' = 0) ∧ Reads .u8 wr r' p0 Zt) := hr
  have HO : Hid (wr.ownsRow B 5 1 v nn xs) := hown
  have HF : Hid (Far wr v D ∧ Far wr v c ∧ Far wr v l) := ⟨fD, fc, fl⟩
  have HN : Hid (nn + p0 ≤ 8388608 ∧ B ≤ wr.heap.size) := ⟨hn, hB⟩
  clear hQ h
  have e1 : IntKind.i64.wrap (fI + cf) = fI + cf := IntWalk.i64_in _ (by omega)
  have e2 : IntKind.i64.wrap (fI + cf - aI) = (p0 : Int) := by rw [hq]; exact IntWalk.i64_in _ (by omega)
  clear hq bf bt
  clear hr hown hn hB fD fc fl
  conv => arg 2; whnf
  go_region_held3 (fun w' => w'.cell? ⟨D, 0, none⟩ = some (.slice rt lt lt) ∧ w'.cell? ⟨c, 0, none⟩ = some (.int .i64 cf) ∧ w'.cell? ⟨l, 1, none⟩ = some (.int .i64 fI) ∧ w'.cell? ⟨l, 4, none⟩ = some (.int .i64 aI))
    (first | exact ⟨d0, v0, u1, u4⟩ | exact ⟨(HF.out.1.cell hgrow).trans d0, (HF.out.2.1.cell hgrow).trans v0, (HF.out.2.2.cell hgrow).trans u1, (HF.out.2.2.cell hgrow).trans u4⟩)
    (first | (refine step_append_reads (by rfl) _ _ (by rfl) B v nn xs (by rfl) (by exact HO.out.drew) r' (p0) c' Zt (by rfl) HR.out.1 (by exact HR.out.2) HN.out.1 HN.out.2 ?_; intro v' w1 hown1 hgrow))
  exact HQ.out _ _ _ ⟨rfl, rfl, rfl, rfl, rfl, rfl, rfl, rfl, rfl, rfl⟩ hown1 ⟨hgrow.os, hgrow.tape, hgrow.output, hgrow.size, hgrow.block⟩

set_option maxHeartbeats 4000000 in
set_option maxRecDepth 100000 in
theorem p13 {Q : Exit → Act → World → Prop} {a : Act} {wr : World} {x0 x4 x7 x8 x9 x11 : Value} {v : Value} (ri : Option Addr) (li ci : Nat) (B nn : Nat) (xs : List Value) (Zi : Nat → Int)
    (hr : (ri = none → ci = 0) ∧ Reads .u8 wr ri li Zi) (hown : wr.ownsRow B 5 1 v nn xs) (hB : B ≤ wr.heap.size) (hn : nn + li ≤ 8388608)
    (h : Fr a x0 (.slice ri li ci) x4 x7 x8 x9 v x11)
    (hQ : ∀ a' v' w', Fr a' x0 (.slice ri li ci) x4 x7 x8 x9 v' x11 → w'.ownsRow B 5 1 v' (nn + li) (xs ++ bys li Zi) → wr.grownBy w' v.ownBlock → Q .normal a' w') : (Reg Try.f27 13).wp Try.prog Q a wr := by
  obtain ⟨u, rfl⟩ := fr_lit h
  have HQ : Hid (∀ a' v' w', Fr a' x0 (.slice ri li ci) x4 x7 x8 x9 v' x11 → w'.ownsRow B 5 1 v' (nn + li) (xs ++ bys li Zi) → wr.grownBy w' v.ownBlock → Q .normal a' w') := hQ
  clear hQ h
  have HR : Hid ((ri = none → ci = 0) ∧ Reads .u8 wr ri li Zi) := hr
  have HO : Hid (wr.ownsRow B 5 1 v nn xs) := hown
  clear hr hown
  conv => arg 2; whnf
  go_wp2_with (first
    | (at_builtin; refine append_reads rfl _ _ rfl B v nn xs rfl HO.out ri li ci Zi rfl HR.out.1 HR.out.2 hn hB ?_; intro v' w1 hown1 hgrow))
  exact HQ.out _ _ _ ⟨rfl, rfl, rfl, rfl, rfl, rfl, rfl, rfl, rfl, rfl⟩ hown1 hgrow

set_option maxHeartbeats 4000000 in
set_option maxRecDepth 100000 in
theorem p14 {Q : Exit → Act → World → Prop} {a : Act} {wr : World} {x0 x2 x4 x7 x9 x11 : Value} {v : Value} (ri : Option Addr) (li ci : Nat) (B nn : Nat) (xs : List Value) (Zi : Nat → Int)
    (hr : (ri = none → ci = 0) ∧ Reads .u8 wr ri li Zi) (hown : wr.ownsRow B 5 1 v nn xs) (hB : B ≤ wr.heap.size) (hn : nn + li ≤ 8388608)
    (h : Fr a x0 x2 x4 x7 (.slice ri li ci) x9 v x11)
    (hQ : ∀ a' v' w', Fr a' x0 x2 x4 x7 (.slice ri li ci) x9 v' x11 → w'.ownsRow B 5 1 v' (nn + li) (xs ++ bys li Zi) → wr.grownBy w' v.ownBlock → Q .normal a' w') : (Reg Try.f27 14).wp Try.prog Q a wr := by
  obtain ⟨u, rfl⟩ := fr_lit h
  have HQ : Hid (∀ a' v' w', Fr a' x0 x2 x4 x7 (.slice ri li ci) x9 v' x11 → w'.ownsRow B 5 1 v' (nn + li) (xs ++ bys li Zi) → wr.grownBy w' v.ownBlock → Q .normal a' w') := hQ
  clear hQ h
  have HR : Hid ((ri = none → ci = 0) ∧ Reads .u8 wr ri li Zi) := hr
  have HO : Hid (wr.ownsRow B 5 1 v nn xs) := hown
  clear hr hown
  conv => arg 2; whnf
  go_wp2_with (first
    | (at_builtin; refine append_reads rfl _ _ rfl B v nn xs rfl HO.out ri li ci Zi rfl HR.out.1 HR.out.2 hn hB ?_; intro v' w1 hown1 hgrow))
  exact HQ.out _ _ _ ⟨rfl, rfl, rfl, rfl, rfl, rfl, rfl, rfl, rfl, rfl⟩ hown1 hgrow

set_option maxHeartbeats 4000000 in
set_option maxRecDepth 100000 in
theorem p15 {Q : Exit → Act → World → Prop} {a : Act} {wr : World} {x2 x4 x7 x8 x11 : Value} {v : Value} (D Lb n κ : Nat) (rt : Option Addr) (lt : Nat) (t : Nat) (r' : Option Addr) (c' : Nat) (B nn : Nat) (xs : List Value) (Zt : Nat → Int)
    (d0 : wr.cell? ⟨D, 0, none⟩ = some (.slice rt lt lt)) (d1 : wr.cell? ⟨D, 1, none⟩ = some (.slice (some ⟨Lb, 0, none⟩) n n)) (s3 : wr.cell? ⟨Lb, κ * 5 + 2, none⟩ = some (.int .i64 t)) (hk : (κ : Int) < (n : Int))
    (hs : ∀ w', (Instr.slice 22 (.slice rt lt lt) none (some (.int .i64 (t : Int))) none).run Try.prog w' = .ok (.slice r' t c') w') (hr : (r' = none → c' = 0) ∧ Reads .u8 wr r' t Zt)
    (hown : wr.ownsRow B 5 1 v nn xs) (hB : B ≤ wr.heap.size) (hn : nn + t ≤ 8388608) (fD : Far wr v D) (fLb : Far wr v Lb)
    (h : Fr a (.pointer (some ⟨D, 0, none⟩)) x2 x4 x7 x8 (.int .i64 κ) v x11)
    (hQ : ∀ a' v' w', Fr a' (.pointer (some ⟨D, 0, none⟩)) x2 x4 x7 x8 (.int .i64 κ) v' x11 → w'.ownsRow B 5 1 v' (nn + (t)) (xs ++ bys (t) Zt) → wr.grownBy w' v.ownBlock → Q .normal a' w') : (Reg Try.f27 15).wp Try.prog Q a wr := by
  obtain ⟨u, rfl⟩ := fr_lit h
  have HQ : Hid (∀ a' v' w', Fr a' (.pointer (some ⟨D, 0, none⟩)) x2 x4 x7 x8 (.int .i64 κ) v' x11 → w'.ownsRow B 5 1 v' (nn + (t)) (xs ++ bys (t) Zt) → wr.grownBy w' v.ownBlock → Q .normal a' w') := hQ
  have HR : Hid ((r' = none → c' = 0) ∧ Reads .u8 wr r' t Zt) := hr
  have HO : Hid (wr.ownsRow B 5 1 v nn xs) := hown
  have HF : Hid (Far wr v D ∧ Far wr v Lb) := ⟨fD, fLb⟩
  have HN : Hid (nn + t ≤ 8388608 ∧ B ≤ wr.heap.size) := ⟨hn, hB⟩
  clear hQ h
  clear hr hown hn hB fD fLb
  conv => arg 2; whnf
  go_region_held3 (fun w' => w'.cell? ⟨D, 0, none⟩ = some (.slice rt lt lt) ∧ w'.cell? ⟨D, 1, none⟩ = some (.slice (some ⟨Lb, 0, none⟩) n n) ∧ w'.cell? ⟨Lb, κ * 5 + 2, none⟩ = some (.int .i64 t))
    (first | exact ⟨d0, d1, s3⟩ | exact ⟨(HF.out.1.cell hgrow).trans d0, (HF.out.1.cell hgrow).trans d1, (HF.out.2.cell hgrow).trans s3⟩)
    (first | (refine step_append_reads (by rfl) _ _ (by rfl) B v nn xs (by rfl) (by exact HO.out.drew) r' (t) c' Zt (by rfl) HR.out.1 (by exact HR.out.2) HN.out.1 HN.out.2 ?_; intro v' w1 hown1 hgrow))
  exact HQ.out _ _ _ ⟨rfl, rfl, rfl, rfl, rfl, rfl, rfl, rfl, rfl, rfl⟩ hown1 ⟨hgrow.os, hgrow.tape, hgrow.output, hgrow.size, hgrow.block⟩

set_option maxHeartbeats 4000000 in
set_option maxRecDepth 100000 in
theorem p16 {Q : Exit → Act → World → Prop} {a : Act} {wr : World} {x2 x4 x7 x8 x10 x11 : Value} (D Lb n κ : Nat) (s fI t pp aI : Int)
    (d1 : wr.cell? ⟨D, 1, none⟩ = some (.slice (some ⟨Lb, 0, none⟩) n n)) (s1 : wr.cell? ⟨Lb, κ * 5, none⟩ = some (.int .i64 s)) (s2 : wr.cell? ⟨Lb, κ * 5 + 1, none⟩ = some (.int .i64 fI)) (s3 : wr.cell? ⟨Lb, κ * 5 + 2, none⟩ = some (.int .i64 t)) (s4 : wr.cell? ⟨Lb, κ * 5 + 3, none⟩ = some (.int .i64 pp)) (s5 : wr.cell? ⟨Lb, κ * 5 + 4, none⟩ = some (.int .i64 aI)) (hk : (κ : Int) < (n : Int))
    (h : Fr a (.pointer (some ⟨D, 0, none⟩)) x2 x4 x7 x8 (.int .i64 κ) x10 x11)
    (hQ : ∀ a' w', Fr a' (.pointer (some ⟨D, 0, none⟩)) x2 x4 x7 x8 (.int .i64 κ) x10 (.pointer (some ⟨wr.heap.size, 0, none⟩)) → wr.grownBy w' none → w'.heap.size = wr.heap.size + 1 → (w'.cell? ⟨wr.heap.size, 2, none⟩ = some (.int .i64 t) ∧ w'.cell? ⟨wr.heap.size, 3, none⟩ = some (.int .i64 pp)) → Q .normal a' w') : (Reg Try.f27 16).wp Try.prog Q a wr := by
  obtain ⟨u, rfl⟩ := fr_lit h
  have HQ : Hid (∀ a' w', Fr a' (.pointer (some ⟨D, 0, none⟩)) x2 x4 x7 x8 (.int .i64 κ) x10 (.pointer (some ⟨wr.heap.size, 0, none⟩)) → wr.grownBy w' none → w'.heap.size = wr.heap.size + 1 → (w'.cell? ⟨wr.heap.size, 2, none⟩ = some (.int .i64 t) ∧ w'.cell? ⟨wr.heap.size, 3, none⟩ = some (.int .i64 pp)) → Q .normal a' w') := hQ
  clear hQ h
  conv => arg 2; whnf
  go_wp2_with fail
  exact HQ.out _ _ ⟨rfl, rfl, rfl, rfl, rfl, rfl, rfl, rfl, rfl, rfl⟩ ⟨rfl, rfl, rfl, by simp, fun k hk _ => Below.heap_alloc _ _ _ hk⟩ (by simp) ⟨by simp, by simp⟩

set_option maxHeartbeats 4000000 in
set_option maxRecDepth 100000 in
theorem p17 {Q : Exit → Act → World → Prop} {a : Act} {wr : World} {x2 x7 x8 x9 x10 x11 : Value} (D c Lb n k : Nat)
    (d1 : wr.cell? ⟨D, 1, none⟩ = some (.slice (some ⟨Lb, 0, none⟩) n n)) (v3 : wr.cell? ⟨c, 3, none⟩ = some (.int .i64 k)) (hk : k < n)
    (h : Fr a (.pointer (some ⟨D, 0, none⟩)) x2 (.pointer (some ⟨c, 0, none⟩)) x7 x8 x9 x10 x11)
    (hQ : ∀ a' m, Fr a' (.pointer (some ⟨D, 0, none⟩)) x2 (.pointer (some ⟨c, 0, none⟩)) x7 x8 x9 x10 x11 → a'.eval (.tmp 180) = .bool false → Q .normal a' (wr.drewN m)) : (Reg Try.f27 17).wp Try.prog Q a wr := by
  obtain ⟨u, rfl⟩ := fr_lit h
  have HQ : Hid (∀ a' m, Fr a' (.pointer (some ⟨D, 0, none⟩)) x2 (.pointer (some ⟨c, 0, none⟩)) x7 x8 x9 x10 x11 → a'.eval (.tmp 180) = .bool false → Q .normal a' (wr.drewN m)) := hQ
  clear hQ h
  have qk : (((k : Nat) : Int) == ((n : Nat) : Int)) = false := by rw [beq_eq_false_iff_ne]; omega
  conv => arg 2; whnf
  go_quiet (fail)
  exact HQ.out _ _ ⟨rfl, rfl, rfl, rfl, rfl, rfl, rfl, rfl, rfl, rfl⟩ rfl

set_option maxHeartbeats 4000000 in
set_option maxRecDepth 100000 in
theorem p19 {Q : Exit → Act → World → Prop} {a : Act} {wr : World} {x2 x4 x7 x8 x9 : Value} {v : Value} (D E : Nat) (rt : Option Addr) (lt : Nat) (t pp : Nat) (r' : Option Addr) (c' : Nat) (B nn : Nat) (xs : List Value) (Zt : Nat → Int)
    (d0 : wr.cell? ⟨D, 0, none⟩ = some (.slice rt lt lt)) (u2 : wr.cell? ⟨E, 2, none⟩ = some (.int .i64 t)) (u3 : wr.cell? ⟨E, 3, none⟩ = some (.int .i64 pp))
    (hs : ∀ w', (Instr.slice 22 (.slice rt lt lt) (some (.int .i64 (t : Int))) (some (.int .i64 (pp : Int))) none).run Try.prog w' = .ok (.slice r' (pp - t) c') w') (hr : (r' = none → c' = 0) ∧ Reads .u8 wr r' (pp - t) (fun i => Zt (t + i)))
    (hown : wr.ownsRow B 5 1 v nn xs) (hB : B ≤ wr.heap.size) (hn : nn + (pp - t) ≤ 8388608) (fD : Far wr v D) (fE : Far wr v E)
    (h : Fr a (.pointer (some ⟨D, 0, none⟩)) x2 x4 x7 x8 x9 v (.pointer (some ⟨E, 0, none⟩)))
    (hQ : ∀ a' v' w', Fr a' (.pointer (some ⟨D, 0, none⟩)) x2 x4 x7 x8 x9 v' (.pointer (some ⟨E, 0, none⟩)) → w'.ownsRow B 5 1 v' (nn + ((pp - t))) (xs ++ bys ((pp - t)) (fun i => Zt (t + i))) → wr.grownBy w' v.ownBlock → Q .normal a' w') : (Reg Try.f27 19).wp Try.prog Q a wr := by
  obtain ⟨u, rfl⟩ := fr_lit h
  have HQ : Hid (∀ a' v' w', Fr a' (.pointer (some ⟨D, 0, none⟩)) x2 x4 x7 x8 x9 v' (.pointer (some ⟨E, 0, none⟩)) → w'.ownsRow B 5 1 v' (nn + ((pp - t))) (xs ++ bys ((pp - t)) (fun i => Zt (t + i))) → wr.grownBy w' v.ownBlock → Q .normal a' w') := hQ
  have HR : Hid ((r' = none → c' = 0) ∧ Reads .u8 wr r' (pp - t) (fun i => Zt (t + i))) := hr
  have HO : Hid (wr.ownsRow B 5 1 v nn xs) := hown
  have HF : Hid (Far wr v D ∧ Far wr v E) := ⟨fD, fE⟩
  have HN : Hid (nn + (pp - t) ≤ 8388608 ∧ B ≤ wr.heap.size) := ⟨hn, hB⟩
  clear hQ h
  clear hr hown hn hB fD fE
  conv => arg 2; whnf
  go_region_held3 (fun w' => w'.cell? ⟨D, 0, none⟩ = some (.slice rt lt lt) ∧ w'.cell? ⟨E, 2, none⟩ = some (.int .i64 t) ∧ w'.cell? ⟨E, 3, none⟩ = some (.int .i64 pp))
    (first | exact ⟨d0, u2, u3⟩ | exact ⟨(HF.out.1.cell hgrow).trans d0, (HF.out.2.cell hgrow).trans u2, (HF.out.2.cell hgrow).trans u3⟩)
    (first | (refine step_append_reads (by rfl) _ _ (by rfl) B v nn xs (by rfl) (by exact HO.out.drew) r' ((pp - t)) c' (fun i => Zt (t + i)) (by rfl) HR.out.1 (by exact HR.out.2) HN.out.1 HN.out.2 ?_; intro v' w1 hown1 hgrow))
  exact HQ.out _ _ _ ⟨rfl, rfl, rfl, rfl, rfl, rfl, rfl, rfl, rfl, rfl⟩ hown1 ⟨hgrow.os, hgrow.tape, hgrow.output, hgrow.size, hgrow.block⟩

set_option maxHeartbeats 4000000 in
set_option maxRecDepth 100000 in
theorem p20 {Q : Exit → Act → World → Prop} {a : Act} {wr : World} {x0 x2 x7 x8 x9 x10 x11 : Value} (c k : Nat)
    (v2 : wr.cell? ⟨c, 2, none⟩ = some (.int .i64 k)) (v3 : wr.cell? ⟨c, 3, none⟩ = some (.int .i64 k))
    (h : Fr a x0 x2 (.pointer (some ⟨c, 0, none⟩)) x7 x8 x9 x10 x11)
    (hQ : ∀ a', Fr a' x0 x2 (.pointer (some ⟨c, 0, none⟩)) x7 x8 x9 x10 x11 → a'.eval (.tmp 204) = .bool true → Q .normal a' wr) : (Reg Try.f27 20).wp Try.prog Q a wr := by
  obtain ⟨u, rfl⟩ := fr_lit h
  have HQ : Hid (∀ a', Fr a' x0 x2 (.pointer (some ⟨c, 0, none⟩)) x7 x8 x9 x10 x11 → a'.eval (.tmp 204) = .bool true → Q .normal a' wr) := hQ
  clear hQ h
  have qk : ((k : Int) == (k : Int)) = true := by simp
  conv => arg 2; whnf
  go_wp2_with fail
  exact HQ.out _ ⟨rfl, rfl, rfl, rfl, rfl, rfl, rfl, rfl, rfl, rfl⟩ rfl

set_option maxHeartbeats 4000000 in
set_option maxRecDepth 100000 in
theorem p21 {Q : Exit → Act → World → Prop} {a : Act} {wr : World} {x2 x4 x8 x9 x11 : Value} {v : Value} (D l : Nat) (rt : Option Addr) (lt : Nat) (pp : Nat) (r' : Option Addr) (c' : Nat) (B nn : Nat) (xs : List Value) (Zt : Nat → Int)
    (d0 : wr.cell? ⟨D, 0, none⟩ = some (.slice rt lt lt)) (u3 : wr.cell? ⟨l, 3, none⟩ = some (.int .i64 pp))
    (hs : ∀ w', (Instr.slice 22 (.slice rt lt lt) (some (.int .i64 (pp : Int))) none none).run Try.prog w' = .ok (.slice r' (lt - pp) c') w') (hr : (r' = none → c' = 0) ∧ Reads .u8 wr r' (lt - pp) (fun i => Zt (pp + i)))
    (hown : wr.ownsRow B 5 1 v nn xs) (hB : B ≤ wr.heap.size) (hn : nn + (lt - pp) ≤ 8388608) (fD : Far wr v D) (fl : Far wr v l)
    (h : Fr a (.pointer (some ⟨D, 0, none⟩)) x2 x4 (.pointer (some ⟨l, 0, none⟩)) x8 x9 v x11)
    (hQ : ∀ a' v' w', Fr a' (.pointer (some ⟨D, 0, none⟩)) x2 x4 (.pointer (some ⟨l, 0, none⟩)) x8 x9 v' x11 → w'.ownsRow B 5 1 v' (nn + ((lt - pp))) (xs ++ bys ((lt - pp)) (fun i => Zt (pp + i))) → wr.grownBy w' v.ownBlock → Q .normal a' w') : (Reg Try.f27 21).wp Try.prog Q a wr := by
  obtain ⟨u, rfl⟩ := fr_lit h
  have HQ : Hid (∀ a' v' w', Fr a' (.pointer (some ⟨D, 0, none⟩)) x2 x4 (.pointer (some ⟨l, 0, none⟩)) x8 x9 v' x11 → w'.ownsRow B 5 1 v' (nn + ((lt - pp))) (xs ++ bys ((lt - pp)) (fun i => Zt (pp + i))) → wr.grownBy w' v.ownBlock → Q .normal a' w') := hQ
  have HR : Hid ((r' = none → c' = 0) ∧ Reads .u8 wr r' (lt - pp) (fun i => Zt (pp + i))) := hr
  have HO : Hid (wr.ownsRow B 5 1 v nn xs) := hown
  have HF : Hid (Far wr v D ∧ Far wr v l) := ⟨fD, fl⟩
  have HN : Hid (nn + (lt - pp) ≤ 8388608 ∧ B ≤ wr.heap.size) := ⟨hn, hB⟩
  clear hQ h
  clear hr hown hn hB fD fl
  conv => arg 2; whnf
  go_region_held3 (fun w' => w'.cell? ⟨D, 0, none⟩ = some (.slice rt lt lt) ∧ w'.cell? ⟨l, 3, none⟩ = some (.int .i64 pp))
    (first | exact ⟨d0, u3⟩ | exact ⟨(HF.out.1.cell hgrow).trans d0, (HF.out.2.cell hgrow).trans u3⟩)
    (first | (refine step_append_reads (by rfl) _ _ (by rfl) B v nn xs (by rfl) (by exact HO.out.drew) r' ((lt - pp)) c' (fun i => Zt (pp + i)) (by rfl) HR.out.1 (by exact HR.out.2) HN.out.1 HN.out.2 ?_; intro v' w1 hown1 hgrow))
  exact HQ.out _ _ _ ⟨rfl, rfl, rfl, rfl, rfl, rfl, rfl, rfl, rfl, rfl⟩ hown1 ⟨hgrow.os, hgrow.tape, hgrow.output, hgrow.size, hgrow.block⟩

set_option maxHeartbeats 4000000 in
set_option maxRecDepth 100000 in
theorem pEnd {a : Act} {wr : World} {x0 x2 x4 x7 x8 x9 v x11 : Value} {Q : Ending → World → Prop} (h : Fr a x0 x2 x4 x7 x8 x9 v x11) (hQ : Q (.returned v) wr) : ((Reg Try.f27 26).seq .ret).wp Try.prog (bodyPost Try.prog Try.f27 Q) a wr := by
  obtain ⟨u, rfl⟩ := fr_lit h
  have HQ : Hid (Q (.returned v) wr) := hQ
  clear hQ h
  conv =>
    arg 2
    arg 1
    whnf
  go_wp2_with fail
  exact HQ.out
end Go.Proofs.Qxb6603146a
