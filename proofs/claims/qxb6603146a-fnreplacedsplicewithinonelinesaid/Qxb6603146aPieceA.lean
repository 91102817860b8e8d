import Derived.Test.Qxb6603146aCut
namespace Go.Proofs.Qxb6603146a
open Go.RowKit Go.Deep

set_option maxHeartbeats 4000000 in
set_option maxRecDepth 100000 in
theorem p0 {Q : Exit → Act → World → Prop} {a : Act} {wr : World} {x0 x2 x4 x7 x8 x9 x10 x11 : Value} (cf ct : Int) (k : Nat)
    (h1 : a.tmps[1]? = some (.agg #[.int .i64 cf, .int .i64 ct, .int .i64 k, .int .i64 k]))
    (h : Fr a x0 x2 x4 x7 x8 x9 x10 x11)
    (hQ : ∀ a' w', Fr a' x0 x2 (.pointer (some ⟨wr.heap.size, 0, none⟩)) x7 x8 x9 x10 x11 → Below wr.heap.size wr w' → w'.heap.size = wr.heap.size + 1 → (w'.cell? ⟨wr.heap.size, 0, none⟩ = some (.int .i64 cf) ∧ w'.cell? ⟨wr.heap.size, 1, none⟩ = some (.int .i64 ct) ∧ w'.cell? ⟨wr.heap.size, 2, none⟩ = some (.int .i64 k) ∧ w'.cell? ⟨wr.heap.size, 3, none⟩ = some (.int .i64 k)) → Q .normal a' w') : (Reg Try.f27 0).wp Try.prog Q a wr := by
  obtain ⟨u, rfl⟩ := fr_lit h
  have HQ : Hid (∀ a' w', Fr a' x0 x2 (.pointer (some ⟨wr.heap.size, 0, none⟩)) x7 x8 x9 x10 x11 → Below wr.heap.size wr w' → w'.heap.size = wr.heap.size + 1 → (w'.cell? ⟨wr.heap.size, 0, none⟩ = some (.int .i64 cf) ∧ w'.cell? ⟨wr.heap.size, 1, none⟩ = some (.int .i64 ct) ∧ w'.cell? ⟨wr.heap.size, 2, none⟩ = some (.int .i64 k) ∧ w'.cell? ⟨wr.heap.size, 3, none⟩ = some (.int .i64 k)) → Q .normal a' w') := hQ
  have e1 : u 1 = .agg #[.int .i64 cf, .int .i64 ct, .int .i64 k, .int .i64 k] := Option.some.inj h1
  clear h1
  clear hQ h
  conv => arg 2; whnf
  go_wp2_with fail
  exact HQ.out _ _ ⟨rfl, rfl, rfl, rfl, rfl, rfl, rfl, rfl, rfl, rfl⟩ ((Below.refl _ _).alloc (Nat.le_refl _) _) (by simp) ⟨by simp, by simp, by simp, by simp⟩

set_option maxHeartbeats 4000000 in
set_option maxRecDepth 100000 in
theorem p1 {Q : Exit → Act → World → Prop} {a : Act} {wr : World} {x2 x7 x8 x9 x10 x11 : Value} (D c Lb n k : Nat) (s fI t pp aI : Int)
    (d1 : wr.cell? ⟨D, 1, none⟩ = some (.slice (some ⟨Lb, 0, none⟩) n n)) (v2 : wr.cell? ⟨c, 2, none⟩ = some (.int .i64 k)) (s1 : wr.cell? ⟨Lb, k * 5, none⟩ = some (.int .i64 s)) (s2 : wr.cell? ⟨Lb, k * 5 + 1, none⟩ = some (.int .i64 fI)) (s3 : wr.cell? ⟨Lb, k * 5 + 2, none⟩ = some (.int .i64 t)) (s4 : wr.cell? ⟨Lb, k * 5 + 3, none⟩ = some (.int .i64 pp)) (s5 : wr.cell? ⟨Lb, k * 5 + 4, none⟩ = some (.int .i64 aI)) (hk : (k : Int) < (n : Int)) (hD : D < wr.heap.size) (hL : Lb < wr.heap.size) (hc : c < wr.heap.size)
    (h : Fr a (.pointer (some ⟨D, 0, none⟩)) x2 (.pointer (some ⟨c, 0, none⟩)) x7 x8 x9 x10 x11)
    (hQ : ∀ a' w', Fr a' (.pointer (some ⟨D, 0, none⟩)) x2 (.pointer (some ⟨c, 0, none⟩)) (.pointer (some ⟨wr.heap.size, 0, none⟩)) x8 x9 x10 x11 → Below wr.heap.size wr w' → w'.heap.size = wr.heap.size + 1 → (w'.cell? ⟨wr.heap.size, 1, none⟩ = some (.int .i64 fI) ∧ w'.cell? ⟨wr.heap.size, 2, none⟩ = some (.int .i64 t) ∧ w'.cell? ⟨wr.heap.size, 3, none⟩ = some (.int .i64 pp) ∧ w'.cell? ⟨wr.heap.size, 4, none⟩ = some (.int .i64 aI)) → Q .normal a' w') : (Reg Try.f27 1).wp Try.prog Q a wr := by
  obtain ⟨u, rfl⟩ := fr_lit h
  have HQ : Hid (∀ a' w', Fr a' (.pointer (some ⟨D, 0, none⟩)) x2 (.pointer (some ⟨c, 0, none⟩)) (.pointer (some ⟨wr.heap.size, 0, none⟩)) x8 x9 x10 x11 → Below wr.heap.size wr w' → w'.heap.size = wr.heap.size + 1 → (w'.cell? ⟨wr.heap.size, 1, none⟩ = some (.int .i64 fI) ∧ w'.cell? ⟨wr.heap.size, 2, none⟩ = some (.int .i64 t) ∧ w'.cell? ⟨wr.heap.size, 3, none⟩ = some (.int .i64 pp) ∧ w'.cell? ⟨wr.heap.size, 4, none⟩ = some (.int .i64 aI)) → Q .normal a' w') := hQ
  clear hQ h
  conv => arg 2; whnf
  refine wp_region_noPanic ?_
  go_region
  all_goals exact HQ.out _ _ ⟨rfl, rfl, rfl, rfl, rfl, rfl, rfl, rfl, rfl, rfl⟩ (((Below.refl _ _).alloc (Nat.le_refl _) _).drew) (by simp) ⟨by simp, by simp, by simp, by simp⟩

set_option maxHeartbeats 4000000 in
set_option maxRecDepth 100000 in
theorem p2 {Q : Exit → Act → World → Prop} {a : Act} {wr : World} {x0 x2 x4 x7 x8 x9 x10 x11 : Value} 
    
    (h : Fr a x0 x2 x4 x7 x8 x9 x10 x11)
    (hQ : ∀ a', Fr a' x0 x2 x4 x7 (.slice none 0 0) x9 x10 x11 → Q .normal a' wr) : (Reg Try.f27 2).wp Try.prog Q a wr := by
  obtain ⟨u, rfl⟩ := fr_lit h
  have HQ : Hid (∀ a', Fr a' x0 x2 x4 x7 (.slice none 0 0) x9 x10 x11 → Q .normal a' wr) := hQ
  clear hQ h
  conv => arg 2; whnf
  go_wp2_with fail
  exact HQ.out _ ⟨rfl, rfl, rfl, rfl, rfl, rfl, rfl, rfl, rfl, rfl⟩

set_option maxHeartbeats 4000000 in
set_option maxRecDepth 100000 in
theorem p3 {Q : Exit → Act → World → Prop} {a : Act} {wr : World} {x0 x2 x7 x8 x9 x10 x11 : Value} (c k : Nat)
    (v2 : wr.cell? ⟨c, 2, none⟩ = some (.int .i64 k)) (v3 : wr.cell? ⟨c, 3, none⟩ = some (.int .i64 k))
    (h : Fr a x0 x2 (.pointer (some ⟨c, 0, none⟩)) x7 x8 x9 x10 x11)
    (hQ : ∀ a', Fr a' x0 x2 (.pointer (some ⟨c, 0, none⟩)) x7 x8 x9 x10 x11 → a'.eval (.tmp 25) = .bool true → Q .normal a' wr) : (Reg Try.f27 3).wp Try.prog Q a wr := by
  obtain ⟨u, rfl⟩ := fr_lit h
  have HQ : Hid (∀ a', Fr a' x0 x2 (.pointer (some ⟨c, 0, none⟩)) x7 x8 x9 x10 x11 → a'.eval (.tmp 25) = .bool true → Q .normal a' wr) := hQ
  clear hQ h
  have qk : ((k : Int) == (k : Int)) = true := by simp
  conv => arg 2; whnf
  go_wp2_with fail
  exact HQ.out _ ⟨rfl, rfl, rfl, rfl, rfl, rfl, rfl, rfl, rfl, rfl⟩ rfl

set_option maxHeartbeats 4000000 in
set_option maxRecDepth 100000 in
theorem p4 {Q : Exit → Act → World → Prop} {a : Act} {wr : World} {x2 x8 x9 x10 x11 : Value} (D c l : Nat) (rt : Option Addr) (lt : Nat) (fI ct aI : Int) (t q : Nat) (r' : Option Addr) (c' : Nat)
    (d0 : wr.cell? ⟨D, 0, none⟩ = some (.slice rt lt lt)) (v1 : wr.cell? ⟨c, 1, none⟩ = some (.int .i64 ct)) (u1 : wr.cell? ⟨l, 1, none⟩ = some (.int .i64 fI)) (u2 : wr.cell? ⟨l, 2, none⟩ = some (.int .i64 t)) (u4 : wr.cell? ⟨l, 4, none⟩ = some (.int .i64 aI))
    (bf : 0 ≤ fI ∧ fI ≤ 1048576) (bt : 0 ≤ ct ∧ ct ≤ 1073741824) (hq : fI + ct - aI = (q : Int)) (hqs : q ≤ 8388608)
    (hs : ∀ w', (Instr.slice 22 (.slice rt lt lt) (some (.int .i64 (q : Int))) (some (.int .i64 (t : Int))) none).run Try.prog w' = .ok (.slice r' (t - q) c') w')
    (h : Fr a (.pointer (some ⟨D, 0, none⟩)) x2 (.pointer (some ⟨c, 0, none⟩)) (.pointer (some ⟨l, 0, none⟩)) x8 x9 x10 x11)
    (hQ : ∀ a' m, Fr a' (.pointer (some ⟨D, 0, none⟩)) x2 (.pointer (some ⟨c, 0, none⟩)) (.pointer (some ⟨l, 0, none⟩)) (.slice r' (t - q) c') x9 x10 x11 → Q .normal a' (wr.drewN m)) : (Reg Try.f27 4).wp Try.prog Q a wr := by
  obtain ⟨u, rfl⟩ := fr_lit h
  have HQ : Hid (∀ a' m, Fr a' (.pointer (some ⟨D, 0, none⟩)) x2 (.pointer (some ⟨c, 0, none⟩)) (.pointer (some ⟨l, 0, none⟩)) (.slice r' (t - q) c') x9 x10 x11 → Q .normal a' (wr.drewN m)) := hQ
  clear hQ h
  have e1 : IntKind.i64.wrap (fI + ct) = fI + ct := IntWalk.i64_in _ (by omega)
  have e2 : IntKind.i64.wrap (fI + ct - aI) = (q : Int) := by rw [hq]; exact IntWalk.i64_in _ (by omega)
  clear hq bf bt
  conv => arg 2; whnf
  go_quiet (fail)
  exact HQ.out _ _ ⟨rfl, rfl, rfl, rfl, rfl, rfl, rfl, rfl, rfl, rfl⟩

set_option maxHeartbeats 4000000 in
set_option maxRecDepth 100000 in
theorem p5 {Q : Exit → Act → World → Prop} {a : Act} {wr : World} {x0 x2 x7 x8 x9 x10 x11 : Value} (c k : Nat)
    (v2 : wr.cell? ⟨c, 2, none⟩ = some (.int .i64 k))
    (h : Fr a x0 x2 (.pointer (some ⟨c, 0, none⟩)) x7 x8 x9 x10 x11)
    (hQ : ∀ a', Fr a' x0 x2 (.pointer (some ⟨c, 0, none⟩)) x7 x8 (.int .i64 k) x10 x11 → Q .normal a' wr) : (Reg Try.f27 5).wp Try.prog Q a wr := by
  obtain ⟨u, rfl⟩ := fr_lit h
  have HQ : Hid (∀ a', Fr a' x0 x2 (.pointer (some ⟨c, 0, none⟩)) x7 x8 (.int .i64 k) x10 x11 → Q .normal a' wr) := hQ
  clear hQ h
  conv => arg 2; whnf
  go_wp2_with fail
  exact HQ.out _ ⟨rfl, rfl, rfl, rfl, rfl, rfl, rfl, rfl, rfl, rfl⟩

set_option maxHeartbeats 4000000 in
set_option maxRecDepth 100000 in
theorem p6 {Q : Exit → Act → World → Prop} {a : Act} {wr : World} {x0 x9 x10 x11 : Value} (c l : Nat) (cf aI : Int) (ri : Option Addr) (li ci : Nat) (r8 : Option Addr) (m8 c8 : Nat) (em : Bool)
    (v0 : wr.cell? ⟨c, 0, none⟩ = some (.int .i64 cf)) (u4 : wr.cell? ⟨l, 4, none⟩ = some (.int .i64 aI)) (hem : em = ((cf == aI) && (((li : Nat) : Int) == 0) && (((m8 : Nat) : Int) == 0)))
    (h : Fr a x0 (.slice ri li ci) (.pointer (some ⟨c, 0, none⟩)) (.pointer (some ⟨l, 0, none⟩)) (.slice r8 m8 c8) x9 x10 x11)
    (hQ : ∀ a', Fr a' x0 (.slice ri li ci) (.pointer (some ⟨c, 0, none⟩)) (.pointer (some ⟨l, 0, none⟩)) (.slice r8 m8 c8) x9 x10 x11 → a'.eval (.tmp 57) = .bool em → Q .normal a' wr) : (Reg Try.f27 6).wp Try.prog Q a wr := by
  obtain ⟨u, rfl⟩ := fr_lit h
  have HQ : Hid (∀ a', Fr a' x0 (.slice ri li ci) (.pointer (some ⟨c, 0, none⟩)) (.pointer (some ⟨l, 0, none⟩)) (.slice r8 m8 c8) x9 x10 x11 → a'.eval (.tmp 57) = .bool em → Q .normal a' wr) := hQ
  clear hQ h
  subst hem
  conv => arg 2; whnf
  rcases hb1 : (cf == aI) with _ | _
  · rw [hb1] at HQ
    go_wp2_with fail
    exact HQ.out _ ⟨rfl, rfl, rfl, rfl, rfl, rfl, rfl, rfl, rfl, rfl⟩ rfl
  rcases hb2 : (((li : Nat) : Int) == 0) with _ | _
  · rw [hb1, hb2] at HQ
    go_wp2_with fail
    exact HQ.out _ ⟨rfl, rfl, rfl, rfl, rfl, rfl, rfl, rfl, rfl, rfl⟩ rfl
  rcases hb3 : (((m8 : Nat) : Int) == 0) with _ | _
  · rw [hb1, hb2, hb3] at HQ
    go_wp2_with fail
    exact HQ.out _ ⟨rfl, rfl, rfl, rfl, rfl, rfl, rfl, rfl, rfl, rfl⟩ rfl
  · rw [hb1, hb2, hb3] at HQ
    go_wp2_with fail
    exact HQ.out _ ⟨rfl, rfl, rfl, rfl, rfl, rfl, rfl, rfl, rfl, rfl⟩ rfl

set_option maxHeartbeats 4000000 in
set_option maxRecDepth 100000 in
theorem p7 {Q : Exit → Act → World → Prop} {a : Act} {wr : World} {x0 x2 x4 x7 x8 x10 x11 : Value} (k κ : Nat)
    (hk : k = κ + 1) (hb : k ≤ 8388608)
    (h : Fr a x0 x2 x4 x7 x8 (.int .i64 k) x10 x11)
    (hQ : ∀ a', Fr a' x0 x2 x4 x7 x8 (.int .i64 κ) x10 x11 → Q .normal a' wr) : (Reg Try.f27 7).wp Try.prog Q a wr := by
  obtain ⟨u, rfl⟩ := fr_lit h
  have HQ : Hid (∀ a', Fr a' x0 x2 x4 x7 x8 (.int .i64 κ) x10 x11 → Q .normal a' wr) := hQ
  clear hQ h
  have e1 : IntKind.i64.wrap ((k : Int) - 1) = (κ : Int) := by rw [IntWalk.i64_in _ (by omega)]; omega
  clear hk
  conv => arg 2; whnf
  go_wp2_with fail
  exact HQ.out _ ⟨rfl, rfl, rfl, rfl, rfl, rfl, rfl, rfl, rfl, rfl⟩

set_option maxHeartbeats 4000000 in
set_option maxRecDepth 100000 in
theorem p8 {Q : Exit → Act → World → Prop} {a : Act} {wr : World} {x2 x8 x9 x10 x11 : Value} (D c l k : Nat)
    (v2 : wr.cell? ⟨c, 2, none⟩ = some (.int .i64 k)) (v3 : wr.cell? ⟨c, 3, none⟩ = some (.int .i64 k))
    (h : Fr a (.pointer (some ⟨D, 0, none⟩)) x2 (.pointer (some ⟨c, 0, none⟩)) (.pointer (some ⟨l, 0, none⟩)) x8 x9 x10 x11)
    (hQ : ∀ a' m, Fr a' (.pointer (some ⟨D, 0, none⟩)) x2 (.pointer (some ⟨c, 0, none⟩)) (.pointer (some ⟨l, 0, none⟩)) x8 x9 x10 x11 → a'.eval (.tmp 110) = .bool false → Q .normal a' (wr.drewN m)) : (Reg Try.f27 8).wp Try.prog Q a wr := by
  obtain ⟨u, rfl⟩ := fr_lit h
  have HQ : Hid (∀ a' m, Fr a' (.pointer (some ⟨D, 0, none⟩)) x2 (.pointer (some ⟨c, 0, none⟩)) (.pointer (some ⟨l, 0, none⟩)) x8 x9 x10 x11 → a'.eval (.tmp 110) = .bool false → Q .normal a' (wr.drewN m)) := hQ
  clear hQ h
  have zk : ¬ (k : Int) < (k : Int) := by omega
  conv => arg 2; whnf
  go_quiet (fail)
  exact HQ.out _ _ ⟨rfl, rfl, rfl, rfl, rfl, rfl, rfl, rfl, rfl, rfl⟩ rfl

end Go.Proofs.Qxb6603146a
