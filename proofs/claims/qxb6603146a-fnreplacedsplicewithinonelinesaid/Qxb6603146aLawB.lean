import Derived.Test.Qxb6603146aFrm7
import Derived.Test.Qxb6603146aClones
import Derived.Test.Qxb6603146aBytes
import Derived.Test.Qxb6603146aTiled
namespace Go.Proofs.Qxb6603146a
open Go.RowKit Go.Deep

set_option maxHeartbeats 4000000 in
set_option maxRecDepth 100000 in
theorem q14 {Q : Exit → Act → World → Prop} {a : Act} {wr : World} {x5 x6 x7 x8 x9 x10 x11 x25 x26 x27 x28 x29 x30 x31 x32 : Value} (a0 a1 a2 a3 a4 : Option Addr) (n0 n c0 c1 c2 c3 c4 : Nat) (S F T P : Nat → Int)
    (hn : n ≤ 1048576) (r1 : Reads .i64 wr a1 n S) (r2 : Reads .i64 wr a2 n F) (r3 : Reads .i64 wr a3 n T) (r4 : Reads .i64 wr a4 n P)
    (h : Fr7 a (.slice a0 n0 c0) (.slice a1 n c1) (.slice a2 n c2) (.slice a3 n c3) (.slice a4 n c4) x5 x6 x7 x8 x9 x10 x11 x25 x26 x27 x28 x29 x30 x31 x32)
    (hQ : ∀ a' v m, Fr7 a' (.slice a0 n0 c0) (.slice a1 n c1) (.slice a2 n c2) (.slice a3 n c3) (.slice a4 n c4) x5 x6 x7 x8 x9 x10 x11 x25 x26 x27 x28 x29 x30 x31 x32 → a'.eval (.tmp 154) = .bool (!v) → TiledIf v n0 n S F T P → Q .normal a' (wr.drewN m)) : (Reg Try.f7 14).wp Try.prog Q a wr := by
  obtain ⟨u, rfl⟩ := fr7_lit h
  have HQ : Hid (∀ a' v m, Fr7 a' (.slice a0 n0 c0) (.slice a1 n c1) (.slice a2 n c2) (.slice a3 n c3) (.slice a4 n c4) x5 x6 x7 x8 x9 x10 x11 x25 x26 x27 x28 x29 x30 x31 x32 → a'.eval (.tmp 154) = .bool (!v) → TiledIf v n0 n S F T P → Q .normal a' (wr.drewN m)) := hQ
  clear hQ h
  have HR : Hid (Reads .i64 wr a1 n S ∧ Reads .i64 wr a2 n F ∧ Reads .i64 wr a3 n T ∧ Reads .i64 wr a4 n P) := ⟨r1, r2, r3, r4⟩
  clear r1 r2 r3 r4
  conv => arg 2; whnf
  go_wp2_with fail
  refine (tiled19 a0 n0 c0 a1 a2 a3 a4 n c1 c2 c3 c4 S F T P _ hn HR.out.1 HR.out.2.1 HR.out.2.2.1 HR.out.2.2.2).mono ?_
  rintro _ w2 ⟨v, rfl, ⟨m, hw2⟩, ht⟩
  subst w2
  have HS : Hid (TiledIf v n0 n S F T P) := ht
  clear ht
  go_wp2_with fail
  exact HQ.out _ v m ⟨rfl, rfl, rfl, rfl, rfl, rfl, rfl, rfl, rfl, rfl, rfl, rfl, rfl, rfl, rfl, rfl, rfl, rfl, rfl, rfl, rfl, rfl⟩ rfl HS.out

set_option maxHeartbeats 4000000 in
set_option maxRecDepth 100000 in
theorem q16 {Q : Exit → Act → World → Prop} {a : Act} {wr : World} {x0 x1 x2 x3 x4 x6 x7 x8 x10 x11 x25 x26 x27 x28 x29 x30 x31 x32 : Value} (b o n c5 k : Nat) (A : Nat → Int)
    (hc : wr.cell? ⟨b, o + k, none⟩ = some (.int .i64 (A k))) (hk : (k : Int) < (n : Int))
    (h : Fr7 a x0 x1 x2 x3 x4 (.slice (some ⟨b, o, none⟩) n c5) x6 x7 x8 (.int .i64 k) x10 x11 x25 x26 x27 x28 x29 x30 x31 x32)
    (hQ : ∀ a', Fr7 a' x0 x1 x2 x3 x4 (.slice (some ⟨b, o, none⟩) n c5) x6 x7 x8 (.int .i64 k) x10 x11 x25 (.int .i64 (A k)) x27 x28 x29 x30 x31 x32 → Q .normal a' wr) : (Reg Try.f7 16).wp Try.prog Q a wr := by
  obtain ⟨u, rfl⟩ := fr7_lit h
  have HQ : Hid (∀ a', Fr7 a' x0 x1 x2 x3 x4 (.slice (some ⟨b, o, none⟩) n c5) x6 x7 x8 (.int .i64 k) x10 x11 x25 (.int .i64 (A k)) x27 x28 x29 x30 x31 x32 → Q .normal a' wr) := hQ
  clear hQ h
  conv => arg 2; whnf
  go_wp2_with fail
  exact HQ.out _ ⟨rfl, rfl, rfl, rfl, rfl, rfl, rfl, rfl, rfl, rfl, rfl, rfl, rfl, rfl, rfl, rfl, rfl, rfl, rfl, rfl, rfl, rfl⟩

set_option maxHeartbeats 4000000 in
set_option maxRecDepth 100000 in
theorem q17 {Q : Exit → Act → World → Prop} {a : Act} {wr : World} {x0 x1 x2 x3 x4 x5 x6 x9 x10 x11 x25 x27 x28 x29 x30 x31 x32 : Value} (at_ cf ct : Int)
    
    (h : Fr7 a x0 x1 x2 x3 x4 x5 x6 (.int .i64 cf) (.int .i64 ct) x9 x10 x11 x25 (.int .i64 at_) x27 x28 x29 x30 x31 x32)
    (hQ : ∀ a', Fr7 a' x0 x1 x2 x3 x4 x5 x6 (.int .i64 cf) (.int .i64 ct) x9 x10 x11 x25 (.int .i64 at_) x27 x28 x29 x30 x31 x32 → a'.eval (.tmp 180) = .bool ((decide (at_ < 0)) || (decide ((1073741824 : Int) < at_)) || (decide (cf < 0)) || (decide ((1073741824 : Int) < cf)) || (decide (ct < 0)) || (decide ((1073741824 : Int) < ct))) → Q .normal a' wr) : (Reg Try.f7 17).wp Try.prog Q a wr := by
  obtain ⟨u, rfl⟩ := fr7_lit h
  have HQ : Hid (∀ a', Fr7 a' x0 x1 x2 x3 x4 x5 x6 (.int .i64 cf) (.int .i64 ct) x9 x10 x11 x25 (.int .i64 at_) x27 x28 x29 x30 x31 x32 → a'.eval (.tmp 180) = .bool ((decide (at_ < 0)) || (decide ((1073741824 : Int) < at_)) || (decide (cf < 0)) || (decide ((1073741824 : Int) < cf)) || (decide (ct < 0)) || (decide ((1073741824 : Int) < ct))) → Q .normal a' wr) := hQ
  clear hQ h
  conv => arg 2; whnf
  rcases hb1 : (decide (at_ < 0)) with _ | _
  case true =>
    rw [hb1] at HQ
    go_wp2_with fail
    exact HQ.out _ ⟨rfl, rfl, rfl, rfl, rfl, rfl, rfl, rfl, rfl, rfl, rfl, rfl, rfl, rfl, rfl, rfl, rfl, rfl, rfl, rfl, rfl, rfl⟩ rfl
  rcases hb2 : (decide ((1073741824 : Int) < at_)) with _ | _
  case true =>
    rw [hb1, hb2] at HQ
    go_wp2_with fail
    exact HQ.out _ ⟨rfl, rfl, rfl, rfl, rfl, rfl, rfl, rfl, rfl, rfl, rfl, rfl, rfl, rfl, rfl, rfl, rfl, rfl, rfl, rfl, rfl, rfl⟩ rfl
  rcases hb3 : (decide (cf < 0)) with _ | _
  case true =>
    rw [hb1, hb2, hb3] at HQ
    go_wp2_with fail
    exact HQ.out _ ⟨rfl, rfl, rfl, rfl, rfl, rfl, rfl, rfl, rfl, rfl, rfl, rfl, rfl, rfl, rfl, rfl, rfl, rfl, rfl, rfl, rfl, rfl⟩ rfl
  rcases hb4 : (decide ((1073741824 : Int) < cf)) with _ | _
  case true =>
    rw [hb1, hb2, hb3, hb4] at HQ
    go_wp2_with fail
    exact HQ.out _ ⟨rfl, rfl, rfl, rfl, rfl, rfl, rfl, rfl, rfl, rfl, rfl, rfl, rfl, rfl, rfl, rfl, rfl, rfl, rfl, rfl, rfl, rfl⟩ rfl
  rcases hb5 : (decide (ct < 0)) with _ | _
  case true =>
    rw [hb1, hb2, hb3, hb4, hb5] at HQ
    go_wp2_with fail
    exact HQ.out _ ⟨rfl, rfl, rfl, rfl, rfl, rfl, rfl, rfl, rfl, rfl, rfl, rfl, rfl, rfl, rfl, rfl, rfl, rfl, rfl, rfl, rfl, rfl⟩ rfl
  rcases hb6 : (decide ((1073741824 : Int) < ct)) with _ | _
  case true =>
    rw [hb1, hb2, hb3, hb4, hb5, hb6] at HQ
    go_wp2_with fail
    exact HQ.out _ ⟨rfl, rfl, rfl, rfl, rfl, rfl, rfl, rfl, rfl, rfl, rfl, rfl, rfl, rfl, rfl, rfl, rfl, rfl, rfl, rfl, rfl, rfl⟩ rfl
  rw [hb1, hb2, hb3, hb4, hb5, hb6] at HQ
  go_wp2_with fail
  exact HQ.out _ ⟨rfl, rfl, rfl, rfl, rfl, rfl, rfl, rfl, rfl, rfl, rfl, rfl, rfl, rfl, rfl, rfl, rfl, rfl, rfl, rfl, rfl, rfl⟩ rfl

set_option maxHeartbeats 4000000 in
set_option maxRecDepth 100000 in
theorem q19 {Q : Exit → Act → World → Prop} {a : Act} {wr : World} {x0 x1 x4 x5 x6 x7 x8 x10 x11 x25 x26 x27 x28 x29 x30 x31 x32 : Value} (b3 o3 b2 o2 n c3 c2 k : Nat) (F T : Nat → Int)
    (h3 : wr.cell? ⟨b3, o3 + k, none⟩ = some (.int .i64 (T k))) (h2 : wr.cell? ⟨b2, o2 + k, none⟩ = some (.int .i64 (F k))) (hk : (k : Int) < (n : Int)) (hb : 0 ≤ F k ∧ F k ≤ T k ∧ T k ≤ 1048576)
    (h : Fr7 a x0 x1 (.slice (some ⟨b2, o2, none⟩) n c2) (.slice (some ⟨b3, o3, none⟩) n c3) x4 x5 x6 x7 x8 (.int .i64 k) x10 x11 x25 x26 x27 x28 x29 x30 x31 x32)
    (hQ : ∀ a' m, Fr7 a' x0 x1 (.slice (some ⟨b2, o2, none⟩) n c2) (.slice (some ⟨b3, o3, none⟩) n c3) x4 x5 x6 x7 x8 (.int .i64 k) x10 x11 x25 x26 (.int .i64 (T k - F k)) x28 x29 x30 x31 x32 → Q .normal a' (wr.drewN m)) : (Reg Try.f7 19).wp Try.prog Q a wr := by
  obtain ⟨u, rfl⟩ := fr7_lit h
  have HQ : Hid (∀ a' m, Fr7 a' x0 x1 (.slice (some ⟨b2, o2, none⟩) n c2) (.slice (some ⟨b3, o3, none⟩) n c3) x4 x5 x6 x7 x8 (.int .i64 k) x10 x11 x25 x26 (.int .i64 (T k - F k)) x28 x29 x30 x31 x32 → Q .normal a' (wr.drewN m)) := hQ
  clear hQ h
  have e1 : IntKind.i64.wrap (T k - F k) = T k - F k := IntWalk.i64_in _ (by omega)
  clear hb
  conv => arg 2; whnf
  go_quiet (fail)
  exact HQ.out _ _ ⟨rfl, rfl, rfl, rfl, rfl, rfl, rfl, rfl, rfl, rfl, rfl, rfl, rfl, rfl, rfl, rfl, rfl, rfl, rfl, rfl, rfl, rfl⟩

set_option maxHeartbeats 4000000 in
set_option maxRecDepth 100000 in
theorem q20 {Q : Exit → Act → World → Prop} {a : Act} {wr : World} {x0 x1 x2 x3 x4 x5 x6 x9 x10 x11 x25 x28 x29 x30 x31 x32 : Value} (at_ cf ct sh : Int)
    (ba : 0 ≤ at_ ∧ at_ ≤ 1073741824) (bt : 0 ≤ ct ∧ ct ≤ 1073741824)
    (h : Fr7 a x0 x1 x2 x3 x4 x5 x6 (.int .i64 cf) (.int .i64 ct) x9 x10 x11 x25 (.int .i64 at_) (.int .i64 sh) x28 x29 x30 x31 x32)
    (hQ : ∀ a', Fr7 a' x0 x1 x2 x3 x4 x5 x6 (.int .i64 cf) (.int .i64 ct) x9 x10 x11 x25 (.int .i64 at_) (.int .i64 sh) x28 x29 x30 x31 x32 → a'.eval (.tmp 204) = .bool ((decide (cf < at_)) || (decide (ct < cf)) || (decide (sh < ct - at_))) → Q .normal a' wr) : (Reg Try.f7 20).wp Try.prog Q a wr := by
  obtain ⟨u, rfl⟩ := fr7_lit h
  have HQ : Hid (∀ a', Fr7 a' x0 x1 x2 x3 x4 x5 x6 (.int .i64 cf) (.int .i64 ct) x9 x10 x11 x25 (.int .i64 at_) (.int .i64 sh) x28 x29 x30 x31 x32 → a'.eval (.tmp 204) = .bool ((decide (cf < at_)) || (decide (ct < cf)) || (decide (sh < ct - at_))) → Q .normal a' wr) := hQ
  clear hQ h
  have e1 : IntKind.i64.wrap (ct - at_) = ct - at_ := IntWalk.i64_in _ (by omega)
  clear ba bt
  conv => arg 2; whnf
  rcases hb1 : (decide (cf < at_)) with _ | _
  case true =>
    rw [hb1] at HQ
    go_wp2_with fail
    exact HQ.out _ ⟨rfl, rfl, rfl, rfl, rfl, rfl, rfl, rfl, rfl, rfl, rfl, rfl, rfl, rfl, rfl, rfl, rfl, rfl, rfl, rfl, rfl, rfl⟩ rfl
  rcases hb2 : (decide (ct < cf)) with _ | _
  case true =>
    rw [hb1, hb2] at HQ
    go_wp2_with fail
    exact HQ.out _ ⟨rfl, rfl, rfl, rfl, rfl, rfl, rfl, rfl, rfl, rfl, rfl, rfl, rfl, rfl, rfl, rfl, rfl, rfl, rfl, rfl, rfl, rfl⟩ rfl
  rcases hb3 : (decide (sh < ct - at_)) with _ | _
  case true =>
    rw [hb1, hb2, hb3] at HQ
    go_wp2_with fail
    exact HQ.out _ ⟨rfl, rfl, rfl, rfl, rfl, rfl, rfl, rfl, rfl, rfl, rfl, rfl, rfl, rfl, rfl, rfl, rfl, rfl, rfl, rfl, rfl, rfl⟩ rfl
  rw [hb1, hb2, hb3] at HQ
  go_wp2_with fail
  exact HQ.out _ ⟨rfl, rfl, rfl, rfl, rfl, rfl, rfl, rfl, rfl, rfl, rfl, rfl, rfl, rfl, rfl, rfl, rfl, rfl, rfl, rfl, rfl, rfl⟩ rfl

set_option maxHeartbeats 4000000 in
set_option maxRecDepth 100000 in
theorem q22 {Q : Exit → Act → World → Prop} {a : Act} {wr : World} {x0 x1 x2 x3 x4 x5 x6 x9 x10 x25 x28 x29 x30 x31 x32 : Value} (a7 : Option Addr) (n7 c7 : Nat) (at_ cf ct sh : Int)
    (ba : 0 ≤ at_ ∧ at_ ≤ 1073741824) (bt : 0 ≤ ct ∧ ct ≤ 1073741824)
    (h : Fr7 a x0 x1 x2 x3 x4 x5 x6 (.int .i64 cf) (.int .i64 ct) x9 x10 (.slice a7 n7 c7) x25 (.int .i64 at_) (.int .i64 sh) x28 x29 x30 x31 x32)
    (hQ : ∀ a', Fr7 a' x0 x1 x2 x3 x4 x5 x6 (.int .i64 cf) (.int .i64 ct) x9 x10 (.slice a7 n7 c7) x25 (.int .i64 at_) (.int .i64 sh) (.bool ((cf == at_) && ((n7 : Int) == 0) && (ct - at_ == sh))) x29 x30 x31 x32 → Q .normal a' wr) : (Reg Try.f7 22).wp Try.prog Q a wr := by
  obtain ⟨u, rfl⟩ := fr7_lit h
  have HQ : Hid (∀ a', Fr7 a' x0 x1 x2 x3 x4 x5 x6 (.int .i64 cf) (.int .i64 ct) x9 x10 (.slice a7 n7 c7) x25 (.int .i64 at_) (.int .i64 sh) (.bool ((cf == at_) && ((n7 : Int) == 0) && (ct - at_ == sh))) x29 x30 x31 x32 → Q .normal a' wr) := hQ
  clear hQ h
  have e1 : IntKind.i64.wrap (ct - at_) = ct - at_ := IntWalk.i64_in _ (by omega)
  clear ba bt
  conv => arg 2; whnf
  rcases hb1 : (cf == at_) with _ | _
  case false =>
    rw [hb1] at HQ
    go_wp2_with fail
    exact HQ.out _ ⟨rfl, rfl, rfl, rfl, rfl, rfl, rfl, rfl, rfl, rfl, rfl, rfl, rfl, rfl, rfl, rfl, rfl, rfl, rfl, rfl, rfl, rfl⟩
  rcases hb2 : ((n7 : Int) == 0) with _ | _
  case false =>
    rw [hb1, hb2] at HQ
    go_wp2_with fail
    exact HQ.out _ ⟨rfl, rfl, rfl, rfl, rfl, rfl, rfl, rfl, rfl, rfl, rfl, rfl, rfl, rfl, rfl, rfl, rfl, rfl, rfl, rfl, rfl, rfl⟩
  rcases hb3 : (ct - at_ == sh) with _ | _
  case false =>
    rw [hb1, hb2, hb3] at HQ
    go_wp2_with fail
    exact HQ.out _ ⟨rfl, rfl, rfl, rfl, rfl, rfl, rfl, rfl, rfl, rfl, rfl, rfl, rfl, rfl, rfl, rfl, rfl, rfl, rfl, rfl, rfl, rfl⟩
  rw [hb1, hb2, hb3] at HQ
  go_wp2_with fail
  exact HQ.out _ ⟨rfl, rfl, rfl, rfl, rfl, rfl, rfl, rfl, rfl, rfl, rfl, rfl, rfl, rfl, rfl, rfl, rfl, rfl, rfl, rfl, rfl, rfl⟩

set_option maxHeartbeats 4000000 in
set_option maxRecDepth 100000 in
theorem q23 {Q : Exit → Act → World → Prop} {a : Act} {wr : World} {x0 x1 x2 x3 x4 x5 x6 x7 x8 x10 x11 x25 x26 x27 x29 x30 x31 x32 : Value} (em : Bool) (k : Nat)
    
    (h : Fr7 a x0 x1 x2 x3 x4 x5 x6 x7 x8 (.int .i64 k) x10 x11 x25 x26 x27 (.bool em) x29 x30 x31 x32)
    (hQ : ∀ a', Fr7 a' x0 x1 x2 x3 x4 x5 x6 x7 x8 (.int .i64 k) x10 x11 x25 x26 x27 (.bool em) x29 x30 x31 x32 → a'.eval (.tmp 224) = .bool (em && ((k : Int) == 0)) → Q .normal a' wr) : (Reg Try.f7 23).wp Try.prog Q a wr := by
  obtain ⟨u, rfl⟩ := fr7_lit h
  have HQ : Hid (∀ a', Fr7 a' x0 x1 x2 x3 x4 x5 x6 x7 x8 (.int .i64 k) x10 x11 x25 x26 x27 (.bool em) x29 x30 x31 x32 → a'.eval (.tmp 224) = .bool (em && ((k : Int) == 0)) → Q .normal a' wr) := hQ
  clear hQ h
  conv => arg 2; whnf
  cases em with
  | false =>
    go_wp2_with fail
    exact HQ.out _ ⟨rfl, rfl, rfl, rfl, rfl, rfl, rfl, rfl, rfl, rfl, rfl, rfl, rfl, rfl, rfl, rfl, rfl, rfl, rfl, rfl, rfl, rfl⟩ rfl
  | true =>
    go_wp2_with fail
    exact HQ.out _ ⟨rfl, rfl, rfl, rfl, rfl, rfl, rfl, rfl, rfl, rfl, rfl, rfl, rfl, rfl, rfl, rfl, rfl, rfl, rfl, rfl, rfl, rfl⟩ rfl

end Go.Proofs.Qxb6603146a
