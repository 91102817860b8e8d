import Derived.Test.Qxb6603146aFrm7
import Derived.Test.Qxb6603146aClones
import Derived.Test.Qxb6603146aBytes
import Derived.Test.Qxb6603146aTiled
namespace Go.Proofs.Qxb6603146a
open Go.RowKit Go.Deep

set_option maxHeartbeats 4000000 in
set_option maxRecDepth 100000 in
theorem q0 {Q : Exit → Act → World → Prop} {a : Act} {wr : World} {x0 x1 x2 x3 x4 x5 x6 x7 x8 x9 x10 x11 x25 x26 x27 x28 x29 x30 x31 x32 : Value} 
    
    (h : Fr7 a x0 x1 x2 x3 x4 x5 x6 x7 x8 x9 x10 x11 x25 x26 x27 x28 x29 x30 x31 x32)
    (hQ : ∀ a', Fr7 a' x0 x1 x2 x3 x4 x5 x6 x7 x8 x9 x10 x11 x25 x26 x27 x28 x29 x30 x31 x32 → Q .normal a' wr) : (Reg Try.f7 0).wp Try.prog Q a wr := by
  obtain ⟨u, rfl⟩ := fr7_lit h
  have HQ : Hid (∀ a', Fr7 a' x0 x1 x2 x3 x4 x5 x6 x7 x8 x9 x10 x11 x25 x26 x27 x28 x29 x30 x31 x32 → Q .normal a' wr) := hQ
  clear hQ h
  conv => arg 2; whnf
  go_wp2_with fail
  exact HQ.out _ ⟨rfl, rfl, rfl, rfl, rfl, rfl, rfl, rfl, rfl, rfl, rfl, rfl, rfl, rfl, rfl, rfl, rfl, rfl, rfl, rfl, rfl, rfl⟩

set_option maxHeartbeats 4000000 in
set_option maxRecDepth 100000 in
theorem q1 {Q : Exit → Act → World → Prop} {a : Act} {wr : World} {x25 x26 x27 x28 x29 x30 x31 x32 : Value} (a0 a1 a2 a3 a4 a5 a6 a7 : Option Addr) (n0 c0 n1 c1 n2 c2 n3 c3 n4 c4 n5 c5 n6 c6 n7 c7 : Nat) (cf ct ki kr : Int)
    (m0 : n0 ≤ maxLen) (m1 : n1 ≤ maxLen) (m2 : n2 ≤ maxLen) (m3 : n3 ≤ maxLen) (m4 : n4 ≤ maxLen) (m5 : n5 ≤ maxLen) (m6 : n6 ≤ maxLen) (m7 : n7 ≤ maxLen)
    (h : Fr7 a (.slice a0 n0 c0) (.slice a1 n1 c1) (.slice a2 n2 c2) (.slice a3 n3 c3) (.slice a4 n4 c4) (.slice a5 n5 c5) (.slice a6 n6 c6) (.int .i64 cf) (.int .i64 ct) (.int .i64 ki) (.int .i64 kr) (.slice a7 n7 c7) x25 x26 x27 x28 x29 x30 x31 x32)
    (hQ : ∀ a' v, Fr7 a' (.slice a0 n0 c0) (.slice a1 n1 c1) (.slice a2 n2 c2) (.slice a3 n3 c3) (.slice a4 n4 c4) (.slice a5 n5 c5) (.slice a6 n6 c6) (.int .i64 cf) (.int .i64 ct) (.int .i64 ki) (.int .i64 kr) (.slice a7 n7 c7) x25 x26 x27 x28 x29 x30 x31 x32 → a'.eval (.tmp 46) = .bool (!v) → Sum8 v n0 n1 n2 n3 n4 n5 n6 n7 → Q .normal a' wr) : (Reg Try.f7 1).wp Try.prog Q a wr := by
  obtain ⟨u, rfl⟩ := fr7_lit h
  have HQ : Hid (∀ a' v, Fr7 a' (.slice a0 n0 c0) (.slice a1 n1 c1) (.slice a2 n2 c2) (.slice a3 n3 c3) (.slice a4 n4 c4) (.slice a5 n5 c5) (.slice a6 n6 c6) (.int .i64 cf) (.int .i64 ct) (.int .i64 ki) (.int .i64 kr) (.slice a7 n7 c7) x25 x26 x27 x28 x29 x30 x31 x32 → a'.eval (.tmp 46) = .bool (!v) → Sum8 v n0 n1 n2 n3 n4 n5 n6 n7 → Q .normal a' wr) := hQ
  clear hQ h
  conv => arg 2; whnf
  go_wp2_with fail
  refine (zzBytes18 a0 a1 a2 a3 a4 a5 a6 a7 n0 n1 n2 n3 n4 n5 n6 n7 c0 c1 c2 c3 c4 c5 c6 c7 cf ct ki kr _ m0 m1 m2 m3 m4 m5 m6 m7).mono ?_
  rintro _ w2 ⟨v, rfl, hw2, hs⟩
  subst w2
  have HS : Hid (Sum8 v n0 n1 n2 n3 n4 n5 n6 n7) := hs
  clear hs m0 m1 m2 m3 m4 m5 m6 m7
  go_wp2_with fail
  exact HQ.out _ v ⟨rfl, rfl, rfl, rfl, rfl, rfl, rfl, rfl, rfl, rfl, rfl, rfl, rfl, rfl, rfl, rfl, rfl, rfl, rfl, rfl, rfl, rfl⟩ rfl HS.out

set_option maxHeartbeats 4000000 in
set_option maxRecDepth 100000 in
theorem r2 {a : Act} {wr : World} {x0 x1 x2 x3 x4 x5 x6 x7 x8 x9 x10 x11 x25 x26 x27 x28 x29 x30 x31 x32 : Value} {Q : Ending → World → Prop} {K : Act → World → Prop} (h : Fr7 a x0 x1 x2 x3 x4 x5 x6 x7 x8 x9 x10 x11 x25 x26 x27 x28 x29 x30 x31 x32) (hQ : Q (.returned (.bool true)) wr) : ((Reg Try.f7 2).seq .ret).wp Try.prog (Exit.then K (bodyPost Try.prog Try.f7 Q)) a wr := by
  obtain ⟨u, rfl⟩ := fr7_lit h
  have HQ : Hid (Q (.returned (.bool true)) wr) := hQ
  clear hQ h
  conv =>
    arg 2
    arg 1
    whnf
  go_wp2_with fail
  exact HQ.out

set_option maxHeartbeats 4000000 in
set_option maxRecDepth 100000 in
theorem r4 {a : Act} {wr : World} {x0 x1 x2 x3 x4 x5 x6 x7 x8 x9 x10 x11 x25 x26 x27 x28 x29 x30 x31 x32 : Value} {Q : Ending → World → Prop} {K : Act → World → Prop} (h : Fr7 a x0 x1 x2 x3 x4 x5 x6 x7 x8 x9 x10 x11 x25 x26 x27 x28 x29 x30 x31 x32) (hQ : Q (.returned (.bool true)) wr) : ((Reg Try.f7 4).seq .ret).wp Try.prog (Exit.then K (bodyPost Try.prog Try.f7 Q)) a wr := by
  obtain ⟨u, rfl⟩ := fr7_lit h
  have HQ : Hid (Q (.returned (.bool true)) wr) := hQ
  clear hQ h
  conv =>
    arg 2
    arg 1
    whnf
  go_wp2_with fail
  exact HQ.out

set_option maxHeartbeats 4000000 in
set_option maxRecDepth 100000 in
theorem r6 {a : Act} {wr : World} {x0 x1 x2 x3 x4 x5 x6 x7 x8 x9 x10 x11 x25 x26 x27 x28 x29 x30 x31 x32 : Value} {Q : Ending → World → Prop} {K : Act → World → Prop} (h : Fr7 a x0 x1 x2 x3 x4 x5 x6 x7 x8 x9 x10 x11 x25 x26 x27 x28 x29 x30 x31 x32) (hQ : Q (.returned (.bool true)) wr) : ((Reg Try.f7 6).seq .ret).wp Try.prog (Exit.then K (bodyPost Try.prog Try.f7 Q)) a wr := by
  obtain ⟨u, rfl⟩ := fr7_lit h
  have HQ : Hid (Q (.returned (.bool true)) wr) := hQ
  clear hQ h
  conv =>
    arg 2
    arg 1
    whnf
  go_wp2_with fail
  exact HQ.out

set_option maxHeartbeats 4000000 in
set_option maxRecDepth 100000 in
theorem r8 {a : Act} {wr : World} {x0 x1 x2 x3 x4 x5 x6 x7 x8 x9 x10 x11 x25 x26 x27 x28 x29 x30 x31 x32 : Value} {Q : Ending → World → Prop} {K : Act → World → Prop} (h : Fr7 a x0 x1 x2 x3 x4 x5 x6 x7 x8 x9 x10 x11 x25 x26 x27 x28 x29 x30 x31 x32) (hQ : Q (.returned (.bool true)) wr) : ((Reg Try.f7 8).seq .ret).wp Try.prog (Exit.then K (bodyPost Try.prog Try.f7 Q)) a wr := by
  obtain ⟨u, rfl⟩ := fr7_lit h
  have HQ : Hid (Q (.returned (.bool true)) wr) := hQ
  clear hQ h
  conv =>
    arg 2
    arg 1
    whnf
  go_wp2_with fail
  exact HQ.out

set_option maxHeartbeats 4000000 in
set_option maxRecDepth 100000 in
theorem r11 {a : Act} {wr : World} {x0 x1 x2 x3 x4 x5 x6 x7 x8 x9 x10 x11 x25 x26 x27 x28 x29 x30 x31 x32 : Value} {Q : Ending → World → Prop} {K : Act → World → Prop} (h : Fr7 a x0 x1 x2 x3 x4 x5 x6 x7 x8 x9 x10 x11 x25 x26 x27 x28 x29 x30 x31 x32) (hQ : Q (.returned (.bool true)) wr) : ((Reg Try.f7 11).seq .ret).wp Try.prog (Exit.then K (bodyPost Try.prog Try.f7 Q)) a wr := by
  obtain ⟨u, rfl⟩ := fr7_lit h
  have HQ : Hid (Q (.returned (.bool true)) wr) := hQ
  clear hQ h
  conv =>
    arg 2
    arg 1
    whnf
  go_wp2_with fail
  exact HQ.out

set_option maxHeartbeats 4000000 in
set_option maxRecDepth 100000 in
theorem r13 {a : Act} {wr : World} {x0 x1 x2 x3 x4 x5 x6 x7 x8 x9 x10 x11 x25 x26 x27 x28 x29 x30 x31 x32 : Value} {Q : Ending → World → Prop} {K : Act → World → Prop} (h : Fr7 a x0 x1 x2 x3 x4 x5 x6 x7 x8 x9 x10 x11 x25 x26 x27 x28 x29 x30 x31 x32) (hQ : Q (.returned (.bool true)) wr) : ((Reg Try.f7 13).seq .ret).wp Try.prog (Exit.then K (bodyPost Try.prog Try.f7 Q)) a wr := by
  obtain ⟨u, rfl⟩ := fr7_lit h
  have HQ : Hid (Q (.returned (.bool true)) wr) := hQ
  clear hQ h
  conv =>
    arg 2
    arg 1
    whnf
  go_wp2_with fail
  exact HQ.out

set_option maxHeartbeats 4000000 in
set_option maxRecDepth 100000 in
theorem r15 {a : Act} {wr : World} {x0 x1 x2 x3 x4 x5 x6 x7 x8 x9 x10 x11 x25 x26 x27 x28 x29 x30 x31 x32 : Value} {Q : Ending → World → Prop} {K : Act → World → Prop} (h : Fr7 a x0 x1 x2 x3 x4 x5 x6 x7 x8 x9 x10 x11 x25 x26 x27 x28 x29 x30 x31 x32) (hQ : Q (.returned (.bool true)) wr) : ((Reg Try.f7 15).seq .ret).wp Try.prog (Exit.then K (bodyPost Try.prog Try.f7 Q)) a wr := by
  obtain ⟨u, rfl⟩ := fr7_lit h
  have HQ : Hid (Q (.returned (.bool true)) wr) := hQ
  clear hQ h
  conv =>
    arg 2
    arg 1
    whnf
  go_wp2_with fail
  exact HQ.out

set_option maxHeartbeats 4000000 in
set_option maxRecDepth 100000 in
theorem r18 {a : Act} {wr : World} {x0 x1 x2 x3 x4 x5 x6 x7 x8 x9 x10 x11 x25 x26 x27 x28 x29 x30 x31 x32 : Value} {Q : Ending → World → Prop} {K : Act → World → Prop} (h : Fr7 a x0 x1 x2 x3 x4 x5 x6 x7 x8 x9 x10 x11 x25 x26 x27 x28 x29 x30 x31 x32) (hQ : Q (.returned (.bool true)) wr) : ((Reg Try.f7 18).seq .ret).wp Try.prog (Exit.then K (bodyPost Try.prog Try.f7 Q)) a wr := by
  obtain ⟨u, rfl⟩ := fr7_lit h
  have HQ : Hid (Q (.returned (.bool true)) wr) := hQ
  clear hQ h
  conv =>
    arg 2
    arg 1
    whnf
  go_wp2_with fail
  exact HQ.out

set_option maxHeartbeats 4000000 in
set_option maxRecDepth 100000 in
theorem r21 {a : Act} {wr : World} {x0 x1 x2 x3 x4 x5 x6 x7 x8 x9 x10 x11 x25 x26 x27 x28 x29 x30 x31 x32 : Value} {Q : Ending → World → Prop} {K : Act → World → Prop} (h : Fr7 a x0 x1 x2 x3 x4 x5 x6 x7 x8 x9 x10 x11 x25 x26 x27 x28 x29 x30 x31 x32) (hQ : Q (.returned (.bool true)) wr) : ((Reg Try.f7 21).seq .ret).wp Try.prog (Exit.then K (bodyPost Try.prog Try.f7 Q)) a wr := by
  obtain ⟨u, rfl⟩ := fr7_lit h
  have HQ : Hid (Q (.returned (.bool true)) wr) := hQ
  clear hQ h
  conv =>
    arg 2
    arg 1
    whnf
  go_wp2_with fail
  exact HQ.out

set_option maxHeartbeats 4000000 in
set_option maxRecDepth 100000 in
theorem r24 {a : Act} {wr : World} {x0 x1 x2 x3 x4 x5 x6 x7 x8 x9 x10 x11 x25 x26 x27 x28 x29 x30 x31 x32 : Value} {Q : Ending → World → Prop} {K : Act → World → Prop} (h : Fr7 a x0 x1 x2 x3 x4 x5 x6 x7 x8 x9 x10 x11 x25 x26 x27 x28 x29 x30 x31 x32) (hQ : Q (.returned (.bool true)) wr) : ((Reg Try.f7 24).seq .ret).wp Try.prog (Exit.then K (bodyPost Try.prog Try.f7 Q)) a wr := by
  obtain ⟨u, rfl⟩ := fr7_lit h
  have HQ : Hid (Q (.returned (.bool true)) wr) := hQ
  clear hQ h
  conv =>
    arg 2
    arg 1
    whnf
  go_wp2_with fail
  exact HQ.out

set_option maxHeartbeats 4000000 in
set_option maxRecDepth 100000 in
theorem q3 {Q : Exit → Act → World → Prop} {a : Act} {wr : World} {x1 x2 x3 x4 x5 x7 x8 x9 x10 x25 x26 x27 x28 x29 x30 x31 x32 : Value} (a0 a6 a7 : Option Addr) (n0 c0 n6 c6 n7 c7 : Nat)
    (m0 : n0 ≤ 1048576) (m6 : n6 ≤ 1048576) (m7 : n7 ≤ 1048576)
    (h : Fr7 a (.slice a0 n0 c0) x1 x2 x3 x4 x5 (.slice a6 n6 c6) x7 x8 x9 x10 (.slice a7 n7 c7) x25 x26 x27 x28 x29 x30 x31 x32)
    (hQ : ∀ a', Fr7 a' (.slice a0 n0 c0) x1 x2 x3 x4 x5 (.slice a6 n6 c6) x7 x8 x9 x10 (.slice a7 n7 c7) x25 x26 x27 x28 x29 x30 x31 x32 → a'.eval (.tmp 59) = .bool false → Q .normal a' wr) : (Reg Try.f7 3).wp Try.prog Q a wr := by
  obtain ⟨u, rfl⟩ := fr7_lit h
  have HQ : Hid (∀ a', Fr7 a' (.slice a0 n0 c0) x1 x2 x3 x4 x5 (.slice a6 n6 c6) x7 x8 x9 x10 (.slice a7 n7 c7) x25 x26 x27 x28 x29 x30 x31 x32 → a'.eval (.tmp 59) = .bool false → Q .normal a' wr) := hQ
  clear hQ h
  have d0 : decide ((1048576 : Int) < (n0 : Int)) = false := decide_eq_false (by omega)
  have d6 : decide ((1048576 : Int) < (n6 : Int)) = false := decide_eq_false (by omega)
  have d7 : decide ((1048576 : Int) < (n7 : Int)) = false := decide_eq_false (by omega)
  clear m0 m6 m7
  conv => arg 2; whnf
  go_wp2_with fail
  exact HQ.out _ ⟨rfl, rfl, rfl, rfl, rfl, rfl, rfl, rfl, rfl, rfl, rfl, rfl, rfl, rfl, rfl, rfl, rfl, rfl, rfl, rfl, rfl, rfl⟩ rfl

set_option maxHeartbeats 4000000 in
set_option maxRecDepth 100000 in
theorem q5 {Q : Exit → Act → World → Prop} {a : Act} {wr : World} {x0 x6 x7 x8 x9 x10 x11 x25 x26 x27 x28 x29 x30 x31 x32 : Value} (a1 a2 a3 a4 a5 : Option Addr) (n1 c1 n2 c2 n3 c3 n4 c4 n5 c5 : Nat)
    
    (h : Fr7 a x0 (.slice a1 n1 c1) (.slice a2 n2 c2) (.slice a3 n3 c3) (.slice a4 n4 c4) (.slice a5 n5 c5) x6 x7 x8 x9 x10 x11 x25 x26 x27 x28 x29 x30 x31 x32)
    (hQ : ∀ a', Fr7 a' x0 (.slice a1 n1 c1) (.slice a2 n2 c2) (.slice a3 n3 c3) (.slice a4 n4 c4) (.slice a5 n5 c5) x6 x7 x8 x9 x10 x11 x25 x26 x27 x28 x29 x30 x31 x32 → a'.eval (.tmp 82) = .bool ((decide ((65536 : Int) < (n1 : Int))) || (decide ((65536 : Int) < (n2 : Int))) || (decide ((65536 : Int) < (n3 : Int))) || (decide ((65536 : Int) < (n4 : Int))) || (decide ((65536 : Int) < (n5 : Int)))) → Q .normal a' wr) : (Reg Try.f7 5).wp Try.prog Q a wr := by
  obtain ⟨u, rfl⟩ := fr7_lit h
  have HQ : Hid (∀ a', Fr7 a' x0 (.slice a1 n1 c1) (.slice a2 n2 c2) (.slice a3 n3 c3) (.slice a4 n4 c4) (.slice a5 n5 c5) x6 x7 x8 x9 x10 x11 x25 x26 x27 x28 x29 x30 x31 x32 → a'.eval (.tmp 82) = .bool ((decide ((65536 : Int) < (n1 : Int))) || (decide ((65536 : Int) < (n2 : Int))) || (decide ((65536 : Int) < (n3 : Int))) || (decide ((65536 : Int) < (n4 : Int))) || (decide ((65536 : Int) < (n5 : Int)))) → Q .normal a' wr) := hQ
  clear hQ h
  conv => arg 2; whnf
  rcases hb1 : (decide ((65536 : Int) < (n1 : Int))) with _ | _
  case true =>
    rw [hb1] at HQ
    go_wp2_with fail
    exact HQ.out _ ⟨rfl, rfl, rfl, rfl, rfl, rfl, rfl, rfl, rfl, rfl, rfl, rfl, rfl, rfl, rfl, rfl, rfl, rfl, rfl, rfl, rfl, rfl⟩ rfl
  rcases hb2 : (decide ((65536 : Int) < (n2 : Int))) with _ | _
  case true =>
    rw [hb1, hb2] at HQ
    go_wp2_with fail
    exact HQ.out _ ⟨rfl, rfl, rfl, rfl, rfl, rfl, rfl, rfl, rfl, rfl, rfl, rfl, rfl, rfl, rfl, rfl, rfl, rfl, rfl, rfl, rfl, rfl⟩ rfl
  rcases hb3 : (decide ((65536 : Int) < (n3 : Int))) with _ | _
  case true =>
    rw [hb1, hb2, hb3] at HQ
    go_wp2_with fail
    exact HQ.out _ ⟨rfl, rfl, rfl, rfl, rfl, rfl, rfl, rfl, rfl, rfl, rfl, rfl, rfl, rfl, rfl, rfl, rfl, rfl, rfl, rfl, rfl, rfl⟩ rfl
  rcases hb4 : (decide ((65536 : Int) < (n4 : Int))) with _ | _
  case true =>
    rw [hb1, hb2, hb3, hb4] at HQ
    go_wp2_with fail
    exact HQ.out _ ⟨rfl, rfl, rfl, rfl, rfl, rfl, rfl, rfl, rfl, rfl, rfl, rfl, rfl, rfl, rfl, rfl, rfl, rfl, rfl, rfl, rfl, rfl⟩ rfl
  rcases hb5 : (decide ((65536 : Int) < (n5 : Int))) with _ | _
  case true =>
    rw [hb1, hb2, hb3, hb4, hb5] at HQ
    go_wp2_with fail
    exact HQ.out _ ⟨rfl, rfl, rfl, rfl, rfl, rfl, rfl, rfl, rfl, rfl, rfl, rfl, rfl, rfl, rfl, rfl, rfl, rfl, rfl, rfl, rfl, rfl⟩ rfl
  rw [hb1, hb2, hb3, hb4, hb5] at HQ
  go_wp2_with fail
  exact HQ.out _ ⟨rfl, rfl, rfl, rfl, rfl, rfl, rfl, rfl, rfl, rfl, rfl, rfl, rfl, rfl, rfl, rfl, rfl, rfl, rfl, rfl, rfl, rfl⟩ rfl

set_option maxHeartbeats 4000000 in
set_option maxRecDepth 100000 in
theorem q7 {Q : Exit → Act → World → Prop} {a : Act} {wr : World} {x7 x8 x9 x10 x25 x26 x27 x28 x29 x30 x31 x32 : Value} (a0 a1 a2 a3 a4 a5 a6 a7 : Option Addr) (n0 c0 n1 c1 n2 c2 n3 c3 n4 c4 n5 c5 n6 c6 n7 c7 : Nat)
    
    (h : Fr7 a (.slice a0 n0 c0) (.slice a1 n1 c1) (.slice a2 n2 c2) (.slice a3 n3 c3) (.slice a4 n4 c4) (.slice a5 n5 c5) (.slice a6 n6 c6) x7 x8 x9 x10 (.slice a7 n7 c7) x25 x26 x27 x28 x29 x30 x31 x32)
    (hQ : ∀ a' b, Fr7 a' (.slice a0 n0 c0) (.slice a1 n1 c1) (.slice a2 n2 c2) (.slice a3 n3 c3) (.slice a4 n4 c4) (.slice a5 n5 c5) (.slice a6 n6 c6) x7 x8 x9 x10 (.slice a7 n7 c7) x25 x26 x27 x28 x29 x30 x31 x32 → a'.eval (.tmp 107) = .bool b → Q .normal a' wr) : (Reg Try.f7 7).wp Try.prog Q a wr := by
  obtain ⟨u, rfl⟩ := fr7_lit h
  have HQ : Hid (∀ a' b, Fr7 a' (.slice a0 n0 c0) (.slice a1 n1 c1) (.slice a2 n2 c2) (.slice a3 n3 c3) (.slice a4 n4 c4) (.slice a5 n5 c5) (.slice a6 n6 c6) x7 x8 x9 x10 (.slice a7 n7 c7) x25 x26 x27 x28 x29 x30 x31 x32 → a'.eval (.tmp 107) = .bool b → Q .normal a' wr) := hQ
  clear hQ h
  conv => arg 2; whnf
  go_wp2_with fail
  exact HQ.out _ _ ⟨rfl, rfl, rfl, rfl, rfl, rfl, rfl, rfl, rfl, rfl, rfl, rfl, rfl, rfl, rfl, rfl, rfl, rfl, rfl, rfl, rfl, rfl⟩ rfl

set_option maxHeartbeats 4000000 in
set_option maxRecDepth 100000 in
theorem q9 {Q : Exit → Act → World → Prop} {a : Act} {wr : World} {x0 x2 x3 x4 x5 x6 x7 x8 x9 x10 x11 x25 x26 x27 x28 x29 x30 x31 x32 : Value} (a1 : Option Addr) (n1 c1 : Nat)
    
    (h : Fr7 a x0 (.slice a1 n1 c1) x2 x3 x4 x5 x6 x7 x8 x9 x10 x11 x25 x26 x27 x28 x29 x30 x31 x32)
    (hQ : ∀ a', Fr7 a' x0 (.slice a1 n1 c1) x2 x3 x4 x5 x6 x7 x8 x9 x10 x11 (.int .i64 n1) x26 x27 x28 x29 x30 x31 x32 → Q .normal a' wr) : (Reg Try.f7 9).wp Try.prog Q a wr := by
  obtain ⟨u, rfl⟩ := fr7_lit h
  have HQ : Hid (∀ a', Fr7 a' x0 (.slice a1 n1 c1) x2 x3 x4 x5 x6 x7 x8 x9 x10 x11 (.int .i64 n1) x26 x27 x28 x29 x30 x31 x32 → Q .normal a' wr) := hQ
  clear hQ h
  conv => arg 2; whnf
  go_wp2_with fail
  exact HQ.out _ ⟨rfl, rfl, rfl, rfl, rfl, rfl, rfl, rfl, rfl, rfl, rfl, rfl, rfl, rfl, rfl, rfl, rfl, rfl, rfl, rfl, rfl, rfl⟩

set_option maxHeartbeats 4000000 in
set_option maxRecDepth 100000 in
theorem q10 {Q : Exit → Act → World → Prop} {a : Act} {wr : World} {x0 x1 x6 x7 x8 x9 x10 x11 x26 x27 x28 x29 x30 x31 x32 : Value} (a2 a3 a4 a5 : Option Addr) (n2 c2 n3 c3 n4 c4 n5 c5 : Nat) (n1 : Nat)
    
    (h : Fr7 a x0 x1 (.slice a2 n2 c2) (.slice a3 n3 c3) (.slice a4 n4 c4) (.slice a5 n5 c5) x6 x7 x8 x9 x10 x11 (.int .i64 n1) x26 x27 x28 x29 x30 x31 x32)
    (hQ : ∀ a', Fr7 a' x0 x1 (.slice a2 n2 c2) (.slice a3 n3 c3) (.slice a4 n4 c4) (.slice a5 n5 c5) x6 x7 x8 x9 x10 x11 (.int .i64 n1) x26 x27 x28 x29 x30 x31 x32 → a'.eval (.tmp 135) = .bool (((n1 : Int) == 0) || ((n2 : Int) != (n1 : Int)) || ((n3 : Int) != (n1 : Int)) || ((n4 : Int) != (n1 : Int)) || ((n5 : Int) != (n1 : Int))) → Q .normal a' wr) : (Reg Try.f7 10).wp Try.prog Q a wr := by
  obtain ⟨u, rfl⟩ := fr7_lit h
  have HQ : Hid (∀ a', Fr7 a' x0 x1 (.slice a2 n2 c2) (.slice a3 n3 c3) (.slice a4 n4 c4) (.slice a5 n5 c5) x6 x7 x8 x9 x10 x11 (.int .i64 n1) x26 x27 x28 x29 x30 x31 x32 → a'.eval (.tmp 135) = .bool (((n1 : Int) == 0) || ((n2 : Int) != (n1 : Int)) || ((n3 : Int) != (n1 : Int)) || ((n4 : Int) != (n1 : Int)) || ((n5 : Int) != (n1 : Int))) → Q .normal a' wr) := hQ
  clear hQ h
  conv => arg 2; whnf
  rcases hb1 : ((n1 : Int) == 0) with _ | _
  case true =>
    rw [hb1] at HQ
    go_wp2_with fail
    exact HQ.out _ ⟨rfl, rfl, rfl, rfl, rfl, rfl, rfl, rfl, rfl, rfl, rfl, rfl, rfl, rfl, rfl, rfl, rfl, rfl, rfl, rfl, rfl, rfl⟩ rfl
  rcases hb2 : ((n2 : Int) != (n1 : Int)) with _ | _
  case true =>
    rw [hb1, hb2] at HQ
    go_wp2_with fail
    exact HQ.out _ ⟨rfl, rfl, rfl, rfl, rfl, rfl, rfl, rfl, rfl, rfl, rfl, rfl, rfl, rfl, rfl, rfl, rfl, rfl, rfl, rfl, rfl, rfl⟩ rfl
  rcases hb3 : ((n3 : Int) != (n1 : Int)) with _ | _
  case true =>
    rw [hb1, hb2, hb3] at HQ
    go_wp2_with fail
    exact HQ.out _ ⟨rfl, rfl, rfl, rfl, rfl, rfl, rfl, rfl, rfl, rfl, rfl, rfl, rfl, rfl, rfl, rfl, rfl, rfl, rfl, rfl, rfl, rfl⟩ rfl
  rcases hb4 : ((n4 : Int) != (n1 : Int)) with _ | _
  case true =>
    rw [hb1, hb2, hb3, hb4] at HQ
    go_wp2_with fail
    exact HQ.out _ ⟨rfl, rfl, rfl, rfl, rfl, rfl, rfl, rfl, rfl, rfl, rfl, rfl, rfl, rfl, rfl, rfl, rfl, rfl, rfl, rfl, rfl, rfl⟩ rfl
  rcases hb5 : ((n5 : Int) != (n1 : Int)) with _ | _
  case true =>
    rw [hb1, hb2, hb3, hb4, hb5] at HQ
    go_wp2_with fail
    exact HQ.out _ ⟨rfl, rfl, rfl, rfl, rfl, rfl, rfl, rfl, rfl, rfl, rfl, rfl, rfl, rfl, rfl, rfl, rfl, rfl, rfl, rfl, rfl, rfl⟩ rfl
  rw [hb1, hb2, hb3, hb4, hb5] at HQ
  go_wp2_with fail
  exact HQ.out _ ⟨rfl, rfl, rfl, rfl, rfl, rfl, rfl, rfl, rfl, rfl, rfl, rfl, rfl, rfl, rfl, rfl, rfl, rfl, rfl, rfl, rfl, rfl⟩ rfl

set_option maxHeartbeats 4000000 in
set_option maxRecDepth 100000 in
theorem q12 {Q : Exit → Act → World → Prop} {a : Act} {wr : World} {x0 x1 x2 x3 x4 x5 x6 x7 x8 x11 x26 x27 x28 x29 x30 x31 x32 : Value} (n1 : Nat) (ki kr : Int)
    
    (h : Fr7 a x0 x1 x2 x3 x4 x5 x6 x7 x8 (.int .i64 ki) (.int .i64 kr) x11 (.int .i64 n1) x26 x27 x28 x29 x30 x31 x32)
    (hQ : ∀ a', Fr7 a' x0 x1 x2 x3 x4 x5 x6 x7 x8 (.int .i64 ki) (.int .i64 kr) x11 (.int .i64 n1) x26 x27 x28 x29 x30 x31 x32 → a'.eval (.tmp 147) = .bool ((kr != ki) || (decide (ki < 0)) || (decide ((n1 : Int) ≤ ki))) → Q .normal a' wr) : (Reg Try.f7 12).wp Try.prog Q a wr := by
  obtain ⟨u, rfl⟩ := fr7_lit h
  have HQ : Hid (∀ a', Fr7 a' x0 x1 x2 x3 x4 x5 x6 x7 x8 (.int .i64 ki) (.int .i64 kr) x11 (.int .i64 n1) x26 x27 x28 x29 x30 x31 x32 → a'.eval (.tmp 147) = .bool ((kr != ki) || (decide (ki < 0)) || (decide ((n1 : Int) ≤ ki))) → Q .normal a' wr) := hQ
  clear hQ h
  conv => arg 2; whnf
  rcases hb1 : (kr != ki) with _ | _
  case true =>
    rw [hb1] at HQ
    go_wp2_with fail
    exact HQ.out _ ⟨rfl, rfl, rfl, rfl, rfl, rfl, rfl, rfl, rfl, rfl, rfl, rfl, rfl, rfl, rfl, rfl, rfl, rfl, rfl, rfl, rfl, rfl⟩ rfl
  rcases hb2 : (decide (ki < 0)) with _ | _
  case true =>
    rw [hb1, hb2] at HQ
    go_wp2_with fail
    exact HQ.out _ ⟨rfl, rfl, rfl, rfl, rfl, rfl, rfl, rfl, rfl, rfl, rfl, rfl, rfl, rfl, rfl, rfl, rfl, rfl, rfl, rfl, rfl, rfl⟩ rfl
  rcases hb3 : (decide ((n1 : Int) ≤ ki)) with _ | _
  case true =>
    rw [hb1, hb2, hb3] at HQ
    go_wp2_with fail
    exact HQ.out _ ⟨rfl, rfl, rfl, rfl, rfl, rfl, rfl, rfl, rfl, rfl, rfl, rfl, rfl, rfl, rfl, rfl, rfl, rfl, rfl, rfl, rfl, rfl⟩ rfl
  rw [hb1, hb2, hb3] at HQ
  go_wp2_with fail
  exact HQ.out _ ⟨rfl, rfl, rfl, rfl, rfl, rfl, rfl, rfl, rfl, rfl, rfl, rfl, rfl, rfl, rfl, rfl, rfl, rfl, rfl, rfl, rfl, rfl⟩ rfl

end Go.Proofs.Qxb6603146a
