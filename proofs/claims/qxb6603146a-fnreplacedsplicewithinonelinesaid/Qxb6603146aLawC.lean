import Derived.Test.Qxb6603146aFrm7
import Derived.Test.Qxb6603146aClones
import Derived.Test.Qxb6603146aBytes
import Derived.Test.Qxb6603146aTiled
namespace Go.Proofs.Qxb6603146a
open Go.RowKit Go.Deep

set_option maxHeartbeats 4000000 in
set_option maxRecDepth 100000 in
theorem q25 {Q : Exit → Act → World → Prop} {a : Act} {wr : World} {x1 x2 x3 x4 x5 x6 x7 x8 x9 x10 x11 x25 x26 x27 x28 x29 x30 x31 x32 : Value} (r : Option Addr) (n c : Nat) (Z : Nat → Int)
    (hn : n ≤ 1048576) (hr : Reads .u8 wr r n Z) (hc : r = none → c = 0)
    (h : Fr7 a (.slice r n c) x1 x2 x3 x4 x5 x6 x7 x8 x9 x10 x11 x25 x26 x27 x28 x29 x30 x31 x32)
    (hQ : ∀ a' r' w', Fr7 a' (.slice r' n n) x1 x2 x3 x4 x5 x6 x7 x8 x9 x10 x11 x25 x26 x27 x28 x29 x30 x31 x32 → Own .u8 5 w' wr.heap.size r' n Z → Below wr.heap.size wr w' → Q .normal a' w') : (Reg Try.f7 25).wp Try.prog Q a wr := by
  obtain ⟨u, rfl⟩ := fr7_lit h
  have HQ : Hid (∀ a' r' w', Fr7 a' (.slice r' n n) x1 x2 x3 x4 x5 x6 x7 x8 x9 x10 x11 x25 x26 x27 x28 x29 x30 x31 x32 → Own .u8 5 w' wr.heap.size r' n Z → Below wr.heap.size wr w' → Q .normal a' w') := hQ
  clear hQ h
  have HR : Hid (Reads .u8 wr r n Z) := hr
  clear hr
  conv => arg 2; whnf
  go_wp2_with fail
  refine (cloneBytes_any r n c Z _ hn HR.out hc).mono ?_
  rintro _ w2 ⟨r', rfl, ho, hb⟩
  have HO : Hid (Own .u8 5 w2 wr.heap.size r' n Z ∧ Below wr.heap.size wr w2) := ⟨ho, hb⟩
  clear ho hb
  go_wp2_with fail
  exact HQ.out _ r' w2 ⟨rfl, rfl, rfl, rfl, rfl, rfl, rfl, rfl, rfl, rfl, rfl, rfl, rfl, rfl, rfl, rfl, rfl, rfl, rfl, rfl, rfl, rfl⟩ HO.out.1 HO.out.2

set_option maxHeartbeats 4000000 in
set_option maxRecDepth 100000 in
theorem q26 {Q : Exit → Act → World → Prop} {a : Act} {wr : World} {x0 x2 x3 x4 x5 x6 x7 x8 x9 x10 x11 x25 x26 x27 x28 x29 x30 x31 x32 : Value} (r : Option Addr) (n c : Nat) (Z : Nat → Int)
    (hn : n ≤ 1048576) (hr : Reads .i64 wr r n Z) (hc : r = none → c = 0)
    (h : Fr7 a x0 (.slice r n c) x2 x3 x4 x5 x6 x7 x8 x9 x10 x11 x25 x26 x27 x28 x29 x30 x31 x32)
    (hQ : ∀ a' r' w', Fr7 a' x0 (.slice r' n n) x2 x3 x4 x5 x6 x7 x8 x9 x10 x11 x25 x26 x27 x28 x29 x30 x31 x32 → Own .i64 3 w' wr.heap.size r' n Z → Below wr.heap.size wr w' → Q .normal a' w') : (Reg Try.f7 26).wp Try.prog Q a wr := by
  obtain ⟨u, rfl⟩ := fr7_lit h
  have HQ : Hid (∀ a' r' w', Fr7 a' x0 (.slice r' n n) x2 x3 x4 x5 x6 x7 x8 x9 x10 x11 x25 x26 x27 x28 x29 x30 x31 x32 → Own .i64 3 w' wr.heap.size r' n Z → Below wr.heap.size wr w' → Q .normal a' w') := hQ
  clear hQ h
  have HR : Hid (Reads .i64 wr r n Z) := hr
  clear hr
  conv => arg 2; whnf
  go_wp2_with fail
  refine (cloneInts_any r n c Z _ hn HR.out hc).mono ?_
  rintro _ w2 ⟨r', rfl, ho, hb⟩
  have HO : Hid (Own .i64 3 w2 wr.heap.size r' n Z ∧ Below wr.heap.size wr w2) := ⟨ho, hb⟩
  clear ho hb
  go_wp2_with fail
  exact HQ.out _ r' w2 ⟨rfl, rfl, rfl, rfl, rfl, rfl, rfl, rfl, rfl, rfl, rfl, rfl, rfl, rfl, rfl, rfl, rfl, rfl, rfl, rfl, rfl, rfl⟩ HO.out.1 HO.out.2

set_option maxHeartbeats 4000000 in
set_option maxRecDepth 100000 in
theorem q27 {Q : Exit → Act → World → Prop} {a : Act} {wr : World} {x0 x1 x3 x4 x5 x6 x7 x8 x9 x10 x11 x25 x26 x27 x28 x29 x30 x31 x32 : Value} (r : Option Addr) (n c : Nat) (Z : Nat → Int)
    (hn : n ≤ 1048576) (hr : Reads .i64 wr r n Z) (hc : r = none → c = 0)
    (h : Fr7 a x0 x1 (.slice r n c) x3 x4 x5 x6 x7 x8 x9 x10 x11 x25 x26 x27 x28 x29 x30 x31 x32)
    (hQ : ∀ a' r' w', Fr7 a' x0 x1 (.slice r' n n) x3 x4 x5 x6 x7 x8 x9 x10 x11 x25 x26 x27 x28 x29 x30 x31 x32 → Own .i64 3 w' wr.heap.size r' n Z → Below wr.heap.size wr w' → Q .normal a' w') : (Reg Try.f7 27).wp Try.prog Q a wr := by
  obtain ⟨u, rfl⟩ := fr7_lit h
  have HQ : Hid (∀ a' r' w', Fr7 a' x0 x1 (.slice r' n n) x3 x4 x5 x6 x7 x8 x9 x10 x11 x25 x26 x27 x28 x29 x30 x31 x32 → Own .i64 3 w' wr.heap.size r' n Z → Below wr.heap.size wr w' → Q .normal a' w') := hQ
  clear hQ h
  have HR : Hid (Reads .i64 wr r n Z) := hr
  clear hr
  conv => arg 2; whnf
  go_wp2_with fail
  refine (cloneInts_any r n c Z _ hn HR.out hc).mono ?_
  rintro _ w2 ⟨r', rfl, ho, hb⟩
  have HO : Hid (Own .i64 3 w2 wr.heap.size r' n Z ∧ Below wr.heap.size wr w2) := ⟨ho, hb⟩
  clear ho hb
  go_wp2_with fail
  exact HQ.out _ r' w2 ⟨rfl, rfl, rfl, rfl, rfl, rfl, rfl, rfl, rfl, rfl, rfl, rfl, rfl, rfl, rfl, rfl, rfl, rfl, rfl, rfl, rfl, rfl⟩ HO.out.1 HO.out.2

set_option maxHeartbeats 4000000 in
set_option maxRecDepth 100000 in
theorem q28 {Q : Exit → Act → World → Prop} {a : Act} {wr : World} {x0 x1 x2 x4 x5 x6 x7 x8 x9 x10 x11 x25 x26 x27 x28 x29 x30 x31 x32 : Value} (r : Option Addr) (n c : Nat) (Z : Nat → Int)
    (hn : n ≤ 1048576) (hr : Reads .i64 wr r n Z) (hc : r = none → c = 0)
    (h : Fr7 a x0 x1 x2 (.slice r n c) x4 x5 x6 x7 x8 x9 x10 x11 x25 x26 x27 x28 x29 x30 x31 x32)
    (hQ : ∀ a' r' w', Fr7 a' x0 x1 x2 (.slice r' n n) x4 x5 x6 x7 x8 x9 x10 x11 x25 x26 x27 x28 x29 x30 x31 x32 → Own .i64 3 w' wr.heap.size r' n Z → Below wr.heap.size wr w' → Q .normal a' w') : (Reg Try.f7 28).wp Try.prog Q a wr := by
  obtain ⟨u, rfl⟩ := fr7_lit h
  have HQ : Hid (∀ a' r' w', Fr7 a' x0 x1 x2 (.slice r' n n) x4 x5 x6 x7 x8 x9 x10 x11 x25 x26 x27 x28 x29 x30 x31 x32 → Own .i64 3 w' wr.heap.size r' n Z → Below wr.heap.size wr w' → Q .normal a' w') := hQ
  clear hQ h
  have HR : Hid (Reads .i64 wr r n Z) := hr
  clear hr
  conv => arg 2; whnf
  go_wp2_with fail
  refine (cloneInts_any r n c Z _ hn HR.out hc).mono ?_
  rintro _ w2 ⟨r', rfl, ho, hb⟩
  have HO : Hid (Own .i64 3 w2 wr.heap.size r' n Z ∧ Below wr.heap.size wr w2) := ⟨ho, hb⟩
  clear ho hb
  go_wp2_with fail
  exact HQ.out _ r' w2 ⟨rfl, rfl, rfl, rfl, rfl, rfl, rfl, rfl, rfl, rfl, rfl, rfl, rfl, rfl, rfl, rfl, rfl, rfl, rfl, rfl, rfl, rfl⟩ HO.out.1 HO.out.2

set_option maxHeartbeats 4000000 in
set_option maxRecDepth 100000 in
theorem q29 {Q : Exit → Act → World → Prop} {a : Act} {wr : World} {x0 x1 x2 x3 x5 x6 x7 x8 x9 x10 x11 x25 x26 x27 x28 x29 x30 x31 x32 : Value} (r : Option Addr) (n c : Nat) (Z : Nat → Int)
    (hn : n ≤ 1048576) (hr : Reads .i64 wr r n Z) (hc : r = none → c = 0)
    (h : Fr7 a x0 x1 x2 x3 (.slice r n c) x5 x6 x7 x8 x9 x10 x11 x25 x26 x27 x28 x29 x30 x31 x32)
    (hQ : ∀ a' r' w', Fr7 a' x0 x1 x2 x3 (.slice r' n n) x5 x6 x7 x8 x9 x10 x11 x25 x26 x27 x28 x29 x30 x31 x32 → Own .i64 3 w' wr.heap.size r' n Z → Below wr.heap.size wr w' → Q .normal a' w') : (Reg Try.f7 29).wp Try.prog Q a wr := by
  obtain ⟨u, rfl⟩ := fr7_lit h
  have HQ : Hid (∀ a' r' w', Fr7 a' x0 x1 x2 x3 (.slice r' n n) x5 x6 x7 x8 x9 x10 x11 x25 x26 x27 x28 x29 x30 x31 x32 → Own .i64 3 w' wr.heap.size r' n Z → Below wr.heap.size wr w' → Q .normal a' w') := hQ
  clear hQ h
  have HR : Hid (Reads .i64 wr r n Z) := hr
  clear hr
  conv => arg 2; whnf
  go_wp2_with fail
  refine (cloneInts_any r n c Z _ hn HR.out hc).mono ?_
  rintro _ w2 ⟨r', rfl, ho, hb⟩
  have HO : Hid (Own .i64 3 w2 wr.heap.size r' n Z ∧ Below wr.heap.size wr w2) := ⟨ho, hb⟩
  clear ho hb
  go_wp2_with fail
  exact HQ.out _ r' w2 ⟨rfl, rfl, rfl, rfl, rfl, rfl, rfl, rfl, rfl, rfl, rfl, rfl, rfl, rfl, rfl, rfl, rfl, rfl, rfl, rfl, rfl, rfl⟩ HO.out.1 HO.out.2

set_option maxHeartbeats 4000000 in
set_option maxRecDepth 100000 in
theorem q30 {Q : Exit → Act → World → Prop} {a : Act} {wr : World} {x0 x1 x2 x3 x4 x6 x7 x8 x9 x10 x11 x25 x26 x27 x28 x29 x30 x31 x32 : Value} (r : Option Addr) (n c : Nat) (Z : Nat → Int)
    (hn : n ≤ 1048576) (hr : Reads .i64 wr r n Z) (hc : r = none → c = 0)
    (h : Fr7 a x0 x1 x2 x3 x4 (.slice r n c) x6 x7 x8 x9 x10 x11 x25 x26 x27 x28 x29 x30 x31 x32)
    (hQ : ∀ a' r' w', Fr7 a' x0 x1 x2 x3 x4 (.slice r' n n) x6 x7 x8 x9 x10 x11 x25 x26 x27 x28 x29 x30 x31 x32 → Own .i64 3 w' wr.heap.size r' n Z → Below wr.heap.size wr w' → Q .normal a' w') : (Reg Try.f7 30).wp Try.prog Q a wr := by
  obtain ⟨u, rfl⟩ := fr7_lit h
  have HQ : Hid (∀ a' r' w', Fr7 a' x0 x1 x2 x3 x4 (.slice r' n n) x6 x7 x8 x9 x10 x11 x25 x26 x27 x28 x29 x30 x31 x32 → Own .i64 3 w' wr.heap.size r' n Z → Below wr.heap.size wr w' → Q .normal a' w') := hQ
  clear hQ h
  have HR : Hid (Reads .i64 wr r n Z) := hr
  clear hr
  conv => arg 2; whnf
  go_wp2_with fail
  refine (cloneInts_any r n c Z _ hn HR.out hc).mono ?_
  rintro _ w2 ⟨r', rfl, ho, hb⟩
  have HO : Hid (Own .i64 3 w2 wr.heap.size r' n Z ∧ Below wr.heap.size wr w2) := ⟨ho, hb⟩
  clear ho hb
  go_wp2_with fail
  exact HQ.out _ r' w2 ⟨rfl, rfl, rfl, rfl, rfl, rfl, rfl, rfl, rfl, rfl, rfl, rfl, rfl, rfl, rfl, rfl, rfl, rfl, rfl, rfl, rfl, rfl⟩ HO.out.1 HO.out.2

set_option maxHeartbeats 4000000 in
set_option maxRecDepth 100000 in
theorem q31 {Q : Exit → Act → World → Prop} {a : Act} {wr : World} {x0 x1 x2 x3 x4 x5 x7 x8 x9 x10 x11 x25 x26 x27 x28 x29 x30 x31 x32 : Value} (r : Option Addr) (n c : Nat) (Z : Nat → Int)
    (hn : n ≤ 1048576) (hr : Reads .u8 wr r n Z) (hc : r = none → c = 0)
    (h : Fr7 a x0 x1 x2 x3 x4 x5 (.slice r n c) x7 x8 x9 x10 x11 x25 x26 x27 x28 x29 x30 x31 x32)
    (hQ : ∀ a' r' w', Fr7 a' x0 x1 x2 x3 x4 x5 (.slice r' n n) x7 x8 x9 x10 x11 x25 x26 x27 x28 x29 x30 x31 x32 → Own .u8 5 w' wr.heap.size r' n Z → Below wr.heap.size wr w' → Q .normal a' w') : (Reg Try.f7 31).wp Try.prog Q a wr := by
  obtain ⟨u, rfl⟩ := fr7_lit h
  have HQ : Hid (∀ a' r' w', Fr7 a' x0 x1 x2 x3 x4 x5 (.slice r' n n) x7 x8 x9 x10 x11 x25 x26 x27 x28 x29 x30 x31 x32 → Own .u8 5 w' wr.heap.size r' n Z → Below wr.heap.size wr w' → Q .normal a' w') := hQ
  clear hQ h
  have HR : Hid (Reads .u8 wr r n Z) := hr
  clear hr
  conv => arg 2; whnf
  go_wp2_with fail
  refine (cloneBytes_any r n c Z _ hn HR.out hc).mono ?_
  rintro _ w2 ⟨r', rfl, ho, hb⟩
  have HO : Hid (Own .u8 5 w2 wr.heap.size r' n Z ∧ Below wr.heap.size wr w2) := ⟨ho, hb⟩
  clear ho hb
  go_wp2_with fail
  exact HQ.out _ r' w2 ⟨rfl, rfl, rfl, rfl, rfl, rfl, rfl, rfl, rfl, rfl, rfl, rfl, rfl, rfl, rfl, rfl, rfl, rfl, rfl, rfl, rfl, rfl⟩ HO.out.1 HO.out.2

set_option maxHeartbeats 4000000 in
set_option maxRecDepth 100000 in
theorem q32 {Q : Exit → Act → World → Prop} {a : Act} {wr : World} {x0 x1 x2 x3 x4 x5 x6 x7 x8 x9 x10 x25 x26 x27 x28 x29 x30 x31 x32 : Value} (r : Option Addr) (n c : Nat) (Z : Nat → Int)
    (hn : n ≤ 1048576) (hr : Reads .u8 wr r n Z) (hc : r = none → c = 0)
    (h : Fr7 a x0 x1 x2 x3 x4 x5 x6 x7 x8 x9 x10 (.slice r n c) x25 x26 x27 x28 x29 x30 x31 x32)
    (hQ : ∀ a' r' w', Fr7 a' x0 x1 x2 x3 x4 x5 x6 x7 x8 x9 x10 (.slice r' n n) x25 x26 x27 x28 x29 x30 x31 x32 → Own .u8 5 w' wr.heap.size r' n Z → Below wr.heap.size wr w' → Q .normal a' w') : (Reg Try.f7 32).wp Try.prog Q a wr := by
  obtain ⟨u, rfl⟩ := fr7_lit h
  have HQ : Hid (∀ a' r' w', Fr7 a' x0 x1 x2 x3 x4 x5 x6 x7 x8 x9 x10 (.slice r' n n) x25 x26 x27 x28 x29 x30 x31 x32 → Own .u8 5 w' wr.heap.size r' n Z → Below wr.heap.size wr w' → Q .normal a' w') := hQ
  clear hQ h
  have HR : Hid (Reads .u8 wr r n Z) := hr
  clear hr
  conv => arg 2; whnf
  go_wp2_with fail
  refine (cloneBytes_any r n c Z _ hn HR.out hc).mono ?_
  rintro _ w2 ⟨r', rfl, ho, hb⟩
  have HO : Hid (Own .u8 5 w2 wr.heap.size r' n Z ∧ Below wr.heap.size wr w2) := ⟨ho, hb⟩
  clear ho hb
  go_wp2_with fail
  exact HQ.out _ r' w2 ⟨rfl, rfl, rfl, rfl, rfl, rfl, rfl, rfl, rfl, rfl, rfl, rfl, rfl, rfl, rfl, rfl, rfl, rfl, rfl, rfl, rfl, rfl⟩ HO.out.1 HO.out.2

set_option maxHeartbeats 4000000 in
set_option maxRecDepth 100000 in
theorem q33 {Q : Exit → Act → World → Prop} {a : Act} {wr : World} {x0 x1 x2 x3 x4 x5 x6 x7 x8 x9 x10 x11 x25 x26 x27 x28 x29 x30 x31 x32 : Value} (G : Value → World → Prop)
    (hc : Calls Try.prog 21 #[x0, x1, x2, x3, x4, x5, x6, x7, x8, x9, x10, x11] wr (fun e w' => ∃ v, e = .returned v ∧ G v w'))
    (h : Fr7 a x0 x1 x2 x3 x4 x5 x6 x7 x8 x9 x10 x11 x25 x26 x27 x28 x29 x30 x31 x32)
    (hQ : ∀ a' v w', Fr7 a' x0 x1 x2 x3 x4 x5 x6 x7 x8 x9 x10 x11 x25 x26 x27 x28 v x30 x31 x32 → G v w' → Q .normal a' w') : (Reg Try.f7 33).wp Try.prog Q a wr := by
  obtain ⟨u, rfl⟩ := fr7_lit h
  have HQ : Hid (∀ a' v w', Fr7 a' x0 x1 x2 x3 x4 x5 x6 x7 x8 x9 x10 x11 x25 x26 x27 x28 v x30 x31 x32 → G v w' → Q .normal a' w') := hQ
  clear hQ h
  have HC : Hid (Calls Try.prog 21 #[x0, x1, x2, x3, x4, x5, x6, x7, x8, x9, x10, x11] wr (fun e w' => ∃ v, e = .returned v ∧ G v w')) := hc
  clear hc
  conv => arg 2; whnf
  go_wp2_with fail
  refine HC.out.mono ?_
  rintro _ w2 ⟨v, rfl, ho⟩
  have HO : Hid (G v w2) := ho
  clear ho HC
  go_wp2_with fail
  exact HQ.out _ v w2 ⟨rfl, rfl, rfl, rfl, rfl, rfl, rfl, rfl, rfl, rfl, rfl, rfl, rfl, rfl, rfl, rfl, rfl, rfl, rfl, rfl, rfl, rfl⟩ HO.out

set_option maxHeartbeats 4000000 in
set_option maxRecDepth 100000 in
theorem q34 {Q : Exit → Act → World → Prop} {a : Act} {wr : World} {x0 x1 x2 x3 x4 x5 x6 x7 x8 x9 x10 x11 x25 x26 x27 x28 x29 x30 x31 x32 : Value} 
    
    (h : Fr7 a x0 x1 x2 x3 x4 x5 x6 x7 x8 x9 x10 x11 x25 x26 x27 x28 x29 x30 x31 x32)
    (hQ : ∀ a', Fr7 a' x0 x1 x2 x3 x4 x5 x6 x7 x8 x9 x10 x11 x25 x26 x27 x28 x29 (.slice none 0 0) x31 x32 → Q .normal a' wr) : (Reg Try.f7 34).wp Try.prog Q a wr := by
  obtain ⟨u, rfl⟩ := fr7_lit h
  have HQ : Hid (∀ a', Fr7 a' x0 x1 x2 x3 x4 x5 x6 x7 x8 x9 x10 x11 x25 x26 x27 x28 x29 (.slice none 0 0) x31 x32 → Q .normal a' wr) := hQ
  clear hQ h
  conv => arg 2; whnf
  go_wp2_with fail
  exact HQ.out _ ⟨rfl, rfl, rfl, rfl, rfl, rfl, rfl, rfl, rfl, rfl, rfl, rfl, rfl, rfl, rfl, rfl, rfl, rfl, rfl, rfl, rfl, rfl⟩

set_option maxHeartbeats 4000000 in
set_option maxRecDepth 100000 in
theorem q35 {Q : Exit → Act → World → Prop} {a : Act} {wr : World} {x0 x1 x2 x3 x4 x5 x6 x7 x8 x9 x10 x11 x25 x26 x27 x29 x30 x31 x32 : Value} (em : Bool)
    
    (h : Fr7 a x0 x1 x2 x3 x4 x5 x6 x7 x8 x9 x10 x11 x25 x26 x27 (.bool em) x29 x30 x31 x32)
    (hQ : ∀ a', Fr7 a' x0 x1 x2 x3 x4 x5 x6 x7 x8 x9 x10 x11 x25 x26 x27 (.bool em) x29 x30 x31 x32 → a'.eval (.tmp 254) = .bool em → Q .normal a' wr) : (Reg Try.f7 35).wp Try.prog Q a wr := by
  obtain ⟨u, rfl⟩ := fr7_lit h
  have HQ : Hid (∀ a', Fr7 a' x0 x1 x2 x3 x4 x5 x6 x7 x8 x9 x10 x11 x25 x26 x27 (.bool em) x29 x30 x31 x32 → a'.eval (.tmp 254) = .bool em → Q .normal a' wr) := hQ
  clear hQ h
  conv => arg 2; whnf
  go_wp2_with fail
  exact HQ.out _ ⟨rfl, rfl, rfl, rfl, rfl, rfl, rfl, rfl, rfl, rfl, rfl, rfl, rfl, rfl, rfl, rfl, rfl, rfl, rfl, rfl, rfl, rfl⟩ rfl

set_option maxHeartbeats 4000000 in
set_option maxRecDepth 100000 in
theorem q36 {Q : Exit → Act → World → Prop} {a : Act} {wr : World} {x2 x3 x5 x6 x7 x8 x10 x11 x25 x26 x27 x28 x29 x30 x31 x32 : Value} (t0 : Option Addr) (n0 b1 o1 b4 o4 n c1 c4 k : Nat) (s0 pp : Nat) (r1 : Option Addr) (k1 : Nat) (r2 : Option Addr) (m2 k2 : Nat) (G : Value → World → Prop)
    (h1 : wr.cell? ⟨b1, o1 + k, none⟩ = some (.int .i64 s0)) (h4 : wr.cell? ⟨b4, o4 + k, none⟩ = some (.int .i64 pp)) (hk : (k : Int) < (n : Int)) (f1 : b1 < wr.heap.size) (f4 : b4 < wr.heap.size)
    (hs1 : ∀ w', (Instr.slice 22 (.slice t0 n0 n0) none (some (.int .i64 (s0 : Int))) none).run Try.prog w' = .ok (.slice r1 s0 k1) w')
    (hs2 : ∀ w', (Instr.slice 22 (.slice t0 n0 n0) (some (.int .i64 (pp : Int))) none none).run Try.prog w' = .ok (.slice r2 m2 k2) w')
    (hc : Calls Try.prog 22 #[.slice r1 s0 k1, .slice none 0 0, .slice r2 m2 k2] wr.drew (fun e w' => ∃ v, e = .returned v ∧ G v w' ∧ Below wr.heap.size wr w'))
    (h : Fr7 a (.slice t0 n0 n0) (.slice (some ⟨b1, o1, none⟩) n c1) x2 x3 (.slice (some ⟨b4, o4, none⟩) n c4) x5 x6 x7 x8 (.int .i64 k) x10 x11 x25 x26 x27 x28 x29 x30 x31 x32)
    (hQ : ∀ a' v w', Fr7 a' (.slice t0 n0 n0) (.slice (some ⟨b1, o1, none⟩) n c1) x2 x3 (.slice (some ⟨b4, o4, none⟩) n c4) x5 x6 x7 x8 (.int .i64 k) x10 x11 x25 x26 x27 x28 x29 v x31 x32 → G v w' → Below wr.heap.size wr w' → Q .normal a' w') : (Reg Try.f7 36).wp Try.prog Q a wr := by
  obtain ⟨u, rfl⟩ := fr7_lit h
  have HQ : Hid (∀ a' v w', Fr7 a' (.slice t0 n0 n0) (.slice (some ⟨b1, o1, none⟩) n c1) x2 x3 (.slice (some ⟨b4, o4, none⟩) n c4) x5 x6 x7 x8 (.int .i64 k) x10 x11 x25 x26 x27 x28 x29 v x31 x32 → G v w' → Below wr.heap.size wr w' → Q .normal a' w') := hQ
  clear hQ h
  have HC : Hid (Calls Try.prog 22 #[.slice r1 s0 k1, .slice none 0 0, .slice r2 m2 k2] wr.drew (fun e w' => ∃ v, e = .returned v ∧ G v w' ∧ Below wr.heap.size wr w')) := hc
  have HF : Hid (b1 < wr.heap.size ∧ b4 < wr.heap.size) := ⟨f1, f4⟩
  clear hc f1 f4
  conv => arg 2; whnf
  go_region_held3 (fun w' => w'.cell? ⟨b1, o1 + k, none⟩ = some (.int .i64 s0) ∧ w'.cell? ⟨b4, o4 + k, none⟩ = some (.int .i64 pp))
    (first | with_reducible exact ⟨h1, h4⟩ | with_reducible exact ⟨dr h1, dr h4⟩ | exact ⟨(hb3.cell (p := ⟨b1, o1 + k, none⟩) HF.out.1).trans h1, (hb3.cell (p := ⟨b4, o4 + k, none⟩) HF.out.2).trans h4⟩)
    (first | (go_at_call 22; refine HC.out.mono ?_; rintro e w3 ⟨v, rfl, hG, hb3⟩))
  exact HQ.out _ v w3 ⟨rfl, rfl, rfl, rfl, rfl, rfl, rfl, rfl, rfl, rfl, rfl, rfl, rfl, rfl, rfl, rfl, rfl, rfl, rfl, rfl, rfl, rfl⟩ hG hb3

set_option maxHeartbeats 4000000 in
set_option maxRecDepth 100000 in
theorem q37 {Q : Exit → Act → World → Prop} {a : Act} {wr : World} {x0 x1 x3 x4 x5 x6 x8 x10 x11 x25 x27 x28 x29 x30 x31 x32 : Value} (b o n c2 k : Nat) (F : Nat → Int) (at_ cf : Int) (p0 : Nat)
    (hc : wr.cell? ⟨b, o + k, none⟩ = some (.int .i64 (F k))) (hk : (k : Int) < (n : Int)) (bf : 0 ≤ F k ∧ F k ≤ 1048576) (bt : 0 ≤ cf ∧ cf ≤ 1073741824) (hq : F k + cf - at_ = (p0 : Int)) (hqs : p0 ≤ 8388608)
    (h : Fr7 a x0 x1 (.slice (some ⟨b, o, none⟩) n c2) x3 x4 x5 x6 (.int .i64 cf) x8 (.int .i64 k) x10 x11 x25 (.int .i64 at_) x27 x28 x29 x30 x31 x32)
    (hQ : ∀ a', Fr7 a' x0 x1 (.slice (some ⟨b, o, none⟩) n c2) x3 x4 x5 x6 (.int .i64 cf) x8 (.int .i64 k) x10 x11 x25 (.int .i64 at_) x27 x28 x29 x30 (.int .i64 p0) x32 → Q .normal a' wr) : (Reg Try.f7 37).wp Try.prog Q a wr := by
  obtain ⟨u, rfl⟩ := fr7_lit h
  have HQ : Hid (∀ a', Fr7 a' x0 x1 (.slice (some ⟨b, o, none⟩) n c2) x3 x4 x5 x6 (.int .i64 cf) x8 (.int .i64 k) x10 x11 x25 (.int .i64 at_) x27 x28 x29 x30 (.int .i64 p0) x32 → Q .normal a' wr) := hQ
  clear hQ h
  have e1 : IntKind.i64.wrap (F k + cf) = F k + cf := IntWalk.i64_in _ (by omega)
  have e2 : IntKind.i64.wrap (F k + cf - at_) = (p0 : Int) := by rw [hq]; exact IntWalk.i64_in _ (by omega)
  clear hq bf bt
  conv => arg 2; whnf
  go_wp2_with fail
  exact HQ.out _ ⟨rfl, rfl, rfl, rfl, rfl, rfl, rfl, rfl, rfl, rfl, rfl, rfl, rfl, rfl, rfl, rfl, rfl, rfl, rfl, rfl, rfl, rfl⟩

set_option maxHeartbeats 4000000 in
set_option maxRecDepth 100000 in
theorem q38 {Q : Exit → Act → World → Prop} {a : Act} {wr : World} {x0 x1 x3 x4 x5 x6 x7 x10 x11 x25 x27 x28 x29 x30 x31 x32 : Value} (b o n c2 k : Nat) (F : Nat → Int) (at_ ct : Int) (q : Nat)
    (hc : wr.cell? ⟨b, o + k, none⟩ = some (.int .i64 (F k))) (hk : (k : Int) < (n : Int)) (bf : 0 ≤ F k ∧ F k ≤ 1048576) (bt : 0 ≤ ct ∧ ct ≤ 1073741824) (hq : F k + ct - at_ = (q : Int)) (hqs : q ≤ 8388608)
    (h : Fr7 a x0 x1 (.slice (some ⟨b, o, none⟩) n c2) x3 x4 x5 x6 x7 (.int .i64 ct) (.int .i64 k) x10 x11 x25 (.int .i64 at_) x27 x28 x29 x30 x31 x32)
    (hQ : ∀ a', Fr7 a' x0 x1 (.slice (some ⟨b, o, none⟩) n c2) x3 x4 x5 x6 x7 (.int .i64 ct) (.int .i64 k) x10 x11 x25 (.int .i64 at_) x27 x28 x29 x30 x31 (.int .i64 q) → Q .normal a' wr) : (Reg Try.f7 38).wp Try.prog Q a wr := by
  obtain ⟨u, rfl⟩ := fr7_lit h
  have HQ : Hid (∀ a', Fr7 a' x0 x1 (.slice (some ⟨b, o, none⟩) n c2) x3 x4 x5 x6 x7 (.int .i64 ct) (.int .i64 k) x10 x11 x25 (.int .i64 at_) x27 x28 x29 x30 x31 (.int .i64 q) → Q .normal a' wr) := hQ
  clear hQ h
  have e1 : IntKind.i64.wrap (F k + ct) = F k + ct := IntWalk.i64_in _ (by omega)
  have e2 : IntKind.i64.wrap (F k + ct - at_) = (q : Int) := by rw [hq]; exact IntWalk.i64_in _ (by omega)
  clear hq bf bt
  conv => arg 2; whnf
  go_wp2_with fail
  exact HQ.out _ ⟨rfl, rfl, rfl, rfl, rfl, rfl, rfl, rfl, rfl, rfl, rfl, rfl, rfl, rfl, rfl, rfl, rfl, rfl, rfl, rfl, rfl, rfl⟩

set_option maxHeartbeats 4000000 in
set_option maxRecDepth 100000 in
theorem q39 {Q : Exit → Act → World → Prop} {a : Act} {wr : World} {x1 x2 x3 x4 x5 x6 x7 x8 x9 x10 x11 x25 x26 x27 x28 x29 x30 : Value} (t0 : Option Addr) (n0 p0 q : Nat) (r1 : Option Addr) (k1 : Nat) (r2 : Option Addr) (m2 k2 : Nat) (G : Value → World → Prop)
    (hs1 : ∀ w', (Instr.slice 22 (.slice t0 n0 n0) none (some (.int .i64 (p0 : Int))) none).run Try.prog w' = .ok (.slice r1 p0 k1) w')
    (hs2 : ∀ w', (Instr.slice 22 (.slice t0 n0 n0) (some (.int .i64 (q : Int))) none none).run Try.prog w' = .ok (.slice r2 m2 k2) w')
    (hc : Calls Try.prog 22 #[.slice r1 p0 k1, x11, .slice r2 m2 k2] wr.drew (fun e w' => ∃ v, e = .returned v ∧ G v w' ∧ Below wr.heap.size wr w'))
    (h : Fr7 a (.slice t0 n0 n0) x1 x2 x3 x4 x5 x6 x7 x8 x9 x10 x11 x25 x26 x27 x28 x29 x30 (.int .i64 p0) (.int .i64 q))
    (hQ : ∀ a' v w', Fr7 a' (.slice t0 n0 n0) x1 x2 x3 x4 x5 x6 x7 x8 x9 x10 x11 x25 x26 x27 x28 x29 v (.int .i64 p0) (.int .i64 q) → G v w' → Below wr.heap.size wr w' → Q .normal a' w') : (Reg Try.f7 39).wp Try.prog Q a wr := by
  obtain ⟨u, rfl⟩ := fr7_lit h
  have HQ : Hid (∀ a' v w', Fr7 a' (.slice t0 n0 n0) x1 x2 x3 x4 x5 x6 x7 x8 x9 x10 x11 x25 x26 x27 x28 x29 v (.int .i64 p0) (.int .i64 q) → G v w' → Below wr.heap.size wr w' → Q .normal a' w') := hQ
  clear hQ h
  have HC : Hid (Calls Try.prog 22 #[.slice r1 p0 k1, x11, .slice r2 m2 k2] wr.drew (fun e w' => ∃ v, e = .returned v ∧ G v w' ∧ Below wr.heap.size wr w')) := hc
  clear hc
  conv => arg 2; whnf
  go_region_held3 (fun _ => True)
    (exact trivial)
    (first | (go_at_call 22; refine HC.out.mono ?_; rintro e w3 ⟨v, rfl, hG, hb3⟩))
  exact HQ.out _ v w3 ⟨rfl, rfl, rfl, rfl, rfl, rfl, rfl, rfl, rfl, rfl, rfl, rfl, rfl, rfl, rfl, rfl, rfl, rfl, rfl, rfl, rfl, rfl⟩ hG hb3

set_option maxHeartbeats 4000000 in
set_option maxRecDepth 100000 in
theorem q40 {a : Act} {wr : World} {x0 x1 x2 x3 x4 x5 x6 x7 x8 x9 x10 x11 x25 x26 x27 x28 x31 x32 : Value} {Q : Ending → World → Prop} (ra : Option Addr) (n ca : Nat) (rb : Option Addr) (cb : Nat) (Z : Nat → Int) (hn : n ≤ 4194304) (ha : Reads .u8 wr ra n Z) (hb : Reads .u8 wr rb n Z)
    (h : Fr7 a x0 x1 x2 x3 x4 x5 x6 x7 x8 x9 x10 x11 x25 x26 x27 x28 (.slice ra n ca) (.slice rb n cb) x31 x32) (hQ : ∀ m, Q (.returned (.bool true)) (wr.drewN m)) : ((Reg Try.f7 40).seq .ret).wp Try.prog (bodyPost Try.prog Try.f7 Q) a wr := by
  obtain ⟨u, rfl⟩ := fr7_lit h
  have HQ : Hid (∀ m, Q (.returned (.bool true)) (wr.drewN m)) := hQ
  have HR : Hid (Reads .u8 wr ra n Z ∧ Reads .u8 wr rb n Z) := ⟨ha, hb⟩
  clear hQ h ha hb
  conv =>
    arg 2
    arg 1
    whnf
  go_wp2_with fail
  refine (equal23 ra n ca Z rb cb _ hn HR.out.1 HR.out.2).mono ?_
  rintro _ w2 ⟨rfl, m, hw2⟩
  subst w2
  go_wp2_with fail
  exact HQ.out m
end Go.Proofs.Qxb6603146a
