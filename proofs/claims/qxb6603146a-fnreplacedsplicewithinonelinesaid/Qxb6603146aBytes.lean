import Derived.Test.Qxb6603146aRows
import Derived.Test.Qxb6603146aKit
namespace Go.Proofs.Qxb6603146a
open Go.RowKit Go.Deep

/-- What the bound on the lengths says. -/
def Sum8 (v : Bool) (n0 n1 n2 n3 n4 n5 n6 n7 : Nat) : Prop := v = true → n0 + n1 + n2 + n3 + n4 + n5 + n6 + n7 ≤ 1048576

set_option maxHeartbeats 4000000 in
set_option maxRecDepth 100000 in
theorem zzBytes18 (a0 a1 a2 a3 a4 a5 a6 a7 : Option Addr) (n0 n1 n2 n3 n4 n5 n6 n7 c0 c1 c2 c3 c4 c5 c6 c7 : Nat) (x y z u : Int) (w : World)
    (h0 : n0 ≤ maxLen) (h1 : n1 ≤ maxLen) (h2 : n2 ≤ maxLen) (h3 : n3 ≤ maxLen) (h4 : n4 ≤ maxLen) (h5 : n5 ≤ maxLen) (h6 : n6 ≤ maxLen) (h7 : n7 ≤ maxLen) :
    Calls Try.prog 18 #[.slice a0 n0 c0, .slice a1 n1 c1, .slice a2 n2 c2, .slice a3 n3 c3, .slice a4 n4 c4, .slice a5 n5 c5, .slice a6 n6 c6, .int .i64 x, .int .i64 y, .int .i64 z, .int .i64 u, .slice a7 n7 c7] w
      fun e w' => ∃ v, e = .returned (.bool v) ∧ w' = w ∧ Sum8 v n0 n1 n2 n3 n4 n5 n6 n7 := by
  unfold maxLen at *
  go_enter Try.func18, Try.ntmps18
  go_wp2
  all_goals go_ret
  all_goals first
    | exact ⟨false, rfl, rfl, fun h => by cases h⟩
    | exact ⟨true, rfl, rfl, fun _ => by omega⟩
end Go.Proofs.Qxb6603146a
