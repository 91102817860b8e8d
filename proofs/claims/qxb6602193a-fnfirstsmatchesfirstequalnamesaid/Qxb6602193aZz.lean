import Derived.Test.Qxb6602193aRows
import Derived.Test.Qxb6602193aFirsts
namespace Go.Proofs.Qxb6602193a
open Go.RowKit Go.Deep

theorem FirstsRet.from_alloc {n tl m fb sb : Nat} {P H F : Nat → Nat} {T f0 : Nat → Int} {w : World} {o : Obj} {e : Ending} {w' : World} (h : FirstsRet n tl m fb sb P H F T f0 (w.alloc o) e w') :
    FirstsRet n tl m fb sb P H F T f0 w e w' := by
  obtain ⟨size, tbk, cap, tb, M, g, h1, h2, h3, h4, h5, h6, h7, h8, h9⟩ := h
  have hs : w.heap.size ≤ (w.alloc o).heap.size := by simp
  have h8' : tbk = sb ∨ w.heap.size ≤ tbk := by omega
  exact ⟨size, tbk, cap, tb, M, g, h1, h2, h3, h4, h5, h6, h7, h8', (Kept2.of_below ((Below.refl _ w).alloc (Nat.le_refl _) _)).trans h9⟩

theorem zzFirsts_any (eb n : Nat) (tr : Option Addr) (tl : Nat) (fb m : Nat) (fr : Option Addr) (sb sl : Nat) (sr : Option Addr) (P H F : Nat → Nat) (T f0 : Nat → Int) (S : Nat → Value) (w : World)
    (hn : n ≤ 4096) (htl : tl ≤ 1048576) (hm : m ≤ 1048576) (hsl : sl ≤ 1048576)
    (hF : ∀ i, F i ≤ 4294967295) (hP : ∀ i, i < n → P i < m) (hH : ∀ i, H i ≤ 4294967295) (hT : ∀ i, 0 ≤ T i ∧ T i ≤ 255)
    (hle : ∀ i, i < n → (F i : Int) ≤ endOf n tl (fun t => (F t : Int)) i) (hend : ∀ i, i < n → endOf n tl (fun t => (F t : Int)) i ≤ tl)
    (he : w.rowIs eb 43 (3 * n) (entF (fun i => (P i : Int)) (fun i => (H i : Int)) (fun i => (F i : Int)))) (ht : TextIs w tr tl T)
    (hf : 0 < m → fr = some ⟨fb, 0, none⟩ ∧ w.rowIs fb 21 m (fun x => .int .i32 (f0 x)))
    (hs : 0 < sl → sr = some ⟨sb, 0, none⟩ ∧ w.rowIs sb 36 sl S)
    (d1 : eb ≠ fb) (d2 : eb ≠ sb) (d3 : fb ≠ sb) (d4 : ∀ c, tr = some c → c.block ≠ fb ∧ c.block ≠ sb ∧ c.block < w.heap.size) (d5 : 0 < m → fb < w.heap.size) (d5' : fb ≠ w.heap.size + 1 ∧ fb ≠ w.heap.size + 2) (d6 : 0 < sl → sb < w.heap.size) :
    Calls Try.prog 14 #[.agg #[.slice (some ⟨eb, 0, none⟩) n n, .slice tr tl tl], .slice fr m m, .slice sr sl sl] w (FirstsRet n tl m fb sb P H F T f0 w) := by
  have A : Below w.heap.size w (w.alloc (.cells #[.slice (some ⟨eb, 0, none⟩) n n, .slice tr tl tl] 32)) := (Below.refl _ _).alloc (Nat.le_refl _) _
  go_enter Try.func14, Try.ntmps14
  go_wp2_with fail
  have hc := firsts_any eb n tr tl fb m fr sb sl sr P H F T f0 S (w.alloc (.cells #[.slice (some ⟨eb, 0, none⟩) n n, .slice tr tl tl] 32)) hn htl hm hsl hF hP hH hT hle hend (he.alloc _) (ht.below A)
    (fun h => ⟨(hf h).1, (hf h).2.alloc _⟩) (fun h => ⟨(hs h).1, (hs h).2.alloc _⟩) d1 d2 d3 (fun c hc => ⟨(d4 c hc).1, (d4 c hc).2.1, by have := (d4 c hc).2.2; simp; omega⟩) (fun h => by have := d5 h; simp; omega) (by simp; omega) (fun h => by have := d6 h; simp; omega)
  refine hc.mono ?_
  intro e w' h
  clear hc
  have h' := h.from_alloc
  obtain ⟨size, tbk, cap, tb, M, g, rfl, h2⟩ := h'
  go_wp2
  go_ret
  exact ⟨size, tbk, cap, tb, M, g, rfl, h2⟩

end Go.Proofs.Qxb6602193a
