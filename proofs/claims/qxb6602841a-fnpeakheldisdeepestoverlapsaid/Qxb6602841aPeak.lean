import Derived.Test.Qxb6602841aRows
import Derived.Test.Qxb6602841aSorted
import Derived.Test.Qxb6602841aSpans
namespace Go.Proofs.Qxb6602841a
open Go.RowKit Go.Deep Go.Sort

theorem fill_step {A : Nat → Int} (i k : Nat) : (if i = k then Value.int .i64 (A k) else if i < k then .int .i64 (A i) else .int .i64 0) = if i < k + 1 then .int .i64 (A i) else .int .i64 0 := by
  by_cases h : i = k
  · subst h; simp
  · by_cases h2 : i < k
    · rw [if_neg h, if_pos h2, if_pos (by omega)]
    · rw [if_neg h, if_neg h2, if_neg (by omega)]

theorem sort_n (b : Nat) (T : TypeId) (n : Nat) (l : List Int) (w : World) (hn : l.length = n) (hl : n ≤ 4096) (h : w.rowIs b T n (fun i => .int .i64 (l.getD i 0))) :
    Calls Try.prog 28 #[.slice (some ⟨b, 0, none⟩) n n] w fun e w' => e = .returned (.tuple #[]) ∧ w'.rowIs b T n (fun i => .int .i64 ((sorted l).getD i 0)) ∧ Kept1 b w w' := by
  subst hn; exact sort_row b T l w hl h

theorem max_step {f : Nat → Nat} {k p e : Nat} (hp : p = top f k) (hf : f k = k + 1 - e) (he : e ≤ k) : max (p : Int) ((k : Int) + 1 - (e : Int)) = ((top f (k + 1) : Nat) : Int) := by
  show _ = ((max (top f k) (f k) : Nat) : Int)
  rw [hf, ← hp]
  omega

set_option maxHeartbeats 2000000 in
set_option maxRecDepth 100000 in
theorem peakHeld (sb n : Nat) (A B : Nat → Int) (w : World) (hn : n ≤ 4096) (hAB : ∀ i, i < n → A i < B i) (hs : w.rowIs sb 48 (2 * n) (pairF A B)) :
    Calls Try.prog 25 #[.slice (some ⟨sb, 0, none⟩) n n] w fun e w' => e = .returned (.int .i64 (top (fun j => cnt A B (A j) n) n : Nat)) ∧ Below w.heap.size w w' := by
  have hmk := run_make_row' (P := Try.prog) 51 2 (.int .i64 0) 8 Try.underlying51 info2 rfl .i64 .i64 n (by omega) (by omega)
  go_enter Try.func25, Try.ntmps25
  go_upto_region 1 with (fail)
  go_cut [3, 4] (fun s3 s4 wc => ∃ fb tb : Nat, s3 = .slice (some ⟨fb, 0, none⟩) n n ∧ s4 = .slice (some ⟨tb, 0, none⟩) n n ∧ w.heap.size ≤ fb ∧ w.heap.size ≤ tb ∧ fb ≠ tb ∧ wc.rowIs fb 2 n (fun _ => .int .i64 0) ∧ wc.rowIs tb 2 n (fun _ => .int .i64 0) ∧ Below w.heap.size w wc)
  case first =>
    have m1 := World.rowIs_made w (.int .i64 0) n 2
    have m2 := World.rowIs_made (w.alloc (.cells (madeCells #[.int .i64 0] n) 2)) (.int .i64 0) n 2
    rw [World.size_alloc] at m2
    have m3 := m1.alloc (.cells (madeCells #[.int .i64 0] n) 2)
    go_region
    all_goals
      go_wp2
      go_meet
      go_light
      first
        | exact ⟨w.heap.size, w.heap.size + 1, rfl, rfl, by omega, by omega, by omega, m3, m2, (((Below.refl _ _).alloc (Nat.le_refl _) _).alloc (by simp) _).drew⟩
        | exact ⟨w.heap.size + 1, w.heap.size, rfl, rfl, by omega, by omega, by omega, m2, m3, (((Below.refl _ _).alloc (Nat.le_refl _) _).alloc (by simp) _).drew⟩
  case rest =>
    obtain ⟨fb, tb, rfl, rfl, hfb, htb, hne, hf0, ht0, hb0⟩ := hcut
    clear hmk
    go_wp2_with fail
    go_loopg [19] n (fun g i wr => ∃ k : Nat, k ≤ n ∧ g = n - k ∧ i = .int .i64 k ∧ Below w.heap.size w wr ∧ wr.rowIs fb 2 n (fun i => if i < k then .int .i64 (A i) else .int .i64 0) ∧ wr.rowIs tb 2 n (fun i => if i < k then .int .i64 (B i) else .int .i64 0))
    case atStart => exact ⟨0, Nat.zero_le _, rfl, rfl, hb0, hf0.congr (fun i _ => by simp), ht0.congr (fun i _ => by simp)⟩
    case round =>
      clear hf0 ht0 hb0
      obtain ⟨k, hk, rfl, rfl, hbel, hrf, hrt⟩ := hrel
      by_cases hlt : k < n
      · have hltz : (k : Int) < (n : Int) := by omega
        have hsr := row_below hs hbel
        have c1 : wr.cell? ⟨sb, k * 2, none⟩ = some (.int .i64 (A k)) := by rw [hsr.cell (i := k * 2) (by omega), pair0]
        have c2 : wr.cell? ⟨sb, k * 2 + 1, none⟩ = some (.int .i64 (B k)) := by rw [hsr.cell (i := k * 2 + 1) (by omega), pair1]
        have hfl := hrf.lt
        have htl := hrt.lt
        have f1 : wr.cell? ⟨fb, k, none⟩ = some (.int .i64 0) := by rw [hrf.cell hlt, if_neg (by omega)]
        have f2 := hrf.frozen k
        have f3 : wr.cell? ⟨tb, k, none⟩ = some (.int .i64 0) := by rw [hrt.cell hlt, if_neg (by omega)]
        have f4 := hrt.frozen k
        go_wp2_with fail
        go_region
        all_goals
          go_wp2_with fail
          go_roundg (n - (k + 1))
          case measure => go_light; omega
          case rel =>
            go_light
            have hb2 : Below w.heap.size w ((wr.setCell ⟨fb, k, none⟩ (.int .i64 (A k))).setCell ⟨tb, k, none⟩ (.int .i64 (B k))) := (hbel.setCell hfb _).setCell htb _
            exact ⟨k + 1, by omega, rfl, by simp, (hb2.alloc hb2.size _).drew, (((hrf.set k _).setOther (a := ⟨tb, k, none⟩) hne _).alloc _).congr (fun i _ => fill_step i k),
              (((hrt.setOther (a := ⟨fb, k, none⟩) (fun h => hne h.symm) _).set k _).alloc _).congr (fun i _ => fill_step i k)⟩
      · obtain rfl : k = n := by omega
        have hrf' : wr.rowIs fb 2 k (fun i => .int .i64 ((listOf k A).getD i 0)) := hrf.congr (fun i hi => by rw [if_pos hi, listOf_getD hi])
        have hrt' : wr.rowIs tb 2 k (fun i => .int .i64 ((listOf k B).getD i 0)) := hrt.congr (fun i hi => by rw [if_pos hi, listOf_getD hi])
        clear hrf hrt
        go_wp2_with fail
        refine (sort_n fb 2 k (listOf k A) wr (listOf_length _ _) hn hrf').mono ?_
        rintro e W1 ⟨rfl, hs1, hk1⟩
        have ht1 := hk1.row hrt' (fun h => hne h.symm)
        have hb1 : Below w.heap.size w W1 := hbel.trans (hk1.to_below hbel.size hfb)
        clear hrf' hrt' hk1 hbel
        go_wp2_with fail
        refine (sort_n tb 2 k (listOf k B) W1 (listOf_length _ _) hn ht1).mono ?_
        rintro e W2 ⟨rfl, hs2, hk2⟩
        have hf2 := hk2.row hs1 hne
        have hb2 : Below w.heap.size w W2 := hb1.trans (hk2.to_below hb1.size htb)
        clear hs1 ht1 hk2 hb1
        have PA := sorted_perm (listOf k A)
        have PB := sorted_perm (listOf k B)
        have UA := sorted_up (listOf k A)
        have UB := sorted_up (listOf k B)
        have hfin : Hid (top (atStart (sorted (listOf k A)) (listOf k B)) k = top (fun j => cnt A B (A j) k) k) := peaks_fn hAB PA UA
        generalize sorted (listOf k A) = SA at *
        generalize sorted (listOf k B) = SB at *
        go_wp2_with fail
        go_loopg [7, 8, 41] k (fun g pk en i wr => wr = W2 ∧ ∃ j p e : Nat, j ≤ k ∧ g = k - j ∧ i = .int .i64 j ∧ pk = .int .i64 (p : Int) ∧ en = .int .i64 (e : Int) ∧ p ≤ 4096 ∧ e ≤ j ∧ Hid (p = top (atStart SA (listOf k B)) j) ∧ Hid (∀ t, t < e → ∀ i, j ≤ i → i < k → SB.getD t 0 ≤ SA.getD i 0))
        case atStart => exact ⟨rfl, 0, 0, 0, Nat.zero_le _, rfl, rfl, rfl, rfl, by omega, Nat.le_refl _, rfl, fun t ht => by omega⟩
        case round =>
          obtain ⟨rfl, j, p, e, hj, rfl, rfl, rfl, rfl, hp4, hej, hp, he⟩ := hrel
          by_cases hjk : j < k
          · have hjz : (j : Int) < (k : Int) := by omega
            obtain ⟨x, hx⟩ : ∃ x, x = SA.getD j 0 := ⟨_, rfl⟩
            have c1 : wr.cell? ⟨fb, j, none⟩ = some (.int .i64 x) := by rw [hf2.cell hjk, hx]
            have HX : Hid (x = SA.getD j 0) := hx
            clear hx
            go_wp2_with fail
            go_loopg [8] (k - e) (fun g en wx => wx = wr ∧ ∃ e : Nat, g = k - e ∧ en = .int .i64 (e : Int) ∧ e ≤ j ∧ Hid (∀ t, t < e → SB.getD t 0 ≤ x))
            case atStart => exact ⟨rfl, e, rfl, rfl, hej, fun t ht => by rw [HX.out]; exact he.out t ht j (Nat.le_refl _) hjk⟩
            case round =>
              obtain ⟨rfl, e', rfl, rfl, hej', he'⟩ := hrel
              have hek : e' < k := by omega
              have hez : (e' : Int) < (k : Int) := by omega
              obtain ⟨y, hy⟩ : ∃ y, y = SB.getD e' 0 := ⟨_, rfl⟩
              have c2 : wr.cell? ⟨tb, e', none⟩ = some (.int .i64 y) := by rw [hs2.cell hek, hy]
              have HY : Hid (y = SB.getD e' 0) := hy
              clear hy
              by_cases hle : y ≤ x
              · go_wp2_with fail
                go_roundg (k - (e' + 1))
                case measure => go_light; omega
                case rel =>
                  go_light
                  have hall : ∀ t, t < e' + 1 → SB.getD t 0 ≤ SA.getD j 0 := fun t ht => by
                    rw [← HX.out]
                    by_cases h : t = e'
                    · rw [h, ← HY.out]; exact hle
                    · exact he'.out t (by omega)
                  exact ⟨rfl, e' + 1, rfl, by simp, ptr_le hAB PA UA PB hjk (by omega) hall, fun t ht => by rw [HX.out]; exact hall t ht⟩
              · have hcl : cle (listOf k B) (SA.getD j 0) = e' := by
                  rw [← HX.out]
                  exact ptr_eq UB PB hek he'.out (by rw [← HY.out]; omega)
                have hmx := max_step (f := atStart SA (listOf k B)) (e := e') hp.out (by unfold atStart; rw [hcl]) hej'
                have HM : Hid (max (p : Int) ((j : Int) + 1 - (e' : Int)) = ((top (atStart SA (listOf k B)) (j + 1) : Nat) : Int)) := hmx
                have hpb : top (atStart SA (listOf k B)) (j + 1) ≤ 4096 := top_bound (fun i hi => by unfold atStart; omega)
                have hla : SA.length = k := by rw [PA.length_eq, listOf_length]
                clear hmx hcl
                go_wp2_with fail
                go_roundg (k - (j + 1))
                case measure => go_light; omega
                case rel =>
                  go_light
                  refine ⟨rfl, j + 1, top (atStart SA (listOf k B)) (j + 1), e', by omega, rfl, by simp, by rw [HM.out], rfl, hpb, by omega, rfl, fun t ht i hi hik => ?_⟩
                  have h1 := he'.out t ht
                  have h2 := UA j i (by omega) (by omega)
                  rw [← HX.out] at h2
                  omega
          · go_wp2_with fail
            go_ret
            obtain rfl : j = k := by omega
            have hpe := hp.out.trans hfin.out
            clear hp hfin he
            exact ⟨by rw [← hpe]; rfl, hb2⟩
end Go.Proofs.Qxb6602841a
