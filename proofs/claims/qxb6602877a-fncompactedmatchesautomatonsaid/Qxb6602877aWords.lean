import Derived.Test.Qxb6602877aScan
import Derived.Test.Qxb6602877aPrefix
namespace Go.Proofs.Qxb6602877a
open Go.RowKit Go.Deep

/-- What the loop over the three words keeps. -/
def Kept (w wr : World) : Prop := Below w.heap.size w wr ∧ (∀ k, k < 3 → wr.cell? ⟨w.heap.size, k, none⟩ = some (.string (litS k))) ∧ w.heap.size < wr.heap.size

theorem kept_start (w : World) : Kept w (w.alloc (Obj.cells #[Value.string { data := #[116, 114, 117, 101] }, Value.string { data := #[102, 97, 108, 115, 101] }, Value.string { data := #[110, 117, 108, 108] }] 9)) := by
  refine ⟨(Below.refl _ _).alloc (Nat.le_refl _) _, fun k hk => ?_, by simp⟩
  match k, hk with
  | 0, _ => simp [litS]
  | 1, _ => simp [litS]
  | 2, _ => simp [litS]

theorem kept_step {w wr W : World} (h : Kept w wr) (hb : Below wr.heap.size wr W) : Kept w W := by
  refine ⟨h.1.trans (hb.mono h.1.size), fun k hk => ?_, Nat.lt_of_lt_of_le h.2.2 hb.size⟩
  rw [hb.cell (p := ⟨w.heap.size, k, none⟩) h.2.2]
  exact h.2.1 k hk

theorem tail_reads {w : World} {b o n i : Nat} {Z : Nat → Int} (h : Reads .u8 w (some ⟨b, o, none⟩) n Z) (hi : i ≤ n) : Reads .u8 w (some ⟨b, o + i, none⟩) (n - i) (fun t => Z (i + t)) := by
  intro t ht
  obtain ⟨_, h2, h3⟩ := h.at (i := i + t) (by omega)
  exact ⟨b, o + i, rfl, h2, by rw [Nat.add_assoc]; exact h3⟩

theorem u8_bd (x : UInt8) : 0 ≤ (x.toNat : Int) ∧ (x.toNat : Int) ≤ 255 := by
  have := x.toNat_lt
  omega

set_option maxHeartbeats 4000000 in
set_option maxRecDepth 100000 in
theorem words34 (b o n i : Nat) (Z : Nat → Int) (w : World) (hn : n ≤ 1048576) (hin : i < n) (hZ : ∀ i, 0 ≤ Z i ∧ Z i ≤ 255) (hr0 : Hid (Reads .u8 w (some ⟨b, o, none⟩) n Z)) (h2 : Z i = 116 ∨ Z i = 102 ∨ Z i = 110) :
    Calls Try.prog 34 #[.slice (some ⟨b, o, none⟩) n n, .int .i64 i] w fun e w' => e = plainV (litF 0 (sfx n Z i) i) ∧ Below w.heap.size w w' := by
  have q : ((i : Int) == (n : Int)) = false := by simp; omega
  have hiz : (i : Int) < (n : Int) := by omega
  have c0 := (hr0.out.at hin).2.2
  have q1 : (Z i == 34) = false := by simp; omega
  have HZ : Hid (∀ i, 0 ≤ Z i ∧ Z i ≤ 255) := hZ
  clear hZ
  obtain ⟨R, hR⟩ : ∃ R, R = litF 0 (sfx n Z i) i := ⟨_, rfl⟩
  rw [← hR]
  have HR0 : Hid (R = litF 0 (sfx n Z i) i) := hR
  clear hR
  have pick : ((Z i == 116) = true) ∨ ((Z i == 116) = false ∧ (Z i == 102) = true) ∨ ((Z i == 116) = false ∧ (Z i == 102) = false ∧ (Z i == 110) = true) := by
    simp only [beq_iff_eq, beq_eq_false_iff_ne]; omega
  clear h2
  go_enter Try.func34, Try.ntmps34
  go_upto_region 7 with (fail)
  go_cut [32] (fun s0 wx => wx = w ∧ s0 = .bool true)
  case first =>
    rcases pick with q2 | ⟨q2, q3⟩ | ⟨q2, q3, q4⟩
    · go_wp2_with fail
      go_meet
      go_light
      exact ⟨rfl, rfl⟩
    · go_wp2_with fail
      go_meet
      go_light
      exact ⟨rfl, rfl⟩
    · go_wp2_with fail
      go_meet
      go_light
      exact ⟨rfl, rfl⟩
  case rest =>
  obtain ⟨hwx, rfl⟩ := hcut
  subst wc
  clear pick q q1 c0
  have hK0 : Hid (Kept w (w.alloc (Obj.cells #[Value.string { data := #[116, 114, 117, 101] }, Value.string { data := #[102, 97, 108, 115, 101] }, Value.string { data := #[110, 117, 108, 108] }] 9))) := kept_start w
  go_wp2_with fail
  go_loopg [45] (3 - 0) (fun g e wr => ∃ k : Nat, k ≤ 3 ∧ g = 3 - k ∧ e = .int .i64 k ∧ Hid (Kept w wr) ∧ Hid (R = litF k (sfx n Z i) i))
  case atStart => exact ⟨0, by omega, rfl, rfl, hK0, HR0⟩
  case round =>
    clear hK0 HR0
    obtain ⟨k, hk, rfl, rfl, hK, HR⟩ := hrel
    by_cases hlt : k < 3
    case neg =>
      obtain rfl : k = 3 := by omega
      have HE : Hid (R = none) := (HR.out : R = litF 3 (sfx n Z i) i)
      go_wp2_with fail
      go_ret2
      rw [HE.out]
      exact ⟨rfl, hK.out.1⟩
    have hltz : (k : Int) < 3 := by omega
    have cl := hK.out.2.1 k hlt
    have hls := litS_le k
    obtain ⟨W, cap, hcv, hrd, hbl⟩ := conv_run wr (litS k)
    have hra := tail_reads ((hr0.out.below hK.out.1).below hbl) (Nat.le_of_lt hin)
    have hp := prefix40 b (o + i) (n - i) (n - i) _ _ (litS k).size cap _ W (Nat.le_refl _) hra hrd (fun t => HZ.out (i + t)) (fun t => u8_bd _)
    have hK' : Hid (Kept w W) := kept_step hK.out hbl
    have hin' : i ≤ n := Nat.le_of_lt hin
    have hit : ∀ v, PreAt v (litS k).size (n - i) (fun t => Z (i + t)) (fun t => (((litS k).data.toList.getD t 0).toNat : Int)) → Hid (v = true ↔ (sfx n Z i).take (litS k).size = litZ k) := fun v h => (Iff.trans h (lit_iff n Z i k) : _ ↔ _)
    have yes : (sfx n Z i).take (litS k).size = litZ k → Hid (R = some (i + (litS k).size)) := fun h => (HR.out.trans (litF_hit hlt h) : R = _)
    have no : ¬ (sfx n Z i).take (litS k).size = litZ k → Hid (R = litF (k + 1) (sfx n Z i) i) := fun h => (HR.out.trans (litF_miss hlt h) : R = _)
    have yes' : Hid _ := yes
    have no' : Hid _ := no
    have hit' : Hid _ := hit
    clear hra hrd hbl hK hlt yes no hit HR
    go_wp2_with fail
    refine hp.mono ?_
    rintro _ w2 ⟨v, rfl, hw2, hv⟩
    subst w2
    have hv1 := hit'.out v hv
    clear hp hcv hv
    cases v with
    | true =>
      have HE := yes'.out (hv1.out.1 rfl)
      clear hv1 yes' no' hit'
      go_wp2_with fail
      go_ret2
      rw [HE.out]
      exact ⟨by simp [plainV], hK'.out.1⟩
    | false =>
      have HE := no'.out (fun h => by have := hv1.out.2 h; cases this)
      clear hv1 yes' no' hit'
      go_wp2_with fail
      go_roundg (3 - (k + 1))
      case measure => go_light; omega
      case rel => go_light; exact ⟨k + 1, by omega, rfl, by simp, hK', HE⟩
end Go.Proofs.Qxb6602877a
