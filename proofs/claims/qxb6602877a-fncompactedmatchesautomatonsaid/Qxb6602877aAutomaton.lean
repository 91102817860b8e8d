import Derived.Test.Qxb6602877aObj
import Derived.Test.Qxb6602877aCopy
import Derived.Test.Qxb6602877aCompact
namespace Go.Proofs.Qxb6602877a
open Go.RowKit Go.Deep

theorem zzBytes21 (a : Option Addr) (l c : Nat) (w : World) (h : l ≤ maxLen) :
    Calls Try.prog 21 #[.slice a l c] w fun e w' => ∃ v, e = .returned (.bool v) ∧ w' = w ∧ (v = true → l ≤ 1048576) := by
  unfold maxLen at *
  go_enter Try.func21, Try.ntmps21
  go_wp2
  all_goals go_ret
  all_goals first
    | exact ⟨false, rfl, rfl, fun h => by cases h⟩
    | exact ⟨true, rfl, rfl, fun _ => by omega⟩

set_option maxHeartbeats 2000000 in
theorem model23 (a : Option Addr) (n : Nat) (Z : Nat → Int) (w : World) (hn : n ≤ 1048576) (hZ : ∀ i, 0 ≤ Z i ∧ Z i ≤ 255) (hr : Reads .u8 w a n Z) :
    Calls Try.prog 23 #[.slice a n n] w fun e w' => e = .returned (.bool (auto 0 (sfx n Z 0))) ∧ w' = w := by
  obtain ⟨R, hR⟩ : ∃ R, R = auto 0 (sfx n Z 0) := ⟨_, rfl⟩
  rw [← hR]
  have HR0 : Hid (R = auto 0 (sfx n Z 0)) := hR
  clear hR
  go_enter Try.func23, Try.ntmps23
  go_wp2_with fail
  go_loopg [3, 4] (n - 0) (fun g s3 s4 wr => wr = w ∧ ∃ s j : Nat, j ≤ n ∧ g = n - j ∧ s3 = .int .i64 s ∧ s4 = .int .i64 j ∧ Hid (okS s) ∧ Hid (R = auto s (sfx n Z j)))
  case atStart => exact ⟨rfl, 0, 0, by omega, rfl, rfl, rfl, (.inl (by omega) : okS 0), HR0⟩
  case round =>
    clear HR0
    obtain ⟨rfl, s, j, hj, rfl, rfl, rfl, hs, HR⟩ := hrel
    by_cases hlt : j < n
    case neg =>
      have hz : ¬ (j : Int) < (n : Int) := by omega
      have HE : Hid (R = (s == 2)) := by
        show R = _
        rw [HR.out, sfx_nil (by omega)]
        rfl
      clear hr
      by_cases h2 : s = 2
      · have q2 : ((s : Int) == 2) = true := by simp; omega
        rw [show (s == 2) = true by simp [h2]] at HE
        clear h2
        go_wp2_with fail
        go_ret
        rw [HE.out]
        exact ⟨rfl, rfl⟩
      · have q2 : ((s : Int) == 2) = false := by simp; omega
        rw [show (s == 2) = false by simp [h2]] at HE
        clear h2
        go_wp2_with fail
        go_ret
        rw [HE.out]
        exact ⟨rfl, rfl⟩
    have hltz : (j : Int) < (n : Int) := by omega
    obtain ⟨b, o, rfl, _, hcell⟩ := hr.form hlt
    have c1 := hcell j hlt
    have k35 := objNext35 s hs.out (Z j) wr (hZ j)
    have HN := okS_next s hs.out (Z j)
    have HR1 : Hid (R = auto (objN s (Z j)) (sfx n Z (j + 1))) := by show R = _; rw [HR.out, sfx_cons hlt, auto_cons]
    obtain ⟨t, ht⟩ : ∃ t, t = objN s (Z j) := ⟨_, rfl⟩
    rw [← ht] at k35 HN HR1
    have HN' : Hid (t = 24 ∨ okS t) := HN
    clear ht HN hcell hr HR
    by_cases h24 : t = 24
    · have HE : Hid (R = false) := by show R = _; rw [HR1.out, h24, auto_dead]
      subst h24
      go_wp2_with fail
      refine k35.mono ?_
      rintro _ w2 ⟨rfl, hw2⟩
      subst w2
      clear k35
      go_wp2_with fail
      go_ret
      rw [HE.out]
      exact ⟨rfl, rfl⟩
    · have q24 : ((t : Int) == 24) = false := by simp; omega
      have hok : Hid (okS t) := HN'.out.resolve_left h24
      clear h24
      go_wp2_with fail
      refine k35.mono ?_
      rintro _ w2 ⟨rfl, hw2⟩
      subst w2
      clear k35
      go_wp2_with fail
      go_roundg (n - (j + 1))
      case measure => go_light; omega
      case rel => go_light; exact ⟨rfl, t, j + 1, by omega, rfl, rfl, by simp, hok, HR1⟩

set_option maxHeartbeats 2000000 in
theorem law8 (a : Option Addr) (n c : Nat) (Z : Nat → Int) (w : World) (hl : n ≤ maxLen) (hn0 : a = none → c = 0) (hZ : ∀ i, 0 ≤ Z i ∧ Z i ≤ 255) (hr : Reads .u8 w a n Z) :
    Calls Try.prog 8 #[.slice a n c] w fun e w' => e = .returned (.bool true) ∧ Below w.heap.size w w' := by
  have hne := fun w a n c => run_neq_slice_nil_any (P := Try.prog) w 22 5 a n c 0 0 Try.underlying22
  go_enter Try.func8, Try.ntmps8
  go_wp2_with fail
  refine (zzBytes21 a n c w hl).mono ?_
  rintro e w1 ⟨v, rfl, hw, hv⟩
  subst hw
  cases v with
  | false =>
    go_wp2_with fail
    go_ret
    exact ⟨rfl, Below.refl _ _⟩
  | true =>
    have hn := hv rfl
    clear hv
    -- the copy
    go_upto_if 11 with (fail)
    go_cut [0] (fun s0 wc => ∃ r, s0 = .slice r n n ∧ Reads .u8 wc r n Z ∧ Below w1.heap.size w1 wc)
    case first =>
      cases a with
      | none =>
        obtain rfl := hn0 rfl
        obtain rfl := hr.none_len
        go_wp2_with fail
        go_meet
        go_light
        exact ⟨none, rfl, hr, Below.refl _ _⟩
      | some x =>
        have hmk := run_make_row' (P := Try.prog) 22 5 (.int .u8 0) 1 Try.underlying22 info5 rfl .i64 .i64 n (by omega) (by omega)
        obtain ⟨W, hrun, hrow, hbW⟩ := copy_run w1 x n c Z hr
        have hs : (some x).isSome = true := rfl
        go_wp2_with fail
        go_meet
        go_light
        exact ⟨_, rfl, reads_row hrow, hbW⟩
    case rest =>
      obtain ⟨r, rfl, hrd, hb⟩ := hcut
      clear hne hr hn0
      have hb' : Hid (Below w1.heap.size w1 wc) := hb
      have k22 := compact22 r n Z wc hn hZ hrd
      have k23 := fun w2 (h : Below wc.heap.size wc w2) => model23 r n Z w2 hn hZ (hrd.below h)
      have fin : ∀ w2, Below wc.heap.size wc w2 → Hid (Below w1.heap.size w1 w2) := fun w2 h => (hb'.out.trans (h.mono hb'.out.size) : Below w1.heap.size w1 w2)
      generalize auto 0 (sfx n Z 0) = R at k22 k23
      clear hrd hb
      cases R with
      | true =>
        go_wp2_with fail
        refine k22.mono ?_
        rintro _ w2 ⟨rfl, hw2⟩
        have k := k23 w2 hw2
        have F := fin w2 hw2
        clear k22 k23 fin hw2
        go_wp2_with fail
        refine k.mono ?_
        rintro _ w3 ⟨rfl, hw3⟩
        subst w3
        clear k
        go_wp2_with fail
        go_ret
        exact ⟨rfl, F.out⟩
      | false =>
        go_wp2_with fail
        refine k22.mono ?_
        rintro _ w2 ⟨rfl, hw2⟩
        have k := k23 w2 hw2
        have F := fin w2 hw2
        clear k22 k23 fin hw2
        go_wp2_with fail
        refine k.mono ?_
        rintro _ w3 ⟨rfl, hw3⟩
        subst w3
        clear k
        go_wp2_with fail
        go_ret
        exact ⟨rfl, F.out⟩
end Go.Proofs.Qxb6602877a
