import Derived.Test.Qxb6602877aPaired
import Derived.Test.Qxb6602877aStr
namespace Go.Proofs.Qxb6602877a
open Go.RowKit Go.Deep

theorem info21 : (Try.prog.info? 21).map (fun i => (i.zero, i.size, i.bytes)) = some (some (.int .i32 0), 1, 4) := by kernel_rfl

def accB (st : Nat) (acc : Int) : Prop := 0 ≤ acc ∧ acc ≤ 65535 ∧ (st = 2 → acc = 0) ∧ (st = 3 → acc ≤ 15) ∧ (st = 4 → acc ≤ 255) ∧ (st = 5 → acc ≤ 4095)

theorem rel_app {B : Nat} {w wr w1 : World} {u v' : Value} {o : Obj} {U : List Int} {x : Int} (hown : wr.ownsRow B 21 1 u U.length (U.map (.int .i32))) (hb : Hid (Below B w wr ∧ B ≤ wr.heap.size))
    (hown' : w1.ownsRow B 21 1 v' (U.length + 1) (U.map (.int .i32) ++ [.int .i32 x])) (hgrow : (wr.alloc o).grownBy w1 u.ownBlock) :
    w1.ownsRow B 21 1 v' (U ++ [x]).length ((U ++ [x]).map (.int .i32)) ∧ Hid (Below B w w1 ∧ B ≤ w1.heap.size) := by
  obtain ⟨h1, h2⟩ := hb.out
  have hB : Below B w w1 := (h1.alloc h2 _).grown hgrow (by simp; omega) (fun k hk => (hown.lt k hk).1)
  refine ⟨by simpa using hown', ?_⟩
  have hb2 : B ≤ w1.heap.size := by
    have := hgrow.size
    simp at this
    omega
  exact (⟨hB, hb2⟩ : Below B w w1 ∧ B ≤ w1.heap.size)

theorem own_reads {B : Nat} {wr : World} {u : Value} {U : List Int} (hown : wr.ownsRow B 21 1 u U.length (U.map (.int .i32))) :
    ∃ a c, u = .slice a U.length c ∧ Reads .i32 wr a U.length (fun i => U.getD i 0) := by
  rcases Nat.eq_zero_or_pos U.length with h0 | h0
  · rcases hown.2 with ⟨h, _⟩ | ⟨g, cap, cur, h, _⟩
    · exact ⟨none, 0, by rw [h, h0], fun i hi => by omega⟩
    · exact ⟨_, _, h, fun i hi => by omega⟩
  · obtain ⟨g, cap, rfl, hg⟩ : ∃ g cap, u = .slice (some ⟨g, 0, none⟩) U.length cap ∧ g < wr.heap.size := by
      rcases hown.2 with ⟨_, h⟩ | ⟨g, cap, cur, h, _, hg, _⟩
      · omega
      · refine ⟨g, cap, h, ?_⟩
        rcases Nat.lt_or_ge g wr.heap.size with hlt | hge
        · exact hlt
        · rw [Array.getElem?_eq_none hge] at hg; cases hg
    refine ⟨_, _, rfl, fun i hi => ⟨g, 0, rfl, hg, ?_⟩⟩
    have := hown.cellAt i (by omega)
    rw [Nat.zero_add, this]
    simp [hi, List.getD_eq_getElem?_getD]

section
variable {n : Nat} {Z : Nat → Int} {j : Nat} {acc : Int} {U : List Int}
theorem mod_end {st : Nat} (hj : n ≤ j) : modL (sfx n Z j) j st acc U = none := by rw [sfx_nil hj]; rfl
theorem mod_quote (hj : j < n) (h : Z j = 34) : modL (sfx n Z j) j 0 acc U = some (j + 1, paired U) := by rw [sfx_cons hj, modL, if_pos rfl, if_pos h]
theorem mod_ctl (hj : j < n) (h : Z j ≠ 34) (h2 : Z j < 32) : modL (sfx n Z j) j 0 acc U = none := by rw [sfx_cons hj, modL, if_pos rfl, if_neg h, if_pos h2]
theorem mod_esc (hj : j < n) (h : Z j = 92) : modL (sfx n Z j) j 0 acc U = modL (sfx n Z (j + 1)) (j + 1) 1 acc U := by rw [sfx_cons hj, modL, if_pos rfl, if_neg (by omega), if_neg (by omega), if_pos h]
theorem mod_raw (hj : j < n) (h : Z j ≠ 34) (h2 : ¬ Z j < 32) (h3 : Z j ≠ 92) : modL (sfx n Z j) j 0 acc U = modL (sfx n Z (j + 1)) (j + 1) 0 acc (U ++ [-1]) := by rw [sfx_cons hj, modL, if_pos rfl, if_neg h, if_neg h2, if_neg h3]
theorem mod_u (hj : j < n) (h : Z j = 117) : modL (sfx n Z j) j 1 acc U = modL (sfx n Z (j + 1)) (j + 1) 2 0 U := by rw [sfx_cons hj, modL, if_neg (by omega), if_pos rfl, if_pos h]
theorem mod_simple (hj : j < n) (h : Z j ≠ 117) (h2 : simpleE (Z j) = true) : modL (sfx n Z j) j 1 acc U = modL (sfx n Z (j + 1)) (j + 1) 0 acc (U ++ [-1]) := by rw [sfx_cons hj, modL, if_neg (by omega), if_pos rfl, if_neg h, if_pos h2]
theorem mod_esc_bad (hj : j < n) (h : Z j ≠ 117) (h2 : simpleE (Z j) = false) : modL (sfx n Z j) j 1 acc U = none := by rw [sfx_cons hj, modL, if_neg (by omega), if_pos rfl, if_neg h, if_neg (by rw [h2]; simp)]
end

set_option maxHeartbeats 4000000 in
set_option maxRecDepth 100000 in
theorem model17 (a : Option Addr) (n i : Nat) (Z : Nat → Int) (w : World) (hn : n ≤ 1048576) (hi0 : i ≤ n) (hZ : ∀ i, 0 ≤ Z i ∧ Z i ≤ 255) (hr : Reads .u8 w a n Z) :
    Calls Try.prog 17 #[.slice a n n, .int .i64 i] w fun e w' => e = scanV (if i < n ∧ Z i = 34 then scanL (sfx n Z (i + 1)) (i + 1) true false else none) ∧ Below w.heap.size w w' := by
  by_cases hin : i < n
  case neg =>
    obtain rfl : i = n := by omega
    have q : decide ((i : Int) ≤ (i : Int)) = true := by simp
    rw [if_neg (by omega)]
    go_enter Try.func17, Try.ntmps17
    go_wp2
    go_ret3
    exact ⟨rfl, Below.refl _ _⟩
  have hiz : (i : Int) < (n : Int) := by omega
  have hniz : ¬ (n : Int) ≤ (i : Int) := by omega
  obtain ⟨b, o, rfl, hbw, hcell⟩ := hr.form hin
  clear hr
  have c0 := hcell i hin
  by_cases h34 : Z i = 34
  case neg =>
    have q2 : (Z i != 34) = true := by simp [h34]
    rw [if_neg (by omega)]
    go_enter Try.func17, Try.ntmps17
    go_wp2
    go_ret3
    exact ⟨rfl, Below.refl _ _⟩
  have q2 : (Z i != 34) = false := by simp [h34]
  rw [if_pos ⟨hin, h34⟩]
  clear h34
  obtain ⟨R, hR⟩ : ∃ R, R = scanL (sfx n Z (i + 1)) (i + 1) true false := ⟨_, rfl⟩
  rw [← hR]
  have HR0 : Hid (R = modL (sfx n Z (i + 1)) (i + 1) 0 0 []) := by
    show R = _
    rw [hR, mod_scan _ _ (Nat.le_refl _)]
    rfl
  clear hR
  obtain ⟨i0, hi, hz0, hz1, hz2⟩ := info_parts info21
  go_enter Try.func17, Try.ntmps17
  go_wp2_with (first
    | (at_make; refine wpList_make_own _ rfl _ _ 32 rfl w.heap.size 21 i0 (.int .i32 0) 1 Try.underlying32 hi hz0 hz1 .i64 .i64 16 16 rfl rfl rfl (by rw [hz2]; omega) (by unfold maxLen; omega) (Nat.le_refl _) ?_; intro w0 hown0 hgrow0))
  clear c0 q2 hniz
  have hb0 : Hid (Below w.heap.size w w0 ∧ w.heap.size ≤ w0.heap.size) := (⟨(Below.refl _ _).grown hgrow0 (Nat.le_refl _) (fun k h => by cases h), hgrow0.size⟩ : Below w.heap.size w w0 ∧ w.heap.size ≤ w0.heap.size)
  clear hgrow0
  go_loopg [7, 8, 9, 10] (n - (i + 1)) (fun g s7 s8 s9 s10 wr => ∃ (j st : Nat) (acc : Int) (U : List Int), i < j ∧ j ≤ n ∧ g = n - j ∧ st ≤ 5 ∧ s8 = .int .i64 st ∧ s9 = .int .i32 acc ∧ s10 = .int .i64 j ∧ Hid (accB st acc) ∧
      wr.ownsRow w.heap.size 21 1 s7 U.length (U.map (.int .i32)) ∧ Hid (Below w.heap.size w wr ∧ w.heap.size ≤ wr.heap.size) ∧ U.length ≤ j ∧ Hid (R = modL (sfx n Z j) j st acc U))
  case atStart => exact ⟨i + 1, 0, 0, [], by omega, by omega, rfl, by omega, rfl, rfl, by simp, (by unfold accB; omega : accB 0 0), hown0, hb0, by simp, HR0⟩
  case round =>
    clear HR0 hown0 hb0
    obtain ⟨j, st, acc, U, hij, hjn, rfl, hst, rfl, rfl, rfl, hacc, hown, hb, hUl, HR⟩ := hrel
    by_cases hlt : j < n
    case neg =>
      have HE : Hid (R = none) := by show R = _; rw [HR.out, mod_end (by omega)]
      clear hown
      go_wp2_with fail
      go_ret3
      rw [HE.out]
      exact ⟨rfl, hb.out.1⟩
    have hltz : (j : Int) < (n : Int) := by omega
    have c1 : wr.cell? ⟨b, o + j, none⟩ = some (.int .u8 (Z j)) := by rw [hb.out.1.cell (p := ⟨b, o + j, none⟩) hbw]; exact hcell j hlt
    have bz := hZ j
    have hbs := hb.out.2
    by_cases hs0 : st = 0
    · subst hs0
      by_cases h1 : Z j = 34
      · have q1 : (Z j == 34) = true := by simp [h1]
        have HE : Hid (R = some (j + 1, paired U)) := by show R = _; rw [HR.out, mod_quote hlt h1]
        obtain ⟨ua, uc, rfl, hur⟩ := own_reads hown
        have k30 := paired30 ua U.length uc _ wr (by omega) hur
        rw [listF_eq] at k30
        clear h1 hcell hown hur
        go_wp2_with fail
        refine k30.mono ?_
        rintro _ _ ⟨rfl, rfl⟩
        go_wp2_with fail
        go_ret3
        rw [HE.out]
        exact ⟨by simp [scanV], hb.out.1⟩
      have q1 : (Z j == 34) = false := by simp [h1]
      by_cases h2 : Z j < 32
      · have q2 : decide (Z j < 32) = true := decide_eq_true h2
        have HE : Hid (R = none) := by show R = _; rw [HR.out, mod_ctl hlt h1 h2]
        clear hown
        go_wp2_with fail
        go_ret3
        rw [HE.out]
        exact ⟨rfl, hb.out.1⟩
      have q2 : decide (Z j < 32) = false := decide_eq_false h2
      by_cases h3 : Z j = 92
      · have q3 : (Z j == 92) = true := by simp [h3]
        have HE : Hid (R = modL (sfx n Z (j + 1)) (j + 1) 1 acc U) := by show R = _; rw [HR.out, mod_esc hlt h3]
        have hacc' : Hid (accB 1 acc) := (by have := hacc.out; unfold accB at *; omega : accB 1 acc)
        clear h1 h2 h3
        go_wp2_with fail
        go_roundg (n - (j + 1))
        case measure => go_light; omega
        case rel => go_light; exact ⟨j + 1, 1, acc, U, by omega, by omega, rfl, by omega, rfl, rfl, by simp, hacc', hown, hb, by omega, HE⟩
      · have q3 : (Z j == 92) = false := by simp [h3]
        have HE : Hid (R = modL (sfx n Z (j + 1)) (j + 1) 0 acc (U ++ [-1])) := by show R = _; rw [HR.out, mod_raw hlt h1 h2 h3]
        clear h1 h2 h3
        go_wp2_with (first
          | (at_builtin; refine wpList_append_own _ rfl _ _ 32 rfl w.heap.size 21 i0 (.int .i32 0) 1 4 Try.underlying32 hi hz0 hz1 hz2 rfl (by decide) _ _ _ rfl (hown.alloc _) ⟨wr.heap.size, 0, none⟩ 1 1 [.int .i32 (-1)] rfl rfl ?c1 ?c2 ?c3 ?c4 ?c5 ?_))
        case c1 =>
          intro j u hj
          match j, hj with
          | 0, hj => simp at hj; subst hj; simp [Addr.add]
        case c2 => intro u hu; simp at hu; subst hu; rfl
        case c3 => unfold maxLen; omega
        case c4 => omega
        case c5 => simp; omega
        intro v' w1 hown' hgrow _
        have RA := rel_app hown hb hown' hgrow
        clear hown' hgrow hown hb
        have RA' : Hid _ := RA
        clear RA
        go_wp2_with fail
        go_roundg (n - (j + 1))
        case measure => go_light; omega
        case rel => go_light; exact ⟨j + 1, 0, _, U ++ [-1], by omega, by omega, rfl, by omega, rfl, rfl, by simp, hacc, RA'.out.1, RA'.out.2, by simp; omega, HE⟩
    have q0 : ((st : Int) == 0) = false := by simp; omega
    by_cases hs1 : st = 1
    · subst hs1
      by_cases h1 : Z j = 117
      · have q1 : (Z j == 117) = true := by simp [h1]
        have HE : Hid (R = modL (sfx n Z (j + 1)) (j + 1) 2 0 U) := by show R = _; rw [HR.out, mod_u hlt h1]
        have hacc' : Hid (accB 2 0) := (by unfold accB; omega : accB 2 0)
        clear h1
        go_wp2_with fail
        go_roundg (n - (j + 1))
        case measure => go_light; omega
        case rel => go_light; exact ⟨j + 1, 2, 0, U, by omega, by omega, rfl, by omega, rfl, rfl, by simp, hacc', hown, hb, by omega, HE⟩
      have q1 : (Z j == 117) = false := by simp [h1]
      have k31 := simple31 (Z j) wr
      cases h2 : simpleE (Z j) with
      | false =>
        rw [h2] at k31
        have HE : Hid (R = none) := by show R = _; rw [HR.out, mod_esc_bad hlt h1 h2]
        clear hown h1 h2
        go_wp2_with fail
        refine k31.mono ?_
        rintro _ _ ⟨rfl, rfl⟩
        go_wp2_with fail
        go_ret3
        rw [HE.out]
        exact ⟨rfl, hb.out.1⟩
      | true =>
        rw [h2] at k31
        have HE : Hid (R = modL (sfx n Z (j + 1)) (j + 1) 0 acc (U ++ [-1])) := by show R = _; rw [HR.out, mod_simple hlt h1 h2]
        have hacc' : Hid (accB 0 acc) := (by have := hacc.out; unfold accB at *; omega : accB 0 acc)
        clear h1 h2
        go_wp2_with fail
        refine k31.mono ?_
        rintro _ w2 ⟨rfl, hw2⟩
        subst w2
        clear k31
        go_wp2_with (first
          | (at_builtin; refine wpList_append_own _ rfl _ _ 32 rfl w.heap.size 21 i0 (.int .i32 0) 1 4 Try.underlying32 hi hz0 hz1 hz2 rfl (by decide) _ _ _ rfl (hown.alloc _) ⟨wr.heap.size, 0, none⟩ 1 1 [.int .i32 (-1)] rfl rfl ?c1 ?c2 ?c3 ?c4 ?c5 ?_))
        case c1 =>
          intro j u hj
          match j, hj with
          | 0, hj => simp at hj; subst hj; simp [Addr.add]
        case c2 => intro u hu; simp at hu; subst hu; rfl
        case c3 => unfold maxLen; omega
        case c4 => omega
        case c5 => simp; omega
        intro v' w1 hown' hgrow _
        have RA := rel_app hown hb hown' hgrow
        clear hown' hgrow hown hb
        have RA' : Hid _ := RA
        clear RA
        go_wp2_with fail
        go_roundg (n - (j + 1))
        case measure => go_light; omega
        case rel => go_light; exact ⟨j + 1, 0, _, U ++ [-1], by omega, by omega, rfl, by omega, rfl, rfl, by simp, hacc', RA'.out.1, RA'.out.2, by simp; omega, HE⟩
    have q1 : ((st : Int) == 1) = false := by simp; omega
    have k32 := hexVal32 (Z j) wr bz
    have hbd := hexV_bd (Z j)
    obtain ⟨v, hv⟩ : ∃ v, v = hexV (Z j) := ⟨_, rfl⟩
    rw [← hv] at k32 hbd
    by_cases h1 : v < 0
    · have HE : Hid (R = none) := by show R = _; rw [HR.out, sfx_cons hlt, mod_hex_bad (by omega) (by rw [← hv]; exact h1)]
      clear hown hv
      go_wp2_with fail
      refine k32.mono ?_
      rintro _ _ ⟨rfl, rfl⟩
      go_wp2_with fail
      go_ret3
      rw [HE.out]
      exact ⟨rfl, hb.out.1⟩
    have ha0 : 0 ≤ acc := hacc.out.1
    have ha1 : acc ≤ 4095 := by have := hacc.out; unfold accB at this; omega
    by_cases hs5 : st = 5
    · subst hs5
      have HE : Hid (R = modL (sfx n Z (j + 1)) (j + 1) 0 (acc * 16 + v) (U ++ [acc * 16 + v])) := by show R = _; rw [HR.out, sfx_cons hlt, mod_hex5 (by rw [← hv]; omega), ← hv]
      have hacc' : Hid (accB 0 (acc * 16 + v)) := (by unfold accB; omega : accB 0 (acc * 16 + v))
      clear hv
      go_wp2_with fail
      refine k32.mono ?_
      rintro _ w2 ⟨rfl, hw2⟩
      subst w2
      clear k32
      go_wp2_with (first
        | (at_builtin; refine wpList_append_own _ rfl _ _ 32 rfl w.heap.size 21 i0 (.int .i32 0) 1 4 Try.underlying32 hi hz0 hz1 hz2 rfl (by decide) _ _ _ rfl (hown.alloc _) ⟨wr.heap.size, 0, none⟩ 1 1 [.int .i32 (acc * 16 + v)] rfl rfl ?c1 ?c2 ?c3 ?c4 ?c5 ?_))
      case c1 =>
        intro j u hj
        match j, hj with
        | 0, hj => simp at hj; subst hj; simp [Addr.add]
      case c2 => intro u hu; simp at hu; subst hu; rfl
      case c3 => unfold maxLen; omega
      case c4 => omega
      case c5 => simp; omega
      intro v' w1 hown' hgrow _
      have RA := rel_app hown hb hown' hgrow
      clear hown' hgrow hown hb
      have RA' : Hid _ := RA
      clear RA
      go_wp2_with fail
      go_roundg (n - (j + 1))
      case measure => go_light; omega
      case rel => go_light; exact ⟨j + 1, 0, _, U ++ [acc * 16 + v], by omega, by omega, rfl, by omega, rfl, rfl, by simp, hacc', RA'.out.1, RA'.out.2, by simp; omega, HE⟩
    · have q5 : ((st : Int) == 5) = false := by simp; omega
      have HE : Hid (R = modL (sfx n Z (j + 1)) (j + 1) (st + 1) (acc * 16 + v) U) := by show R = _; rw [HR.out, sfx_cons hlt, mod_hex (by omega) hs5 (by rw [← hv]; omega), ← hv]
      have hacc' : Hid (accB (st + 1) (acc * 16 + v)) := (by have := hacc.out; unfold accB at *; omega : accB (st + 1) (acc * 16 + v))
      clear hv
      go_wp2_with fail
      refine k32.mono ?_
      rintro _ _ ⟨rfl, rfl⟩
      clear k32
      go_wp2_with fail
      go_roundg (n - (j + 1))
      case measure => go_light; omega
      case rel => go_light; exact ⟨j + 1, st + 1, acc * 16 + v, U, by omega, by omega, rfl, by omega, by simp, by simp, by simp, hacc', hown, hb, by omega, HE⟩
end Go.Proofs.Qxb6602877a
