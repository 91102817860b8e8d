import Derived.Test.Qxb6602877aRows
import Derived.Test.Qxb6602877aKit
import Derived.Test.Qxb6602877aPlain
namespace Go.Proofs.Qxb6602877a
open Go.RowKit Go.Deep

def hexRet : Option Int → Ending
  | some u => .returned (.tuple #[.int .i32 u, .bool true])
  | none => .returned (.tuple #[.int .i32 0, .bool false])

def accV (Z : Nat → Int) (i : Nat) : Nat → Int
  | 0 => 0
  | k + 1 => accV Z i k * 16 + hexV (Z (i + k))

theorem or16 (v d : Int) (h1 : 0 ≤ v) (h2 : v ≤ 65535) (h3 : 0 ≤ d) (h4 : d ≤ 15) : bits .or .i32 (v * 16) d = v * 16 + d := by
  obtain ⟨a, rfl⟩ := Int.eq_ofNat_of_zero_le h1
  obtain ⟨b, rfl⟩ := Int.eq_ofNat_of_zero_le h3
  have e : ((a : Int) * 16) = ((a * 16 : Nat) : Int) := by omega
  rw [e]
  have g1 : (BitVec.ofInt 32 ((a * 16 : Nat) : Int)).toNat = a * 16 := by
    rw [BitVec.ofInt_natCast, BitVec.toNat_ofNat]; exact Nat.mod_eq_of_lt (by omega)
  have g2 : (BitVec.ofInt 32 (b : Int)).toNat = b := by
    rw [BitVec.ofInt_natCast, BitVec.toNat_ofNat]; exact Nat.mod_eq_of_lt (by omega)
  show IntKind.i32.wrap ((BitVec.ofInt 32 ((a * 16 : Nat) : Int) ||| BitVec.ofInt 32 (b : Int)).toNat : Int) = _
  have g3 : a * 16 ||| b = a * 16 + b := by
    have := Nat.shiftLeft_add_eq_or_of_lt (i := 4) (b := b) (by omega) a
    rw [Nat.shiftLeft_eq] at this
    exact this.symm
  rw [BitVec.toNat_or, g1, g2, g3]
  simp only [IntKind.wrap, IntKind.bits, IntKind.signed]
  simp
  omega

theorem hexL_short {n i : Nat} {Z : Nat → Int} (h : n < i + 4) : hexL (sfx n Z i) = none := by
  have hl := sfx_length n Z i
  generalize sfx n Z i = L at *
  match L, hl with
  | [], _ => rfl
  | [_], _ => rfl
  | [_, _], _ => rfl
  | [_, _, _], _ => rfl
  | _ :: _ :: _ :: _ :: _, hl => simp at hl; omega

theorem hexL_open {n i : Nat} {Z : Nat → Int} (h : i + 4 ≤ n) : hexL (sfx n Z i) = if 0 ≤ hexV (Z i) ∧ 0 ≤ hexV (Z (i + 1)) ∧ 0 ≤ hexV (Z (i + 2)) ∧ 0 ≤ hexV (Z (i + 3)) then some (val4 (Z i) (Z (i + 1)) (Z (i + 2)) (Z (i + 3))) else none := by
  rw [sfx_cons (by omega), sfx_cons (by omega), sfx_cons (by omega), sfx_cons (by omega), hexL]

theorem hexL_ok {n i : Nat} {Z : Nat → Int} (h : i + 4 ≤ n) (hh : ∀ t, t < 4 → 0 ≤ hexV (Z (i + t))) : hexL (sfx n Z i) = some (accV Z i 4) := by
  rw [hexL_open h, if_pos ⟨hh 0 (by omega), hh 1 (by omega), hh 2 (by omega), hh 3 (by omega)⟩]
  simp only [val4, accV, Nat.add_zero]
  congr 1
  omega

theorem hexL_bad {n i k : Nat} {Z : Nat → Int} (h : i + 4 ≤ n) (hk : k < 4) (hh : hexV (Z (i + k)) < 0) : hexL (sfx n Z i) = none := by
  rw [hexL_open h, if_neg]
  rintro ⟨a, b, c, d⟩
  match k, hk with
  | 0, _ => rw [Nat.add_zero] at hh; omega
  | 1, _ => omega
  | 2, _ => omega
  | 3, _ => omega

theorem accV_bd {Z : Nat → Int} {i : Nat} : ∀ k, k ≤ 4 → (∀ t, t < k → 0 ≤ hexV (Z (i + t))) → 0 ≤ accV Z i k ∧ (k ≤ 3 → accV Z i k ≤ 4095) ∧ accV Z i k ≤ 65535
  | 0, _, _ => by simp [accV]
  | 1, _, h => by have := h 0 (by omega); have := hexV_bd (Z (i + 0)); simp only [accV]; omega
  | 2, _, h => by have := h 0 (by omega); have := h 1 (by omega); have := hexV_bd (Z (i + 0)); have := hexV_bd (Z (i + 1)); simp only [accV]; omega
  | 3, _, h => by
    have := h 0 (by omega); have := h 1 (by omega); have := h 2 (by omega)
    have := hexV_bd (Z (i + 0)); have := hexV_bd (Z (i + 1)); have := hexV_bd (Z (i + 2)); simp only [accV]; omega
  | 4, _, h => by
    have := h 0 (by omega); have := h 1 (by omega); have := h 2 (by omega); have := h 3 (by omega)
    have := hexV_bd (Z (i + 0)); have := hexV_bd (Z (i + 1)); have := hexV_bd (Z (i + 2)); have := hexV_bd (Z (i + 3)); simp only [accV]; omega
  | k + 5, h, _ => by omega

set_option maxHeartbeats 1000000 in
theorem hex4 (a : Option Addr) (n i : Nat) (Z : Nat → Int) (w : World) (hn : n ≤ 1048576) (hi : i ≤ n) (hZ : ∀ i, 0 ≤ Z i ∧ Z i ≤ 255) (hr : Reads .u8 w a n Z) :
    Calls Try.prog 37 #[.slice a n n, .int .i64 i] w fun e w' => e = hexRet (hexL (sfx n Z i)) ∧ w' = w := by
  by_cases h4 : n < i + 4
  · rw [hexL_short h4]
    have q : (n : Int) < (i : Int) + 4 := by omega
    go_enter Try.func37, Try.ntmps37
    go_wp2
    go_ret2
    exact ⟨rfl, rfl⟩
  · have q : ¬ (n : Int) < (i : Int) + 4 := by omega
    obtain ⟨b, o, rfl, _, hcell⟩ := hr.form (i := i) (by omega)
    have hin : ¬ n = i := by omega
    have q1 : (i : Int) + 4 ≤ (n : Int) := by omega
    clear hr
    obtain ⟨R, hR⟩ : ∃ R, R = hexL (sfx n Z i) := ⟨_, rfl⟩
    rw [← hR]
    have HR : Hid (R = hexL (sfx n Z i)) := hR
    clear hR
    go_enter Try.func37, Try.ntmps37
    go_wp2
    go_loopg [6, 20] 4 (fun g ac e wr => wr = w ∧ ∃ (k : Nat) (v : Int), k ≤ 4 ∧ g = 4 - k ∧ e = .int .i64 k ∧ ac = .int .i32 v ∧ Hid (v = accV Z i k) ∧ Hid (∀ t, t < k → 0 ≤ hexV (Z (i + t))))
    case atStart => exact ⟨rfl, 0, 0, by omega, rfl, rfl, rfl, rfl, fun t ht => by omega⟩
    case round =>
      obtain ⟨rfl, k, v, hk, rfl, rfl, rfl, hv, hall⟩ := hrel
      have hb := accV_bd k hk hall.out
      rw [← hv.out] at hb
      by_cases hlt : k < 4
      · have hltz : (k : Int) < 4 := by omega
        have c1 := hcell (i + k) (by omega)
        rw [← Nat.add_assoc] at c1
        have bz := hZ (i + k)
        have hv3 := hb.2.1 (by omega)
        have hv0 := hb.1
        clear hb hcell
        obtain ⟨c, hc⟩ : ∃ c, c = Z (i + k) := ⟨_, rfl⟩
        rw [← hc] at c1 bz
        have HC : Hid (c = Z (i + k)) := hc
        clear hc
        have step : ∀ d, hexV c = d → 0 ≤ d → Hid (v * 16 + d = accV Z i (k + 1)) ∧ Hid (∀ t, t < k + 1 → 0 ≤ hexV (Z (i + t))) := fun d hd h0 => by
          refine ⟨?_, fun t ht => ?_⟩
          · show v * 16 + d = accV Z i k * 16 + hexV (Z (i + k))
            rw [hv.out, ← HC.out, hd]
          · by_cases h : t = k
            · rw [h, ← HC.out, hd]; exact h0
            · exact hall.out t (by omega)
        by_cases h1 : 48 ≤ c ∧ c ≤ 57
        · obtain ⟨s1, s2⟩ := step (c - 48) (by unfold hexV; rw [if_pos h1]) (by omega)
          obtain ⟨h1, h2⟩ := h1
          have ho := or16 v (c - 48) hv0 (by omega) (by omega) (by omega)
          clear step
          go_wp2
          go_roundg (4 - (k + 1))
          case measure => go_light; omega
          case rel => go_light; exact ⟨rfl, k + 1, _, by omega, rfl, by simp, rfl, s1, s2⟩
        · have q2 : (decide (48 ≤ c) && decide (c ≤ 57)) = false := by rw [← Bool.decide_and]; exact decide_eq_false h1
          by_cases h2 : 97 ≤ c ∧ c ≤ 102
          · obtain ⟨s1, s2⟩ := step (c - 97 + 10) (by unfold hexV; rw [if_neg h1, if_pos h2]) (by omega)
            obtain ⟨h2, h3⟩ := h2
            have ho := or16 v (c - 97 + 10) hv0 (by omega) (by omega) (by omega)
            have q3 : decide (48 ≤ c) = true := decide_eq_true (by omega)
            have q4 : decide (c ≤ 57) = false := decide_eq_false (by omega)
            clear step h1 q2
            go_wp2
            go_roundg (4 - (k + 1))
            case measure => go_light; omega
            case rel => go_light; exact ⟨rfl, k + 1, _, by omega, rfl, by simp, rfl, s1, s2⟩
          · by_cases h3 : 65 ≤ c ∧ c ≤ 70
            · obtain ⟨s1, s2⟩ := step (c - 65 + 10) (by unfold hexV; rw [if_neg h1, if_neg h2, if_pos h3]) (by omega)
              obtain ⟨h3, h4⟩ := h3
              have ho := or16 v (c - 65 + 10) hv0 (by omega) (by omega) (by omega)
              have q3 : decide (48 ≤ c) = true := decide_eq_true (by omega)
              have q4 : decide (c ≤ 57) = false := decide_eq_false (by omega)
              have q5 : decide (97 ≤ c) = false := decide_eq_false (by omega)
              clear step h1 h2 q2
              go_wp2
              go_roundg (4 - (k + 1))
              case measure => go_light; omega
              case rel => go_light; exact ⟨rfl, k + 1, _, by omega, rfl, by simp, rfl, s1, s2⟩
            · have hneg : hexV c = -1 := by unfold hexV; rw [if_neg h1, if_neg h2, if_neg h3]
              have HE : Hid (R = none) := by
                show R = none
                rw [HR.out, hexL_bad (by omega) hlt (by rw [← HC.out, hneg]; omega)]
              clear step hneg q2
              go_wp2
              all_goals
                go_ret2
                rw [HE.out]
                exact ⟨rfl, rfl⟩
      · obtain rfl : k = 4 := by omega
        have HE : Hid (R = some v) := by show R = _; rw [HR.out, hexL_ok (by omega) hall.out, hv.out]
        go_wp2
        go_ret2
        rw [HE.out]
        exact ⟨rfl, rfl⟩
end Go.Proofs.Qxb6602877a
