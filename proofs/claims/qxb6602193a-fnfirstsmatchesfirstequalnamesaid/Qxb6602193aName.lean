import Derived.Test.Qxb6602193aRows
import Derived.Test.Qxb6602193aKit
namespace Go.Proofs.Qxb6602193a
open Go.RowKit Go.Deep

/-- The cells of the entries: place, hash and start, one after the other. -/
def entF (P H F : Nat → Int) (i : Nat) : Value := .int .u32 (if i % 3 = 0 then P (i / 3) else if i % 3 = 1 then H (i / 3) else F (i / 3))

theorem ent0 (P H F : Nat → Int) (k : Nat) : entF P H F (k * 3) = .int .u32 (P k) := by
  unfold entF; rw [if_pos (by omega), show k * 3 / 3 = k from by omega]
theorem ent1 (P H F : Nat → Int) (k : Nat) : entF P H F (k * 3 + 1) = .int .u32 (H k) := by
  unfold entF; rw [if_neg (by omega), if_pos (by omega), show (k * 3 + 1) / 3 = k from by omega]
theorem ent2 (P H F : Nat → Int) (k : Nat) : entF P H F (k * 3 + 2) = .int .u32 (F k) := by
  unfold entF; rw [if_neg (by omega), if_neg (by omega), show (k * 3 + 2) / 3 = k from by omega]

theorem cells43 : Try.prog.cellsOf 43 = 3 := by kernel_rfl
theorem cells32 : Try.prog.cellsOf 32 = 2 := by kernel_rfl

/-- Where the k-th name begins and ends. -/
def endOf (n tl : Nat) (F : Nat → Int) (k : Nat) : Int := if k + 1 < n then F (k + 1) else tl

def nmLen (n tl : Nat) (F : Nat → Int) (k : Nat) : Nat := (endOf n tl F k).toNat - (F k).toNat
/-- What a call that hands out a name leaves. -/
def NameRet (m : Nat) (Z : Nat → Int) (w : World) (e : Ending) (w' : World) : Prop := ∃ r c, e = .returned (.slice r m c) ∧ Reads .u8 w' r m Z ∧ Below w.heap.size w w'
theorem NameRet.mk {m m' : Nat} {Z : Nat → Int} {w w' : World} {r : Option Addr} {c : Nat} (hm : m = m') (h1 : Reads .u8 w' r m' Z) (h2 : Below w.heap.size w w') : NameRet m Z w (.returned (.slice r m' c)) w' := by
  subst hm; exact ⟨r, c, rfl, h1, h2⟩
def nmAt (F T : Nat → Int) (k : Nat) : Nat → Int := fun i => T ((F k).toNat + i)

theorem name_reads {w : World} {tb tl n k : Nat} {F T : Nat → Int} (ht : Reads .u8 w (some ⟨tb, 0, none⟩) tl T) (hend : endOf n tl F k ≤ tl) :
    Reads .u8 w (some ⟨tb, (F k).toNat, none⟩) (nmLen n tl F k) (nmAt F T k) := by
  intro i hi
  unfold nmLen at hi
  obtain ⟨_, h2, h3⟩ := ht.at (i := (F k).toNat + i) (by omega)
  rw [Nat.zero_add] at h3
  exact ⟨tb, _, rfl, h2, h3⟩

theorem reads_zero {k : IntKind} {w : World} {a : Option Addr} {len : Nat} {Z : Nat → Int} (h : len = 0) : Reads k w a len Z := by
  intro i hi; omega

theorem name_close {w : World} {o : Obj} {q : Nat} : Below w.heap.size w ((w.alloc o).drewN q) := below_drewN ((Below.refl _ _).alloc (Nat.le_refl _) _) q

set_option maxHeartbeats 400000 in
theorem name_some (eb n tb tl k : Nat) (P H F T : Nat → Int) (w : World) (hn : n ≤ 4096) (htl : tl ≤ 1048576) (hk : k < n)
    (hF : ∀ i, 0 ≤ F i ∧ F i ≤ 4294967295) (hle : F k ≤ endOf n tl F k) (hend : endOf n tl F k ≤ tl)
    (he : w.rowIs eb 43 (3 * n) (entF P H F)) (ht : Reads .u8 w (some ⟨tb, 0, none⟩) tl T) :
    Calls Try.prog 18 #[.agg #[.slice (some ⟨eb, 0, none⟩) n n, .slice (some ⟨tb, 0, none⟩) tl tl], .int .i64 k] w 
      (NameRet (nmLen n tl F k) (nmAt F T k) w) := by
  have c2 : ∀ o, (w.alloc o).cell? ⟨eb, k * 3 + 2, none⟩ = some (.int .u32 (F k)) := fun o => by
    rw [(he.alloc o).cell (i := k * 3 + 2) (by omega), ent2]
  have b1 := hF k
  have b2 := hF (k + 1)
  have hkz : (k : Int) < (n : Int) := by omega
  have HR : Hid (Reads .u8 w (some ⟨tb, (F k).toNat, none⟩) (nmLen n tl F k) (nmAt F T k)) := name_reads ht hend
  clear ht
  by_cases hl : k + 1 < n
  · have hlz : (k : Int) + 1 < (n : Int) := by omega
    have c1 : ∀ o, (w.alloc o).cell? ⟨eb, (k + 1) * 3 + 2, none⟩ = some (.int .u32 (F (k + 1))) := fun o => by
      rw [(he.alloc o).cell (i := (k + 1) * 3 + 2) (by omega), ent2]
    have hE : endOf n tl F k = F (k + 1) := by unfold endOf; rw [if_pos hl]
    have hm : nmLen n tl F k = (F (k + 1)).toNat - (F k).toNat := by unfold nmLen; rw [hE]
    rw [hE] at hle hend
    clear hE hF he
    generalize nmLen n tl F k = m at *
    have HE : Hid (m = (F (k + 1)).toNat - (F k).toNat) := hm
    clear hm
    go_enter Try.func18, Try.ntmps18
    go_wp2
    go_quiet (fail)
    go_wp2
    · go_ret
      exact NameRet.mk (by have := HE.out; omega) (reads_zero (by omega)) name_close
    · go_ret
      rw [HE.out] at HR
      exact NameRet.mk HE.out (HR.out.below name_close) name_close
  · have hlz : ¬ (k : Int) + 1 < (n : Int) := by omega
    have hE : endOf n tl F k = tl := by unfold endOf; rw [if_neg hl]
    have hm : nmLen n tl F k = tl - (F k).toNat := by unfold nmLen; rw [hE]; simp
    rw [hE] at hle hend
    clear hE hF he
    generalize nmLen n tl F k = m at *
    have HE : Hid (m = tl - (F k).toNat) := hm
    clear hm
    go_enter Try.func18, Try.ntmps18
    go_wp2
    go_quiet (fail)
    go_wp2
    · go_ret
      exact NameRet.mk (by have := HE.out; omega) (reads_zero (by omega)) name_close
    · go_ret
      rw [HE.out] at HR
      exact NameRet.mk HE.out (HR.out.below name_close) name_close

set_option maxHeartbeats 400000 in
theorem name_none (eb n k : Nat) (P H F T : Nat → Int) (w : World) (hn : n ≤ 4096) (hk : k < n)
    (hF : ∀ i, 0 ≤ F i ∧ F i ≤ 4294967295) (hle : F k ≤ endOf n 0 F k) (hend : endOf n 0 F k ≤ (0 : Nat))
    (he : w.rowIs eb 43 (3 * n) (entF P H F)) :
    Calls Try.prog 18 #[.agg #[.slice (some ⟨eb, 0, none⟩) n n, .slice none 0 0], .int .i64 k] w 
      (NameRet (nmLen n 0 F k) (nmAt F T k) w) := by
  have hf0 : F k = 0 := by have := (hF k).1; omega
  have c2 : ∀ o, (w.alloc o).cell? ⟨eb, k * 3 + 2, none⟩ = some (.int .u32 0) := fun o => by
    rw [(he.alloc o).cell (i := k * 3 + 2) (by omega), ent2, hf0]
  have hkz : (k : Int) < (n : Int) := by omega
  have HE : Hid (nmLen n 0 F k = 0) := by show nmLen n 0 F k = _; unfold nmLen; omega
  by_cases hl : k + 1 < n
  · have hlz : (k : Int) + 1 < (n : Int) := by omega
    have hE : endOf n 0 F k = F (k + 1) := by unfold endOf; rw [if_pos hl]
    have hf1 : F (k + 1) = 0 := by have := (hF (k + 1)).1; omega
    have c1 : ∀ o, (w.alloc o).cell? ⟨eb, (k + 1) * 3 + 2, none⟩ = some (.int .u32 0) := fun o => by
      rw [(he.alloc o).cell (i := (k + 1) * 3 + 2) (by omega), ent2, hf1]
    clear hE hF he hf0 hf1 hle hend
    go_enter Try.func18, Try.ntmps18
    go_wp2
    go_quiet (fail)
    go_wp2
    go_ret
    exact NameRet.mk HE.out (reads_zero rfl) name_close
  · have hlz : ¬ (k : Int) + 1 < (n : Int) := by omega
    clear hF he hf0 hle hend
    go_enter Try.func18, Try.ntmps18
    go_wp2
    go_quiet (fail)
    go_wp2
    go_ret
    exact NameRet.mk HE.out (reads_zero rfl) name_close

/-- The text of a part: its slice, whose length is its capacity. -/
def TextIs (w : World) (tr : Option Addr) (tl : Nat) (T : Nat → Int) : Prop := (tr = none ∧ tl = 0) ∨ ∃ tb, tr = some ⟨tb, 0, none⟩ ∧ Reads .u8 w (some ⟨tb, 0, none⟩) tl T

theorem TextIs.below {w w' : World} {tr : Option Addr} {tl : Nat} {T : Nat → Int} (h : TextIs w tr tl T) (hb : Below w.heap.size w w') : TextIs w' tr tl T := by
  rcases h with h | ⟨tb, e, h⟩
  · exact .inl h
  · exact .inr ⟨tb, e, h.below hb⟩

theorem name_any (eb n : Nat) (tr : Option Addr) (tl k : Nat) (P H F T : Nat → Int) (w : World) (hn : n ≤ 4096) (htl : tl ≤ 1048576) (hk : k < n)
    (hF : ∀ i, 0 ≤ F i ∧ F i ≤ 4294967295) (hle : F k ≤ endOf n tl F k) (hend : endOf n tl F k ≤ tl)
    (he : w.rowIs eb 43 (3 * n) (entF P H F)) (ht : TextIs w tr tl T) :
    Calls Try.prog 18 #[.agg #[.slice (some ⟨eb, 0, none⟩) n n, .slice tr tl tl], .int .i64 k] w 
      (NameRet (nmLen n tl F k) (nmAt F T k) w) := by
  rcases ht with ⟨rfl, rfl⟩ | ⟨tb, rfl, h⟩
  · exact name_none eb n k P H F T w hn hk hF hle hend he
  · exact name_some eb n tb tl k P H F T w hn htl hk hF hle hend he h

set_option maxHeartbeats 400000 in
theorem zzName_any (eb n : Nat) (tr : Option Addr) (tl k : Nat) (P H F T : Nat → Int) (w : World) (hn : n ≤ 4096) (htl : tl ≤ 1048576) (hk : k < n)
    (hF : ∀ i, 0 ≤ F i ∧ F i ≤ 4294967295) (hle : F k ≤ endOf n tl F k) (hend : endOf n tl F k ≤ tl)
    (he : w.rowIs eb 43 (3 * n) (entF P H F)) (ht : TextIs w tr tl T) :
    Calls Try.prog 12 #[.agg #[.slice (some ⟨eb, 0, none⟩) n n, .slice tr tl tl], .int .i64 k] w 
      (NameRet (nmLen n tl F k) (nmAt F T k) w) := by
  go_enter Try.func12, Try.ntmps12
  go_wp2_with fail
  refine (name_any eb n tr tl k P H F T _ hn htl hk hF hle hend (he.alloc _) (ht.below ((Below.refl _ _).alloc (Nat.le_refl _) _))).mono ?_
  rintro e w' ⟨r, c, rfl, h1, h2⟩
  go_wp2
  go_ret
  exact NameRet.mk rfl h1 (((Below.refl _ _).alloc (Nat.le_refl _) _).trans (h2.mono (by simp)))

end Go.Proofs.Qxb6602193a
