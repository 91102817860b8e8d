import Derived.Test.Qxb6602193aRows
import Derived.Test.Qxb6602193aKit
namespace Go.Proofs.Qxb6602193a
open Go.RowKit Go.Deep

def numsOf (len : Nat) (Z : Nat → Int) : List Int := (List.range len).map Z

theorem run_conv {w : World} {a : Option Addr} {len : Nat} {Z : Nat → Int} (cap : Nat) (h : Reads .u8 w a len Z) :
    (convert 23 9 (.slice a len cap)).run Try.prog w = .ok (.string (strOfNums (numsOf len Z))) w := by
  cases a with
  | none =>
    obtain rfl := h.none_len
    rw [run_convert_bytes_nil w 23 5 Try.underlying23 Try.underlying5 0 cap 9 Try.underlying9]
    rfl
  | some x =>
    have hl : (loadCells x len).run Try.prog w = .ok ((numsOf len Z).map (Value.int .u8)).toArray w := by
      have := run_loadCells_list (P := Try.prog) w x ((numsOf len Z).map (Value.int .u8)) (fun j v hj => by
        have hjl : j < len := by
          rcases Nat.lt_or_ge j len with h | h
          · exact h
          · simp [numsOf, h] at hj
        obtain ⟨b, o, e, _, hc⟩ := h j hjl
        have e' : x = ⟨b, o, none⟩ := by simpa using e
        subst e'
        rw [Addr.add_lit, hc]
        simp [numsOf, hjl] at hj
        simp [hj])
      simpa [numsOf] using this
    rw [run_convert_bytes_string w 23 9 5 _ len cap Try.underlying23 Try.underlying5 Try.underlying9, run_bytesToString w _ len cap (numsOf len Z) hl, foldl_push_bytes]
    simp [strOfNums, ByteArray.empty, ByteArray.emptyWithCapacity]
    rfl

theorem byte_inj {a b : Int} (ha : 0 ≤ a ∧ a ≤ 255) (hb : 0 ≤ b ∧ b ≤ 255) (h : UInt8.ofNat a.toNat = UInt8.ofNat b.toNat) : a = b := by
  have := congrArg UInt8.toNat h
  simp at this
  omega

theorem strOf_eq {la lb : Nat} {Za Zb : Nat → Int} (ha : ∀ i, 0 ≤ Za i ∧ Za i ≤ 255) (hb : ∀ i, 0 ≤ Zb i ∧ Zb i ≤ 255) :
    (strOfNums (numsOf la Za)).toList = (strOfNums (numsOf lb Zb)).toList ↔ la = lb ∧ ∀ i, i < la → Za i = Zb i := by
  rw [ByteArray.toList_eq, ByteArray.toList_eq, strOfNums_data, strOfNums_data]
  unfold numsOf
  constructor
  · intro h
    have hl : la = lb := by simpa using congrArg List.length h
    subst hl
    refine ⟨rfl, fun i hi => byte_inj (ha i) (hb i) ?_⟩
    have h2 : (((List.range la).map Za).map fun n => UInt8.ofNat n.toNat)[i]? = (((List.range la).map Zb).map fun n => UInt8.ofNat n.toNat)[i]? := by rw [h]
    simpa [hi] using h2
  · rintro ⟨rfl, h⟩
    simp only [List.map_map]
    refine List.map_congr_left fun i hi => ?_
    simp [h i (List.mem_range.1 hi)]

set_option maxHeartbeats 400000 in
theorem bytesEqual (a : Option Addr) (la ca : Nat) (Za : Nat → Int) (b : Option Addr) (lb cb : Nat) (Zb : Nat → Int) (w : World) 
    (ha : Reads .u8 w a la Za) (hb : Reads .u8 w b lb Zb) (ba : ∀ i, 0 ≤ Za i ∧ Za i ≤ 255) (bb : ∀ i, 0 ≤ Zb i ∧ Zb i ≤ 255) :
    Calls Try.prog 20 #[.slice a la ca, .slice b lb cb] w fun e w' => ∃ v, e = .returned (.bool v) ∧
      w' = w ∧ (v = true ↔ la = lb ∧ ∀ i, i < la → Za i = Zb i) := by
  have h1 := run_conv ca ha
  have h2 := run_conv cb hb
  clear ha hb
  go_enter Try.func20, Try.ntmps20
  go_wp2
  go_ret
  refine ⟨_, rfl, rfl, ?_⟩
  rw [beq_iff_eq]
  exact strOf_eq ba bb
end Go.Proofs.Qxb6602193a
