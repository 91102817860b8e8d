import Derived.Test.Qxb6602877aRows
import Derived.Test.Qxb6602877aKit
import Derived.Test.Qxb6602877aAuto
import Derived.Lib.ConvBytes
namespace Go.Proofs.Qxb6602877a
open Go.RowKit Go.Deep

def numsOf (len : Nat) (Z : Nat → Int) : List Int := (List.range len).map Z

theorem run_conv {w : World} {a : Option Addr} {len : Nat} {Z : Nat → Int} (cap : Nat) (h : Reads .u8 w a len Z) :
    (convert 22 9 (.slice a len cap)).run Try.prog w = .ok (.string (strOfNums (numsOf len Z))) w := by
  cases a with
  | none =>
    obtain rfl := h.none_len
    rw [run_convert_bytes_nil w 22 5 Try.underlying22 Try.underlying5 0 cap 9 Try.underlying9]
    rfl
  | some x =>
    have hl : (loadCells x len).run Try.prog w = .ok ((numsOf len Z).map (Value.int .u8)).toArray w := by
      have := run_loadCells_list (P := Try.prog) w x ((numsOf len Z).map (Value.int .u8)) (fun j v hj => by
        have hjl : j < len := by
          rcases Nat.lt_or_ge j len with h | h
          · exact h
          · simp [numsOf, h] at hj
        obtain ⟨b, o, e, _, hc⟩ := h j hjl
        have e' : x = ⟨b, o, none⟩ := by simpa using e
        subst e'
        rw [Addr.add_lit, hc]
        simp [numsOf, hjl] at hj
        simp [hj])
      simpa [numsOf] using this
    rw [run_convert_bytes_string w 22 9 5 _ len cap Try.underlying22 Try.underlying5 Try.underlying9, run_bytesToString w _ len cap (numsOf len Z) hl, foldl_push_bytes]
    simp [strOfNums, ByteArray.empty, ByteArray.emptyWithCapacity]
    rfl

theorem byte_inj {a b : Int} (ha : 0 ≤ a ∧ a ≤ 255) (hb : 0 ≤ b ∧ b ≤ 255) (h : UInt8.ofNat a.toNat = UInt8.ofNat b.toNat) : a = b := by
  have := congrArg UInt8.toNat h
  simp at this
  omega

theorem strOf_eq {la lb : Nat} {Za Zb : Nat → Int} (ha : ∀ i, 0 ≤ Za i ∧ Za i ≤ 255) (hb : ∀ i, 0 ≤ Zb i ∧ Zb i ≤ 255) :
    (strOfNums (numsOf la Za)).toList = (strOfNums (numsOf lb Zb)).toList ↔ la = lb ∧ ∀ i, i < la → Za i = Zb i := by
  rw [ByteArray.toList_eq, ByteArray.toList_eq, strOfNums_data, strOfNums_data]
  unfold numsOf
  constructor
  · intro h
    have hl : la = lb := by simpa using congrArg List.length h
    subst hl
    refine ⟨rfl, fun i hi => byte_inj (ha i) (hb i) ?_⟩
    have h2 : (((List.range la).map Za).map fun n => UInt8.ofNat n.toNat)[i]? = (((List.range la).map Zb).map fun n => UInt8.ofNat n.toNat)[i]? := by rw [h]
    simpa [hi] using h2
  · rintro ⟨rfl, h⟩
    simp only [List.map_map]
    refine List.map_congr_left fun i hi => ?_
    simp [h i (List.mem_range.1 hi)]

def EqAt (v : Bool) (la lb : Nat) (Za Zb : Nat → Int) : Prop := v = true ↔ la = lb ∧ ∀ i, i < la → Za i = Zb i
def PreAt (v : Bool) (lb la : Nat) (Za Zb : Nat → Int) : Prop := v = true ↔ lb ≤ la ∧ ∀ i, i < lb → Za i = Zb i

set_option maxHeartbeats 400000 in
theorem equal42 (a : Option Addr) (la ca : Nat) (Za : Nat → Int) (b : Option Addr) (lb cb : Nat) (Zb : Nat → Int) (w : World)
    (ha : Reads .u8 w a la Za) (hb : Reads .u8 w b lb Zb) (ba : ∀ i, 0 ≤ Za i ∧ Za i ≤ 255) (bb : ∀ i, 0 ≤ Zb i ∧ Zb i ≤ 255) :
    Calls Try.prog 42 #[.slice a la ca, .slice b lb cb] w fun e w' => ∃ v, e = .returned (.bool v) ∧
      w' = w ∧ EqAt v la lb Za Zb := by
  have h1 := run_conv ca ha
  have h2 := run_conv cb hb
  clear ha hb
  go_enter Try.func42, Try.ntmps42
  go_wp2
  go_ret
  refine ⟨_, rfl, rfl, ?_⟩
  unfold EqAt
  rw [beq_iff_eq]
  exact strOf_eq ba bb

set_option maxHeartbeats 1000000 in
theorem prefix40 (b o la ca : Nat) (Za : Nat → Int) (r : Option Addr) (lb cb : Nat) (Zb : Nat → Int) (w : World) (hca : la ≤ ca)
    (ha : Reads .u8 w (some ⟨b, o, none⟩) la Za) (hb : Reads .u8 w r lb Zb) (ba : ∀ i, 0 ≤ Za i ∧ Za i ≤ 255) (bb : ∀ i, 0 ≤ Zb i ∧ Zb i ≤ 255) :
    Calls Try.prog 40 #[.slice (some ⟨b, o, none⟩) la ca, .slice r lb cb] w fun e w' => ∃ v, e = .returned (.bool v) ∧ w' = w ∧ PreAt v lb la Za Zb := by
  by_cases h : lb ≤ la
  · have hz : (lb : Int) ≤ (la : Int) := by omega
    have hz2 : (lb : Int) ≤ (ca : Int) := by omega
    have hc := fun ca' => equal42 (some ⟨b, o, none⟩) lb ca' Za r lb cb Zb w (fun i hi => ha i (by omega)) hb ba bb
    clear ha hb
    go_enter Try.func40, Try.ntmps40
    go_wp2_with fail
    refine (hc _).mono ?_
    rintro _ w2 ⟨v, rfl, hw2, hv⟩
    subst w2
    have hv' : Hid (EqAt v lb lb Za Zb) := hv
    clear hv hc
    cases v with
    | true =>
      go_wp2_with fail
      go_ret
      exact ⟨true, rfl, rfl, iff_of_true rfl ⟨h, (Iff.mp hv'.out rfl).2⟩⟩
    | false =>
      go_wp2_with fail
      go_ret
      exact ⟨false, rfl, rfl, iff_of_false (by decide) (fun h2 => by have := Iff.mpr hv'.out ⟨rfl, h2.2⟩; cases this)⟩
  · have hz : ¬ (lb : Int) ≤ (la : Int) := by omega
    clear ha hb
    go_enter Try.func40, Try.ntmps40
    go_wp2_with fail
    go_ret
    exact .inl ⟨rfl, rfl, iff_of_false (by decide) (fun h2 => h h2.1)⟩

/-- '[]byte(lit)'. -/
theorem conv_run (w : World) (s : ByteArray) :
    ∃ W cap, (convert 9 22 (.string s)).run Try.prog w = .ok (.slice (some ⟨w.heap.size, 0, none⟩) s.size cap) W ∧ Reads .u8 W (some ⟨w.heap.size, 0, none⟩) s.size (fun i => ((s.data.toList.getD i 0).toNat : Int)) ∧ Below w.heap.size w W := by
  refine ⟨_, _, Lib.run_convert_string_bytes w 9 22 5 s Try.underlying9 Try.underlying22 Try.underlying5, fun i hi => ⟨w.heap.size, 0, rfl, ?_, ?_⟩, ⟨rfl, rfl, rfl, ?_, fun k hk => Lib.bytesWorld_at_old w 5 s k hk⟩⟩
  · rw [Lib.bytesWorld_size]; omega
  · rw [Nat.zero_add]; exact Lib.bytesWorld_cell w 5 s i hi
  · rw [Lib.bytesWorld_size]; omega

/-! ### The three words -/

def litS : Nat → ByteArray
  | 0 => ⟨#[116, 114, 117, 101]⟩
  | 1 => ⟨#[102, 97, 108, 115, 101]⟩
  | _ => ⟨#[110, 117, 108, 108]⟩

def litZ (k : Nat) : List Int := (litS k).data.toList.map (fun b => (b.toNat : Int))

def litF : Nat → List Int → Nat → Option Nat
  | 0, L, j => litL L j
  | 1, L, j => if L.take 5 = [102, 97, 108, 115, 101] then some (j + 5) else if L.take 4 = [110, 117, 108, 108] then some (j + 4) else none
  | 2, L, j => if L.take 4 = [110, 117, 108, 108] then some (j + 4) else none
  | _, _, _ => none

theorem litS_le (k : Nat) : (litS k).size ≤ 5 := by
  match k with
  | 0 => decide
  | 1 => decide
  | k + 2 => show (4 : Nat) ≤ 5; omega

theorem litF_hit {k : Nat} (hk : k < 3) {L : List Int} {j : Nat} (h : L.take (litS k).size = litZ k) : litF k L j = some (j + (litS k).size) := by
  match k, hk with
  | 0, _ => exact if_pos h
  | 1, _ => exact if_pos h
  | 2, _ => exact if_pos h

theorem litF_miss {k : Nat} (hk : k < 3) {L : List Int} {j : Nat} (h : ¬ L.take (litS k).size = litZ k) : litF k L j = litF (k + 1) L j := by
  match k, hk with
  | 0, _ => exact if_neg h
  | 1, _ => exact if_neg h
  | 2, _ => exact if_neg h

theorem take_iff (n : Nat) (Z : Nat → Int) (i : Nat) (ws : List Int) : (sfx n Z i).take ws.length = ws ↔ ws.length ≤ n - i ∧ ∀ t, t < ws.length → Z (i + t) = ws.getD t 0 := by
  constructor
  · intro h
    have hl : ws.length ≤ n - i := by
      have := congrArg List.length h
      rw [List.length_take, sfx_length] at this
      omega
    refine ⟨hl, fun t ht => ?_⟩
    have h2 : ((sfx n Z i).take ws.length)[t]? = ws[t]? := by rw [h]
    rw [List.getElem?_take_of_lt ht] at h2
    simp [sfx, show t < n - i by omega] at h2
    rw [List.getD_eq_getElem?_getD, ← h2]
    rfl
  · rintro ⟨hl, h⟩
    apply List.ext_getElem
    · rw [List.length_take, sfx_length]; omega
    · intro t h1 h2
      have := h t h2
      rw [List.getD_eq_getElem?_getD, List.getElem?_eq_getElem h2] at this
      simp [sfx]
      exact this

theorem litZ_length (k : Nat) : (litZ k).length = (litS k).size := by unfold litZ; rw [List.length_map]; rfl
theorem litZ_get (k t : Nat) (h : t < (litS k).size) : (litZ k).getD t 0 = (((litS k).data.toList.getD t 0).toNat : Int) := by
  unfold litZ
  have h' : t < (litS k).data.toList.length := h
  rw [List.getD_eq_getElem?_getD, List.getElem?_map, List.getElem?_eq_getElem h', List.getD_eq_getElem?_getD, List.getElem?_eq_getElem h']
  rfl

/-- The prefix at place i, in the words of the list. -/
theorem lit_iff (n : Nat) (Z : Nat → Int) (i k : Nat) : ((litS k).size ≤ n - i ∧ ∀ t, t < (litS k).size → Z (i + t) = (((litS k).data.toList.getD t 0).toNat : Int)) ↔ (sfx n Z i).take (litS k).size = litZ k := by
  rw [← litZ_length, take_iff, litZ_length]
  constructor
  · rintro ⟨a, b⟩; exact ⟨a, fun t ht => by rw [litZ_get k t ht]; exact b t ht⟩
  · rintro ⟨a, b⟩; exact ⟨a, fun t ht => by rw [← litZ_get k t ht]; exact b t ht⟩
end Go.Proofs.Qxb6602877a
