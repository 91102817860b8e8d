import Derived.Test.Qxb6602877aPlain
namespace Go.Proofs.Qxb6602877a

/-! ### The pairing of surrogates -/

def step (s : Bool × Bool) (u : Int) : Bool × Bool := (s.1 && (s.2 == isLow u), isHigh u)
def stat (U : List Int) : Bool × Bool := U.foldl step (true, false)
def paired (U : List Int) : Bool := (stat U).1 && !(stat U).2

theorem stat_snoc (U : List Int) (u : Int) : stat (U ++ [u]) = step (stat U) u := by unfold stat; rw [List.foldl_append]; rfl

/-- Was the unit ahead of place i a high surrogate? -/
def before (U : Nat → Int) (i : Nat) : Bool := match i with
  | 0 => false
  | i + 1 => isHigh (U i)

def listF (U : Nat → Int) (n : Nat) : List Int := (List.range n).map U
theorem listF_succ (U : Nat → Int) (n : Nat) : listF U (n + 1) = listF U n ++ [U n] := by unfold listF; rw [List.range_succ, List.map_append]; rfl
theorem listF_length (U : Nat → Int) (n : Nat) : (listF U n).length = n := by simp [listF]
theorem listF_eq (L : List Int) : listF (fun i => L.getD i 0) L.length = L := by
  unfold listF
  apply List.ext_getElem
  · simp
  · intro i h1 h2
    simp [h2, List.getD_eq_getElem?_getD]

theorem stat_spec (U : Nat → Int) : ∀ n, (stat (listF U n)).2 = before U n ∧ ((stat (listF U n)).1 = true ↔ ∀ i, i < n → before U i = isLow (U i))
  | 0 => ⟨rfl, ⟨fun _ i hi => by omega, fun _ => rfl⟩⟩
  | n + 1 => by
    obtain ⟨h1, h2⟩ := stat_spec U n
    rw [listF_succ, stat_snoc]
    refine ⟨rfl, ?_⟩
    show ((stat (listF U n)).1 && ((stat (listF U n)).2 == isLow (U n))) = true ↔ _
    rw [Bool.and_eq_true, h2, h1, beq_iff_eq]
    constructor
    · rintro ⟨a, b⟩ i hi
      by_cases h : i = n
      · subst h; exact b
      · exact a i (by omega)
    · intro h
      exact ⟨fun i hi => h i (by omega), h n (by omega)⟩

/-- What the second pass asks at place k. -/
def okAt (U : Nat → Int) (n k : Nat) : Bool := (!isHigh (U k) || (decide (k + 1 < n) && isLow (U (k + 1)))) && (!isLow (U k) || before U k)

theorem paired_iff (U : Nat → Int) (n : Nat) : paired (listF U n) = true ↔ ∀ k, k < n → okAt U n k = true := by
  obtain ⟨h1, h2⟩ := stat_spec U n
  unfold paired
  rw [Bool.and_eq_true, h2, h1]
  constructor
  · rintro ⟨ha, hb⟩ k hk
    unfold okAt
    rw [Bool.and_eq_true]
    constructor
    · cases hh : isHigh (U k) with
      | false => rfl
      | true =>
        by_cases hl : k + 1 < n
        · have := ha (k + 1) hl
          simp only [before, hh] at this
          simp [hl, ← this]
        · have : n = k + 1 := by omega
          subst this
          simp [before, hh] at hb
    · cases hh : isLow (U k) with
      | false => rfl
      | true => rw [ha k hk, hh]; rfl
  · intro h
    constructor
    · intro i hi
      cases hl : isLow (U i) with
      | true =>
        have := h i hi
        unfold okAt at this
        simp [hl] at this
        exact this.2
      | false =>
        cases i with
        | zero => rfl
        | succ i =>
          have := h i (by omega)
          unfold okAt at this
          show isHigh (U i) = false
          cases hh : isHigh (U i) with
          | false => rfl
          | true => simp [hh, hl] at this
    · cases n with
      | zero => rfl
      | succ n =>
        have := h n (by omega)
        unfold okAt at this
        show (!isHigh (U n)) = true
        cases hh : isHigh (U n) with
        | false => rfl
        | true => simp [hh] at this

/-! ### The model's first pass -/

def modL : List Int → Nat → Nat → Int → List Int → Option (Nat × Bool)
  | [], _, _, _, _ => none
  | c :: r, j, st, acc, U =>
    if st = 0 then
      if c = 34 then some (j + 1, paired U)
      else if c < 32 then none
      else if c = 92 then modL r (j + 1) 1 acc U
      else modL r (j + 1) 0 acc (U ++ [-1])
    else if st = 1 then
      if c = 117 then modL r (j + 1) 2 0 U
      else if simpleE c = true then modL r (j + 1) 0 acc (U ++ [-1])
      else none
    else if hexV c < 0 then none
    else if st = 5 then modL r (j + 1) 0 (acc * 16 + hexV c) (U ++ [acc * 16 + hexV c])
    else modL r (j + 1) (st + 1) (acc * 16 + hexV c) U

theorem mod_hex_bad {c : Int} {r : List Int} {j st : Nat} {acc : Int} {U : List Int} (h : 2 ≤ st) (hc : hexV c < 0) : modL (c :: r) j st acc U = none := by
  rw [modL, if_neg (by omega), if_neg (by omega), if_pos hc]
theorem mod_hex {c : Int} {r : List Int} {j st : Nat} {acc : Int} {U : List Int} (h : 2 ≤ st) (h5 : st ≠ 5) (hc : 0 ≤ hexV c) : modL (c :: r) j st acc U = modL r (j + 1) (st + 1) (acc * 16 + hexV c) U := by
  rw [modL, if_neg (by omega), if_neg (by omega), if_neg (by omega), if_neg h5]
theorem mod_hex5 {c : Int} {r : List Int} {j : Nat} {acc : Int} {U : List Int} (hc : 0 ≤ hexV c) : modL (c :: r) j 5 acc U = modL r (j + 1) 0 (acc * 16 + hexV c) (U ++ [acc * 16 + hexV c]) := by
  rw [modL, if_neg (by omega), if_neg (by omega), if_neg (by omega), if_pos rfl]

/-- THE LAW: the two passes come to what the one pass comes to. -/
theorem mod_scan : ∀ (m : Nat) (L : List Int), L.length ≤ m → ∀ (j : Nat) (acc : Int) (U : List Int), modL L j 0 acc U = scanL L j (stat U).1 (stat U).2
  | _, [], _, _, _, _ => rfl
  | m, c :: r, hm, j, acc, U => by
    have ih : ∀ (L : List Int), L.length < (c :: r).length → ∀ (j : Nat) (acc : Int) (U : List Int), modL L j 0 acc U = scanL L j (stat U).1 (stat U).2 := by
      cases m with
      | zero => simp at hm
      | succ m => exact fun L hL => mod_scan m L (by simp at hL hm; omega)
    rw [modL, if_pos rfl, scanL.eq_def]
    simp only
    by_cases h1 : c = 34
    · rw [if_pos h1, if_pos h1]; rfl
    rw [if_neg h1, if_neg h1]
    by_cases h2 : c < 32
    · rw [if_pos h2, if_pos h2]
    rw [if_neg h2, if_neg h2]
    by_cases h3 : c = 92
    case neg =>
      rw [if_neg h3, if_neg h3, ih r (by simp), stat_snoc]
      rfl
    rw [if_pos h3, if_pos h3]
    match r, ih with
    | [], _ => rfl
    | e :: r1, ih =>
      rw [modL, if_neg (by omega), if_pos rfl]
      simp only
      by_cases h4 : e = 117
      case neg =>
        rw [if_neg h4]
        by_cases h5 : simpleE e = true
        · rw [if_pos h5, if_pos h5, ih r1 (by simp; omega), stat_snoc]
          rfl
        · rw [if_neg h5, if_neg h5, if_neg h4]
      have h5 : ¬ simpleE e = true := by rw [h4]; simp [simpleE]
      rw [if_pos h4, if_neg h5, if_pos h4]
      have bad : ∀ {x : Int}, ¬ 0 ≤ hexV x → hexV x < 0 := fun h => by omega
      match r1, ih with
      | [], _ => rfl
      | [a], _ =>
        by_cases ha : 0 ≤ hexV a
        · rw [mod_hex (by omega) (by omega) ha]; rfl
        · rw [mod_hex_bad (by omega) (bad ha)]
      | [a, b], _ =>
        by_cases ha : 0 ≤ hexV a
        · rw [mod_hex (by omega) (by omega) ha]
          by_cases hb : 0 ≤ hexV b
          · rw [mod_hex (by omega) (by omega) hb]; rfl
          · rw [mod_hex_bad (by omega) (bad hb)]
        · rw [mod_hex_bad (by omega) (bad ha)]
      | [a, b, d], _ =>
        by_cases ha : 0 ≤ hexV a
        · rw [mod_hex (by omega) (by omega) ha]
          by_cases hb : 0 ≤ hexV b
          · rw [mod_hex (by omega) (by omega) hb]
            by_cases hd : 0 ≤ hexV d
            · rw [mod_hex (by omega) (by omega) hd]; rfl
            · rw [mod_hex_bad (by omega) (bad hd)]
          · rw [mod_hex_bad (by omega) (bad hb)]
        · rw [mod_hex_bad (by omega) (bad ha)]
      | a :: b :: d :: f :: r2, ih =>
        simp only
        by_cases ha : 0 ≤ hexV a
        case neg => rw [mod_hex_bad (by omega) (bad ha), if_neg (fun h => ha h.1)]
        rw [mod_hex (by omega) (by omega) ha]
        by_cases hb : 0 ≤ hexV b
        case neg => rw [mod_hex_bad (by omega) (bad hb), if_neg (fun h => hb h.2.1)]
        rw [mod_hex (by omega) (by omega) hb]
        by_cases hd : 0 ≤ hexV d
        case neg => rw [mod_hex_bad (by omega) (bad hd), if_neg (fun h => hd h.2.2.1)]
        rw [mod_hex (by omega) (by omega) hd]
        by_cases hf : 0 ≤ hexV f
        case neg => rw [mod_hex_bad (by omega) (bad hf), if_neg (fun h => hf h.2.2.2)]
        rw [mod_hex5 hf, if_pos ⟨ha, hb, hd, hf⟩, ih r2 (by simp; omega), stat_snoc]
        have hv : ((((0 : Int) * 16 + hexV a) * 16 + hexV b) * 16 + hexV d) * 16 + hexV f = val4 a b d f := by unfold val4; omega
        rw [hv]
        rfl

end Go.Proofs.Qxb6602877a
