namespace Go.Proofs.Qxb6602877a

/-! ### Bytes -/

def hexV (c : Int) : Int := if 48 ≤ c ∧ c ≤ 57 then c - 48 else if 97 ≤ c ∧ c ≤ 102 then c - 97 + 10 else if 65 ≤ c ∧ c ≤ 70 then c - 65 + 10 else -1
def simpleE (c : Int) : Bool := c == 34 || c == 92 || c == 47 || c == 98 || c == 102 || c == 110 || c == 114 || c == 116
def isHigh (u : Int) : Bool := decide (55296 ≤ u) && decide (u ≤ 56319)
def isLow (u : Int) : Bool := decide (56320 ≤ u) && decide (u ≤ 57343)

theorem hexV_bd (c : Int) : -1 ≤ hexV c ∧ hexV c ≤ 15 := by unfold hexV; split <;> (try split) <;> (try split) <;> omega

/-! ### What lies from place j on -/

def sfx (n : Nat) (Z : Nat → Int) (j : Nat) : List Int := (List.range (n - j)).map (fun i => Z (j + i))

theorem sfx_cons {n : Nat} {Z : Nat → Int} {j : Nat} (h : j < n) : sfx n Z j = Z j :: sfx n Z (j + 1) := by
  unfold sfx
  obtain ⟨m, hm⟩ : ∃ m, n - j = m + 1 := ⟨n - j - 1, by omega⟩
  rw [hm, List.range_succ_eq_map, List.map_cons, List.map_map, show n - (j + 1) = m by omega]
  congr 1
  apply List.map_congr_left
  intro i _
  show Z (j + (i + 1)) = Z (j + 1 + i)
  rw [show j + (i + 1) = j + 1 + i by omega]

theorem sfx_nil {n : Nat} {Z : Nat → Int} {j : Nat} (h : n ≤ j) : sfx n Z j = [] := by
  unfold sfx; rw [show n - j = 0 by omega]; rfl

theorem sfx_length (n : Nat) (Z : Nat → Int) (j : Nat) : (sfx n Z j).length = n - j := by simp [sfx]

/-! ### plainString -/

def plainL : List Int → Nat → Option Nat
  | [], _ => none
  | c :: r, j => if c = 34 then some (j + 1) else if c < 32 ∨ 126 < c ∨ c = 92 then none else plainL r (j + 1)

/-! ### scanString -/

def val4 (a b c d : Int) : Int := ((hexV a * 16 + hexV b) * 16 + hexV c) * 16 + hexV d

/-- The four digits' number, where there are four. -/
def hexL : List Int → Option Int
  | a :: b :: c :: d :: _ => if 0 ≤ hexV a ∧ 0 ≤ hexV b ∧ 0 ≤ hexV c ∧ 0 ≤ hexV d then some (val4 a b c d) else none
  | _ => none

def scanL : List Int → Nat → Bool → Bool → Option (Nat × Bool)
  | [], _, _, _ => none
  | c :: r, j, t, h =>
    if c = 34 then some (j + 1, t && !h)
    else if c < 32 then none
    else if c = 92 then
      match r with
      | [] => none
      | e :: r1 =>
        if simpleE e = true then scanL r1 (j + 2) (t && (h == false)) false
        else if e = 117 then
          match r1 with
          | a :: b :: c :: d :: r2 =>
            if 0 ≤ hexV a ∧ 0 ≤ hexV b ∧ 0 ≤ hexV c ∧ 0 ≤ hexV d then scanL r2 (j + 6) (t && (h == isLow (val4 a b c d))) (isHigh (val4 a b c d)) else none
          | _ => none
        else none
    else scanL r (j + 1) (t && (h == false)) false

/-- THE LAW: where plainString finds one, scanString finds the same. -/
theorem plain_scan : ∀ (L : List Int) (j e : Nat), plainL L j = some e → scanL L j true false = some (e, true)
  | [], _, _, h => by simp [plainL] at h
  | c :: r, j, e, h => by
    unfold plainL at h
    unfold scanL
    by_cases h1 : c = 34
    · rw [if_pos h1] at h ⊢; simp at h; simp [h]
    · rw [if_neg h1] at h ⊢
      by_cases h2 : c < 32 ∨ 126 < c ∨ c = 92
      · rw [if_pos h2] at h; cases h
      · rw [if_neg h2] at h
        rw [if_neg (by omega), if_neg (by omega)]
        exact plain_scan r (j + 1) e h

/-! ### One step of scanString -/

section
variable {n : Nat} {Z : Nat → Int} {j : Nat} {t h : Bool}

theorem scan_end (hj : n ≤ j) : scanL (sfx n Z j) j t h = none := by rw [sfx_nil hj]; rfl
theorem scan_quote (hj : j < n) (h1 : Z j = 34) : scanL (sfx n Z j) j t h = some (j + 1, t && !h) := by
  rw [sfx_cons hj, scanL.eq_def]; simp only; rw [if_pos h1]
theorem scan_ctl (hj : j < n) (h1 : Z j < 32) : scanL (sfx n Z j) j t h = none := by
  rw [sfx_cons hj, scanL.eq_def]; simp only; rw [if_neg (by omega), if_pos h1]
theorem scan_raw (hj : j < n) (h1 : Z j ≠ 34) (h2 : ¬ Z j < 32) (h3 : Z j ≠ 92) : scanL (sfx n Z j) j t h = scanL (sfx n Z (j + 1)) (j + 1) (t && (h == false)) false := by
  rw [sfx_cons hj, scanL.eq_def]; simp only; rw [if_neg h1, if_neg h2, if_neg h3]
theorem scan_esc_end (hj : j < n) (h1 : Z j = 92) (h2 : j + 1 = n) : scanL (sfx n Z j) j t h = none := by
  rw [sfx_cons hj, scanL.eq_def]; simp only; rw [if_neg (by omega), if_neg (by omega), if_pos h1, sfx_nil (by omega)]
theorem scan_simple (hj : j + 1 < n) (h1 : Z j = 92) (h2 : simpleE (Z (j + 1)) = true) : scanL (sfx n Z j) j t h = scanL (sfx n Z (j + 2)) (j + 2) (t && (h == false)) false := by
  rw [sfx_cons (by omega), scanL.eq_def]; simp only; rw [if_neg (by omega), if_neg (by omega), if_pos h1, sfx_cons hj]; simp only; rw [if_pos h2]
theorem scan_esc_bad (hj : j + 1 < n) (h1 : Z j = 92) (h2 : simpleE (Z (j + 1)) = false) (h3 : Z (j + 1) ≠ 117) : scanL (sfx n Z j) j t h = none := by
  rw [sfx_cons (by omega), scanL.eq_def]; simp only; rw [if_neg (by omega), if_neg (by omega), if_pos h1, sfx_cons hj]; simp only; rw [if_neg (by rw [h2]; simp), if_neg h3]
theorem scan_u (hj : j + 1 < n) (h1 : Z j = 92) (h3 : Z (j + 1) = 117) : scanL (sfx n Z j) j t h = match hexL (sfx n Z (j + 2)) with
    | some u => scanL (sfx n Z (j + 6)) (j + 6) (t && (h == isLow u)) (isHigh u)
    | none => none := by
  have h2 : simpleE (Z (j + 1)) = false := by rw [h3]; rfl
  rw [sfx_cons (by omega), scanL.eq_def]
  simp only
  rw [if_neg (by omega), if_neg (by omega), if_pos h1, sfx_cons hj]
  simp only
  rw [if_neg (by rw [h2]; simp), if_pos h3]
  by_cases h4 : j + 6 ≤ n
  · rw [sfx_cons (j := j + 1 + 1) (by omega), sfx_cons (j := j + 1 + 1 + 1) (by omega), sfx_cons (j := j + 1 + 1 + 1 + 1) (by omega), sfx_cons (j := j + 1 + 1 + 1 + 1 + 1) (by omega)]
    simp only [hexL]
    split <;> rfl
  · have hl := sfx_length n Z (j + 2)
    show (match sfx n Z (j + 2) with | a :: b :: c :: d :: r2 => _ | _ => _) = _
    generalize sfx n Z (j + 2) = L at *
    match L, hl with
    | [], _ => rfl
    | [_], _ => rfl
    | [_, _], _ => rfl
    | [_, _, _], _ => rfl
    | _ :: _ :: _ :: _ :: _, hl => simp at hl; omega
end

end Go.Proofs.Qxb6602877a
