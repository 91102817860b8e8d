import Derived.Test.Qxb6602877aPlain
namespace Go.Proofs.Qxb6602877a

/-! ### The two automata -/

def numN (s : Nat) (c : Int) : Nat := match s with
  | 0 => if c = 45 then 1 else if c = 48 then 2 else if 49 ≤ c ∧ c ≤ 57 then 3 else 9
  | 1 => if c = 48 then 2 else if 49 ≤ c ∧ c ≤ 57 then 3 else 9
  | 2 => if c = 46 then 4 else if c = 101 ∨ c = 69 then 6 else 9
  | 3 => if 48 ≤ c ∧ c ≤ 57 then 3 else if c = 46 then 4 else if c = 101 ∨ c = 69 then 6 else 9
  | 4 => if 48 ≤ c ∧ c ≤ 57 then 5 else 9
  | 5 => if 48 ≤ c ∧ c ≤ 57 then 5 else if c = 101 ∨ c = 69 then 6 else 9
  | 6 => if c = 43 ∨ c = 45 then 7 else if 48 ≤ c ∧ c ≤ 57 then 8 else 9
  | 7 => if 48 ≤ c ∧ c ≤ 57 then 8 else 9
  | 8 => if 48 ≤ c ∧ c ≤ 57 then 8 else 9
  | _ => 9

def numA (s : Nat) : Bool := s == 2 || s == 3 || s == 5 || s == 8
def afterV (c : Int) : Nat := if c = 44 then 13 else if c = 125 then 2 else 24

def objM (s : Nat) (c : Int) : Nat := match s with
  | 0 => if c = 123 then 1 else 24
  | 1 => if c = 34 then 3 else if c = 125 then 2 else 24
  | 3 => if c = 34 then 4 else if 32 ≤ c ∧ c ≤ 126 ∧ c ≠ 92 then 3 else 24
  | 4 => if c = 58 then 5 else 24
  | 5 => if c = 34 then 6 else if c = 116 then 14 else if c = 102 then 17 else if c = 110 then 21 else if numN 0 c = 9 then 24 else 32 + numN 0 c
  | 6 => if c = 34 then 12 else if c = 92 then 7 else if 32 ≤ c then 6 else 24
  | 7 => if c = 117 then 8 else if simpleE c = true then 6 else 24
  | 8 => if 0 ≤ hexV c then 9 else 24
  | 9 => if 0 ≤ hexV c then 10 else 24
  | 10 => if 0 ≤ hexV c then 11 else 24
  | 11 => if 0 ≤ hexV c then 6 else 24
  | 12 => afterV c
  | 13 => if c = 34 then 3 else 24
  | 14 => if c = 114 then 15 else 24
  | 15 => if c = 117 then 16 else 24
  | 16 => if c = 101 then 12 else 24
  | 17 => if c = 97 then 18 else 24
  | 18 => if c = 108 then 19 else 24
  | 19 => if c = 115 then 20 else 24
  | 20 => if c = 101 then 12 else 24
  | 21 => if c = 117 then 22 else 24
  | 22 => if c = 108 then 23 else 24
  | 23 => if c = 108 then 12 else 24
  | _ => 24

def objN (s : Nat) (c : Int) : Nat :=
  if 32 ≤ s then (if numN (s - 32) c = 9 then (if numA (s - 32) = true then afterV c else 24) else 32 + numN (s - 32) c) else objM s c

def auto : Nat → List Int → Bool
  | s, [] => s == 2
  | s, c :: r => auto (objN s c) r

theorem auto_cons (s : Nat) (c : Int) (r : List Int) : auto s (c :: r) = auto (objN s c) r := rfl

theorem auto_dead : ∀ L, auto 24 L = false
  | [] => rfl
  | _ :: r => auto_dead r

/-! ### What a scan says of the automaton -/

def Spec (L : List Int) (j s s' : Nat) : Option Nat → Prop
  | none => auto s L = false
  | some e => ∃ m, e = j + m ∧ m ≤ L.length ∧ auto s L = auto s' (L.drop m)

theorem Spec.step {L : List Int} {j s s1 t : Nat} {o : Option Nat} (k : Nat) (hk : k ≤ L.length) (ha : auto s L = auto s1 (L.drop k)) (h : Spec (L.drop k) (j + k) s1 t o) : Spec L j s t o := by
  cases o with
  | none => exact ha.trans h
  | some e =>
    obtain ⟨m, h1, h2, h3⟩ := h
    refine ⟨k + m, by omega, ?_, ?_⟩
    · rw [List.length_drop] at h2; omega
    · rw [ha, h3, List.drop_drop]

theorem Spec.cons {c : Int} {r : List Int} {j s s1 t : Nat} {o : Option Nat} (ha : objN s c = s1) (h : Spec r (j + 1) s1 t o) : Spec (c :: r) j s t o :=
  Spec.step 1 (by simp) (by rw [auto_cons, ha]; rfl) h

theorem Spec.bad {c : Int} {r : List Int} {j s t : Nat} (ha : objN s c = 24) : Spec (c :: r) j s t none := by
  show auto s (c :: r) = false
  rw [auto_cons, ha, auto_dead]

theorem Spec.here {L : List Int} {j s t : Nat} (h : auto s L = auto t L) : Spec L j s t (some j) := ⟨0, by omega, by omega, h⟩

theorem key_spec : ∀ (L : List Int) (j : Nat), Spec L j 3 4 (plainL L j)
  | [], _ => rfl
  | c :: r, j => by
    unfold plainL
    by_cases h1 : c = 34
    · rw [if_pos h1]
      exact ⟨1, rfl, by simp, by rw [auto_cons, h1]; rfl⟩
    rw [if_neg h1]
    by_cases h2 : c < 32 ∨ 126 < c ∨ c = 92
    · rw [if_pos h2]
      refine Spec.bad ?_
      show (if c = 34 then 4 else if 32 ≤ c ∧ c ≤ 126 ∧ c ≠ 92 then 3 else 24) = 24
      rw [if_neg h1, if_neg (by omega)]
    · rw [if_neg h2]
      refine Spec.cons ?_ (key_spec r (j + 1))
      show (if c = 34 then 4 else if 32 ≤ c ∧ c ≤ 126 ∧ c ≠ 92 then 3 else 24) = 3
      rw [if_neg h1, if_pos (by omega)]

theorem str_spec : ∀ (m : Nat) (L : List Int), L.length ≤ m → ∀ (j : Nat) (t h : Bool), Spec L j 6 12 ((scanL L j t h).map Prod.fst)
  | _, [], _, _, _, _ => rfl
  | m, c :: r, hm, j, t, h => by
    have ih : ∀ (L : List Int), L.length < (c :: r).length → ∀ (j : Nat) (t h : Bool), Spec L j 6 12 ((scanL L j t h).map Prod.fst) := by
      cases m with
      | zero => simp at hm
      | succ m => exact fun L hL => str_spec m L (by simp at hL hm; omega)
    rw [scanL.eq_def]
    simp only
    have s6 : objN 6 c = if c = 34 then 12 else if c = 92 then 7 else if 32 ≤ c then 6 else 24 := rfl
    by_cases h1 : c = 34
    · rw [if_pos h1]
      exact ⟨1, rfl, by simp, by rw [auto_cons, s6, if_pos h1]; rfl⟩
    rw [if_neg h1] at s6 ⊢
    by_cases h2 : c < 32
    · rw [if_pos h2]
      refine Spec.bad ?_
      rw [s6, if_neg (by omega), if_neg (by omega)]
    rw [if_neg h2]
    by_cases h3 : c = 92
    case neg =>
      rw [if_neg h3] at s6 ⊢
      rw [if_pos (by omega)] at s6
      exact Spec.cons s6 (ih r (by simp) _ _ _)
    rw [if_pos h3] at s6 ⊢
    match r, ih with
    | [], _ => show auto 6 [c] = false; rw [auto_cons, s6]; rfl
    | e :: r1, ih =>
      simp only
      have s7 : objN 7 e = if e = 117 then 8 else if simpleE e = true then 6 else 24 := rfl
      refine Spec.cons s6 ?_
      by_cases h4 : simpleE e = true
      · rw [if_pos h4]
        have h5 : e ≠ 117 := fun h => by rw [h] at h4; simp [simpleE] at h4
        rw [if_neg h5, if_pos h4] at s7
        exact Spec.cons s7 (ih r1 (by simp; omega) _ _ _)
      rw [if_neg h4]
      by_cases h5 : e = 117
      case neg =>
        rw [if_neg h5]
        rw [if_neg h5, if_neg h4] at s7
        exact Spec.bad s7
      rw [if_pos h5]
      rw [if_pos h5] at s7
      refine Spec.cons s7 ?_
      have g8 : ∀ x, 0 ≤ hexV x → objN 8 x = 9 := fun x hx => by show (if 0 ≤ hexV x then 9 else 24) = 9; rw [if_pos hx]
      have g9 : ∀ x, 0 ≤ hexV x → objN 9 x = 10 := fun x hx => by show (if 0 ≤ hexV x then 10 else 24) = 10; rw [if_pos hx]
      have g10 : ∀ x, 0 ≤ hexV x → objN 10 x = 11 := fun x hx => by show (if 0 ≤ hexV x then 11 else 24) = 11; rw [if_pos hx]
      have g11 : ∀ x, 0 ≤ hexV x → objN 11 x = 6 := fun x hx => by show (if 0 ≤ hexV x then 6 else 24) = 6; rw [if_pos hx]
      have b8 : ∀ x, ¬ 0 ≤ hexV x → objN 8 x = 24 := fun x hx => by show (if 0 ≤ hexV x then 9 else 24) = 24; rw [if_neg hx]
      have b9 : ∀ x, ¬ 0 ≤ hexV x → objN 9 x = 24 := fun x hx => by show (if 0 ≤ hexV x then 10 else 24) = 24; rw [if_neg hx]
      have b10 : ∀ x, ¬ 0 ≤ hexV x → objN 10 x = 24 := fun x hx => by show (if 0 ≤ hexV x then 11 else 24) = 24; rw [if_neg hx]
      have b11 : ∀ x, ¬ 0 ≤ hexV x → objN 11 x = 24 := fun x hx => by show (if 0 ≤ hexV x then 6 else 24) = 24; rw [if_neg hx]
      have none_of : ∀ (x : Int) (l : List Int) (s s1 : Nat) (j : Nat), objN s x = s1 → Spec l (j + 1) s1 12 none → Spec (x :: l) j s 12 none := fun x l s s1 j h1 h2 => Spec.cons h1 h2
      match r1, ih with
      | [], _ => rfl
      | [a], _ =>
        show Spec [a] _ 8 12 none
        by_cases ha : 0 ≤ hexV a
        · exact Spec.cons (g8 a ha) rfl
        · exact Spec.bad (b8 a ha)
      | [a, b], _ =>
        show Spec [a, b] _ 8 12 none
        by_cases ha : 0 ≤ hexV a
        · refine Spec.cons (g8 a ha) ?_
          by_cases hb : 0 ≤ hexV b
          · exact Spec.cons (g9 b hb) rfl
          · exact Spec.bad (b9 b hb)
        · exact Spec.bad (b8 a ha)
      | [a, b, d], _ =>
        show Spec [a, b, d] _ 8 12 none
        by_cases ha : 0 ≤ hexV a
        · refine Spec.cons (g8 a ha) ?_
          by_cases hb : 0 ≤ hexV b
          · refine Spec.cons (g9 b hb) ?_
            by_cases hd : 0 ≤ hexV d
            · exact Spec.cons (g10 d hd) rfl
            · exact Spec.bad (b10 d hd)
          · exact Spec.bad (b9 b hb)
        · exact Spec.bad (b8 a ha)
      | a :: b :: d :: f :: r2, ih =>
        simp only
        by_cases ha : 0 ≤ hexV a
        case neg => rw [if_neg (fun h => ha h.1)]; exact Spec.bad (b8 a ha)
        refine Spec.cons (g8 a ha) ?_
        by_cases hb : 0 ≤ hexV b
        case neg => rw [if_neg (fun h => hb h.2.1)]; exact Spec.bad (b9 b hb)
        refine Spec.cons (g9 b hb) ?_
        by_cases hd : 0 ≤ hexV d
        case neg => rw [if_neg (fun h => hd h.2.2.1)]; exact Spec.bad (b10 d hd)
        refine Spec.cons (g10 d hd) ?_
        by_cases hf : 0 ≤ hexV f
        case neg => rw [if_neg (fun h => hf h.2.2.2)]; exact Spec.bad (b11 f hf)
        refine Spec.cons (g11 f hf) ?_
        rw [if_pos ⟨ha, hb, hd, hf⟩]
        exact ih r2 (by simp; omega) _ _ _

/-! ### Numbers -/

def dig : List Int → Nat
  | [] => 0
  | c :: r => if 48 ≤ c ∧ c ≤ 57 then dig r + 1 else 0

theorem dig_le : ∀ L, dig L ≤ L.length
  | [] => Nat.le_refl _
  | c :: r => by unfold dig; have := dig_le r; split <;> simp <;> omega

theorem dig_run {s : Nat} (hs : ∀ c, 48 ≤ c ∧ c ≤ 57 → objN s c = s) : ∀ L, auto s L = auto s (L.drop (dig L))
  | [] => rfl
  | c :: r => by
    unfold dig
    by_cases h : 48 ≤ c ∧ c ≤ 57
    · rw [if_pos h, auto_cons, hs c h, List.drop_succ_cons]
      exact dig_run hs r
    · rw [if_neg h]; rfl

/-- No digit stands first. -/
def noDig : List Int → Prop
  | [] => True
  | c :: _ => ¬ (48 ≤ c ∧ c ≤ 57)

theorem dig_stop : ∀ L : List Int, noDig (L.drop (dig L))
  | [] => trivial
  | c :: r => by
    unfold dig
    by_cases h : 48 ≤ c ∧ c ≤ 57
    · rw [if_pos h, List.drop_succ_cons]; exact dig_stop r
    · rw [if_neg h]; exact h

def num5 (L : List Int) (j : Nat) : Option Nat := if 0 < dig L then some (j + dig L) else none
def num4 (L : List Int) (j : Nat) : Option Nat := match L with
  | [] => num5 L j
  | c :: r => if c = 43 ∨ c = 45 then num5 r (j + 1) else num5 L j
def num3 (L : List Int) (j : Nat) : Option Nat := match L with
  | [] => some j
  | c :: r => if c = 101 ∨ c = 69 then num4 r (j + 1) else some j
def num2 (L : List Int) (j : Nat) : Option Nat := match L with
  | [] => num3 L j
  | c :: r => if c = 46 then (if 0 < dig r then num3 (r.drop (dig r)) (j + 1 + dig r) else none) else num3 L j
def num1 (L : List Int) (j : Nat) : Option Nat := match L with
  | [] => none
  | c :: r => if c = 48 then num2 r (j + 1) else if 49 ≤ c ∧ c ≤ 57 then num2 (L.drop (dig L)) (j + dig L) else none
def numR (L : List Int) (j : Nat) : Option Nat := match L with
  | [] => none
  | c :: r => if c = 45 then num1 r (j + 1) else num1 L j

theorem obj34 (c : Int) : objN 34 c = if c = 46 then 36 else if c = 101 ∨ c = 69 then 38 else afterV c := by
  show (if (if c = 46 then 4 else if c = 101 ∨ c = 69 then 6 else 9) = 9 then (if numA 2 = true then afterV c else 24) else 32 + (if c = 46 then 4 else if c = 101 ∨ c = 69 then 6 else 9)) = _
  by_cases h1 : c = 46
  · simp [h1]
  · by_cases h2 : c = 101 ∨ c = 69
    · simp [h1, h2]
    · simp [h1, h2, numA]
theorem obj35 (c : Int) : objN 35 c = if 48 ≤ c ∧ c ≤ 57 then 35 else if c = 46 then 36 else if c = 101 ∨ c = 69 then 38 else afterV c := by
  show (if (if 48 ≤ c ∧ c ≤ 57 then 3 else if c = 46 then 4 else if c = 101 ∨ c = 69 then 6 else 9) = 9 then (if numA 3 = true then afterV c else 24) else 32 + (if 48 ≤ c ∧ c ≤ 57 then 3 else if c = 46 then 4 else if c = 101 ∨ c = 69 then 6 else 9)) = _
  by_cases h0 : 48 ≤ c ∧ c ≤ 57
  · simp [h0]
  by_cases h1 : c = 46
  · simp [h1]
  · by_cases h2 : c = 101 ∨ c = 69
    · simp [h0, h1, h2]
    · simp [h0, h1, h2, numA]
theorem obj36 (c : Int) : objN 36 c = if 48 ≤ c ∧ c ≤ 57 then 37 else 24 := by
  show (if (if 48 ≤ c ∧ c ≤ 57 then 5 else 9) = 9 then (if numA 4 = true then afterV c else 24) else 32 + (if 48 ≤ c ∧ c ≤ 57 then 5 else 9)) = _
  by_cases h0 : 48 ≤ c ∧ c ≤ 57
  · simp [h0]
  · simp [h0, numA]
theorem obj37 (c : Int) : objN 37 c = if 48 ≤ c ∧ c ≤ 57 then 37 else if c = 101 ∨ c = 69 then 38 else afterV c := by
  show (if (if 48 ≤ c ∧ c ≤ 57 then 5 else if c = 101 ∨ c = 69 then 6 else 9) = 9 then (if numA 5 = true then afterV c else 24) else 32 + (if 48 ≤ c ∧ c ≤ 57 then 5 else if c = 101 ∨ c = 69 then 6 else 9)) = _
  by_cases h0 : 48 ≤ c ∧ c ≤ 57
  · simp [h0]
  by_cases h2 : c = 101 ∨ c = 69
  · simp [h0, h2]
  · simp [h0, h2, numA]
theorem obj38 (c : Int) : objN 38 c = if c = 43 ∨ c = 45 then 39 else if 48 ≤ c ∧ c ≤ 57 then 40 else 24 := by
  show (if (if c = 43 ∨ c = 45 then 7 else if 48 ≤ c ∧ c ≤ 57 then 8 else 9) = 9 then (if numA 6 = true then afterV c else 24) else 32 + (if c = 43 ∨ c = 45 then 7 else if 48 ≤ c ∧ c ≤ 57 then 8 else 9)) = _
  by_cases h0 : c = 43 ∨ c = 45
  · simp [h0]
  by_cases h2 : 48 ≤ c ∧ c ≤ 57
  · simp [h0, h2]
  · simp [h0, h2, numA]
theorem obj39 (c : Int) : objN 39 c = if 48 ≤ c ∧ c ≤ 57 then 40 else 24 := by
  show (if (if 48 ≤ c ∧ c ≤ 57 then 8 else 9) = 9 then (if numA 7 = true then afterV c else 24) else 32 + (if 48 ≤ c ∧ c ≤ 57 then 8 else 9)) = _
  by_cases h0 : 48 ≤ c ∧ c ≤ 57
  · simp [h0]
  · simp [h0, numA]
theorem obj40 (c : Int) : objN 40 c = if 48 ≤ c ∧ c ≤ 57 then 40 else afterV c := by
  show (if (if 48 ≤ c ∧ c ≤ 57 then 8 else 9) = 9 then (if numA 8 = true then afterV c else 24) else 32 + (if 48 ≤ c ∧ c ≤ 57 then 8 else 9)) = _
  by_cases h0 : 48 ≤ c ∧ c ≤ 57
  · simp [h0]
  · simp [h0, numA]
theorem obj33 (c : Int) : objN 33 c = if c = 48 then 34 else if 49 ≤ c ∧ c ≤ 57 then 35 else 24 := by
  show (if (if c = 48 then 2 else if 49 ≤ c ∧ c ≤ 57 then 3 else 9) = 9 then (if numA 1 = true then afterV c else 24) else 32 + (if c = 48 then 2 else if 49 ≤ c ∧ c ≤ 57 then 3 else 9)) = _
  by_cases h0 : c = 48
  · simp [h0]
  by_cases h2 : 49 ≤ c ∧ c ≤ 57
  · simp [h0, h2]
  · simp [h0, h2, numA]

/-- Digits to the end of the run, from a state that a first digit leads out of into one that digits stay in. -/
theorem run_spec {L : List Int} {s s1 : Nat} (h0 : auto s [] = false) (h1 : ∀ c, 48 ≤ c ∧ c ≤ 57 → objN s c = s1) (h2 : ∀ c, ¬ (48 ≤ c ∧ c ≤ 57) → objN s c = 24) (hs : ∀ c, 48 ≤ c ∧ c ≤ 57 → objN s1 c = s1) :
    (dig L = 0 → auto s L = false) ∧ (0 < dig L → auto s L = auto s1 (L.drop (dig L))) := by
  match L with
  | [] => exact ⟨fun _ => h0, fun h => by simp [dig] at h⟩
  | c :: r =>
    unfold dig
    by_cases h : 48 ≤ c ∧ c ≤ 57
    · rw [if_pos h]
      refine ⟨fun h => by omega, fun _ => ?_⟩
      rw [auto_cons, h1 c h, List.drop_succ_cons]
      exact dig_run hs r
    · rw [if_neg h]
      refine ⟨fun _ => ?_, fun h => by omega⟩
      rw [auto_cons, h2 c h, auto_dead]

theorem stay40 : ∀ c, 48 ≤ c ∧ c ≤ 57 → objN 40 c = 40 := fun c h => by rw [obj40, if_pos h]
theorem stay37 : ∀ c, 48 ≤ c ∧ c ≤ 57 → objN 37 c = 37 := fun c h => by rw [obj37, if_pos h]
theorem stay35 : ∀ c, 48 ≤ c ∧ c ≤ 57 → objN 35 c = 35 := fun c h => by rw [obj35, if_pos h]

theorem end40 {L : List Int} (h : noDig L) : auto 40 L = auto 12 L := by
  match L, h with
  | [], _ => rfl
  | c :: r, h => rw [auto_cons, auto_cons, obj40, if_neg h]; rfl

theorem num5_spec {L : List Int} {j s : Nat} (h0 : auto s [] = false) (h1 : ∀ c, 48 ≤ c ∧ c ≤ 57 → objN s c = 40) (h2 : ∀ c, ¬ (48 ≤ c ∧ c ≤ 57) → objN s c = 24) : Spec L j s 12 (num5 L j) := by
  obtain ⟨a, b⟩ := run_spec (L := L) h0 h1 h2 stay40
  unfold num5
  by_cases h : 0 < dig L
  · rw [if_pos h]
    exact ⟨dig L, rfl, dig_le L, by rw [b h, end40 (dig_stop L)]⟩
  · rw [if_neg h]
    exact a (by omega)

theorem num4_spec (L : List Int) (j : Nat) : Spec L j 38 12 (num4 L j) := by
  have f39 : ∀ (L : List Int) (j : Nat), Spec L j 39 12 (num5 L j) := fun L j => num5_spec rfl (fun c h => by rw [obj39, if_pos h]) (fun c h => by rw [obj39, if_neg h])
  match L with
  | [] => exact f39 [] j
  | c :: r =>
    unfold num4
    simp only
    by_cases h : c = 43 ∨ c = 45
    · rw [if_pos h]
      exact Spec.cons (by rw [obj38, if_pos h]) (f39 r (j + 1))
    · rw [if_neg h]
      have := f39 (c :: r) j
      have e : auto 38 (c :: r) = auto 39 (c :: r) := by rw [auto_cons, auto_cons, obj38, obj39, if_neg h]
      exact Spec.step 0 (by omega) e this

theorem num3_spec {L : List Int} {j s : Nat} (h0 : auto s [] = false) (h1 : ∀ c r, L = c :: r → objN s c = if c = 101 ∨ c = 69 then 38 else afterV c) : Spec L j s 12 (num3 L j) := by
  match L, h1 with
  | [], _ => exact Spec.here h0
  | c :: r, h1 =>
    have h := h1 c r rfl
    unfold num3
    simp only
    by_cases h2 : c = 101 ∨ c = 69
    · rw [if_pos h2] at h ⊢
      exact Spec.cons h (num4_spec r (j + 1))
    · rw [if_neg h2] at h ⊢
      exact Spec.here (by rw [auto_cons, auto_cons, h]; rfl)

theorem num2_spec {L : List Int} {j s : Nat} (h0 : auto s [] = false) (h1 : ∀ c r, L = c :: r → objN s c = if c = 46 then 36 else if c = 101 ∨ c = 69 then 38 else afterV c) : Spec L j s 12 (num2 L j) := by
  match L, h1 with
  | [], _ => exact Spec.here h0
  | c :: r, h1 =>
    have h := h1 c r rfl
    unfold num2
    simp only
    by_cases h2 : c = 46
    · rw [if_pos h2] at h ⊢
      refine Spec.cons h ?_
      obtain ⟨a, b⟩ := run_spec (L := r) (s := 36) rfl (fun c h => by rw [obj36, if_pos h]) (fun c h => by rw [obj36, if_neg h]) stay37
      by_cases h3 : 0 < dig r
      · rw [if_pos h3]
        refine Spec.step (dig r) (dig_le r) (b h3) ?_
        refine num3_spec rfl (fun d q e => ?_)
        have := dig_stop r
        rw [e] at this
        rw [obj37, if_neg this]
      · rw [if_neg h3]
        exact a (by omega)
    · rw [if_neg h2] at h ⊢
      exact num3_spec h0 (fun d q e => by cases e; exact h)

theorem num1_spec (L : List Int) (j : Nat) : Spec L j 33 12 (num1 L j) := by
  match L with
  | [] => rfl
  | c :: r =>
    have h := obj33 c
    unfold num1
    simp only
    by_cases h1 : c = 48
    · rw [if_pos h1] at h ⊢
      exact Spec.cons h (num2_spec rfl (fun d q e => obj34 d))
    rw [if_neg h1] at h ⊢
    by_cases h2 : 49 ≤ c ∧ c ≤ 57
    · rw [if_pos h2] at h ⊢
      have e : auto 33 (c :: r) = auto 35 (c :: r) := by rw [auto_cons, auto_cons, h, stay35 c (by omega)]
      refine Spec.step (dig (c :: r)) (dig_le _) (e.trans (dig_run stay35 _)) ?_
      refine num2_spec rfl (fun d q e => ?_)
      have := dig_stop (c :: r)
      rw [e] at this
      rw [obj35, if_neg this]
    · rw [if_neg h2] at h ⊢
      exact Spec.bad h

/-! ### Scalars -/

def litL (L : List Int) (j : Nat) : Option Nat :=
  if L.take 4 = [116, 114, 117, 101] then some (j + 4) else if L.take 5 = [102, 97, 108, 115, 101] then some (j + 5) else if L.take 4 = [110, 117, 108, 108] then some (j + 4) else none

def scalL (L : List Int) (j : Nat) : Option Nat := match L with
  | [] => none
  | c :: r => if c = 34 then (scanL r (j + 1) true false).map Prod.fst else if c = 116 ∨ c = 102 ∨ c = 110 then litL L j else if c = 45 ∨ (48 ≤ c ∧ c ≤ 57) then numR L j else none

theorem word_step {s s' : Nat} {x : Int} (hs : ∀ c, objN s c = if c = x then s' else 24) (h0 : auto s [] = false) : ∀ L : List Int, (∃ r, L = x :: r ∧ auto s L = auto s' r) ∨ ((∀ r, L ≠ x :: r) ∧ auto s L = false)
  | [] => .inr ⟨fun r h => (by cases h), h0⟩
  | c :: r => by
    by_cases h : c = x
    · exact .inl ⟨r, by rw [h], by rw [auto_cons, hs, if_pos h]⟩
    · exact .inr ⟨fun r h' => (by cases h'; exact h rfl), by rw [auto_cons, hs, if_neg h, auto_dead]⟩

theorem true_spec (L0 : List Int) (j : Nat) : Spec (116 :: L0) j 5 12 (litL (116 :: L0) j) := by
  rcases word_step (s := 14) (s' := 15) (x := 114) (fun c => rfl) rfl L0 with ⟨L1, rfl, _⟩ | ⟨hn, hf⟩
  case inr =>
    have e : litL (116 :: L0) j = none := by
      cases L0 with
      | nil => simp [litL]
      | cons c r =>
        have : c ≠ 114 := fun h => hn r (by rw [h])
        simp [litL, this]
    rw [e]
    exact hf
  rcases word_step (s := 15) (s' := 16) (x := 117) (fun c => rfl) rfl L1 with ⟨L2, rfl, _⟩ | ⟨hn, hf⟩
  case inr =>
    have e : litL (116 :: 114 :: L1) j = none := by
      cases L1 with
      | nil => simp [litL]
      | cons c r =>
        have : c ≠ 117 := fun h => hn r (by rw [h])
        simp [litL, this]
    rw [e]
    exact hf
  rcases word_step (s := 16) (s' := 12) (x := 101) (fun c => rfl) rfl L2 with ⟨L3, rfl, _⟩ | ⟨hn, hf⟩
  case inr =>
    have e : litL (116 :: 114 :: 117 :: L2) j = none := by
      cases L2 with
      | nil => simp [litL]
      | cons c r =>
        have : c ≠ 101 := fun h => hn r (by rw [h])
        simp [litL, this]
    rw [e]
    exact hf
  rw [show litL (116 :: 114 :: 117 :: 101 :: L3) j = some (j + 4) by simp [litL]]
  exact ⟨4, rfl, by simp, rfl⟩

theorem false_spec (L0 : List Int) (j : Nat) : Spec (102 :: L0) j 5 12 (litL (102 :: L0) j) := by
  rcases word_step (s := 17) (s' := 18) (x := 97) (fun c => rfl) rfl L0 with ⟨L1, rfl, _⟩ | ⟨hn, hf⟩
  case inr =>
    have e : litL (102 :: L0) j = none := by
      cases L0 with
      | nil => simp [litL]
      | cons c r =>
        have : c ≠ 97 := fun h => hn r (by rw [h])
        simp [litL, this]
    rw [e]
    exact hf
  rcases word_step (s := 18) (s' := 19) (x := 108) (fun c => rfl) rfl L1 with ⟨L2, rfl, _⟩ | ⟨hn, hf⟩
  case inr =>
    have e : litL (102 :: 97 :: L1) j = none := by
      cases L1 with
      | nil => simp [litL]
      | cons c r =>
        have : c ≠ 108 := fun h => hn r (by rw [h])
        simp [litL, this]
    rw [e]
    exact hf
  rcases word_step (s := 19) (s' := 20) (x := 115) (fun c => rfl) rfl L2 with ⟨L3, rfl, _⟩ | ⟨hn, hf⟩
  case inr =>
    have e : litL (102 :: 97 :: 108 :: L2) j = none := by
      cases L2 with
      | nil => simp [litL]
      | cons c r =>
        have : c ≠ 115 := fun h => hn r (by rw [h])
        simp [litL, this]
    rw [e]
    exact hf
  rcases word_step (s := 20) (s' := 12) (x := 101) (fun c => rfl) rfl L3 with ⟨L4, rfl, _⟩ | ⟨hn, hf⟩
  case inr =>
    have e : litL (102 :: 97 :: 108 :: 115 :: L3) j = none := by
      cases L3 with
      | nil => simp [litL]
      | cons c r =>
        have : c ≠ 101 := fun h => hn r (by rw [h])
        simp [litL, this]
    rw [e]
    exact hf
  rw [show litL (102 :: 97 :: 108 :: 115 :: 101 :: L4) j = some (j + 5) by simp [litL]]
  exact ⟨5, rfl, by simp, rfl⟩

theorem null_spec (L0 : List Int) (j : Nat) : Spec (110 :: L0) j 5 12 (litL (110 :: L0) j) := by
  rcases word_step (s := 21) (s' := 22) (x := 117) (fun c => rfl) rfl L0 with ⟨L1, rfl, _⟩ | ⟨hn, hf⟩
  case inr =>
    have e : litL (110 :: L0) j = none := by
      cases L0 with
      | nil => simp [litL]
      | cons c r =>
        have : c ≠ 117 := fun h => hn r (by rw [h])
        simp [litL, this]
    rw [e]
    exact hf
  rcases word_step (s := 22) (s' := 23) (x := 108) (fun c => rfl) rfl L1 with ⟨L2, rfl, _⟩ | ⟨hn, hf⟩
  case inr =>
    have e : litL (110 :: 117 :: L1) j = none := by
      cases L1 with
      | nil => simp [litL]
      | cons c r =>
        have : c ≠ 108 := fun h => hn r (by rw [h])
        simp [litL, this]
    rw [e]
    exact hf
  rcases word_step (s := 23) (s' := 12) (x := 108) (fun c => rfl) rfl L2 with ⟨L3, rfl, _⟩ | ⟨hn, hf⟩
  case inr =>
    have e : litL (110 :: 117 :: 108 :: L2) j = none := by
      cases L2 with
      | nil => simp [litL]
      | cons c r =>
        have : c ≠ 108 := fun h => hn r (by rw [h])
        simp [litL, this]
    rw [e]
    exact hf
  rw [show litL (110 :: 117 :: 108 :: 108 :: L3) j = some (j + 4) by simp [litL]]
  exact ⟨4, rfl, by simp, rfl⟩

theorem scal_spec (L : List Int) (j : Nat) : Spec L j 5 12 (scalL L j) := by
  match L with
  | [] => rfl
  | c :: r =>
    unfold scalL
    simp only
    have h5 : objN 5 c = if c = 34 then 6 else if c = 116 then 14 else if c = 102 then 17 else if c = 110 then 21 else if numN 0 c = 9 then 24 else 32 + numN 0 c := rfl
    by_cases h1 : c = 34
    · rw [if_pos h1] at h5 ⊢
      exact Spec.cons h5 (str_spec _ r (Nat.le_refl _) (j + 1) true false)
    rw [if_neg h1] at h5 ⊢
    by_cases h2 : c = 116 ∨ c = 102 ∨ c = 110
    · rw [if_pos h2]
      rcases h2 with rfl | rfl | rfl
      · exact true_spec r j
      · exact false_spec r j
      · exact null_spec r j
    rw [if_neg h2]
    rw [if_neg (by omega), if_neg (by omega), if_neg (by omega)] at h5
    by_cases h3 : c = 45
    · rw [if_pos (.inl h3)]
      show Spec (c :: r) j 5 12 (if c = 45 then num1 r (j + 1) else num1 (c :: r) j)
      rw [if_pos h3]
      refine Spec.cons ?_ (num1_spec r (j + 1))
      rw [h5, h3]; rfl
    have hn : numN 0 c = if c = 48 then 2 else if 49 ≤ c ∧ c ≤ 57 then 3 else 9 := by show (if c = 45 then 1 else _) = _; rw [if_neg h3]
    by_cases h4 : 48 ≤ c ∧ c ≤ 57
    · rw [if_pos (.inr h4)]
      show Spec (c :: r) j 5 12 (if c = 45 then num1 r (j + 1) else num1 (c :: r) j)
      rw [if_neg h3]
      refine Spec.step 0 (by omega) ?_ (num1_spec (c :: r) j)
      rw [List.drop_zero, auto_cons, auto_cons]
      congr 1
      rw [h5, hn, obj33]
      by_cases h6 : c = 48
      · simp [h6]
      · have h7 : 49 ≤ c ∧ c ≤ 57 := by omega
        simp [h6, h7]
    · rw [if_neg (by omega)]
      refine Spec.bad ?_
      have h6 : ¬ c = 48 := by omega
      have h7 : ¬ (49 ≤ c ∧ c ≤ 57) := by omega
      rw [h5, hn]
      simp [h6, h7]

/-! ### The same over the places of the data -/

theorem drop_sfx (n : Nat) (Z : Nat → Int) (j m : Nat) : (sfx n Z j).drop m = sfx n Z (j + m) := by
  induction m generalizing j with
  | zero => rfl
  | succ m ih =>
    by_cases h : j < n
    · rw [sfx_cons h, List.drop_succ_cons, ih, show j + 1 + m = j + (m + 1) by omega]
    · rw [sfx_nil (by omega), sfx_nil (by omega)]; simp

section
variable {n : Nat} {Z : Nat → Int}

theorem key_none {i : Nat} (h : (if i < n ∧ Z i = 34 then plainL (sfx n Z (i + 1)) (i + 1) else none) = none) : auto 13 (sfx n Z i) = false := by
  by_cases hi : i < n
  · rw [sfx_cons hi, auto_cons]
    show auto (if Z i = 34 then 3 else 24) _ = false
    by_cases h2 : Z i = 34
    · rw [if_pos ⟨hi, h2⟩] at h
      have := key_spec (sfx n Z (i + 1)) (i + 1)
      rw [h] at this
      rw [if_pos h2]; exact this
    · rw [if_neg h2, auto_dead]
  · rw [sfx_nil (by omega)]; rfl

theorem key_some {i e : Nat} (h : (if i < n ∧ Z i = 34 then plainL (sfx n Z (i + 1)) (i + 1) else none) = some e) : i < e ∧ e ≤ n ∧ auto 13 (sfx n Z i) = auto 4 (sfx n Z e) := by
  by_cases hi : i < n ∧ Z i = 34
  · rw [if_pos hi] at h
    have := key_spec (sfx n Z (i + 1)) (i + 1)
    rw [h] at this
    obtain ⟨m, h1, h2, h3⟩ := this
    rw [sfx_length] at h2
    refine ⟨by omega, by omega, ?_⟩
    rw [sfx_cons hi.1, auto_cons]
    show auto (if Z i = 34 then 3 else 24) _ = _
    rw [if_pos hi.2, h3, drop_sfx, h1]
  · rw [if_neg hi] at h; cases h

theorem colon_bad {e : Nat} (h : e < n → Z e ≠ 58) : auto 4 (sfx n Z e) = false := by
  by_cases he : e < n
  · rw [sfx_cons he, auto_cons]
    show auto (if Z e = 58 then 5 else 24) _ = false
    rw [if_neg (h he), auto_dead]
  · rw [sfx_nil (by omega)]; rfl

theorem colon_ok {e : Nat} (he : e < n) (h : Z e = 58) : auto 4 (sfx n Z e) = auto 5 (sfx n Z (e + 1)) := by
  rw [sfx_cons he, auto_cons]
  show auto (if Z e = 58 then 5 else 24) _ = _
  rw [if_pos h]

theorem scal_none {i : Nat} (h : scalL (sfx n Z i) i = none) : auto 5 (sfx n Z i) = false := by
  have := scal_spec (sfx n Z i) i
  rw [h] at this
  exact this

theorem scal_some {i e : Nat} (hi : i ≤ n) (h : scalL (sfx n Z i) i = some e) : i ≤ e ∧ e ≤ n ∧ auto 5 (sfx n Z i) = auto 12 (sfx n Z e) := by
  have := scal_spec (sfx n Z i) i
  rw [h] at this
  obtain ⟨m, h1, h2, h3⟩ := this
  rw [sfx_length] at h2
  exact ⟨by omega, by omega, by rw [h3, drop_sfx, h1]⟩

theorem after_end {e : Nat} (h : n ≤ e) : auto 12 (sfx n Z e) = false := by rw [sfx_nil h]; rfl
theorem after_close {e : Nat} (he : e < n) (h : Z e = 125) : auto 12 (sfx n Z e) = decide (e + 1 = n) := by
  rw [sfx_cons he, auto_cons]
  show auto (afterV (Z e)) _ = _
  rw [h]
  show auto 2 _ = _
  by_cases hn : e + 1 = n
  · rw [sfx_nil (by omega), decide_eq_true hn]; rfl
  · rw [sfx_cons (by omega), decide_eq_false hn, auto_cons]; exact auto_dead _
theorem after_comma {e : Nat} (he : e < n) (h : Z e = 44) : auto 12 (sfx n Z e) = auto 13 (sfx n Z (e + 1)) := by
  rw [sfx_cons he, auto_cons]
  show auto (afterV (Z e)) _ = _
  rw [h]; rfl
theorem after_bad {e : Nat} (he : e < n) (h : Z e ≠ 44) (h2 : Z e ≠ 125) : auto 12 (sfx n Z e) = false := by
  rw [sfx_cons he, auto_cons]
  show auto (afterV (Z e)) _ = _
  unfold afterV
  rw [if_neg h, if_neg h2, auto_dead]

theorem start_short (h : n < 2) : auto 0 (sfx n Z 0) = false := by
  match n, h with
  | 0, _ => rw [sfx_nil (by omega)]; rfl
  | 1, _ =>
    rw [sfx_cons (by omega), auto_cons, sfx_nil (by omega)]
    show ((if Z 0 = 123 then 1 else 24) == 2) = false
    by_cases h : Z 0 = 123
    · rw [if_pos h]; rfl
    · rw [if_neg h]; rfl
theorem start_bad (hn : 2 ≤ n) (h : Z 0 ≠ 123) : auto 0 (sfx n Z 0) = false := by
  rw [sfx_cons (by omega), auto_cons]
  show auto (if Z 0 = 123 then 1 else 24) _ = false
  rw [if_neg h, auto_dead]
theorem start_empty (hn : 2 ≤ n) (h : Z 0 = 123) (h1 : Z 1 = 125) : auto 0 (sfx n Z 0) = decide (n = 2) := by
  rw [sfx_cons (by omega), auto_cons]
  show auto (if Z 0 = 123 then 1 else 24) _ = _
  rw [if_pos h, sfx_cons (by omega), auto_cons]
  show auto (if Z 1 = 34 then 3 else if Z 1 = 125 then 2 else 24) _ = _
  rw [if_neg (by omega), if_pos h1]
  by_cases hn2 : n = 2
  · rw [sfx_nil (by omega), decide_eq_true hn2]; rfl
  · rw [sfx_cons (by omega), decide_eq_false hn2, auto_cons]; exact auto_dead _
theorem start_some (hn : 2 ≤ n) (h : Z 0 = 123) (h1 : Z 1 ≠ 125) : auto 0 (sfx n Z 0) = auto 13 (sfx n Z 1) := by
  rw [sfx_cons (by omega), auto_cons]
  show auto (if Z 0 = 123 then 1 else 24) _ = _
  rw [if_pos h, sfx_cons (by omega), auto_cons, auto_cons]
  show auto (if Z 1 = 34 then 3 else if Z 1 = 125 then 2 else 24) _ = auto (if Z 1 = 34 then 3 else 24) _
  rw [if_neg h1]
end

end Go.Proofs.Qxb6602877a
