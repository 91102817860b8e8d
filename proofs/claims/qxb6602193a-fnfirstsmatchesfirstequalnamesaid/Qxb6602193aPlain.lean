namespace Go.Proofs.Qxb6602193a

/-! ### The earliest equal -/

/-- The least j below k with 'e j k', and k where there is none. -/
def fst (e : Nat → Nat → Bool) (k : Nat) : Nat := ((List.range k).find? (fun j => e j k)).getD k

/-- Equality of keys: what the plain law leans on. -/
structure EqKey (e : Nat → Nat → Bool) (H : Nat → Nat) : Prop where
  refl : ∀ i, e i i = true
  symm : ∀ i j, e i j = true → e j i = true
  trans : ∀ i j k, e i j = true → e j k = true → e i k = true
  hash : ∀ i j, e i j = true → H i = H j

theorem fst_spec {e : Nat → Nat → Bool} {H : Nat → Nat} (E : EqKey e H) (k : Nat) : fst e k ≤ k ∧ e (fst e k) k = true ∧ ∀ j, j < fst e k → e j k = false := by
  unfold fst
  cases h : (List.range k).find? (fun j => e j k) with
  | none =>
    rw [List.find?_range_eq_none] at h
    refine ⟨Nat.le_refl _, E.refl k, fun j hj => ?_⟩
    simpa using h j hj
  | some i =>
    rw [List.find?_range_eq_some] at h
    obtain ⟨h1, h2, h3⟩ := h
    have h2' := List.mem_range.1 h2
    exact ⟨by simp; omega, h1, fun j hj => by simpa using h3 j hj⟩

theorem fst_uniq {e : Nat → Nat → Bool} {H : Nat → Nat} (E : EqKey e H) {i k : Nat} (h1 : e i k = true) (h2 : ∀ j, j < i → e j k = false) : fst e k = i := by
  obtain ⟨_, s2, s3⟩ := fst_spec E k
  rcases Nat.lt_trichotomy (fst e k) i with h | h | h
  · rw [h2 _ h] at s2; cases s2
  · exact h
  · rw [s3 _ h] at h1; cases h1

theorem fst_hit {e : Nat → Nat → Bool} {H : Nat → Nat} (E : EqKey e H) {i k : Nat} (hi : fst e i = i) (h : e i k = true) : fst e k = i := by
  refine fst_uniq E h fun j hj => ?_
  cases hjk : e j k with
  | false => rfl
  | true =>
    have hji : e j i = true := E.trans _ _ _ hjk (E.symm _ _ h)
    have := (fst_spec E i).2.2 j (by rw [hi]; exact hj)
    rw [this] at hji; cases hji

theorem fst_fst {e : Nat → Nat → Bool} {H : Nat → Nat} (E : EqKey e H) (k : Nat) : fst e (fst e k) = fst e k := by
  obtain ⟨_, s2, s3⟩ := fst_spec E k
  refine fst_uniq E (E.refl _) fun j hj => ?_
  cases hjk : e j (fst e k) with
  | false => rfl
  | true =>
    have := E.trans _ _ _ hjk s2
    rw [s3 j hj] at this; cases this

/-! ### Counting -/

def countNZ (tb : Nat → Nat) : Nat → Nat
  | 0 => 0
  | m + 1 => countNZ tb m + if tb m = 0 then 0 else 1

def countF (e : Nat → Nat → Bool) : Nat → Nat
  | 0 => 0
  | m + 1 => countF e m + if fst e m = m then 1 else 0

theorem countF_le (e : Nat → Nat → Bool) (k : Nat) : countF e k ≤ k := by
  induction k with
  | zero => exact Nat.le_refl _
  | succ k ih => unfold countF; split <;> omega

theorem countNZ_le (tb : Nat → Nat) (k : Nat) : countNZ tb k ≤ k := by
  induction k with
  | zero => exact Nat.le_refl _
  | succ k ih => unfold countNZ; split <;> omega

theorem countNZ_full {tb : Nat → Nat} {m : Nat} (h : ∀ s, s < m → tb s ≠ 0) : countNZ tb m = m := by
  induction m with
  | zero => rfl
  | succ m ih => unfold countNZ; rw [ih (fun s hs => h s (by omega)), if_neg (h m (by omega))]

def put (tb : Nat → Nat) (s v : Nat) : Nat → Nat := fun t => if t = s then v else tb t

theorem put_same (tb : Nat → Nat) (s v : Nat) : put tb s v s = v := by simp [put]
theorem put_other (tb : Nat → Nat) {s t : Nat} (v : Nat) (h : t ≠ s) : put tb s v t = tb t := by simp [put, h]

theorem countNZ_put_ge {tb : Nat → Nat} {s v m : Nat} (h : m ≤ s) : countNZ (put tb s v) m = countNZ tb m := by
  induction m with
  | zero => rfl
  | succ m ih => unfold countNZ; rw [ih (by omega), put_other _ _ (by omega)]

theorem countNZ_put {tb : Nat → Nat} {s v m : Nat} (hs : s < m) (h0 : tb s = 0) (hv : v ≠ 0) : countNZ (put tb s v) m = countNZ tb m + 1 := by
  induction m with
  | zero => omega
  | succ m ih =>
    unfold countNZ
    by_cases h : s = m
    · subst h
      rw [countNZ_put_ge (Nat.le_refl _), put_same, if_neg hv, if_pos h0]
    · rw [ih (by omega), put_other _ _ (fun e => h e.symm)]; omega

/-! ### The table -/

structure TabInv (e : Nat → Nat → Bool) (H : Nat → Nat) (size k : Nat) (tb : Nat → Nat) : Prop where
  le : ∀ s, s < size → tb s ≤ k
  lead : ∀ s, s < size → tb s ≠ 0 → fst e (tb s - 1) = tb s - 1
  path : ∀ s, s < size → tb s ≠ 0 → ∃ d, d < size ∧ s = (H (tb s - 1) + d) % size ∧ ∀ d', d' < d → tb ((H (tb s - 1) + d') % size) ≠ 0
  has : ∀ i, i < k → fst e i = i → ∃ s, s < size ∧ tb s = i + 1
  inj : ∀ s s', s < size → s' < size → tb s ≠ 0 → tb s = tb s' → s = s'
  cnt : countNZ tb size = countF e k

theorem countNZ_zero (m : Nat) : countNZ (fun _ => 0) m = 0 := by
  induction m with
  | zero => rfl
  | succ m ih => unfold countNZ; rw [ih]; rfl

theorem TabInv.start (e : Nat → Nat → Bool) (H : Nat → Nat) (size : Nat) : TabInv e H size 0 (fun _ => 0) where
  le := fun _ _ => Nat.le_refl _
  lead := fun _ _ h => absurd rfl h
  path := fun _ _ h => absurd rfl h
  has := fun i hi => by omega
  inj := fun _ _ _ _ h => absurd rfl h
  cnt := by rw [countNZ_zero]; rfl

/-- A free slot, told by its distance from where the search begins. -/
theorem TabInv.free {e : Nat → Nat → Bool} {H : Nat → Nat} {size k : Nat} {tb : Nat → Nat} (I : TabInv e H size k tb) (hk : k < size) (h : Nat) : ∃ d, d < size ∧ tb ((h + d) % size) = 0 := by
  have hs : 0 < size := by omega
  have h1 : ∃ s, s < size ∧ tb s = 0 := by
    apply Classical.byContradiction
    intro hc
    have hfull := countNZ_full (tb := tb) (m := size) (fun s hs h0 => hc ⟨s, hs, h0⟩)
    have := I.cnt
    have := countF_le e k
    omega
  obtain ⟨s, hss, h0⟩ := h1
  have hm := Nat.mod_lt h hs
  by_cases hle : h % size ≤ s
  · refine ⟨s - h % size, by omega, ?_⟩
    have e1 : (h + (s - h % size)) % size = s := by
      have : h + (s - h % size) = s + size * (h / size) := by have := Nat.div_add_mod h size; omega
      rw [this, Nat.add_mul_mod_self_left, Nat.mod_eq_of_lt hss]
    rw [e1]; exact h0
  · refine ⟨s + size - h % size, by omega, ?_⟩
    have e1 : (h + (s + size - h % size)) % size = s := by
      have : h + (s + size - h % size) = s + size * (h / size + 1) := by have := Nat.div_add_mod h size; rw [Nat.mul_add]; omega
      rw [this, Nat.add_mul_mod_self_left, Nat.mod_eq_of_lt hss]
    rw [e1]; exact h0

/-- What the search has seen on its way: taken slots, none of which holds an equal. -/
def Seen (e : Nat → Nat → Bool) (H : Nat → Nat) (size k : Nat) (tb : Nat → Nat) (d : Nat) : Prop :=
  ∀ d', d' < d → tb ((H k + d') % size) ≠ 0 ∧ e (tb ((H k + d') % size) - 1) k = false

theorem TabInv.miss {e : Nat → Nat → Bool} {H : Nat → Nat} (E : EqKey e H) {size k : Nat} {tb : Nat → Nat} (I : TabInv e H size k tb) {d : Nat} (hS : Seen e H size k tb d)
    (h0 : tb ((H k + d) % size) = 0) : fst e k = k := by
  obtain ⟨s1, s2, _⟩ := fst_spec E k
  rcases Nat.lt_or_ge (fst e k) k with hlt | hge
  · exfalso
    obtain ⟨s, hs, htb⟩ := I.has _ hlt (fst_fst E k)
    obtain ⟨d1, _, hsd, hpath⟩ := I.path s hs (by omega)
    have hh : H (tb s - 1) = H k := by rw [htb]; exact E.hash _ _ s2
    rw [hh] at hsd hpath
    rcases Nat.lt_trichotomy d1 d with h | h | h
    · have := (hS d1 h).2
      rw [← hsd, htb] at this
      simp [s2] at this
    · rw [← h, ← hsd] at h0; omega
    · exact hpath d h h0
  · omega

theorem TabInv.hit {e : Nat → Nat → Bool} {H : Nat → Nat} (E : EqKey e H) {size k : Nat} {tb : Nat → Nat} (I : TabInv e H size k tb) {s : Nat} (hs : s < size) (h0 : tb s ≠ 0)
    (he : e (tb s - 1) k = true) : fst e k = tb s - 1 := fst_hit E (I.lead s hs h0) he

theorem TabInv.keep {e : Nat → Nat → Bool} {H : Nat → Nat} {size k : Nat} {tb : Nat → Nat} (I : TabInv e H size k tb) (hne : fst e k ≠ k) : TabInv e H size (k + 1) tb where
  le := fun s hs => by have := I.le s hs; omega
  lead := I.lead
  path := I.path
  has := fun i hi hf => by
    by_cases h : i = k
    · subst h; exact absurd hf hne
    · exact I.has i (by omega) hf
  inj := I.inj
  cnt := by rw [I.cnt]; simp [countF, hne]

theorem TabInv.add {e : Nat → Nat → Bool} {H : Nat → Nat} {size k : Nat} {tb : Nat → Nat} (I : TabInv e H size k tb) (hf : fst e k = k) {d : Nat} (hd : d < size) (hS : Seen e H size k tb d)
    (h0 : tb ((H k + d) % size) = 0) : TabInv e H size (k + 1) (put tb ((H k + d) % size) (k + 1)) := by
  have hs : (H k + d) % size < size := Nat.mod_lt _ (by omega)
  generalize hsl : (H k + d) % size = sl at *
  have nz : ∀ t, tb t ≠ 0 → put tb sl (k + 1) t ≠ 0 := fun t ht => by
    by_cases h : t = sl
    · subst h; rw [put_same]; omega
    · rw [put_other _ _ h]; exact ht
  refine ⟨fun s hss => ?_, fun s hss hz => ?_, fun s hss hz => ?_, fun i hi hfi => ?_, fun s s' hss hss' hz he => ?_, ?_⟩
  · by_cases h : s = sl
    · subst h; rw [put_same]; omega
    · rw [put_other _ _ h]; have := I.le s hss; omega
  · by_cases h : s = sl
    · subst h; rw [put_same]; simpa using hf
    · rw [put_other _ _ h] at hz ⊢; exact I.lead s hss hz
  · by_cases h : s = sl
    · subst h
      rw [put_same]
      refine ⟨d, hd, by simpa using hsl.symm, fun d' hd' => nz _ ?_⟩
      simpa using (hS d' hd').1
    · rw [put_other _ _ h] at hz ⊢
      obtain ⟨d1, h1, h2, h3⟩ := I.path s hss hz
      exact ⟨d1, h1, h2, fun d' hd' => nz _ (h3 d' hd')⟩
  · by_cases h : i = k
    · subst h; exact ⟨sl, hs, put_same _ _ _⟩
    · obtain ⟨s, h1, h2⟩ := I.has i (by omega) hfi
      refine ⟨s, h1, ?_⟩
      rw [put_other _ _ (fun e => by rw [e, h0] at h2; omega)]
      exact h2
  · by_cases h : s = sl
    · by_cases h' : s' = sl
      · rw [h, h']
      · rw [h, put_same, put_other _ _ h'] at he
        have := I.le s' hss'
        omega
    · by_cases h' : s' = sl
      · rw [h', put_same, put_other _ _ h] at he
        have := I.le s hss
        omega
      · rw [put_other _ _ h] at hz
        rw [put_other _ _ h, put_other _ _ h'] at he
        exact I.inj s s' hss hss' hz he
  · rw [countNZ_put hs h0 (by omega), I.cnt]
    simp [countF, hf]

/-! ### What firsts holds -/

def wantF (P : Nat → Nat) (e : Nat → Nat → Bool) (f0 : Nat → Int) : Nat → Nat → Int
  | 0 => f0
  | k + 1 => fun x => if x = P k then ((P (fst e k) : Nat) : Int) else wantF P e f0 k x

/-- The size of the table: the least power of two from 2 n on. -/
structure SizeOk (n size : Nat) : Prop where
  pow : ∃ p, size = 2 ^ p
  ge : 2 * n ≤ size
  lt : size = 1 ∨ size < 4 * n

end Go.Proofs.Qxb6602193a
