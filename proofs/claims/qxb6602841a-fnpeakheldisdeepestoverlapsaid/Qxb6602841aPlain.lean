namespace Go.Proofs.Qxb6602841a

/-- How many of l are at most x. -/
def cle (l : List Int) (x : Int) : Nat := l.countP (fun a => decide (a ≤ x))
def clt (l : List Int) (x : Int) : Nat := l.countP (fun a => decide (a < x))

def Up (l : List Int) : Prop := ∀ i j, i ≤ j → j < l.length → l.getD i 0 ≤ l.getD j 0

theorem up_of_pairwise {l : List Int} (h : l.Pairwise (fun a b => a ≤ b)) : Up l := by
  intro i j hij hj
  rcases Nat.eq_or_lt_of_le hij with rfl | hlt
  · exact Int.le_refl _
  · have := List.pairwise_iff_getElem.1 h i j (by omega) hj hlt
    simpa [List.getD_eq_getElem?_getD, show i < l.length by omega, hj] using this

theorem up_mergeSort (l : List Int) : Up (l.mergeSort fun x y => decide (x ≤ y)) := by
  apply up_of_pairwise
  have := List.pairwise_mergeSort (le := fun x y : Int => decide (x ≤ y)) (fun a b c h1 h2 => by simp at *; omega) (fun a b => by simp; omega) l
  simpa using this

/-- A count over the indices. -/
theorem countP_range (l : List Int) (p : Int → Bool) : l.countP p = (List.range l.length).countP (fun i => p (l.getD i 0)) := by
  induction l with
  | nil => rfl
  | cons a l ih =>
    rw [List.length_cons, List.range_succ_eq_map, List.countP_cons, List.countP_cons, List.countP_map, ih]
    rfl

theorem countP_range_le {p : Nat → Bool} {n m : Nat} (h : ∀ i, i < n → p i = true → i < m) : (List.range n).countP p ≤ m := by
  induction n generalizing m with
  | zero => exact Nat.zero_le _
  | succ n ih =>
    rw [List.range_succ, List.countP_append]
    by_cases hp : p n = true
    · have hm := h n (by omega) hp
      have := ih (m := n) (fun i hi hpi => hi)
      simp [hp]
      omega
    · have := ih (m := m) (fun i hi hpi => h i (by omega) hpi)
      simp [hp]
      exact this

theorem countP_range_ge {p : Nat → Bool} {n m : Nat} (hm : m ≤ n) (h : ∀ i, i < m → p i = true) : m ≤ (List.range n).countP p := by
  induction n generalizing m with
  | zero => omega
  | succ n ih =>
    rw [List.range_succ, List.countP_append]
    rcases Nat.eq_or_lt_of_le hm with rfl | hlt
    · have := ih (m := n) (Nat.le_refl _) (fun i hi => h i (by omega))
      simp [h n (by omega)]
      exact this
    · have := ih (m := m) (by omega) h
      exact Nat.le_trans this (Nat.le_add_right _ _)

theorem up_cle_ge {l : List Int} (h : Up l) {i : Nat} (hi : i < l.length) : i + 1 ≤ cle l (l.getD i 0) := by
  unfold cle
  rw [countP_range]
  exact countP_range_ge (by omega) (fun j hj => by simpa using h j i (by omega) hi)

theorem up_clt_le {l : List Int} (h : Up l) {i : Nat} (_hi : i < l.length) : clt l (l.getD i 0) ≤ i := by
  unfold clt
  rw [countP_range]
  refine countP_range_le (fun j hj hp => ?_)
  rcases Nat.lt_or_ge j i with h1 | h1
  · exact h1
  · have := h i j h1 hj
    simp only [decide_eq_true_eq] at hp
    omega

/-- The pointer stands where the count says. -/
theorem up_cle_eq {l : List Int} (h : Up l) {x : Int} {e : Nat} (he : e < l.length) (h1 : ∀ t, t < e → l.getD t 0 ≤ x) (h2 : x < l.getD e 0) : cle l x = e := by
  unfold cle
  rw [countP_range]
  apply Nat.le_antisymm
  · refine countP_range_le (fun j hj hp => ?_)
    rcases Nat.lt_or_ge j e with h3 | h3
    · exact h3
    · have := h e j h3 hj
      simp only [decide_eq_true_eq] at hp
      omega
  · exact countP_range_ge (by omega) (fun j hj => by simpa using h1 j hj)

theorem cle_perm {l l' : List Int} (h : l.Perm l') (x : Int) : cle l x = cle l' x := h.countP_eq _
theorem clt_perm {l l' : List Int} (h : l.Perm l') (x : Int) : clt l x = clt l' x := h.countP_eq _

/-- The spans: each ends behind its start. -/
def Spans (A B : List Int) : Prop := A.length = B.length ∧ ∀ i, i < A.length → A.getD i 0 < B.getD i 0

theorem countP_range_mono {p q : Nat → Bool} {n : Nat} (h : ∀ i, i < n → p i = true → q i = true) : (List.range n).countP p ≤ (List.range n).countP q := by
  apply List.countP_mono_left
  intro i hi
  exact h i (List.mem_range.1 hi)

/-- Whoever has ended by x has begun before it. -/
theorem ended_lt {A B : List Int} (h : Spans A B) (x : Int) : cle B x ≤ clt A x := by
  unfold cle clt
  rw [countP_range, countP_range A, h.1]
  refine countP_range_mono (fun i hi hp => ?_)
  have := h.2 i (by rw [h.1]; exact hi)
  simp only [decide_eq_true_eq] at hp ⊢
  omega

/-- How many spans hold x. -/
def hold (A B : List Int) (x : Int) : Nat := (List.range A.length).countP (fun k => decide (A.getD k 0 ≤ x ∧ x < B.getD k 0))

theorem countP_diff {p q r : Nat → Bool} {n : Nat} (h : ∀ i, i < n → r i = (p i && !q i)) (hq : ∀ i, i < n → q i = true → p i = true) :
    (List.range n).countP r + (List.range n).countP q = (List.range n).countP p := by
  induction n with
  | zero => rfl
  | succ n ih =>
    have := ih (fun i hi => h i (by omega)) (fun i hi => hq i (by omega))
    have hr := h n (by omega)
    have hqn := hq n (by omega)
    simp only [List.range_succ, List.countP_append, List.countP_cons, List.countP_nil]
    cases hp : p n <;> cases hqq : q n <;> simp_all <;> omega

theorem hold_eq {A B : List Int} (h : Spans A B) (x : Int) : hold A B x + cle B x = cle A x := by
  unfold hold cle
  rw [countP_range B, countP_range A, ← h.1]
  refine countP_diff (fun i hi => ?_) (fun i hi hp => ?_)
  · have := h.2 i hi
    rw [Bool.eq_iff_iff]
    simp
  · have := h.2 i hi
    simp only [decide_eq_true_eq] at hp ⊢
    omega

/-! ### The two peaks -/

/-- The greatest of f 0, .., f (n - 1), and 0. -/
def top (f : Nat → Nat) : Nat → Nat
  | 0 => 0
  | n + 1 => max (top f n) (f n)

theorem le_top {f : Nat → Nat} {n i : Nat} (hi : i < n) : f i ≤ top f n := by
  induction n with
  | zero => omega
  | succ n ih =>
    unfold top
    rcases Nat.lt_or_ge i n with h | h
    · have := ih h; omega
    · have : i = n := by omega
      subst this; omega

theorem top_le {f : Nat → Nat} {n m : Nat} (h : ∀ i, i < n → f i ≤ m) : top f n ≤ m := by
  induction n with
  | zero => exact Nat.zero_le _
  | succ n ih =>
    unfold top
    have := ih (fun i hi => h i (by omega))
    have := h n (by omega)
    omega

/-- peakHeld's own count at its i-th start. -/
def atStart (SA B : List Int) (i : Nat) : Nat := i + 1 - cle B (SA.getD i 0)

theorem peaks {A B SA : List Int} (h : Spans A B) (hp : SA.Perm A) (hu : Up SA) : top (atStart SA B) A.length = top (fun j => hold A B (A.getD j 0)) A.length := by
  have hl : SA.length = A.length := hp.length_eq
  apply Nat.le_antisymm
  · refine top_le (fun i hi => ?_)
    have hi' : i < SA.length := by omega
    -- the i-th start is the start of some span
    have hmem : SA.getD i 0 ∈ A := by
      rw [← hp.mem_iff, List.getD_eq_getElem?_getD, List.getElem?_eq_getElem hi']
      exact List.getElem_mem hi'
    obtain ⟨j, hj, hje⟩ := List.getElem_of_mem hmem
    have hje' : A.getD j 0 = SA.getD i 0 := by rw [← hje, List.getD_eq_getElem?_getD, List.getElem?_eq_getElem hj]; rfl
    refine Nat.le_trans ?_ (le_top hj)
    have h1 := up_cle_ge hu hi'
    rw [cle_perm hp] at h1
    have h2 := hold_eq h (SA.getD i 0)
    show i + 1 - cle B (SA.getD i 0) ≤ hold A B (A.getD j 0)
    rw [hje']
    omega
  · refine top_le (fun j hj => ?_)
    -- the last place of that start among the sorted ones
    have h2 := hold_eq h (A.getD j 0)
    generalize hx : A.getD j 0 = x at *
    have hmem : x ∈ SA := by
      rw [hp.mem_iff, ← hx, List.getD_eq_getElem?_getD, List.getElem?_eq_getElem hj]
      exact List.getElem_mem hj
    have hc : cle SA x = cle A x := cle_perm hp x
    have hpos : 0 < cle SA x := by
      unfold cle
      rw [List.countP_pos_iff]
      exact ⟨x, hmem, by simp⟩
    have hcl : cle SA x ≤ SA.length := List.countP_le_length
    -- SA (cle - 1) = x
    have hlast : SA.getD (cle SA x - 1) 0 = x := by
      obtain ⟨i, hi, hie⟩ := List.getElem_of_mem hmem
      have hie' : SA.getD i 0 = x := by rw [← hie, List.getD_eq_getElem?_getD, List.getElem?_eq_getElem hi]; rfl
      have h3 := up_cle_ge hu hi
      rw [hie'] at h3
      have h4 := hu i (cle SA x - 1) (by omega) (by omega)
      rw [hie'] at h4
      apply Int.le_antisymm _ h4
      -- were it greater, fewer would be at most x
      apply Int.not_lt.1
      intro hgt
      have : cle SA x ≤ cle SA x - 1 := by
        conv => lhs; unfold cle
        rw [countP_range]
        refine countP_range_le (fun t ht hpt => ?_)
        rcases Nat.lt_or_ge t (cle SA x - 1) with h5 | h5
        · exact h5
        · have := hu (cle SA x - 1) t h5 ht
          simp only [decide_eq_true_eq] at hpt
          omega
      omega
    refine Nat.le_trans ?_ (le_top (f := atStart SA B) (i := cle SA x - 1) (by omega))
    unfold atStart
    rw [hlast]
    omega

/-! ### Lists out of functions -/

def listOf (n : Nat) (A : Nat → Int) : List Int := (List.range n).map A
theorem listOf_length (n : Nat) (A : Nat → Int) : (listOf n A).length = n := by simp [listOf]
theorem listOf_getD {n : Nat} {A : Nat → Int} {i : Nat} (hi : i < n) : (listOf n A).getD i 0 = A i := by
  simp [listOf, List.getD_eq_getElem?_getD, hi]

/-- How many of the first k spans hold x. -/
def cnt (A B : Nat → Int) (x : Int) : Nat → Nat
  | 0 => 0
  | k + 1 => cnt A B x k + if A k ≤ x ∧ x < B k then 1 else 0

theorem cnt_le (A B : Nat → Int) (x : Int) (k : Nat) : cnt A B x k ≤ k := by
  induction k with
  | zero => exact Nat.le_refl _
  | succ k ih => unfold cnt; split <;> omega

theorem cnt_countP (A B : Nat → Int) (x : Int) (k : Nat) : cnt A B x k = (List.range k).countP (fun t => decide (A t ≤ x ∧ x < B t)) := by
  induction k with
  | zero => rfl
  | succ k ih =>
    rw [List.range_succ, List.countP_append, cnt, ih]
    by_cases h : A k ≤ x ∧ x < B k
    · rw [if_pos h]; simp [h]
    · rw [if_neg h]
      simp [List.countP_cons]
      omega

theorem hold_cnt (n : Nat) (A B : Nat → Int) (x : Int) : hold (listOf n A) (listOf n B) x = cnt A B x n := by
  rw [cnt_countP]
  unfold hold
  rw [listOf_length]
  apply List.countP_congr
  intro k hk
  have hk' := List.mem_range.1 hk
  rw [listOf_getD hk', listOf_getD hk']

theorem top_congr {f g : Nat → Nat} {n : Nat} (h : ∀ i, i < n → f i = g i) : top f n = top g n := by
  induction n with
  | zero => rfl
  | succ n ih => unfold top; rw [ih (fun i hi => h i (by omega)), h n (by omega)]

theorem spans_of {n : Nat} {A B : Nat → Int} (h : ∀ i, i < n → A i < B i) : Spans (listOf n A) (listOf n B) :=
  ⟨by rw [listOf_length, listOf_length], fun i hi => by
    rw [listOf_length] at hi
    rw [listOf_getD hi, listOf_getD hi]; exact h i hi⟩

/-- THE LAW: the two peaks are one. -/
theorem peaks_fn {n : Nat} {A B : Nat → Int} {SA : List Int} (h : ∀ i, i < n → A i < B i) (hp : SA.Perm (listOf n A)) (hu : Up SA) : top (atStart SA (listOf n B)) n = top (fun j => cnt A B (A j) n) n := by
  have := peaks (spans_of h) hp hu
  rw [listOf_length] at this
  rw [this]
  refine top_congr (fun j hj => ?_)
  rw [listOf_getD hj, hold_cnt]

theorem top_bound {f : Nat → Nat} {n m : Nat} (h : ∀ i, i < n → f i ≤ m) : top f n ≤ m := top_le h

/-- The pointer's bound. -/
theorem ptr_le {n : Nat} {A B : Nat → Int} {SA SB : List Int} (h : ∀ i, i < n → A i < B i) (hp : SA.Perm (listOf n A)) (hu : Up SA) (hq : SB.Perm (listOf n B)) {k e : Nat} (hk : k < n) (he : e ≤ n)
    (h1 : ∀ t, t < e → SB.getD t 0 ≤ SA.getD k 0) : e ≤ k := by
  have hl : SA.length = n := by rw [hp.length_eq, listOf_length]
  have hl2 : SB.length = n := by rw [hq.length_eq, listOf_length]
  have c1 : e ≤ cle SB (SA.getD k 0) := by
    unfold cle
    rw [countP_range, hl2]
    exact countP_range_ge he (fun j hj => by simpa using h1 j hj)
  have c2 := ended_lt (spans_of h) (SA.getD k 0)
  have c3 := up_clt_le hu (i := k) (by omega)
  rw [clt_perm hp] at c3
  rw [cle_perm hq] at c1
  omega

theorem ptr_eq {n : Nat} {B : Nat → Int} {SB : List Int} (hu : Up SB) (hq : SB.Perm (listOf n B)) {x : Int} {e : Nat} (he : e < n) (h1 : ∀ t, t < e → SB.getD t 0 ≤ x) (h2 : x < SB.getD e 0) : cle (listOf n B) x = e := by
  have hl2 : SB.length = n := by rw [hq.length_eq, listOf_length]
  rw [← cle_perm hq]
  exact up_cle_eq hu (by omega) h1 h2

end Go.Proofs.Qxb6602841a
