namespace Go.Proofs.Qxb6605416a.Pl

/-- Of the 'n' bytes 'f': the line feed at j begins an empty line that ends just ahead of e. -/
def BlankAt (f : Nat → Int) (n j e : Nat) : Prop :=
  e ≤ n ∧ f j = 10 ∧ ((e = j + 2 ∧ f (j + 1) = 10) ∨ (e = j + 3 ∧ f (j + 1) = 13 ∧ f (j + 2) = 10))

/-- What HeadEnd answers: the least such end; 0 where there is none. -/
def IsHead (f : Nat → Int) (n r : Nat) : Prop :=
  (r = 0 ∧ ∀ j e, ¬ BlankAt f n j e) ∨ ((∃ j, BlankAt f n j r) ∧ ∀ j e, BlankAt f n j e → r ≤ e)

theorem IsHead.unique {f : Nat → Int} {n r s : Nat} (hr : IsHead f n r) (hs : IsHead f n s) : r = s := by
  rcases hr with ⟨rfl, h0⟩ | ⟨⟨j, hj⟩, h1⟩ <;> rcases hs with ⟨rfl, k0⟩ | ⟨⟨i, hi⟩, k1⟩
  · rfl
  · exact absurd hi (h0 i s)
  · exact absurd hj (k0 j r)
  · have := h1 i s hi; have := k1 j r hj; omega

theorem BlankAt.mono {f g : Nat → Int} {n m j e : Nat} (h : BlankAt f n j e) (hm : e ≤ m) (hfg : ∀ i, i < e → g i = f i) : BlankAt g m j e := by
  obtain ⟨h1, h2, h3⟩ := h
  refine ⟨hm, ?_, ?_⟩
  · rw [hfg j (by omega)]; exact h2
  · rcases h3 with ⟨a, b⟩ | ⟨a, b, c⟩
    · exact .inl ⟨a, by rw [hfg _ (by omega)]; exact b⟩
    · exact .inr ⟨a, by rw [hfg _ (by omega)]; exact b, by rw [hfg _ (by omega)]; exact c⟩

theorem BlankAt.two {f : Nat → Int} {n j e : Nat} (h : BlankAt f n j e) : 2 ≤ e ∧ e ≤ n := by
  obtain ⟨h1, h2, h3⟩ := h; omega

theorem IsHead.bounds {f : Nat → Int} {n r : Nat} (h : IsHead f n r) (h0 : r ≠ 0) : 2 ≤ r ∧ r ≤ n := by
  rcases h with ⟨rfl, _⟩ | ⟨⟨j, hj⟩, _⟩
  · exact absurd rfl h0
  · exact hj.two

/-- Once there is a head more bytes do not move its end. -/
theorem IsHead.more {f g : Nat → Int} {n m r s : Nat} (h : IsHead f n r) (h0 : r ≠ 0) (hg : IsHead g m s) (hrm : r ≤ m) (hfg : ∀ i, i < n → g i = f i) : s = r := by
  have hb := h.bounds h0
  rcases h with ⟨rfl, _⟩ | ⟨⟨j, hj⟩, hmin⟩
  · exact absurd rfl h0
  · have hjg : BlankAt g m j r := hj.mono hrm (fun i hi => hfg i (by omega))
    rcases hg with ⟨rfl, k0⟩ | ⟨⟨i, hi⟩, k1⟩
    · exact absurd hjg (k0 j r)
    · have hsr := k1 j r hjg
      have := hmin i s (hi.mono (by omega) (fun k hk => (hfg k (by omega)).symm))
      omega

/-- A shorter piece than the head holds none. -/
theorem IsHead.less {f : Nat → Int} {n m r s : Nat} (h : IsHead f n r) (h0 : r ≠ 0) (hg : IsHead f m s) (hm : m < r) : s = 0 := by
  have hb := h.bounds h0
  rcases h with ⟨rfl, _⟩ | ⟨⟨j, hj⟩, hmin⟩
  · exact absurd rfl h0
  · rcases hg with ⟨rfl, _⟩ | ⟨⟨i, hi⟩, _⟩
    · rfl
    · have := hi.two
      have := hmin i s (hi.mono (by omega) (fun _ _ => rfl))
      omega

/-- No head in the first n: a head of more bytes ends behind them. -/
theorem IsHead.later {f g : Nat → Int} {n m s : Nat} (h : IsHead f n 0) (hg : IsHead g m s) (hfg : ∀ i, i < n → g i = f i) : s = 0 ∨ n < s := by
  rcases hg with ⟨rfl, _⟩ | ⟨⟨i, hi⟩, _⟩
  · exact .inl rfl
  · by_cases hn : n < s
    · exact .inr hn
    · rcases h with ⟨_, h0⟩ | ⟨⟨j, hj⟩, _⟩
      · exact absurd (hi.mono (by omega) (fun k hk => (hfg k (by omega)).symm)) (h0 i s)
      · have := hj.two; omega

/-- Two line feeds at the end complete a head. -/
theorem IsHead.closed {f g : Nat → Int} {n s : Nat} (h : IsHead f n 0) (hg : IsHead g (n + 2) s) (hfg : ∀ i, i < n → g i = f i) (h1 : g n = 10) (h2 : g (n + 1) = 10) : n < s ∧ s ≤ n + 2 := by
  have hb : BlankAt g (n + 2) n (n + 2) := ⟨Nat.le_refl _, h1, .inl ⟨rfl, h2⟩⟩
  rcases hg with ⟨rfl, k0⟩ | ⟨hi, k1⟩
  · exact absurd hb (k0 _ _)
  · have hs := k1 _ _ hb
    rcases h.later (.inr ⟨hi, k1⟩) hfg with rfl | hl
    · obtain ⟨i, hi⟩ := hi; have := hi.two; omega
    · exact ⟨hl, hs⟩

/-- HeadEnd's loop: no empty line begins ahead of i; the next line feed lies at j. -/
theorem step_none {f : Nat → Int} {n i : Nat} (hI : ∀ j e, j < i → ¬ BlankAt f n j e) (hno : ∀ k, i ≤ k → k < n → f k ≠ 10) : IsHead f n 0 := by
  refine .inl ⟨rfl, fun j e hb => ?_⟩
  by_cases hj : j < i
  · exact hI j e hj hb
  · obtain ⟨h1, h2, h3⟩ := hb
    exact hno j (by omega) (by omega) h2

theorem step_two {f : Nat → Int} {n i j : Nat} (hI : ∀ j e, j < i → ¬ BlankAt f n j e) (hno : ∀ k, i ≤ k → k < j → f k ≠ 10) (hj : f j = 10) (h1 : j + 1 < n) (h2 : f (j + 1) = 10) : IsHead f n (j + 2) := by
  refine .inr ⟨⟨j, by omega, hj, .inl ⟨rfl, h2⟩⟩, fun k e hb => ?_⟩
  by_cases hk : k < i
  · exact absurd hb (hI k e hk)
  · by_cases hkj : k < j
    · exact absurd hb.2.1 (hno k (by omega) hkj)
    · obtain ⟨_, _, h3⟩ := hb; omega

theorem step_three {f : Nat → Int} {n i j : Nat} (hI : ∀ j e, j < i → ¬ BlankAt f n j e) (hno : ∀ k, i ≤ k → k < j → f k ≠ 10) (hj : f j = 10) (h1 : j + 2 < n) (h2 : f (j + 1) = 13) (h3 : f (j + 2) = 10) : IsHead f n (j + 3) := by
  refine .inr ⟨⟨j, by omega, hj, .inr ⟨rfl, h2, h3⟩⟩, fun k e hb => ?_⟩
  by_cases hk : k < i
  · exact absurd hb (hI k e hk)
  · by_cases hkj : k < j
    · exact absurd hb.2.1 (hno k (by omega) hkj)
    · obtain ⟨_, _, h4⟩ := hb
      by_cases e1 : k = j
      · subst e1; omega
      · omega

theorem step_on {f : Nat → Int} {n i j : Nat} (hI : ∀ j e, j < i → ¬ BlankAt f n j e) (hno : ∀ k, i ≤ k → k < j → f k ≠ 10)
    (h1 : ¬ (j + 1 < n ∧ f (j + 1) = 10)) (h2 : ¬ (j + 2 < n ∧ f (j + 1) = 13 ∧ f (j + 2) = 10)) : ∀ k e, k < j + 1 → ¬ BlankAt f n k e := by
  intro k e hk hb
  by_cases hki : k < i
  · exact hI k e hki hb
  · by_cases hkj : k < j
    · exact hno k (by omega) hkj hb.2.1
    · obtain rfl : k = j := by omega
      obtain ⟨a, b, c⟩ := hb
      rcases c with ⟨rfl, c⟩ | ⟨rfl, c, d⟩
      · exact h1 ⟨by omega, c⟩
      · exact h2 ⟨by omega, c, d⟩

/-- 'endsInBlankLine' of the first k bytes. -/
def Ends (f : Nat → Int) (k : Nat) : Bool :=
  (decide (2 ≤ k) && (f (k - 2) == 10) && (f (k - 1) == 10)) || (decide (3 ≤ k) && (f (k - 3) == 10) && (f (k - 2) == 13) && (f (k - 1) == 10))

theorem ends_iff {f : Nat → Int} {n k : Nat} (hk : k ≤ n) : Ends f k = true ↔ ∃ j, BlankAt f n j k := by
  unfold Ends
  simp only [Bool.or_eq_true, Bool.and_eq_true, decide_eq_true_eq, beq_iff_eq]
  constructor
  · rintro (⟨⟨h1, h2⟩, h3⟩ | ⟨⟨⟨h1, h2⟩, h3⟩, h4⟩)
    · refine ⟨k - 2, hk, h2, .inl ⟨by omega, ?_⟩⟩
      rw [show k - 2 + 1 = k - 1 by omega]; exact h3
    · refine ⟨k - 3, hk, h2, .inr ⟨by omega, ?_, ?_⟩⟩
      · rw [show k - 3 + 1 = k - 2 by omega]; exact h3
      · rw [show k - 3 + 2 = k - 1 by omega]; exact h4
  · rintro ⟨j, _, h2, ⟨rfl, h3⟩ | ⟨rfl, h3, h4⟩⟩
    · exact .inl ⟨⟨by omega, by rw [show j + 2 - 2 = j by omega]; exact h2⟩, by rw [show j + 2 - 1 = j + 1 by omega]; exact h3⟩
    · exact .inr ⟨⟨⟨by omega, by rw [show j + 3 - 3 = j by omega]; exact h2⟩, by rw [show j + 3 - 2 = j + 1 by omega]; exact h3⟩, by rw [show j + 3 - 1 = j + 2 by omega]; exact h4⟩

theorem shortest_hit {f : Nat → Int} {n k : Nat} (hk : k ≤ n) (hI : ∀ i, i < k → Ends f i = false) (h : Ends f k = true) : IsHead f n k := by
  refine .inr ⟨(ends_iff hk).1 h, fun j e hb => ?_⟩
  by_cases he : e < k
  · have := (ends_iff (n := n) hb.1).2 ⟨j, hb⟩
    rw [hI e he] at this; cases this
  · omega

theorem shortest_none {f : Nat → Int} {n : Nat} (hI : ∀ i, i < n + 1 → Ends f i = false) : IsHead f n 0 := by
  refine .inl ⟨rfl, fun j e hb => ?_⟩
  have := (ends_iff (n := n) hb.1).2 ⟨j, hb⟩
  rw [hI e (by have := hb.two; omega)] at this; cases this

theorem ends_small (f : Nat → Int) (k : Nat) (h : k < 2) : Ends f k = false := by
  unfold Ends
  rw [decide_eq_false (by omega), decide_eq_false (by omega)]; rfl

/-- A byte that a host is made of. -/
def hostB (c : Int) : Bool :=
  (decide (97 ≤ c) && decide (c ≤ 122)) || (decide (65 ≤ c) && decide (c ≤ 90)) || (decide (48 ≤ c) && decide (c ≤ 57)) ||
    (c == 46) || (c == 45) || (c == 95) || (c == 58) || (c == 91) || (c == 93)

/-- 'isHost' of the first n bytes. -/
def allB (f : Nat → Int) : Nat → Bool
  | 0 => true
  | n + 1 => allB f n && hostB (f n)
def hostN (f : Nat → Int) (n : Nat) : Bool := decide (0 < n) && allB f n

theorem allB_of {f : Nat → Int} {n : Nat} (h : ∀ i, i < n → hostB (f i) = true) : allB f n = true := by
  induction n with
  | zero => rfl
  | succ n ih => simp [allB, ih (fun i hi => h i (by omega)), h n (by omega)]

theorem of_allB {f : Nat → Int} {n : Nat} (h : allB f n = true) : ∀ i, i < n → hostB (f i) = true := by
  induction n with
  | zero => intro i hi; omega
  | succ n ih =>
    simp [allB] at h
    intro i hi
    by_cases e : i = n
    · subst e; exact h.2
    · exact ih h.1 i (by omega)

theorem allB_not {f : Nat → Int} {n i : Nat} (hi : i < n) (h : hostB (f i) = false) : allB f n = false := by
  cases hb : allB f n with
  | false => rfl
  | true => rw [of_allB hb i hi] at h; cases h

theorem allB_cat (f g h : Nat → Int) (n m : Nat) (h1 : ∀ i, i < n → h i = f i) (h2 : ∀ i, i < m → h (n + i) = g i) : allB h (n + m) = (allB f n && allB g m) := by
  cases hb : allB f n && allB g m with
  | true =>
    rw [Bool.and_eq_true] at hb
    apply allB_of
    intro i hi
    by_cases hin : i < n
    · rw [h1 i hin]; exact of_allB hb.1 i hin
    · have := h2 (i - n) (by omega)
      rw [show n + (i - n) = i by omega] at this
      rw [this]; exact of_allB hb.2 _ (by omega)
  | false =>
    cases hc : allB h (n + m) with
    | false => rfl
    | true =>
      have hf : allB f n = true := allB_of fun i hi => by rw [← h1 i hi]; exact of_allB hc i (by omega)
      have hg : allB g m = true := allB_of fun i hi => by rw [← h2 i hi]; exact of_allB hc _ (by omega)
      rw [hf, hg] at hb; cases hb

theorem hostN_cat (f g h : Nat → Int) (n m : Nat) (h1 : ∀ i, i < n → h i = f i) (h2 : ∀ i, i < m → h (n + i) = g i) :
    hostN h (n + m) = (decide (0 < n + m) && ((n == 0) || hostN f n) && ((m == 0) || hostN g m)) := by
  unfold hostN
  rw [allB_cat f g h n m h1 h2]
  by_cases hn : n = 0
  · subst hn
    by_cases hm : m = 0
    · subst hm; rfl
    · have : 0 < m := by omega
      have hm' : (m == 0) = false := by simpa using hm
      simp [allB, this, hm']
  · have hn1 : 0 < n := by omega
    have hn' : (n == 0) = false := by simpa using hn
    by_cases hm : m = 0
    · subst hm; simp [allB, hn1, hn']
    · have : 0 < m := by omega
      have hm' : (m == 0) = false := by simpa using hm
      have : 0 < n + m := by omega
      simp [*]

/-- How many of the bytes below k are host bytes. -/
def cnt : Nat → Nat
  | 0 => 0
  | k + 1 => cnt k + if hostB (k : Int) then 1 else 0

theorem cnt_le (k : Nat) : cnt k ≤ k := by
  induction k with
  | zero => exact Nat.le_refl _
  | succ k ih => simp only [cnt]; split <;> omega

theorem cnt_256 : cnt 256 = 68 := by decide +kernel

end Go.Proofs.Qxb6605416a.Pl
