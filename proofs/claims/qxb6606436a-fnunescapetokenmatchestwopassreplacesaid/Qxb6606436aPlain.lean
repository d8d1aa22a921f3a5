/-
  Seat b6606436a: the plain layer: unescaping, escaping, the two passes, over lists of bytes.
-/
namespace Go.Proofs.Qxb6606436a.Pl

/-- What unescapeToken writes from place i on, and what it hands back. -/
def un : Nat → List UInt8 → List UInt8 × Int
  | _, [] => ([], -1)
  | i, c :: t =>
    if c = 126 then
      match t with
      | [] => ([], (i : Int))
      | d :: u => if d = 48 then (126 :: (un (i + 2) u).1, (un (i + 2) u).2) else if d = 49 then (47 :: (un (i + 2) u).1, (un (i + 2) u).2) else ([], (i : Int))
    else (c :: (un (i + 1) t).1, (un (i + 1) t).2)

theorem un_nil (i : Nat) : un i [] = ([], -1) := by rw [un]
theorem un_other {i : Nat} {c : UInt8} {t : List UInt8} (h : c ≠ 126) : un i (c :: t) = (c :: (un (i + 1) t).1, (un (i + 1) t).2) := by
  rw [un.eq_def]; simp only [if_neg h]
theorem un_end (i : Nat) : un i [126] = ([], (i : Int)) := by rw [un]; simp
theorem un_zero (i : Nat) (u : List UInt8) : un i (126 :: 48 :: u) = (126 :: (un (i + 2) u).1, (un (i + 2) u).2) := by
  rw [un]; simp
theorem un_one (i : Nat) (u : List UInt8) : un i (126 :: 49 :: u) = (47 :: (un (i + 2) u).1, (un (i + 2) u).2) := by
  rw [un]; simp
theorem un_bad (i : Nat) {d : UInt8} {u : List UInt8} (h0 : d ≠ 48) (h1 : d ≠ 49) : un i (126 :: d :: u) = ([], (i : Int)) := by
  rw [un]; simp [h0, h1]

/-- The escape. -/
def esc : List UInt8 → List UInt8
  | [] => []
  | c :: t => if c = 126 then 126 :: 48 :: esc t else if c = 47 then 126 :: 49 :: esc t else c :: esc t

theorem un_esc : ∀ (l : List UInt8) (i : Nat), un i (esc l) = (l, -1)
  | [], i => by rw [esc, un_nil]
  | c :: t, i => by
    rw [esc]
    by_cases h : c = 126
    · rw [if_pos h, un_zero, un_esc t, h]
    · rw [if_neg h]
      by_cases h2 : c = 47
      · rw [if_pos h2, un_one, un_esc t, h2]
      · rw [if_neg h2, un_other h, un_esc t]

theorem esc_append : ∀ (a b : List UInt8), esc (a ++ b) = esc a ++ esc b
  | [], b => rfl
  | c :: t, b => by
    rw [List.cons_append, esc, esc, esc_append t b]
    split
    · rfl
    · split <;> rfl

theorem esc_length : ∀ l : List UInt8, (esc l).length ≤ 2 * l.length
  | [] => by simp [esc]
  | c :: t => by
    have ih := esc_length t
    rw [esc]
    split
    · simp; omega
    · split
      · simp; omega
      · simp; omega

/-- utFirstBad from place i on. -/
def bad : Nat → List UInt8 → Int
  | _, [] => -1
  | i, c :: t =>
    if c = 126 then
      match t with
      | [] => (i : Int)
      | d :: u => if d ≠ 48 ∧ d ≠ 49 then (i : Int) else bad (i + 1) (d :: u)
    else bad (i + 1) t

theorem bad_nil (i : Nat) : bad i [] = -1 := by rw [bad]
theorem bad_other {i : Nat} {c : UInt8} {t : List UInt8} (h : c ≠ 126) : bad i (c :: t) = bad (i + 1) t := by
  rw [bad.eq_def]; simp only [if_neg h]
theorem bad_end (i : Nat) : bad i [126] = (i : Int) := by rw [bad]; simp
theorem bad_bad {i : Nat} {d : UInt8} {u : List UInt8} (h0 : d ≠ 48) (h1 : d ≠ 49) : bad i (126 :: d :: u) = (i : Int) := by
  rw [bad]; simp [h0, h1]
theorem bad_good {i : Nat} {d : UInt8} {u : List UInt8} (h : d = 48 ∨ d = 49) : bad i (126 :: d :: u) = bad (i + 1) (d :: u) := by
  rw [bad]
  rcases h with rfl | rfl <;> simp

theorem bad_digit {i : Nat} {d : UInt8} {u : List UInt8} (h : d = 48 ∨ d = 49) : bad i (126 :: d :: u) = bad (i + 2) u := by
  rw [bad_good h, bad_other (by rcases h with rfl | rfl <;> decide)]

theorem un_bad_eq : ∀ (n : Nat) (l : List UInt8) (i : Nat), l.length ≤ n → (un i l).2 = bad i l := by
  intro n
  induction n with
  | zero =>
    intro l i h
    obtain rfl : l = [] := List.length_eq_zero_iff.1 (by omega)
    rw [un_nil, bad_nil]
  | succ n ih =>
    intro l i h
    match l, h with
    | [], _ => rw [un_nil, bad_nil]
    | c :: t, h =>
      simp only [List.length_cons] at h
      by_cases hc : c = 126
      · subst hc
        match t, h with
        | [], _ => rw [un_end, bad_end]
        | d :: u, h =>
          simp only [List.length_cons] at h
          by_cases h0 : d = 48
          · subst h0; rw [un_zero, bad_digit (.inl rfl)]; exact ih u _ (by omega)
          · by_cases h1 : d = 49
            · subst h1; rw [un_one, bad_digit (.inr rfl)]; exact ih u _ (by omega)
            · rw [un_bad i h0 h1, bad_bad h0 h1]
      · rw [un_other hc, bad_other hc]; exact ih t _ (by omega)

/-- The offset is -1 or a place of the list. -/
theorem bad_bounds : ∀ (n : Nat) (l : List UInt8) (i : Nat), l.length ≤ n → bad i l = -1 ∨ ((i : Int) ≤ bad i l ∧ bad i l < i + l.length) := by
  intro n
  induction n with
  | zero =>
    intro l i h
    obtain rfl : l = [] := List.length_eq_zero_iff.1 (by omega)
    exact .inl (bad_nil i)
  | succ n ih =>
    intro l i h
    match l, h with
    | [], _ => exact .inl (bad_nil i)
    | c :: t, h =>
      simp only [List.length_cons] at h ⊢
      by_cases hc : c = 126
      · subst hc
        match t, h with
        | [], _ => rw [bad_end]; right; simp; omega
        | d :: u, h =>
          simp only [List.length_cons] at h ⊢
          by_cases h0 : d = 48 ∨ d = 49
          · rw [bad_digit h0]
            rcases ih u (i + 2) (by omega) with h1 | h1
            · exact .inl h1
            · right; omega
          · rw [bad_bad (fun e => h0 (.inl e)) (fun e => h0 (.inr e))]
            right; omega
      · rw [bad_other hc]
        rcases ih t (i + 1) (by omega) with h1 | h1
        · exact .inl h1
        · right; omega

/-- utReplacePair. -/
def rep (x y : UInt8) : List UInt8 → List UInt8
  | [] => []
  | c :: t =>
    if c = 126 then
      match t with
      | [] => [126]
      | d :: u => if d = x then y :: rep x y u else 126 :: rep x y (d :: u)
    else c :: rep x y t

theorem rep_nil (x y : UInt8) : rep x y [] = [] := by rw [rep]
theorem rep_other {x y c : UInt8} {t : List UInt8} (h : c ≠ 126) : rep x y (c :: t) = c :: rep x y t := by
  rw [rep.eq_def]; simp only [if_neg h]
theorem rep_end (x y : UInt8) : rep x y [126] = [126] := by rw [rep]; simp
theorem rep_hit (x y : UInt8) (u : List UInt8) : rep x y (126 :: x :: u) = y :: rep x y u := by rw [rep]; simp
theorem rep_miss {x y d : UInt8} {u : List UInt8} (h : d ≠ x) : rep x y (126 :: d :: u) = 126 :: rep x y (d :: u) := by rw [rep]; simp [h]

theorem rep_length (x y : UInt8) : ∀ (n : Nat) (l : List UInt8), l.length ≤ n → (rep x y l).length ≤ l.length := by
  intro n
  induction n with
  | zero =>
    intro l h
    obtain rfl : l = [] := List.length_eq_zero_iff.1 (by omega)
    rw [rep_nil]; exact Nat.le_refl _
  | succ n ih =>
    intro l h
    match l, h with
    | [], _ => rw [rep_nil]; exact Nat.le_refl _
    | c :: t, h =>
      simp only [List.length_cons] at h ⊢
      by_cases hc : c = 126
      · subst hc
        match t, h with
        | [], _ => rw [rep_end]; simp
        | d :: u, h =>
          simp only [List.length_cons] at h ⊢
          by_cases hd : d = x
          · subst hd; rw [rep_hit]; have := ih u (by omega); simp only [List.length_cons]; omega
          · rw [rep_miss hd]; have := ih (d :: u) (by simp; omega); simp only [List.length_cons] at this ⊢; omega
      · rw [rep_other hc]; have := ih t (by omega); simp only [List.length_cons]; omega

/-- Of a text without a bad sign the two passes make what unescapeToken makes. -/
theorem two_pass : ∀ (n : Nat) (l : List UInt8) (i : Nat), l.length ≤ n → bad i l = -1 → rep 48 126 (rep 49 47 l) = (un i l).1 := by
  intro n
  induction n with
  | zero =>
    intro l i h _
    obtain rfl : l = [] := List.length_eq_zero_iff.1 (by omega)
    rw [rep_nil, rep_nil, un_nil]
  | succ n ih =>
    intro l i h hb
    match l, h with
    | [], _ => rw [rep_nil, rep_nil, un_nil]
    | c :: t, h =>
      simp only [List.length_cons] at h
      by_cases hc : c = 126
      · subst hc
        match t, h with
        | [], _ => rw [bad_end] at hb; omega
        | d :: u, h =>
          simp only [List.length_cons] at h
          by_cases h0 : d = 48
          · subst h0
            rw [bad_digit (.inl rfl)] at hb
            have e : rep 49 47 (126 :: 48 :: u) = 126 :: 48 :: rep 49 47 u := by rw [rep_miss (by decide), rep_other (by decide)]
            rw [e, rep_hit, un_zero]
            rw [ih u (i + 2) (by omega) hb]
          · by_cases h1 : d = 49
            · subst h1
              rw [bad_digit (.inr rfl)] at hb
              rw [rep_hit, rep_other (by decide), un_one]
              rw [ih u (i + 2) (by omega) hb]
            · rw [bad_bad h0 h1] at hb; omega
      · rw [bad_other hc] at hb
        rw [rep_other hc, rep_other hc, un_other hc, ih t (i + 1) (by omega) hb]

/-- Up to the first bad sign nothing is bad, and unescapeToken has written what it writes of that part. -/
theorem un_take : ∀ (n : Nat) (l : List UInt8) (i : Nat), l.length ≤ n → ∀ k : Nat, bad i l = ((i + k : Nat) : Int) → bad i (l.take k) = -1 ∧ (un i (l.take k)).1 = (un i l).1 := by
  intro n
  induction n with
  | zero =>
    intro l i h k hb
    obtain rfl : l = [] := List.length_eq_zero_iff.1 (by omega)
    rw [bad_nil] at hb; omega
  | succ n ih =>
    intro l i h k hb
    match l, h with
    | [], _ => rw [bad_nil] at hb; omega
    | c :: t, h =>
      simp only [List.length_cons] at h
      by_cases hc : c = 126
      · subst hc
        match t, h with
        | [], _ =>
          rw [bad_end] at hb
          obtain rfl : k = 0 := by omega
          rw [List.take_zero, bad_nil, un_nil, un_end]
          exact ⟨rfl, rfl⟩
        | d :: u, h =>
          simp only [List.length_cons] at h
          by_cases h0 : d = 48 ∨ d = 49
          · have hb' := hb
            rw [bad_digit h0] at hb'
            have hbd := bad_bounds u.length u (i + 2) (Nat.le_refl _)
            obtain ⟨k', rfl⟩ : ∃ k', k = k' + 2 := ⟨k - 2, by omega⟩
            have h2 := ih u (i + 2) (by omega) k' (by rw [hb']; congr 1; omega)
            rw [List.take_succ_cons, List.take_succ_cons, bad_digit h0]
            refine ⟨h2.1, ?_⟩
            rcases h0 with rfl | rfl
            · rw [un_zero, un_zero, h2.2]
            · rw [un_one, un_one, h2.2]
          · have e0 : d ≠ 48 := fun e => h0 (.inl e)
            have e1 : d ≠ 49 := fun e => h0 (.inr e)
            rw [bad_bad e0 e1] at hb
            obtain rfl : k = 0 := by omega
            rw [List.take_zero, bad_nil, un_nil, un_bad i e0 e1]
            exact ⟨rfl, rfl⟩
      · have hb' := hb
        rw [bad_other hc] at hb'
        have hbd := bad_bounds t.length t (i + 1) (Nat.le_refl _)
        obtain ⟨k', rfl⟩ : ∃ k', k = k' + 1 := ⟨k - 1, by omega⟩
        have h2 := ih t (i + 1) (by omega) k' (by rw [hb']; congr 1; omega)
        rw [List.take_succ_cons, bad_other hc, un_other hc, un_other hc, h2.2]
        exact ⟨h2.1, rfl⟩

/-- What lies ahead of the first '~' goes over as it is. -/
theorem un_prefix : ∀ (l : List UInt8) (i k : Nat), k ≤ l.length → (∀ j (h : j < l.length), j < k → l[j] ≠ 126) → un i l = (l.take k ++ (un (i + k) (l.drop k)).1, (un (i + k) (l.drop k)).2)
  | l, i, 0, _, _ => by simp
  | [], i, k + 1, hk, _ => by simp at hk
  | c :: t, i, k + 1, hk, h => by
    have hc : c ≠ 126 := h 0 (by simp) (by omega)
    have ih := un_prefix t (i + 1) k (by simpa using hk) (fun j hj hjk => h (j + 1) (by simpa using hj) (by omega))
    rw [un_other hc, ih]
    simp only [List.take_succ_cons, List.drop_succ_cons, List.cons_append]
    rw [show i + 1 + k = i + (k + 1) by omega]

theorem un_length : ∀ (n : Nat) (l : List UInt8) (i : Nat), l.length ≤ n → (un i l).1.length ≤ l.length := by
  intro n
  induction n with
  | zero =>
    intro l i h
    obtain rfl : l = [] := List.length_eq_zero_iff.1 (by omega)
    rw [un_nil]; exact Nat.le_refl _
  | succ n ih =>
    intro l i h
    match l, h with
    | [], _ => rw [un_nil]; exact Nat.le_refl _
    | c :: t, h =>
      simp only [List.length_cons] at h ⊢
      by_cases hc : c = 126
      · subst hc
        match t, h with
        | [], _ => rw [un_end]; simp
        | d :: u, h =>
          simp only [List.length_cons] at h ⊢
          have := ih u (i + 2) (by omega)
          by_cases h0 : d = 48
          · subst h0; rw [un_zero]; simp only [List.length_cons]; omega
          · by_cases h1 : d = 49
            · subst h1; rw [un_one]; simp only [List.length_cons]; omega
            · rw [un_bad i h0 h1]; simp
      · rw [un_other hc]; have := ih t (i + 1) (by omega); simp only [List.length_cons]; omega

end Go.Proofs.Qxb6606436a.Pl
