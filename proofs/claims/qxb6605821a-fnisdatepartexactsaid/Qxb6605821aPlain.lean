/-
  Seat b6605821a: the plain layer: what a range over a string passes over at a byte from 128 on; dashes and colons in a list of bytes.
-/
import Derived.Laws.RangeAny
import Derived.Lib.IndexAny
import Derived.Lib.IndexBytes
namespace Go.Proofs.Qxb6605821a.Pl

/-- A '-' or a '~'. -/
def dashB (c : UInt8) : Bool := c == 45 || c == 126
def colonB (c : UInt8) : Bool := c == 58

theorem dash_contains (c : UInt8) : ([45, 126] : List UInt8).contains c = dashB c := by
  rw [Bool.eq_iff_iff]; simp [dashB]

theorem any_dash : ∀ l : List UInt8, decide (0 ≤ Lib.indexAny l [45, 126]) = l.any dashB
  | [] => rfl
  | c :: l => by
    have ih := any_dash l
    have hge := Lib.indexAny_ge [45, 126] l
    rw [List.any_cons, ← ih, Lib.indexAny, dash_contains]
    cases dashB c with
    | true => simp
    | false =>
      simp only [Bool.false_eq_true, if_false, Bool.false_or]
      by_cases h : Lib.indexAny l [45, 126] = -1
      · simp [h]
      · have h' : (Lib.indexAny l [45, 126] == -1) = false := by simpa using h
        rw [h']
        simp only [Bool.false_eq_true, if_false]
        have h1 : 0 ≤ Lib.indexAny l [45, 126] := by omega
        rw [decide_eq_true (by omega), decide_eq_true h1]

theorem any_colon : ∀ l : List UInt8, decide (0 ≤ Lib.indexByte l 58) = l.any colonB
  | [] => rfl
  | c :: l => by
    have ih := any_colon l
    have hge := Lib.indexByte_ge l 58
    rw [List.any_cons, ← ih, Lib.indexByte]
    have e : (c == 58) = colonB c := rfl
    rw [e]
    cases colonB c with
    | true => simp
    | false =>
      simp only [Bool.false_eq_true, if_false, Bool.false_or]
      by_cases h : Lib.indexByte l 58 = -1
      · simp [h]
      · have h' : (Lib.indexByte l 58 == -1) = false := by simpa using h
        rw [h']
        simp only [Bool.false_eq_true, if_false]
        have h1 : 0 ≤ Lib.indexByte l 58 := by omega
        rw [decide_eq_true (by omega), decide_eq_true h1]

/-- What the range hands over at a byte from 128 on: a rune from 128 on that can be encoded; all bytes that it passes over are from 128 on. -/
theorem decode_wide (s : ByteArray) (pos : Nat) (h : pos < s.size) (ha : 128 ≤ (s[pos]'h).toNat) :
    128 ≤ (Utf8.decode s pos).1 ∧ 1 ≤ (Utf8.decode s pos).2 ∧ pos + (Utf8.decode s pos).2 ≤ s.size ∧ Utf8.valid ((Utf8.decode s pos).1 : Int) = true ∧
      (∀ j (hj : j < s.size), pos ≤ j → j < pos + (Utf8.decode s pos).2 → 128 ≤ (s[j]'hj).toNat) := by
  have hn : ¬ (s[pos]'h).toNat < 128 := by omega
  have hget : ∀ k (hk : pos + k < s.size), s.get! (pos + k) = s[pos + k]'hk := fun k hk => by
    simp [ByteArray.get!, getElem!_pos, hk]
    rfl
  have hb : ∀ k, (s.get! (pos + k)).toNat < 256 := fun k => (s.get! (pos + k)).toNat_lt
  have h0 := hb 0; have h1 := hb 1; have h2 := hb 2; have h3 := hb 3
  have one : ∀ j (hj : j < s.size), pos ≤ j → j < pos + 1 → 128 ≤ (s[j]'hj).toNat := fun j hj a b => by
    obtain rfl : j = pos := by omega
    exact ha
  have err : 128 ≤ Utf8.runeError ∧ 1 ≤ 1 ∧ pos + 1 ≤ s.size ∧ Utf8.valid ((Utf8.runeError : Nat) : Int) = true ∧ (∀ j (hj : j < s.size), pos ≤ j → j < pos + 1 → 128 ≤ (s[j]'hj).toNat) :=
    ⟨by decide, Nat.le_refl _, by omega, by decide, one⟩
  have cont : ∀ k (hk : pos + k < s.size), ((s.get! (pos + k)).toNat / 64 == 2) = true → 128 ≤ (s[pos + k]'hk).toNat := fun k hk e => by
    rw [hget k hk] at e
    have := beq_iff_eq.1 e
    omega
  simp only [Utf8.decode, get_at s pos h, hn, if_false]
  split
  · rename_i c1
    simp only [Bool.and_eq_true, decide_eq_true_eq] at c1
    split
    · rename_i hc
      refine ⟨hc, by omega, by omega, ?_, ?_⟩
      · have := (s[pos]'h).toNat_lt
        simp only [Utf8.valid, Bool.or_eq_true, Bool.and_eq_true, decide_eq_true_eq]
        omega
      · intro j hj a b
        by_cases e : j = pos
        · exact one j hj a (by omega)
        · obtain rfl : j = pos + 1 := by omega
          exact cont 1 hj c1.2.2
    · exact err
  · split
    · rename_i c1
      simp only [Bool.and_eq_true, decide_eq_true_eq] at c1
      split
      · rename_i hc
        simp only [Bool.and_eq_true, decide_eq_true_eq] at hc
        refine ⟨by omega, by omega, by omega, hc.2, ?_⟩
        intro j hj a b
        by_cases e : j = pos
        · exact one j hj a (by omega)
        · by_cases e1 : j = pos + 1
          · subst e1; exact cont 1 hj c1.1.2.2
          · obtain rfl : j = pos + 2 := by omega
            exact cont 2 hj c1.2.2
      · exact err
    · split
      · rename_i c1
        simp only [Bool.and_eq_true, decide_eq_true_eq] at c1
        split
        · rename_i hc
          simp only [Bool.and_eq_true, decide_eq_true_eq] at hc
          refine ⟨by omega, by omega, by omega, hc.2, ?_⟩
          intro j hj a b
          by_cases e : j = pos
          · exact one j hj a (by omega)
          · by_cases e1 : j = pos + 1
            · subst e1; exact cont 1 hj c1.1.1.2.2
            · by_cases e2 : j = pos + 2
              · subst e2; exact cont 2 hj c1.1.2.2
              · obtain rfl : j = pos + 3 := by omega
                exact cont 3 hj c1.2.2
        · exact err
      · exact err

end Go.Proofs.Qxb6605821a.Pl
