/-
  Seat b6605821a: the walks of isDatePart, zzDateModel and the law.
-/
import Derived.Test.Qxb6605821aAny
namespace Go.Proofs.Qxb6605821a
open Go.RowKit

/-- The first byte is '*' or a digit. -/
def opens (x : Int) : Bool := (x == 42) || (decide (48 ≤ x) && decide (x ≤ 57))

theorem ret_bool {a b : Bool} (h : a = b) : Ending.returned (.bool a) = .returned (.bool b) := by rw [h]

set_option maxHeartbeats 1000000 in
theorem date_yes (s : ByteArray) (x : Int) (w : World) (hs : s.size < 4294967281) (h0 : 0 < s.size) (hx : ((s[0]'h0).toNat : Int) = x) (ho : opens x = true) :
    Calls Try.prog 14 #[.string s] w fun e w' => e = .returned (.bool (s.data.toList.any Pl.dashB && !s.data.toList.any Pl.colonB)) ∧ Below w.heap.size w w' := by
  have hpos : (0 : Int) < (s.size : Int) := by omega
  obtain ⟨vd, hvd⟩ : ∃ vd, vd = s.data.toList.any Pl.dashB := ⟨_, rfl⟩
  obtain ⟨vc, hvc⟩ : ∃ vc, vc = s.data.toList.any Pl.colonB := ⟨_, rfl⟩
  rw [← hvd, ← hvc]
  have HD : Hid (vd = s.data.toList.any Pl.dashB) := hvd
  have HC : Hid (vc = s.data.toList.any Pl.colonB) := hvc
  clear hvd hvc
  by_cases h1 : x = 42
  · have h1' : (x == 42) = true := by simpa using h1
    clear h1 ho
    go_enter Try.func14, Try.ntmps14
    go_wp2_with fail
    refine (containsAny_any s w hs).mono ?_
    rintro e w1 ⟨rfl, hb1⟩
    rw [← HD.out]
    clear HD
    cases vd with
    | false =>
      go_wp2
      go_ret
      exact ⟨rfl, hb1⟩
    | true =>
      go_wp2_with fail
      refine (isTime_any s w1).mono ?_
      rintro e w' ⟨rfl, hw⟩; subst w'
      rw [← HC.out]
      clear HC
      go_wp2
      go_ret
      exact ⟨ret_bool (by simp), hb1⟩
  · have h1' : (x == 42) = false := by simpa using h1
    simp only [opens, h1', Bool.false_or, Bool.and_eq_true, decide_eq_true_eq] at ho
    obtain ⟨h2, h3⟩ := ho
    clear h1
    go_enter Try.func14, Try.ntmps14
    go_wp2_with fail
    refine (containsAny_any s w hs).mono ?_
    rintro e w1 ⟨rfl, hb1⟩
    rw [← HD.out]
    clear HD
    cases vd with
    | false =>
      go_wp2
      go_ret
      exact ⟨rfl, hb1⟩
    | true =>
      go_wp2_with fail
      refine (isTime_any s w1).mono ?_
      rintro e w' ⟨rfl, hw⟩; subst w'
      rw [← HC.out]
      clear HC
      go_wp2
      go_ret
      exact ⟨ret_bool (by simp), hb1⟩

set_option maxHeartbeats 1000000 in
theorem date_no (s : ByteArray) (x : Int) (w : World) (h0 : 0 < s.size) (hx : ((s[0]'h0).toNat : Int) = x) (ho : opens x = false) :
    Calls Try.prog 14 #[.string s] w fun e w' => e = .returned (.bool false) ∧ Below w.heap.size w w' := by
  have hpos : (0 : Int) < (s.size : Int) := by omega
  have h1' : (x == 42) = false := by
    cases h : (x == 42) with
    | false => rfl
    | true => simp [opens, h] at ho
  simp only [opens, h1', Bool.false_or] at ho
  by_cases h2 : 48 ≤ x
  · have h3 : ¬ x ≤ 57 := by
      intro h3
      rw [decide_eq_true h2, decide_eq_true h3] at ho
      cases ho
    clear ho
    go_enter Try.func14, Try.ntmps14
    go_wp2
    go_ret
    exact ⟨rfl, Below.refl _ _⟩
  · clear ho
    go_enter Try.func14, Try.ntmps14
    go_wp2
    go_ret
    exact ⟨rfl, Below.refl _ _⟩

/-- What the law's own model says. -/
def model (s : ByteArray) (x : Int) : Bool := opens x && (s.data.toList.any Pl.dashB && !s.data.toList.any Pl.colonB)

theorem date_any (s : ByteArray) (x : Int) (w : World) (hs : s.size < 4294967281) (h0 : 0 < s.size) (hx : ((s[0]'h0).toNat : Int) = x) :
    Calls Try.prog 14 #[.string s] w fun e w' => e = .returned (.bool (model s x)) ∧ Below w.heap.size w w' := by
  unfold model
  cases ho : opens x with
  | false => exact date_no s x w h0 hx ho
  | true => exact date_yes s x w hs h0 hx ho

set_option maxHeartbeats 400000 in
theorem zdate_any (s : ByteArray) (x : Int) (w : World) (hs : s.size < 4294967281) (h0 : 0 < s.size) (hx : ((s[0]'h0).toNat : Int) = x) :
    Calls Try.prog 7 #[.string s] w fun e w' => e = .returned (.bool (model s x)) ∧ Below w.heap.size w w' := by
  go_enter Try.func7, Try.ntmps7
  go_wp2_with fail
  refine (date_any s x w hs h0 hx).mono ?_
  rintro e w' ⟨rfl, hb⟩
  go_wp2
  go_ret
  exact ⟨rfl, hb⟩

theorem any_snoc (p : UInt8 → Bool) (s : ByteArray) (k : Nat) (h : k < s.size) : (s.data.toList.take (k + 1)).any p = ((s.data.toList.take k).any p || p (s[k]'h)) := by
  have e : s.data.toList.take (k + 1) = s.data.toList.take k ++ [s[k]'h] := by
    rw [List.take_succ_eq_append_getElem (by simpa using h)]; rfl
  rw [e, List.any_append]; simp

theorem dash_int (c : UInt8) : Pl.dashB c = (((c.toNat : Int) == 45) || ((c.toNat : Int) == 126)) := by
  rw [Bool.eq_iff_iff]
  simp only [Pl.dashB, Bool.or_eq_true, beq_iff_eq, ← UInt8.toNat_inj]
  simp
  omega
theorem colon_int (c : UInt8) : Pl.colonB c = ((c.toNat : Int) == 58) := by
  rw [Bool.eq_iff_iff]
  simp only [Pl.colonB, beq_iff_eq, ← UInt8.toNat_inj]
  simp
  omega

set_option maxHeartbeats 1000000 in
theorem model_no (s : ByteArray) (x : Int) (w : World) (h0 : 0 < s.size) (hx : ((s[0]'h0).toNat : Int) = x) (hb : 0 ≤ x ∧ x < 256) (ho : opens x = false) :
    Calls Try.prog 8 #[.string s] w fun e w' => e = .returned (.bool false) ∧ w' = w := by
  have hpos : (0 : Int) < (s.size : Int) := by omega
  have h1 : x ≠ 42 := by
    intro h
    simp [opens, h] at ho
  have h1' : (x != 42) = true := by rw [bne_iff_ne]; exact h1
  have h1'' : (x == 42) = false := by simpa using h1
  simp only [opens, h1'', Bool.false_or] at ho
  clear h1 h1''
  by_cases h2 : 48 ≤ x
  · have h3 : ¬ x ≤ 57 := by
      intro h3
      rw [decide_eq_true h2, decide_eq_true h3] at ho
      cases ho
    clear ho
    go_enter Try.func8, Try.ntmps8
    go_wp2
    go_ret
    exact ⟨rfl, rfl⟩
  · clear ho
    go_enter Try.func8, Try.ntmps8
    go_wp2
    go_ret
    exact ⟨rfl, rfl⟩

set_option maxHeartbeats 2000000 in
theorem model_yes (s : ByteArray) (x : Int) (w : World) (h0 : 0 < s.size) (hs : s.size < 4294967281) (hx : ((s[0]'h0).toNat : Int) = x) (hb : 0 ≤ x ∧ x < 256) (ho : opens x = true) :
    Calls Try.prog 8 #[.string s] w fun e w' => e = .returned (.bool (s.data.toList.any Pl.dashB && !s.data.toList.any Pl.colonB)) ∧ w' = w := by
  have hpos : (0 : Int) < (s.size : Int) := by omega
  obtain ⟨VD, hVD⟩ : ∃ VD, VD = s.data.toList.any Pl.dashB := ⟨_, rfl⟩
  obtain ⟨VC, hVC⟩ : ∃ VC, VC = s.data.toList.any Pl.colonB := ⟨_, rfl⟩
  rw [← hVD, ← hVC]
  have HVD : Hid (VD = s.data.toList.any Pl.dashB) := hVD
  have HVC : Hid (VC = s.data.toList.any Pl.colonB) := hVC
  clear hVD hVC
  by_cases h1 : x = 42
  · have h1' : (x != 42) = false := by simpa using h1
    clear h1 ho
    go_enter Try.func8, Try.ntmps8
    go_wp2
    go_loop [4, 5, 6] (fun d c i => ∃ k : Nat, k ≤ s.size ∧ i = .int .i64 k ∧ d = .bool ((s.data.toList.take k).any Pl.dashB) ∧ c = .bool ((s.data.toList.take k).any Pl.colonB)) (fun _ _ i => s.size - (intOf i).toNat)
    case atStart => exact ⟨0, Nat.zero_le _, rfl, rfl, rfl⟩
    case round =>
      obtain ⟨k, hk, rfl, rfl, rfl⟩ := hrel
      clear hx
      by_cases hlt : k < s.size
      · have e1 := any_snoc Pl.dashB s k hlt
        have e2 := any_snoc Pl.colonB s k hlt
        rw [dash_int] at e1
        rw [colon_int] at e2
        obtain ⟨y, hy⟩ : ∃ y : Int, ((s[k]'hlt).toNat : Int) = y := ⟨_, rfl⟩
        rw [hy] at e1 e2
        generalize (s.data.toList.take k).any Pl.dashB = vd at *
        generalize (s.data.toList.take k).any Pl.colonB = vc at *
        have E1 : Hid ((s.data.toList.take (k + 1)).any Pl.dashB = (vd || ((y == 45) || (y == 126)))) := e1
        have E2 : Hid ((s.data.toList.take (k + 1)).any Pl.colonB = (vc || (y == 58))) := e2
        clear e1 e2
        cases hb1 : (y == 45) <;> cases hb2 : (y == 126) <;> cases hb3 : (y == 58)
        all_goals
          go_wp2
          go_round
          case rel =>
            refine ⟨k + 1, by omega, by go_num, ?_, ?_⟩
            · rw [E1.out, hb1, hb2]; simp
            · rw [E2.out, hb3]; simp
          case measure => simp [intOf]; omega
      · have e1 : s.data.toList.take k = s.data.toList := List.take_of_length_le (by rw [← Lib.size_eq]; omega)
        rw [e1, ← HVD.out, ← HVC.out]
        clear e1 HVD HVC
        cases VD with
        | false =>
          go_wp2
          go_ret
          exact ⟨rfl, rfl⟩
        | true =>
          go_wp2
          go_ret
          exact ⟨ret_bool (by simp), rfl⟩
  · have h1' : (x != 42) = true := by rw [bne_iff_ne]; exact h1
    have h1'' : (x == 42) = false := by simpa using h1
    simp only [opens, h1'', Bool.false_or, Bool.and_eq_true, decide_eq_true_eq] at ho
    obtain ⟨h2, h3⟩ := ho
    clear h1 h1''
    go_enter Try.func8, Try.ntmps8
    go_wp2
    go_loop [4, 5, 6] (fun d c i => ∃ k : Nat, k ≤ s.size ∧ i = .int .i64 k ∧ d = .bool ((s.data.toList.take k).any Pl.dashB) ∧ c = .bool ((s.data.toList.take k).any Pl.colonB)) (fun _ _ i => s.size - (intOf i).toNat)
    case atStart => exact ⟨0, Nat.zero_le _, rfl, rfl, rfl⟩
    case round =>
      obtain ⟨k, hk, rfl, rfl, rfl⟩ := hrel
      clear hx
      by_cases hlt : k < s.size
      · have e1 := any_snoc Pl.dashB s k hlt
        have e2 := any_snoc Pl.colonB s k hlt
        rw [dash_int] at e1
        rw [colon_int] at e2
        obtain ⟨y, hy⟩ : ∃ y : Int, ((s[k]'hlt).toNat : Int) = y := ⟨_, rfl⟩
        rw [hy] at e1 e2
        generalize (s.data.toList.take k).any Pl.dashB = vd at *
        generalize (s.data.toList.take k).any Pl.colonB = vc at *
        have E1 : Hid ((s.data.toList.take (k + 1)).any Pl.dashB = (vd || ((y == 45) || (y == 126)))) := e1
        have E2 : Hid ((s.data.toList.take (k + 1)).any Pl.colonB = (vc || (y == 58))) := e2
        clear e1 e2
        cases hb1 : (y == 45) <;> cases hb2 : (y == 126) <;> cases hb3 : (y == 58)
        all_goals
          go_wp2
          go_round
          case rel =>
            refine ⟨k + 1, by omega, by go_num, ?_, ?_⟩
            · rw [E1.out, hb1, hb2]; simp
            · rw [E2.out, hb3]; simp
          case measure => simp [intOf]; omega
      · have e1 : s.data.toList.take k = s.data.toList := List.take_of_length_le (by rw [← Lib.size_eq]; omega)
        rw [e1, ← HVD.out, ← HVC.out]
        clear e1 HVD HVC
        cases VD with
        | false =>
          go_wp2
          go_ret
          exact ⟨rfl, rfl⟩
        | true =>
          go_wp2
          go_ret
          exact ⟨ret_bool (by simp), rfl⟩

theorem model_any (s : ByteArray) (x : Int) (w : World) (hs : s.size < 4294967281) (h0 : 0 < s.size) (hx : ((s[0]'h0).toNat : Int) = x) :
    Calls Try.prog 8 #[.string s] w fun e w' => e = .returned (.bool (model s x)) ∧ w' = w := by
  have hb : 0 ≤ x ∧ x < 256 := by
    have := (s[0]'h0).toNat_lt
    omega
  unfold model
  cases ho : opens x with
  | false => exact model_no s x w h0 hx hb ho
  | true => exact model_yes s x w h0 hs hx hb ho

set_option maxHeartbeats 400000 in
theorem small6 (s : ByteArray) (w : World) (h : s.size ≤ 1048576) : Calls Try.prog 6 #[.string s] w fun e w' => e = .returned (.bool true) ∧ w' = w := by
  go_enter Try.func6, Try.ntmps6
  go_wp2
  go_ret
  exact ⟨rfl, rfl⟩

set_option maxHeartbeats 400000 in
theorem great6 (s : ByteArray) (w : World) (h : 1048576 < s.size) (h' : s.size ≤ 9223372036854775807) : Calls Try.prog 6 #[.string s] w fun e w' => e = .returned (.bool false) ∧ w' = w := by
  go_enter Try.func6, Try.ntmps6
  go_wp2
  go_ret
  exact ⟨rfl, rfl⟩

set_option maxHeartbeats 1000000 in
theorem law (s : ByteArray) (w : World) (h' : s.size ≤ 9223372036854775807) :
    Calls Try.prog 3 #[.string s] w fun e w' => e = .returned (.bool true) ∧ Below w.heap.size w w' := by
  by_cases hbig : 1048576 < s.size
  · go_enter Try.func3, Try.ntmps3
    go_wp2_with (go_at_call 6; refine (great6 _ _ hbig h').mono ?_; rintro e w' ⟨rfl, hw⟩; subst w')
    go_ret
    exact ⟨rfl, Below.refl _ _⟩
  · have hsm : s.size ≤ 1048576 := by omega
    clear hbig
    by_cases hz : s.size = 0
    · go_enter Try.func3, Try.ntmps3
      go_wp2_with (go_at_call 6; refine (small6 _ _ hsm).mono ?_; rintro e w' ⟨rfl, hw⟩; subst w')
      go_ret
      exact ⟨rfl, Below.refl _ _⟩
    · have h0 : 0 < s.size := by omega
      have hne : ((s.size : Int) == 0) = false := beq_eq_false_iff_ne.2 (by omega)
      clear hz
      go_enter Try.func3, Try.ntmps3
      go_wp2_with (go_at_call 6; refine (small6 _ _ hsm).mono ?_; rintro e w' ⟨rfl, hw⟩; subst w')
      refine (zdate_any s _ w (by omega) h0 rfl).mono ?_
      rintro e w1 ⟨rfl, hb⟩
      go_wp2_with fail
      refine (model_any s _ w1 (by omega) h0 rfl).mono ?_
      rintro e w' ⟨rfl, hw⟩; subst w'
      generalize model s _ = v
      go_wp2
      go_ret
      exact ⟨ret_bool (by simp), hb⟩

end Go.Proofs.Qxb6605821a
