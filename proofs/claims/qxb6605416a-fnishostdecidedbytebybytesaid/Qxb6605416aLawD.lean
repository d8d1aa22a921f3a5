/-
  Seat b6605416a: the walk of 'FnIsHostDecidedByteByByte' out of the callees' contracts.
-/
import Derived.Test.Qxb6605416aLawC
namespace Go.Proofs.Qxb6605416a
open Go.RowKit

set_option maxHeartbeats 400000 in
theorem small25 (p q : Option Addr) (n c m d : Nat) (w : World) (h : n ≤ 524288) (k : m ≤ 524288) : Calls Try.prog 25 #[.slice p n c, .slice q m d] w fun e w' => e = .returned (.bool true) ∧ w' = w := by
  go_enter Try.func25, Try.ntmps25
  go_wp2
  go_ret
  exact ⟨rfl, rfl⟩

set_option maxHeartbeats 400000 in
theorem some25 (p q : Option Addr) (n c m d : Nat) (w : World) (h : n ≤ 9223372036854775807) (k : m ≤ 9223372036854775807) : Calls Try.prog 25 #[.slice p n c, .slice q m d] w fun e w' => (e = .returned (.bool true) ∨ e = .returned (.bool false)) ∧ w' = w := by
  by_cases h1 : n ≤ 1048576
  · by_cases h2 : m ≤ 1048576
    · by_cases h3 : n + m ≤ 1048576
      · go_enter Try.func25, Try.ntmps25
        go_wp2
        go_ret
        exact ⟨.inl rfl, rfl⟩
      · go_enter Try.func25, Try.ntmps25
        go_wp2
        go_ret
        exact ⟨.inr rfl, rfl⟩
    · go_enter Try.func25, Try.ntmps25
      go_wp2
      go_ret
      exact ⟨.inr rfl, rfl⟩
  · go_enter Try.func25, Try.ntmps25
    go_wp2
    go_ret
    exact ⟨.inr rfl, rfl⟩

/-- One of the two slices is longer than 2^19: the law says true at once. -/
theorem lawD_great (p q : Option Addr) (n c m d : Nat) (w : World) (hc : n ≤ 9223372036854775807) (hd : m ≤ 9223372036854775807) (h : 524288 < n ∨ 524288 < m) :
    Calls Try.prog 8 #[.slice p n c, .slice q m d] w fun e w' => e = .returned (.bool true) ∧ Below w.heap.size w w' := by
  by_cases hn : 524288 < n
  · go_enter Try.func8, Try.ntmps8
    go_wp2_with fail
    refine (some25 p q n c m d w hc hd).mono ?_
    rintro e w' ⟨rfl | rfl, hw⟩ <;> subst w'
    · go_wp2
      go_ret
      exact ⟨rfl, Below.refl _ _⟩
    · go_wp2
      go_ret
      exact ⟨rfl, Below.refl _ _⟩
  · have hn' : n ≤ 524288 := by omega
    have hm : 524288 < m := by omega
    clear h hn
    go_enter Try.func8, Try.ntmps8
    go_wp2_with fail
    refine (some25 p q n c m d w hc hd).mono ?_
    rintro e w' ⟨rfl | rfl, hw⟩ <;> subst w'
    · go_wp2
      go_ret
      exact ⟨rfl, Below.refl _ _⟩
    · go_wp2
      go_ret
      exact ⟨rfl, Below.refl _ _⟩

theorem row_one {Z : List Value} {w : World} {g : Nat} (h : w.heap[g]? = some (.cells Z.toArray 5 (0, 0))) (hl : Z.length = 1) : ∃ z, w.heap[g]? = some (.cells #[z] 5 (0, 0)) := by
  match Z, hl with
  | [z], _ => exact ⟨z, h⟩

theorem rd_one {w : World} {g : Nat} {v : Int} (h : w.heap[g]? = some (.cells #[.int .u8 v] 5 (0, 0))) : Rd w (some ⟨g, 0, none⟩) 1 (fun _ => v) := by
  refine .inr ⟨g, 0, rfl, (Array.getElem?_eq_some_iff.1 h).1, fun i hi => ?_⟩
  obtain rfl : i = 0 := by omega
  simp [World.cell?, h]

theorem wrap_byte (k : Nat) (h : k < 256) : IntKind.u8.wrap (k : Int) = k := by
  rw [IntKind.wrap_u8]; omega

theorem host_one (v : Int) : Pl.hostN (fun _ => v) 1 = Pl.hostB v := by simp [Pl.hostN, Pl.allB]

theorem cnt_yes {k : Nat} (h : Pl.hostB (k : Int) = true) : Pl.cnt (k + 1) = Pl.cnt k + 1 := by simp [Pl.cnt, h]
theorem cnt_no {k : Nat} (h : Pl.hostB (k : Int) = false) : Pl.cnt (k + 1) = Pl.cnt k := by simp [Pl.cnt, h]

set_option maxHeartbeats 4000000 in
set_option maxRecDepth 100000 in
theorem lawD_none_none (c : Nat) (d : Nat) (f g : Nat → Int) (w : World) :
    Calls Try.prog 8 #[.slice (none) 0 c, .slice (none) 0 d] w fun e w' => e = .returned (.bool true) ∧ Below w.heap.size w w' := by
  have hq := neqNil
  go_enter Try.func8, Try.ntmps8
  go_wp2_with fail
  refine (small25 _ _ _ _ _ _ _ (by omega) (by omega)).mono ?_
  rintro e w' ⟨rfl, hw⟩; subst w'
  go_wp2_with fail
  have hRa : Rd w none 0 f := .inl rfl
  have hRb : Rd w none 0 g := .inl rfl
  have hBB := Below.refl w.heap.size w
  refine (cat_any (none) (none) 0 c 0 d f g w hRa hRb (by omega) (by omega)).mono ?_
  rintro e w5 ⟨rfl, hR5, hb5⟩
  rw [Nat.zero_add] at hR5
  go_wp2_with fail
  refine (zhost_any (some ⟨w.heap.size, 0, none⟩) 0 0 (fun i => if i < 0 then f i else g (i - 0)) w5 hR5 ?_ (by omega)).mono ?_
  · intro i hi
    by_cases hin : i < 0
    · simp only [hin, if_true]; omega
    · simp only [hin, if_false]; omega
  rintro e w6 ⟨rfl, hb6⟩
  have hwh : Hid (Pl.hostN (fun i => if i < 0 then f i else g (i - 0)) 0 = (decide (0 < 0 + 0) && ((0 == 0) || Pl.hostN f 0) && ((0 == 0) || Pl.hostN g 0))) := by
    have h := Pl.hostN_cat f g (fun i => if i < 0 then f i else g (i - 0)) 0 0 (fun i hi => if_pos hi) (fun i hi => by show (if 0 + i < 0 then f (0 + i) else g (0 + i - 0)) = g i; rw [if_neg (by omega), Nat.add_sub_cancel_left])
    show _ = _
    exact h
  rw [hwh.out]
  have hRa6 := (hRa.below hb5).below hb6
  have hRb6 := (hRb.below hb5).below hb6
  have hB6 : Below w.heap.size w w6 := hBB.trans ((hb5.trans (hb6.mono hb5.size)).mono hBB.size)
  clear hR5 hb5 hb6 hRa hRb hBB hwh
  have q3 : decide (0 < 0 + 0) = false := by simp
  rw [q3]; simp only [Bool.false_and]
  clear q3
  obtain ⟨wv, hwv⟩ : ∃ wv, wv = w6 := ⟨_, rfl⟩
  subst hwv
  have hBv := hB6
  clear hB6 hRa6 hRb6
  go_wp2_with (at_make; refine wp_make _ rfl (.const (.int .i64 1)) (.const (.int .i64 1)) rfl _ _ 1 rfl rfl (by omega) (by omega) (by omega) ?_; intro w9 Z hZ hZl hb9)
  obtain ⟨z0, hz0⟩ := row_one hZ.out hZl.out
  have HZ0 : Hid (w9.heap[wv.heap.size]? = some (.cells #[z0] 5 (0, 0))) := hz0
  have hs9 := hBv.size
  have hB9 : Below w.heap.size w w9 := hBv.trans (hb9.mono hBv.size)
  clear hz0 hZ hZl hb9 hBv
  go_loopw [9, 11] (fun s i wr => ∃ k : Nat, k ≤ 256 ∧ i = .int .i64 k ∧ s = .int .i64 (Pl.cnt k) ∧ (∃ z, Hid (wr.heap[wv.heap.size]? = some (.cells #[z] 5 (0, 0)))) ∧ Below w.heap.size w wr) (fun _ i _ => 256 - (intOf i).toNat)
  case atStart => exact ⟨0, Nat.zero_le _, rfl, rfl, ⟨z0, HZ0⟩, hB9⟩
  case round =>
    obtain ⟨k, hk, rfl, rfl, ⟨z, hz⟩, hbel⟩ := hrel
    clear HZ0 hB9
    have hcnt := Pl.cnt_le k
    by_cases hlt : k < 256
    · have hcell := cell_of_one hz.out
      have hfree := free_of_one hz.out
      have hone := one_setCell (u := .int .u8 (k : Int)) hz.out
      have HONE : Hid ((wr.setCell ⟨wv.heap.size, 0, none⟩ (.int .u8 (k : Int))).heap[wv.heap.size]? = some (.cells #[.int .u8 (k : Int)] 5 (0, 0))) := hone
      have hblt := lt_of_block hone
      have hbs : Below w.heap.size w (wr.setCell ⟨wv.heap.size, 0, none⟩ (.int .u8 (k : Int))) := hbel.setCell hs9 _
      clear hone
      go_wp2_with fail
      refine (zhost_any (some ⟨wv.heap.size, 0, none⟩) 1 1 (fun _ => (k : Int)) (wr.setCell ⟨wv.heap.size, 0, none⟩ (.int .u8 (k : Int))) (rd_one HONE.out) (fun i hi => by omega) (by omega)).mono ?_
      rintro e w10 ⟨rfl, hb10⟩
      rw [host_one]
      have hz10 : Hid (w10.heap[wv.heap.size]? = some (.cells #[.int .u8 (k : Int)] 5 (0, 0))) := (hb10.block _ hblt).trans HONE.out
      have hB10 : Below w.heap.size w w10 := hbs.trans (hb10.mono hbs.size)
      clear hb10 hbs HONE hcell hfree hz hbel
      cases hh : Pl.hostB (k : Int) with
      | true =>
        have HC := cnt_yes hh
        have HC' : Hid (Pl.cnt (k + 1) = Pl.cnt k + 1) := HC
        clear HC hh
        go_wp2
        go_roundw
        case rel => exact ⟨k + 1, by omega, by go_num, by rw [HC'.out]; go_num, ⟨_, hz10⟩, hB10⟩
        case measure => simp [intOf]; omega
      | false =>
        have HC := cnt_no hh
        have HC' : Hid (Pl.cnt (k + 1) = Pl.cnt k) := HC
        clear HC hh
        go_wp2
        go_roundw
        case rel => exact ⟨k + 1, by omega, by go_num, by rw [HC'.out], ⟨_, hz10⟩, hB10⟩
        case measure => simp [intOf]; omega
    · obtain rfl : k = 256 := by omega
      rw [Pl.cnt_256] at *
      go_wp2_with fail
      refine (zhost_any none 0 0 f wr (.inl rfl) (fun i hi => absurd hi (by omega)) (by omega)).mono ?_
      rintro e w11 ⟨rfl, hb11⟩
      have e0 : Pl.hostN f 0 = false := rfl
      rw [e0]
      have hB11 : Below w.heap.size w w11 := hbel.trans (hb11.mono hbel.size)
      clear hb11 hbel e0
      go_wp2
      go_ret
      exact ⟨ret_bool (by first | (simp; done) | (simp; intro h; omega)), hB11⟩

set_option maxHeartbeats 4000000 in
set_option maxRecDepth 100000 in
theorem lawD_some_none (x : Addr) (n c : Nat) (d : Nat) (f g : Nat → Int) (w : World) (hr : Rd w (some x) n f) (hf : ∀ i, i < n → 0 ≤ f i ∧ f i < 256) (hn : n ≤ 524288) :
    Calls Try.prog 8 #[.slice (some x) n c, .slice (none) 0 d] w fun e w' => e = .returned (.bool true) ∧ Below w.heap.size w w' := by
  have hq := neqNil
  obtain ⟨X1, eX1⟩ : ∃ X1, X1 = cellsOf f n := ⟨_, rfl⟩
  have HX1 : Hid (X1 = cellsOf f n) := eX1
  have hl1 : Hid (X1.length = n) := by show _ = _; rw [eX1, length_cellsOf]
  clear eX1
  go_enter Try.func8, Try.ntmps8
  go_wp2_with fail
  refine (small25 _ _ _ _ _ _ _ (by omega) (by omega)).mono ?_
  rintro e w' ⟨rfl, hw⟩; subst w'
  go_wp2_with (first
    | (refine wp_make _ rfl (.tmp 25) (.tmp 25) rfl _ _ n rfl rfl (by omega) (by omega) (by omega) ?_; intro w1 Z1 hZ1 hZl1 hb1; have hs1 := hb1.size)
    | (refine wpList_copy_splice rfl (.tmp 27) (.tmp 28) 22 22 rfl 5 Try.underlying22 Try.size5 _ _ _ _ _ _ rfl rfl w.heap.size 0 Z1 5 hZ1.out X1 ?_ ?_ ?_ ?_ w.heap.size w hb1 (Nat.le_refl _) ?_; (rw [hl1.out]; exact (Nat.min_eq_left (by omega)).symm); (intro h; refine ⟨rfl, ?_⟩; rw [HX1.out] at h ⊢; exact (hr.below hb1).src h); (rw [hl1.out, hZl1.out]; omega); (rw [HX1.out]; exact cellsOf_one f n); intro w2 hZ2 hb2; have hs2 := hb2.size))
  have hRa2 : Rd w2 (some ⟨w.heap.size, 0, none⟩) n f := by
    have h := hZ2.out
    rw [HX1.out, splice_all Z1 f n hZl1.out] at h
    exact Rd.row h (fun i hi => cellsOf_at f hi)
  have hRa := hRa2
  have hRb : Rd w2 none 0 g := .inl rfl
  have hBB := hb2
  clear hZ1 hZ2 hZl1 HX1 hl1 hb1 hb2 hs1 hs2 hr hRa2
  refine (cat_any (some ⟨w.heap.size, 0, none⟩) (none) n n 0 d f g w2 hRa hRb (by omega) (by omega)).mono ?_
  rintro e w5 ⟨rfl, hR5, hb5⟩
  rw [Nat.add_zero] at hR5
  go_wp2_with fail
  refine (zhost_any (some ⟨w2.heap.size, 0, none⟩) n n (fun i => if i < n then f i else g (i - n)) w5 hR5 ?_ (by omega)).mono ?_
  · intro i hi
    by_cases hin : i < n
    · simp only [hin, if_true]; exact hf i hin
    · simp only [hin, if_false]; omega
  rintro e w6 ⟨rfl, hb6⟩
  have hwh : Hid (Pl.hostN (fun i => if i < n then f i else g (i - n)) n = (decide (0 < n + 0) && ((n == 0) || Pl.hostN f n) && ((0 == 0) || Pl.hostN g 0))) := by
    have h := Pl.hostN_cat f g (fun i => if i < n then f i else g (i - n)) n 0 (fun i hi => if_pos hi) (fun i hi => by show (if n + i < n then f (n + i) else g (n + i - n)) = g i; rw [if_neg (by omega), Nat.add_sub_cancel_left])
    show _ = _
    exact h
  rw [hwh.out]
  have hRa6 := (hRa.below hb5).below hb6
  have hRb6 := (hRb.below hb5).below hb6
  have hB6 : Below w.heap.size w w6 := hBB.trans ((hb5.trans (hb6.mono hb5.size)).mono hBB.size)
  clear hR5 hb5 hb6 hRa hRb hBB hwh
  by_cases hn0 : n = 0
  · skip
    have i1 : n ≤ 0 := by omega
    have q1 : (n == 0) = true := by simp; omega
    have q3 : decide (0 < n + 0) = false := by simp; omega
    rw [q3]; simp only [Bool.false_and]
    clear q3 q1
    obtain ⟨wv, hwv⟩ : ∃ wv, wv = w6 := ⟨_, rfl⟩
    subst hwv
    have hBv := hB6
    clear hB6 hRa6 hRb6
    go_wp2_with (at_make; refine wp_make _ rfl (.const (.int .i64 1)) (.const (.int .i64 1)) rfl _ _ 1 rfl rfl (by omega) (by omega) (by omega) ?_; intro w9 Z hZ hZl hb9)
    obtain ⟨z0, hz0⟩ := row_one hZ.out hZl.out
    have HZ0 : Hid (w9.heap[wv.heap.size]? = some (.cells #[z0] 5 (0, 0))) := hz0
    have hs9 := hBv.size
    have hB9 : Below w.heap.size w w9 := hBv.trans (hb9.mono hBv.size)
    clear hz0 hZ hZl hb9 hBv
    go_loopw [9, 11] (fun s i wr => ∃ k : Nat, k ≤ 256 ∧ i = .int .i64 k ∧ s = .int .i64 (Pl.cnt k) ∧ (∃ z, Hid (wr.heap[wv.heap.size]? = some (.cells #[z] 5 (0, 0)))) ∧ Below w.heap.size w wr) (fun _ i _ => 256 - (intOf i).toNat)
    case atStart => exact ⟨0, Nat.zero_le _, rfl, rfl, ⟨z0, HZ0⟩, hB9⟩
    case round =>
      obtain ⟨k, hk, rfl, rfl, ⟨z, hz⟩, hbel⟩ := hrel
      clear HZ0 hB9
      have hcnt := Pl.cnt_le k
      by_cases hlt : k < 256
      · have hcell := cell_of_one hz.out
        have hfree := free_of_one hz.out
        have hone := one_setCell (u := .int .u8 (k : Int)) hz.out
        have HONE : Hid ((wr.setCell ⟨wv.heap.size, 0, none⟩ (.int .u8 (k : Int))).heap[wv.heap.size]? = some (.cells #[.int .u8 (k : Int)] 5 (0, 0))) := hone
        have hblt := lt_of_block hone
        have hbs : Below w.heap.size w (wr.setCell ⟨wv.heap.size, 0, none⟩ (.int .u8 (k : Int))) := hbel.setCell hs9 _
        clear hone
        go_wp2_with fail
        refine (zhost_any (some ⟨wv.heap.size, 0, none⟩) 1 1 (fun _ => (k : Int)) (wr.setCell ⟨wv.heap.size, 0, none⟩ (.int .u8 (k : Int))) (rd_one HONE.out) (fun i hi => by omega) (by omega)).mono ?_
        rintro e w10 ⟨rfl, hb10⟩
        rw [host_one]
        have hz10 : Hid (w10.heap[wv.heap.size]? = some (.cells #[.int .u8 (k : Int)] 5 (0, 0))) := (hb10.block _ hblt).trans HONE.out
        have hB10 : Below w.heap.size w w10 := hbs.trans (hb10.mono hbs.size)
        clear hb10 hbs HONE hcell hfree hz hbel
        cases hh : Pl.hostB (k : Int) with
        | true =>
          have HC := cnt_yes hh
          have HC' : Hid (Pl.cnt (k + 1) = Pl.cnt k + 1) := HC
          clear HC hh
          go_wp2
          go_roundw
          case rel => exact ⟨k + 1, by omega, by go_num, by rw [HC'.out]; go_num, ⟨_, hz10⟩, hB10⟩
          case measure => simp [intOf]; omega
        | false =>
          have HC := cnt_no hh
          have HC' : Hid (Pl.cnt (k + 1) = Pl.cnt k) := HC
          clear HC hh
          go_wp2
          go_roundw
          case rel => exact ⟨k + 1, by omega, by go_num, by rw [HC'.out], ⟨_, hz10⟩, hB10⟩
          case measure => simp [intOf]; omega
      · obtain rfl : k = 256 := by omega
        rw [Pl.cnt_256] at *
        go_wp2_with fail
        refine (zhost_any none 0 0 f wr (.inl rfl) (fun i hi => absurd hi (by omega)) (by omega)).mono ?_
        rintro e w11 ⟨rfl, hb11⟩
        have e0 : Pl.hostN f 0 = false := rfl
        rw [e0]
        have hB11 : Below w.heap.size w w11 := hbel.trans (hb11.mono hbel.size)
        clear hb11 hbel e0
        go_wp2
        go_ret
        exact ⟨ret_bool (by first | (simp; done) | (simp; intro h; omega)), hB11⟩
  · skip
    have i1 : 0 < n := by omega
    have q1 : (n == 0) = false := by simp; omega
    have q3 : decide (0 < n + 0) = true := by simp; omega
    cases hA : Pl.hostN f n with
    | false =>
      have HA : Hid (Pl.hostN f n = false) := hA
      rw [q3, q1]; simp only [Bool.true_and, Bool.false_or, Bool.false_and]
      clear hA q3 q1
      go_wp2_with fail
      refine (zhost_any (some ⟨w.heap.size, 0, none⟩) n n f w6 hRa6 hf (by omega)).mono ?_
      rintro e wv ⟨rfl, hb7⟩
      rw [HA.out]
      have hBv : Below w.heap.size w wv := hB6.trans (hb7.mono hB6.size)
      clear hb7 hB6 hRa6 hRb6
      go_wp2_with (at_make; refine wp_make _ rfl (.const (.int .i64 1)) (.const (.int .i64 1)) rfl _ _ 1 rfl rfl (by omega) (by omega) (by omega) ?_; intro w9 Z hZ hZl hb9)
      obtain ⟨z0, hz0⟩ := row_one hZ.out hZl.out
      have HZ0 : Hid (w9.heap[wv.heap.size]? = some (.cells #[z0] 5 (0, 0))) := hz0
      have hs9 := hBv.size
      have hB9 : Below w.heap.size w w9 := hBv.trans (hb9.mono hBv.size)
      clear hz0 hZ hZl hb9 hBv
      go_loopw [9, 11] (fun s i wr => ∃ k : Nat, k ≤ 256 ∧ i = .int .i64 k ∧ s = .int .i64 (Pl.cnt k) ∧ (∃ z, Hid (wr.heap[wv.heap.size]? = some (.cells #[z] 5 (0, 0)))) ∧ Below w.heap.size w wr) (fun _ i _ => 256 - (intOf i).toNat)
      case atStart => exact ⟨0, Nat.zero_le _, rfl, rfl, ⟨z0, HZ0⟩, hB9⟩
      case round =>
        obtain ⟨k, hk, rfl, rfl, ⟨z, hz⟩, hbel⟩ := hrel
        clear HZ0 hB9
        have hcnt := Pl.cnt_le k
        by_cases hlt : k < 256
        · have hcell := cell_of_one hz.out
          have hfree := free_of_one hz.out
          have hone := one_setCell (u := .int .u8 (k : Int)) hz.out
          have HONE : Hid ((wr.setCell ⟨wv.heap.size, 0, none⟩ (.int .u8 (k : Int))).heap[wv.heap.size]? = some (.cells #[.int .u8 (k : Int)] 5 (0, 0))) := hone
          have hblt := lt_of_block hone
          have hbs : Below w.heap.size w (wr.setCell ⟨wv.heap.size, 0, none⟩ (.int .u8 (k : Int))) := hbel.setCell hs9 _
          clear hone
          go_wp2_with fail
          refine (zhost_any (some ⟨wv.heap.size, 0, none⟩) 1 1 (fun _ => (k : Int)) (wr.setCell ⟨wv.heap.size, 0, none⟩ (.int .u8 (k : Int))) (rd_one HONE.out) (fun i hi => by omega) (by omega)).mono ?_
          rintro e w10 ⟨rfl, hb10⟩
          rw [host_one]
          have hz10 : Hid (w10.heap[wv.heap.size]? = some (.cells #[.int .u8 (k : Int)] 5 (0, 0))) := (hb10.block _ hblt).trans HONE.out
          have hB10 : Below w.heap.size w w10 := hbs.trans (hb10.mono hbs.size)
          clear hb10 hbs HONE hcell hfree hz hbel
          cases hh : Pl.hostB (k : Int) with
          | true =>
            have HC := cnt_yes hh
            have HC' : Hid (Pl.cnt (k + 1) = Pl.cnt k + 1) := HC
            clear HC hh
            go_wp2
            go_roundw
            case rel => exact ⟨k + 1, by omega, by go_num, by rw [HC'.out]; go_num, ⟨_, hz10⟩, hB10⟩
            case measure => simp [intOf]; omega
          | false =>
            have HC := cnt_no hh
            have HC' : Hid (Pl.cnt (k + 1) = Pl.cnt k) := HC
            clear HC hh
            go_wp2
            go_roundw
            case rel => exact ⟨k + 1, by omega, by go_num, by rw [HC'.out], ⟨_, hz10⟩, hB10⟩
            case measure => simp [intOf]; omega
        · obtain rfl : k = 256 := by omega
          rw [Pl.cnt_256] at *
          go_wp2_with fail
          refine (zhost_any none 0 0 f wr (.inl rfl) (fun i hi => absurd hi (by omega)) (by omega)).mono ?_
          rintro e w11 ⟨rfl, hb11⟩
          have e0 : Pl.hostN f 0 = false := rfl
          rw [e0]
          have hB11 : Below w.heap.size w w11 := hbel.trans (hb11.mono hbel.size)
          clear hb11 hbel e0
          go_wp2
          go_ret
          exact ⟨ret_bool (by first | (simp; done) | (simp; intro h; omega)), hB11⟩
    | true =>
      have HA : Hid (Pl.hostN f n = true) := hA
      rw [q3, q1]; simp only [Bool.true_and, Bool.false_or, Bool.true_or, beq_self_eq_true]
      clear hA q3 q1
      go_wp2_with fail
      refine (zhost_any (some ⟨w.heap.size, 0, none⟩) n n f w6 hRa6 hf (by omega)).mono ?_
      rintro e wv ⟨rfl, hb7⟩
      rw [HA.out]
      have hBv : Below w.heap.size w wv := hB6.trans (hb7.mono hB6.size)
      clear hb7 hB6 hRa6 hRb6
      go_wp2_with (at_make; refine wp_make _ rfl (.const (.int .i64 1)) (.const (.int .i64 1)) rfl _ _ 1 rfl rfl (by omega) (by omega) (by omega) ?_; intro w9 Z hZ hZl hb9)
      obtain ⟨z0, hz0⟩ := row_one hZ.out hZl.out
      have HZ0 : Hid (w9.heap[wv.heap.size]? = some (.cells #[z0] 5 (0, 0))) := hz0
      have hs9 := hBv.size
      have hB9 : Below w.heap.size w w9 := hBv.trans (hb9.mono hBv.size)
      clear hz0 hZ hZl hb9 hBv
      go_loopw [9, 11] (fun s i wr => ∃ k : Nat, k ≤ 256 ∧ i = .int .i64 k ∧ s = .int .i64 (Pl.cnt k) ∧ (∃ z, Hid (wr.heap[wv.heap.size]? = some (.cells #[z] 5 (0, 0)))) ∧ Below w.heap.size w wr) (fun _ i _ => 256 - (intOf i).toNat)
      case atStart => exact ⟨0, Nat.zero_le _, rfl, rfl, ⟨z0, HZ0⟩, hB9⟩
      case round =>
        obtain ⟨k, hk, rfl, rfl, ⟨z, hz⟩, hbel⟩ := hrel
        clear HZ0 hB9
        have hcnt := Pl.cnt_le k
        by_cases hlt : k < 256
        · have hcell := cell_of_one hz.out
          have hfree := free_of_one hz.out
          have hone := one_setCell (u := .int .u8 (k : Int)) hz.out
          have HONE : Hid ((wr.setCell ⟨wv.heap.size, 0, none⟩ (.int .u8 (k : Int))).heap[wv.heap.size]? = some (.cells #[.int .u8 (k : Int)] 5 (0, 0))) := hone
          have hblt := lt_of_block hone
          have hbs : Below w.heap.size w (wr.setCell ⟨wv.heap.size, 0, none⟩ (.int .u8 (k : Int))) := hbel.setCell hs9 _
          clear hone
          go_wp2_with fail
          refine (zhost_any (some ⟨wv.heap.size, 0, none⟩) 1 1 (fun _ => (k : Int)) (wr.setCell ⟨wv.heap.size, 0, none⟩ (.int .u8 (k : Int))) (rd_one HONE.out) (fun i hi => by omega) (by omega)).mono ?_
          rintro e w10 ⟨rfl, hb10⟩
          rw [host_one]
          have hz10 : Hid (w10.heap[wv.heap.size]? = some (.cells #[.int .u8 (k : Int)] 5 (0, 0))) := (hb10.block _ hblt).trans HONE.out
          have hB10 : Below w.heap.size w w10 := hbs.trans (hb10.mono hbs.size)
          clear hb10 hbs HONE hcell hfree hz hbel
          cases hh : Pl.hostB (k : Int) with
          | true =>
            have HC := cnt_yes hh
            have HC' : Hid (Pl.cnt (k + 1) = Pl.cnt k + 1) := HC
            clear HC hh
            go_wp2
            go_roundw
            case rel => exact ⟨k + 1, by omega, by go_num, by rw [HC'.out]; go_num, ⟨_, hz10⟩, hB10⟩
            case measure => simp [intOf]; omega
          | false =>
            have HC := cnt_no hh
            have HC' : Hid (Pl.cnt (k + 1) = Pl.cnt k) := HC
            clear HC hh
            go_wp2
            go_roundw
            case rel => exact ⟨k + 1, by omega, by go_num, by rw [HC'.out], ⟨_, hz10⟩, hB10⟩
            case measure => simp [intOf]; omega
        · obtain rfl : k = 256 := by omega
          rw [Pl.cnt_256] at *
          go_wp2_with fail
          refine (zhost_any none 0 0 f wr (.inl rfl) (fun i hi => absurd hi (by omega)) (by omega)).mono ?_
          rintro e w11 ⟨rfl, hb11⟩
          have e0 : Pl.hostN f 0 = false := rfl
          rw [e0]
          have hB11 : Below w.heap.size w w11 := hbel.trans (hb11.mono hbel.size)
          clear hb11 hbel e0
          go_wp2
          go_ret
          exact ⟨ret_bool (by first | (simp; done) | (simp; intro h; omega)), hB11⟩

set_option maxHeartbeats 4000000 in
set_option maxRecDepth 100000 in
theorem lawD_none_some (c : Nat) (y : Addr) (m d : Nat) (f g : Nat → Int) (w : World) (hr' : Rd w (some y) m g) (hg : ∀ i, i < m → 0 ≤ g i ∧ g i < 256) (hm : m ≤ 524288) :
    Calls Try.prog 8 #[.slice (none) 0 c, .slice (some y) m d] w fun e w' => e = .returned (.bool true) ∧ Below w.heap.size w w' := by
  have hq := neqNil
  obtain ⟨X2, eX2⟩ : ∃ X2, X2 = cellsOf g m := ⟨_, rfl⟩
  have HX2 : Hid (X2 = cellsOf g m) := eX2
  have hl2 : Hid (X2.length = m) := by show _ = _; rw [eX2, length_cellsOf]
  clear eX2
  go_enter Try.func8, Try.ntmps8
  go_wp2_with fail
  refine (small25 _ _ _ _ _ _ _ (by omega) (by omega)).mono ?_
  rintro e w' ⟨rfl, hw⟩; subst w'
  go_wp2_with (first
    | (refine wp_make _ rfl (.tmp 34) (.tmp 34) rfl _ _ m rfl rfl (by omega) (by omega) (by omega) ?_; intro w3 Z3 hZ3 hZl3 hb3; have hs3 := hb3.size)
    | (refine wpList_copy_splice rfl (.tmp 36) (.tmp 37) 22 22 rfl 5 Try.underlying22 Try.size5 _ _ _ _ _ _ rfl rfl w.heap.size 0 Z3 5 hZ3.out X2 ?_ ?_ ?_ ?_ w.heap.size w hb3 (Nat.le_refl _) ?_; (rw [hl2.out]; exact (Nat.min_eq_left (by omega)).symm); (intro h; refine ⟨rfl, ?_⟩; rw [HX2.out] at h ⊢; exact (hr'.below hb3).src h); (rw [hl2.out, hZl3.out]; omega); (rw [HX2.out]; exact cellsOf_one g m); intro w4 hZ4 hb4; have hs4 := hb4.size))
  have hRb4 : Rd w4 (some ⟨w.heap.size, 0, none⟩) m g := by
    have h := hZ4.out
    rw [HX2.out, splice_all Z3 g m hZl3.out] at h
    exact Rd.row h (fun i hi => cellsOf_at g hi)
  have hRa : Rd w4 none 0 f := .inl rfl
  have hRb := hRb4
  have hBB := hb4
  clear hZ3 hZ4 hZl3 HX2 hl2 hb3 hb4 hs3 hs4 hr' hRb4
  refine (cat_any (none) (some ⟨w.heap.size, 0, none⟩) 0 c m m f g w4 hRa hRb (by omega) (by omega)).mono ?_
  rintro e w5 ⟨rfl, hR5, hb5⟩
  rw [Nat.zero_add] at hR5
  go_wp2_with fail
  refine (zhost_any (some ⟨w4.heap.size, 0, none⟩) m m (fun i => if i < 0 then f i else g (i - 0)) w5 hR5 ?_ (by omega)).mono ?_
  · intro i hi
    by_cases hin : i < 0
    · simp only [hin, if_true]; omega
    · simp only [hin, if_false]; exact hg _ (by omega)
  rintro e w6 ⟨rfl, hb6⟩
  have hwh : Hid (Pl.hostN (fun i => if i < 0 then f i else g (i - 0)) m = (decide (0 < 0 + m) && ((0 == 0) || Pl.hostN f 0) && ((m == 0) || Pl.hostN g m))) := by
    have h := Pl.hostN_cat f g (fun i => if i < 0 then f i else g (i - 0)) 0 m (fun i hi => if_pos hi) (fun i hi => by show (if 0 + i < 0 then f (0 + i) else g (0 + i - 0)) = g i; rw [if_neg (by omega), Nat.add_sub_cancel_left])
    show _ = _
    rw [Nat.zero_add] at h ⊢; exact h
  rw [hwh.out]
  have hRa6 := (hRa.below hb5).below hb6
  have hRb6 := (hRb.below hb5).below hb6
  have hB6 : Below w.heap.size w w6 := hBB.trans ((hb5.trans (hb6.mono hb5.size)).mono hBB.size)
  clear hR5 hb5 hb6 hRa hRb hBB hwh
  by_cases hm0 : m = 0
  · skip
    have i2 : m ≤ 0 := by omega
    have q2 : (m == 0) = true := by simp; omega
    have q3 : decide (0 < 0 + m) = false := by simp; omega
    rw [q3]; simp only [Bool.false_and]
    clear q3 q2
    obtain ⟨wv, hwv⟩ : ∃ wv, wv = w6 := ⟨_, rfl⟩
    subst hwv
    have hBv := hB6
    clear hB6 hRa6 hRb6
    go_wp2_with (at_make; refine wp_make _ rfl (.const (.int .i64 1)) (.const (.int .i64 1)) rfl _ _ 1 rfl rfl (by omega) (by omega) (by omega) ?_; intro w9 Z hZ hZl hb9)
    obtain ⟨z0, hz0⟩ := row_one hZ.out hZl.out
    have HZ0 : Hid (w9.heap[wv.heap.size]? = some (.cells #[z0] 5 (0, 0))) := hz0
    have hs9 := hBv.size
    have hB9 : Below w.heap.size w w9 := hBv.trans (hb9.mono hBv.size)
    clear hz0 hZ hZl hb9 hBv
    go_loopw [9, 11] (fun s i wr => ∃ k : Nat, k ≤ 256 ∧ i = .int .i64 k ∧ s = .int .i64 (Pl.cnt k) ∧ (∃ z, Hid (wr.heap[wv.heap.size]? = some (.cells #[z] 5 (0, 0)))) ∧ Below w.heap.size w wr) (fun _ i _ => 256 - (intOf i).toNat)
    case atStart => exact ⟨0, Nat.zero_le _, rfl, rfl, ⟨z0, HZ0⟩, hB9⟩
    case round =>
      obtain ⟨k, hk, rfl, rfl, ⟨z, hz⟩, hbel⟩ := hrel
      clear HZ0 hB9
      have hcnt := Pl.cnt_le k
      by_cases hlt : k < 256
      · have hcell := cell_of_one hz.out
        have hfree := free_of_one hz.out
        have hone := one_setCell (u := .int .u8 (k : Int)) hz.out
        have HONE : Hid ((wr.setCell ⟨wv.heap.size, 0, none⟩ (.int .u8 (k : Int))).heap[wv.heap.size]? = some (.cells #[.int .u8 (k : Int)] 5 (0, 0))) := hone
        have hblt := lt_of_block hone
        have hbs : Below w.heap.size w (wr.setCell ⟨wv.heap.size, 0, none⟩ (.int .u8 (k : Int))) := hbel.setCell hs9 _
        clear hone
        go_wp2_with fail
        refine (zhost_any (some ⟨wv.heap.size, 0, none⟩) 1 1 (fun _ => (k : Int)) (wr.setCell ⟨wv.heap.size, 0, none⟩ (.int .u8 (k : Int))) (rd_one HONE.out) (fun i hi => by omega) (by omega)).mono ?_
        rintro e w10 ⟨rfl, hb10⟩
        rw [host_one]
        have hz10 : Hid (w10.heap[wv.heap.size]? = some (.cells #[.int .u8 (k : Int)] 5 (0, 0))) := (hb10.block _ hblt).trans HONE.out
        have hB10 : Below w.heap.size w w10 := hbs.trans (hb10.mono hbs.size)
        clear hb10 hbs HONE hcell hfree hz hbel
        cases hh : Pl.hostB (k : Int) with
        | true =>
          have HC := cnt_yes hh
          have HC' : Hid (Pl.cnt (k + 1) = Pl.cnt k + 1) := HC
          clear HC hh
          go_wp2
          go_roundw
          case rel => exact ⟨k + 1, by omega, by go_num, by rw [HC'.out]; go_num, ⟨_, hz10⟩, hB10⟩
          case measure => simp [intOf]; omega
        | false =>
          have HC := cnt_no hh
          have HC' : Hid (Pl.cnt (k + 1) = Pl.cnt k) := HC
          clear HC hh
          go_wp2
          go_roundw
          case rel => exact ⟨k + 1, by omega, by go_num, by rw [HC'.out], ⟨_, hz10⟩, hB10⟩
          case measure => simp [intOf]; omega
      · obtain rfl : k = 256 := by omega
        rw [Pl.cnt_256] at *
        go_wp2_with fail
        refine (zhost_any none 0 0 f wr (.inl rfl) (fun i hi => absurd hi (by omega)) (by omega)).mono ?_
        rintro e w11 ⟨rfl, hb11⟩
        have e0 : Pl.hostN f 0 = false := rfl
        rw [e0]
        have hB11 : Below w.heap.size w w11 := hbel.trans (hb11.mono hbel.size)
        clear hb11 hbel e0
        go_wp2
        go_ret
        exact ⟨ret_bool (by first | (simp; done) | (simp; intro h; omega)), hB11⟩
  · skip
    have i2 : 0 < m := by omega
    have q2 : (m == 0) = false := by simp; omega
    have q3 : decide (0 < 0 + m) = true := by simp; omega
    rw [q3, q2]; simp only [Bool.true_and, Bool.false_or, Bool.true_or, beq_self_eq_true]
    clear q3 q2
    go_wp2_with fail
    refine (zhost_any (some ⟨w.heap.size, 0, none⟩) m m g w6 hRb6 hg (by omega)).mono ?_
    rintro e wv ⟨rfl, hb7⟩
    have hBv : Below w.heap.size w wv := hB6.trans (hb7.mono hB6.size)
    clear hb7 hB6 hRa6 hRb6
    generalize Pl.hostN g m = vb
    go_wp2_with (at_make; refine wp_make _ rfl (.const (.int .i64 1)) (.const (.int .i64 1)) rfl _ _ 1 rfl rfl (by omega) (by omega) (by omega) ?_; intro w9 Z hZ hZl hb9)
    obtain ⟨z0, hz0⟩ := row_one hZ.out hZl.out
    have HZ0 : Hid (w9.heap[wv.heap.size]? = some (.cells #[z0] 5 (0, 0))) := hz0
    have hs9 := hBv.size
    have hB9 : Below w.heap.size w w9 := hBv.trans (hb9.mono hBv.size)
    clear hz0 hZ hZl hb9 hBv
    go_loopw [9, 11] (fun s i wr => ∃ k : Nat, k ≤ 256 ∧ i = .int .i64 k ∧ s = .int .i64 (Pl.cnt k) ∧ (∃ z, Hid (wr.heap[wv.heap.size]? = some (.cells #[z] 5 (0, 0)))) ∧ Below w.heap.size w wr) (fun _ i _ => 256 - (intOf i).toNat)
    case atStart => exact ⟨0, Nat.zero_le _, rfl, rfl, ⟨z0, HZ0⟩, hB9⟩
    case round =>
      obtain ⟨k, hk, rfl, rfl, ⟨z, hz⟩, hbel⟩ := hrel
      clear HZ0 hB9
      have hcnt := Pl.cnt_le k
      by_cases hlt : k < 256
      · have hcell := cell_of_one hz.out
        have hfree := free_of_one hz.out
        have hone := one_setCell (u := .int .u8 (k : Int)) hz.out
        have HONE : Hid ((wr.setCell ⟨wv.heap.size, 0, none⟩ (.int .u8 (k : Int))).heap[wv.heap.size]? = some (.cells #[.int .u8 (k : Int)] 5 (0, 0))) := hone
        have hblt := lt_of_block hone
        have hbs : Below w.heap.size w (wr.setCell ⟨wv.heap.size, 0, none⟩ (.int .u8 (k : Int))) := hbel.setCell hs9 _
        clear hone
        go_wp2_with fail
        refine (zhost_any (some ⟨wv.heap.size, 0, none⟩) 1 1 (fun _ => (k : Int)) (wr.setCell ⟨wv.heap.size, 0, none⟩ (.int .u8 (k : Int))) (rd_one HONE.out) (fun i hi => by omega) (by omega)).mono ?_
        rintro e w10 ⟨rfl, hb10⟩
        rw [host_one]
        have hz10 : Hid (w10.heap[wv.heap.size]? = some (.cells #[.int .u8 (k : Int)] 5 (0, 0))) := (hb10.block _ hblt).trans HONE.out
        have hB10 : Below w.heap.size w w10 := hbs.trans (hb10.mono hbs.size)
        clear hb10 hbs HONE hcell hfree hz hbel
        cases hh : Pl.hostB (k : Int) with
        | true =>
          have HC := cnt_yes hh
          have HC' : Hid (Pl.cnt (k + 1) = Pl.cnt k + 1) := HC
          clear HC hh
          go_wp2
          go_roundw
          case rel => exact ⟨k + 1, by omega, by go_num, by rw [HC'.out]; go_num, ⟨_, hz10⟩, hB10⟩
          case measure => simp [intOf]; omega
        | false =>
          have HC := cnt_no hh
          have HC' : Hid (Pl.cnt (k + 1) = Pl.cnt k) := HC
          clear HC hh
          go_wp2
          go_roundw
          case rel => exact ⟨k + 1, by omega, by go_num, by rw [HC'.out], ⟨_, hz10⟩, hB10⟩
          case measure => simp [intOf]; omega
      · obtain rfl : k = 256 := by omega
        rw [Pl.cnt_256] at *
        go_wp2_with fail
        refine (zhost_any none 0 0 f wr (.inl rfl) (fun i hi => absurd hi (by omega)) (by omega)).mono ?_
        rintro e w11 ⟨rfl, hb11⟩
        have e0 : Pl.hostN f 0 = false := rfl
        rw [e0]
        have hB11 : Below w.heap.size w w11 := hbel.trans (hb11.mono hbel.size)
        clear hb11 hbel e0
        go_wp2
        go_ret
        exact ⟨ret_bool (by first | (simp; done) | (simp; intro h; omega)), hB11⟩

set_option maxHeartbeats 4000000 in
set_option maxRecDepth 100000 in
theorem lawD_some_some (x : Addr) (n c : Nat) (y : Addr) (m d : Nat) (f g : Nat → Int) (w : World) (hr : Rd w (some x) n f) (hf : ∀ i, i < n → 0 ≤ f i ∧ f i < 256) (hn : n ≤ 524288) (hr' : Rd w (some y) m g) (hg : ∀ i, i < m → 0 ≤ g i ∧ g i < 256) (hm : m ≤ 524288) :
    Calls Try.prog 8 #[.slice (some x) n c, .slice (some y) m d] w fun e w' => e = .returned (.bool true) ∧ Below w.heap.size w w' := by
  have hq := neqNil
  obtain ⟨X1, eX1⟩ : ∃ X1, X1 = cellsOf f n := ⟨_, rfl⟩
  have HX1 : Hid (X1 = cellsOf f n) := eX1
  have hl1 : Hid (X1.length = n) := by show _ = _; rw [eX1, length_cellsOf]
  clear eX1
  obtain ⟨X2, eX2⟩ : ∃ X2, X2 = cellsOf g m := ⟨_, rfl⟩
  have HX2 : Hid (X2 = cellsOf g m) := eX2
  have hl2 : Hid (X2.length = m) := by show _ = _; rw [eX2, length_cellsOf]
  clear eX2
  go_enter Try.func8, Try.ntmps8
  go_wp2_with fail
  refine (small25 _ _ _ _ _ _ _ (by omega) (by omega)).mono ?_
  rintro e w' ⟨rfl, hw⟩; subst w'
  go_wp2_with (first
    | (refine wp_make _ rfl (.tmp 25) (.tmp 25) rfl _ _ n rfl rfl (by omega) (by omega) (by omega) ?_; intro w1 Z1 hZ1 hZl1 hb1; have hs1 := hb1.size)
    | (refine wpList_copy_splice rfl (.tmp 27) (.tmp 28) 22 22 rfl 5 Try.underlying22 Try.size5 _ _ _ _ _ _ rfl rfl w.heap.size 0 Z1 5 hZ1.out X1 ?_ ?_ ?_ ?_ w.heap.size w hb1 (Nat.le_refl _) ?_; (rw [hl1.out]; exact (Nat.min_eq_left (by omega)).symm); (intro h; refine ⟨rfl, ?_⟩; rw [HX1.out] at h ⊢; exact (hr.below hb1).src h); (rw [hl1.out, hZl1.out]; omega); (rw [HX1.out]; exact cellsOf_one f n); intro w2 hZ2 hb2; have hs2 := hb2.size)
    | (refine wp_make _ rfl (.tmp 34) (.tmp 34) rfl _ _ m rfl rfl (by omega) (by omega) (by omega) ?_; intro w3 Z3 hZ3 hZl3 hb3; have hs3 := hb3.size)
    | (refine wpList_copy_splice rfl (.tmp 36) (.tmp 37) 22 22 rfl 5 Try.underlying22 Try.size5 _ _ _ _ _ _ rfl rfl w2.heap.size 0 Z3 5 hZ3.out X2 ?_ ?_ ?_ ?_ w2.heap.size w2 hb3 (Nat.le_refl _) ?_; (rw [hl2.out]; exact (Nat.min_eq_left (by omega)).symm); (intro h; refine ⟨rfl, ?_⟩; rw [HX2.out] at h ⊢; exact ((hr'.below hb2).below hb3).src h); (rw [hl2.out, hZl3.out]; omega); (rw [HX2.out]; exact cellsOf_one g m); intro w4 hZ4 hb4; have hs4 := hb4.size))
  have hRa2 : Rd w2 (some ⟨w.heap.size, 0, none⟩) n f := by
    have h := hZ2.out
    rw [HX1.out, splice_all Z1 f n hZl1.out] at h
    exact Rd.row h (fun i hi => cellsOf_at f hi)
  have hRb4 : Rd w4 (some ⟨w2.heap.size, 0, none⟩) m g := by
    have h := hZ4.out
    rw [HX2.out, splice_all Z3 g m hZl3.out] at h
    exact Rd.row h (fun i hi => cellsOf_at g hi)
  have hRa : Rd w4 (some ⟨w.heap.size, 0, none⟩) n f := hRa2.below hb4
  have hRb := hRb4
  have hBB : Below w.heap.size w w4 := hb2.trans (hb4.mono hs2)
  clear hZ1 hZ2 hZl1 HX1 hl1 hb1 hb2 hs1 hs2 hr hRa2 hZ3 hZ4 hZl3 HX2 hl2 hb3 hb4 hs3 hs4 hr' hRb4
  refine (cat_any (some ⟨w.heap.size, 0, none⟩) (some ⟨w2.heap.size, 0, none⟩) n n m m f g w4 hRa hRb (by omega) (by omega)).mono ?_
  rintro e w5 ⟨rfl, hR5, hb5⟩
  go_wp2_with fail
  refine (zhost_any (some ⟨w4.heap.size, 0, none⟩) (n + m) (n + m) (fun i => if i < n then f i else g (i - n)) w5 hR5 ?_ (by omega)).mono ?_
  · intro i hi
    by_cases hin : i < n
    · simp only [hin, if_true]; exact hf i hin
    · simp only [hin, if_false]; exact hg _ (by omega)
  rintro e w6 ⟨rfl, hb6⟩
  have hwh : Hid (Pl.hostN (fun i => if i < n then f i else g (i - n)) (n + m) = (decide (0 < n + m) && ((n == 0) || Pl.hostN f n) && ((m == 0) || Pl.hostN g m))) := by
    have h := Pl.hostN_cat f g (fun i => if i < n then f i else g (i - n)) n m (fun i hi => if_pos hi) (fun i hi => by show (if n + i < n then f (n + i) else g (n + i - n)) = g i; rw [if_neg (by omega), Nat.add_sub_cancel_left])
    show _ = _
    exact h
  rw [hwh.out]
  have hRa6 := (hRa.below hb5).below hb6
  have hRb6 := (hRb.below hb5).below hb6
  have hB6 : Below w.heap.size w w6 := hBB.trans ((hb5.trans (hb6.mono hb5.size)).mono hBB.size)
  clear hR5 hb5 hb6 hRa hRb hBB hwh
  by_cases hn0 : n = 0
  · by_cases hm0 : m = 0
    · clear hf hg
      have i1 : n ≤ 0 := by omega
      have i2 : m ≤ 0 := by omega
      have q1 : (n == 0) = true := by simp; omega
      have q2 : (m == 0) = true := by simp; omega
      have q3 : decide (0 < n + m) = false := by simp; omega
      rw [q3]; simp only [Bool.false_and]
      clear q3 q1 q2
      obtain ⟨wv, hwv⟩ : ∃ wv, wv = w6 := ⟨_, rfl⟩
      subst hwv
      have hBv := hB6
      clear hB6 hRa6 hRb6
      go_wp2_with (at_make; refine wp_make _ rfl (.const (.int .i64 1)) (.const (.int .i64 1)) rfl _ _ 1 rfl rfl (by omega) (by omega) (by omega) ?_; intro w9 Z hZ hZl hb9)
      obtain ⟨z0, hz0⟩ := row_one hZ.out hZl.out
      have HZ0 : Hid (w9.heap[wv.heap.size]? = some (.cells #[z0] 5 (0, 0))) := hz0
      have hs9 := hBv.size
      have hB9 : Below w.heap.size w w9 := hBv.trans (hb9.mono hBv.size)
      clear hz0 hZ hZl hb9 hBv
      go_loopw [9, 11] (fun s i wr => ∃ k : Nat, k ≤ 256 ∧ i = .int .i64 k ∧ s = .int .i64 (Pl.cnt k) ∧ (∃ z, Hid (wr.heap[wv.heap.size]? = some (.cells #[z] 5 (0, 0)))) ∧ Below w.heap.size w wr) (fun _ i _ => 256 - (intOf i).toNat)
      case atStart => exact ⟨0, Nat.zero_le _, rfl, rfl, ⟨z0, HZ0⟩, hB9⟩
      case round =>
        obtain ⟨k, hk, rfl, rfl, ⟨z, hz⟩, hbel⟩ := hrel
        clear HZ0 hB9
        have hcnt := Pl.cnt_le k
        by_cases hlt : k < 256
        · have hcell := cell_of_one hz.out
          have hfree := free_of_one hz.out
          have hone := one_setCell (u := .int .u8 (k : Int)) hz.out
          have HONE : Hid ((wr.setCell ⟨wv.heap.size, 0, none⟩ (.int .u8 (k : Int))).heap[wv.heap.size]? = some (.cells #[.int .u8 (k : Int)] 5 (0, 0))) := hone
          have hblt := lt_of_block hone
          have hbs : Below w.heap.size w (wr.setCell ⟨wv.heap.size, 0, none⟩ (.int .u8 (k : Int))) := hbel.setCell hs9 _
          clear hone
          go_wp2_with fail
          refine (zhost_any (some ⟨wv.heap.size, 0, none⟩) 1 1 (fun _ => (k : Int)) (wr.setCell ⟨wv.heap.size, 0, none⟩ (.int .u8 (k : Int))) (rd_one HONE.out) (fun i hi => by omega) (by omega)).mono ?_
          rintro e w10 ⟨rfl, hb10⟩
          rw [host_one]
          have hz10 : Hid (w10.heap[wv.heap.size]? = some (.cells #[.int .u8 (k : Int)] 5 (0, 0))) := (hb10.block _ hblt).trans HONE.out
          have hB10 : Below w.heap.size w w10 := hbs.trans (hb10.mono hbs.size)
          clear hb10 hbs HONE hcell hfree hz hbel
          cases hh : Pl.hostB (k : Int) with
          | true =>
            have HC := cnt_yes hh
            have HC' : Hid (Pl.cnt (k + 1) = Pl.cnt k + 1) := HC
            clear HC hh
            go_wp2
            go_roundw
            case rel => exact ⟨k + 1, by omega, by go_num, by rw [HC'.out]; go_num, ⟨_, hz10⟩, hB10⟩
            case measure => simp [intOf]; omega
          | false =>
            have HC := cnt_no hh
            have HC' : Hid (Pl.cnt (k + 1) = Pl.cnt k) := HC
            clear HC hh
            go_wp2
            go_roundw
            case rel => exact ⟨k + 1, by omega, by go_num, by rw [HC'.out], ⟨_, hz10⟩, hB10⟩
            case measure => simp [intOf]; omega
        · obtain rfl : k = 256 := by omega
          rw [Pl.cnt_256] at *
          go_wp2_with fail
          refine (zhost_any none 0 0 f wr (.inl rfl) (fun i hi => absurd hi (by omega)) (by omega)).mono ?_
          rintro e w11 ⟨rfl, hb11⟩
          have e0 : Pl.hostN f 0 = false := rfl
          rw [e0]
          have hB11 : Below w.heap.size w w11 := hbel.trans (hb11.mono hbel.size)
          clear hb11 hbel e0
          go_wp2
          go_ret
          exact ⟨ret_bool (by first | (simp; done) | (simp; intro h; omega)), hB11⟩
    · skip
      have i1 : n ≤ 0 := by omega
      have i2 : 0 < m := by omega
      have q1 : (n == 0) = true := by simp; omega
      have q2 : (m == 0) = false := by simp; omega
      have q3 : decide (0 < n + m) = true := by simp; omega
      rw [q3, q1, q2]; simp only [Bool.true_and, Bool.false_or, Bool.true_or]
      clear q3 q1 q2
      go_wp2_with fail
      refine (zhost_any (some ⟨w2.heap.size, 0, none⟩) m m g w6 hRb6 hg (by omega)).mono ?_
      rintro e wv ⟨rfl, hb7⟩
      have hBv : Below w.heap.size w wv := hB6.trans (hb7.mono hB6.size)
      clear hb7 hB6 hRa6 hRb6
      generalize Pl.hostN g m = vb
      go_wp2_with (at_make; refine wp_make _ rfl (.const (.int .i64 1)) (.const (.int .i64 1)) rfl _ _ 1 rfl rfl (by omega) (by omega) (by omega) ?_; intro w9 Z hZ hZl hb9)
      obtain ⟨z0, hz0⟩ := row_one hZ.out hZl.out
      have HZ0 : Hid (w9.heap[wv.heap.size]? = some (.cells #[z0] 5 (0, 0))) := hz0
      have hs9 := hBv.size
      have hB9 : Below w.heap.size w w9 := hBv.trans (hb9.mono hBv.size)
      clear hz0 hZ hZl hb9 hBv
      go_loopw [9, 11] (fun s i wr => ∃ k : Nat, k ≤ 256 ∧ i = .int .i64 k ∧ s = .int .i64 (Pl.cnt k) ∧ (∃ z, Hid (wr.heap[wv.heap.size]? = some (.cells #[z] 5 (0, 0)))) ∧ Below w.heap.size w wr) (fun _ i _ => 256 - (intOf i).toNat)
      case atStart => exact ⟨0, Nat.zero_le _, rfl, rfl, ⟨z0, HZ0⟩, hB9⟩
      case round =>
        obtain ⟨k, hk, rfl, rfl, ⟨z, hz⟩, hbel⟩ := hrel
        clear HZ0 hB9
        have hcnt := Pl.cnt_le k
        by_cases hlt : k < 256
        · have hcell := cell_of_one hz.out
          have hfree := free_of_one hz.out
          have hone := one_setCell (u := .int .u8 (k : Int)) hz.out
          have HONE : Hid ((wr.setCell ⟨wv.heap.size, 0, none⟩ (.int .u8 (k : Int))).heap[wv.heap.size]? = some (.cells #[.int .u8 (k : Int)] 5 (0, 0))) := hone
          have hblt := lt_of_block hone
          have hbs : Below w.heap.size w (wr.setCell ⟨wv.heap.size, 0, none⟩ (.int .u8 (k : Int))) := hbel.setCell hs9 _
          clear hone
          go_wp2_with fail
          refine (zhost_any (some ⟨wv.heap.size, 0, none⟩) 1 1 (fun _ => (k : Int)) (wr.setCell ⟨wv.heap.size, 0, none⟩ (.int .u8 (k : Int))) (rd_one HONE.out) (fun i hi => by omega) (by omega)).mono ?_
          rintro e w10 ⟨rfl, hb10⟩
          rw [host_one]
          have hz10 : Hid (w10.heap[wv.heap.size]? = some (.cells #[.int .u8 (k : Int)] 5 (0, 0))) := (hb10.block _ hblt).trans HONE.out
          have hB10 : Below w.heap.size w w10 := hbs.trans (hb10.mono hbs.size)
          clear hb10 hbs HONE hcell hfree hz hbel
          cases hh : Pl.hostB (k : Int) with
          | true =>
            have HC := cnt_yes hh
            have HC' : Hid (Pl.cnt (k + 1) = Pl.cnt k + 1) := HC
            clear HC hh
            go_wp2
            go_roundw
            case rel => exact ⟨k + 1, by omega, by go_num, by rw [HC'.out]; go_num, ⟨_, hz10⟩, hB10⟩
            case measure => simp [intOf]; omega
          | false =>
            have HC := cnt_no hh
            have HC' : Hid (Pl.cnt (k + 1) = Pl.cnt k) := HC
            clear HC hh
            go_wp2
            go_roundw
            case rel => exact ⟨k + 1, by omega, by go_num, by rw [HC'.out], ⟨_, hz10⟩, hB10⟩
            case measure => simp [intOf]; omega
        · obtain rfl : k = 256 := by omega
          rw [Pl.cnt_256] at *
          go_wp2_with fail
          refine (zhost_any none 0 0 f wr (.inl rfl) (fun i hi => absurd hi (by omega)) (by omega)).mono ?_
          rintro e w11 ⟨rfl, hb11⟩
          have e0 : Pl.hostN f 0 = false := rfl
          rw [e0]
          have hB11 : Below w.heap.size w w11 := hbel.trans (hb11.mono hbel.size)
          clear hb11 hbel e0
          go_wp2
          go_ret
          exact ⟨ret_bool (by first | (simp; done) | (simp; intro h; omega)), hB11⟩
  · by_cases hm0 : m = 0
    · skip
      have i1 : 0 < n := by omega
      have i2 : m ≤ 0 := by omega
      have q1 : (n == 0) = false := by simp; omega
      have q2 : (m == 0) = true := by simp; omega
      have q3 : decide (0 < n + m) = true := by simp; omega
      cases hA : Pl.hostN f n with
      | false =>
        have HA : Hid (Pl.hostN f n = false) := hA
        rw [q3, q1]; simp only [Bool.true_and, Bool.false_or, Bool.false_and]
        clear hA q3 q1 q2
        go_wp2_with fail
        refine (zhost_any (some ⟨w.heap.size, 0, none⟩) n n f w6 hRa6 hf (by omega)).mono ?_
        rintro e wv ⟨rfl, hb7⟩
        rw [HA.out]
        have hBv : Below w.heap.size w wv := hB6.trans (hb7.mono hB6.size)
        clear hb7 hB6 hRa6 hRb6
        go_wp2_with (at_make; refine wp_make _ rfl (.const (.int .i64 1)) (.const (.int .i64 1)) rfl _ _ 1 rfl rfl (by omega) (by omega) (by omega) ?_; intro w9 Z hZ hZl hb9)
        obtain ⟨z0, hz0⟩ := row_one hZ.out hZl.out
        have HZ0 : Hid (w9.heap[wv.heap.size]? = some (.cells #[z0] 5 (0, 0))) := hz0
        have hs9 := hBv.size
        have hB9 : Below w.heap.size w w9 := hBv.trans (hb9.mono hBv.size)
        clear hz0 hZ hZl hb9 hBv
        go_loopw [9, 11] (fun s i wr => ∃ k : Nat, k ≤ 256 ∧ i = .int .i64 k ∧ s = .int .i64 (Pl.cnt k) ∧ (∃ z, Hid (wr.heap[wv.heap.size]? = some (.cells #[z] 5 (0, 0)))) ∧ Below w.heap.size w wr) (fun _ i _ => 256 - (intOf i).toNat)
        case atStart => exact ⟨0, Nat.zero_le _, rfl, rfl, ⟨z0, HZ0⟩, hB9⟩
        case round =>
          obtain ⟨k, hk, rfl, rfl, ⟨z, hz⟩, hbel⟩ := hrel
          clear HZ0 hB9
          have hcnt := Pl.cnt_le k
          by_cases hlt : k < 256
          · have hcell := cell_of_one hz.out
            have hfree := free_of_one hz.out
            have hone := one_setCell (u := .int .u8 (k : Int)) hz.out
            have HONE : Hid ((wr.setCell ⟨wv.heap.size, 0, none⟩ (.int .u8 (k : Int))).heap[wv.heap.size]? = some (.cells #[.int .u8 (k : Int)] 5 (0, 0))) := hone
            have hblt := lt_of_block hone
            have hbs : Below w.heap.size w (wr.setCell ⟨wv.heap.size, 0, none⟩ (.int .u8 (k : Int))) := hbel.setCell hs9 _
            clear hone
            go_wp2_with fail
            refine (zhost_any (some ⟨wv.heap.size, 0, none⟩) 1 1 (fun _ => (k : Int)) (wr.setCell ⟨wv.heap.size, 0, none⟩ (.int .u8 (k : Int))) (rd_one HONE.out) (fun i hi => by omega) (by omega)).mono ?_
            rintro e w10 ⟨rfl, hb10⟩
            rw [host_one]
            have hz10 : Hid (w10.heap[wv.heap.size]? = some (.cells #[.int .u8 (k : Int)] 5 (0, 0))) := (hb10.block _ hblt).trans HONE.out
            have hB10 : Below w.heap.size w w10 := hbs.trans (hb10.mono hbs.size)
            clear hb10 hbs HONE hcell hfree hz hbel
            cases hh : Pl.hostB (k : Int) with
            | true =>
              have HC := cnt_yes hh
              have HC' : Hid (Pl.cnt (k + 1) = Pl.cnt k + 1) := HC
              clear HC hh
              go_wp2
              go_roundw
              case rel => exact ⟨k + 1, by omega, by go_num, by rw [HC'.out]; go_num, ⟨_, hz10⟩, hB10⟩
              case measure => simp [intOf]; omega
            | false =>
              have HC := cnt_no hh
              have HC' : Hid (Pl.cnt (k + 1) = Pl.cnt k) := HC
              clear HC hh
              go_wp2
              go_roundw
              case rel => exact ⟨k + 1, by omega, by go_num, by rw [HC'.out], ⟨_, hz10⟩, hB10⟩
              case measure => simp [intOf]; omega
          · obtain rfl : k = 256 := by omega
            rw [Pl.cnt_256] at *
            go_wp2_with fail
            refine (zhost_any none 0 0 f wr (.inl rfl) (fun i hi => absurd hi (by omega)) (by omega)).mono ?_
            rintro e w11 ⟨rfl, hb11⟩
            have e0 : Pl.hostN f 0 = false := rfl
            rw [e0]
            have hB11 : Below w.heap.size w w11 := hbel.trans (hb11.mono hbel.size)
            clear hb11 hbel e0
            go_wp2
            go_ret
            exact ⟨ret_bool (by first | (simp; done) | (simp; intro h; omega)), hB11⟩
      | true =>
        have HA : Hid (Pl.hostN f n = true) := hA
        rw [q3, q1, q2]; simp only [Bool.true_and, Bool.false_or, Bool.true_or]
        clear hA q3 q1 q2
        go_wp2_with fail
        refine (zhost_any (some ⟨w.heap.size, 0, none⟩) n n f w6 hRa6 hf (by omega)).mono ?_
        rintro e wv ⟨rfl, hb7⟩
        rw [HA.out]
        have hBv : Below w.heap.size w wv := hB6.trans (hb7.mono hB6.size)
        clear hb7 hB6 hRa6 hRb6
        go_wp2_with (at_make; refine wp_make _ rfl (.const (.int .i64 1)) (.const (.int .i64 1)) rfl _ _ 1 rfl rfl (by omega) (by omega) (by omega) ?_; intro w9 Z hZ hZl hb9)
        obtain ⟨z0, hz0⟩ := row_one hZ.out hZl.out
        have HZ0 : Hid (w9.heap[wv.heap.size]? = some (.cells #[z0] 5 (0, 0))) := hz0
        have hs9 := hBv.size
        have hB9 : Below w.heap.size w w9 := hBv.trans (hb9.mono hBv.size)
        clear hz0 hZ hZl hb9 hBv
        go_loopw [9, 11] (fun s i wr => ∃ k : Nat, k ≤ 256 ∧ i = .int .i64 k ∧ s = .int .i64 (Pl.cnt k) ∧ (∃ z, Hid (wr.heap[wv.heap.size]? = some (.cells #[z] 5 (0, 0)))) ∧ Below w.heap.size w wr) (fun _ i _ => 256 - (intOf i).toNat)
        case atStart => exact ⟨0, Nat.zero_le _, rfl, rfl, ⟨z0, HZ0⟩, hB9⟩
        case round =>
          obtain ⟨k, hk, rfl, rfl, ⟨z, hz⟩, hbel⟩ := hrel
          clear HZ0 hB9
          have hcnt := Pl.cnt_le k
          by_cases hlt : k < 256
          · have hcell := cell_of_one hz.out
            have hfree := free_of_one hz.out
            have hone := one_setCell (u := .int .u8 (k : Int)) hz.out
            have HONE : Hid ((wr.setCell ⟨wv.heap.size, 0, none⟩ (.int .u8 (k : Int))).heap[wv.heap.size]? = some (.cells #[.int .u8 (k : Int)] 5 (0, 0))) := hone
            have hblt := lt_of_block hone
            have hbs : Below w.heap.size w (wr.setCell ⟨wv.heap.size, 0, none⟩ (.int .u8 (k : Int))) := hbel.setCell hs9 _
            clear hone
            go_wp2_with fail
            refine (zhost_any (some ⟨wv.heap.size, 0, none⟩) 1 1 (fun _ => (k : Int)) (wr.setCell ⟨wv.heap.size, 0, none⟩ (.int .u8 (k : Int))) (rd_one HONE.out) (fun i hi => by omega) (by omega)).mono ?_
            rintro e w10 ⟨rfl, hb10⟩
            rw [host_one]
            have hz10 : Hid (w10.heap[wv.heap.size]? = some (.cells #[.int .u8 (k : Int)] 5 (0, 0))) := (hb10.block _ hblt).trans HONE.out
            have hB10 : Below w.heap.size w w10 := hbs.trans (hb10.mono hbs.size)
            clear hb10 hbs HONE hcell hfree hz hbel
            cases hh : Pl.hostB (k : Int) with
            | true =>
              have HC := cnt_yes hh
              have HC' : Hid (Pl.cnt (k + 1) = Pl.cnt k + 1) := HC
              clear HC hh
              go_wp2
              go_roundw
              case rel => exact ⟨k + 1, by omega, by go_num, by rw [HC'.out]; go_num, ⟨_, hz10⟩, hB10⟩
              case measure => simp [intOf]; omega
            | false =>
              have HC := cnt_no hh
              have HC' : Hid (Pl.cnt (k + 1) = Pl.cnt k) := HC
              clear HC hh
              go_wp2
              go_roundw
              case rel => exact ⟨k + 1, by omega, by go_num, by rw [HC'.out], ⟨_, hz10⟩, hB10⟩
              case measure => simp [intOf]; omega
          · obtain rfl : k = 256 := by omega
            rw [Pl.cnt_256] at *
            go_wp2_with fail
            refine (zhost_any none 0 0 f wr (.inl rfl) (fun i hi => absurd hi (by omega)) (by omega)).mono ?_
            rintro e w11 ⟨rfl, hb11⟩
            have e0 : Pl.hostN f 0 = false := rfl
            rw [e0]
            have hB11 : Below w.heap.size w w11 := hbel.trans (hb11.mono hbel.size)
            clear hb11 hbel e0
            go_wp2
            go_ret
            exact ⟨ret_bool (by first | (simp; done) | (simp; intro h; omega)), hB11⟩
    · skip
      have i1 : 0 < n := by omega
      have i2 : 0 < m := by omega
      have q1 : (n == 0) = false := by simp; omega
      have q2 : (m == 0) = false := by simp; omega
      have q3 : decide (0 < n + m) = true := by simp; omega
      cases hA : Pl.hostN f n with
      | false =>
        have HA : Hid (Pl.hostN f n = false) := hA
        rw [q3, q1]; simp only [Bool.true_and, Bool.false_or, Bool.false_and]
        clear hA q3 q1 q2
        go_wp2_with fail
        refine (zhost_any (some ⟨w.heap.size, 0, none⟩) n n f w6 hRa6 hf (by omega)).mono ?_
        rintro e wv ⟨rfl, hb7⟩
        rw [HA.out]
        have hBv : Below w.heap.size w wv := hB6.trans (hb7.mono hB6.size)
        clear hb7 hB6 hRa6 hRb6
        go_wp2_with (at_make; refine wp_make _ rfl (.const (.int .i64 1)) (.const (.int .i64 1)) rfl _ _ 1 rfl rfl (by omega) (by omega) (by omega) ?_; intro w9 Z hZ hZl hb9)
        obtain ⟨z0, hz0⟩ := row_one hZ.out hZl.out
        have HZ0 : Hid (w9.heap[wv.heap.size]? = some (.cells #[z0] 5 (0, 0))) := hz0
        have hs9 := hBv.size
        have hB9 : Below w.heap.size w w9 := hBv.trans (hb9.mono hBv.size)
        clear hz0 hZ hZl hb9 hBv
        go_loopw [9, 11] (fun s i wr => ∃ k : Nat, k ≤ 256 ∧ i = .int .i64 k ∧ s = .int .i64 (Pl.cnt k) ∧ (∃ z, Hid (wr.heap[wv.heap.size]? = some (.cells #[z] 5 (0, 0)))) ∧ Below w.heap.size w wr) (fun _ i _ => 256 - (intOf i).toNat)
        case atStart => exact ⟨0, Nat.zero_le _, rfl, rfl, ⟨z0, HZ0⟩, hB9⟩
        case round =>
          obtain ⟨k, hk, rfl, rfl, ⟨z, hz⟩, hbel⟩ := hrel
          clear HZ0 hB9
          have hcnt := Pl.cnt_le k
          by_cases hlt : k < 256
          · have hcell := cell_of_one hz.out
            have hfree := free_of_one hz.out
            have hone := one_setCell (u := .int .u8 (k : Int)) hz.out
            have HONE : Hid ((wr.setCell ⟨wv.heap.size, 0, none⟩ (.int .u8 (k : Int))).heap[wv.heap.size]? = some (.cells #[.int .u8 (k : Int)] 5 (0, 0))) := hone
            have hblt := lt_of_block hone
            have hbs : Below w.heap.size w (wr.setCell ⟨wv.heap.size, 0, none⟩ (.int .u8 (k : Int))) := hbel.setCell hs9 _
            clear hone
            go_wp2_with fail
            refine (zhost_any (some ⟨wv.heap.size, 0, none⟩) 1 1 (fun _ => (k : Int)) (wr.setCell ⟨wv.heap.size, 0, none⟩ (.int .u8 (k : Int))) (rd_one HONE.out) (fun i hi => by omega) (by omega)).mono ?_
            rintro e w10 ⟨rfl, hb10⟩
            rw [host_one]
            have hz10 : Hid (w10.heap[wv.heap.size]? = some (.cells #[.int .u8 (k : Int)] 5 (0, 0))) := (hb10.block _ hblt).trans HONE.out
            have hB10 : Below w.heap.size w w10 := hbs.trans (hb10.mono hbs.size)
            clear hb10 hbs HONE hcell hfree hz hbel
            cases hh : Pl.hostB (k : Int) with
            | true =>
              have HC := cnt_yes hh
              have HC' : Hid (Pl.cnt (k + 1) = Pl.cnt k + 1) := HC
              clear HC hh
              go_wp2
              go_roundw
              case rel => exact ⟨k + 1, by omega, by go_num, by rw [HC'.out]; go_num, ⟨_, hz10⟩, hB10⟩
              case measure => simp [intOf]; omega
            | false =>
              have HC := cnt_no hh
              have HC' : Hid (Pl.cnt (k + 1) = Pl.cnt k) := HC
              clear HC hh
              go_wp2
              go_roundw
              case rel => exact ⟨k + 1, by omega, by go_num, by rw [HC'.out], ⟨_, hz10⟩, hB10⟩
              case measure => simp [intOf]; omega
          · obtain rfl : k = 256 := by omega
            rw [Pl.cnt_256] at *
            go_wp2_with fail
            refine (zhost_any none 0 0 f wr (.inl rfl) (fun i hi => absurd hi (by omega)) (by omega)).mono ?_
            rintro e w11 ⟨rfl, hb11⟩
            have e0 : Pl.hostN f 0 = false := rfl
            rw [e0]
            have hB11 : Below w.heap.size w w11 := hbel.trans (hb11.mono hbel.size)
            clear hb11 hbel e0
            go_wp2
            go_ret
            exact ⟨ret_bool (by first | (simp; done) | (simp; intro h; omega)), hB11⟩
      | true =>
        have HA : Hid (Pl.hostN f n = true) := hA
        rw [q3, q1, q2]; simp only [Bool.true_and, Bool.false_or]
        clear hA q3 q1 q2
        go_wp2_with fail
        refine (zhost_any (some ⟨w.heap.size, 0, none⟩) n n f w6 hRa6 hf (by omega)).mono ?_
        rintro e w7 ⟨rfl, hb7⟩
        rw [HA.out]
        have hRb7 := hRb6.below hb7
        have hB7 : Below w.heap.size w w7 := hB6.trans (hb7.mono hB6.size)
        clear hb7 hB6 hRa6 hRb6
        go_wp2_with fail
        refine (zhost_any (some ⟨w2.heap.size, 0, none⟩) m m g w7 hRb7 hg (by omega)).mono ?_
        rintro e wv ⟨rfl, hb8⟩
        have hBv : Below w.heap.size w wv := hB7.trans (hb8.mono hB7.size)
        clear hb8 hB7 hRb7
        generalize Pl.hostN g m = vb
        go_wp2_with (at_make; refine wp_make _ rfl (.const (.int .i64 1)) (.const (.int .i64 1)) rfl _ _ 1 rfl rfl (by omega) (by omega) (by omega) ?_; intro w9 Z hZ hZl hb9)
        obtain ⟨z0, hz0⟩ := row_one hZ.out hZl.out
        have HZ0 : Hid (w9.heap[wv.heap.size]? = some (.cells #[z0] 5 (0, 0))) := hz0
        have hs9 := hBv.size
        have hB9 : Below w.heap.size w w9 := hBv.trans (hb9.mono hBv.size)
        clear hz0 hZ hZl hb9 hBv
        go_loopw [9, 11] (fun s i wr => ∃ k : Nat, k ≤ 256 ∧ i = .int .i64 k ∧ s = .int .i64 (Pl.cnt k) ∧ (∃ z, Hid (wr.heap[wv.heap.size]? = some (.cells #[z] 5 (0, 0)))) ∧ Below w.heap.size w wr) (fun _ i _ => 256 - (intOf i).toNat)
        case atStart => exact ⟨0, Nat.zero_le _, rfl, rfl, ⟨z0, HZ0⟩, hB9⟩
        case round =>
          obtain ⟨k, hk, rfl, rfl, ⟨z, hz⟩, hbel⟩ := hrel
          clear HZ0 hB9
          have hcnt := Pl.cnt_le k
          by_cases hlt : k < 256
          · have hcell := cell_of_one hz.out
            have hfree := free_of_one hz.out
            have hone := one_setCell (u := .int .u8 (k : Int)) hz.out
            have HONE : Hid ((wr.setCell ⟨wv.heap.size, 0, none⟩ (.int .u8 (k : Int))).heap[wv.heap.size]? = some (.cells #[.int .u8 (k : Int)] 5 (0, 0))) := hone
            have hblt := lt_of_block hone
            have hbs : Below w.heap.size w (wr.setCell ⟨wv.heap.size, 0, none⟩ (.int .u8 (k : Int))) := hbel.setCell hs9 _
            clear hone
            go_wp2_with fail
            refine (zhost_any (some ⟨wv.heap.size, 0, none⟩) 1 1 (fun _ => (k : Int)) (wr.setCell ⟨wv.heap.size, 0, none⟩ (.int .u8 (k : Int))) (rd_one HONE.out) (fun i hi => by omega) (by omega)).mono ?_
            rintro e w10 ⟨rfl, hb10⟩
            rw [host_one]
            have hz10 : Hid (w10.heap[wv.heap.size]? = some (.cells #[.int .u8 (k : Int)] 5 (0, 0))) := (hb10.block _ hblt).trans HONE.out
            have hB10 : Below w.heap.size w w10 := hbs.trans (hb10.mono hbs.size)
            clear hb10 hbs HONE hcell hfree hz hbel
            cases hh : Pl.hostB (k : Int) with
            | true =>
              have HC := cnt_yes hh
              have HC' : Hid (Pl.cnt (k + 1) = Pl.cnt k + 1) := HC
              clear HC hh
              go_wp2
              go_roundw
              case rel => exact ⟨k + 1, by omega, by go_num, by rw [HC'.out]; go_num, ⟨_, hz10⟩, hB10⟩
              case measure => simp [intOf]; omega
            | false =>
              have HC := cnt_no hh
              have HC' : Hid (Pl.cnt (k + 1) = Pl.cnt k) := HC
              clear HC hh
              go_wp2
              go_roundw
              case rel => exact ⟨k + 1, by omega, by go_num, by rw [HC'.out], ⟨_, hz10⟩, hB10⟩
              case measure => simp [intOf]; omega
          · obtain rfl : k = 256 := by omega
            rw [Pl.cnt_256] at *
            go_wp2_with fail
            refine (zhost_any none 0 0 f wr (.inl rfl) (fun i hi => absurd hi (by omega)) (by omega)).mono ?_
            rintro e w11 ⟨rfl, hb11⟩
            have e0 : Pl.hostN f 0 = false := rfl
            rw [e0]
            have hB11 : Below w.heap.size w w11 := hbel.trans (hb11.mono hbel.size)
            clear hb11 hbel e0
            go_wp2
            go_ret
            exact ⟨ret_bool (by first | (simp; done) | (simp; intro h; omega)), hB11⟩

theorem lawD (p q : Option Addr) (n c m d : Nat) (f g : Nat → Int) (w : World) (hr : Rd w p n f) (hf : ∀ i, i < n → 0 ≤ f i ∧ f i < 256) (hr' : Rd w q m g) (hg : ∀ i, i < m → 0 ≤ g i ∧ g i < 256)
    (hnil : p = none → n = 0) (hnil' : q = none → m = 0) (hc : n ≤ 9223372036854775807) (hd : m ≤ 9223372036854775807) :
    Calls Try.prog 8 #[.slice p n c, .slice q m d] w fun e w' => e = .returned (.bool true) ∧ Below w.heap.size w w' := by
  by_cases h : 524288 < n ∨ 524288 < m
  · exact lawD_great p q n c m d w hc hd h
  · cases p with
    | none =>
      obtain rfl : n = 0 := hnil rfl
      cases q with
      | none =>
        obtain rfl : m = 0 := hnil' rfl
        exact lawD_none_none c d f g w
      | some y => exact lawD_none_some c y m d f g w hr' hg (by omega)
    | some x =>
      cases q with
      | none =>
        obtain rfl : m = 0 := hnil' rfl
        exact lawD_some_none x n c d f g w hr hf (by omega)
      | some y => exact lawD_some_some x n c y m d f g w hr hf (by omega) hr' hg (by omega)

end Go.Proofs.Qxb6605416a
