/-
  Seat b6605416a: the walk of 'FnHeadEndStableAsBytesArrive' out of the callees' contracts.
-/
import Derived.Test.Qxb6605416aLawA
namespace Go.Proofs.Qxb6605416a
open Go.RowKit

set_option maxHeartbeats 400000 in
theorem small12 (p q : Option Addr) (n c m d : Nat) (w : World) (h : n ≤ 524288) (k : m ≤ 524288) : Calls Try.prog 12 #[.slice p n c, .slice q m d] w fun e w' => e = .returned (.bool true) ∧ w' = w := by
  go_enter Try.func12, Try.ntmps12
  go_wp2
  go_ret
  exact ⟨rfl, rfl⟩

set_option maxHeartbeats 400000 in
theorem some12 (p q : Option Addr) (n c m d : Nat) (w : World) (h : n ≤ 9223372036854775807) (k : m ≤ 9223372036854775807) : Calls Try.prog 12 #[.slice p n c, .slice q m d] w fun e w' => (e = .returned (.bool true) ∨ e = .returned (.bool false)) ∧ w' = w := by
  by_cases h1 : n ≤ 1048576
  · by_cases h2 : m ≤ 1048576
    · by_cases h3 : n + m ≤ 1048576
      · go_enter Try.func12, Try.ntmps12
        go_wp2
        go_ret
        exact ⟨.inl rfl, rfl⟩
      · go_enter Try.func12, Try.ntmps12
        go_wp2
        go_ret
        exact ⟨.inr rfl, rfl⟩
    · go_enter Try.func12, Try.ntmps12
      go_wp2
      go_ret
      exact ⟨.inr rfl, rfl⟩
  · go_enter Try.func12, Try.ntmps12
    go_wp2
    go_ret
    exact ⟨.inr rfl, rfl⟩

theorem rd_two (w : World) : Rd (w.alloc (.cells #[.int .u8 10, .int .u8 10] 5)) (some ⟨w.heap.size, 0, none⟩) 2 (fun _ => 10) := by
  refine .inr ⟨w.heap.size, 0, rfl, by simp, fun i hi => ?_⟩
  match i, hi with
  | 0, _ => simp
  | 1, _ => simp

theorem Rd.take {w : World} {p : Option Addr} {n k : Nat} {f : Nat → Int} (h : Rd w p n f) (hk : k ≤ n) : Rd w p k f := by
  rcases h with h | ⟨b, o, hp, hb, hc⟩
  · exact .inl (by omega)
  · exact .inr ⟨b, o, hp, hb, fun i hi => hc i (by omega)⟩

/-- One of the two slices is longer than 2^19: the law says true at once. -/
theorem lawB_great (p q : Option Addr) (n c m d : Nat) (w : World) (hc : n ≤ 9223372036854775807) (hd : m ≤ 9223372036854775807) (h : 524288 < n ∨ 524288 < m) :
    Calls Try.prog 4 #[.slice p n c, .slice q m d] w fun e w' => e = .returned (.bool true) ∧ Below w.heap.size w w' := by
  by_cases hn : 524288 < n
  · go_enter Try.func4, Try.ntmps4
    go_wp2_with fail
    refine (some12 p q n c m d w hc hd).mono ?_
    rintro e w' ⟨rfl | rfl, hw⟩ <;> subst w'
    · go_wp2
      go_ret
      exact ⟨rfl, Below.refl _ _⟩
    · go_wp2
      go_ret
      exact ⟨rfl, Below.refl _ _⟩
  · have hn' : n ≤ 524288 := by omega
    have hm : 524288 < m := by omega
    clear h hn
    go_enter Try.func4, Try.ntmps4
    go_wp2_with fail
    refine (some12 p q n c m d w hc hd).mono ?_
    rintro e w' ⟨rfl | rfl, hw⟩ <;> subst w'
    · go_wp2
      go_ret
      exact ⟨rfl, Below.refl _ _⟩
    · go_wp2
      go_ret
      exact ⟨rfl, Below.refl _ _⟩

set_option maxHeartbeats 2000000 in
theorem lawB_some (x : Addr) (q : Option Addr) (n c m d : Nat) (f g : Nat → Int) (w : World) (hr : Rd w (some x) n f) (hf : ∀ i, i < n → 0 ≤ f i ∧ f i < 256) (hr' : Rd w q m g) (hg : ∀ i, i < m → 0 ≤ g i ∧ g i < 256)
    (hn : n ≤ 524288) (hm : m ≤ 524288) :
    Calls Try.prog 4 #[.slice (some x) n c, .slice q m d] w fun e w' => e = .returned (.bool true) ∧ Below w.heap.size w w' := by
  have hq := neqNil
  obtain ⟨X1, eX1⟩ : ∃ X1, X1 = cellsOf f n := ⟨_, rfl⟩
  have HX1 : Hid (X1 = cellsOf f n) := eX1
  have hl1 : Hid (X1.length = n) := by show _ = _; rw [eX1, length_cellsOf]
  clear eX1
  go_enter Try.func4, Try.ntmps4
  go_wp2_with (first
    | (go_at_call 12; refine (small12 _ _ _ _ _ _ _ hn hm).mono ?_; rintro e w' ⟨rfl, hw⟩; subst w')
    | (at_make; refine wp_make _ rfl (.tmp 22) (.tmp 22) rfl _ _ n rfl rfl (by omega) (by omega) (by omega) ?_; intro w1 Z hZ hZl hb1; have hs1 := hb1.size)
    | (refine wpList_copy_splice rfl (.tmp 24) (.tmp 25) 22 22 rfl 5 Try.underlying22 Try.size5 _ _ _ _ _ _ rfl rfl w.heap.size 0 Z 5 hZ.out X1 ?_ ?_ ?_ ?_ w.heap.size w hb1 (Nat.le_refl _) ?_; (rw [hl1.out]; exact (Nat.min_eq_left (by omega)).symm); (intro h; refine ⟨rfl, ?_⟩; rw [HX1.out] at h ⊢; exact (hr.below hb1).src h); (rw [hl1.out, hZl.out]; omega); (rw [HX1.out]; exact cellsOf_one f n); intro w2 hZ2 hb2))
  have hR2 : Rd w2 (some ⟨w.heap.size, 0, none⟩) n f := by
    have h := hZ2.out
    rw [HX1.out, splice_all Z f n hZl.out] at h
    exact Rd.row h (fun i hi => cellsOf_at f hi)
  have hQ2 : Rd w2 q m g := hr'.below hb2
  clear hZ hZ2 hZl HX1 hl1 hb1 hs1 hr hr'
  refine (head_any (some ⟨w.heap.size, 0, none⟩) n n f w2 (hR2) (hf) (Nat.le_refl _) (by omega)).mono ?_
  rintro e w' ⟨⟨r, rfl, hE⟩, hw⟩; subst w'
  have HE : Hid (Pl.IsHead f n r) := hE
  clear hE
  go_wp2_with fail
  have ha : Below w2.heap.size w2 (w2.alloc (.cells #[.int .u8 10, .int .u8 10] 5)) := (Below.refl _ _).alloc (Nat.le_refl _) _
  refine (cat_any (some ⟨w.heap.size, 0, none⟩) (some ⟨w2.heap.size, 0, none⟩) n n 2 2 f (fun _ => 10) (w2.alloc (.cells #[.int .u8 10, .int .u8 10] 5)) (Rd.below (hR2) ha) (rd_two w2) (by omega) (by omega)).mono ?_
  rintro e w3 ⟨rfl, hR3, hb3⟩
  have hb3' : Below w2.heap.size w2 w3 := ha.trans (hb3.mono (by simp))
  rw [World.size_alloc] at hR3
  clear hb3 ha
  go_wp2_with fail
  refine (head_any (some ⟨w2.heap.size + 1, 0, none⟩) (n + 2) (n + 2) (fun i => if i < n then f i else 10) w3 hR3 ?_ (Nat.le_refl _) (by omega)).mono ?_
  · intro i hi
    by_cases hin : i < n
    · simp only [hin, if_true]; first | exact hf i hin | omega
    · simp only [hin, if_false]; omega
  rintro e w' ⟨⟨s, rfl, hF⟩, hw⟩; subst w'
  have HF1 : Hid (Pl.IsHead (fun i => if i < n then f i else 10) (n + 2) s) := hF
  clear hF hR3
  have hR4 : Rd w3 (some ⟨w.heap.size, 0, none⟩) n f := Rd.below (hR2) hb3'
  have hQ4 : Rd w3 q m g := hQ2.below hb3'
  go_wp2_with fail
  refine (cat_any (some ⟨w.heap.size, 0, none⟩) q n n m d f g w3 hR4 hQ4 (by omega) (by omega)).mono ?_
  rintro e w4 ⟨rfl, hR5, hb4⟩
  have hb4' : Below w2.heap.size w2 w4 := hb3'.trans (hb4.mono hb3'.size)
  have hR6 : Rd w4 (some ⟨w.heap.size, 0, none⟩) n f := hR4.below hb4
  clear hb4 hb3' hR4 hQ4 hQ2
  go_wp2_with fail
  refine (head_any (some ⟨w3.heap.size, 0, none⟩) (n + m) (n + m) (fun i => if i < n then f i else g (i - n)) w4 hR5 ?_ (Nat.le_refl _) (by omega)).mono ?_
  · intro i hi
    by_cases hin : i < n
    · simp only [hin, if_true]; first | exact hf i hin | omega
    · simp only [hin, if_false]; exact hg _ (by omega)
  rintro e w' ⟨⟨t, rfl, hG⟩, hw⟩; subst w'
  have HG1 : Hid (Pl.IsHead (fun i => if i < n then f i else g (i - n)) (n + m) t) := hG
  clear hG hR5
  have hBel : Below w.heap.size w w4 := hb2.trans (hb4'.mono hb2.size)
  by_cases h0 : r = 0
  · subst h0
    have k1 := HE.out.closed HF1.out (fun i hi => if_pos hi) (if_neg (by omega)) (if_neg (by omega))
    have k2 := HE.out.later HG1.out (fun i hi => if_pos hi)
    clear HE HF1 HG1 hR6 hf hg
    obtain ⟨k3, k4⟩ := k1
    by_cases ht : t = 0
    · subst ht
      clear k2
      go_wp2
      go_ret
      exact ⟨rfl, hBel⟩
    · have k5 : n < t := by omega
      have k6 : ((t : Int) == 0) = false := by simpa using ht
      clear k2 ht
      go_wp2
      go_ret
      exact ⟨rfl, hBel⟩
  · have k1 := HE.out.bounds h0
    obtain ⟨k2, k3⟩ := k1
    obtain rfl : s = r := HE.out.more h0 HF1.out (by omega) (fun i hi => if_pos hi)
    obtain rfl : t = s := HE.out.more h0 HG1.out (by omega) (fun i hi => if_pos hi)
    clear HF1 HG1 hg
    have k4 : ((t : Int) == 0) = false := by simpa using h0
    go_wp2_with fail
    refine (head_any (some ⟨w.heap.size, 0, none⟩) t n f w4 (hR6.take (by omega)) (fun i hi => hf i (by omega)) (by omega) (by omega)).mono ?_
    rintro e w' ⟨⟨u, rfl, hU⟩, hw⟩; subst w'
    obtain rfl : u = t := HE.out.more h0 hU (Nat.le_refl _) (fun _ _ => rfl)
    clear hU
    go_wp2_with fail
    refine (head_any (some ⟨w.heap.size, 0, none⟩) (u - 1) n f w4 (hR6.take (by omega)) (fun i hi => hf i (by omega)) (by omega) (by omega)).mono ?_
    rintro e w' ⟨⟨v, rfl, hV⟩, hw⟩; subst w'
    obtain rfl : v = 0 := HE.out.less h0 hV (by omega)
    clear hV
    go_wp2
    go_ret
    exact ⟨rfl, hBel⟩

set_option maxHeartbeats 2000000 in
theorem lawB_none (q : Option Addr) (c m d : Nat) (f g : Nat → Int) (w : World) (hr' : Rd w q m g) (hg : ∀ i, i < m → 0 ≤ g i ∧ g i < 256) (hm : m ≤ 524288) :
    Calls Try.prog 4 #[.slice none 0 c, .slice q m d] w fun e w' => e = .returned (.bool true) ∧ Below w.heap.size w w' := by
  have hq := neqNil
  go_enter Try.func4, Try.ntmps4
  go_wp2_with (go_at_call 12; refine (small12 _ _ _ _ _ _ _ (by omega) hm).mono ?_; rintro e w' ⟨rfl, hw⟩; subst w')
  have hQ2 := hr'
  clear hr'
  refine (head_any (none) 0 c f w (.inl rfl) (fun i hi => absurd hi (by omega)) (Nat.zero_le _) (by omega)).mono ?_
  rintro e w' ⟨⟨r, rfl, hE⟩, hw⟩; subst w'
  have HE : Hid (Pl.IsHead f 0 r) := hE
  clear hE
  go_wp2_with fail
  have ha : Below w.heap.size w (w.alloc (.cells #[.int .u8 10, .int .u8 10] 5)) := (Below.refl _ _).alloc (Nat.le_refl _) _
  refine (cat_any (none) (some ⟨w.heap.size, 0, none⟩) 0 c 2 2 f (fun _ => 10) (w.alloc (.cells #[.int .u8 10, .int .u8 10] 5)) (Rd.below (.inl rfl) ha) (rd_two w) (by omega) (by omega)).mono ?_
  rintro e w3 ⟨rfl, hR3, hb3⟩
  have hb3' : Below w.heap.size w w3 := ha.trans (hb3.mono (by simp))
  rw [World.size_alloc, Nat.zero_add] at hR3
  clear hb3 ha
  go_wp2_with fail
  refine (head_any (some ⟨w.heap.size + 1, 0, none⟩) 2 2 (fun i => if i < 0 then f i else 10) w3 hR3 ?_ (Nat.le_refl _) (by omega)).mono ?_
  · intro i hi
    by_cases hin : i < 0
    · simp only [hin, if_true]; first | exact absurd hin (by omega) | omega
    · simp only [hin, if_false]; omega
  rintro e w' ⟨⟨s, rfl, hF⟩, hw⟩; subst w'
  have HF1 : Hid (Pl.IsHead (fun i => if i < 0 then f i else 10) 2 s) := hF
  clear hF hR3
  have hR4 : Rd w3 (none) 0 f := Rd.below (.inl rfl) hb3'
  have hQ4 : Rd w3 q m g := hQ2.below hb3'
  go_wp2_with fail
  refine (cat_any (none) q 0 c m d f g w3 hR4 hQ4 (by omega) (by omega)).mono ?_
  rintro e w4 ⟨rfl, hR5, hb4⟩
  rw [Nat.zero_add] at hR5
  have hb4' : Below w.heap.size w w4 := hb3'.trans (hb4.mono hb3'.size)
  have hR6 : Rd w4 (none) 0 f := hR4.below hb4
  clear hb4 hb3' hR4 hQ4 hQ2
  go_wp2_with fail
  refine (head_any (some ⟨w3.heap.size, 0, none⟩) m m (fun i => if i < 0 then f i else g (i - 0)) w4 hR5 ?_ (Nat.le_refl _) (by omega)).mono ?_
  · intro i hi
    by_cases hin : i < 0
    · simp only [hin, if_true]; first | exact absurd hin (by omega) | omega
    · simp only [hin, if_false]; exact hg _ (by omega)
  rintro e w' ⟨⟨t, rfl, hG⟩, hw⟩; subst w'
  have HG1 : Hid (Pl.IsHead (fun i => if i < 0 then f i else g (i - 0)) m t) := hG
  clear hG hR5
  have hBel : Below w.heap.size w w4 := hb4'
  by_cases h0 : r = 0
  · subst h0
    have k1 := HE.out.closed HF1.out (fun i hi => if_pos hi) (if_neg (by omega)) (if_neg (by omega))
    have k2 := HE.out.later HG1.out (fun i hi => if_pos hi)
    clear HE HF1 HG1 hR6 hg
    obtain ⟨k3, k4⟩ := k1
    by_cases ht : t = 0
    · subst ht
      clear k2
      go_wp2
      go_ret
      exact ⟨rfl, hBel⟩
    · have k5 : 0 < t := by omega
      have k6 : ((t : Int) == 0) = false := by simpa using ht
      clear k2 ht
      go_wp2
      go_ret
      exact ⟨rfl, hBel⟩
  · have k1 := HE.out.bounds h0
    obtain ⟨k2, k3⟩ := k1
    omega

theorem lawB (p q : Option Addr) (n c m d : Nat) (f g : Nat → Int) (w : World) (hr : Rd w p n f) (hf : ∀ i, i < n → 0 ≤ f i ∧ f i < 256) (hr' : Rd w q m g) (hg : ∀ i, i < m → 0 ≤ g i ∧ g i < 256)
    (hnil : p = none → n = 0) (hc : n ≤ 9223372036854775807) (hd : m ≤ 9223372036854775807) :
    Calls Try.prog 4 #[.slice p n c, .slice q m d] w fun e w' => e = .returned (.bool true) ∧ Below w.heap.size w w' := by
  by_cases h : 524288 < n ∨ 524288 < m
  · exact lawB_great p q n c m d w hc hd h
  · cases p with
    | none =>
      obtain rfl : n = 0 := hnil rfl
      exact lawB_none q c m d f g w hr' hg (by omega)
    | some x => exact lawB_some x q n c m d f g w hr hf hr' hg (by omega) (by omega)

end Go.Proofs.Qxb6605416a
