/-
  Seat b6605416a: the walk of 'FnIsHostIsHostAlphabetOnly' out of the callees' contracts.
-/
import Derived.Test.Qxb6605416aLawA
import Derived.Test.Qxb6605416aHost
namespace Go.Proofs.Qxb6605416a
open Go.RowKit

set_option maxHeartbeats 400000 in
theorem small22 (p : Option Addr) (n c : Nat) (w : World) (h : n ≤ 1048576) : Calls Try.prog 22 #[.slice p n c] w fun e w' => e = .returned (.bool true) ∧ w' = w := by
  go_enter Try.func22, Try.ntmps22
  go_wp2
  go_ret
  exact ⟨rfl, rfl⟩

set_option maxHeartbeats 400000 in
theorem great22 (p : Option Addr) (n c : Nat) (w : World) (h : 1048576 < n) (h' : n ≤ 9223372036854775807) : Calls Try.prog 22 #[.slice p n c] w fun e w' => e = .returned (.bool false) ∧ w' = w := by
  go_enter Try.func22, Try.ntmps22
  go_wp2
  go_ret
  exact ⟨rfl, rfl⟩

set_option maxHeartbeats 400000 in
theorem lawC_great (p : Option Addr) (n c : Nat) (w : World) (h : 1048576 < n) (h' : n ≤ 9223372036854775807) :
    Calls Try.prog 7 #[.slice p n c] w fun e w' => e = .returned (.bool true) ∧ Below w.heap.size w w' := by
  go_enter Try.func7, Try.ntmps7
  go_wp2_with (go_at_call 22; refine (great22 _ _ _ _ h (by omega)).mono ?_; rintro e w' ⟨rfl, hw⟩; subst w')
  go_ret
  exact ⟨rfl, Below.refl _ _⟩

set_option maxHeartbeats 1000000 in
theorem lawC_none (c : Nat) (f : Nat → Int) (w : World) :
    Calls Try.prog 7 #[.slice none 0 c] w fun e w' => e = .returned (.bool true) ∧ Below w.heap.size w w' := by
  have hq := neqNil
  go_enter Try.func7, Try.ntmps7
  go_wp2_with (go_at_call 22; refine (small22 _ _ _ _ (by omega)).mono ?_; rintro e w' ⟨rfl, hw⟩; subst w')
  refine wp_loop_rounds 1 ?_
  rw [rounds_succ]
  go_wp2_with fail
  refine (zhost_any none 0 c f w (.inl rfl) (fun i hi => absurd hi (by omega)) (by omega)).mono ?_
  rintro e w' ⟨rfl, hb⟩
  have e0 : Pl.hostN f 0 = false := rfl
  rw [e0]
  go_wp2
  go_ret
  exact ⟨ret_bool (by simp), hb⟩

set_option maxHeartbeats 2000000 in
theorem lawC_some (x : Addr) (n c : Nat) (f : Nat → Int) (w : World) (hr : Rd w (some x) n f) (hf : ∀ i, i < n → 0 ≤ f i ∧ f i < 256) (hn : n ≤ 1048576) (h0 : 0 < n) :
    Calls Try.prog 7 #[.slice (some x) n c] w fun e w' => e = .returned (.bool true) ∧ Below w.heap.size w w' := by
  have hq := neqNil
  have hpos : (0 : Int) < (n : Int) := by omega
  obtain ⟨X1, eX1⟩ : ∃ X1, X1 = cellsOf f n := ⟨_, rfl⟩
  have HX1 : Hid (X1 = cellsOf f n) := eX1
  have hl1 : Hid (X1.length = n) := by show _ = _; rw [eX1, length_cellsOf]
  clear eX1
  go_enter Try.func7, Try.ntmps7
  go_wp2_with (first
    | (go_at_call 22; refine (small22 _ _ _ _ hn).mono ?_; rintro e w' ⟨rfl, hw⟩; subst w')
    | (at_make; refine wp_make _ rfl (.tmp 15) (.tmp 15) rfl _ _ n rfl rfl (by omega) (by omega) (by omega) ?_; intro w1 Z hZ hZl hb1; have hs1 := hb1.size)
    | (refine wpList_copy_splice rfl (.tmp 17) (.tmp 18) 22 22 rfl 5 Try.underlying22 Try.size5 _ _ _ _ _ _ rfl rfl w.heap.size 0 Z 5 hZ.out X1 ?_ ?_ ?_ ?_ w.heap.size w hb1 (Nat.le_refl _) ?_; (rw [hl1.out]; exact (Nat.min_eq_left (by omega)).symm); (intro h; refine ⟨rfl, ?_⟩; rw [HX1.out] at h ⊢; exact (hr.below hb1).src h); (rw [hl1.out, hZl.out]; omega); (rw [HX1.out]; exact cellsOf_one f n); intro w2 hZ2 hb2))
  have hR2 : Rd w2 (some ⟨w.heap.size, 0, none⟩) n f := by
    have h := hZ2.out
    rw [HX1.out, splice_all Z f n hZl.out] at h
    exact Rd.row h (fun i hi => cellsOf_at f hi)
  have hC2 : ∀ i, i < n → w2.cell? ⟨w.heap.size, 0 + i, none⟩ = some (.int .u8 (f i)) := by
    rcases hR2 with h | ⟨b, o, e, _, hc⟩
    · omega
    · simp at e; obtain ⟨rfl, rfl⟩ := e; exact hc
  clear hZ hZ2 hZl HX1 hl1 hb1 hs1 hr
  go_loop [4, 5] (fun t i => ∃ k : Nat, k ≤ n ∧ i = .int .i64 k ∧ t = .bool true ∧ Hid (∀ j, j < k → Pl.hostB (f j) = true)) (fun _ i => n - (intOf i).toNat)
  case atStart => exact ⟨0, Nat.zero_le _, rfl, rfl, fun j h => absurd h (by omega)⟩
  case round =>
    obtain ⟨k, hk, rfl, rfl, hI⟩ := hrel
    by_cases hlt : k < n
    · have hcell := hC2 k hlt
      rw [Nat.zero_add] at hcell
      have hfk := hf k hlt
      have HC : Hid (∀ i, i < n → w2.cell? ⟨w.heap.size, 0 + i, none⟩ = some (.int .u8 (f i))) := hC2
      clear hC2
      go_wp2_with fail
      refine (alpha_any (f k) w2 hfk.1 hfk.2).mono ?_
      rintro e w' ⟨rfl, hw⟩; subst w'
      cases hh : Pl.hostB (f k) with
      | true =>
        have HH : Hid (Pl.hostB (f k) = true) := hh
        clear hh
        have HN : Hid (∀ j, j < k + 1 → Pl.hostB (f j) = true) := by
          intro j hj
          by_cases e : j = k
          · rw [e]; exact HH.out
          · exact hI.out j (by omega)
        go_wp2
        go_round
        case rel => exact ⟨k + 1, by omega, by go_num, rfl, HN⟩
        case measure => simp [intOf]; omega
      | false =>
        have HF : Hid (Pl.hostN f n = false) := by
          show _ = _
          unfold Pl.hostN; rw [Pl.allB_not hlt hh, Bool.and_false]
        clear hh
        go_wp2_with fail
        refine (zhost_any (some ⟨w.heap.size, 0, none⟩) n n f w2 hR2 hf (by omega)).mono ?_
        rintro e w3 ⟨rfl, hb3⟩
        rw [HF.out]
        have hB : Below w.heap.size w w3 := hb2.trans (hb3.mono hb2.size)
        clear hb3
        go_wp2
        go_ret
        exact ⟨ret_bool (by simp), hB⟩
    · have HF : Hid (Pl.hostN f n = true) := by
        show _ = _
        unfold Pl.hostN; rw [Pl.allB_of (fun i hi => hI.out i (by omega)), decide_eq_true h0]; rfl
      clear hC2
      go_wp2_with fail
      refine (zhost_any (some ⟨w.heap.size, 0, none⟩) n n f w2 hR2 hf (by omega)).mono ?_
      rintro e w3 ⟨rfl, hb3⟩
      rw [HF.out]
      have hB : Below w.heap.size w w3 := hb2.trans (hb3.mono hb2.size)
      clear hb3
      go_wp2
      go_ret
      exact ⟨ret_bool (by simp), hB⟩

set_option maxHeartbeats 1000000 in
theorem lawC_zero (x : Addr) (c : Nat) (f : Nat → Int) (w : World) :
    Calls Try.prog 7 #[.slice (some x) 0 c] w fun e w' => e = .returned (.bool true) ∧ Below w.heap.size w w' := by
  have hq := neqNil
  go_enter Try.func7, Try.ntmps7
  go_wp2_with (first
    | (go_at_call 22; refine (small22 _ _ _ _ (by omega)).mono ?_; rintro e w' ⟨rfl, hw⟩; subst w')
    | (at_make; refine wp_make _ rfl (.tmp 15) (.tmp 15) rfl _ _ 0 rfl rfl (by omega) (by omega) (by omega) ?_; intro w1 Z hZ hZl hb1; have hs1 := hb1.size)
    | (refine wpList_copy_nothing rfl (.tmp 17) (.tmp 18) 22 22 rfl 5 Try.underlying22 Try.size5 _ _ _ _ _ _ rfl rfl (by simp) ?_))
  refine wp_loop_rounds 1 ?_
  rw [rounds_succ]
  go_wp2_with fail
  refine (zhost_any (some ⟨w.heap.size, 0, none⟩) 0 0 f w1 (.inl rfl) (fun i hi => absurd hi (by omega)) (by omega)).mono ?_
  rintro e w3 ⟨rfl, hb3⟩
  have e0 : Pl.hostN f 0 = false := rfl
  rw [e0]
  have hB : Below w.heap.size w w3 := hb1.trans (hb3.mono hs1)
  clear hb3
  go_wp2
  go_ret
  exact ⟨ret_bool (by simp), hB⟩

theorem lawC (p : Option Addr) (n c : Nat) (f : Nat → Int) (w : World) (hr : Rd w p n f) (hf : ∀ i, i < n → 0 ≤ f i ∧ f i < 256) (hnil : p = none → n = 0) (hc : n ≤ 9223372036854775807) :
    Calls Try.prog 7 #[.slice p n c] w fun e w' => e = .returned (.bool true) ∧ Below w.heap.size w w' := by
  by_cases h : 1048576 < n
  · exact lawC_great p n c w h hc
  · cases p with
    | none =>
      obtain rfl : n = 0 := hnil rfl
      exact lawC_none c f w
    | some x =>
      by_cases h0 : n = 0
      · subst h0; exact lawC_zero x c f w
      · exact lawC_some x n c f w hr hf (by omega) (by omega)

end Go.Proofs.Qxb6605416a
