/-
  Seat b6605416a: the walk of 'http1.HeadEnd'.
-/
import Derived.Test.Qxb6605416aIdx
namespace Go.Proofs.Qxb6605416a
open Go.RowKit

theorem Rd.drop {w : World} {b o n k : Nat} {f : Nat → Int} (hb : b < w.heap.size) (hc : ∀ i, i < n → w.cell? ⟨b, o + i, none⟩ = some (.int .u8 (f i))) (hk : k ≤ n) :
    Rd w (some ⟨b, o + k, none⟩) (n - k) (fun i => f (k + i)) := by
  refine .inr ⟨b, o + k, rfl, hb, fun i hi => ?_⟩
  rw [Nat.add_assoc]; exact hc (k + i) (by omega)

set_option maxHeartbeats 1000000 in
theorem head_some (b o n c : Nat) (f : Nat → Int) (w : World) (hb : b < w.heap.size) (hc : ∀ i, i < n → w.cell? ⟨b, o + i, none⟩ = some (.int .u8 (f i))) (hf : ∀ i, i < n → 0 ≤ f i ∧ f i < 256) (hnc : n ≤ c) (hn : n ≤ 1000000000) :
    Calls Try.prog 10 #[.slice (some ⟨b, o, none⟩) n c] w fun e w' => (∃ r : Nat, e = .returned (.int .i64 r) ∧ Pl.IsHead f n r) ∧ w' = w := by
  go_enter Try.func10, Try.ntmps10
  go_wp2
  go_loop [3] (fun i => ∃ k : Nat, k ≤ n ∧ i = .int .i64 k ∧ (∀ j e, j < k → ¬ Pl.BlankAt f n j e)) (fun i => n - (intOf i).toNat)
  case atStart => exact ⟨0, Nat.zero_le _, rfl, fun j e h => absurd h (by omega)⟩
  case round =>
    obtain ⟨k, hk, rfl, hI⟩ := hrel
    go_wp2_with fail
    · refine (idx_any (some ⟨b, o, none⟩) (n - k) 0 (fun i => f (k + i)) 10 w (by omega) (.inl (by omega)) (fun i hi => hf _ (by omega))).mono ?_
      rintro e w' ⟨⟨r, rfl, hidx⟩, rfl⟩
      rcases hidx with ⟨rfl, hno⟩ | ⟨m, rfl, hm, hfm, hno⟩
      · go_wp2
        go_ret
        exact ⟨⟨0, rfl, Pl.step_none hI (fun j h1 h2 => by have := hno (j - k) (by omega); rwa [show k + (j - k) = j by omega] at this)⟩, rfl⟩
      · omega
    · refine (idx_any (some ⟨b, o + k, none⟩) (n - k) (c - k) (fun i => f (k + i)) 10 w (by omega) (Rd.drop hb hc hk) (fun i hi => hf _ (by omega))).mono ?_
      rintro e w' ⟨⟨r, rfl, hidx⟩, rfl⟩
      rcases hidx with ⟨rfl, hno⟩ | ⟨m, rfl, hm, hfm, hno⟩
      · go_wp2
        go_ret
        exact ⟨⟨0, rfl, Pl.step_none hI (fun j h1 h2 => by have := hno (j - k) (by omega); rwa [show k + (j - k) = j by omega] at this)⟩, rfl⟩
      · have hno' : ∀ j, k ≤ j → j < k + m → f j ≠ 10 := fun j h1 h2 => by
          have h := hno (j - k) (by omega)
          have e : k + (j - k) = j := by omega
          simp only [e] at h; exact h
        have HJ : Hid (f (k + m) = 10) := hfm
        have HC : Hid (∀ i, i < n → w'.cell? ⟨b, o + i, none⟩ = some (.int .u8 (f i))) := hc
        have hstep := @Pl.step_on f n k (k + m) hI hno'
        clear hfm hno hc hf
        have htwo := @Pl.step_two f n k (k + m) hI hno' HJ.out
        have hthree := @Pl.step_three f n k (k + m) hI hno' HJ.out
        have H2 : Hid (k + m + 1 < n → f (k + m + 1) = 10 → Pl.IsHead f n (k + m + 2)) := htwo
        have H3 : Hid (k + m + 2 < n → f (k + m + 1) = 13 → f (k + m + 2) = 10 → Pl.IsHead f n (k + m + 3)) := hthree
        have HS : Hid (¬ (k + m + 1 < n ∧ f (k + m + 1) = 10) → ¬ (k + m + 2 < n ∧ f (k + m + 1) = 13 ∧ f (k + m + 2) = 10) → ∀ j e, j < k + m + 1 → ¬ Pl.BlankAt f n j e) := hstep
        clear htwo hthree hstep
        by_cases h1 : k + m + 1 < n
        · have c1 := HC.out (k + (m + 1)) h1
          by_cases h2 : k + m + 2 < n
          · have c2 := HC.out (k + (m + 1) + 1) h2
            go_wp2
            · have t1 : (f (k + (m + 1)) == 10) = true := by assumption
              go_ret
              exact ⟨⟨k + m + 2, by congr 2, H2.out h1 (beq_iff_eq.1 t1)⟩, rfl⟩
            · have t1 : f (k + (m + 1)) = 13 := by assumption
              have t2 : (f (k + (m + 1) + 1) == 10) = true := by assumption
              go_ret
              exact ⟨⟨k + m + 3, by congr 2, H3.out h2 t1 (beq_iff_eq.1 t2)⟩, rfl⟩
            · have t1 : (f (k + (m + 1)) == 10) = false := by assumption
              have t2 : (f (k + (m + 1) + 1) == 10) = false := by assumption
              go_round
              case rel => exact ⟨k + (m + 1), by omega, by go_num, HS.out (fun h => by have := beq_eq_false_iff_ne.1 t1; exact this h.2) (fun h => by have := beq_eq_false_iff_ne.1 t2; exact this h.2.2)⟩
              case measure => simp [intOf]; omega
            · have t1 : (f (k + (m + 1)) == 10) = false := by assumption
              have t2 : ¬ f (k + (m + 1)) = 13 := by assumption
              go_round
              case rel => exact ⟨k + (m + 1), by omega, by go_num, HS.out (fun h => by have := beq_eq_false_iff_ne.1 t1; exact this h.2) (fun h => t2 h.2.1)⟩
              case measure => simp [intOf]; omega
          · go_wp2
            · have t1 : (f (k + (m + 1)) == 10) = true := by assumption
              go_ret
              exact ⟨⟨k + m + 2, by congr 2, H2.out h1 (beq_iff_eq.1 t1)⟩, rfl⟩
            · have t1 : (f (k + (m + 1)) == 10) = false := by assumption
              go_round
              case rel => exact ⟨k + (m + 1), by omega, by go_num, HS.out (fun h => by have := beq_eq_false_iff_ne.1 t1; exact this h.2) (by omega)⟩
              case measure => simp [intOf]; omega
        · go_wp2
          go_round
          case rel => exact ⟨k + (m + 1), by omega, by go_num, HS.out (by omega) (by omega)⟩
          case measure => simp [intOf]; omega

set_option maxHeartbeats 400000 in
theorem head_none (p : Option Addr) (c : Nat) (f : Nat → Int) (w : World) :
    Calls Try.prog 10 #[.slice p 0 c] w fun e w' => (∃ r : Nat, e = .returned (.int .i64 r) ∧ Pl.IsHead f 0 r) ∧ w' = w := by
  go_enter Try.func10, Try.ntmps10
  go_wp2
  refine wp_loop_rounds 1 ?_
  rw [rounds_succ]
  go_wp2_with fail
  all_goals
    refine (idx_any _ _ _ f _ _ (by omega) (.inl rfl) (fun i hi => absurd hi (by omega))).mono ?_
    rintro e w' ⟨⟨r, rfl, hidx⟩, rfl⟩
    rcases hidx with ⟨rfl, hno⟩ | ⟨m, rfl, hm, hfm, hno⟩
    · go_wp2
      go_ret
      exact ⟨⟨0, rfl, .inl ⟨rfl, fun j e h => by have := h.two; omega⟩⟩, rfl⟩
    · omega

theorem head_any (p : Option Addr) (n c : Nat) (f : Nat → Int) (w : World) (hr : Rd w p n f) (hf : ∀ i, i < n → 0 ≤ f i ∧ f i < 256) (hnc : n ≤ c) (hn : n ≤ 1000000000) :
    Calls Try.prog 10 #[.slice p n c] w fun e w' => (∃ r : Nat, e = .returned (.int .i64 r) ∧ Pl.IsHead f n r) ∧ w' = w := by
  rcases hr with rfl | ⟨b, o, rfl, hb, hc⟩
  · exact head_none p c f w
  · exact head_some b o n c f w hb hc hf hnc hn
end Go.Proofs.Qxb6605416a
