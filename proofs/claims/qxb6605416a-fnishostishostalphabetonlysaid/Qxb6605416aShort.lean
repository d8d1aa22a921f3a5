/-
  Seat b6605416a: the walks of 'endsInBlankLine' and 'shortestHeadPrefix'.
-/
import Derived.Test.Qxb6605416aHead
namespace Go.Proofs.Qxb6605416a
open Go.RowKit

theorem ret_bool {a b : Bool} (h : a = b) : Ending.returned (.bool a) = .returned (.bool b) := by rw [h]

set_option maxHeartbeats 1000000 in
theorem ends_any (b o k c : Nat) (f : Nat → Int) (w : World) (hc : ∀ i, i < k → w.cell? ⟨b, o + i, none⟩ = some (.int .u8 (f i))) (hk : 2 ≤ k) (hn : k ≤ 1000000000) :
    Calls Try.prog 27 #[.slice (some ⟨b, o, none⟩) k c] w fun e w' => e = .returned (.bool (Pl.Ends f k)) ∧ w' = w := by
  have c1 := hc (k - 1) (by omega)
  have c2 := hc (k - 2) (by omega)
  have HC : Hid (∀ i, i < k → w.cell? ⟨b, o + i, none⟩ = some (.int .u8 (f i))) := hc
  clear hc
  by_cases h3 : 3 ≤ k
  · have c3 := HC.out (k - 3) (by omega)
    go_enter Try.func27, Try.ntmps27
    go_wp2
    all_goals
      clear c1 c2 c3 HC
      go_ret
      refine ⟨ret_bool ?_, rfl⟩
      unfold Pl.Ends
      simp [*]
  · go_enter Try.func27, Try.ntmps27
    go_wp2
    all_goals
      clear c1 c2 HC
      go_ret
      refine ⟨ret_bool ?_, rfl⟩
      unfold Pl.Ends
      simp [*]

set_option maxHeartbeats 1000000 in
theorem short_some (b o n c : Nat) (f : Nat → Int) (w : World) (hc : ∀ i, i < n → w.cell? ⟨b, o + i, none⟩ = some (.int .u8 (f i))) (hnc : n ≤ c) (hn : n ≤ 1000000000) :
    Calls Try.prog 11 #[.slice (some ⟨b, o, none⟩) n c] w fun e w' => (∃ r : Nat, e = .returned (.int .i64 r) ∧ Pl.IsHead f n r) ∧ w' = w := by
  go_enter Try.func11, Try.ntmps11
  go_wp2
  go_loop [3] (fun i => ∃ k : Nat, 2 ≤ k ∧ (k ≤ n + 1 ∨ k = 2) ∧ i = .int .i64 k ∧ (∀ j, j < k → Pl.Ends f j = false)) (fun i => n + 2 - (intOf i).toNat)
  case atStart => exact ⟨2, Nat.le_refl _, .inr rfl, rfl, fun j h => Pl.ends_small f j h⟩
  case round =>
    obtain ⟨k, hk, hk2, rfl, hI⟩ := hrel
    have HI : Hid (∀ j, j < k → Pl.Ends f j = false) := hI
    clear hI
    by_cases hlt : k ≤ n
    · cases he : Pl.Ends f k with
      | true =>
        have hfin := Pl.shortest_hit hlt HI.out he
        have HE : Hid (Pl.Ends f k = true) := he
        clear he
        go_wp2_with fail
        refine (ends_any b o k c f w (fun i hi => hc i (by omega)) hk (by omega)).mono ?_
        rintro e w' ⟨rfl, rfl⟩
        rw [HE.out]
        go_wp2
        go_ret
        exact ⟨⟨k, rfl, hfin⟩, rfl⟩
      | false =>
        have HE : Hid (Pl.Ends f k = false) := he
        have HN : Hid (∀ j, j < k + 1 → Pl.Ends f j = false) := by
          intro j hj
          by_cases e : j = k
          · rw [e]; exact he
          · exact HI.out j (by omega)
        clear he
        go_wp2_with fail
        refine (ends_any b o k c f w (fun i hi => hc i (by omega)) hk (by omega)).mono ?_
        rintro e w' ⟨rfl, rfl⟩
        rw [HE.out]
        go_wp2
        go_round
        case rel => exact ⟨k + 1, by omega, .inl (by omega), by go_num, HN.out⟩
        case measure => simp [intOf]; omega
    · have hfin : Pl.IsHead f n 0 := Pl.shortest_none (fun i hi => HI.out i (by omega))
      go_wp2
      go_ret
      exact ⟨⟨0, rfl, hfin⟩, rfl⟩

set_option maxHeartbeats 400000 in
theorem short_none (p : Option Addr) (c : Nat) (f : Nat → Int) (w : World) :
    Calls Try.prog 11 #[.slice p 0 c] w fun e w' => (∃ r : Nat, e = .returned (.int .i64 r) ∧ Pl.IsHead f 0 r) ∧ w' = w := by
  go_enter Try.func11, Try.ntmps11
  go_wp2
  refine wp_loop_rounds 1 ?_
  rw [rounds_succ]
  go_wp2
  go_ret
  exact ⟨⟨0, rfl, .inl ⟨rfl, fun j e h => by have := h.two; omega⟩⟩, rfl⟩

theorem short_any (p : Option Addr) (n c : Nat) (f : Nat → Int) (w : World) (hr : Rd w p n f) (hnc : n ≤ c) (hn : n ≤ 1000000000) :
    Calls Try.prog 11 #[.slice p n c] w fun e w' => (∃ r : Nat, e = .returned (.int .i64 r) ∧ Pl.IsHead f n r) ∧ w' = w := by
  rcases hr with rfl | ⟨b, o, rfl, hb, hc⟩
  · exact short_none p c f w
  · exact short_some b o n c f w hc hnc hn

end Go.Proofs.Qxb6605416a
