/-
  Seat b6605416a: the walk of 'FnHeadEndIsShortestBlankLineEnd' out of the callees' contracts.
-/
import Derived.Test.Qxb6605416aCat
import Derived.Lib.SliceRun
namespace Go.Proofs.Qxb6605416a
open Go.RowKit

theorem byteBounds {x : Int} (h : (Lit.int .u8 x).wf = true) : 0 ≤ x ∧ x < 256 := by
  have hmin : IntKind.u8.min = 0 := rfl
  have hmax : IntKind.u8.max = 255 := rfl
  simp only [Lit.wf, Bool.and_eq_true, decide_eq_true_eq] at h
  omega

/-- What a slice of bytes that came in gives the walks. -/
theorem rd_of_row {w : World} {a : Option Addr} {len cap : Nat} {zs : List Int}
    (h : (a = none ∧ len = 0 ∧ cap = 0 ∧ zs = []) ∨ ∃ x, a = some x ∧ len ≤ cap ∧ cap ≤ maxLen ∧ zs.length = cap ∧ (∀ i, i < zs.length → w.cell? (x.add i) = some (.int .u8 (zs.getD i 0))) ∧ ∀ n ∈ zs, (Lit.int .u8 n).wf = true) :
    ∃ f, Rd w a len f ∧ (∀ i, i < len → 0 ≤ f i ∧ f i < 256) ∧ len ≤ cap ∧ (a = none → len = 0) ∧ cap ≤ maxLen := by
  rcases h with ⟨rfl, rfl, rfl, rfl⟩ | ⟨x, rfl, hl, hm, hz, hc, hw⟩
  · exact ⟨fun _ => 0, .inl rfl, fun i hi => by omega, Nat.le_refl _, fun _ => rfl, Nat.zero_le _⟩
  · refine ⟨fun i => zs.getD i 0, ?_, fun i hi => ?_, hl, fun h => by simp at h, hm⟩
    · by_cases h0 : len = 0
      · exact .inl h0
      · obtain ⟨b, off, spot⟩ := x
        have h1 := hc 0 (by omega)
        have hs : spot = none := by simpa [Addr.add] using World.cell?_spot h1
        subst hs
        have e : ∀ i, (⟨b, off, none⟩ : Addr).add i = ⟨b, off + i, none⟩ := fun i => by unfold Addr.add; split <;> simp_all
        refine .inr ⟨b, off, rfl, ?_, fun i hi => ?_⟩
        · rw [e 0] at h1
          exact block_lt_of_cell h1
        · rw [← e i]; exact hc i (by omega)
    · have hi' : i < zs.length := by omega
      have h := hw (zs[i]) (List.getElem_mem hi')
      have hg : zs.getD i 0 = zs[i] := by simp [List.getD, hi']
      simp only [hg]
      exact byteBounds h

set_option maxHeartbeats 400000 in
theorem small9 (p : Option Addr) (n c : Nat) (w : World) (h : n ≤ 1048576) : Calls Try.prog 9 #[.slice p n c] w fun e w' => e = .returned (.bool true) ∧ w' = w := by
  go_enter Try.func9, Try.ntmps9
  go_wp2
  go_ret
  exact ⟨rfl, rfl⟩

set_option maxHeartbeats 400000 in
theorem great9 (p : Option Addr) (n c : Nat) (w : World) (h : 1048576 < n) (h' : n ≤ 9223372036854775807) : Calls Try.prog 9 #[.slice p n c] w fun e w' => e = .returned (.bool false) ∧ w' = w := by
  go_enter Try.func9, Try.ntmps9
  go_wp2
  go_ret
  exact ⟨rfl, rfl⟩

theorem neqNil (w : World) (a : Option Addr) (n c n' c' : Nat) : (binOp .neq 22 (.slice a n c) (.slice none n' c')).run Try.prog w = .ok (.bool (!a.isNone)) w :=
  run_neq_slice_nil_any w _ _ a n c n' c' Try.underlying22

set_option maxHeartbeats 1000000 in
theorem lawA (p : Option Addr) (n c : Nat) (f : Nat → Int) (w : World) (hr : Rd w p n f) (hf : ∀ i, i < n → 0 ≤ f i ∧ f i < 256) (hnc : n ≤ c) (hnil : p = none → n = 0) (hc : c ≤ maxLen) :
    Calls Try.prog 3 #[.slice p n c] w fun e w' => e = .returned (.bool true) ∧ Below w.heap.size w w' := by
  unfold maxLen at hc
  have hq := neqNil
  by_cases hbig : 1048576 < n
  · go_enter Try.func3, Try.ntmps3
    go_wp2_with (go_at_call 9; refine (great9 _ _ _ _ hbig (by omega)).mono ?_; rintro e w' ⟨rfl, hw⟩; subst w')
    go_ret
    exact ⟨rfl, Below.refl _ _⟩
  · have hsm : n ≤ 1048576 := by omega
    clear hbig
    cases p with
    | none =>
      obtain rfl : n = 0 := hnil rfl
      clear hnil
      go_enter Try.func3, Try.ntmps3
      go_wp2_with (go_at_call 9; refine (small9 _ _ _ _ hsm).mono ?_; rintro e w' ⟨rfl, hw⟩; subst w')
      refine (head_any _ _ _ f _ (.inl rfl) (fun i hi => absurd hi (by omega)) (Nat.zero_le _) (by omega)).mono ?_
      rintro e w' ⟨⟨r, rfl, hR⟩, hw⟩; subst w'
      go_wp2_with fail
      refine (short_any _ _ _ f _ (.inl rfl) (Nat.zero_le _) (by omega)).mono ?_
      rintro e w' ⟨⟨s, rfl, hS⟩, hw⟩; subst w'
      obtain rfl := hR.unique hS
      clear hR hS
      go_wp2
      go_ret
      exact ⟨ret_bool (by simp), Below.refl _ _⟩
    | some x =>
      clear hnil
      obtain ⟨X1, eX1⟩ : ∃ X1, X1 = cellsOf f n := ⟨_, rfl⟩
      have HX1 : Hid (X1 = cellsOf f n) := eX1
      have hl1 : Hid (X1.length = n) := by show _ = _; rw [eX1, length_cellsOf]
      clear eX1
      go_enter Try.func3, Try.ntmps3
      go_wp2_with (first
        | (go_at_call 9; refine (small9 _ _ _ _ hsm).mono ?_; rintro e w' ⟨rfl, hw⟩; subst w')
        | (at_make; refine wp_make _ rfl (.tmp 13) (.tmp 13) rfl _ _ n rfl rfl (by omega) (by omega) (by omega) ?_; intro w1 Z hZ hZl hb1; have hs1 := hb1.size)
        | (refine wpList_copy_splice rfl (.tmp 15) (.tmp 16) 22 22 rfl 5 Try.underlying22 Try.size5 _ _ _ _ _ _ rfl rfl w.heap.size 0 Z 5 hZ.out X1 ?_ ?_ ?_ ?_ w.heap.size w hb1 (Nat.le_refl _) ?_; (rw [hl1.out]; exact (Nat.min_eq_left (by omega)).symm); (intro h; refine ⟨rfl, ?_⟩; rw [HX1.out] at h ⊢; exact (hr.below hb1).src h); (rw [hl1.out, hZl.out]; omega); (rw [HX1.out]; exact cellsOf_one f n); intro w2 hZ2 hb2))
      have hR2 : Rd w2 (some ⟨w.heap.size, 0, none⟩) n f := by
        have h := hZ2.out
        rw [HX1.out, splice_all Z f n hZl.out] at h
        exact Rd.row h (fun i hi => cellsOf_at f hi)
      clear hZ hZ2 hZl HX1 hl1 hb1 hs1 hr
      refine (head_any (some ⟨w.heap.size, 0, none⟩) n n f w2 hR2 hf (Nat.le_refl _) (by omega)).mono ?_
      rintro e w' ⟨⟨r, rfl, hR⟩, hw⟩; subst w'
      go_wp2_with fail
      refine (short_any (some ⟨w.heap.size, 0, none⟩) n n f w2 hR2 (Nat.le_refl _) (by omega)).mono ?_
      rintro e w' ⟨⟨s, rfl, hS⟩, hw⟩; subst w'
      obtain rfl := hR.unique hS
      clear hR hS
      go_wp2
      go_ret
      exact ⟨ret_bool (by simp), hb2⟩

end Go.Proofs.Qxb6605416a
