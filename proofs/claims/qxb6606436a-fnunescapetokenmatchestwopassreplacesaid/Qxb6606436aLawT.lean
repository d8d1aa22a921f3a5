/-
  Seat b6606436a: the walk of 'FnUnescapeTokenMatchesTwoPassReplace' out of the callees' contracts.
-/
import Derived.Test.Qxb6606436aLawU
import Derived.Test.Qxb6606436aRep
namespace Go.Proofs.Qxb6606436a
open Go.RowKit

set_option maxHeartbeats 400000 in
theorem small6 (s : ByteArray) (w : World) (h : s.size ≤ 1048576) : Calls Try.prog 6 #[.string s] w fun e w' => e = .returned (.bool true) ∧ w' = w := by
  go_enter Try.func6, Try.ntmps6
  go_wp2
  go_ret
  exact ⟨rfl, rfl⟩

set_option maxHeartbeats 400000 in
theorem great6 (s : ByteArray) (w : World) (h : 1048576 < s.size) (h' : s.size ≤ 9223372036854775807) : Calls Try.prog 6 #[.string s] w fun e w' => e = .returned (.bool false) ∧ w' = w := by
  go_enter Try.func6, Try.ntmps6
  go_wp2
  go_ret
  exact ⟨rfl, rfl⟩

set_option maxHeartbeats 1000000 in
theorem lawT (s : ByteArray) (w : World) (h' : s.size ≤ 9223372036854775807) :
    Calls Try.prog 3 #[.string s] w fun e w' => e = .returned (.bool true) ∧ Below w.heap.size w w' := by
  by_cases hbig : 1048576 < s.size
  · go_enter Try.func3, Try.ntmps3
    go_wp2_with (go_at_call 6; refine (great6 _ _ hbig h').mono ?_; rintro e w' ⟨rfl, hw⟩; subst w')
    go_ret
    exact ⟨rfl, Below.refl _ _⟩
  · have hsm : s.size ≤ 1048576 := by omega
    clear hbig
    have hZ := zun_any s w (by omega)
    have hbd := Pl.bad_bounds s.data.toList.length s.data.toList 0 (Nat.le_refl _)
    have heq := Pl.un_bad_eq s.data.toList.length s.data.toList 0 (Nat.le_refl _)
    have htk := Pl.un_take s.data.toList.length s.data.toList 0 (Nat.le_refl _)
    have hsl := Lib.size_eq s
    rw [heq] at hZ
    obtain ⟨G, hG⟩ : ∃ G, G = (Pl.un 0 s.data.toList).1 := ⟨_, rfl⟩
    rw [← hG] at hZ
    have hB := fun w1 => bad_any s w1 (by omega)
    rcases hbd with hm | ⟨hk0, hk1⟩
    · have ht := Pl.two_pass s.data.toList.length s.data.toList 0 (Nat.le_refl _) hm
      rw [← hG] at ht
      have hT := fun w1 => twoPass_any s w1 (by omega)
      rw [ht] at hT
      rw [hm] at hZ hB
      clear heq htk hsl hG hm ht
      go_enter Try.func3, Try.ntmps3
      go_wp2_with (go_at_call 6; refine (small6 _ _ hsm).mono ?_; rintro e w' ⟨rfl, hw⟩; subst w')
      refine hZ.mono ?_
      rintro e w1 ⟨rfl, hb1⟩
      clear hZ
      go_wp2_with fail
      refine (hB w1).mono ?_
      rintro e w' ⟨rfl, hw⟩; subst w'
      clear hB
      go_wp2_with fail
      refine (hT w1).mono ?_
      rintro e w2 ⟨rfl, hb2⟩
      have hBel : Below w.heap.size w w2 := hb1.trans (hb2.mono hb1.size)
      clear hT hb1 hb2
      go_wp2
      go_ret
      exact ⟨ret_bool (by simp), hBel⟩
    · obtain ⟨k, hk⟩ : ∃ k : Nat, Pl.bad 0 s.data.toList = (k : Int) := ⟨(Pl.bad 0 s.data.toList).toNat, by omega⟩
      obtain ⟨p1, p2⟩ := htk k (by rw [hk]; simp)
      have hks : k < s.size := by omega
      have ht := Pl.two_pass (s.data.toList.take k).length (s.data.toList.take k) 0 (Nat.le_refl _) p1
      rw [p2, ← hG] at ht
      have hext : (s.extract 0 k).data.toList = s.data.toList.take k := by rw [Lib.extract_data, List.drop_zero, Nat.sub_zero]
      have hT := fun w1 => twoPass_any (s.extract 0 k) w1 (by rw [ByteArray.size_extract]; omega)
      rw [hext, ht] at hT
      rw [hk] at hZ hB
      have hksI : (k : Int) < (s.size : Int) := by omega
      clear heq htk hsl hG ht hk hk0 hk1 p1 p2 hext
      go_enter Try.func3, Try.ntmps3
      go_wp2_with (go_at_call 6; refine (small6 _ _ hsm).mono ?_; rintro e w' ⟨rfl, hw⟩; subst w')
      refine hZ.mono ?_
      rintro e w1 ⟨rfl, hb1⟩
      clear hZ
      go_wp2_with fail
      refine (hB w1).mono ?_
      rintro e w' ⟨rfl, hw⟩; subst w'
      clear hB
      go_wp2_with fail
      refine (hT w1).mono ?_
      rintro e w2 ⟨rfl, hb2⟩
      have hBel : Below w.heap.size w w2 := hb1.trans (hb2.mono hb1.size)
      clear hT hb1 hb2
      go_wp2
      go_ret
      exact ⟨ret_bool (by simp), hBel⟩

end Go.Proofs.Qxb6606436a
