/-
  Seat b6606436a: the walk of 'FnUnescapeTokenUndoesEscape' out of the callees' contracts.
-/
import Derived.Test.Qxb6606436aUn
import Derived.Test.Qxb6606436aEsc
namespace Go.Proofs.Qxb6606436a
open Go.RowKit

theorem ret_bool {a b : Bool} (h : a = b) : Ending.returned (.bool a) = .returned (.bool b) := by rw [h]

theorem of_list (s : ByteArray) : (⟨s.data.toList.toArray⟩ : ByteArray) = s := by cases s; simp

set_option maxHeartbeats 400000 in
theorem small10 (s : ByteArray) (w : World) (h : s.size ≤ 1048576) : Calls Try.prog 10 #[.string s] w fun e w' => e = .returned (.bool true) ∧ w' = w := by
  go_enter Try.func10, Try.ntmps10
  go_wp2
  go_ret
  exact ⟨rfl, rfl⟩

set_option maxHeartbeats 400000 in
theorem great10 (s : ByteArray) (w : World) (h : 1048576 < s.size) (h' : s.size ≤ 9223372036854775807) : Calls Try.prog 10 #[.string s] w fun e w' => e = .returned (.bool false) ∧ w' = w := by
  go_enter Try.func10, Try.ntmps10
  go_wp2
  go_ret
  exact ⟨rfl, rfl⟩

set_option maxHeartbeats 1000000 in
theorem lawU (s : ByteArray) (w : World) (h' : s.size ≤ 9223372036854775807) :
    Calls Try.prog 4 #[.string s] w fun e w' => e = .returned (.bool true) ∧ Below w.heap.size w w' := by
  by_cases hbig : 1048576 < s.size
  · go_enter Try.func4, Try.ntmps4
    go_wp2_with (go_at_call 10; refine (great10 _ _ hbig h').mono ?_; rintro e w' ⟨rfl, hw⟩; subst w')
    go_ret
    exact ⟨rfl, Below.refl _ _⟩
  · have hsm : s.size ≤ 1048576 := by omega
    clear hbig
    by_cases hmid : 524288 < s.size
    · go_enter Try.func4, Try.ntmps4
      go_wp2_with (go_at_call 10; refine (small10 _ _ hsm).mono ?_; rintro e w' ⟨rfl, hw⟩; subst w')
      go_ret
      exact ⟨rfl, Below.refl _ _⟩
    · have hlow : s.size ≤ 524288 := by omega
      clear hmid
      obtain ⟨E, hE⟩ : ∃ E : ByteArray, E = ⟨(Pl.esc s.data.toList).toArray⟩ := ⟨_, rfl⟩
      have hEl : E.data.toList = Pl.esc s.data.toList := by rw [hE]
      have hEs : E.size ≤ 4294967280 := by
        have h1 := Lib.size_eq E
        have h2 := Pl.esc_length s.data.toList
        have h3 := Lib.size_eq s
        rw [hEl] at h1
        omega
      have hU : Pl.un 0 E.data.toList = (s.data.toList, -1) := by rw [hEl, Pl.un_esc]
      have HE : Hid (E = ⟨(Pl.esc s.data.toList).toArray⟩) := hE
      have HU : Hid (Pl.un 0 E.data.toList = (s.data.toList, -1)) := hU
      clear hE hEl hU
      go_enter Try.func4, Try.ntmps4
      go_wp2_with (go_at_call 10; refine (small10 _ _ hsm).mono ?_; rintro e w' ⟨rfl, hw⟩; subst w')
      refine (esc_any s w (by omega)).mono ?_
      rintro e w1 ⟨rfl, hb1⟩
      rw [← HE.out]
      have Z := zun_any E w1 hEs
      rw [HU.out, of_list] at Z
      have HZ := Z
      clear hEs HU Z
      go_wp2_with fail
      refine HZ.mono ?_
      rintro e w2 ⟨rfl, hb2⟩
      have hB : Below w.heap.size w w2 := hb1.trans (hb2.mono hb1.size)
      clear hb1 hb2 HZ
      go_wp2
      go_ret
      exact ⟨ret_bool (by simp), hB⟩

end Go.Proofs.Qxb6606436a
