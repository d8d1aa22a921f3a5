/-
  Seat b6605821a: strings.IndexRune over the text "-~" at a rune from 128 on.
-/
import Derived.Test.Qxb6605821aRows
import Derived.Test.Qxb6605821aPlain
import Derived.Test.Qxb6605821aShelf
import Derived.WalkKit
import Derived.WalkSpells
import Derived.WalkLawsBesides
import Derived.Lib.OthersKept
import Derived.Deep.QuietTactic
import Derived.BigQuiet
namespace Go.Proofs.Qxb6605821a
open Go.RowKit

set_option maxHeartbeats 1000000 in
set_option maxRecDepth 100000 in
theorem rune_err (w : World) :
    Calls Try.prog 22 #[.string ⟨#[45, 126]⟩, .int .i32 65533] w fun e w' => e = .returned (.int .i64 (-1)) ∧ Below w.heap.size w w' := by
  have n0 := fun ty => run_next_ascii (P := Try.prog) w ⟨#[45, 126]⟩ 0 ty (by decide) (by decide)
  have n1 := fun ty => run_next_ascii (P := Try.prog) w ⟨#[45, 126]⟩ 1 ty (by decide) (by decide)
  have n2 := fun ty => run_next_end (P := Try.prog) w ⟨#[45, 126]⟩ 2 ty (by decide)
  go_enter Try.func22, Try.ntmps22
  go_wp2_with fail
  refine wp_loop_rounds 3 ?_
  rw [rounds_succ]
  go_wp2
  rw [rounds_succ]
  go_wp2
  rw [rounds_succ]
  go_wp2
  go_ret
  exact ⟨rfl, (Below.refl _ _).alloc (Nat.le_refl _) _⟩

set_option maxHeartbeats 400000 in
theorem valid_any (r : Int) (w : World) (hv : Utf8.valid r = true) : Calls Try.prog 28 #[.int .i32 r] w fun e w' => e = .returned (.bool true) ∧ w' = w := by
  simp only [Utf8.valid, Bool.or_eq_true, Bool.and_eq_true, decide_eq_true_eq] at hv
  rcases hv with ⟨h1, h2⟩ | ⟨h1, h2⟩
  · go_enter Try.func28, Try.ntmps28
    go_wp2
    go_ret
    exact ⟨rfl, rfl⟩
  · go_enter Try.func28, Try.ntmps28
    go_wp2
    go_ret
    exact ⟨rfl, rfl⟩

theorem encode_three {r : Int} (h : 2048 ≤ r) (hv : Utf8.valid r = true) : 3 ≤ (Utf8.encode r).size ∧ (Utf8.encode r).size ≤ 4 := by
  unfold Utf8.encode
  rw [if_pos hv]
  have h1 : ¬ r.toNat < 128 := by omega
  have h2 : ¬ r.toNat < 2048 := by omega
  simp only [h1, h2, if_false]
  split
  · show 3 ≤ 3 ∧ 3 ≤ 4; decide
  · show 3 ≤ 4 ∧ 4 ≤ 4; decide

theorem encode_two {r : Int} (h0 : 128 ≤ r) (h : r < 2048) (hv : Utf8.valid r = true) : ∃ a b : UInt8, Utf8.encode r = ⟨#[a, b]⟩ ∧ 128 ≤ b.toNat := by
  unfold Utf8.encode
  rw [if_pos hv]
  have h1 : ¬ r.toNat < 128 := by omega
  have h2 : r.toNat < 2048 := by omega
  simp only [h1, h2, if_false, if_true]
  refine ⟨_, _, rfl, ?_⟩
  simp
  omega

set_option maxHeartbeats 1000000 in
set_option maxRecDepth 100000 in
theorem rune_long (r : Int) (w : World) (h : 2048 ≤ r) (hv : Utf8.valid r = true) (hne : (r == 65533) = false) :
    Calls Try.prog 22 #[.string ⟨#[45, 126]⟩, .int .i32 r] w fun e w' => e = .returned (.int .i64 (-1)) ∧ Below w.heap.size w w' := by
  have HV : Hid (Utf8.valid r = true) := hv
  obtain ⟨z1, z2⟩ := encode_three h hv
  clear hv
  go_enter Try.func22, Try.ntmps22
  go_wp2_with fail
  refine (valid_any r w HV.out).mono ?_
  rintro e w' ⟨rfl, hw⟩; subst w'
  go_wp2
  go_step3
  go_wp2
  refine wp_loop_rounds 1 ?_
  rw [rounds_succ]
  go_wp2
  rw [Exit.noGoto_ret]
  go_ret
  exact ⟨rfl, Below.refl _ _⟩

set_option maxHeartbeats 1000000 in
set_option maxRecDepth 100000 in
theorem rune_two (r : Int) (w : World) (h0 : 128 ≤ r) (h : r < 2048) (hv : Utf8.valid r = true) :
    Calls Try.prog 22 #[.string ⟨#[45, 126]⟩, .int .i32 r] w fun e w' => e = .returned (.int .i64 (-1)) ∧ Below w.heap.size w w' := by
  have HV : Hid (Utf8.valid r = true) := hv
  obtain ⟨a, b, he, hb⟩ := encode_two h0 h hv
  have hb' : ((((⟨#[45, 126]⟩ : ByteArray)[1]'(by decide)).toNat : Int) != (((⟨#[a, b]⟩ : ByteArray)[1]'(Nat.lt_succ_self 1)).toNat : Int)) = true := by
    show ((126 : Int) != (b.toNat : Int)) = true
    rw [bne_iff_ne]; omega
  have hwr : IntKind.i64.wrap 2 = 2 := by rw [IntKind.wrap_i64]; omega
  clear hv
  go_enter Try.func22, Try.ntmps22
  go_wp2_with fail
  refine (valid_any r w HV.out).mono ?_
  rintro e w' ⟨rfl, hw⟩; subst w'
  go_wp2
  go_step3
  go_wp2
  refine wp_loop_rounds 1 ?_
  rw [rounds_succ]
  go_wp2
  go_step3
  go_wp2
  go_quiet (fail)
  obtain ⟨w1, hw1⟩ : ∃ w1, w1 = w.drewN nq := ⟨_, rfl⟩
  have hB1 : Below w.heap.size w w1 := by rw [hw1]; exact below_drewN (Below.refl _ _) nq
  rw [← hw1]
  clear hw1
  go_wp2
  go_quiet ((go_at_call 27; exact Calls.quiet_of_same (Try.strings_IndexByte _ _ _)))
  go_wp2
  rw [Exit.noGoto_ret]
  go_wp2
  rw [Exit.noGoto_ret]
  go_wp2
  go_ret
  exact ⟨rfl, below_drewN hB1 _⟩

/-- A rune from 128 on lies nowhere in "-~". -/
theorem rune_any (r : Int) (w : World) (h : 128 ≤ r) (hv : Utf8.valid r = true) :
    Calls Try.prog 22 #[.string ⟨#[45, 126]⟩, .int .i32 r] w fun e w' => e = .returned (.int .i64 (-1)) ∧ Below w.heap.size w w' := by
  by_cases h1 : r < 2048
  · exact rune_two r w h h1 hv
  · by_cases h2 : r = 65533
    · subst h2; exact rune_err w
    · exact rune_long r w (by omega) hv (by simpa using h2)

end Go.Proofs.Qxb6605821a
