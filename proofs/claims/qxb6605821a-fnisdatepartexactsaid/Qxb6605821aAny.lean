/-
  Seat b6605821a: strings.IndexAny and strings.ContainsAny with the text "-~", at every string shorter than the model's bound.
-/
import Derived.Test.Qxb6605821aRune
import Derived.Deep.LoopGhost
namespace Go.Proofs.Qxb6605821a
open Go.RowKit

theorem chars_list : (⟨#[45, 126]⟩ : ByteArray).data.toList = [45, 126] := rfl

theorem noAny_wide {s : ByteArray} {i d : Nat} (h : Lib.NoAny s.data.toList [45, 126] i) (hw : ∀ j (hj : j < s.size), i ≤ j → j < i + d → 128 ≤ (s[j]'hj).toNat) : Lib.NoAny s.data.toList [45, 126] (i + d) := by
  intro j b hj hb
  by_cases hji : j < i
  · exact h j b hji hb
  · have hlt : j < s.size := by
      rw [Lib.size_eq]; exact (List.getElem?_eq_some_iff.1 hb).1
    have hx := hw j hlt (by omega) hj
    have he := Lib.data_getElem? s j hlt
    rw [he] at hb
    obtain rfl := Option.some.inj hb
    rw [Pl.dash_contains]
    unfold Pl.dashB
    have h1 : (s[j] == 45) = false := by
      rw [beq_eq_false_iff_ne]; intro e; rw [e] at hx; simp at hx
    have h2 : (s[j] == 126) = false := by
      rw [beq_eq_false_iff_ne]; intro e; rw [e] at hx; simp at hx
    rw [h1, h2]; rfl

set_option maxHeartbeats 2000000 in
set_option maxRecDepth 100000 in
theorem any_short (s : ByteArray) (w : World) (h8 : s.size ≤ 8) :
    Calls Try.prog 19 #[.string s, .string ⟨#[45, 126]⟩] w fun e w' => e = .returned (.int .i64 (Lib.indexAny s.data.toList [45, 126])) ∧ Below w.heap.size w w' := by
  have h8z : decide ((8 : Int) < (s.size : Int)) = false := decide_eq_false (by omega)
  go_enter Try.func19, Try.ntmps19
  go_wp2_with (go_at_call 23; refine (Try.strings_shouldUseASCIISet _ _).mono ?_; rintro e w' ⟨rfl, hw⟩; rw [hw, h8z])
  go_loopg [9, 10] s.size (fun g _ _ wx => ∃ i : Nat, i + g = s.size ∧ Hid (wx.heap[w.heap.size]? = some (.stringIter s i)) ∧ Below w.heap.size w wx ∧ Hid (Lib.NoAny s.data.toList [45, 126] i))
  case atStart => exact ⟨0, by omega, World.iter_heap w s 0, (Below.refl _ _).alloc (Nat.le_refl _) _, Lib.NoAny.zero _ _⟩
  case round =>
    obtain ⟨i, hig, hit, hbel, HN⟩ := hrel
    cases gk with
    | zero =>
      obtain rfl : i = s.size := by omega
      have hnx := fun ty => Lib.run_next_end_at (P := Try.prog) wr w.heap.size s s.size ty hit.out (Nat.lt_irrefl _)
      go_wp2
      go_ret
      refine ⟨?_, hbel⟩
      rw [Lib.indexAny_none (by rw [← Lib.size_eq]; exact HN.out)]
      rfl
    | succ g =>
      have hi : i < s.size := by omega
      have hlt : w.heap.size < wr.heap.size := (Array.getElem?_eq_some_iff.1 hit.out).1
      have hnx := fun ty => Lib.run_next_any_at (P := Try.prog) wr w.heap.size s i ty hit.out hi
      obtain ⟨d, hd⟩ : ∃ d, d = (Utf8.decode s i).2 := ⟨_, rfl⟩
      obtain ⟨r, hr⟩ : ∃ r, r = (Utf8.decode s i).1 := ⟨_, rfl⟩
      rw [← hd, ← hr] at hnx
      have hit2 := Lib.iterAt_heap wr w.heap.size s i (i + d) hit.out
      have hsz2 := Lib.iterAt_size wr w.heap.size s (i + d)
      have hb2 : Below w.heap.size w (wr.iterAt w.heap.size s (i + d)) := Lib.below_iterAt hbel (Nat.le_refl _) s (i + d)
      by_cases ha : (s[i]'hi).toNat < 128
      · have hdec := decode_ascii s i hi ha
        rw [hdec] at hd hr
        simp only at hd hr
        have Hx : Hid (s.data.toList[i]? = some (s[i]'hi)) := Lib.data_getElem? s i hi
        have hcon := Lib.contains_iff_indexByte [45, 126] (s[i]'hi)
        generalize s[i]'hi = x at *
        subst hd
        subst hr
        have hback : ((x.toNat : Int)).toNat.toUInt8 = x := by simp
        have HB : Hid (((x.toNat : Int)).toNat.toUInt8 = x) := hback
        have HIT2 : Hid ((wr.iterAt w.heap.size s (i + 1)).heap[w.heap.size]? = some (.stringIter s (i + 1))) := hit2
        clear hdec hback hit2 hsz2 hit
        cases hin : ([45, 126] : List UInt8).contains x
        · rw [hin] at hcon
          have hlt' : ¬ ((0 : Int) ≤ Lib.indexByte [45, 126] x) := of_decide_eq_false hcon.symm
          have hfin := HN.out.succ Hx.out hin
          have HF : Hid (Lib.NoAny s.data.toList [45, 126] (i + 1)) := hfin
          clear hcon hin hfin
          go_wp2_with (go_at_call 22; refine (Try.strings_IndexRune_ascii _ _ _ (by omega) (by omega)).mono ?_; rintro e w' ⟨rfl, hw⟩; rw [hw, HB.out, chars_list]; clear hw)
          go_roundg g
          case measure => omega
          case rel => exact ⟨i + 1, by omega, HIT2, hb2, HF⟩
        · rw [hin] at hcon
          have hge : (0 : Int) ≤ Lib.indexByte [45, 126] x := of_decide_eq_true hcon.symm
          have hfin := Lib.indexAny_hit HN.out Hx.out hin
          have HF : Hid (Lib.indexAny s.data.toList [45, 126] = (i : Int)) := hfin
          clear hcon hin hfin
          go_wp2_with (go_at_call 22; refine (Try.strings_IndexRune_ascii _ _ _ (by omega) (by omega)).mono ?_; rintro e w' ⟨rfl, hw⟩; rw [hw, HB.out, chars_list]; clear hw)
          go_ret
          exact ⟨by rw [HF.out]; rfl, hb2⟩
      · obtain ⟨k1, k2, k3, k4, k5⟩ := Pl.decode_wide s i hi (by omega)
        rw [← hr] at k1 k4
        rw [← hd] at k2 k3 k5
        have HF : Hid (Lib.NoAny s.data.toList [45, 126] (i + d)) := noAny_wide HN.out k5
        have HV : Hid (Utf8.valid (r : Int) = true) := k4
        have HIT2 : Hid ((wr.iterAt w.heap.size s (i + d)).heap[w.heap.size]? = some (.stringIter s (i + d))) := hit2
        have HS2 : Hid ((wr.iterAt w.heap.size s (i + d)).heap.size = wr.heap.size) := hsz2
        clear k4 k5 hit2 hsz2 hit hd hr ha HN
        go_wp2_with fail
        refine (rune_any (r : Int) (wr.iterAt w.heap.size s (i + d)) (by omega) HV.out).mono ?_
        rintro e w3 ⟨rfl, hb3⟩
        have hit3 : Hid (w3.heap[w.heap.size]? = some (.stringIter s (i + d))) := (hb3.block _ (by rw [HS2.out]; exact hlt)).trans HIT2.out
        have hB3 : Below w.heap.size w w3 := hb2.trans (hb3.mono hb2.size)
        clear hb3 hnx HIT2 HS2 hb2
        go_wp2
        go_roundg (s.size - (i + d))
        case measure => omega
        case rel => exact ⟨i + d, by omega, hit3, hB3, HF⟩

theorem Try.info41 : (Try.prog.info? 41).map (fun i => (i.zero, i.size)) = some (some (.agg (Array.replicate 256 (.bool false))), 256) := by kernel_rfl

theorem any_any (s : ByteArray) (w : World) (hs : s.size < 4294967281) :
    Calls Try.prog 19 #[.string s, .string ⟨#[45, 126]⟩] w fun e w' => e = .returned (.int .i64 (Lib.indexAny s.data.toList [45, 126])) ∧ Below w.heap.size w w' := by
  by_cases h8 : s.size ≤ 8
  · exact any_short s w h8
  · refine (Try.strings_IndexAny_long (zero_of_info Try.info41).1 s ⟨#[45, 126]⟩ w (by decide) (by omega) hs (by decide) ?_).mono fun e w' ⟨h1, h2⟩ => ⟨h1, ?_⟩
    · intro j b hb
      rw [chars_list] at hb
      match j, hb with
      | 0, hb => simp at hb; subst hb; decide
      | 1, hb => simp at hb; subst hb; decide
      | j + 2, hb => simp at hb
    · rw [h2]
      exact ((Below.refl _ _).alloc (Nat.le_refl _) _).alloc (by simp) _

set_option maxHeartbeats 400000 in
theorem containsAny_any (s : ByteArray) (w : World) (hs : s.size < 4294967281) :
    Calls Try.prog 16 #[.string s, .string ⟨#[45, 126]⟩] w fun e w' => e = .returned (.bool (s.data.toList.any Pl.dashB)) ∧ Below w.heap.size w w' := by
  rw [← Pl.any_dash]
  go_enter Try.func16, Try.ntmps16
  go_wp2_with fail
  refine (any_any s w hs).mono ?_
  rintro e w' ⟨rfl, hb⟩
  go_wp2
  go_ret
  exact ⟨rfl, hb⟩

set_option maxHeartbeats 400000 in
theorem isTime_any (s : ByteArray) (w : World) :
    Calls Try.prog 17 #[.string s] w fun e w' => e = .returned (.bool (s.data.toList.any Pl.colonB)) ∧ w' = w := by
  rw [← Pl.any_colon]
  go_enter Try.func17, Try.ntmps17
  go_wp2_with fail
  refine (Try.strings_Contains_one s 58 w).mono ?_
  rintro e w' ⟨rfl, hw⟩; subst w'
  go_wp2
  go_ret
  exact ⟨rfl, rfl⟩

end Go.Proofs.Qxb6605821a
