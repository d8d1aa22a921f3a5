/-
  Seat b6606436a: the walks of utEscape and utReplacePair.
-/
import Derived.Test.Qxb6606436aWalks
namespace Go.Proofs.Qxb6606436a
open Go.RowKit

theorem take_snoc (s : ByteArray) (k : Nat) (h : k < s.size) : s.data.toList.take (k + 1) = s.data.toList.take k ++ [s[k]'h] := by
  rw [List.take_succ_eq_append_getElem (by simpa using h)]; rfl

theorem ret_str {a b : ByteArray} (h : a = b) : Ending.returned (.string a) = .returned (.string b) := by rw [h]

theorem esc_tilde (a : List UInt8) : Pl.esc (a ++ [126]) = Pl.esc a ++ [126, 48] := by rw [Pl.esc_append]; rfl
theorem esc_slash (a : List UInt8) : Pl.esc (a ++ [47]) = Pl.esc a ++ [126, 49] := by rw [Pl.esc_append]; rfl
theorem esc_plain (a : List UInt8) {c : UInt8} (h0 : c ≠ 126) (h1 : c ≠ 47) : Pl.esc (a ++ [c]) = Pl.esc a ++ [c] := by
  rw [Pl.esc_append]; simp [Pl.esc, h0, h1]

set_option maxHeartbeats 2000000 in
theorem esc_any (s : ByteArray) (w : World) (hs : s.size ≤ 4294967280) :
    Calls Try.prog 11 #[.string s] w fun e w' => e = .returned (.string ⟨(Pl.esc s.data.toList).toArray⟩) ∧ Below w.heap.size w w' := by
  obtain ⟨R, hR⟩ : ∃ R : ByteArray, R = ⟨(Pl.esc s.data.toList).toArray⟩ := ⟨_, rfl⟩
  have HR : Hid (R = ⟨(Pl.esc s.data.toList).toArray⟩) := hR
  rw [← hR]
  clear hR
  go_enter Try.func11, Try.ntmps11
  go_wp2_with (at_make; refine wp_make0 _ rfl (.const (.int .i64 0)) (.tmp 7) rfl _ (2 * s.size) rfl rfl (by omega) (by omega) ?_; intro w1 hown1 hb1)
  go_loopw [3, 4] (fun v i wr => ∃ (k L : Nat) (acc : List UInt8), k ≤ s.size ∧ i = .int .i64 k ∧ L ≤ 2 * k ∧ v = .slice (some ⟨w.heap.size, 0, none⟩) L (2 * s.size) ∧ Hid (acc = Pl.esc (s.data.toList.take k)) ∧
      Hid (wr.ownsRow w.heap.size 5 1 (.slice (some ⟨w.heap.size, 0, none⟩) L (2 * s.size)) L (Lib.byteCells acc)) ∧ Below w.heap.size w wr) (fun _ i _ => s.size - (intOf i).toNat)
  case atStart => exact ⟨0, 0, [], Nat.zero_le _, rfl, Nat.zero_le _, rfl, rfl, hown1, hb1⟩
  case round =>
    obtain ⟨k, L, acc, hk, rfl, hL, rfl, hacc, hown, hbel⟩ := hrel
    clear hown1 hb1
    have hsz := hbel.size
    by_cases hlt : k < s.size
    · have ht := take_snoc s k hlt
      obtain ⟨c, hc⟩ : ∃ c, s[k]'hlt = c := ⟨_, rfl⟩
      rw [hc] at ht
      have HT : Hid (s.data.toList.take (k + 1) = s.data.toList.take k ++ [c]) := ht
      clear ht
      cases h1 : ((c.toNat : Int) == 126) with
      | true =>
        obtain rfl : c = 126 := byte_yes rfl h1
        have HA : Hid (acc ++ [126, 48] = Pl.esc (s.data.toList.take (k + 1))) := by show _ = _; rw [HT.out, esc_tilde, hacc.out]
        go_wp2_with (at_builtin; refine wp_app _ rfl (.tmp 26) (.tmp 27) rfl w.heap.size w.heap.size L (2 * s.size) acc rfl (hown.out.alloc _) wr.heap.size 2 2 [126, 48] rfl rfl (cells_two wr 126 48 126 48 rfl rfl) (by omega) w (hbel.alloc hsz _) (Nat.le_refl _) (by simp; omega) ?_; intro w2 hown2 hb2)
        go_roundw
        case rel => exact ⟨k + 1, L + 2, acc ++ [126, 48], by omega, by go_num, by omega, rfl, HA, hown2, hb2⟩
        case measure => simp [intOf]; omega
      | false =>
        cases h2 : ((c.toNat : Int) == 47) with
        | true =>
          obtain rfl : c = 47 := byte_yes rfl h2
          have HA : Hid (acc ++ [126, 49] = Pl.esc (s.data.toList.take (k + 1))) := by show _ = _; rw [HT.out, esc_slash, hacc.out]
          go_wp2_with (at_builtin; refine wp_app _ rfl (.tmp 31) (.tmp 32) rfl w.heap.size w.heap.size L (2 * s.size) acc rfl (hown.out.alloc _) wr.heap.size 2 2 [126, 49] rfl rfl (cells_two wr 126 49 126 49 rfl rfl) (by omega) w (hbel.alloc hsz _) (Nat.le_refl _) (by simp; omega) ?_; intro w2 hown2 hb2)
          go_roundw
          case rel => exact ⟨k + 1, L + 2, acc ++ [126, 49], by omega, by go_num, by omega, rfl, HA, hown2, hb2⟩
          case measure => simp [intOf]; omega
        | false =>
          have HA : Hid (acc ++ [c] = Pl.esc (s.data.toList.take (k + 1))) := by show _ = _; rw [HT.out, esc_plain _ (byte_no rfl h1) (byte_no rfl h2), hacc.out]
          go_wp2_with (at_builtin; refine wp_app _ rfl (.tmp 18) (.tmp 22) rfl w.heap.size w.heap.size L (2 * s.size) acc rfl (hown.out.alloc _) wr.heap.size 1 1 [c] rfl rfl (cells_one wr c c.toNat rfl) (by omega) w (hbel.alloc hsz _) (Nat.le_refl _) (by simp; omega) ?_; intro w2 hown2 hb2)
          go_roundw
          case rel => exact ⟨k + 1, L + 1, acc ++ [c], by omega, by go_num, by omega, rfl, HA, hown2, hb2⟩
          case measure => simp [intOf]; omega
    · have hconv := run_string_own hown.out
      have hfin : (⟨acc.toArray⟩ : ByteArray) = R := by
        rw [HR.out, hacc.out, List.take_of_length_le (by rw [← Lib.size_eq]; omega)]
      rw [hfin] at hconv
      clear hfin hown hacc
      go_wp2
      go_ret
      exact ⟨rfl, hbel⟩

end Go.Proofs.Qxb6606436a
