/-
  Seat b6606436a: the walks of utReplacePair and utTwoPass.
-/
import Derived.Test.Qxb6606436aEsc
namespace Go.Proofs.Qxb6606436a
open Go.RowKit

set_option maxHeartbeats 2000000 in
theorem rep_any (s : ByteArray) (x y : UInt8) (xi yi : Int) (w : World) (hx : (x.toNat : Int) = xi) (hy : (y.toNat : Int) = yi) (hs : s.size ≤ 4294967280) :
    Calls Try.prog 15 #[.string s, .int .u8 xi, .int .u8 yi] w fun e w' => e = .returned (.string ⟨(Pl.rep x y s.data.toList).toArray⟩) ∧ Below w.heap.size w w' := by
  obtain ⟨R, hR⟩ : ∃ R : ByteArray, R = ⟨(Pl.rep x y s.data.toList).toArray⟩ := ⟨_, rfl⟩
  have HR : Hid (R = ⟨(Pl.rep x y s.data.toList).toArray⟩) := hR
  have HX : Hid ((x.toNat : Int) = xi) := hx
  have HY : Hid ((y.toNat : Int) = yi) := hy
  rw [← hR]
  clear hR hx hy
  go_enter Try.func15, Try.ntmps15
  go_wp2_with (at_make; refine wp_make0 _ rfl (.const (.int .i64 0)) (.tmp 10) rfl _ s.size rfl rfl (by omega) (by omega) ?_; intro w1 hown1 hb1)
  go_loopw [7, 8] (fun v i wr => ∃ (k L : Nat) (acc : List UInt8), k ≤ s.size ∧ i = .int .i64 k ∧ L ≤ k ∧ v = .slice (some ⟨w.heap.size, 0, none⟩) L s.size ∧ Hid (Pl.rep x y s.data.toList = acc ++ Pl.rep x y (s.data.toList.drop k)) ∧
      Hid (wr.ownsRow w.heap.size 5 1 (.slice (some ⟨w.heap.size, 0, none⟩) L s.size) L (Lib.byteCells acc)) ∧ Below w.heap.size w wr) (fun _ i _ => s.size - (intOf i).toNat)
  case atStart => exact ⟨0, 0, [], Nat.zero_le _, rfl, Nat.zero_le _, rfl, rfl, hown1, hb1⟩
  case round =>
    obtain ⟨k, L, acc, hk, rfl, hL, rfl, hacc, hown, hbel⟩ := hrel
    clear hown1 hb1
    have hsz := hbel.size
    by_cases hlt : k < s.size
    · have hd := drop_at s k hlt
      obtain ⟨c, hc⟩ : ∃ c, s[k]'hlt = c := ⟨_, rfl⟩
      rw [hc] at hd
      have HD : Hid (s.data.toList.drop k = c :: s.data.toList.drop (k + 1)) := hd
      clear hd
      cases h1 : ((c.toNat : Int) == 126) with
      | false =>
        have HA : Hid (Pl.rep x y s.data.toList = acc ++ [c] ++ Pl.rep x y (s.data.toList.drop (k + 1))) := by
          show _ = _; rw [hacc.out, HD.out, Pl.rep_other (byte_no rfl h1)]; simp
        go_wp2_with (at_builtin; refine wp_app _ rfl (.tmp 41) (.tmp 45) rfl w.heap.size w.heap.size L s.size acc rfl (hown.out.alloc _) wr.heap.size 1 1 [c] rfl rfl (cells_one wr c c.toNat rfl) (by omega) w (hbel.alloc hsz _) (Nat.le_refl _) (by simp; omega) ?_; intro w2 hown2 hb2)
        go_roundw
        case rel => exact ⟨k + 1, L + 1, acc ++ [c], by omega, by go_num, by omega, rfl, HA, hown2, hb2⟩
        case measure => simp [intOf]; omega
      | true =>
        obtain rfl : c = 126 := byte_yes rfl h1
        by_cases he : k + 1 < s.size
        · have hd1 := drop_at s (k + 1) he
          obtain ⟨d, hdd⟩ : ∃ d, s[k + 1]'he = d := ⟨_, rfl⟩
          rw [hdd] at hd1
          have HD1 : Hid (s.data.toList.drop (k + 1) = d :: s.data.toList.drop (k + 1 + 1)) := hd1
          clear hd1
          cases h2 : ((d.toNat : Int) == xi) with
          | true =>
            have hdx : d = x := byte_yes HX.out h2
            have HA : Hid (Pl.rep x y s.data.toList = acc ++ [y] ++ Pl.rep x y (s.data.toList.drop (k + 2))) := by
              show _ = _; rw [hacc.out, HD.out, HD1.out, hdx, Pl.rep_hit]; simp
            clear hdx
            go_wp2_with (at_builtin; refine wp_app _ rfl (.tmp 35) (.tmp 37) rfl w.heap.size w.heap.size L s.size acc rfl (hown.out.alloc _) wr.heap.size 1 1 [y] rfl rfl (cells_one wr y yi HY.out) (by omega) w (hbel.alloc hsz _) (Nat.le_refl _) (by simp; omega) ?_; intro w2 hown2 hb2)
            go_roundw
            case rel => exact ⟨k + 2, L + 1, acc ++ [y], by omega, by go_num, by omega, rfl, HA, hown2, hb2⟩
            case measure => simp [intOf]; omega
          | false =>
            have HA : Hid (Pl.rep x y s.data.toList = acc ++ [126] ++ Pl.rep x y (s.data.toList.drop (k + 1))) := by
              show _ = _; rw [hacc.out, HD.out, HD1.out, Pl.rep_miss (byte_no HX.out h2)]; simp
            go_wp2_with (at_builtin; refine wp_app _ rfl (.tmp 41) (.tmp 45) rfl w.heap.size w.heap.size L s.size acc rfl (hown.out.alloc _) wr.heap.size 1 1 [126] rfl rfl (cells_one wr 126 126 rfl) (by omega) w (hbel.alloc hsz _) (Nat.le_refl _) (by simp; omega) ?_; intro w2 hown2 hb2)
            go_roundw
            case rel => exact ⟨k + 1, L + 1, acc ++ [126], by omega, by go_num, by omega, rfl, HA, hown2, hb2⟩
            case measure => simp [intOf]; omega
        · have HA : Hid (Pl.rep x y s.data.toList = acc ++ [126] ++ Pl.rep x y (s.data.toList.drop (k + 1))) := by
            show _ = _; rw [hacc.out, HD.out, drop_end s (k + 1) (by omega), Pl.rep_end, Pl.rep_nil]; simp
          go_wp2_with (at_builtin; refine wp_app _ rfl (.tmp 41) (.tmp 45) rfl w.heap.size w.heap.size L s.size acc rfl (hown.out.alloc _) wr.heap.size 1 1 [126] rfl rfl (cells_one wr 126 126 rfl) (by omega) w (hbel.alloc hsz _) (Nat.le_refl _) (by simp; omega) ?_; intro w2 hown2 hb2)
          go_roundw
          case rel => exact ⟨k + 1, L + 1, acc ++ [126], by omega, by go_num, by omega, rfl, HA, hown2, hb2⟩
          case measure => simp [intOf]; omega
    · have hconv := run_string_own hown.out
      have hfin : (⟨acc.toArray⟩ : ByteArray) = R := by
        rw [HR.out, hacc.out, drop_end s k (by omega), Pl.rep_nil, List.append_nil]
      rw [hfin] at hconv
      clear hfin hown hacc
      go_wp2
      go_ret
      exact ⟨rfl, hbel⟩

set_option maxHeartbeats 400000 in
theorem twoPass_any (s : ByteArray) (w : World) (hs : s.size ≤ 4294967280) :
    Calls Try.prog 9 #[.string s] w fun e w' => e = .returned (.string ⟨(Pl.rep 48 126 (Pl.rep 49 47 s.data.toList)).toArray⟩) ∧ Below w.heap.size w w' := by
  have hlen := Pl.rep_length 49 47 s.data.toList.length s.data.toList (Nat.le_refl _)
  have hsl := Lib.size_eq s
  obtain ⟨l1, hl1⟩ : ∃ l1, l1 = Pl.rep 49 47 s.data.toList := ⟨_, rfl⟩
  rw [← hl1] at hlen ⊢
  have hsz1 : (⟨l1.toArray⟩ : ByteArray).size ≤ 4294967280 := by
    have : (⟨l1.toArray⟩ : ByteArray).size = l1.length := by simp [ByteArray.size]
    omega
  have HL : Hid (l1 = Pl.rep 49 47 s.data.toList) := hl1
  clear hl1 hlen hsl
  go_enter Try.func9, Try.ntmps9
  go_wp2_with fail
  refine (rep_any s 49 47 49 47 w rfl rfl hs).mono ?_
  rintro e w1 ⟨rfl, hb1⟩
  rw [← HL.out]
  have R2 := rep_any ⟨l1.toArray⟩ 48 126 48 126 w1 rfl rfl hsz1
  clear hsz1
  go_wp2_with fail
  refine R2.mono ?_
  rintro e w2 ⟨rfl, hb2⟩
  have hB : Below w.heap.size w w2 := hb1.trans (hb2.mono hb1.size)
  clear hb1 hb2 R2
  go_wp2
  go_ret
  exact ⟨rfl, hB⟩

end Go.Proofs.Qxb6606436a
