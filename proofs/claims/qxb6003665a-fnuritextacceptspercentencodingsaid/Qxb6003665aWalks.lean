/-
  Seat b6003665a: hex digits, percent-encoded texts; the walks of hexDigit, lowerAt, HexValue, isAlpha, isDigit and isURIText.
-/
import Derived.Test.Qxb6003665aRows
import Derived.WalkKit
import Derived.WalkSpells
import Derived.WalkLawsBesides
import Derived.Lib.IndexBytes
namespace Go.Proofs.Qxb6003665a
open Go.RowKit

/-- A hex digit of either case. -/
def hexD (n : Nat) : Prop := (48 ≤ n ∧ n ≤ 57) ∨ (65 ≤ n ∧ n ≤ 70) ∨ (97 ≤ n ∧ n ≤ 102)

/-- A text that is wholly percent-encoded, told byte by byte. -/
def Good (l : List UInt8) : Prop := ∀ (k : Nat) (c : UInt8), l[k]? = some c → (c = 37 ∧ ∃ d e : UInt8, l[k + 1]? = some d ∧ l[k + 2]? = some e ∧ hexD d.toNat ∧ hexD e.toNat) ∨ hexD c.toNat

theorem good_nil : Good [] := fun k c h => by simp at h

theorem good_more {l : List UInt8} {d e : UInt8} (h : Good l) (hd : hexD d.toNat) (he : hexD e.toNat) : Good (l ++ [37, d, e]) := by
  intro k c hk
  by_cases h1 : k < l.length
  · rw [List.getElem?_append_left h1] at hk
    rcases h k c hk with ⟨h2, x, y, hx, hy, h3⟩ | h2
    · left
      refine ⟨h2, x, y, ?_, ?_, h3⟩
      · rw [List.getElem?_append_left (List.getElem?_eq_some_iff.1 hx).1]; exact hx
      · rw [List.getElem?_append_left (List.getElem?_eq_some_iff.1 hy).1]; exact hy
    · exact .inr h2
  · rw [List.getElem?_append_right (by omega)] at hk
    obtain ⟨j, hj⟩ : ∃ j, k = l.length + j := ⟨k - l.length, by omega⟩
    subst hj
    rw [Nat.add_sub_cancel_left] at hk
    match j, hk with
    | 0, hk =>
      simp at hk
      left
      refine ⟨hk.symm, d, e, ?_, ?_, hd, he⟩
      · rw [List.getElem?_append_right (by omega)]; simp [Nat.add_sub_cancel_left]
      · rw [List.getElem?_append_right (by omega)]; simp [Nat.add_sub_cancel_left]
    | 1, hk => simp at hk; subst hk; exact .inr hd
    | 2, hk => simp at hk; subst hk; exact .inr he
    | j + 3, hk => simp at hk

theorem byte_of (n : Int) (h0 : 0 ≤ n) (h1 : n < 256) : ∃ d : UInt8, (d.toNat : Int) = n := by
  refine ⟨UInt8.ofNat n.toNat, ?_⟩
  simp
  omega

theorem ret_byte {n : Int} {d : UInt8} (h : (d.toNat : Int) = n) : Ending.returned (.int .u8 n) = .returned (.int .u8 d.toNat) := by rw [h]

set_option maxHeartbeats 400000 in
theorem hexDigit_any (v : Int) (b : Bool) (w : World) (h0 : 0 ≤ v) (h1 : v < 16) :
    Calls Try.prog 14 #[.int .u8 v, .bool b] w fun e w' => (∃ d : UInt8, e = .returned (.int .u8 d.toNat) ∧ hexD d.toNat) ∧ w' = w := by
  by_cases h2 : v < 10
  · obtain ⟨d, hd⟩ := byte_of (48 + v) (by omega) (by omega)
    have HX : Hid (hexD d.toNat) := .inl (by omega)
    have HD : Hid ((d.toNat : Int) = 48 + v) := hd
    clear hd
    go_enter Try.func14, Try.ntmps14
    go_wp2
    go_ret
    exact ⟨⟨d, ret_byte HD.out, HX.out⟩, rfl⟩
  · cases b with
    | true =>
      obtain ⟨d, hd⟩ := byte_of (97 + v - 10) (by omega) (by omega)
      have HX : Hid (hexD d.toNat) := .inr (.inr (by omega))
      have HD : Hid ((d.toNat : Int) = 97 + v - 10) := hd
      clear hd
      go_enter Try.func14, Try.ntmps14
      go_wp2
      go_ret
      exact ⟨⟨d, ret_byte HD.out, HX.out⟩, rfl⟩
    | false =>
      obtain ⟨d, hd⟩ := byte_of (65 + v - 10) (by omega) (by omega)
      have HX : Hid (hexD d.toNat) := .inr (.inl (by omega))
      have HD : Hid ((d.toNat : Int) = 65 + v - 10) := hd
      clear hd
      go_enter Try.func14, Try.ntmps14
      go_wp2
      go_ret
      exact ⟨⟨d, ret_byte HD.out, HX.out⟩, rfl⟩

set_option maxHeartbeats 400000 in
theorem lowerAt_any (m : ByteArray) (k : Int) (w : World) (hm : m.size ≤ 65536) (h0 : 0 ≤ k) (h1 : k ≤ 1000000) :
    Calls Try.prog 15 #[.string m, .int .i64 k] w fun e w' => (∃ b, e = .returned (.bool b)) ∧ w' = w := by
  by_cases h2 : m.size = 0
  · go_enter Try.func15, Try.ntmps15
    go_wp2
    go_ret
    exact ⟨⟨_, rfl⟩, rfl⟩
  · have hne : ((m.size : Int) == 0) = false := beq_eq_false_iff_ne.2 (by omega)
    have hpos : (0 : Int) < (m.size : Int) := by omega
    have hne2 : ¬ (m.size : Int) = 0 := by omega
    have hmod : 0 ≤ k % (m.size : Int) ∧ k % (m.size : Int) < (m.size : Int) := ⟨Int.emod_nonneg _ hne2, Int.emod_lt_of_pos _ hpos⟩
    clear h2
    go_enter Try.func15, Try.ntmps15
    go_wp2
    go_ret
    exact ⟨⟨_, rfl⟩, rfl⟩

set_option maxHeartbeats 400000 in
theorem hexValue_any (d : UInt8) (w : World) (h : hexD d.toNat) :
    Calls Try.prog 22 #[.int .u8 d.toNat] w fun e w' => (∃ r : Int, e = .returned (.int .i64 r) ∧ 0 ≤ r) ∧ w' = w := by
  have hlt := d.toNat_lt
  obtain ⟨n, hn⟩ : ∃ n : Int, (d.toNat : Int) = n := ⟨_, rfl⟩
  unfold hexD at h
  rw [hn]
  rcases h with ⟨h1, h2⟩ | ⟨h1, h2⟩ | ⟨h1, h2⟩
  · have k1 : 48 ≤ n := by omega
    have k2 : n ≤ 57 := by omega
    clear h1 h2 hlt hn
    go_enter Try.func22, Try.ntmps22
    go_wp2
    go_ret
    exact ⟨⟨_, rfl, by omega⟩, rfl⟩
  · have k1 : 65 ≤ n := by omega
    have k2 : n ≤ 70 := by omega
    clear h1 h2 hlt hn
    go_enter Try.func22, Try.ntmps22
    go_wp2
    go_ret
    exact ⟨⟨_, rfl, by omega⟩, rfl⟩
  · have k1 : 97 ≤ n := by omega
    have k2 : n ≤ 102 := by omega
    clear h1 h2 hlt hn
    go_enter Try.func22, Try.ntmps22
    go_wp2
    go_ret
    exact ⟨⟨_, rfl, by omega⟩, rfl⟩

set_option maxHeartbeats 1000000 in
theorem uri_any (s extra : ByteArray) (w : World) (hs : s.size ≤ 1000000) (hg : Good s.data.toList) :
    Calls Try.prog 20 #[.string s, .string extra] w fun e w' => e = .returned (.bool true) ∧ w' = w := by
  go_enter Try.func20, Try.ntmps20
  go_wp2
  go_loop [5] (fun i => ∃ k : Nat, k ≤ s.size ∧ i = .int .i64 k) (fun i => s.size - (intOf i).toNat)
  case atStart => exact ⟨0, Nat.zero_le _, rfl⟩
  case round =>
    obtain ⟨k, hk, rfl⟩ := hrel
    have HG : Hid (Good s.data.toList) := hg
    clear hg
    by_cases hlt : k < s.size
    · have hgk := HG.out k (s[k]'hlt) (Lib.data_getElem? s k hlt)
      obtain ⟨c, hc⟩ : ∃ c, s[k]'hlt = c := ⟨_, rfl⟩
      rw [hc] at hgk
      rcases hgk with ⟨rfl, d, e, hd, he, xd, xe⟩ | hx
      · have h2 : k + 2 < s.size := by
          have := (List.getElem?_eq_some_iff.1 he).1
          rw [← Lib.size_eq] at this; exact this
        have h1 : k + 1 < s.size := by omega
        have hd' : s[k + 1]'h1 = d := by
          have := Lib.data_getElem? s (k + 1) h1
          rw [hd] at this; exact (Option.some.inj this).symm
        have he' : s[k + 2]'h2 = e := by
          have := Lib.data_getElem? s (k + 2) h2
          rw [he] at this; exact (Option.some.inj this).symm
        have XD : Hid (hexD d.toNat) := xd
        have XE : Hid (hexD e.toNat) := xe
        clear hd he xd xe
        go_wp2_with fail
        refine (hexValue_any d w XD.out).mono ?_
        rintro e1 w' ⟨⟨r1, rfl, hr1⟩, hw⟩; subst w'
        go_wp2_with fail
        refine (hexValue_any e w XE.out).mono ?_
        rintro e1 w' ⟨⟨r2, rfl, hr2⟩, hw⟩; subst w'
        go_wp2
        go_round
        case rel => exact ⟨k + 1, by omega, by go_num⟩
        case measure => simp [intOf]; omega
      · have hne : ((c.toNat : Int) == 37) = false := by
          rw [beq_eq_false_iff_ne]; unfold hexD at hx; omega
        obtain ⟨n, hn⟩ : ∃ n : Int, (c.toNat : Int) = n := ⟨_, rfl⟩
        rw [hn] at hne
        have hlet : (97 ≤ n ∧ n ≤ 102) ∨ (65 ≤ n ∧ n ≤ 70) ∨ (48 ≤ n ∧ n ≤ 57) := by unfold hexD at hx; omega
        clear hx
        rcases hlet with ⟨k1, k2⟩ | ⟨k1, k2⟩ | ⟨k1, k2⟩
        all_goals
          go_wp2
          go_round
          case rel => exact ⟨k + 1, by omega, by go_num⟩
          case measure => simp [intOf]; omega
    · go_wp2
      go_ret
      exact ⟨rfl, rfl⟩

set_option maxHeartbeats 400000 in
theorem zuri_any (s extra : ByteArray) (w : World) (hs : s.size ≤ 1000000) (hg : Good s.data.toList) :
    Calls Try.prog 16 #[.string s, .string extra] w fun e w' => e = .returned (.bool true) ∧ w' = w := by
  go_enter Try.func16, Try.ntmps16
  go_wp2_with fail
  refine (uri_any s extra w hs hg).mono ?_
  rintro e w' ⟨rfl, hw⟩; subst w'
  go_wp2
  go_ret
  exact ⟨rfl, rfl⟩

end Go.Proofs.Qxb6003665a
