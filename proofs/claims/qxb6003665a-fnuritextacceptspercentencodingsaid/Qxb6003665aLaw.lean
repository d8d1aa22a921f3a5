/-
  Seat b6003665a: the walk of 'FnURITextAcceptsPercentEncoding' out of the callees' contracts.
-/
import Derived.Test.Qxb6003665aWalks
import Derived.Laws.BytesArg
import Derived.Lib.UnsafeStr
namespace Go.Proofs.Qxb6003665a
open Go.RowKit

theorem Try.info5 : (Try.prog.info? 5).map (fun i => (i.zero, i.size, i.bytes)) = some (some (.int .u8 0), 1, 1) := by kernel_rfl

/-- 'make([]byte, 0, N)' for the walk. -/
theorem wp_make0 (w : World) {ops : Array Oper} {rest : List Oper} {o : Oper} {a : Act} {Q : Exit → Act → World → Prop} (hg : o.guard = none) (l c : Operand) (hop : o.op = Op.makeSlice 41 l c)
    (C : Int) (N : Nat) (hl : a.eval l = .int .i64 0) (hc : a.eval c = .int .i64 C) (hC : C = (N : Int)) (hN : N ≤ 8589934592)
    (hK : ∀ w', Hid (w'.ownsRow w.heap.size 5 1 (.slice (some ⟨w.heap.size, 0, none⟩) 0 N) 0 (Lib.byteCells [])) → Below w.heap.size w w' → wpList Try.prog ops Q rest (a.put o.dst (.slice (some ⟨w.heap.size, 0, none⟩) 0 N)) w') :
    wpList Try.prog ops Q (o :: rest) a w := by
  obtain ⟨i5, hi, hz0, hz1, hz2⟩ := info_parts Try.info5
  refine wpList_make_own w hg l c 41 hop w.heap.size 5 i5 (.int .u8 0) 1 Try.underlying41 hi hz0 hz1 .i64 .i64 C N hl hc hC (by rw [hz2]; omega) (by unfold maxLen; omega) (Nat.le_refl _) ?_
  intro w' hown hgrow
  exact hK w' hown ((Below.refl _ _).grown hgrow (Nat.le_refl _) (fun k hk => by cases hk))

/-- 'append(out, ..)' of bytes that lie in a new block, within the capacity. -/
theorem wp_app (w : World) {ops : Array Oper} {rest : List Oper} {o : Oper} {a : Act} {Q : Exit → Act → World → Prop} (hg : o.guard = none) (s x : Operand)
    (hop : o.op = Op.call { callee := Callee.builtin Builtin.append, args := #[s, x], argTypes := #[41, 41] })
    (B g L cap : Nat) (acc : List UInt8) (hs : a.eval s = .slice (some ⟨g, 0, none⟩) L cap) (hown : w.ownsRow B 5 1 (.slice (some ⟨g, 0, none⟩) L cap) L (Lib.byteCells acc))
    (b0 m c : Nat) (bs : List UInt8) (hx : a.eval x = .slice (some ⟨b0, 0, none⟩) m c) (hm : bs.length = m) (hc : ∀ j u, (Lib.byteCells bs)[j]? = some u → w.cell? ⟨b0, j, none⟩ = some u) (hfit : L + m ≤ cap)
    (w0 : World) (hbel : Below B w0 w) (hBg : B ≤ g) (hBw : B ≤ w.heap.size)
    (hK : ∀ w', Hid (w'.ownsRow B 5 1 (.slice (some ⟨g, 0, none⟩) (L + m) cap) (L + m) (Lib.byteCells (acc ++ bs))) → Below B w0 w' → wpList Try.prog ops Q rest (a.put o.dst (.slice (some ⟨g, 0, none⟩) (L + m) cap)) w') :
    wpList Try.prog ops Q (o :: rest) a w := by
  obtain ⟨i5, hi, hz0, hz1, hz2⟩ := info_parts Try.info5
  refine wpList_append_fits w hg s x 41 hop B 5 i5 1 Try.underlying41 hi hz1 g L cap (Lib.byteCells acc) hs hown ⟨b0, 0, none⟩ m c (Lib.byteCells bs) hx (by rw [Lib.byteCells_length, hm]; omega) ?_ ?_ hfit ?_
  · intro j u hj
    have e : (⟨b0, 0, none⟩ : Addr).add j = ⟨b0, j, none⟩ := by unfold Addr.add; split <;> simp_all
    rw [e]; exact hc j u hj
  · intro v hv
    obtain ⟨b, _, rfl⟩ := List.mem_map.1 hv
    rfl
  · intro w' hown' hgrow
    rw [← Lib.byteCells_append] at hown'
    exact hK w' hown' (hbel.grown hgrow hBw (fun k hk => by cases hk; exact hBg))

/-- 'string(out)' of a row of the call's own. -/
theorem run_string_own {B g L cap : Nat} {acc : List UInt8} {w : World} (hown : w.ownsRow B 5 1 (.slice (some ⟨g, 0, none⟩) L cap) L (Lib.byteCells acc)) :
    (convert 41 9 (.slice (some ⟨g, 0, none⟩) L cap)).run Try.prog w = .ok (.string ⟨acc.toArray⟩) w := by
  have hl : acc.length = L := by
    have := hown.1
    rw [Lib.byteCells_length] at this; omega
  have h := run_convert_bytes_arg (P := Try.prog) w 41 5 Try.underlying41 Try.underlying5 g 0 L cap (acc.map fun b => (b.toNat : Int)) (by simpa using hl) (fun i hi => by
    rw [Nat.zero_add, hown.cellAt i (by omega)]
    have hi' : i < acc.length := by omega
    simp [Lib.byteCells, hi']) 9 Try.underlying9
  rw [h]
  congr 2
  unfold strOfNums
  simp [Function.comp_def]

theorem cells_three (w : World) (x y z : UInt8) (a : Int) (ha : (x.toNat : Int) = a) : ∀ j u, (Lib.byteCells [x, y, z])[j]? = some u → (w.alloc (.cells #[.int .u8 a, .int .u8 y.toNat, .int .u8 z.toNat] 5)).cell? ⟨w.heap.size, j, none⟩ = some u := by
  subst ha
  intro j u hj
  match j, hj with
  | 0, hj => simp [Lib.byteCells] at hj; subst hj; simp
  | 1, hj => simp [Lib.byteCells] at hj; subst hj; simp
  | 2, hj => simp [Lib.byteCells] at hj; subst hj; simp
  | j + 3, hj => simp [Lib.byteCells] at hj

set_option maxHeartbeats 1000000 in
theorem some13 (x m y : ByteArray) (w : World) (h1 : x.size ≤ 9223372036854775807) (h2 : m.size ≤ 9223372036854775807) (h3 : y.size ≤ 9223372036854775807) :
    Calls Try.prog 13 #[.string x, .string m, .string y] w fun e w' => (∃ v, e = .returned (.bool v)) ∧ w' = w := by
  go_enter Try.func13, Try.ntmps13
  go_wp2
  all_goals
    go_ret
    exact ⟨⟨_, rfl⟩, rfl⟩

set_option maxHeartbeats 400000 in
theorem small13 (x m y : ByteArray) (w : World) (h1 : x.size ≤ 65536) (h2 : m.size ≤ 65536) (h3 : y.size ≤ 65536) :
    Calls Try.prog 13 #[.string x, .string m, .string y] w fun e w' => e = .returned (.bool true) ∧ w' = w := by
  go_enter Try.func13, Try.ntmps13
  go_wp2
  go_ret
  exact ⟨rfl, rfl⟩

set_option maxHeartbeats 1000000 in
theorem law_great (x m y : ByteArray) (w : World) (h1 : x.size ≤ 9223372036854775807) (h2 : m.size ≤ 9223372036854775807) (h3 : y.size ≤ 9223372036854775807)
    (h : 65536 < x.size ∨ 65536 < m.size ∨ 65536 < y.size) :
    Calls Try.prog 5 #[.string x, .string m, .string y] w fun e w' => e = .returned (.bool true) ∧ Below w.heap.size w w' := by
  have hS := some13 x m y w h1 h2 h3
  by_cases k1 : 65536 < x.size
  · clear h
    go_enter Try.func5, Try.ntmps5
    go_wp2_with fail
    refine hS.mono ?_
    rintro e w' ⟨⟨v, rfl⟩, hw⟩; subst w'
    clear hS
    cases v
    all_goals
      go_wp2
      go_ret
      exact ⟨rfl, Below.refl _ _⟩
  · by_cases k2 : 65536 < m.size
    · clear h
      go_enter Try.func5, Try.ntmps5
      go_wp2_with fail
      refine hS.mono ?_
      rintro e w' ⟨⟨v, rfl⟩, hw⟩; subst w'
      clear hS
      cases v
      all_goals
        go_wp2
        go_ret
        exact ⟨rfl, Below.refl _ _⟩
    · have k3 : 65536 < y.size := by omega
      clear h
      go_enter Try.func5, Try.ntmps5
      go_wp2_with fail
      refine hS.mono ?_
      rintro e w' ⟨⟨v, rfl⟩, hw⟩; subst w'
      clear hS
      cases v
      all_goals
        go_wp2
        go_ret
        exact ⟨rfl, Below.refl _ _⟩

set_option maxHeartbeats 2000000 in
theorem law_small (x m y : ByteArray) (w : World) (h1 : x.size ≤ 65536) (h2 : m.size ≤ 65536) (h3 : y.size ≤ 65536) :
    Calls Try.prog 5 #[.string x, .string m, .string y] w fun e w' => e = .returned (.bool true) ∧ Below w.heap.size w w' := by
  go_enter Try.func5, Try.ntmps5
  go_wp2_with (first
    | (go_at_call 13; refine (small13 x m y _ h1 h2 h3).mono ?_; rintro e w' ⟨rfl, hw⟩; subst w')
    | (at_make; refine wp_make0 _ rfl (.const (.int .i64 0)) (.tmp 32) rfl _ (3 * x.size) rfl rfl (by omega) (by omega) ?_; intro w1 hown1 hb1))
  go_loopw [7, 8] (fun v i wr => ∃ (k L : Nat) (acc : List UInt8), k ≤ x.size ∧ i = .int .i64 k ∧ L ≤ 3 * k ∧ v = .slice (some ⟨w.heap.size, 0, none⟩) L (3 * x.size) ∧ Hid (Good acc) ∧
      Hid (wr.ownsRow w.heap.size 5 1 (.slice (some ⟨w.heap.size, 0, none⟩) L (3 * x.size)) L (Lib.byteCells acc)) ∧ Below w.heap.size w wr) (fun _ i _ => x.size - (intOf i).toNat)
  case atStart => exact ⟨0, 0, [], Nat.zero_le _, rfl, Nat.zero_le _, rfl, good_nil, hown1, hb1⟩
  case round =>
    obtain ⟨k, L, acc, hk, rfl, hL, rfl, hacc, hown, hbel⟩ := hrel
    clear hown1 hb1
    have hsz := hbel.size
    by_cases hlt : k < x.size
    · obtain ⟨c, hc⟩ : ∃ c, x[k]'hlt = c := ⟨_, rfl⟩
      have hcb := c.toNat_lt
      go_wp2_with fail
      refine (lowerAt_any m (2 * (k : Int)) wr h2 (by omega) (by omega)).mono ?_
      rintro e w' ⟨⟨b1, rfl⟩, hw⟩; subst w'
      go_wp2_with fail
      refine (hexDigit_any ((c.toNat : Int) / 16) b1 wr (by omega) (by omega)).mono ?_
      rintro e w' ⟨⟨d1, rfl, hd1⟩, hw⟩; subst w'
      have HD1 : Hid (hexD d1.toNat) := hd1
      clear hd1
      go_wp2_with fail
      refine (lowerAt_any m (2 * (k : Int) + 1) wr h2 (by omega) (by omega)).mono ?_
      rintro e w' ⟨⟨b2, rfl⟩, hw⟩; subst w'
      go_wp2_with fail
      refine (hexDigit_any ((c.toNat : Int) % 16) b2 wr (by omega) (by omega)).mono ?_
      rintro e w' ⟨⟨d2, rfl, hd2⟩, hw⟩; subst w'
      have HA : Hid (Good (acc ++ [37, d1, d2])) := good_more hacc.out HD1.out hd2
      clear hd2 HD1
      go_wp2_with (at_builtin; refine wp_app _ rfl (.tmp 58) (.tmp 61) rfl w.heap.size w.heap.size L (3 * x.size) acc rfl (hown.out.alloc _) wr.heap.size 3 3 [37, d1, d2] rfl rfl (cells_three wr 37 d1 d2 37 rfl) (by omega) w (hbel.alloc hsz _) (Nat.le_refl _) (by simp; omega) ?_; intro w2 hown2 hb2)
      go_roundw
      case rel => exact ⟨k + 1, L + 3, acc ++ [37, d1, d2], by omega, by go_num, by omega, rfl, HA, hown2, hb2⟩
      case measure => simp [intOf]; omega
    · have hconv := run_string_own hown.out
      have hlen : acc.length = L := by
        have := hown.out.1
        rw [Lib.byteCells_length] at this; omega
      have hesz : (⟨acc.toArray⟩ : ByteArray).size ≤ 1000000 := by
        have : (⟨acc.toArray⟩ : ByteArray).size = acc.length := by simp [ByteArray.size]
        omega
      have hZ := zuri_any ⟨acc.toArray⟩ y wr hesz hacc.out
      clear hlen hesz hown hacc
      go_wp2_with fail
      refine hZ.mono ?_
      rintro e w' ⟨rfl, hw⟩; subst w'
      clear hZ hconv
      go_wp2
      go_ret
      exact ⟨rfl, hbel⟩

theorem law (x m y : ByteArray) (w : World) (h1 : x.size ≤ 9223372036854775807) (h2 : m.size ≤ 9223372036854775807) (h3 : y.size ≤ 9223372036854775807) :
    Calls Try.prog 5 #[.string x, .string m, .string y] w fun e w' => e = .returned (.bool true) ∧ Below w.heap.size w w' := by
  by_cases h : 65536 < x.size ∨ 65536 < m.size ∨ 65536 < y.size
  · exact law_great x m y w h1 h2 h3 h
  · exact law_small x m y w (by omega) (by omega) (by omega)

end Go.Proofs.Qxb6003665a
