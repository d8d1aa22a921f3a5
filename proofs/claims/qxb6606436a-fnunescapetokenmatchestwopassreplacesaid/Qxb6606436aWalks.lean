/-
  Seat b6606436a: the walks of utFirstBad, utEscape and utReplacePair.
-/
import Derived.Test.Qxb6606436aRows
import Derived.Test.Qxb6606436aPlain
import Derived.Test.Qxb6606436aShelf
import Derived.WalkKit
import Derived.WalkSpells
import Derived.Laws.BytesArg
import Derived.Lib.IndexBytes
namespace Go.Proofs.Qxb6606436a
open Go.RowKit

theorem drop_at (s : ByteArray) (k : Nat) (h : k < s.size) : s.data.toList.drop k = s[k]'h :: s.data.toList.drop (k + 1) := by
  have hl : k < s.data.toList.length := by simpa using h
  rw [List.drop_eq_getElem_cons hl]; rfl
theorem drop_end (s : ByteArray) (k : Nat) (h : s.size ≤ k) : s.data.toList.drop k = [] :=
  List.drop_eq_nil_of_le (by simpa using h)

theorem byte_yes {c d : UInt8} {n : Int} (hn : (d.toNat : Int) = n) (h : ((c.toNat : Int) == n) = true) : c = d := by
  have := beq_iff_eq.1 h
  exact UInt8.toNat_inj.1 (by omega)
theorem byte_no {c d : UInt8} {n : Int} (hn : (d.toNat : Int) = n) (h : ((c.toNat : Int) == n) = false) : c ≠ d := by
  intro e
  have := beq_eq_false_iff_ne.1 h
  subst e
  exact this hn

theorem ret_int {k : IntKind} {a b : Int} (h : a = b) : Ending.returned (.int k a) = .returned (.int k b) := by rw [h]

set_option maxHeartbeats 1000000 in
theorem bad_any (s : ByteArray) (w : World) (hs : s.size ≤ 4294967280) :
    Calls Try.prog 8 #[.string s] w fun e w' => e = .returned (.int .i64 (Pl.bad 0 s.data.toList)) ∧ w' = w := by
  go_enter Try.func8, Try.ntmps8
  go_wp2
  go_loop [3] (fun i => ∃ k : Nat, k ≤ s.size ∧ i = .int .i64 k ∧ Hid (Pl.bad 0 s.data.toList = Pl.bad k (s.data.toList.drop k))) (fun i => s.size - (intOf i).toNat)
  case atStart => exact ⟨0, Nat.zero_le _, rfl, by show _ = _; rw [List.drop_zero]⟩
  case round =>
    obtain ⟨k, hk, rfl, hI⟩ := hrel
    by_cases hlt : k < s.size
    · have hd := drop_at s k hlt
      obtain ⟨c, hc⟩ : ∃ c, s[k]'hlt = c := ⟨_, rfl⟩
      rw [hc] at hd
      have HD : Hid (s.data.toList.drop k = c :: s.data.toList.drop (k + 1)) := hd
      clear hd
      cases h1 : ((c.toNat : Int) == 126) with
      | false =>
        have HN : Hid (Pl.bad 0 s.data.toList = Pl.bad (k + 1) (s.data.toList.drop (k + 1))) := by
          show _ = _
          rw [hI.out, HD.out, Pl.bad_other (byte_no (d := 126) rfl h1)]
        go_wp2
        go_round
        case rel => exact ⟨k + 1, by omega, by go_num, HN⟩
        case measure => simp [intOf]; omega
      | true =>
        obtain rfl : c = 126 := byte_yes rfl h1
        by_cases he : k + 1 = s.size
        · have he' : ((k : Int) + 1 == (s.size : Int)) = true := beq_iff_eq.2 (by omega)
          have HF : Hid (Pl.bad 0 s.data.toList = (k : Int)) := by
            show _ = _
            rw [hI.out, HD.out, drop_end s (k + 1) (by omega), Pl.bad_end]
          clear he
          go_wp2
          go_ret
          exact ⟨ret_int HF.out.symm, rfl⟩
        · have he' : ((k : Int) + 1 == (s.size : Int)) = false := beq_eq_false_iff_ne.2 (by omega)
          have hlt1 : k + 1 < s.size := by omega
          have hd1 := drop_at s (k + 1) hlt1
          obtain ⟨d, hdd⟩ : ∃ d, s[k + 1]'hlt1 = d := ⟨_, rfl⟩
          rw [hdd] at hd1
          have HD1 : Hid (s.data.toList.drop (k + 1) = d :: s.data.toList.drop (k + 1 + 1)) := hd1
          have hr0 : (0 : Int) ≤ (k : Int) + 1 ∧ (k : Int) + 1 < (s.size : Int) := by omega
          clear he hd1
          cases h2 : ((d.toNat : Int) == 48) with
          | true =>
            have h2' : ((d.toNat : Int) != 48) = false := by rw [bne, h2]; rfl
            have hg : d = 48 ∨ d = 49 := .inl (byte_yes rfl h2)
            have HN : Hid (Pl.bad 0 s.data.toList = Pl.bad (k + 1) (s.data.toList.drop (k + 1))) := by
              show _ = _
              rw [hI.out, HD.out, HD1.out, Pl.bad_good hg]
            clear hg
            go_wp2
            go_round
            case rel => exact ⟨k + 1, by omega, by go_num, HN⟩
            case measure => simp [intOf]; omega
          | false =>
            have h2' : ((d.toNat : Int) != 48) = true := by rw [bne, h2]; rfl
            cases h3 : ((d.toNat : Int) == 49) with
            | true =>
              have h3' : ((d.toNat : Int) != 49) = false := by rw [bne, h3]; rfl
              have hg : d = 48 ∨ d = 49 := .inr (byte_yes rfl h3)
              have HN : Hid (Pl.bad 0 s.data.toList = Pl.bad (k + 1) (s.data.toList.drop (k + 1))) := by
                show _ = _
                rw [hI.out, HD.out, HD1.out, Pl.bad_good hg]
              clear hg
              go_wp2
              go_round
              case rel => exact ⟨k + 1, by omega, by go_num, HN⟩
              case measure => simp [intOf]; omega
            | false =>
              have h3' : ((d.toNat : Int) != 49) = true := by rw [bne, h3]; rfl
              have HF : Hid (Pl.bad 0 s.data.toList = (k : Int)) := by
                show _ = _
                rw [hI.out, HD.out, HD1.out, Pl.bad_bad (byte_no rfl h2) (byte_no rfl h3)]
              go_wp2
              go_ret
              exact ⟨ret_int HF.out.symm, rfl⟩
    · have hfin : Pl.bad 0 s.data.toList = -1 := by rw [hI.out, drop_end s k (by omega), Pl.bad_nil]
      have HF : Hid (Pl.bad 0 s.data.toList = -1) := hfin
      clear hfin
      go_wp2
      go_ret
      exact ⟨ret_int HF.out.symm, rfl⟩

theorem Try.info5 : (Try.prog.info? 5).map (fun i => (i.zero, i.size, i.bytes)) = some (some (.int .u8 0), 1, 1) := by kernel_rfl

/-- 'make([]byte, 0, N)' for the walk. -/
theorem wp_make0 (w : World) {ops : Array Oper} {rest : List Oper} {o : Oper} {a : Act} {Q : Exit → Act → World → Prop} (hg : o.guard = none) (l c : Operand) (hop : o.op = Op.makeSlice 28 l c)
    (C : Int) (N : Nat) (hl : a.eval l = .int .i64 0) (hc : a.eval c = .int .i64 C) (hC : C = (N : Int)) (hN : N ≤ 8589934592)
    (hK : ∀ w', Hid (w'.ownsRow w.heap.size 5 1 (.slice (some ⟨w.heap.size, 0, none⟩) 0 N) 0 (Lib.byteCells [])) → Below w.heap.size w w' → wpList Try.prog ops Q rest (a.put o.dst (.slice (some ⟨w.heap.size, 0, none⟩) 0 N)) w') :
    wpList Try.prog ops Q (o :: rest) a w := by
  obtain ⟨i5, hi, hz0, hz1, hz2⟩ := info_parts Try.info5
  refine wpList_make_own w hg l c 28 hop w.heap.size 5 i5 (.int .u8 0) 1 Try.underlying28 hi hz0 hz1 .i64 .i64 C N hl hc hC (by rw [hz2]; omega) (by unfold maxLen; omega) (Nat.le_refl _) ?_
  intro w' hown hgrow
  exact hK w' hown ((Below.refl _ _).grown hgrow (Nat.le_refl _) (fun k hk => by cases hk))

/-- 'append(out, ..)' of bytes that lie in a new block, within the capacity. -/
theorem wp_app (w : World) {ops : Array Oper} {rest : List Oper} {o : Oper} {a : Act} {Q : Exit → Act → World → Prop} (hg : o.guard = none) (s x : Operand)
    (hop : o.op = Op.call { callee := Callee.builtin Builtin.append, args := #[s, x], argTypes := #[28, 28] })
    (B g L cap : Nat) (acc : List UInt8) (hs : a.eval s = .slice (some ⟨g, 0, none⟩) L cap) (hown : w.ownsRow B 5 1 (.slice (some ⟨g, 0, none⟩) L cap) L (Lib.byteCells acc))
    (b0 m c : Nat) (bs : List UInt8) (hx : a.eval x = .slice (some ⟨b0, 0, none⟩) m c) (hm : bs.length = m) (hc : ∀ j u, (Lib.byteCells bs)[j]? = some u → w.cell? ⟨b0, j, none⟩ = some u) (hfit : L + m ≤ cap)
    (w0 : World) (hbel : Below B w0 w) (hBg : B ≤ g) (hBw : B ≤ w.heap.size)
    (hK : ∀ w', Hid (w'.ownsRow B 5 1 (.slice (some ⟨g, 0, none⟩) (L + m) cap) (L + m) (Lib.byteCells (acc ++ bs))) → Below B w0 w' → wpList Try.prog ops Q rest (a.put o.dst (.slice (some ⟨g, 0, none⟩) (L + m) cap)) w') :
    wpList Try.prog ops Q (o :: rest) a w := by
  obtain ⟨i5, hi, hz0, hz1, hz2⟩ := info_parts Try.info5
  refine wpList_append_fits w hg s x 28 hop B 5 i5 1 Try.underlying28 hi hz1 g L cap (Lib.byteCells acc) hs hown ⟨b0, 0, none⟩ m c (Lib.byteCells bs) hx (by rw [Lib.byteCells_length, hm]; omega) ?_ ?_ hfit ?_
  · intro j u hj
    have e : (⟨b0, 0, none⟩ : Addr).add j = ⟨b0, j, none⟩ := by unfold Addr.add; split <;> simp_all
    rw [e]; exact hc j u hj
  · intro v hv
    obtain ⟨b, _, rfl⟩ := List.mem_map.1 hv
    rfl
  · intro w' hown' hgrow
    rw [← Lib.byteCells_append] at hown'
    exact hK w' hown' (hbel.grown hgrow hBw (fun k hk => by cases hk; exact hBg))

theorem cells_two (w : World) (x y : UInt8) (a b : Int) (ha : (x.toNat : Int) = a) (hb : (y.toNat : Int) = b) : ∀ j u, (Lib.byteCells [x, y])[j]? = some u → (w.alloc (.cells #[.int .u8 a, .int .u8 b] 5)).cell? ⟨w.heap.size, j, none⟩ = some u := by
  subst ha
  subst hb
  intro j u hj
  match j, hj with
  | 0, hj => simp [Lib.byteCells] at hj; subst hj; simp
  | 1, hj => simp [Lib.byteCells] at hj; subst hj; simp
  | j + 2, hj => simp [Lib.byteCells] at hj

theorem cells_one (w : World) (x : UInt8) (a : Int) (ha : (x.toNat : Int) = a) : ∀ j u, (Lib.byteCells [x])[j]? = some u → (w.alloc (.cells #[.int .u8 a] 5)).cell? ⟨w.heap.size, j, none⟩ = some u := by
  subst ha
  intro j u hj
  match j, hj with
  | 0, hj => simp [Lib.byteCells] at hj; subst hj; simp
  | j + 1, hj => simp [Lib.byteCells] at hj

/-- 'string(out)' of a row of the call's own. -/
theorem run_string_own {B g L cap : Nat} {acc : List UInt8} {w : World} (hown : w.ownsRow B 5 1 (.slice (some ⟨g, 0, none⟩) L cap) L (Lib.byteCells acc)) :
    (convert 28 9 (.slice (some ⟨g, 0, none⟩) L cap)).run Try.prog w = .ok (.string ⟨acc.toArray⟩) w := by
  have hl : acc.length = L := by
    have := hown.1
    rw [Lib.byteCells_length] at this; omega
  have h := run_convert_bytes_arg (P := Try.prog) w 28 5 Try.underlying28 Try.underlying5 g 0 L cap (acc.map fun b => (b.toNat : Int)) (by simpa using hl) (fun i hi => by
    rw [Nat.zero_add, hown.cellAt i (by omega)]
    have hi' : i < acc.length := by omega
    simp [Lib.byteCells, hi']) 9 Try.underlying9
  rw [h]
  congr 2
  unfold strOfNums
  simp [Function.comp_def]

end Go.Proofs.Qxb6606436a
