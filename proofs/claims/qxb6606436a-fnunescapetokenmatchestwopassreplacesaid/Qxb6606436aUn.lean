/-
  Seat b6606436a: the walks of unescapeToken and ZZunescapeToken.
-/
import Derived.Test.Qxb6606436aWalks
namespace Go.Proofs.Qxb6606436a
open Go.RowKit

theorem idx_spec (c : UInt8) : ∀ l : List UInt8, (Lib.indexByte l c = -1 ∧ ∀ j (h : j < l.length), l[j] ≠ c) ∨ ∃ m : Nat, Lib.indexByte l c = m ∧ m < l.length ∧ ∀ j (h : j < l.length), j < m → l[j] ≠ c
  | [] => .inl ⟨rfl, fun j h => absurd h (by simp)⟩
  | b :: l => by
    by_cases hb : b = c
    · right
      refine ⟨0, ?_, by simp, fun j _ hj => absurd hj (by omega)⟩
      rw [Lib.indexByte, if_pos (by simpa using hb)]; rfl
    · have hb' : ¬ (b == c) = true := by simpa using hb
      rcases idx_spec c l with ⟨h1, h2⟩ | ⟨m, h1, h2, h3⟩
      · left
        refine ⟨?_, fun j hj => ?_⟩
        · rw [Lib.indexByte, if_neg hb', h1]; rfl
        · match j, hj with
          | 0, _ => exact hb
          | j + 1, hj => exact h2 j (by simpa using hj)
      · right
        refine ⟨m + 1, ?_, by simpa using h2, fun j hj hjm => ?_⟩
        · rw [Lib.indexByte, if_neg hb', h1, if_neg (by simp)]; omega
        · match j, hj with
          | 0, _ => exact hb
          | j + 1, hj => exact h3 j (by simpa using hj) (by omega)

theorem cells_take (s : ByteArray) (m : Nat) : Lib.strCells (s.extract 0 m) = Lib.byteCells (s.data.toList.take m) := by
  rw [Lib.strCells_eq, Lib.extract_data, List.drop_zero, Nat.sub_zero]

theorem snoc_cells (acc : List UInt8) (c : UInt8) (n : Int) (h : (c.toNat : Int) = n) : Lib.byteCells acc ++ [.int .u8 n] = Lib.byteCells (acc ++ [c]) := by
  subst h; rw [Lib.byteCells_append]; rfl

set_option maxHeartbeats 2000000 in
theorem un_any (B b : Nat) (s : ByteArray) (w : World) (hs : s.size ≤ 4294967280) (hbu : Lib.IsBuilder 30 5 B b (Lib.byteCells []) w) (hBw : B ≤ w.heap.size) :
    Calls Try.prog 13 #[.pointer (some ⟨b, 0, none⟩), .string s] w fun e w' => e = .returned (.int .i64 (Pl.un 0 s.data.toList).2) ∧
      Lib.BuilderAt 30 5 B b (.pointer (some ⟨b, 0, none⟩)) (Lib.byteCells (Pl.un 0 s.data.toList).1) w' ∧ Below B w w' := by
  obtain ⟨U, hU⟩ : ∃ U, U = Pl.un 0 s.data.toList := ⟨_, rfl⟩
  have HU : Hid (U = Pl.un 0 s.data.toList) := hU
  rw [← hU]
  clear hU
  have hsl := Lib.size_eq s
  have HSL : Hid (s.size = s.data.toList.length) := hsl
  clear hsl
  go_enter Try.func13, Try.ntmps13
  go_wp2_with fail
  refine (Try.strings_IndexByte s 126 w).mono ?_
  rintro e w' ⟨rfl, hw⟩; subst w'
  rcases idx_spec 126 s.data.toList with ⟨h1, h2⟩ | ⟨m, h1, h2, h3⟩
  · have h1' : Lib.indexByte s.data.toList (126 : Int).toNat.toUInt8 = -1 := h1
    rw [h1']
    have HF : Hid (U = (s.data.toList, -1)) := by
      show _ = _
      rw [HU.out, Pl.un_prefix s.data.toList 0 s.data.toList.length (Nat.le_refl _) (fun j hj _ => h2 j hj), List.drop_length, Pl.un_nil, List.take_length, List.append_nil]
    clear h1 h1' h2
    go_wp2_with fail
    refine (Try.Builder_WriteString B b (Lib.byteCells []) s w hbu (by simp [Lib.byteCells]; omega) hBw).mono ?_
    rintro e w1 ⟨rfl, hb1, hbel⟩
    have HB1 : Hid (Lib.BuilderAt 30 5 B b (.pointer (some ⟨b, 0, none⟩)) (Lib.byteCells U.1) w1) := by
      show Lib.BuilderAt _ _ _ _ _ _ _
      rw [HF.out]; exact hb1
    have H2 : Hid (U.2 = -1) := by show _ = _; rw [HF.out]
    clear hb1 hbu
    go_wp2
    go_ret
    exact ⟨ret_int H2.out.symm, HB1.out, hbel⟩
  · have h1' : Lib.indexByte s.data.toList (126 : Int).toNat.toUInt8 = (m : Int) := h1
    rw [h1']
    have hm : m < s.size := by rw [HSL.out]; exact h2
    have HF : Hid (U = (s.data.toList.take m ++ (Pl.un m (s.data.toList.drop m)).1, (Pl.un m (s.data.toList.drop m)).2)) := by
      show _ = _
      rw [HU.out, Pl.un_prefix s.data.toList 0 m (by omega) h3, Nat.zero_add]
    clear h1 h1' h2 h3
    go_wp2_with fail
    refine (Try.Builder_WriteString B b (Lib.byteCells []) (s.extract 0 m) w hbu (by simp [Lib.byteCells]; omega) hBw).mono ?_
    rintro e w1 ⟨rfl, hb1, hbel1⟩
    rw [cells_take] at hb1
    have HB1 : Hid (Lib.BuilderAt 30 5 B b (.pointer (some ⟨b, 0, none⟩)) (Lib.byteCells (s.data.toList.take m)) w1) := hb1
    clear hb1 hbu
    have hlt0 : (s.data.toList.take m).length ≤ m := List.length_take_le _ _
    go_wp2
    go_loopw [5] (fun i wr => ∃ (k : Nat) (acc : List UInt8), k ≤ s.size ∧ i = .int .i64 k ∧ acc.length ≤ k ∧ Hid (U = (acc ++ (Pl.un k (s.data.toList.drop k)).1, (Pl.un k (s.data.toList.drop k)).2)) ∧
        Hid (Lib.BuilderAt 30 5 B b (.pointer (some ⟨b, 0, none⟩)) (Lib.byteCells acc) wr) ∧ Below B w wr) (fun i _ => s.size - (intOf i).toNat)
    case atStart => exact ⟨m, _, by omega, rfl, hlt0, HF, HB1, hbel1⟩
    case round =>
      obtain ⟨k, acc, hk, rfl, hal, hI, hbu, hbel⟩ := hrel
      clear HF HB1 hbel1 hlt0
      have hsz := hbel.size
      by_cases hlt : k < s.size
      · have hd := drop_at s k hlt
        obtain ⟨c, hc⟩ : ∃ c, s[k]'hlt = c := ⟨_, rfl⟩
        rw [hc] at hd
        have HD : Hid (s.data.toList.drop k = c :: s.data.toList.drop (k + 1)) := hd
        clear hd
        cases h1 : ((c.toNat : Int) == 126) with
        | false =>
          have HA : Hid (U = (acc ++ [c] ++ (Pl.un (k + 1) (s.data.toList.drop (k + 1))).1, (Pl.un (k + 1) (s.data.toList.drop (k + 1))).2)) := by
            show _ = _; rw [hI.out, HD.out, Pl.un_other (byte_no rfl h1)]; simp
          go_wp2_with fail
          refine (Try.Builder_WriteByte B b (Lib.byteCells acc) (c.toNat : Int) wr (.inr hbu.out) (by rw [Lib.byteCells_length]; omega) (by omega)).mono ?_
          rintro e w2 ⟨rfl, hb2, hbel2⟩
          rw [snoc_cells acc c _ rfl] at hb2
          have HB2 : Hid (Lib.BuilderAt 30 5 B b (.pointer (some ⟨b, 0, none⟩)) (Lib.byteCells (acc ++ [c])) w2) := hb2
          have hB2 : Below B w w2 := hbel.trans hbel2
          clear hb2 hbel2 hbel hbu
          go_wp2
          go_roundw
          case rel => exact ⟨k + 1, acc ++ [c], by omega, by go_num, by simp; omega, HA, HB2, hB2⟩
          case measure => simp [intOf]; omega
        | true =>
          obtain rfl : c = 126 := byte_yes rfl h1
          by_cases he : k + 1 = s.size
          · have he' : ((k : Int) + 1 == (s.size : Int)) = true := beq_iff_eq.2 (by omega)
            have HA : Hid (U = (acc, (k : Int))) := by
              show _ = _
              rw [hI.out, HD.out, drop_end s (k + 1) (by omega), Pl.un_end]; simp
            have HB : Hid (Lib.BuilderAt 30 5 B b (.pointer (some ⟨b, 0, none⟩)) (Lib.byteCells U.1) wr) := by
              show Lib.BuilderAt _ _ _ _ _ _ _
              rw [HA.out]; exact hbu.out
            have H2 : Hid (U.2 = (k : Int)) := by show _ = _; rw [HA.out]
            clear he hbu
            go_wp2
            go_ret
            exact ⟨ret_int H2.out.symm, HB.out, hbel⟩
          · have he' : ((k : Int) + 1 == (s.size : Int)) = false := beq_eq_false_iff_ne.2 (by omega)
            have hlt1 : k + 1 < s.size := by omega
            have hd1 := drop_at s (k + 1) hlt1
            obtain ⟨d, hdd⟩ : ∃ d, s[k + 1]'hlt1 = d := ⟨_, rfl⟩
            rw [hdd] at hd1
            have HD1 : Hid (s.data.toList.drop (k + 1) = d :: s.data.toList.drop (k + 1 + 1)) := hd1
            have hr0 : (0 : Int) ≤ (k : Int) + 1 ∧ (k : Int) + 1 < (s.size : Int) := by omega
            clear he hd1
            cases h2 : ((d.toNat : Int) == 48) with
            | true =>
              have hdx : d = 48 := byte_yes rfl h2
              have HA : Hid (U = (acc ++ [126] ++ (Pl.un (k + 2) (s.data.toList.drop (k + 2))).1, (Pl.un (k + 2) (s.data.toList.drop (k + 2))).2)) := by
                show _ = _; rw [hI.out, HD.out, HD1.out, hdx, Pl.un_zero]; simp
              clear hdx
              go_wp2_with fail
              refine (Try.Builder_WriteByte B b (Lib.byteCells acc) 126 wr (.inr hbu.out) (by rw [Lib.byteCells_length]; omega) (by omega)).mono ?_
              rintro e w2 ⟨rfl, hb2, hbel2⟩
              rw [snoc_cells acc 126 126 rfl] at hb2
              have HB2 : Hid (Lib.BuilderAt 30 5 B b (.pointer (some ⟨b, 0, none⟩)) (Lib.byteCells (acc ++ [126])) w2) := hb2
              have hB2 : Below B w w2 := hbel.trans hbel2
              clear hb2 hbel2 hbel hbu
              go_wp2
              go_roundw
              case rel => exact ⟨k + 2, acc ++ [126], by omega, by go_num, by simp; omega, HA, HB2, hB2⟩
              case measure => simp [intOf]; omega
            | false =>
              cases h3 : ((d.toNat : Int) == 49) with
              | true =>
                have hdx : d = 49 := byte_yes rfl h3
                have HA : Hid (U = (acc ++ [47] ++ (Pl.un (k + 2) (s.data.toList.drop (k + 2))).1, (Pl.un (k + 2) (s.data.toList.drop (k + 2))).2)) := by
                  show _ = _; rw [hI.out, HD.out, HD1.out, hdx, Pl.un_one]; simp
                clear hdx
                go_wp2_with fail
                refine (Try.Builder_WriteByte B b (Lib.byteCells acc) 47 wr (.inr hbu.out) (by rw [Lib.byteCells_length]; omega) (by omega)).mono ?_
                rintro e w2 ⟨rfl, hb2, hbel2⟩
                rw [snoc_cells acc 47 47 rfl] at hb2
                have HB2 : Hid (Lib.BuilderAt 30 5 B b (.pointer (some ⟨b, 0, none⟩)) (Lib.byteCells (acc ++ [47])) w2) := hb2
                have hB2 : Below B w w2 := hbel.trans hbel2
                clear hb2 hbel2 hbel hbu
                go_wp2
                go_roundw
                case rel => exact ⟨k + 2, acc ++ [47], by omega, by go_num, by simp; omega, HA, HB2, hB2⟩
                case measure => simp [intOf]; omega
              | false =>
                have HA : Hid (U = (acc, (k : Int))) := by
                  show _ = _
                  rw [hI.out, HD.out, HD1.out, Pl.un_bad k (byte_no rfl h2) (byte_no rfl h3)]; simp
                have HB : Hid (Lib.BuilderAt 30 5 B b (.pointer (some ⟨b, 0, none⟩)) (Lib.byteCells U.1) wr) := by
                  show Lib.BuilderAt _ _ _ _ _ _ _
                  rw [HA.out]; exact hbu.out
                have H2 : Hid (U.2 = (k : Int)) := by show _ = _; rw [HA.out]
                clear hbu
                go_wp2
                go_ret
                exact ⟨ret_int H2.out.symm, HB.out, hbel⟩
      · have HA : Hid (U = (acc, -1)) := by
          show _ = _
          rw [hI.out, drop_end s k (by omega), Pl.un_nil]; simp
        have HB : Hid (Lib.BuilderAt 30 5 B b (.pointer (some ⟨b, 0, none⟩)) (Lib.byteCells U.1) wr) := by
          show Lib.BuilderAt _ _ _ _ _ _ _
          rw [HA.out]; exact hbu.out
        have H2 : Hid (U.2 = -1) := by show _ = _; rw [HA.out]
        clear hbu
        go_wp2
        go_ret
        exact ⟨ret_int H2.out.symm, HB.out, hbel⟩

theorem fresh_builder (w : World) : Lib.IsBuilder 30 5 w.heap.size w.heap.size (Lib.byteCells []) (w.alloc (.cells #[.pointer none, .slice none 0 0] 30)) := by
  refine .inl ⟨Nat.le_refl _, .slice none 0 0, ?_, World.ownsRow_nil _ _ _ _, by simp [Value.ownBlock]⟩
  exact heap_alloc_new _ _

set_option maxHeartbeats 1000000 in
theorem zun_any (s : ByteArray) (w : World) (hs : s.size ≤ 4294967280) :
    Calls Try.prog 7 #[.string s] w fun e w' => e = .returned (.tuple #[.string ⟨(Pl.un 0 s.data.toList).1.toArray⟩, .int .i64 (Pl.un 0 s.data.toList).2]) ∧ Below w.heap.size w w' := by
  obtain ⟨U, hU⟩ : ∃ U, U = Pl.un 0 s.data.toList := ⟨_, rfl⟩
  have HU : Hid (U = Pl.un 0 s.data.toList) := hU
  rw [← hU]
  clear hU
  have hfr := fresh_builder w
  have HFR : Hid (Lib.IsBuilder 30 5 w.heap.size w.heap.size (Lib.byteCells []) (w.alloc (.cells #[.pointer none, .slice none 0 0] 30))) := hfr
  have ha : Below w.heap.size w (w.alloc (.cells #[.pointer none, .slice none 0 0] 30)) := (Below.refl _ _).alloc (Nat.le_refl _) _
  clear hfr
  go_enter Try.func7, Try.ntmps7
  go_wp2_with fail
  refine (un_any w.heap.size w.heap.size s (w.alloc (.cells #[.pointer none, .slice none 0 0] 30)) hs HFR.out (by simp)).mono ?_
  rintro e w1 ⟨rfl, hb1, hbel1⟩
  rw [← HU.out] at hb1 ⊢
  have HB1 : Hid (Lib.BuilderAt 30 5 w.heap.size w.heap.size (.pointer (some ⟨w.heap.size, 0, none⟩)) (Lib.byteCells U.1) w1) := hb1
  have hB1 : Below w.heap.size w w1 := ha.trans hbel1
  clear hb1 hbel1 ha HFR
  have hs1 := hB1.size
  go_wp2_with fail
  refine (Try.Builder_String_any w.heap.size w.heap.size U.1 w1 (.inr HB1.out) hs1).mono ?_
  rintro e w2 ⟨rfl, hbel2⟩
  have hB2 : Below w.heap.size w w2 := hB1.trans hbel2
  clear hbel2 HB1 hB1 hs1
  go_wp2
  go_ret2
  exact ⟨rfl, hB2⟩

end Go.Proofs.Qxb6606436a
