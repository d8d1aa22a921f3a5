/-
  Seat b6605416a: the walk of 'catBytes', and what a copy into new memory leaves.
-/
import Derived.Test.Qxb6605416aShort
import Derived.Laws.CopyOwn
namespace Go.Proofs.Qxb6605416a
open Go.RowKit

theorem Try.info5 : (Try.prog.info? 5).map (fun i => (i.zero, i.size, i.bytes)) = some (some (.int .u8 0), 1, 1) := by kernel_rfl
theorem Try.size5 : (Try.prog.info? 5).map (·.size) = some 1 := by kernel_rfl

/-- The cells of the numbers f, as values. -/
def cellsOf (f : Nat → Int) (n : Nat) : List Value := (List.range n).map fun i => .int .u8 (f i)
theorem length_cellsOf (f : Nat → Int) (n : Nat) : (cellsOf f n).length = n := by simp [cellsOf]
theorem cellsOf_get {f : Nat → Int} {n j : Nat} {v : Value} (h : (cellsOf f n)[j]? = some v) : j < n ∧ v = .int .u8 (f j) := by
  unfold cellsOf at h
  rw [List.getElem?_map] at h
  by_cases hj : j < n
  · rw [List.getElem?_range hj] at h
    simp at h
    exact ⟨hj, h.symm⟩
  · rw [List.getElem?_eq_none (by simp; omega)] at h
    simp at h
theorem cellsOf_at (f : Nat → Int) {n j : Nat} (h : j < n) : (cellsOf f n)[j]? = some (.int .u8 (f j)) := by
  unfold cellsOf
  rw [List.getElem?_map, List.getElem?_range h]; rfl
theorem cellsOf_one (f : Nat → Int) (n : Nat) : ∀ v ∈ cellsOf f n, v.oneCell' = true := by
  intro v hv
  obtain ⟨i, _, rfl⟩ := List.mem_map.1 hv
  rfl

theorem Rd.src {w : World} {p : Option Addr} {n : Nat} {f : Nat → Int} (h : Rd w p n f) (hn : 0 < (cellsOf f n).length) :
    ∃ ad, p = some ad ∧ ∀ j v, (cellsOf f n)[j]? = some v → w.cell? (ad.add j) = some v := by
  rw [length_cellsOf] at hn
  rcases h with h | ⟨b, o, rfl, _, hc⟩
  · omega
  · refine ⟨_, rfl, fun j v hv => ?_⟩
    obtain ⟨hj, rfl⟩ := cellsOf_get hv
    have e : (⟨b, o, none⟩ : Addr).add j = ⟨b, o + j, none⟩ := by unfold Addr.add; split <;> simp_all
    rw [e]; exact hc j hj

/-- What one reads off a row that is known whole. -/
theorem Rd.row {w : World} {g n : Nat} {L : List Value} {t : TypeId} {f : Nat → Int} (hg : w.heap[g]? = some (.cells L.toArray t (0, 0))) (h : ∀ i, i < n → L[i]? = some (.int .u8 (f i))) :
    Rd w (some ⟨g, 0, none⟩) n f := by
  refine .inr ⟨g, 0, rfl, (Array.getElem?_eq_some_iff.1 hg).1, fun i hi => ?_⟩
  simp [World.cell?, hg, h i hi]

theorem splice_all (L : List Value) (f : Nat → Int) (n : Nat) (h : L.length = n) : splice L 0 (cellsOf f n) = cellsOf f n := by
  unfold splice
  rw [List.drop_eq_nil_of_le (by rw [length_cellsOf]; omega)]; simp

theorem splice_two (L : List Value) (f g : Nat → Int) (n m : Nat) (h : L.length = n + m) : splice (splice L 0 (cellsOf f n)) n (cellsOf g m) = cellsOf (fun i => if i < n then f i else g (i - n)) (n + m) := by
  have h1 : (splice L 0 (cellsOf f n)).take n = cellsOf f n := by
    unfold splice
    rw [List.take_zero, List.nil_append, List.take_append_of_le_length (by rw [length_cellsOf]; omega)]
    exact List.take_of_length_le (by rw [length_cellsOf]; omega)
  have h2 : (splice L 0 (cellsOf f n)).drop (n + m) = [] := by
    apply List.drop_eq_nil_of_le
    rw [length_splice _ _ _ (by rw [length_cellsOf]; omega), h]; omega
  have h3 : splice (splice L 0 (cellsOf f n)) n (cellsOf g m) = cellsOf f n ++ cellsOf g m := by
    show (splice L 0 (cellsOf f n)).take n ++ (cellsOf g m ++ (splice L 0 (cellsOf f n)).drop (n + (cellsOf g m).length)) = _
    rw [length_cellsOf, h1, h2, List.append_nil]
  rw [h3]
  apply List.ext_getElem?
  intro i
  by_cases hi : i < n
  · rw [List.getElem?_append_left (by rw [length_cellsOf]; exact hi), cellsOf_at f hi, cellsOf_at _ (by omega), if_pos hi]
  · rw [List.getElem?_append_right (by rw [length_cellsOf]; omega), length_cellsOf]
    by_cases hm : i < n + m
    · rw [cellsOf_at g (by omega), cellsOf_at _ hm, if_neg hi]
    · rw [List.getElem?_eq_none (by rw [length_cellsOf]; omega), List.getElem?_eq_none (by rw [length_cellsOf]; omega)]

/-- 'make([]byte, N)' for the walk: a new row of N cells at the heap's end; nothing old has turned. -/
theorem wp_make (w : World) {ops : Array Oper} {rest : List Oper} {o : Oper} {a : Act} {Q : Exit → Act → World → Prop} (hg : o.guard = none) (l c : Operand) (hop : o.op = Op.makeSlice 22 l c)
    (L C : Int) (N : Nat) (hl : a.eval l = .int .i64 L) (hc : a.eval c = .int .i64 C) (hL : L = (N : Int)) (hC : C = (N : Int)) (hN : N ≤ 4000000000)
    (hK : ∀ (w' : World) (Z : List Value), Hid (w'.heap[w.heap.size]? = some (.cells Z.toArray 5 (0, 0))) → Hid (Z.length = N) → Below w.heap.size w w' → wpList Try.prog ops Q rest (a.put o.dst (.slice (some ⟨w.heap.size, 0, none⟩) N N)) w') :
    wpList Try.prog ops Q (o :: rest) a w := by
  obtain ⟨i5, hi, hz0, hz1, hz2⟩ := info_parts Try.info5
  refine wpList_make_full w hg l c 22 hop w.heap.size 5 i5 (.int .u8 0) 1 Try.underlying22 hi hz0 hz1 .i64 .i64 L C N hl hc hL hC (by rw [hz2]; omega) (by unfold maxLen; omega) (Nat.le_refl _) ?_
  intro w' hown hgrow
  obtain ⟨_, hnil | ⟨g, cap, cur, hv, _, hh, _, _, hsz, _⟩⟩ := hown
  · simp at hnil
  · simp at hv
    obtain ⟨rfl, rfl⟩ := hv
    refine hK w' cur.toList (by show _ = _; simpa using hh) (by show _ = _; simpa using hsz) ?_
    exact (Below.refl _ _).grown hgrow (Nat.le_refl _) (fun k hk => by cases hk)

set_option maxHeartbeats 1000000 in
theorem cat_any (p q : Option Addr) (n c m d : Nat) (f g : Nat → Int) (w : World) (hp : Rd w p n f) (hq : Rd w q m g) (hn : n ≤ 1000000000) (hm : m ≤ 1000000000) :
    Calls Try.prog 13 #[.slice p n c, .slice q m d] w fun e w' => e = .returned (.slice (some ⟨w.heap.size, 0, none⟩) (n + m) (n + m)) ∧
      Rd w' (some ⟨w.heap.size, 0, none⟩) (n + m) (fun i => if i < n then f i else g (i - n)) ∧ Below w.heap.size w w' := by
  obtain ⟨X1, eX1⟩ : ∃ X1, X1 = cellsOf f n := ⟨_, rfl⟩
  obtain ⟨X2, eX2⟩ : ∃ X2, X2 = cellsOf g m := ⟨_, rfl⟩
  have HX1 : Hid (X1 = cellsOf f n) := eX1
  have HX2 : Hid (X2 = cellsOf g m) := eX2
  have hl1 : Hid (X1.length = n) := by show _ = _; rw [eX1, length_cellsOf]
  have hl2 : Hid (X2.length = m) := by show _ = _; rw [eX2, length_cellsOf]
  clear eX1 eX2
  by_cases hm0 : m = 0
  · subst hm0
    go_enter Try.func13, Try.ntmps13
    go_wp2_with (first
      | (at_make; refine wp_make _ rfl (.tmp 10) (.tmp 10) rfl _ _ (n + 0) rfl rfl (by omega) (by omega) (by omega) ?_; intro w1 Z hZ hZl hb1; have hs1 := hb1.size)
      | (refine wpList_copy_splice rfl (.tmp 12) (.tmp 13) 22 22 rfl 5 Try.underlying22 Try.size5 _ _ _ _ _ _ rfl rfl w.heap.size 0 Z 5 hZ.out X1 ?_ ?_ ?_ ?_ w.heap.size w hb1 (Nat.le_refl _) ?_; (rw [hl1.out]; exact (Nat.min_eq_left (by omega)).symm); (intro h; refine ⟨rfl, ?_⟩; rw [HX1.out] at h ⊢; exact (hp.below hb1).src h); (rw [hl1.out, hZl.out]; omega); (rw [HX1.out]; exact cellsOf_one f n); intro w2 hZ2 hb2)
      | (refine wpList_copy_nothing rfl (.tmp 18) (.tmp 19) 22 22 rfl 5 Try.underlying22 Try.size5 _ _ _ _ _ _ rfl rfl (by simp) ?_))
    go_ret
    refine ⟨rfl, ?_, hb2⟩
    have h := hZ2.out
    rw [HX1.out, splice_all Z f n (by rw [hZl.out]; omega)] at h
    exact Rd.row h (fun i hi => by rw [cellsOf_at f (show i < n by omega), if_pos (by omega)])
  · go_enter Try.func13, Try.ntmps13
    go_wp2_with (first
      | (at_make; refine wp_make _ rfl (.tmp 10) (.tmp 10) rfl _ _ (n + m) rfl rfl (by omega) (by omega) (by omega) ?_; intro w1 Z hZ hZl hb1; have hs1 := hb1.size)
      | (refine wpList_copy_splice rfl (.tmp 12) (.tmp 13) 22 22 rfl 5 Try.underlying22 Try.size5 _ _ _ _ _ _ rfl rfl w.heap.size 0 Z 5 hZ.out X1 ?_ ?_ ?_ ?_ w.heap.size w hb1 (Nat.le_refl _) ?_; (rw [hl1.out]; exact (Nat.min_eq_left (by omega)).symm); (intro h; refine ⟨rfl, ?_⟩; rw [HX1.out] at h ⊢; exact (hp.below hb1).src h); (rw [hl1.out, hZl.out]; omega); (rw [HX1.out]; exact cellsOf_one f n); intro w2 hZ2 hb2)
      | (refine wpList_copy_splice rfl (.tmp 18) (.tmp 19) 22 22 rfl 5 Try.underlying22 Try.size5 _ _ _ _ _ _ rfl rfl w.heap.size n (splice Z 0 X1) 5 hZ2.out X2 ?_ ?_ ?_ ?_ w.heap.size w hb2 (Nat.le_refl _) ?_; (rw [hl2.out]; exact (Nat.min_eq_left (by omega)).symm); (intro h; refine ⟨by simp, ?_⟩; rw [HX2.out] at h ⊢; exact (hq.below hb2).src h); (rw [length_splice _ _ _ (by rw [hl1.out, hZl.out]; omega), hl2.out, hZl.out]; omega); (rw [HX2.out]; exact cellsOf_one g m); intro w3 hZ3 hb3))
    go_ret
    refine ⟨rfl, ?_, hb3⟩
    have h := hZ3.out
    rw [HX1.out, HX2.out, splice_two Z f g n m hZl.out] at h
    exact Rd.row h (fun i hi => cellsOf_at _ hi)
end Go.Proofs.Qxb6605416a
