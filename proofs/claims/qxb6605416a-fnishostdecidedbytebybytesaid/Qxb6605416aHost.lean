/-
  Seat b6605416a: the walks of 'inHostAlphabet', 'isHost' and 'ZZIsHost'.
-/
import Derived.Test.Qxb6605416aIdx
import Derived.Lib.SlBytesConst
namespace Go.Proofs.Qxb6605416a
open Go.RowKit

/-- The sixty-eight bytes that the law lists. -/
def alpha : List UInt8 := [97, 98, 99, 100, 101, 102, 103, 104, 105, 106, 107, 108, 109, 110, 111, 112, 113, 114, 115, 116, 117, 118, 119, 120, 121, 122, 65, 66, 67, 68, 69, 70, 71, 72, 73, 74, 75, 76, 77, 78, 79, 80, 81, 82, 83, 84, 85, 86, 87, 88, 89, 90, 48, 49, 50, 51, 52, 53, 54, 55, 56, 57, 46, 45, 95, 58, 91, 93]
def alphaS : ByteArray := ⟨alpha.toArray⟩
theorem alphaS_at (k : Nat) (h : k < alphaS.size) : alphaS[k] = alpha.getD k 0 := by
  have hk : k < alpha.length := h
  rw [List.getD_eq_getElem?_getD, List.getElem?_eq_getElem hk]
  rfl

theorem alpha_all : (List.range 256).all (fun n => Pl.hostB (n : Int) == (List.range 68).any (fun j => (alpha.getD j 0).toNat == n)) = true := by decide +kernel

theorem alpha_host {v : Int} (h0 : 0 ≤ v) (h1 : v < 256) : Pl.hostB v = (List.range 68).any (fun j => ((alpha.getD j 0).toNat : Int) == v) := by
  obtain ⟨n, rfl⟩ := Int.eq_ofNat_of_zero_le h0
  have h := List.all_eq_true.1 alpha_all n (List.mem_range.2 (by omega))
  rw [beq_iff_eq.1 h]
  congr 1
  funext j
  rw [Bool.eq_iff_iff]
  simp
  omega

theorem alpha_yes {v : Int} {k : Nat} (h0 : 0 ≤ v) (h1 : v < 256) (hk : k < 68) (h : ((alpha.getD k 0).toNat : Int) = v) : Pl.hostB v = true := by
  rw [alpha_host h0 h1]
  exact List.any_eq_true.2 ⟨k, List.mem_range.2 hk, beq_iff_eq.2 h⟩

theorem alpha_no {v : Int} (h0 : 0 ≤ v) (h1 : v < 256) (h : ∀ j, j < 68 → ((alpha.getD j 0).toNat : Int) ≠ v) : Pl.hostB v = false := by
  rw [alpha_host h0 h1, List.any_eq_false]
  intro j hj
  have := h j (List.mem_range.1 hj)
  simpa using this

theorem ret_bool' {a b : Bool} (h : a = b) : Ending.returned (.bool a) = .returned (.bool b) := by rw [h]

set_option maxHeartbeats 1000000 in
theorem alpha_any (v : Int) (w : World) (h0 : 0 ≤ v) (h1 : v < 256) :
    Calls Try.prog 23 #[.int .u8 v] w fun e w' => e = .returned (.bool (Pl.hostB v)) ∧ w' = w := by
  go_enter Try.func23, Try.ntmps23
  go_wp2
  go_loop [3] (fun i => ∃ k : Nat, k ≤ 68 ∧ i = .int .i64 k ∧ Hid (∀ j, j < k → ((alpha.getD j 0).toNat : Int) ≠ v)) (fun i => 68 - (intOf i).toNat)
  case atStart => exact ⟨0, Nat.zero_le _, rfl, fun j h => absurd h (by omega)⟩
  case round =>
    obtain ⟨k, hk, rfl, hI⟩ := hrel
    by_cases hlt : k < 68
    · go_wp2
      · rename_i h _
        have hlt' : k < alphaS.size := hlt
        have t : ((alphaS[k]'hlt').toNat : Int) = v := beq_iff_eq.1 h
        rw [alphaS_at] at t
        clear h
        go_ret
        exact ⟨ret_bool' (alpha_yes h0 h1 hlt t).symm, rfl⟩
      · rename_i h
        have hlt' : k < alphaS.size := hlt
        have t : ((alphaS[k]'hlt').toNat : Int) ≠ v := beq_eq_false_iff_ne.1 h
        rw [alphaS_at] at t
        have HN : Hid (∀ j, j < k + 1 → ((alpha.getD j 0).toNat : Int) ≠ v) := by
          intro j hj
          by_cases e : j = k
          · rw [e]; exact t
          · exact hI.out j (by omega)
        clear h t
        go_round
        case rel => exact ⟨k + 1, by omega, by go_num, HN⟩
        case measure => simp [intOf]; omega
    · have hb := alpha_no h0 h1 (fun j hj => hI.out j (by omega))
      have HB : Hid (Pl.hostB v = false) := hb
      clear hb
      go_wp2
      go_ret
      exact ⟨ret_bool' HB.out.symm, rfl⟩

/-- The six signs of isHost's second case. -/
def six (i : Nat) : Int := [46, 45, 95, 58, 91, 93].getD i 0

theorem six_idx {v r : Int} (h : IsIdx six 6 v r) : decide (0 ≤ r) = ((v == 46) || (v == 45) || (v == 95) || (v == 58) || (v == 91) || (v == 93)) := by
  have s0 : six 0 = 46 := rfl
  have s1 : six 1 = 45 := rfl
  have s2 : six 2 = 95 := rfl
  have s3 : six 3 = 58 := rfl
  have s4 : six 4 = 91 := rfl
  have s5 : six 5 = 93 := rfl
  rw [Bool.eq_iff_iff]
  simp only [decide_eq_true_eq, Bool.or_eq_true, beq_iff_eq]
  rcases h with ⟨rfl, h⟩ | ⟨m, rfl, hm, h, _⟩
  · have a0 := h 0 (by omega)
    have a1 := h 1 (by omega)
    have a2 := h 2 (by omega)
    have a3 := h 3 (by omega)
    have a4 := h 4 (by omega)
    have a5 := h 5 (by omega)
    omega
  · constructor
    · intro _
      have : m = 0 ∨ m = 1 ∨ m = 2 ∨ m = 3 ∨ m = 4 ∨ m = 5 := by omega
      rcases this with rfl | rfl | rfl | rfl | rfl | rfl <;> omega
    · intro _; omega

theorem rd_six (w : World) (t : TypeId) (fr : Nat × Nat) : Rd (w.alloc (.cells #[.int .u8 46, .int .u8 45, .int .u8 95, .int .u8 58, .int .u8 91, .int .u8 93] t fr)) (some ⟨w.heap.size, 0, none⟩) 6 six := by
  refine .inr ⟨w.heap.size, 0, rfl, by simp, fun i hi => ?_⟩
  rw [Nat.zero_add, World.cell?_alloc_mark]
  match i, hi with
  | 0, _ => rfl
  | 1, _ => rfl
  | 2, _ => rfl
  | 3, _ => rfl
  | 4, _ => rfl
  | 5, _ => rfl

theorem six_wf : ∀ i, i < 6 → 0 ≤ six i ∧ six i < 256 := by
  intro i hi
  match i, hi with
  | 0, _ => decide
  | 1, _ => decide
  | 2, _ => decide
  | 3, _ => decide
  | 4, _ => decide
  | 5, _ => decide

theorem host_signs {v : Int} (h1 : ¬ (97 ≤ v ∧ v ≤ 122)) (h2 : ¬ (65 ≤ v ∧ v ≤ 90)) (h3 : ¬ (48 ≤ v ∧ v ≤ 57)) : Pl.hostB v = ((v == 46) || (v == 45) || (v == 95) || (v == 58) || (v == 91) || (v == 93)) := by
  unfold Pl.hostB
  have e1 : (decide (97 ≤ v) && decide (v ≤ 122)) = false := by simp; omega
  have e2 : (decide (65 ≤ v) && decide (v ≤ 90)) = false := by simp; omega
  have e3 : (decide (48 ≤ v) && decide (v ≤ 57)) = false := by simp; omega
  rw [e1, e2, e3]; simp

theorem host_letters {v : Int} (h : (97 ≤ v ∧ v ≤ 122) ∨ (65 ≤ v ∧ v ≤ 90) ∨ (48 ≤ v ∧ v ≤ 57)) : Pl.hostB v = true := by
  unfold Pl.hostB
  rcases h with ⟨a, b⟩ | ⟨a, b⟩ | ⟨a, b⟩ <;> simp [a, b]

set_option maxHeartbeats 2000000 in
theorem host_some (b o n c : Nat) (f : Nat → Int) (w : World) (hb : b < w.heap.size) (hc : ∀ i, i < n → w.cell? ⟨b, o + i, none⟩ = some (.int .u8 (f i))) (hf : ∀ i, i < n → 0 ≤ f i ∧ f i < 256) (h0 : 0 < n) (hn : n ≤ 1000000000) :
    Calls Try.prog 30 #[.slice (some ⟨b, o, none⟩) n c] w fun e w' => e = .returned (.bool (Pl.hostN f n)) ∧ Below w.heap.size w w' := by
  have kc := fun (w : World) (C : Array Value) (n c : Nat) => Lib.run_convert_bytes_const (P := Try.prog) w 22 5 C n c Try.underlying22 Try.underlying5
  have hne : ((n : Int) == 0) = false := by simp; omega
  go_enter Try.func30, Try.ntmps30
  go_wp2
  go_loopw [10] (fun i wr => ∃ k : Nat, k ≤ n ∧ i = .int .i64 k ∧ Hid (∀ j, j < k → Pl.hostB (f j) = true) ∧ Below w.heap.size w wr) (fun i _ => n - (intOf i).toNat)
  case atStart => exact ⟨0, Nat.zero_le _, rfl, fun j h => absurd h (by omega), Below.refl _ _⟩
  case round =>
    obtain ⟨k, hk, rfl, hI, hbel⟩ := hrel
    by_cases hlt : k < n
    · have hcell : wr.cell? ⟨b, o + k, none⟩ = some (.int .u8 (f k)) := by
        rw [hbel.cell (p := ⟨b, o + k, none⟩) hb]; exact hc k hlt
      have hsz := hbel.size
      have hfk := hf k hlt
      have HN : Hid (Pl.hostB (f k) = true → ∀ j, j < k + 1 → Pl.hostB (f j) = true) := by
        intro hk1 j hj
        by_cases e : j = k
        · rw [e]; exact hk1
        · exact hI.out j (by omega)
      have HF : Hid (Pl.hostB (f k) = false → Pl.hostN f n = false) := by
        intro h; unfold Pl.hostN; rw [Pl.allB_not hlt h, Bool.and_false]
      have ha : ∀ o, Below w.heap.size w (wr.alloc o) := fun o => hbel.alloc hsz o
      clear hI hc hf
      go_wp2_with fail
      all_goals first
        | (go_roundw
           case rel => exact ⟨k + 1, by omega, by go_num, HN.out (host_letters (by omega)), hbel⟩
           case measure => simp [intOf]; omega)
        | skip
      all_goals
        have hsg : Hid (Pl.hostB (f k) = ((f k == 46) || (f k == 45) || (f k == 95) || (f k == 58) || (f k == 91) || (f k == 93))) := host_signs (by omega) (by omega) (by omega)
        refine (idx_any (some ⟨wr.heap.size, 0, none⟩) 6 6 six (f k) _ hfk (rd_six wr 5 (6, 7)) six_wf).mono ?_
        rintro e w' ⟨⟨r, rfl, hidx⟩, hw⟩; subst w'
        have hr := six_idx hidx
        rw [← hsg.out] at hr
        clear hidx hsg
        by_cases hr0 : 0 ≤ r
        · rw [decide_eq_true hr0] at hr
          have HR : Hid (true = Pl.hostB (f k)) := hr
          clear hr
          go_wp2
          go_roundw
          case rel => exact ⟨k + 1, by omega, by go_num, HN.out HR.out.symm, ha _⟩
          case measure => simp [intOf]; omega
        · rw [decide_eq_false hr0] at hr
          have HR : Hid (false = Pl.hostB (f k)) := hr
          clear hr
          go_wp2
          go_ret
          exact ⟨ret_bool' (HF.out HR.out.symm).symm, ha _⟩
    · have hfin : Pl.hostN f n = true := by
        unfold Pl.hostN; rw [Pl.allB_of (fun i hi => hI.out i (by omega)), decide_eq_true h0]; rfl
      have HFIN : Hid (Pl.hostN f n = true) := hfin
      clear hfin
      go_wp2
      go_ret
      exact ⟨ret_bool' HFIN.out.symm, hbel⟩

set_option maxHeartbeats 400000 in
theorem host_none (p : Option Addr) (c : Nat) (f : Nat → Int) (w : World) :
    Calls Try.prog 30 #[.slice p 0 c] w fun e w' => e = .returned (.bool (Pl.hostN f 0)) ∧ Below w.heap.size w w' := by
  go_enter Try.func30, Try.ntmps30
  go_wp2
  go_ret
  exact ⟨rfl, Below.refl _ _⟩

theorem host_any (p : Option Addr) (n c : Nat) (f : Nat → Int) (w : World) (hr : Rd w p n f) (hf : ∀ i, i < n → 0 ≤ f i ∧ f i < 256) (hn : n ≤ 1000000000) :
    Calls Try.prog 30 #[.slice p n c] w fun e w' => e = .returned (.bool (Pl.hostN f n)) ∧ Below w.heap.size w w' := by
  by_cases h0 : n = 0
  · subst h0; exact host_none p c f w
  · rcases hr with h | ⟨b, o, rfl, hb, hc⟩
    · exact absurd h h0
    · exact host_some b o n c f w hb hc hf (by omega) hn

set_option maxHeartbeats 400000 in
theorem zhost_any (p : Option Addr) (n c : Nat) (f : Nat → Int) (w : World) (hr : Rd w p n f) (hf : ∀ i, i < n → 0 ≤ f i ∧ f i < 256) (hn : n ≤ 1000000000) :
    Calls Try.prog 24 #[.slice p n c] w fun e w' => e = .returned (.bool (Pl.hostN f n)) ∧ Below w.heap.size w w' := by
  go_enter Try.func24, Try.ntmps24
  go_wp2_with fail
  refine (host_any p n c f w hr hf hn).mono ?_
  rintro e w' ⟨rfl, hb⟩
  go_wp2
  go_ret
  exact ⟨rfl, hb⟩

end Go.Proofs.Qxb6605416a
