/-
  Seat b6605416a: what 'bytes.IndexByte' answers, over bytes that are told by a function from places to numbers.
-/
import Derived.Test.Qxb6605416aRows
import Derived.Test.Qxb6605416aPlain
import Derived.WalkKit
import Derived.WalkSpells
import Derived.Lib.BytesEntry
namespace Go.Proofs.Qxb6605416a
open Go.RowKit

/-- The slice's first n cells hold the numbers f; of a slice of no byte nothing is said. -/
def Rd (w : World) (p : Option Addr) (n : Nat) (f : Nat → Int) : Prop :=
  n = 0 ∨ ∃ b o, p = some ⟨b, o, none⟩ ∧ b < w.heap.size ∧ ∀ i, i < n → w.cell? ⟨b, o + i, none⟩ = some (.int .u8 (f i))

theorem Rd.below {w w' : World} {p : Option Addr} {n : Nat} {f : Nat → Int} (h : Rd w p n f) (hb : Below w.heap.size w w') : Rd w' p n f := by
  rcases h with h | ⟨b, o, hp, hlt, hc⟩
  · exact .inl h
  · refine .inr ⟨b, o, hp, by have := hb.size; omega, fun i hi => ?_⟩
    rw [hb.cell (p := ⟨b, o + i, none⟩) hlt]; exact hc i hi

/-- What 'bytes.IndexByte' answers. -/
def IsIdx (f : Nat → Int) (n : Nat) (c r : Int) : Prop :=
  (r = -1 ∧ ∀ k, k < n → f k ≠ c) ∨ ∃ m : Nat, r = m ∧ m < n ∧ f m = c ∧ ∀ k, k < m → f k ≠ c

theorem idx_list (f : Nat → Int) (c : Int) (hc : 0 ≤ c ∧ c < 256) : ∀ (n : Nat), (∀ i, i < n → 0 ≤ f i ∧ f i < 256) →
    IsIdx f n c (Lib.indexByte (Lib.bytesOf ((List.range n).map f)) c.toNat.toUInt8) := by
  intro n
  induction n generalizing f with
  | zero => intro _; exact .inl ⟨rfl, fun k hk => absurd hk (by omega)⟩
  | succ n ih =>
    intro hf
    have e : Lib.bytesOf ((List.range (n + 1)).map f) = UInt8.ofNat (f 0).toNat :: Lib.bytesOf ((List.range n).map fun i => f (i + 1)) := by
      rw [List.range_succ_eq_map]
      simp [Lib.bytesOf, Function.comp_def]
    rw [e]
    have ih' := ih (fun i => f (i + 1)) (fun i hi => hf (i + 1) (by omega))
    have h0 := hf 0 (by omega)
    unfold Lib.indexByte
    by_cases hb : f 0 = c
    · have hb' : (UInt8.ofNat (f 0).toNat == c.toNat.toUInt8) = true := by rw [hb]; simp
      rw [if_pos hb']
      exact .inr ⟨0, rfl, by omega, hb, fun k hk => absurd hk (by omega)⟩
    · have hb' : ¬ (UInt8.ofNat (f 0).toNat == c.toNat.toUInt8) = true := by
        intro h
        have h2 := congrArg UInt8.toNat (beq_iff_eq.1 h)
        simp at h2
        omega
      rw [if_neg hb']
      generalize Lib.indexByte (Lib.bytesOf ((List.range n).map fun i => f (i + 1))) c.toNat.toUInt8 = r at ih'
      rcases ih' with ⟨rfl, h⟩ | ⟨m, rfl, hm, hfm, hlt⟩
      · refine .inl ⟨rfl, fun k hk => ?_⟩
        match k, hk with
        | 0, _ => exact hb
        | k + 1, hk => exact h k (by omega)
      · rw [if_neg (by simp)]
        refine .inr ⟨m + 1, by omega, by omega, hfm, fun k hk => ?_⟩
        match k, hk with
        | 0, _ => exact hb
        | k + 1, hk => exact hlt k (by omega)

theorem run_idx_none (a : Addr) (c : Nat) (cv : Int) (w : World) :
    (Extern.BytealgIndexByte.indexByte #[.slice (some a) 0 c, .int .u8 cv]).run Try.prog w = .ok (.int .i64 (-1)) w :=
  Lib.run_indexByteString (P := Try.prog) .empty cv w

theorem run_idx (p : Option Addr) (n c : Nat) (f : Nat → Int) (cv : Int) (hcv : 0 ≤ cv ∧ cv < 256) (w : World) (hr : Rd w p n f) (hf : ∀ i, i < n → 0 ≤ f i ∧ f i < 256) :
    ∃ r, IsIdx f n cv r ∧ (Extern.BytealgIndexByte.indexByte #[.slice p n c, .int .u8 cv]).run Try.prog w = .ok (.int .i64 r) w := by
  rcases hr with rfl | ⟨b, o, rfl, _, hc⟩
  · refine ⟨-1, .inl ⟨rfl, fun k hk => absurd hk (by omega)⟩, ?_⟩
    cases p with
    | none => exact Lib.run_indexByteNil w _ _ _
    | some a => exact run_idx_none a c cv w
  · refine ⟨_, idx_list f cv hcv n hf, ?_⟩
    refine Lib.run_indexByteSlice w b o n c ((List.range n).map f) (by simp) (fun i hi => ?_) cv
    rw [hc i hi]; simp [hi]

set_option maxHeartbeats 400000 in
theorem idx_any (p : Option Addr) (n c : Nat) (f : Nat → Int) (cv : Int) (w : World) (hcv : 0 ≤ cv ∧ cv < 256) (hr : Rd w p n f) (hf : ∀ i, i < n → 0 ≤ f i ∧ f i < 256) :
    Calls Try.prog 26 #[.slice p n c, .int .u8 cv] w fun e w' => (∃ r, e = .returned (.int .i64 r) ∧ IsIdx f n cv r) ∧ w' = w := by
  obtain ⟨r, hi, hrun⟩ := run_idx p n c f cv hcv w hr hf
  clear hr hf hcv
  have HI : Hid (IsIdx f n cv r) := hi
  clear hi
  go_enter Try.func26, Try.ntmps26
  go_wp2
  rw [run_callFunc_extern Try.func31 (by kernel_rfl) (by kernel_rfl) (by kernel_rfl) (e := Extern.BytealgIndexByte.indexByte) (by kernel_rfl), hrun]
  simp only [Result.andThen]
  rw [Oper.upon_value]
  go_wp2
  go_ret
  exact ⟨⟨r, rfl, HI.out⟩, rfl⟩

end Go.Proofs.Qxb6605416a
