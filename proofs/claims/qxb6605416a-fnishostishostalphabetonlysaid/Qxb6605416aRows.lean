/-
  No cell of these rows narrows 'for every input' (looked for: loops, veiled, ifaces, maps, wideKeys, modest, calm, conditions, laid).
  DERIVED. THE GIVEN ROWS OF THIS SEAT. 6 by the template 'for every input the law returns true; each argument reads behind the call as it read before'; 0 by the template 'total and deterministic' (their statements: Qxb6605416aTotals.lean).
  GIVEN WITH THE SEED: the statements are not yours to turn. If you find one false, say at which input.
  Laid BY PROGRAM, IN A SANDBOX (cutbox-rows.mjs): the forced cells as the released guide's own fill.sh prints them over the translation cf24442db0e55591… (all of the seat's roots in one cut). By AI agents, Wed Nov 11 2026. No macro, syntax, notation, axiom, sorry.
-/
import Derived.Test.Qxb6605416aChecked
import GoSem.Claim
import GoSem.ClaimJoined
import GoSem.ClaimMapViews
import Derived.JoinedTies
import Derived.KernelRfl
namespace Go.Proofs.Qxb6605416a
/- THE CELL 'sum', in the pinned program and in every row, IS THE sha256 OF THE DUMP (.gsa) THAT Qxb6605416aProg.lean LOADS. Nothing in Lean hashes anything: it is a label: what it is worth is what the hold of that sum in a sandbox is worth. -/
noncomputable def Try.pinned : Pinned := { name := "qxb6605416a", sum := "cf24442db0e555917d7c9d8af47b800f6f275db16be155f86b1651dd6d2b32da", checked := Try.checked }
namespace Rows
def none {H : Type} : Left H := { results := [], args := [] }

/-- 'zzlaws_internal_http1_b1.FnHeadEndIsShortestBlankLineEnd': WHATEVER THE INPUT: true; the input reads as it did. -/
def fnHeadEndIsShortestBlankLineEndSpec : ChangeSpec := { name := "fnHeadEndIsShortestBlankLineEnd", fn := fun _ => fun
  | [d] => { results := [.lit (.bool true)], args := [d] }
  | _ => none }
def fnHeadEndIsShortestBlankLineEndRow : OpenClaim := { program := "qxb6605416a", sum := "cf24442db0e555917d7c9d8af47b800f6f275db16be155f86b1651dd6d2b32da", func := "example.com/multi-relay/multi-relay/zzlaws_internal_http1_b1.FnHeadEndIsShortestBlankLineEnd", spec := "fnHeadEndIsShortestBlankLineEnd", inPlace := ["internal/bytealg.IndexByte"], apart := false }
def FnHeadEndIsShortestBlankLineEndSaid : Prop := fnHeadEndIsShortestBlankLineEndRow.holds Try.pinned (OpenSpec.ofChange fnHeadEndIsShortestBlankLineEndSpec)

/-- ITS FALSE NEIGHBOUR: 'it returns false'. Refute it at one input. -/
def fnHeadEndIsShortestBlankLineEndWrong : ChangeSpec := { name := "fnHeadEndIsShortestBlankLineEnd", fn := fun _ => fun
  | [d] => { results := [.lit (.bool false)], args := [d] }
  | _ => none }
def FnHeadEndIsShortestBlankLineEndWrongFalsely : Prop := fnHeadEndIsShortestBlankLineEndRow.holds Try.pinned (OpenSpec.ofChange fnHeadEndIsShortestBlankLineEndWrong)

/-- 'zzlaws_internal_http1_b1.FnHeadEndStableAsBytesArrive': WHATEVER THE INPUT: true; the input reads as it did. -/
def fnHeadEndStableAsBytesArriveSpec : ChangeSpec := { name := "fnHeadEndStableAsBytesArrive", fn := fun _ => fun
  | [d1, d2] => { results := [.lit (.bool true)], args := [d1, d2] }
  | _ => none }
def fnHeadEndStableAsBytesArriveRow : OpenClaim := { program := "qxb6605416a", sum := "cf24442db0e555917d7c9d8af47b800f6f275db16be155f86b1651dd6d2b32da", func := "example.com/multi-relay/multi-relay/zzlaws_internal_http1_b1.FnHeadEndStableAsBytesArrive", spec := "fnHeadEndStableAsBytesArrive", inPlace := ["internal/bytealg.IndexByte"], apart := false }
def FnHeadEndStableAsBytesArriveSaid : Prop := fnHeadEndStableAsBytesArriveRow.holds Try.pinned (OpenSpec.ofChange fnHeadEndStableAsBytesArriveSpec)

/-- ITS FALSE NEIGHBOUR: 'it returns false'. Refute it at one input. -/
def fnHeadEndStableAsBytesArriveWrong : ChangeSpec := { name := "fnHeadEndStableAsBytesArrive", fn := fun _ => fun
  | [d1, d2] => { results := [.lit (.bool false)], args := [d1, d2] }
  | _ => none }
def FnHeadEndStableAsBytesArriveWrongFalsely : Prop := fnHeadEndStableAsBytesArriveRow.holds Try.pinned (OpenSpec.ofChange fnHeadEndStableAsBytesArriveWrong)

/-- 'zzlaws_internal_http1_b1.FnFieldIsMatchesNameByCaseTable': WHATEVER THE INPUT: true; the input reads as it did. -/
def fnFieldIsMatchesNameByCaseTableSpec : ChangeSpec := { name := "fnFieldIsMatchesNameByCaseTable", fn := fun _ => fun
  | [d1, d2, d3] => { results := [.lit (.bool true)], args := [d1, d2, d3] }
  | _ => none }
def fnFieldIsMatchesNameByCaseTableRow : OpenClaim := { program := "qxb6605416a", sum := "cf24442db0e555917d7c9d8af47b800f6f275db16be155f86b1651dd6d2b32da", func := "example.com/multi-relay/multi-relay/zzlaws_internal_http1_b1.FnFieldIsMatchesNameByCaseTable", spec := "fnFieldIsMatchesNameByCaseTable", apart := false }
def FnFieldIsMatchesNameByCaseTableSaid : Prop := fnFieldIsMatchesNameByCaseTableRow.holds Try.pinned (OpenSpec.ofChange fnFieldIsMatchesNameByCaseTableSpec)

/-- ITS FALSE NEIGHBOUR: 'it returns false'. Refute it at one input. -/
def fnFieldIsMatchesNameByCaseTableWrong : ChangeSpec := { name := "fnFieldIsMatchesNameByCaseTable", fn := fun _ => fun
  | [d1, d2, d3] => { results := [.lit (.bool false)], args := [d1, d2, d3] }
  | _ => none }
def FnFieldIsMatchesNameByCaseTableWrongFalsely : Prop := fnFieldIsMatchesNameByCaseTableRow.holds Try.pinned (OpenSpec.ofChange fnFieldIsMatchesNameByCaseTableWrong)

/-- 'zzlaws_internal_http1_b1.FnFieldIsKnowsItsOwnLowerForm': WHATEVER THE INPUT: true; the input reads as it did. -/
def fnFieldIsKnowsItsOwnLowerFormSpec : ChangeSpec := { name := "fnFieldIsKnowsItsOwnLowerForm", fn := fun _ => fun
  | [d1, d2, d3] => { results := [.lit (.bool true)], args := [d1, d2, d3] }
  | _ => none }
def fnFieldIsKnowsItsOwnLowerFormRow : OpenClaim := { program := "qxb6605416a", sum := "cf24442db0e555917d7c9d8af47b800f6f275db16be155f86b1651dd6d2b32da", func := "example.com/multi-relay/multi-relay/zzlaws_internal_http1_b1.FnFieldIsKnowsItsOwnLowerForm", spec := "fnFieldIsKnowsItsOwnLowerForm", apart := false }
def FnFieldIsKnowsItsOwnLowerFormSaid : Prop := fnFieldIsKnowsItsOwnLowerFormRow.holds Try.pinned (OpenSpec.ofChange fnFieldIsKnowsItsOwnLowerFormSpec)

/-- ITS FALSE NEIGHBOUR: 'it returns false'. Refute it at one input. -/
def fnFieldIsKnowsItsOwnLowerFormWrong : ChangeSpec := { name := "fnFieldIsKnowsItsOwnLowerForm", fn := fun _ => fun
  | [d1, d2, d3] => { results := [.lit (.bool false)], args := [d1, d2, d3] }
  | _ => none }
def FnFieldIsKnowsItsOwnLowerFormWrongFalsely : Prop := fnFieldIsKnowsItsOwnLowerFormRow.holds Try.pinned (OpenSpec.ofChange fnFieldIsKnowsItsOwnLowerFormWrong)

/-- 'zzlaws_internal_http1_b1.FnIsHostIsHostAlphabetOnly': WHATEVER THE INPUT: true; the input reads as it did. -/
def fnIsHostIsHostAlphabetOnlySpec : ChangeSpec := { name := "fnIsHostIsHostAlphabetOnly", fn := fun _ => fun
  | [d] => { results := [.lit (.bool true)], args := [d] }
  | _ => none }
def fnIsHostIsHostAlphabetOnlyRow : OpenClaim := { program := "qxb6605416a", sum := "cf24442db0e555917d7c9d8af47b800f6f275db16be155f86b1651dd6d2b32da", func := "example.com/multi-relay/multi-relay/zzlaws_internal_http1_b1.FnIsHostIsHostAlphabetOnly", spec := "fnIsHostIsHostAlphabetOnly", inPlace := ["internal/bytealg.IndexByte"], apart := false }
def FnIsHostIsHostAlphabetOnlySaid : Prop := fnIsHostIsHostAlphabetOnlyRow.holds Try.pinned (OpenSpec.ofChange fnIsHostIsHostAlphabetOnlySpec)

/-- ITS FALSE NEIGHBOUR: 'it returns false'. Refute it at one input. -/
def fnIsHostIsHostAlphabetOnlyWrong : ChangeSpec := { name := "fnIsHostIsHostAlphabetOnly", fn := fun _ => fun
  | [d] => { results := [.lit (.bool false)], args := [d] }
  | _ => none }
def FnIsHostIsHostAlphabetOnlyWrongFalsely : Prop := fnIsHostIsHostAlphabetOnlyRow.holds Try.pinned (OpenSpec.ofChange fnIsHostIsHostAlphabetOnlyWrong)

/-- 'zzlaws_internal_http1_b1.FnIsHostDecidedByteByByte': WHATEVER THE INPUT: true; the input reads as it did. -/
def fnIsHostDecidedByteByByteSpec : ChangeSpec := { name := "fnIsHostDecidedByteByByte", fn := fun _ => fun
  | [d1, d2] => { results := [.lit (.bool true)], args := [d1, d2] }
  | _ => none }
def fnIsHostDecidedByteByByteRow : OpenClaim := { program := "qxb6605416a", sum := "cf24442db0e555917d7c9d8af47b800f6f275db16be155f86b1651dd6d2b32da", func := "example.com/multi-relay/multi-relay/zzlaws_internal_http1_b1.FnIsHostDecidedByteByByte", spec := "fnIsHostDecidedByteByByte", inPlace := ["internal/bytealg.IndexByte"], apart := false }
def FnIsHostDecidedByteByByteSaid : Prop := fnIsHostDecidedByteByByteRow.holds Try.pinned (OpenSpec.ofChange fnIsHostDecidedByteByByteSpec)

/-- ITS FALSE NEIGHBOUR: 'it returns false'. Refute it at one input. -/
def fnIsHostDecidedByteByByteWrong : ChangeSpec := { name := "fnIsHostDecidedByteByByte", fn := fun _ => fun
  | [d1, d2] => { results := [.lit (.bool false)], args := [d1, d2] }
  | _ => none }
def FnIsHostDecidedByteByByteWrongFalsely : Prop := fnIsHostDecidedByteByByteRow.holds Try.pinned (OpenSpec.ofChange fnIsHostDecidedByteByByteWrong)

end Rows
end Go.Proofs.Qxb6605416a
