/-
  No cell of these rows narrows 'for every input' (looked for: loops, veiled, ifaces, maps, wideKeys, modest, calm, conditions, laid).
  DERIVED. THE GIVEN ROWS OF THIS SEAT. 3 by the template 'for every input the law returns true; each argument reads behind the call as it read before'; 0 by the template 'total and deterministic' (their statements: Qxb6606436aTotals.lean).
  GIVEN WITH THE SEED: the statements are not yours to turn. If you find one false, say at which input.
  Laid BY PROGRAM, IN A SANDBOX (cutbox-rows.mjs): the forced cells as the released guide's own fill.sh prints them over the translation d8a115bc621cbf4e… (all of the seat's roots in one cut). By AI agents, Wed Nov 11 2026. No macro, syntax, notation, axiom, sorry.
-/
import Derived.Test.Qxb6606436aChecked
import GoSem.Claim
import GoSem.ClaimJoined
import GoSem.ClaimMapViews
import Derived.JoinedTies
import Derived.KernelRfl
namespace Go.Proofs.Qxb6606436a
/- THE CELL 'sum', in the pinned program and in every row, IS THE sha256 OF THE DUMP (.gsa) THAT Qxb6606436aProg.lean LOADS. Nothing in Lean hashes anything: it is a label: what it is worth is what the hold of that sum in a sandbox is worth. -/
noncomputable def Try.pinned : Pinned := { name := "qxb6606436a", sum := "d8a115bc621cbf4ef00a35a10411506a79be4eef8363fe671e30475f005ce1f1", checked := Try.checked }
namespace Rows
def none {H : Type} : Left H := { results := [], args := [] }

/-- 'zzlaws_root_b1.FnUnescapeTokenMatchesTwoPassReplace': WHATEVER THE INPUT: true; the input reads as it did. -/
def fnUnescapeTokenMatchesTwoPassReplaceSpec : ChangeSpec := { name := "fnUnescapeTokenMatchesTwoPassReplace", fn := fun _ => fun
  | [d] => { results := [.lit (.bool true)], args := [d] }
  | _ => none }
def fnUnescapeTokenMatchesTwoPassReplaceRow : OpenClaim := { program := "qxb6606436a", sum := "d8a115bc621cbf4ef00a35a10411506a79be4eef8363fe671e30475f005ce1f1", func := "example.com/tildeslash/tildeslash/zzlaws_root_b1.FnUnescapeTokenMatchesTwoPassReplace", spec := "fnUnescapeTokenMatchesTwoPassReplace", inPlace := ["internal/bytealg.IndexByteString", "internal/abi.NoEscape"], apart := false }
def FnUnescapeTokenMatchesTwoPassReplaceSaid : Prop := fnUnescapeTokenMatchesTwoPassReplaceRow.holds Try.pinned (OpenSpec.ofChange fnUnescapeTokenMatchesTwoPassReplaceSpec)

/-- ITS FALSE NEIGHBOUR: 'it returns false'. Refute it at one input. -/
def fnUnescapeTokenMatchesTwoPassReplaceWrong : ChangeSpec := { name := "fnUnescapeTokenMatchesTwoPassReplace", fn := fun _ => fun
  | [d] => { results := [.lit (.bool false)], args := [d] }
  | _ => none }
def FnUnescapeTokenMatchesTwoPassReplaceWrongFalsely : Prop := fnUnescapeTokenMatchesTwoPassReplaceRow.holds Try.pinned (OpenSpec.ofChange fnUnescapeTokenMatchesTwoPassReplaceWrong)

/-- 'zzlaws_root_b1.FnUnescapeTokenUndoesEscape': WHATEVER THE INPUT: true; the input reads as it did. -/
def fnUnescapeTokenUndoesEscapeSpec : ChangeSpec := { name := "fnUnescapeTokenUndoesEscape", fn := fun _ => fun
  | [d] => { results := [.lit (.bool true)], args := [d] }
  | _ => none }
def fnUnescapeTokenUndoesEscapeRow : OpenClaim := { program := "qxb6606436a", sum := "d8a115bc621cbf4ef00a35a10411506a79be4eef8363fe671e30475f005ce1f1", func := "example.com/tildeslash/tildeslash/zzlaws_root_b1.FnUnescapeTokenUndoesEscape", spec := "fnUnescapeTokenUndoesEscape", inPlace := ["internal/bytealg.IndexByteString", "internal/abi.NoEscape"], apart := false }
def FnUnescapeTokenUndoesEscapeSaid : Prop := fnUnescapeTokenUndoesEscapeRow.holds Try.pinned (OpenSpec.ofChange fnUnescapeTokenUndoesEscapeSpec)

/-- ITS FALSE NEIGHBOUR: 'it returns false'. Refute it at one input. -/
def fnUnescapeTokenUndoesEscapeWrong : ChangeSpec := { name := "fnUnescapeTokenUndoesEscape", fn := fun _ => fun
  | [d] => { results := [.lit (.bool false)], args := [d] }
  | _ => none }
def FnUnescapeTokenUndoesEscapeWrongFalsely : Prop := fnUnescapeTokenUndoesEscapeRow.holds Try.pinned (OpenSpec.ofChange fnUnescapeTokenUndoesEscapeWrong)

/-- 'zzlaws_root_b1.FnUnescapeTokenEscapeRestoresToken': WHATEVER THE INPUT: true; the input reads as it did. -/
def fnUnescapeTokenEscapeRestoresTokenSpec : ChangeSpec := { name := "fnUnescapeTokenEscapeRestoresToken", fn := fun _ => fun
  | [d] => { results := [.lit (.bool true)], args := [d] }
  | _ => none }
def fnUnescapeTokenEscapeRestoresTokenRow : OpenClaim := { program := "qxb6606436a", sum := "d8a115bc621cbf4ef00a35a10411506a79be4eef8363fe671e30475f005ce1f1", func := "example.com/tildeslash/tildeslash/zzlaws_root_b1.FnUnescapeTokenEscapeRestoresToken", spec := "fnUnescapeTokenEscapeRestoresToken", inPlace := ["internal/bytealg.IndexByteString", "internal/abi.NoEscape"], apart := false }
def FnUnescapeTokenEscapeRestoresTokenSaid : Prop := fnUnescapeTokenEscapeRestoresTokenRow.holds Try.pinned (OpenSpec.ofChange fnUnescapeTokenEscapeRestoresTokenSpec)

/-- ITS FALSE NEIGHBOUR: 'it returns false'. Refute it at one input. -/
def fnUnescapeTokenEscapeRestoresTokenWrong : ChangeSpec := { name := "fnUnescapeTokenEscapeRestoresToken", fn := fun _ => fun
  | [d] => { results := [.lit (.bool false)], args := [d] }
  | _ => none }
def FnUnescapeTokenEscapeRestoresTokenWrongFalsely : Prop := fnUnescapeTokenEscapeRestoresTokenRow.holds Try.pinned (OpenSpec.ofChange fnUnescapeTokenEscapeRestoresTokenWrong)

end Rows
end Go.Proofs.Qxb6606436a
