/-
  No cell of these rows narrows 'for every input' (looked for: loops, veiled, ifaces, maps, wideKeys, modest, calm, conditions, laid).
  DERIVED. THE GIVEN ROWS OF THIS SEAT. 4 by the template 'for every input the law returns true; each argument reads behind the call as it read before'; 0 by the template 'total and deterministic' (their statements: Qxb6003665aTotals.lean).
  GIVEN WITH THE SEED: the statements are not yours to turn. If you find one false, say at which input.
  Laid BY PROGRAM, IN A SANDBOX (cutbox-rows.mjs): the forced cells as the released guide's own fill.sh prints them over the translation 2fdd820b7f8fb5c4… (all of the seat's roots in one cut). By AI agents, Wed Nov 11 2026. No macro, syntax, notation, axiom, sorry.
-/
import Derived.Test.Qxb6003665aChecked
import GoSem.Claim
import GoSem.ClaimJoined
import GoSem.ClaimMapViews
import Derived.JoinedTies
import Derived.KernelRfl
namespace Go.Proofs.Qxb6003665a
/- THE CELL 'sum', in the pinned program and in every row, IS THE sha256 OF THE DUMP (.gsa) THAT Qxb6003665aProg.lean LOADS. Nothing in Lean hashes anything: it is a label: what it is worth is what the hold of that sum in a sandbox is worth. -/
noncomputable def Try.pinned : Pinned := { name := "qxb6003665a", sum := "2fdd820b7f8fb5c4fc2efcc560687bb15ebe1a7c97f18229f0427adf1395db1e", checked := Try.checked }
namespace Rows
def none {H : Type} : Left H := { results := [], args := [] }

/-- 'zzlaws_uxf_g1.FnDelimiterNeverCutsAWord': WHATEVER THE INPUT: true; the input reads as it did. -/
def fnDelimiterNeverCutsAWordSpec : ChangeSpec := { name := "fnDelimiterNeverCutsAWord", fn := fun _ => fun
  | [d] => { results := [.lit (.bool true)], args := [d] }
  | _ => none }
def fnDelimiterNeverCutsAWordRow : OpenClaim := { program := "qxb6003665a", sum := "2fdd820b7f8fb5c4fc2efcc560687bb15ebe1a7c97f18229f0427adf1395db1e", func := "example.com/lineform/lineform/zzlaws_uxf_g1.FnDelimiterNeverCutsAWord", spec := "fnDelimiterNeverCutsAWord", apart := false }
def FnDelimiterNeverCutsAWordSaid : Prop := fnDelimiterNeverCutsAWordRow.holds Try.pinned (OpenSpec.ofChange fnDelimiterNeverCutsAWordSpec)

/-- ITS FALSE NEIGHBOUR: 'it returns false'. Refute it at one input. -/
def fnDelimiterNeverCutsAWordWrong : ChangeSpec := { name := "fnDelimiterNeverCutsAWord", fn := fun _ => fun
  | [d] => { results := [.lit (.bool false)], args := [d] }
  | _ => none }
def FnDelimiterNeverCutsAWordWrongFalsely : Prop := fnDelimiterNeverCutsAWordRow.holds Try.pinned (OpenSpec.ofChange fnDelimiterNeverCutsAWordWrong)

/-- 'zzlaws_uxf_g1.FnTTypesByNameLastDefinitionWins': WHATEVER THE INPUT: true; the input reads as it did. -/
def fnTTypesByNameLastDefinitionWinsSpec : ChangeSpec := { name := "fnTTypesByNameLastDefinitionWins", fn := fun _ => fun
  | [d1, d2] => { results := [.lit (.bool true)], args := [d1, d2] }
  | _ => none }
def fnTTypesByNameLastDefinitionWinsRow : OpenClaim := { program := "qxb6003665a", sum := "2fdd820b7f8fb5c4fc2efcc560687bb15ebe1a7c97f18229f0427adf1395db1e", func := "example.com/lineform/lineform/zzlaws_uxf_g1.FnTTypesByNameLastDefinitionWins", spec := "fnTTypesByNameLastDefinitionWins", apart := false }
def FnTTypesByNameLastDefinitionWinsSaid : Prop := fnTTypesByNameLastDefinitionWinsRow.holds Try.pinned (OpenSpec.ofChange fnTTypesByNameLastDefinitionWinsSpec)

/-- ITS FALSE NEIGHBOUR: 'it returns false'. Refute it at one input. -/
def fnTTypesByNameLastDefinitionWinsWrong : ChangeSpec := { name := "fnTTypesByNameLastDefinitionWins", fn := fun _ => fun
  | [d1, d2] => { results := [.lit (.bool false)], args := [d1, d2] }
  | _ => none }
def FnTTypesByNameLastDefinitionWinsWrongFalsely : Prop := fnTTypesByNameLastDefinitionWinsRow.holds Try.pinned (OpenSpec.ofChange fnTTypesByNameLastDefinitionWinsWrong)

/-- 'zzlaws_xml_g1.FnURITextAcceptsPercentEncoding': WHATEVER THE INPUT: true; the input reads as it did. -/
def fnURITextAcceptsPercentEncodingSpec : ChangeSpec := { name := "fnURITextAcceptsPercentEncoding", fn := fun _ => fun
  | [d1, d2, d3] => { results := [.lit (.bool true)], args := [d1, d2, d3] }
  | _ => none }
def fnURITextAcceptsPercentEncodingRow : OpenClaim := { program := "qxb6003665a", sum := "2fdd820b7f8fb5c4fc2efcc560687bb15ebe1a7c97f18229f0427adf1395db1e", func := "example.com/lineform/lineform/zzlaws_xml_g1.FnURITextAcceptsPercentEncoding", spec := "fnURITextAcceptsPercentEncoding", inPlace := ["internal/bytealg.IndexByteString"], apart := false }
def FnURITextAcceptsPercentEncodingSaid : Prop := fnURITextAcceptsPercentEncodingRow.holds Try.pinned (OpenSpec.ofChange fnURITextAcceptsPercentEncodingSpec)

/-- ITS FALSE NEIGHBOUR: 'it returns false'. Refute it at one input. -/
def fnURITextAcceptsPercentEncodingWrong : ChangeSpec := { name := "fnURITextAcceptsPercentEncoding", fn := fun _ => fun
  | [d1, d2, d3] => { results := [.lit (.bool false)], args := [d1, d2, d3] }
  | _ => none }
def FnURITextAcceptsPercentEncodingWrongFalsely : Prop := fnURITextAcceptsPercentEncodingRow.holds Try.pinned (OpenSpec.ofChange fnURITextAcceptsPercentEncodingWrong)

/-- 'zzlaws_xml_g1.FnURITextClosedUnderConcatenation': WHATEVER THE INPUT: true; the input reads as it did. -/
def fnURITextClosedUnderConcatenationSpec : ChangeSpec := { name := "fnURITextClosedUnderConcatenation", fn := fun _ => fun
  | [d1, d2, d3] => { results := [.lit (.bool true)], args := [d1, d2, d3] }
  | _ => none }
def fnURITextClosedUnderConcatenationRow : OpenClaim := { program := "qxb6003665a", sum := "2fdd820b7f8fb5c4fc2efcc560687bb15ebe1a7c97f18229f0427adf1395db1e", func := "example.com/lineform/lineform/zzlaws_xml_g1.FnURITextClosedUnderConcatenation", spec := "fnURITextClosedUnderConcatenation", inPlace := ["internal/bytealg.IndexByteString"], apart := false }
def FnURITextClosedUnderConcatenationSaid : Prop := fnURITextClosedUnderConcatenationRow.holds Try.pinned (OpenSpec.ofChange fnURITextClosedUnderConcatenationSpec)

/-- ITS FALSE NEIGHBOUR: 'it returns false'. Refute it at one input. -/
def fnURITextClosedUnderConcatenationWrong : ChangeSpec := { name := "fnURITextClosedUnderConcatenation", fn := fun _ => fun
  | [d1, d2, d3] => { results := [.lit (.bool false)], args := [d1, d2, d3] }
  | _ => none }
def FnURITextClosedUnderConcatenationWrongFalsely : Prop := fnURITextClosedUnderConcatenationRow.holds Try.pinned (OpenSpec.ofChange fnURITextClosedUnderConcatenationWrong)

end Rows
end Go.Proofs.Qxb6003665a
