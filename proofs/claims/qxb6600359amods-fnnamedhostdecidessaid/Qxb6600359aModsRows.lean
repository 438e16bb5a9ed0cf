/-
  No cell of these rows narrows 'for every input' (looked for: loops, veiled, ifaces, maps, wideKeys, modest, calm, conditions, laid).
  DERIVED. THE GIVEN ROWS OF THIS SEAT. 5 by the template 'for every input the law returns true; each argument reads behind the call as it read before'; 0 by the template 'total and deterministic' (their statements: Qxb6600359aModsTotals.lean).
  GIVEN WITH THE SEED: the statements are not yours to turn. If you find one false, say at which input.
  Laid BY PROGRAM, IN A SANDBOX (cutbox-rows.mjs): the forced cells as the released guide's own fill.sh prints them over the translation b75b16efa29fb996… (all of the seat's roots in one cut). By AI agents, Wed Nov 11 2026. No macro, syntax, notation, axiom, sorry.
-/
import Derived.Test.Qxb6600359aModsChecked
import GoSem.Claim
import GoSem.ClaimJoined
import GoSem.ClaimMapViews
import Derived.JoinedTies
import Derived.KernelRfl
namespace Go.Proofs.Qxb6600359aMods
/- THE CELL 'sum', in the pinned program and in every row, IS THE sha256 OF THE DUMP (.gsa) THAT Qxb6600359aModsProg.lean LOADS. Nothing in Lean hashes anything: it is a label: what it is worth is what the hold of that sum in a sandbox is worth. -/
noncomputable def Trym.pinned : Pinned := { name := "qxb6600359amods", sum := "b75b16efa29fb996d928157477bcae4eb4280c7996a608bca7e409f5425cc35d", checked := Trym.checked }
namespace Rows
def none {H : Type} : Left H := { results := [], args := [] }

/-- 'zzlaws_client_b1.FnFindExpressionPrintsByType': WHATEVER THE INPUT: true; the input reads as it did. -/
def fnFindExpressionPrintsByTypeSpec : ChangeSpec := { name := "fnFindExpressionPrintsByType", fn := fun _ => fun
  | [d1, d2, d3] => { results := [.lit (.bool true)], args := [d1, d2, d3] }
  | _ => none }
def fnFindExpressionPrintsByTypeRow : OpenClaim := { program := "qxb6600359amods", sum := "b75b16efa29fb996d928157477bcae4eb4280c7996a608bca7e409f5425cc35d", func := "example.com/tarnhold/tarnhold/zzlaws_client_b1.FnFindExpressionPrintsByType", spec := "fnFindExpressionPrintsByType", recurses := true, make := .lifted ["publicsums"], apart := false }
def FnFindExpressionPrintsByTypeSaid : Prop := fnFindExpressionPrintsByTypeRow.holds Trym.pinned (OpenSpec.ofChange fnFindExpressionPrintsByTypeSpec)

/-- ITS FALSE NEIGHBOUR: 'it returns false'. Refute it at one input. -/
def fnFindExpressionPrintsByTypeWrong : ChangeSpec := { name := "fnFindExpressionPrintsByType", fn := fun _ => fun
  | [d1, d2, d3] => { results := [.lit (.bool false)], args := [d1, d2, d3] }
  | _ => none }
def FnFindExpressionPrintsByTypeWrongFalsely : Prop := fnFindExpressionPrintsByTypeRow.holds Trym.pinned (OpenSpec.ofChange fnFindExpressionPrintsByTypeWrong)

/-- 'zzlaws_client_b1.FnFindExpressionFormatsFillOnlyTheirSlots': WHATEVER THE INPUT: true; the input reads as it did. -/
def fnFindExpressionFormatsFillOnlyTheirSlotsSpec : ChangeSpec := { name := "fnFindExpressionFormatsFillOnlyTheirSlots", fn := fun _ => fun
  | [d1, d2, d3, d4] => { results := [.lit (.bool true)], args := [d1, d2, d3, d4] }
  | _ => none }
def fnFindExpressionFormatsFillOnlyTheirSlotsRow : OpenClaim := { program := "qxb6600359amods", sum := "b75b16efa29fb996d928157477bcae4eb4280c7996a608bca7e409f5425cc35d", func := "example.com/tarnhold/tarnhold/zzlaws_client_b1.FnFindExpressionFormatsFillOnlyTheirSlots", spec := "fnFindExpressionFormatsFillOnlyTheirSlots", make := .lifted ["publicsums"], apart := false }
def FnFindExpressionFormatsFillOnlyTheirSlotsSaid : Prop := fnFindExpressionFormatsFillOnlyTheirSlotsRow.holds Trym.pinned (OpenSpec.ofChange fnFindExpressionFormatsFillOnlyTheirSlotsSpec)

/-- ITS FALSE NEIGHBOUR: 'it returns false'. Refute it at one input. -/
def fnFindExpressionFormatsFillOnlyTheirSlotsWrong : ChangeSpec := { name := "fnFindExpressionFormatsFillOnlyTheirSlots", fn := fun _ => fun
  | [d1, d2, d3, d4] => { results := [.lit (.bool false)], args := [d1, d2, d3, d4] }
  | _ => none }
def FnFindExpressionFormatsFillOnlyTheirSlotsWrongFalsely : Prop := fnFindExpressionFormatsFillOnlyTheirSlotsRow.holds Trym.pinned (OpenSpec.ofChange fnFindExpressionFormatsFillOnlyTheirSlotsWrong)

/-- 'zzlaws_client_b1.FnTarNoticeSurvivesAPrefix': WHATEVER THE INPUT: true; the input reads as it did. -/
def fnTarNoticeSurvivesAPrefixSpec : ChangeSpec := { name := "fnTarNoticeSurvivesAPrefix", fn := fun _ => fun
  | [d1, d2] => { results := [.lit (.bool true)], args := [d1, d2] }
  | _ => none }
def fnTarNoticeSurvivesAPrefixRow : OpenClaim := { program := "qxb6600359amods", sum := "b75b16efa29fb996d928157477bcae4eb4280c7996a608bca7e409f5425cc35d", func := "example.com/tarnhold/tarnhold/zzlaws_client_b1.FnTarNoticeSurvivesAPrefix", spec := "fnTarNoticeSurvivesAPrefix", inPlace := ["internal/bytealg.IndexByte", "internal/bytealg.Index"], named := ["internal/bytealg.MaxLen"], make := .lifted ["publicsums"], apart := false }
def FnTarNoticeSurvivesAPrefixSaid : Prop := fnTarNoticeSurvivesAPrefixRow.holds Trym.pinned (OpenSpec.ofChange fnTarNoticeSurvivesAPrefixSpec)

/-- ITS FALSE NEIGHBOUR: 'it returns false'. Refute it at one input. -/
def fnTarNoticeSurvivesAPrefixWrong : ChangeSpec := { name := "fnTarNoticeSurvivesAPrefix", fn := fun _ => fun
  | [d1, d2] => { results := [.lit (.bool false)], args := [d1, d2] }
  | _ => none }
def FnTarNoticeSurvivesAPrefixWrongFalsely : Prop := fnTarNoticeSurvivesAPrefixRow.holds Trym.pinned (OpenSpec.ofChange fnTarNoticeSurvivesAPrefixWrong)

/-- 'zzlaws_client_b1.FnTarNoticeRefusesWithoutColonOrSemicolon': WHATEVER THE INPUT: true; the input reads as it did. -/
def fnTarNoticeRefusesWithoutColonOrSemicolonSpec : ChangeSpec := { name := "fnTarNoticeRefusesWithoutColonOrSemicolon", fn := fun _ => fun
  | [d] => { results := [.lit (.bool true)], args := [d] }
  | _ => none }
def fnTarNoticeRefusesWithoutColonOrSemicolonRow : OpenClaim := { program := "qxb6600359amods", sum := "b75b16efa29fb996d928157477bcae4eb4280c7996a608bca7e409f5425cc35d", func := "example.com/tarnhold/tarnhold/zzlaws_client_b1.FnTarNoticeRefusesWithoutColonOrSemicolon", spec := "fnTarNoticeRefusesWithoutColonOrSemicolon", inPlace := ["internal/bytealg.IndexByte", "internal/bytealg.Index"], named := ["internal/bytealg.MaxLen"], make := .lifted ["publicsums"], apart := false }
def FnTarNoticeRefusesWithoutColonOrSemicolonSaid : Prop := fnTarNoticeRefusesWithoutColonOrSemicolonRow.holds Trym.pinned (OpenSpec.ofChange fnTarNoticeRefusesWithoutColonOrSemicolonSpec)

/-- ITS FALSE NEIGHBOUR: 'it returns false'. Refute it at one input. -/
def fnTarNoticeRefusesWithoutColonOrSemicolonWrong : ChangeSpec := { name := "fnTarNoticeRefusesWithoutColonOrSemicolon", fn := fun _ => fun
  | [d] => { results := [.lit (.bool false)], args := [d] }
  | _ => none }
def FnTarNoticeRefusesWithoutColonOrSemicolonWrongFalsely : Prop := fnTarNoticeRefusesWithoutColonOrSemicolonRow.holds Trym.pinned (OpenSpec.ofChange fnTarNoticeRefusesWithoutColonOrSemicolonWrong)

/-- 'zzlaws_client_b1.FnNamedHostDecides': WHATEVER THE INPUT: true; the input reads as it did. -/
def fnNamedHostDecidesSpec : ChangeSpec := { name := "fnNamedHostDecides", fn := fun _ => fun
  | [d1, d2, d3, d4, d5, d6, d7] => { results := [.lit (.bool true)], args := [d1, d2, d3, d4, d5, d6, d7] }
  | _ => none }
def fnNamedHostDecidesRow : OpenClaim := { program := "qxb6600359amods", sum := "b75b16efa29fb996d928157477bcae4eb4280c7996a608bca7e409f5425cc35d", func := "example.com/tarnhold/tarnhold/zzlaws_client_b1.FnNamedHostDecides", spec := "fnNamedHostDecides", make := .lifted ["publicsums"], apart := false }
def FnNamedHostDecidesSaid : Prop := fnNamedHostDecidesRow.holds Trym.pinned (OpenSpec.ofChange fnNamedHostDecidesSpec)

/-- ITS FALSE NEIGHBOUR: 'it returns false'. Refute it at one input. -/
def fnNamedHostDecidesWrong : ChangeSpec := { name := "fnNamedHostDecides", fn := fun _ => fun
  | [d1, d2, d3, d4, d5, d6, d7] => { results := [.lit (.bool false)], args := [d1, d2, d3, d4, d5, d6, d7] }
  | _ => none }
def FnNamedHostDecidesWrongFalsely : Prop := fnNamedHostDecidesRow.holds Trym.pinned (OpenSpec.ofChange fnNamedHostDecidesWrong)

end Rows
end Go.Proofs.Qxb6600359aMods
