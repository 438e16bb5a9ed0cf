/-
  No cell of these rows narrows 'for every input' (looked for: loops, veiled, ifaces, maps, wideKeys, modest, calm, conditions, laid).
  DERIVED. THE GIVEN ROWS OF THIS SEAT. 7 by the template 'for every input the law returns true; each argument reads behind the call as it read before'; 0 by the template 'total and deterministic' (their statements: Qxb6000482aModsTotals.lean).
  GIVEN WITH THE SEED: the statements are not yours to turn. If you find one false, say at which input.
  Laid BY PROGRAM, IN A SANDBOX (cutbox-rows.mjs): the forced cells as the released guide's own fill.sh prints them over the translation 3ee19f603bbc66af… (all of the seat's roots in one cut). By AI agents, Wed Nov 11 2026. No macro, syntax, notation, axiom, sorry.
-/
import Derived.Test.Qxb6000482aModsChecked
import GoSem.Claim
import GoSem.ClaimJoined
import GoSem.ClaimMapViews
import Derived.JoinedTies
import Derived.KernelRfl
namespace Go.Proofs.Qxb6000482aMods
/- THE CELL 'sum', in the pinned program and in every row, IS THE sha256 OF THE DUMP (.gsa) THAT Qxb6000482aModsProg.lean LOADS. Nothing in Lean hashes anything: it is a label: what it is worth is what the hold of that sum in a sandbox is worth. -/
noncomputable def Trym.pinned : Pinned := { name := "qxb6000482amods", sum := "3ee19f603bbc66afd49be95f537156eb179cb55be292f3d6e4fffd346d673ab5", checked := Trym.checked }
namespace Rows
def none {H : Type} : Left H := { results := [], args := [] }

/-- 'zzlaws_store_b1.FnTokenSetWithExact': WHATEVER THE INPUT: true; the input reads as it did. -/
def fnTokenSetWithExactSpec : ChangeSpec := { name := "fnTokenSetWithExact", fn := fun _ => fun
  | [d1, d2, d3] => { results := [.lit (.bool true)], args := [d1, d2, d3] }
  | _ => none }
def fnTokenSetWithExactRow : OpenClaim := { program := "qxb6000482amods", sum := "3ee19f603bbc66afd49be95f537156eb179cb55be292f3d6e4fffd346d673ab5", func := "example.com/relaykeeper/relaykeeper/zzlaws_store_b1.FnTokenSetWithExact", spec := "fnTokenSetWithExact", make := .lifted ["publicsums"], apart := false }
def FnTokenSetWithExactSaid : Prop := fnTokenSetWithExactRow.holds Trym.pinned (OpenSpec.ofChange fnTokenSetWithExactSpec)

/-- ITS FALSE NEIGHBOUR: 'it returns false'. Refute it at one input. -/
def fnTokenSetWithExactWrong : ChangeSpec := { name := "fnTokenSetWithExact", fn := fun _ => fun
  | [d1, d2, d3] => { results := [.lit (.bool false)], args := [d1, d2, d3] }
  | _ => none }
def FnTokenSetWithExactWrongFalsely : Prop := fnTokenSetWithExactRow.holds Trym.pinned (OpenSpec.ofChange fnTokenSetWithExactWrong)

/-- 'zzlaws_store_b1.FnTokenSetWithLastWins': WHATEVER THE INPUT: true; the input reads as it did. -/
def fnTokenSetWithLastWinsSpec : ChangeSpec := { name := "fnTokenSetWithLastWins", fn := fun _ => fun
  | [d1, d2, d3] => { results := [.lit (.bool true)], args := [d1, d2, d3] }
  | _ => none }
def fnTokenSetWithLastWinsRow : OpenClaim := { program := "qxb6000482amods", sum := "3ee19f603bbc66afd49be95f537156eb179cb55be292f3d6e4fffd346d673ab5", func := "example.com/relaykeeper/relaykeeper/zzlaws_store_b1.FnTokenSetWithLastWins", spec := "fnTokenSetWithLastWins", make := .lifted ["publicsums"], apart := false }
def FnTokenSetWithLastWinsSaid : Prop := fnTokenSetWithLastWinsRow.holds Trym.pinned (OpenSpec.ofChange fnTokenSetWithLastWinsSpec)

/-- ITS FALSE NEIGHBOUR: 'it returns false'. Refute it at one input. -/
def fnTokenSetWithLastWinsWrong : ChangeSpec := { name := "fnTokenSetWithLastWins", fn := fun _ => fun
  | [d1, d2, d3] => { results := [.lit (.bool false)], args := [d1, d2, d3] }
  | _ => none }
def FnTokenSetWithLastWinsWrongFalsely : Prop := fnTokenSetWithLastWinsRow.holds Trym.pinned (OpenSpec.ofChange fnTokenSetWithLastWinsWrong)

/-- 'zzlaws_store_b1.FnTokenSetWithCommutes': WHATEVER THE INPUT: true; the input reads as it did. -/
def fnTokenSetWithCommutesSpec : ChangeSpec := { name := "fnTokenSetWithCommutes", fn := fun _ => fun
  | [d1, d2, d3, d4, d5] => { results := [.lit (.bool true)], args := [d1, d2, d3, d4, d5] }
  | _ => none }
def fnTokenSetWithCommutesRow : OpenClaim := { program := "qxb6000482amods", sum := "3ee19f603bbc66afd49be95f537156eb179cb55be292f3d6e4fffd346d673ab5", func := "example.com/relaykeeper/relaykeeper/zzlaws_store_b1.FnTokenSetWithCommutes", spec := "fnTokenSetWithCommutes", make := .lifted ["publicsums"], apart := false }
def FnTokenSetWithCommutesSaid : Prop := fnTokenSetWithCommutesRow.holds Trym.pinned (OpenSpec.ofChange fnTokenSetWithCommutesSpec)

/-- ITS FALSE NEIGHBOUR: 'it returns false'. Refute it at one input. -/
def fnTokenSetWithCommutesWrong : ChangeSpec := { name := "fnTokenSetWithCommutes", fn := fun _ => fun
  | [d1, d2, d3, d4, d5] => { results := [.lit (.bool false)], args := [d1, d2, d3, d4, d5] }
  | _ => none }
def FnTokenSetWithCommutesWrongFalsely : Prop := fnTokenSetWithCommutesRow.holds Trym.pinned (OpenSpec.ofChange fnTokenSetWithCommutesWrong)

/-- 'zzlaws_store_b1.FnIsHeaderTokenConcat': WHATEVER THE INPUT: true; the input reads as it did. -/
def fnIsHeaderTokenConcatSpec : ChangeSpec := { name := "fnIsHeaderTokenConcat", fn := fun _ => fun
  | [d1, d2] => { results := [.lit (.bool true)], args := [d1, d2] }
  | _ => none }
def fnIsHeaderTokenConcatRow : OpenClaim := { program := "qxb6000482amods", sum := "3ee19f603bbc66afd49be95f537156eb179cb55be292f3d6e4fffd346d673ab5", func := "example.com/relaykeeper/relaykeeper/zzlaws_store_b1.FnIsHeaderTokenConcat", spec := "fnIsHeaderTokenConcat", make := .lifted ["publicsums"], apart := false }
def FnIsHeaderTokenConcatSaid : Prop := fnIsHeaderTokenConcatRow.holds Trym.pinned (OpenSpec.ofChange fnIsHeaderTokenConcatSpec)

/-- ITS FALSE NEIGHBOUR: 'it returns false'. Refute it at one input. -/
def fnIsHeaderTokenConcatWrong : ChangeSpec := { name := "fnIsHeaderTokenConcat", fn := fun _ => fun
  | [d1, d2] => { results := [.lit (.bool false)], args := [d1, d2] }
  | _ => none }
def FnIsHeaderTokenConcatWrongFalsely : Prop := fnIsHeaderTokenConcatRow.holds Trym.pinned (OpenSpec.ofChange fnIsHeaderTokenConcatWrong)

/-- 'zzlaws_store_b1.FnIsHeaderTokenByteClass': WHATEVER THE INPUT: true; the input reads as it did. -/
def fnIsHeaderTokenByteClassSpec : ChangeSpec := { name := "fnIsHeaderTokenByteClass", fn := fun _ => fun
  | [d1, d2, d3] => { results := [.lit (.bool true)], args := [d1, d2, d3] }
  | _ => none }
def fnIsHeaderTokenByteClassRow : OpenClaim := { program := "qxb6000482amods", sum := "3ee19f603bbc66afd49be95f537156eb179cb55be292f3d6e4fffd346d673ab5", func := "example.com/relaykeeper/relaykeeper/zzlaws_store_b1.FnIsHeaderTokenByteClass", spec := "fnIsHeaderTokenByteClass", make := .lifted ["publicsums"], apart := false }
def FnIsHeaderTokenByteClassSaid : Prop := fnIsHeaderTokenByteClassRow.holds Trym.pinned (OpenSpec.ofChange fnIsHeaderTokenByteClassSpec)

/-- ITS FALSE NEIGHBOUR: 'it returns false'. Refute it at one input. -/
def fnIsHeaderTokenByteClassWrong : ChangeSpec := { name := "fnIsHeaderTokenByteClass", fn := fun _ => fun
  | [d1, d2, d3] => { results := [.lit (.bool false)], args := [d1, d2, d3] }
  | _ => none }
def FnIsHeaderTokenByteClassWrongFalsely : Prop := fnIsHeaderTokenByteClassRow.holds Trym.pinned (OpenSpec.ofChange fnIsHeaderTokenByteClassWrong)

/-- 'zzlaws_store_b1.FnEnabledKeysExact': WHATEVER THE INPUT: true; the input reads as it did. -/
def fnEnabledKeysExactSpec : ChangeSpec := { name := "fnEnabledKeysExact", fn := fun _ => fun
  | [d] => { results := [.lit (.bool true)], args := [d] }
  | _ => none }
def fnEnabledKeysExactRow : OpenClaim := { program := "qxb6000482amods", sum := "3ee19f603bbc66afd49be95f537156eb179cb55be292f3d6e4fffd346d673ab5", func := "example.com/relaykeeper/relaykeeper/zzlaws_store_b1.FnEnabledKeysExact", spec := "fnEnabledKeysExact", make := .lifted ["publicsums"], apart := false }
def FnEnabledKeysExactSaid : Prop := fnEnabledKeysExactRow.holds Trym.pinned (OpenSpec.ofChange fnEnabledKeysExactSpec)

/-- ITS FALSE NEIGHBOUR: 'it returns false'. Refute it at one input. -/
def fnEnabledKeysExactWrong : ChangeSpec := { name := "fnEnabledKeysExact", fn := fun _ => fun
  | [d] => { results := [.lit (.bool false)], args := [d] }
  | _ => none }
def FnEnabledKeysExactWrongFalsely : Prop := fnEnabledKeysExactRow.holds Trym.pinned (OpenSpec.ofChange fnEnabledKeysExactWrong)

/-- 'zzlaws_store_b1.FnEnabledKeysConcat': WHATEVER THE INPUT: true; the input reads as it did. -/
def fnEnabledKeysConcatSpec : ChangeSpec := { name := "fnEnabledKeysConcat", fn := fun _ => fun
  | [d1, d2] => { results := [.lit (.bool true)], args := [d1, d2] }
  | _ => none }
def fnEnabledKeysConcatRow : OpenClaim := { program := "qxb6000482amods", sum := "3ee19f603bbc66afd49be95f537156eb179cb55be292f3d6e4fffd346d673ab5", func := "example.com/relaykeeper/relaykeeper/zzlaws_store_b1.FnEnabledKeysConcat", spec := "fnEnabledKeysConcat", make := .lifted ["publicsums"], apart := false }
def FnEnabledKeysConcatSaid : Prop := fnEnabledKeysConcatRow.holds Trym.pinned (OpenSpec.ofChange fnEnabledKeysConcatSpec)

/-- ITS FALSE NEIGHBOUR: 'it returns false'. Refute it at one input. -/
def fnEnabledKeysConcatWrong : ChangeSpec := { name := "fnEnabledKeysConcat", fn := fun _ => fun
  | [d1, d2] => { results := [.lit (.bool false)], args := [d1, d2] }
  | _ => none }
def FnEnabledKeysConcatWrongFalsely : Prop := fnEnabledKeysConcatRow.holds Trym.pinned (OpenSpec.ofChange fnEnabledKeysConcatWrong)

end Rows
end Go.Proofs.Qxb6000482aMods
