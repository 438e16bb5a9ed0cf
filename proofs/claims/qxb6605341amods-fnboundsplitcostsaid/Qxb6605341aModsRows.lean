/-
  No cell of these rows narrows 'for every input' (looked for: loops, veiled, ifaces, maps, wideKeys, modest, calm, conditions, laid).
  DERIVED. THE GIVEN ROWS OF THIS SEAT. 3 by the template 'for every input the law returns true; each argument reads behind the call as it read before'; 0 by the template 'total and deterministic' (their statements: Qxb6605341aModsTotals.lean).
  GIVEN WITH THE SEED: the statements are not yours to turn. If you find one false, say at which input.
  Laid BY PROGRAM, IN A SANDBOX (cutbox-rows.mjs): the forced cells as the released guide's own fill.sh prints them over the translation eacbd1e8fad9d206… (all of the seat's roots in one cut). By AI agents, Wed Nov 11 2026. No macro, syntax, notation, axiom, sorry.
-/
import Derived.Test.Qxb6605341aModsChecked
import GoSem.Claim
import GoSem.ClaimJoined
import GoSem.ClaimMapViews
import Derived.JoinedTies
import Derived.KernelRfl
namespace Go.Proofs.Qxb6605341aMods
/- THE CELL 'sum', in the pinned program and in every row, IS THE sha256 OF THE DUMP (.gsa) THAT Qxb6605341aModsProg.lean LOADS. Nothing in Lean hashes anything: it is a label: what it is worth is what the hold of that sum in a sandbox is worth. -/
noncomputable def Trym.pinned : Pinned := { name := "qxb6605341amods", sum := "eacbd1e8fad9d206d243c8a4524a5170435ad483a0433dd5ce3e4275a30596a5", checked := Trym.checked }
namespace Rows
def none {H : Type} : Left H := { results := [], args := [] }

/-- 'zzlaws_internal_coding_b1.FnBoundLeastBlockCount': WHATEVER THE INPUT: true; the input reads as it did. -/
def fnBoundLeastBlockCountSpec : ChangeSpec := { name := "fnBoundLeastBlockCount", fn := fun _ => fun
  | [d] => { results := [.lit (.bool true)], args := [d] }
  | _ => none }
def fnBoundLeastBlockCountRow : OpenClaim := { program := "qxb6605341amods", sum := "eacbd1e8fad9d206d243c8a4524a5170435ad483a0433dd5ce3e4275a30596a5", func := "example.com/tesserae/tesserae/zzlaws_internal_coding_b1.FnBoundLeastBlockCount", spec := "fnBoundLeastBlockCount", make := .lifted ["publicsums"], apart := false }
def FnBoundLeastBlockCountSaid : Prop := fnBoundLeastBlockCountRow.holds Trym.pinned (OpenSpec.ofChange fnBoundLeastBlockCountSpec)

/-- ITS FALSE NEIGHBOUR: 'it returns false'. Refute it at one input. -/
def fnBoundLeastBlockCountWrong : ChangeSpec := { name := "fnBoundLeastBlockCount", fn := fun _ => fun
  | [d] => { results := [.lit (.bool false)], args := [d] }
  | _ => none }
def FnBoundLeastBlockCountWrongFalsely : Prop := fnBoundLeastBlockCountRow.holds Trym.pinned (OpenSpec.ofChange fnBoundLeastBlockCountWrong)

/-- 'zzlaws_internal_coding_b1.FnBoundStepTable': WHATEVER THE INPUT: true; the input reads as it did. -/
def fnBoundStepTableSpec : ChangeSpec := { name := "fnBoundStepTable", fn := fun _ => fun
  | [d] => { results := [.lit (.bool true)], args := [d] }
  | _ => none }
def fnBoundStepTableRow : OpenClaim := { program := "qxb6605341amods", sum := "eacbd1e8fad9d206d243c8a4524a5170435ad483a0433dd5ce3e4275a30596a5", func := "example.com/tesserae/tesserae/zzlaws_internal_coding_b1.FnBoundStepTable", spec := "fnBoundStepTable", make := .lifted ["publicsums"], apart := false }
def FnBoundStepTableSaid : Prop := fnBoundStepTableRow.holds Trym.pinned (OpenSpec.ofChange fnBoundStepTableSpec)

/-- ITS FALSE NEIGHBOUR: 'it returns false'. Refute it at one input. -/
def fnBoundStepTableWrong : ChangeSpec := { name := "fnBoundStepTable", fn := fun _ => fun
  | [d] => { results := [.lit (.bool false)], args := [d] }
  | _ => none }
def FnBoundStepTableWrongFalsely : Prop := fnBoundStepTableRow.holds Trym.pinned (OpenSpec.ofChange fnBoundStepTableWrong)

/-- 'zzlaws_internal_coding_b1.FnBoundSplitCost': WHATEVER THE INPUT: true; the input reads as it did. -/
def fnBoundSplitCostSpec : ChangeSpec := { name := "fnBoundSplitCost", fn := fun _ => fun
  | [d1, d2] => { results := [.lit (.bool true)], args := [d1, d2] }
  | _ => none }
def fnBoundSplitCostRow : OpenClaim := { program := "qxb6605341amods", sum := "eacbd1e8fad9d206d243c8a4524a5170435ad483a0433dd5ce3e4275a30596a5", func := "example.com/tesserae/tesserae/zzlaws_internal_coding_b1.FnBoundSplitCost", spec := "fnBoundSplitCost", make := .lifted ["publicsums"], apart := false }
def FnBoundSplitCostSaid : Prop := fnBoundSplitCostRow.holds Trym.pinned (OpenSpec.ofChange fnBoundSplitCostSpec)

/-- ITS FALSE NEIGHBOUR: 'it returns false'. Refute it at one input. -/
def fnBoundSplitCostWrong : ChangeSpec := { name := "fnBoundSplitCost", fn := fun _ => fun
  | [d1, d2] => { results := [.lit (.bool false)], args := [d1, d2] }
  | _ => none }
def FnBoundSplitCostWrongFalsely : Prop := fnBoundSplitCostRow.holds Trym.pinned (OpenSpec.ofChange fnBoundSplitCostWrong)

end Rows
end Go.Proofs.Qxb6605341aMods
