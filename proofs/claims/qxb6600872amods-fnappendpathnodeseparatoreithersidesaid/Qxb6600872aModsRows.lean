/-
  No cell of these rows narrows 'for every input' (looked for: loops, veiled, ifaces, maps, wideKeys, modest, calm, conditions, laid).
  DERIVED. THE GIVEN ROWS OF THIS SEAT. 3 by the template 'for every input the law returns true; each argument reads behind the call as it read before'; 0 by the template 'total and deterministic' (their statements: Qxb6600872aModsTotals.lean).
  GIVEN WITH THE SEED: the statements are not yours to turn. If you find one false, say at which input.
  Laid BY PROGRAM, IN A SANDBOX (cutbox-rows.mjs): the forced cells as the released guide's own fill.sh prints them over the translation 395821156b517249… (all of the seat's roots in one cut). By AI agents, Wed Nov 11 2026. No macro, syntax, notation, axiom, sorry.
-/
import Derived.Test.Qxb6600872aModsChecked
import GoSem.Claim
import GoSem.ClaimJoined
import GoSem.ClaimMapViews
import Derived.JoinedTies
import Derived.KernelRfl
namespace Go.Proofs.Qxb6600872aMods
/- THE CELL 'sum', in the pinned program and in every row, IS THE sha256 OF THE DUMP (.gsa) THAT Qxb6600872aModsProg.lean LOADS. Nothing in Lean hashes anything: it is a label: what it is worth is what the hold of that sum in a sandbox is worth. -/
noncomputable def Trym.pinned : Pinned := { name := "qxb6600872amods", sum := "395821156b517249246786de8ab12dc60b69a078201a2348a4bbc4e2882773ee", checked := Trym.checked }
namespace Rows
def none {H : Type} : Left H := { results := [], args := [] }

/-- 'zzlaws_eventlog_b1.FnIsPrintableASCIIMatchesTable': WHATEVER THE INPUT: true; the input reads as it did. -/
def fnIsPrintableASCIIMatchesTableSpec : ChangeSpec := { name := "fnIsPrintableASCIIMatchesTable", fn := fun _ => fun
  | [d] => { results := [.lit (.bool true)], args := [d] }
  | _ => none }
def fnIsPrintableASCIIMatchesTableRow : OpenClaim := { program := "qxb6600872amods", sum := "395821156b517249246786de8ab12dc60b69a078201a2348a4bbc4e2882773ee", func := "example.com/vestigia/vestigia/zzlaws_eventlog_b1.FnIsPrintableASCIIMatchesTable", spec := "fnIsPrintableASCIIMatchesTable", make := .lifted ["publicsums"], apart := false }
def FnIsPrintableASCIIMatchesTableSaid : Prop := fnIsPrintableASCIIMatchesTableRow.holds Trym.pinned (OpenSpec.ofChange fnIsPrintableASCIIMatchesTableSpec)

/-- ITS FALSE NEIGHBOUR: 'it returns false'. Refute it at one input. -/
def fnIsPrintableASCIIMatchesTableWrong : ChangeSpec := { name := "fnIsPrintableASCIIMatchesTable", fn := fun _ => fun
  | [d] => { results := [.lit (.bool false)], args := [d] }
  | _ => none }
def FnIsPrintableASCIIMatchesTableWrongFalsely : Prop := fnIsPrintableASCIIMatchesTableRow.holds Trym.pinned (OpenSpec.ofChange fnIsPrintableASCIIMatchesTableWrong)

/-- 'zzlaws_eventlog_b1.FnIsPrintableASCIIConcat': WHATEVER THE INPUT: true; the input reads as it did. -/
def fnIsPrintableASCIIConcatSpec : ChangeSpec := { name := "fnIsPrintableASCIIConcat", fn := fun _ => fun
  | [d1, d2] => { results := [.lit (.bool true)], args := [d1, d2] }
  | _ => none }
def fnIsPrintableASCIIConcatRow : OpenClaim := { program := "qxb6600872amods", sum := "395821156b517249246786de8ab12dc60b69a078201a2348a4bbc4e2882773ee", func := "example.com/vestigia/vestigia/zzlaws_eventlog_b1.FnIsPrintableASCIIConcat", spec := "fnIsPrintableASCIIConcat", make := .lifted ["publicsums"], apart := false }
def FnIsPrintableASCIIConcatSaid : Prop := fnIsPrintableASCIIConcatRow.holds Trym.pinned (OpenSpec.ofChange fnIsPrintableASCIIConcatSpec)

/-- ITS FALSE NEIGHBOUR: 'it returns false'. Refute it at one input. -/
def fnIsPrintableASCIIConcatWrong : ChangeSpec := { name := "fnIsPrintableASCIIConcat", fn := fun _ => fun
  | [d1, d2] => { results := [.lit (.bool false)], args := [d1, d2] }
  | _ => none }
def FnIsPrintableASCIIConcatWrongFalsely : Prop := fnIsPrintableASCIIConcatRow.holds Trym.pinned (OpenSpec.ofChange fnIsPrintableASCIIConcatWrong)

/-- 'zzlaws_eventlog_b1.FnAppendPathNodeSeparatorEitherSide': WHATEVER THE INPUT: true; the input reads as it did. -/
def fnAppendPathNodeSeparatorEitherSideSpec : ChangeSpec := { name := "fnAppendPathNodeSeparatorEitherSide", fn := fun _ => fun
  | [d1, d2] => { results := [.lit (.bool true)], args := [d1, d2] }
  | _ => none }
def fnAppendPathNodeSeparatorEitherSideRow : OpenClaim := { program := "qxb6600872amods", sum := "395821156b517249246786de8ab12dc60b69a078201a2348a4bbc4e2882773ee", func := "example.com/vestigia/vestigia/zzlaws_eventlog_b1.FnAppendPathNodeSeparatorEitherSide", spec := "fnAppendPathNodeSeparatorEitherSide", make := .lifted ["publicsums"], apart := false }
def FnAppendPathNodeSeparatorEitherSideSaid : Prop := fnAppendPathNodeSeparatorEitherSideRow.holds Trym.pinned (OpenSpec.ofChange fnAppendPathNodeSeparatorEitherSideSpec)

/-- ITS FALSE NEIGHBOUR: 'it returns false'. Refute it at one input. -/
def fnAppendPathNodeSeparatorEitherSideWrong : ChangeSpec := { name := "fnAppendPathNodeSeparatorEitherSide", fn := fun _ => fun
  | [d1, d2] => { results := [.lit (.bool false)], args := [d1, d2] }
  | _ => none }
def FnAppendPathNodeSeparatorEitherSideWrongFalsely : Prop := fnAppendPathNodeSeparatorEitherSideRow.holds Trym.pinned (OpenSpec.ofChange fnAppendPathNodeSeparatorEitherSideWrong)

end Rows
end Go.Proofs.Qxb6600872aMods
