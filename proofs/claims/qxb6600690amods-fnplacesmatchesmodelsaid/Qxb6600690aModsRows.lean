/-
  No cell of these rows narrows 'for every input' (looked for: loops, veiled, ifaces, maps, wideKeys, modest, calm, conditions, laid).
  DERIVED. THE GIVEN ROWS OF THIS SEAT. 6 by the template 'for every input the law returns true; each argument reads behind the call as it read before'; 0 by the template 'total and deterministic' (their statements: Qxb6600690aModsTotals.lean).
  GIVEN WITH THE SEED: the statements are not yours to turn. If you find one false, say at which input.
  Laid BY PROGRAM, IN A SANDBOX (cutbox-rows.mjs): the forced cells as the released guide's own fill.sh prints them over the translation ddd6743ad1777718… (all of the seat's roots in one cut). By AI agents, Wed Nov 11 2026. No macro, syntax, notation, axiom, sorry.
-/
import Derived.Test.Qxb6600690aModsChecked
import GoSem.Claim
import GoSem.ClaimJoined
import GoSem.ClaimMapViews
import Derived.JoinedTies
import Derived.KernelRfl
namespace Go.Proofs.Qxb6600690aMods
/- THE CELL 'sum', in the pinned program and in every row, IS THE sha256 OF THE DUMP (.gsa) THAT Qxb6600690aModsProg.lean LOADS. Nothing in Lean hashes anything: it is a label: what it is worth is what the hold of that sum in a sandbox is worth. -/
noncomputable def Trym.pinned : Pinned := { name := "qxb6600690amods", sum := "ddd6743ad17777188bf21269a24223d493d15689220e0962b5686daa3aebf881", checked := Trym.checked }
namespace Rows
def none {H : Type} : Left H := { results := [], args := [] }

/-- 'zzlaws_internal_csvfile_b1.FnIsDecimalMatchesGrammar': WHATEVER THE INPUT: true; the input reads as it did. -/
def fnIsDecimalMatchesGrammarSpec : ChangeSpec := { name := "fnIsDecimalMatchesGrammar", fn := fun _ => fun
  | [d] => { results := [.lit (.bool true)], args := [d] }
  | _ => none }
def fnIsDecimalMatchesGrammarRow : OpenClaim := { program := "qxb6600690amods", sum := "ddd6743ad17777188bf21269a24223d493d15689220e0962b5686daa3aebf881", func := "example.com/tuoguan/tuoguan/zzlaws_internal_csvfile_b1.FnIsDecimalMatchesGrammar", spec := "fnIsDecimalMatchesGrammar", make := .lifted ["publicsums"], apart := false }
def FnIsDecimalMatchesGrammarSaid : Prop := fnIsDecimalMatchesGrammarRow.holds Trym.pinned (OpenSpec.ofChange fnIsDecimalMatchesGrammarSpec)

/-- ITS FALSE NEIGHBOUR: 'it returns false'. Refute it at one input. -/
def fnIsDecimalMatchesGrammarWrong : ChangeSpec := { name := "fnIsDecimalMatchesGrammar", fn := fun _ => fun
  | [d] => { results := [.lit (.bool false)], args := [d] }
  | _ => none }
def FnIsDecimalMatchesGrammarWrongFalsely : Prop := fnIsDecimalMatchesGrammarRow.holds Trym.pinned (OpenSpec.ofChange fnIsDecimalMatchesGrammarWrong)

/-- 'zzlaws_internal_csvfile_b1.FnIsDecimalOneSignAtMost': WHATEVER THE INPUT: true; the input reads as it did. -/
def fnIsDecimalOneSignAtMostSpec : ChangeSpec := { name := "fnIsDecimalOneSignAtMost", fn := fun _ => fun
  | [d] => { results := [.lit (.bool true)], args := [d] }
  | _ => none }
def fnIsDecimalOneSignAtMostRow : OpenClaim := { program := "qxb6600690amods", sum := "ddd6743ad17777188bf21269a24223d493d15689220e0962b5686daa3aebf881", func := "example.com/tuoguan/tuoguan/zzlaws_internal_csvfile_b1.FnIsDecimalOneSignAtMost", spec := "fnIsDecimalOneSignAtMost", make := .lifted ["publicsums"], apart := false }
def FnIsDecimalOneSignAtMostSaid : Prop := fnIsDecimalOneSignAtMostRow.holds Trym.pinned (OpenSpec.ofChange fnIsDecimalOneSignAtMostSpec)

/-- ITS FALSE NEIGHBOUR: 'it returns false'. Refute it at one input. -/
def fnIsDecimalOneSignAtMostWrong : ChangeSpec := { name := "fnIsDecimalOneSignAtMost", fn := fun _ => fun
  | [d] => { results := [.lit (.bool false)], args := [d] }
  | _ => none }
def FnIsDecimalOneSignAtMostWrongFalsely : Prop := fnIsDecimalOneSignAtMostRow.holds Trym.pinned (OpenSpec.ofChange fnIsDecimalOneSignAtMostWrong)

/-- 'zzlaws_internal_csvfile_b1.FnIsDecimalExtension': WHATEVER THE INPUT: true; the input reads as it did. -/
def fnIsDecimalExtensionSpec : ChangeSpec := { name := "fnIsDecimalExtension", fn := fun _ => fun
  | [d] => { results := [.lit (.bool true)], args := [d] }
  | _ => none }
def fnIsDecimalExtensionRow : OpenClaim := { program := "qxb6600690amods", sum := "ddd6743ad17777188bf21269a24223d493d15689220e0962b5686daa3aebf881", func := "example.com/tuoguan/tuoguan/zzlaws_internal_csvfile_b1.FnIsDecimalExtension", spec := "fnIsDecimalExtension", make := .lifted ["publicsums"], apart := false }
def FnIsDecimalExtensionSaid : Prop := fnIsDecimalExtensionRow.holds Trym.pinned (OpenSpec.ofChange fnIsDecimalExtensionSpec)

/-- ITS FALSE NEIGHBOUR: 'it returns false'. Refute it at one input. -/
def fnIsDecimalExtensionWrong : ChangeSpec := { name := "fnIsDecimalExtension", fn := fun _ => fun
  | [d] => { results := [.lit (.bool false)], args := [d] }
  | _ => none }
def FnIsDecimalExtensionWrongFalsely : Prop := fnIsDecimalExtensionRow.holds Trym.pinned (OpenSpec.ofChange fnIsDecimalExtensionWrong)

/-- 'zzlaws_internal_csvfile_b1.FnPlacesMatchesModel': WHATEVER THE INPUT: true; the input reads as it did. -/
def fnPlacesMatchesModelSpec : ChangeSpec := { name := "fnPlacesMatchesModel", fn := fun _ => fun
  | [d1, d2, d3] => { results := [.lit (.bool true)], args := [d1, d2, d3] }
  | _ => none }
def fnPlacesMatchesModelRow : OpenClaim := { program := "qxb6600690amods", sum := "ddd6743ad17777188bf21269a24223d493d15689220e0962b5686daa3aebf881", func := "example.com/tuoguan/tuoguan/zzlaws_internal_csvfile_b1.FnPlacesMatchesModel", spec := "fnPlacesMatchesModel", make := .lifted ["publicsums"], apart := false }
def FnPlacesMatchesModelSaid : Prop := fnPlacesMatchesModelRow.holds Trym.pinned (OpenSpec.ofChange fnPlacesMatchesModelSpec)

/-- ITS FALSE NEIGHBOUR: 'it returns false'. Refute it at one input. -/
def fnPlacesMatchesModelWrong : ChangeSpec := { name := "fnPlacesMatchesModel", fn := fun _ => fun
  | [d1, d2, d3] => { results := [.lit (.bool false)], args := [d1, d2, d3] }
  | _ => none }
def FnPlacesMatchesModelWrongFalsely : Prop := fnPlacesMatchesModelRow.holds Trym.pinned (OpenSpec.ofChange fnPlacesMatchesModelWrong)

/-- 'zzlaws_internal_csvfile_b1.FnPlacesNameTheHeadersColumns': WHATEVER THE INPUT: true; the input reads as it did. -/
def fnPlacesNameTheHeadersColumnsSpec : ChangeSpec := { name := "fnPlacesNameTheHeadersColumns", fn := fun _ => fun
  | [d1, d2, d3] => { results := [.lit (.bool true)], args := [d1, d2, d3] }
  | _ => none }
def fnPlacesNameTheHeadersColumnsRow : OpenClaim := { program := "qxb6600690amods", sum := "ddd6743ad17777188bf21269a24223d493d15689220e0962b5686daa3aebf881", func := "example.com/tuoguan/tuoguan/zzlaws_internal_csvfile_b1.FnPlacesNameTheHeadersColumns", spec := "fnPlacesNameTheHeadersColumns", make := .lifted ["publicsums"], apart := false }
def FnPlacesNameTheHeadersColumnsSaid : Prop := fnPlacesNameTheHeadersColumnsRow.holds Trym.pinned (OpenSpec.ofChange fnPlacesNameTheHeadersColumnsSpec)

/-- ITS FALSE NEIGHBOUR: 'it returns false'. Refute it at one input. -/
def fnPlacesNameTheHeadersColumnsWrong : ChangeSpec := { name := "fnPlacesNameTheHeadersColumns", fn := fun _ => fun
  | [d1, d2, d3] => { results := [.lit (.bool false)], args := [d1, d2, d3] }
  | _ => none }
def FnPlacesNameTheHeadersColumnsWrongFalsely : Prop := fnPlacesNameTheHeadersColumnsRow.holds Trym.pinned (OpenSpec.ofChange fnPlacesNameTheHeadersColumnsWrong)

/-- 'zzlaws_internal_csvfile_b1.FnPlacesOptionalOrderFree': WHATEVER THE INPUT: true; the input reads as it did. -/
def fnPlacesOptionalOrderFreeSpec : ChangeSpec := { name := "fnPlacesOptionalOrderFree", fn := fun _ => fun
  | [d1, d2, d3] => { results := [.lit (.bool true)], args := [d1, d2, d3] }
  | _ => none }
def fnPlacesOptionalOrderFreeRow : OpenClaim := { program := "qxb6600690amods", sum := "ddd6743ad17777188bf21269a24223d493d15689220e0962b5686daa3aebf881", func := "example.com/tuoguan/tuoguan/zzlaws_internal_csvfile_b1.FnPlacesOptionalOrderFree", spec := "fnPlacesOptionalOrderFree", make := .lifted ["publicsums"], apart := false }
def FnPlacesOptionalOrderFreeSaid : Prop := fnPlacesOptionalOrderFreeRow.holds Trym.pinned (OpenSpec.ofChange fnPlacesOptionalOrderFreeSpec)

/-- ITS FALSE NEIGHBOUR: 'it returns false'. Refute it at one input. -/
def fnPlacesOptionalOrderFreeWrong : ChangeSpec := { name := "fnPlacesOptionalOrderFree", fn := fun _ => fun
  | [d1, d2, d3] => { results := [.lit (.bool false)], args := [d1, d2, d3] }
  | _ => none }
def FnPlacesOptionalOrderFreeWrongFalsely : Prop := fnPlacesOptionalOrderFreeRow.holds Trym.pinned (OpenSpec.ofChange fnPlacesOptionalOrderFreeWrong)

end Rows
end Go.Proofs.Qxb6600690aMods
