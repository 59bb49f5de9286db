/-
  No cell of these rows narrows 'for every input' (looked for: loops, veiled, ifaces, maps, wideKeys, modest, calm, conditions, laid).
  DERIVED. THE GIVEN ROWS OF THIS SEAT. 7 by the template 'for every input the law returns true; each argument reads behind the call as it read before'; 0 by the template 'total and deterministic' (their statements: Qxb6601213aModsTotals.lean).
  GIVEN WITH THE SEED: the statements are not yours to turn. If you find one false, say at which input.
  Laid BY PROGRAM, IN A SANDBOX (cutbox-rows.mjs): the forced cells as the released guide's own fill.sh prints them over the translation f6597d7b630cb84e… (all of the seat's roots in one cut). By AI agents, Wed Nov 11 2026. No macro, syntax, notation, axiom, sorry.
-/
import Derived.Test.Qxb6601213aModsChecked
import GoSem.Claim
import GoSem.ClaimJoined
import GoSem.ClaimMapViews
import Derived.JoinedTies
import Derived.KernelRfl
namespace Go.Proofs.Qxb6601213aMods
/- THE CELL 'sum', in the pinned program and in every row, IS THE sha256 OF THE DUMP (.gsa) THAT Qxb6601213aModsProg.lean LOADS. Nothing in Lean hashes anything: it is a label: what it is worth is what the hold of that sum in a sandbox is worth. -/
noncomputable def Trym.pinned : Pinned := { name := "qxb6601213amods", sum := "f6597d7b630cb84e3d3a8f100c1324a1edb40f419428aa2a4d3a312b6ce70a75", checked := Trym.checked }
namespace Rows
def none {H : Type} : Left H := { results := [], args := [] }

/-- 'zzlaws_root_b1.FnBranchBeforeIsLengthPrefixedLexOrder': WHATEVER THE INPUT: true; the input reads as it did. -/
def fnBranchBeforeIsLengthPrefixedLexOrderSpec : ChangeSpec := { name := "fnBranchBeforeIsLengthPrefixedLexOrder", fn := fun _ => fun
  | [d1, d2, d3, d4] => { results := [.lit (.bool true)], args := [d1, d2, d3, d4] }
  | _ => none }
def fnBranchBeforeIsLengthPrefixedLexOrderRow : OpenClaim := { program := "qxb6601213amods", sum := "f6597d7b630cb84e3d3a8f100c1324a1edb40f419428aa2a4d3a312b6ce70a75", func := "example.com/patto/patto/zzlaws_root_b1.FnBranchBeforeIsLengthPrefixedLexOrder", spec := "fnBranchBeforeIsLengthPrefixedLexOrder", make := .lifted ["publicsums"], apart := false }
def FnBranchBeforeIsLengthPrefixedLexOrderSaid : Prop := fnBranchBeforeIsLengthPrefixedLexOrderRow.holds Trym.pinned (OpenSpec.ofChange fnBranchBeforeIsLengthPrefixedLexOrderSpec)

/-- ITS FALSE NEIGHBOUR: 'it returns false'. Refute it at one input. -/
def fnBranchBeforeIsLengthPrefixedLexOrderWrong : ChangeSpec := { name := "fnBranchBeforeIsLengthPrefixedLexOrder", fn := fun _ => fun
  | [d1, d2, d3, d4] => { results := [.lit (.bool false)], args := [d1, d2, d3, d4] }
  | _ => none }
def FnBranchBeforeIsLengthPrefixedLexOrderWrongFalsely : Prop := fnBranchBeforeIsLengthPrefixedLexOrderRow.holds Trym.pinned (OpenSpec.ofChange fnBranchBeforeIsLengthPrefixedLexOrderWrong)

/-- 'zzlaws_root_b1.FnBranchBeforeIsStrictTotalOrder': WHATEVER THE INPUT: true; the input reads as it did. -/
def fnBranchBeforeIsStrictTotalOrderSpec : ChangeSpec := { name := "fnBranchBeforeIsStrictTotalOrder", fn := fun _ => fun
  | [d1, d2, d3, d4, d5, d6] => { results := [.lit (.bool true)], args := [d1, d2, d3, d4, d5, d6] }
  | _ => none }
def fnBranchBeforeIsStrictTotalOrderRow : OpenClaim := { program := "qxb6601213amods", sum := "f6597d7b630cb84e3d3a8f100c1324a1edb40f419428aa2a4d3a312b6ce70a75", func := "example.com/patto/patto/zzlaws_root_b1.FnBranchBeforeIsStrictTotalOrder", spec := "fnBranchBeforeIsStrictTotalOrder", make := .lifted ["publicsums"], apart := false }
def FnBranchBeforeIsStrictTotalOrderSaid : Prop := fnBranchBeforeIsStrictTotalOrderRow.holds Trym.pinned (OpenSpec.ofChange fnBranchBeforeIsStrictTotalOrderSpec)

/-- ITS FALSE NEIGHBOUR: 'it returns false'. Refute it at one input. -/
def fnBranchBeforeIsStrictTotalOrderWrong : ChangeSpec := { name := "fnBranchBeforeIsStrictTotalOrder", fn := fun _ => fun
  | [d1, d2, d3, d4, d5, d6] => { results := [.lit (.bool false)], args := [d1, d2, d3, d4, d5, d6] }
  | _ => none }
def FnBranchBeforeIsStrictTotalOrderWrongFalsely : Prop := fnBranchBeforeIsStrictTotalOrderRow.holds Trym.pinned (OpenSpec.ofChange fnBranchBeforeIsStrictTotalOrderWrong)

/-- 'zzlaws_root_b1.FnBranchBeforeOrdersOwnTransactionIdsNumerically': WHATEVER THE INPUT: true; the input reads as it did. -/
def fnBranchBeforeOrdersOwnTransactionIdsNumericallySpec : ChangeSpec := { name := "fnBranchBeforeOrdersOwnTransactionIdsNumerically", fn := fun _ => fun
  | [d1, d2, d3, d4, d5] => { results := [.lit (.bool true)], args := [d1, d2, d3, d4, d5] }
  | _ => none }
def fnBranchBeforeOrdersOwnTransactionIdsNumericallyRow : OpenClaim := { program := "qxb6601213amods", sum := "f6597d7b630cb84e3d3a8f100c1324a1edb40f419428aa2a4d3a312b6ce70a75", func := "example.com/patto/patto/zzlaws_root_b1.FnBranchBeforeOrdersOwnTransactionIdsNumerically", spec := "fnBranchBeforeOrdersOwnTransactionIdsNumerically", make := .lifted ["publicsums"], apart := false }
def FnBranchBeforeOrdersOwnTransactionIdsNumericallySaid : Prop := fnBranchBeforeOrdersOwnTransactionIdsNumericallyRow.holds Trym.pinned (OpenSpec.ofChange fnBranchBeforeOrdersOwnTransactionIdsNumericallySpec)

/-- ITS FALSE NEIGHBOUR: 'it returns false'. Refute it at one input. -/
def fnBranchBeforeOrdersOwnTransactionIdsNumericallyWrong : ChangeSpec := { name := "fnBranchBeforeOrdersOwnTransactionIdsNumerically", fn := fun _ => fun
  | [d1, d2, d3, d4, d5] => { results := [.lit (.bool false)], args := [d1, d2, d3, d4, d5] }
  | _ => none }
def FnBranchBeforeOrdersOwnTransactionIdsNumericallyWrongFalsely : Prop := fnBranchBeforeOrdersOwnTransactionIdsNumericallyRow.holds Trym.pinned (OpenSpec.ofChange fnBranchBeforeOrdersOwnTransactionIdsNumericallyWrong)

/-- 'zzlaws_root_b1.FnSameRecordsIsEqualityOfLengthPrefixedEncoding': WHATEVER THE INPUT: true; the input reads as it did. -/
def fnSameRecordsIsEqualityOfLengthPrefixedEncodingSpec : ChangeSpec := { name := "fnSameRecordsIsEqualityOfLengthPrefixedEncoding", fn := fun _ => fun
  | [d1, d2] => { results := [.lit (.bool true)], args := [d1, d2] }
  | _ => none }
def fnSameRecordsIsEqualityOfLengthPrefixedEncodingRow : OpenClaim := { program := "qxb6601213amods", sum := "f6597d7b630cb84e3d3a8f100c1324a1edb40f419428aa2a4d3a312b6ce70a75", func := "example.com/patto/patto/zzlaws_root_b1.FnSameRecordsIsEqualityOfLengthPrefixedEncoding", spec := "fnSameRecordsIsEqualityOfLengthPrefixedEncoding", make := .lifted ["publicsums"], apart := false }
def FnSameRecordsIsEqualityOfLengthPrefixedEncodingSaid : Prop := fnSameRecordsIsEqualityOfLengthPrefixedEncodingRow.holds Trym.pinned (OpenSpec.ofChange fnSameRecordsIsEqualityOfLengthPrefixedEncodingSpec)

/-- ITS FALSE NEIGHBOUR: 'it returns false'. Refute it at one input. -/
def fnSameRecordsIsEqualityOfLengthPrefixedEncodingWrong : ChangeSpec := { name := "fnSameRecordsIsEqualityOfLengthPrefixedEncoding", fn := fun _ => fun
  | [d1, d2] => { results := [.lit (.bool false)], args := [d1, d2] }
  | _ => none }
def FnSameRecordsIsEqualityOfLengthPrefixedEncodingWrongFalsely : Prop := fnSameRecordsIsEqualityOfLengthPrefixedEncodingRow.holds Trym.pinned (OpenSpec.ofChange fnSameRecordsIsEqualityOfLengthPrefixedEncodingWrong)

/-- 'zzlaws_root_b1.FnSameRecordsIsEquivalence': WHATEVER THE INPUT: true; the input reads as it did. -/
def fnSameRecordsIsEquivalenceSpec : ChangeSpec := { name := "fnSameRecordsIsEquivalence", fn := fun _ => fun
  | [d1, d2, d3] => { results := [.lit (.bool true)], args := [d1, d2, d3] }
  | _ => none }
def fnSameRecordsIsEquivalenceRow : OpenClaim := { program := "qxb6601213amods", sum := "f6597d7b630cb84e3d3a8f100c1324a1edb40f419428aa2a4d3a312b6ce70a75", func := "example.com/patto/patto/zzlaws_root_b1.FnSameRecordsIsEquivalence", spec := "fnSameRecordsIsEquivalence", make := .lifted ["publicsums"], apart := false }
def FnSameRecordsIsEquivalenceSaid : Prop := fnSameRecordsIsEquivalenceRow.holds Trym.pinned (OpenSpec.ofChange fnSameRecordsIsEquivalenceSpec)

/-- ITS FALSE NEIGHBOUR: 'it returns false'. Refute it at one input. -/
def fnSameRecordsIsEquivalenceWrong : ChangeSpec := { name := "fnSameRecordsIsEquivalence", fn := fun _ => fun
  | [d1, d2, d3] => { results := [.lit (.bool false)], args := [d1, d2, d3] }
  | _ => none }
def FnSameRecordsIsEquivalenceWrongFalsely : Prop := fnSameRecordsIsEquivalenceRow.holds Trym.pinned (OpenSpec.ofChange fnSameRecordsIsEquivalenceWrong)

/-- 'zzlaws_root_b1.FnSameRecordsSeesContentNotMemory': WHATEVER THE INPUT: true; the input reads as it did. -/
def fnSameRecordsSeesContentNotMemorySpec : ChangeSpec := { name := "fnSameRecordsSeesContentNotMemory", fn := fun _ => fun
  | [d1, d2, d3] => { results := [.lit (.bool true)], args := [d1, d2, d3] }
  | _ => none }
def fnSameRecordsSeesContentNotMemoryRow : OpenClaim := { program := "qxb6601213amods", sum := "f6597d7b630cb84e3d3a8f100c1324a1edb40f419428aa2a4d3a312b6ce70a75", func := "example.com/patto/patto/zzlaws_root_b1.FnSameRecordsSeesContentNotMemory", spec := "fnSameRecordsSeesContentNotMemory", make := .lifted ["publicsums"], apart := false }
def FnSameRecordsSeesContentNotMemorySaid : Prop := fnSameRecordsSeesContentNotMemoryRow.holds Trym.pinned (OpenSpec.ofChange fnSameRecordsSeesContentNotMemorySpec)

/-- ITS FALSE NEIGHBOUR: 'it returns false'. Refute it at one input. -/
def fnSameRecordsSeesContentNotMemoryWrong : ChangeSpec := { name := "fnSameRecordsSeesContentNotMemory", fn := fun _ => fun
  | [d1, d2, d3] => { results := [.lit (.bool false)], args := [d1, d2, d3] }
  | _ => none }
def FnSameRecordsSeesContentNotMemoryWrongFalsely : Prop := fnSameRecordsSeesContentNotMemoryRow.holds Trym.pinned (OpenSpec.ofChange fnSameRecordsSeesContentNotMemoryWrong)

/-- 'zzlaws_root_b1.FnOutcomeStringSeparatesDecidedOutcomes': WHATEVER THE INPUT: true; the input reads as it did. -/
def fnOutcomeStringSeparatesDecidedOutcomesSpec : ChangeSpec := { name := "fnOutcomeStringSeparatesDecidedOutcomes", fn := fun _ => fun
  | [d1, d2] => { results := [.lit (.bool true)], args := [d1, d2] }
  | _ => none }
def fnOutcomeStringSeparatesDecidedOutcomesRow : OpenClaim := { program := "qxb6601213amods", sum := "f6597d7b630cb84e3d3a8f100c1324a1edb40f419428aa2a4d3a312b6ce70a75", func := "example.com/patto/patto/zzlaws_root_b1.FnOutcomeStringSeparatesDecidedOutcomes", spec := "fnOutcomeStringSeparatesDecidedOutcomes", make := .lifted ["publicsums"], apart := false }
def FnOutcomeStringSeparatesDecidedOutcomesSaid : Prop := fnOutcomeStringSeparatesDecidedOutcomesRow.holds Trym.pinned (OpenSpec.ofChange fnOutcomeStringSeparatesDecidedOutcomesSpec)

/-- ITS FALSE NEIGHBOUR: 'it returns false'. Refute it at one input. -/
def fnOutcomeStringSeparatesDecidedOutcomesWrong : ChangeSpec := { name := "fnOutcomeStringSeparatesDecidedOutcomes", fn := fun _ => fun
  | [d1, d2] => { results := [.lit (.bool false)], args := [d1, d2] }
  | _ => none }
def FnOutcomeStringSeparatesDecidedOutcomesWrongFalsely : Prop := fnOutcomeStringSeparatesDecidedOutcomesRow.holds Trym.pinned (OpenSpec.ofChange fnOutcomeStringSeparatesDecidedOutcomesWrong)

end Rows
end Go.Proofs.Qxb6601213aMods
