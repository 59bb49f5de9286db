/-
  No cell of these rows narrows 'for every input' (looked for: loops, veiled, ifaces, maps, wideKeys, modest, calm, conditions, laid).
  DERIVED. THE GIVEN ROWS OF THIS SEAT. 6 by the template 'for every input the law returns true; each argument reads behind the call as it read before'; 0 by the template 'total and deterministic' (their statements: Qxb6601599aModsTotals.lean).
  GIVEN WITH THE SEED: the statements are not yours to turn. If you find one false, say at which input.
  Laid BY PROGRAM, IN A SANDBOX (cutbox-rows.mjs): the forced cells as the released guide's own fill.sh prints them over the translation d3ba322a05105a29… (all of the seat's roots in one cut). By AI agents, Wed Nov 11 2026. No macro, syntax, notation, axiom, sorry.
-/
import Derived.Test.Qxb6601599aModsChecked
import GoSem.Claim
import GoSem.ClaimJoined
import GoSem.ClaimMapViews
import Derived.JoinedTies
import Derived.KernelRfl
namespace Go.Proofs.Qxb6601599aMods
/- THE CELL 'sum', in the pinned program and in every row, IS THE sha256 OF THE DUMP (.gsa) THAT Qxb6601599aModsProg.lean LOADS. Nothing in Lean hashes anything: it is a label: what it is worth is what the hold of that sum in a sandbox is worth. -/
noncomputable def Trym.pinned : Pinned := { name := "qxb6601599amods", sum := "d3ba322a05105a2952c7bca1c0e9b2b4a742b7bb01bd76c1186fa30e4c48aea1", checked := Trym.checked }
namespace Rows
def none {H : Type} : Left H := { results := [], args := [] }

/-- 'zzlaws_internal_services_repository_b1.FnFirstIsLinearFirstMatch': WHATEVER THE INPUT: true; the input reads as it did. -/
def fnFirstIsLinearFirstMatchSpec : ChangeSpec := { name := "fnFirstIsLinearFirstMatch", fn := fun _ => fun
  | [d1, d2, d3] => { results := [.lit (.bool true)], args := [d1, d2, d3] }
  | _ => none }
def fnFirstIsLinearFirstMatchRow : OpenClaim := { program := "qxb6601599amods", sum := "d3ba322a05105a2952c7bca1c0e9b2b4a742b7bb01bd76c1186fa30e4c48aea1", func := "example.com/porcelain/porcelain/zzlaws_internal_services_repository_b1.FnFirstIsLinearFirstMatch", spec := "fnFirstIsLinearFirstMatch", inPlace := ["internal/bytealg.abigen_runtime_cmpstring"], unfollowed := true, recurses := true, make := .lifted ["publicsums"], apart := false }
def FnFirstIsLinearFirstMatchSaid : Prop := fnFirstIsLinearFirstMatchRow.holds Trym.pinned (OpenSpec.ofChange fnFirstIsLinearFirstMatchSpec)

/-- ITS FALSE NEIGHBOUR: 'it returns false'. Refute it at one input. -/
def fnFirstIsLinearFirstMatchWrong : ChangeSpec := { name := "fnFirstIsLinearFirstMatch", fn := fun _ => fun
  | [d1, d2, d3] => { results := [.lit (.bool false)], args := [d1, d2, d3] }
  | _ => none }
def FnFirstIsLinearFirstMatchWrongFalsely : Prop := fnFirstIsLinearFirstMatchRow.holds Trym.pinned (OpenSpec.ofChange fnFirstIsLinearFirstMatchWrong)

/-- 'zzlaws_internal_services_repository_b1.FnFirstOverConcatenation': WHATEVER THE INPUT: true; the input reads as it did. -/
def fnFirstOverConcatenationSpec : ChangeSpec := { name := "fnFirstOverConcatenation", fn := fun _ => fun
  | [d1, d2, d3, d4] => { results := [.lit (.bool true)], args := [d1, d2, d3, d4] }
  | _ => none }
def fnFirstOverConcatenationRow : OpenClaim := { program := "qxb6601599amods", sum := "d3ba322a05105a2952c7bca1c0e9b2b4a742b7bb01bd76c1186fa30e4c48aea1", func := "example.com/porcelain/porcelain/zzlaws_internal_services_repository_b1.FnFirstOverConcatenation", spec := "fnFirstOverConcatenation", inPlace := ["internal/bytealg.abigen_runtime_cmpstring"], unfollowed := true, recurses := true, make := .lifted ["publicsums"], apart := false }
def FnFirstOverConcatenationSaid : Prop := fnFirstOverConcatenationRow.holds Trym.pinned (OpenSpec.ofChange fnFirstOverConcatenationSpec)

/-- ITS FALSE NEIGHBOUR: 'it returns false'. Refute it at one input. -/
def fnFirstOverConcatenationWrong : ChangeSpec := { name := "fnFirstOverConcatenation", fn := fun _ => fun
  | [d1, d2, d3, d4] => { results := [.lit (.bool false)], args := [d1, d2, d3, d4] }
  | _ => none }
def FnFirstOverConcatenationWrongFalsely : Prop := fnFirstOverConcatenationRow.holds Trym.pinned (OpenSpec.ofChange fnFirstOverConcatenationWrong)

/-- 'zzlaws_internal_services_repository_b1.FnRefIsTheWholeListBranchesFirst': WHATEVER THE INPUT: true; the input reads as it did. -/
def fnRefIsTheWholeListBranchesFirstSpec : ChangeSpec := { name := "fnRefIsTheWholeListBranchesFirst", fn := fun _ => fun
  | [d1, d2, d3] => { results := [.lit (.bool true)], args := [d1, d2, d3] }
  | _ => none }
def fnRefIsTheWholeListBranchesFirstRow : OpenClaim := { program := "qxb6601599amods", sum := "d3ba322a05105a2952c7bca1c0e9b2b4a742b7bb01bd76c1186fa30e4c48aea1", func := "example.com/porcelain/porcelain/zzlaws_internal_services_repository_b1.FnRefIsTheWholeListBranchesFirst", spec := "fnRefIsTheWholeListBranchesFirst", make := .lifted ["publicsums"], apart := false }
def FnRefIsTheWholeListBranchesFirstSaid : Prop := fnRefIsTheWholeListBranchesFirstRow.holds Trym.pinned (OpenSpec.ofChange fnRefIsTheWholeListBranchesFirstSpec)

/-- ITS FALSE NEIGHBOUR: 'it returns false'. Refute it at one input. -/
def fnRefIsTheWholeListBranchesFirstWrong : ChangeSpec := { name := "fnRefIsTheWholeListBranchesFirst", fn := fun _ => fun
  | [d1, d2, d3] => { results := [.lit (.bool false)], args := [d1, d2, d3] }
  | _ => none }
def FnRefIsTheWholeListBranchesFirstWrongFalsely : Prop := fnRefIsTheWholeListBranchesFirstRow.holds Trym.pinned (OpenSpec.ofChange fnRefIsTheWholeListBranchesFirstWrong)

/-- 'zzlaws_internal_services_repository_b1.FnRefRoundTripsThroughFirst': WHATEVER THE INPUT: true; the input reads as it did. -/
def fnRefRoundTripsThroughFirstSpec : ChangeSpec := { name := "fnRefRoundTripsThroughFirst", fn := fun _ => fun
  | [d1, d2, d3] => { results := [.lit (.bool true)], args := [d1, d2, d3] }
  | _ => none }
def fnRefRoundTripsThroughFirstRow : OpenClaim := { program := "qxb6601599amods", sum := "d3ba322a05105a2952c7bca1c0e9b2b4a742b7bb01bd76c1186fa30e4c48aea1", func := "example.com/porcelain/porcelain/zzlaws_internal_services_repository_b1.FnRefRoundTripsThroughFirst", spec := "fnRefRoundTripsThroughFirst", inPlace := ["internal/bytealg.abigen_runtime_cmpstring"], unfollowed := true, recurses := true, make := .lifted ["publicsums"], apart := false }
def FnRefRoundTripsThroughFirstSaid : Prop := fnRefRoundTripsThroughFirstRow.holds Trym.pinned (OpenSpec.ofChange fnRefRoundTripsThroughFirstSpec)

/-- ITS FALSE NEIGHBOUR: 'it returns false'. Refute it at one input. -/
def fnRefRoundTripsThroughFirstWrong : ChangeSpec := { name := "fnRefRoundTripsThroughFirst", fn := fun _ => fun
  | [d1, d2, d3] => { results := [.lit (.bool false)], args := [d1, d2, d3] }
  | _ => none }
def FnRefRoundTripsThroughFirstWrongFalsely : Prop := fnRefRoundTripsThroughFirstRow.holds Trym.pinned (OpenSpec.ofChange fnRefRoundTripsThroughFirstWrong)

/-- 'zzlaws_internal_services_repository_b1.FnCandidatesArePrefixesOfTheWholeAddress': WHATEVER THE INPUT: true; the input reads as it did. -/
def fnCandidatesArePrefixesOfTheWholeAddressSpec : ChangeSpec := { name := "fnCandidatesArePrefixesOfTheWholeAddress", fn := fun _ => fun
  | [d] => { results := [.lit (.bool true)], args := [d] }
  | _ => none }
def fnCandidatesArePrefixesOfTheWholeAddressRow : OpenClaim := { program := "qxb6601599amods", sum := "d3ba322a05105a2952c7bca1c0e9b2b4a742b7bb01bd76c1186fa30e4c48aea1", func := "example.com/porcelain/porcelain/zzlaws_internal_services_repository_b1.FnCandidatesArePrefixesOfTheWholeAddress", spec := "fnCandidatesArePrefixesOfTheWholeAddress", inPlace := ["internal/abi.NoEscape", "internal/bytealg.MakeNoZero"], make := .lifted ["publicsums"], apart := false }
def FnCandidatesArePrefixesOfTheWholeAddressSaid : Prop := fnCandidatesArePrefixesOfTheWholeAddressRow.holds Trym.pinned (OpenSpec.ofChange fnCandidatesArePrefixesOfTheWholeAddressSpec)

/-- ITS FALSE NEIGHBOUR: 'it returns false'. Refute it at one input. -/
def fnCandidatesArePrefixesOfTheWholeAddressWrong : ChangeSpec := { name := "fnCandidatesArePrefixesOfTheWholeAddress", fn := fun _ => fun
  | [d] => { results := [.lit (.bool false)], args := [d] }
  | _ => none }
def FnCandidatesArePrefixesOfTheWholeAddressWrongFalsely : Prop := fnCandidatesArePrefixesOfTheWholeAddressRow.holds Trym.pinned (OpenSpec.ofChange fnCandidatesArePrefixesOfTheWholeAddressWrong)

/-- 'zzlaws_internal_services_repository_b1.FnCandidatesResolveToLongestPresentName': WHATEVER THE INPUT: true; the input reads as it did. -/
def fnCandidatesResolveToLongestPresentNameSpec : ChangeSpec := { name := "fnCandidatesResolveToLongestPresentName", fn := fun _ => fun
  | [d1, d2, d3] => { results := [.lit (.bool true)], args := [d1, d2, d3] }
  | _ => none }
def fnCandidatesResolveToLongestPresentNameRow : OpenClaim := { program := "qxb6601599amods", sum := "d3ba322a05105a2952c7bca1c0e9b2b4a742b7bb01bd76c1186fa30e4c48aea1", func := "example.com/porcelain/porcelain/zzlaws_internal_services_repository_b1.FnCandidatesResolveToLongestPresentName", spec := "fnCandidatesResolveToLongestPresentName", inPlace := ["internal/abi.NoEscape", "internal/bytealg.MakeNoZero", "internal/bytealg.abigen_runtime_cmpstring"], unfollowed := true, recurses := true, make := .lifted ["publicsums"], apart := false }
def FnCandidatesResolveToLongestPresentNameSaid : Prop := fnCandidatesResolveToLongestPresentNameRow.holds Trym.pinned (OpenSpec.ofChange fnCandidatesResolveToLongestPresentNameSpec)

/-- ITS FALSE NEIGHBOUR: 'it returns false'. Refute it at one input. -/
def fnCandidatesResolveToLongestPresentNameWrong : ChangeSpec := { name := "fnCandidatesResolveToLongestPresentName", fn := fun _ => fun
  | [d1, d2, d3] => { results := [.lit (.bool false)], args := [d1, d2, d3] }
  | _ => none }
def FnCandidatesResolveToLongestPresentNameWrongFalsely : Prop := fnCandidatesResolveToLongestPresentNameRow.holds Trym.pinned (OpenSpec.ofChange fnCandidatesResolveToLongestPresentNameWrong)

end Rows
end Go.Proofs.Qxb6601599aMods
