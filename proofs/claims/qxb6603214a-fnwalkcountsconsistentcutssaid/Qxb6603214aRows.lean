/-
  No cell of these rows narrows 'for every input' (looked for: loops, veiled, ifaces, maps, wideKeys, modest, calm, conditions, laid).
  DERIVED. THE GIVEN ROWS OF THIS SEAT. 4 by the template 'for every input the law returns true; each argument reads behind the call as it read before'; 0 by the template 'total and deterministic' (their statements: Qxb6603214aTotals.lean).
  GIVEN WITH THE SEED: the statements are not yours to turn. If you find one false, say at which input.
  Laid BY PROGRAM, IN A SANDBOX (cutbox-rows.mjs): the forced cells as the released guide's own fill.sh prints them over the translation d9cf8d418e534cf0… (all of the seat's roots in one cut). By AI agents, Wed Nov 11 2026. No macro, syntax, notation, axiom, sorry.
-/
import Derived.Test.Qxb6603214aChecked
import GoSem.Claim
import GoSem.ClaimJoined
import GoSem.ClaimMapViews
import Derived.JoinedTies
import Derived.KernelRfl
namespace Go.Proofs.Qxb6603214a
/- THE CELL 'sum', in the pinned program and in every row, IS THE sha256 OF THE DUMP (.gsa) THAT Qxb6603214aProg.lean LOADS. Nothing in Lean hashes anything: it is a label: what it is worth is what the hold of that sum in a sandbox is worth. -/
noncomputable def Try.pinned : Pinned := { name := "qxb6603214a", sum := "d9cf8d418e534cf05d1e62a6e6f3f68cd4588f56c26d4ab697503449319b58e0", checked := Try.checked }
namespace Rows
def none {H : Type} : Left H := { results := [], args := [] }

/-- 'zzlaws_root_b1.FnLamportTimesMatchFixpoint': WHATEVER THE INPUT: true; the input reads as it did. -/
def fnLamportTimesMatchFixpointSpec : ChangeSpec := { name := "fnLamportTimesMatchFixpoint", fn := fun _ => fun
  | [d1, d2, d3, d4, d5] => { results := [.lit (.bool true)], args := [d1, d2, d3, d4, d5] }
  | _ => none }
def fnLamportTimesMatchFixpointRow : OpenClaim := { program := "qxb6603214a", sum := "d9cf8d418e534cf05d1e62a6e6f3f68cd4588f56c26d4ab697503449319b58e0", func := "example.com/causeway/causeway/zzlaws_root_b1.FnLamportTimesMatchFixpoint", spec := "fnLamportTimesMatchFixpoint", plainKeys := false, apart := false }
def FnLamportTimesMatchFixpointSaid : Prop := fnLamportTimesMatchFixpointRow.holds Try.pinned (OpenSpec.ofChange fnLamportTimesMatchFixpointSpec)

/-- ITS FALSE NEIGHBOUR: 'it returns false'. Refute it at one input. -/
def fnLamportTimesMatchFixpointWrong : ChangeSpec := { name := "fnLamportTimesMatchFixpoint", fn := fun _ => fun
  | [d1, d2, d3, d4, d5] => { results := [.lit (.bool false)], args := [d1, d2, d3, d4, d5] }
  | _ => none }
def FnLamportTimesMatchFixpointWrongFalsely : Prop := fnLamportTimesMatchFixpointRow.holds Try.pinned (OpenSpec.ofChange fnLamportTimesMatchFixpointWrong)

/-- 'zzlaws_root_b1.FnNewCutCounterSummarisesEachLink': WHATEVER THE INPUT: true; the input reads as it did. -/
def fnNewCutCounterSummarisesEachLinkSpec : ChangeSpec := { name := "fnNewCutCounterSummarisesEachLink", fn := fun _ => fun
  | [d1, d2, d3, d4, d5] => { results := [.lit (.bool true)], args := [d1, d2, d3, d4, d5] }
  | _ => none }
def fnNewCutCounterSummarisesEachLinkRow : OpenClaim := { program := "qxb6603214a", sum := "d9cf8d418e534cf05d1e62a6e6f3f68cd4588f56c26d4ab697503449319b58e0", func := "example.com/causeway/causeway/zzlaws_root_b1.FnNewCutCounterSummarisesEachLink", spec := "fnNewCutCounterSummarisesEachLink", recurses := true, plainKeys := false, apart := false }
def FnNewCutCounterSummarisesEachLinkSaid : Prop := fnNewCutCounterSummarisesEachLinkRow.holds Try.pinned (OpenSpec.ofChange fnNewCutCounterSummarisesEachLinkSpec)

/-- ITS FALSE NEIGHBOUR: 'it returns false'. Refute it at one input. -/
def fnNewCutCounterSummarisesEachLinkWrong : ChangeSpec := { name := "fnNewCutCounterSummarisesEachLink", fn := fun _ => fun
  | [d1, d2, d3, d4, d5] => { results := [.lit (.bool false)], args := [d1, d2, d3, d4, d5] }
  | _ => none }
def FnNewCutCounterSummarisesEachLinkWrongFalsely : Prop := fnNewCutCounterSummarisesEachLinkRow.holds Try.pinned (OpenSpec.ofChange fnNewCutCounterSummarisesEachLinkWrong)

/-- 'zzlaws_root_b1.FnWalkCountsConsistentCuts': WHATEVER THE INPUT: true; the input reads as it did. -/
def fnWalkCountsConsistentCutsSpec : ChangeSpec := { name := "fnWalkCountsConsistentCuts", fn := fun _ => fun
  | [d1, d2, d3, d4, d5, d6, d7] => { results := [.lit (.bool true)], args := [d1, d2, d3, d4, d5, d6, d7] }
  | _ => none }
def fnWalkCountsConsistentCutsRow : OpenClaim := { program := "qxb6603214a", sum := "d9cf8d418e534cf05d1e62a6e6f3f68cd4588f56c26d4ab697503449319b58e0", func := "example.com/causeway/causeway/zzlaws_root_b1.FnWalkCountsConsistentCuts", spec := "fnWalkCountsConsistentCuts", recurses := true, plainKeys := false, apart := false }
def FnWalkCountsConsistentCutsSaid : Prop := fnWalkCountsConsistentCutsRow.holds Try.pinned (OpenSpec.ofChange fnWalkCountsConsistentCutsSpec)

/-- ITS FALSE NEIGHBOUR: 'it returns false'. Refute it at one input. -/
def fnWalkCountsConsistentCutsWrong : ChangeSpec := { name := "fnWalkCountsConsistentCuts", fn := fun _ => fun
  | [d1, d2, d3, d4, d5, d6, d7] => { results := [.lit (.bool false)], args := [d1, d2, d3, d4, d5, d6, d7] }
  | _ => none }
def FnWalkCountsConsistentCutsWrongFalsely : Prop := fnWalkCountsConsistentCutsRow.holds Try.pinned (OpenSpec.ofChange fnWalkCountsConsistentCutsWrong)

/-- 'zzlaws_root_b1.FnWalkBudgetIsAThreshold': WHATEVER THE INPUT: true; the input reads as it did. -/
def fnWalkBudgetIsAThresholdSpec : ChangeSpec := { name := "fnWalkBudgetIsAThreshold", fn := fun _ => fun
  | [d1, d2, d3, d4, d5, d6, d7] => { results := [.lit (.bool true)], args := [d1, d2, d3, d4, d5, d6, d7] }
  | _ => none }
def fnWalkBudgetIsAThresholdRow : OpenClaim := { program := "qxb6603214a", sum := "d9cf8d418e534cf05d1e62a6e6f3f68cd4588f56c26d4ab697503449319b58e0", func := "example.com/causeway/causeway/zzlaws_root_b1.FnWalkBudgetIsAThreshold", spec := "fnWalkBudgetIsAThreshold", recurses := true, plainKeys := false, apart := false }
def FnWalkBudgetIsAThresholdSaid : Prop := fnWalkBudgetIsAThresholdRow.holds Try.pinned (OpenSpec.ofChange fnWalkBudgetIsAThresholdSpec)

/-- ITS FALSE NEIGHBOUR: 'it returns false'. Refute it at one input. -/
def fnWalkBudgetIsAThresholdWrong : ChangeSpec := { name := "fnWalkBudgetIsAThreshold", fn := fun _ => fun
  | [d1, d2, d3, d4, d5, d6, d7] => { results := [.lit (.bool false)], args := [d1, d2, d3, d4, d5, d6, d7] }
  | _ => none }
def FnWalkBudgetIsAThresholdWrongFalsely : Prop := fnWalkBudgetIsAThresholdRow.holds Try.pinned (OpenSpec.ofChange fnWalkBudgetIsAThresholdWrong)

end Rows
end Go.Proofs.Qxb6603214a
