/-
  No cell of these rows narrows 'for every input' (looked for: loops, veiled, ifaces, maps, wideKeys, modest, calm, conditions, laid).
  DERIVED. THE GIVEN ROWS OF THIS SEAT. 5 by the template 'for every input the law returns true; each argument reads behind the call as it read before'; 0 by the template 'total and deterministic' (their statements: Qxb6601232aTotals.lean).
  GIVEN WITH THE SEED: the statements are not yours to turn. If you find one false, say at which input.
  Laid BY PROGRAM, IN A SANDBOX (cutbox-rows.mjs): the forced cells as the released guide's own fill.sh prints them over the translation 8af8fdb871e407ce… (all of the seat's roots in one cut). By AI agents, Wed Nov 11 2026. No macro, syntax, notation, axiom, sorry.
-/
import Derived.Test.Qxb6601232aChecked
import GoSem.Claim
import GoSem.ClaimJoined
import GoSem.ClaimMapViews
import Derived.JoinedTies
import Derived.KernelRfl
namespace Go.Proofs.Qxb6601232a
/- THE CELL 'sum', in the pinned program and in every row, IS THE sha256 OF THE DUMP (.gsa) THAT Qxb6601232aProg.lean LOADS. Nothing in Lean hashes anything: it is a label: what it is worth is what the hold of that sum in a sandbox is worth. -/
noncomputable def Try.pinned : Pinned := { name := "qxb6601232a", sum := "8af8fdb871e407ce53a8455e8ffe1d0389f36ea240ef4fb3b02d30d96ad9e13b", checked := Try.checked }
namespace Rows
def none {H : Type} : Left H := { results := [], args := [] }

/-- 'zzlaws_credit_b1.FnByNameListsEveryStandingInOrder': WHATEVER THE INPUT: true; the input reads as it did. -/
def fnByNameListsEveryStandingInOrderSpec : ChangeSpec := { name := "fnByNameListsEveryStandingInOrder", fn := fun _ => fun
  | [d1, d2, d3, d4, d5, d6, d7] => { results := [.lit (.bool true)], args := [d1, d2, d3, d4, d5, d6, d7] }
  | _ => none }
def fnByNameListsEveryStandingInOrderRow : OpenClaim := { program := "qxb6601232a", sum := "8af8fdb871e407ce53a8455e8ffe1d0389f36ea240ef4fb3b02d30d96ad9e13b", func := "example.com/quorumwatch/quorumwatch/zzlaws_credit_b1.FnByNameListsEveryStandingInOrder", spec := "fnByNameListsEveryStandingInOrder", inPlace := ["internal/bytealg.abigen_runtime_cmpstring"], unfollowed := true, recurses := true, apart := false }
def FnByNameListsEveryStandingInOrderSaid : Prop := fnByNameListsEveryStandingInOrderRow.holds Try.pinned (OpenSpec.ofChange fnByNameListsEveryStandingInOrderSpec)

/-- ITS FALSE NEIGHBOUR: 'it returns false'. Refute it at one input. -/
def fnByNameListsEveryStandingInOrderWrong : ChangeSpec := { name := "fnByNameListsEveryStandingInOrder", fn := fun _ => fun
  | [d1, d2, d3, d4, d5, d6, d7] => { results := [.lit (.bool false)], args := [d1, d2, d3, d4, d5, d6, d7] }
  | _ => none }
def FnByNameListsEveryStandingInOrderWrongFalsely : Prop := fnByNameListsEveryStandingInOrderRow.holds Try.pinned (OpenSpec.ofChange fnByNameListsEveryStandingInOrderWrong)

/-- 'zzlaws_credit_b1.FnTakePartMatchesCountModel': WHATEVER THE INPUT: true; the input reads as it did. -/
def fnTakePartMatchesCountModelSpec : ChangeSpec := { name := "fnTakePartMatchesCountModel", fn := fun _ => fun
  | [d1, d2, d3, d4, d5, d6, d7, d8, d9, d10, d11] => { results := [.lit (.bool true)], args := [d1, d2, d3, d4, d5, d6, d7, d8, d9, d10, d11] }
  | _ => none }
def fnTakePartMatchesCountModelRow : OpenClaim := { program := "qxb6601232a", sum := "8af8fdb871e407ce53a8455e8ffe1d0389f36ea240ef4fb3b02d30d96ad9e13b", func := "example.com/quorumwatch/quorumwatch/zzlaws_credit_b1.FnTakePartMatchesCountModel", spec := "fnTakePartMatchesCountModel", apart := false }
def FnTakePartMatchesCountModelSaid : Prop := fnTakePartMatchesCountModelRow.holds Try.pinned (OpenSpec.ofChange fnTakePartMatchesCountModelSpec)

/-- ITS FALSE NEIGHBOUR: 'it returns false'. Refute it at one input. -/
def fnTakePartMatchesCountModelWrong : ChangeSpec := { name := "fnTakePartMatchesCountModel", fn := fun _ => fun
  | [d1, d2, d3, d4, d5, d6, d7, d8, d9, d10, d11] => { results := [.lit (.bool false)], args := [d1, d2, d3, d4, d5, d6, d7, d8, d9, d10, d11] }
  | _ => none }
def FnTakePartMatchesCountModelWrongFalsely : Prop := fnTakePartMatchesCountModelRow.holds Try.pinned (OpenSpec.ofChange fnTakePartMatchesCountModelWrong)

/-- 'zzlaws_credit_b1.FnReshardRecordsCreditsAndResets': WHATEVER THE INPUT: true; the input reads as it did. -/
def fnReshardRecordsCreditsAndResetsSpec : ChangeSpec := { name := "fnReshardRecordsCreditsAndResets", fn := fun _ => fun
  | [d1, d2, d3, d4, d5, d6, d7, d8, d9] => { results := [.lit (.bool true)], args := [d1, d2, d3, d4, d5, d6, d7, d8, d9] }
  | _ => none }
def fnReshardRecordsCreditsAndResetsRow : OpenClaim := { program := "qxb6601232a", sum := "8af8fdb871e407ce53a8455e8ffe1d0389f36ea240ef4fb3b02d30d96ad9e13b", func := "example.com/quorumwatch/quorumwatch/zzlaws_credit_b1.FnReshardRecordsCreditsAndResets", spec := "fnReshardRecordsCreditsAndResets", inPlace := ["internal/bytealg.abigen_runtime_cmpstring"], unfollowed := true, recurses := true, apart := false }
def FnReshardRecordsCreditsAndResetsSaid : Prop := fnReshardRecordsCreditsAndResetsRow.holds Try.pinned (OpenSpec.ofChange fnReshardRecordsCreditsAndResetsSpec)

/-- ITS FALSE NEIGHBOUR: 'it returns false'. Refute it at one input. -/
def fnReshardRecordsCreditsAndResetsWrong : ChangeSpec := { name := "fnReshardRecordsCreditsAndResets", fn := fun _ => fun
  | [d1, d2, d3, d4, d5, d6, d7, d8, d9] => { results := [.lit (.bool false)], args := [d1, d2, d3, d4, d5, d6, d7, d8, d9] }
  | _ => none }
def FnReshardRecordsCreditsAndResetsWrongFalsely : Prop := fnReshardRecordsCreditsAndResetsRow.holds Try.pinned (OpenSpec.ofChange fnReshardRecordsCreditsAndResetsWrong)

/-- 'zzlaws_credit_b1.FnLedgerInvariantsKeptByEveryStep': WHATEVER THE INPUT: true; the input reads as it did. -/
def fnLedgerInvariantsKeptByEveryStepSpec : ChangeSpec := { name := "fnLedgerInvariantsKeptByEveryStep", fn := fun _ => fun
  | [d1, d2, d3, d4, d5, d6, d7, d8, d9, d10, d11] => { results := [.lit (.bool true)], args := [d1, d2, d3, d4, d5, d6, d7, d8, d9, d10, d11] }
  | _ => none }
def fnLedgerInvariantsKeptByEveryStepRow : OpenClaim := { program := "qxb6601232a", sum := "8af8fdb871e407ce53a8455e8ffe1d0389f36ea240ef4fb3b02d30d96ad9e13b", func := "example.com/quorumwatch/quorumwatch/zzlaws_credit_b1.FnLedgerInvariantsKeptByEveryStep", spec := "fnLedgerInvariantsKeptByEveryStep", inPlace := ["internal/bytealg.abigen_runtime_cmpstring"], unfollowed := true, recurses := true, apart := false }
def FnLedgerInvariantsKeptByEveryStepSaid : Prop := fnLedgerInvariantsKeptByEveryStepRow.holds Try.pinned (OpenSpec.ofChange fnLedgerInvariantsKeptByEveryStepSpec)

/-- ITS FALSE NEIGHBOUR: 'it returns false'. Refute it at one input. -/
def fnLedgerInvariantsKeptByEveryStepWrong : ChangeSpec := { name := "fnLedgerInvariantsKeptByEveryStep", fn := fun _ => fun
  | [d1, d2, d3, d4, d5, d6, d7, d8, d9, d10, d11] => { results := [.lit (.bool false)], args := [d1, d2, d3, d4, d5, d6, d7, d8, d9, d10, d11] }
  | _ => none }
def FnLedgerInvariantsKeptByEveryStepWrongFalsely : Prop := fnLedgerInvariantsKeptByEveryStepRow.holds Try.pinned (OpenSpec.ofChange fnLedgerInvariantsKeptByEveryStepWrong)

/-- 'zzlaws_credit_b1.FnTakePartInstancesCommute': WHATEVER THE INPUT: true; the input reads as it did. -/
def fnTakePartInstancesCommuteSpec : ChangeSpec := { name := "fnTakePartInstancesCommute", fn := fun _ => fun
  | [d1, d2, d3, d4, d5, d6, d7, d8, d9, d10, d11, d12] => { results := [.lit (.bool true)], args := [d1, d2, d3, d4, d5, d6, d7, d8, d9, d10, d11, d12] }
  | _ => none }
def fnTakePartInstancesCommuteRow : OpenClaim := { program := "qxb6601232a", sum := "8af8fdb871e407ce53a8455e8ffe1d0389f36ea240ef4fb3b02d30d96ad9e13b", func := "example.com/quorumwatch/quorumwatch/zzlaws_credit_b1.FnTakePartInstancesCommute", spec := "fnTakePartInstancesCommute", inPlace := ["internal/bytealg.abigen_runtime_cmpstring"], unfollowed := true, recurses := true, apart := false }
def FnTakePartInstancesCommuteSaid : Prop := fnTakePartInstancesCommuteRow.holds Try.pinned (OpenSpec.ofChange fnTakePartInstancesCommuteSpec)

/-- ITS FALSE NEIGHBOUR: 'it returns false'. Refute it at one input. -/
def fnTakePartInstancesCommuteWrong : ChangeSpec := { name := "fnTakePartInstancesCommute", fn := fun _ => fun
  | [d1, d2, d3, d4, d5, d6, d7, d8, d9, d10, d11, d12] => { results := [.lit (.bool false)], args := [d1, d2, d3, d4, d5, d6, d7, d8, d9, d10, d11, d12] }
  | _ => none }
def FnTakePartInstancesCommuteWrongFalsely : Prop := fnTakePartInstancesCommuteRow.holds Try.pinned (OpenSpec.ofChange fnTakePartInstancesCommuteWrong)

end Rows
end Go.Proofs.Qxb6601232a
