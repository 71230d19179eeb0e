/-
  No cell of these rows narrows 'for every input' (looked for: loops, veiled, ifaces, maps, wideKeys, modest, calm, conditions, laid).
  DERIVED. THE GIVEN ROWS OF THIS SEAT. 4 by the template 'for every input the law returns true; each argument reads behind the call as it read before'; 0 by the template 'total and deterministic' (their statements: Qxb6601153aTotals.lean).
  GIVEN WITH THE SEED: the statements are not yours to turn. If you find one false, say at which input.
  Laid BY PROGRAM, IN A SANDBOX (cutbox-rows.mjs): the forced cells as the released guide's own fill.sh prints them over the translation b967aa935c189ba3… (all of the seat's roots in one cut). By AI agents, Wed Nov 11 2026. No macro, syntax, notation, axiom, sorry.
-/
import Derived.Test.Qxb6601153aChecked
import GoSem.Claim
import GoSem.ClaimJoined
import GoSem.ClaimMapViews
import Derived.JoinedTies
import Derived.KernelRfl
namespace Go.Proofs.Qxb6601153a
/- THE CELL 'sum', in the pinned program and in every row, IS THE sha256 OF THE DUMP (.gsa) THAT Qxb6601153aProg.lean LOADS. Nothing in Lean hashes anything: it is a label: what it is worth is what the hold of that sum in a sandbox is worth. -/
noncomputable def Try.pinned : Pinned := { name := "qxb6601153a", sum := "b967aa935c189ba3047c1f46f5374338b3e5d7bccb3794bffc43ecf060d3cd54", checked := Try.checked }
namespace Rows
def none {H : Type} : Left H := { results := [], args := [] }

/-- 'zzlaws_root_b1.FnMergeReplacesFromFirstConflict': WHATEVER THE INPUT: true; the input reads as it did. -/
def fnMergeReplacesFromFirstConflictSpec : ChangeSpec := { name := "fnMergeReplacesFromFirstConflict", fn := fun _ => fun
  | [d1, d2, d3, d4, d5, d6, d7, d8] => { results := [.lit (.bool true)], args := [d1, d2, d3, d4, d5, d6, d7, d8] }
  | _ => none }
def fnMergeReplacesFromFirstConflictRow : OpenClaim := { program := "qxb6601153a", sum := "b967aa935c189ba3047c1f46f5374338b3e5d7bccb3794bffc43ecf060d3cd54", func := "example.com/oarlock/oarlock/zzlaws_root_b1.FnMergeReplacesFromFirstConflict", spec := "fnMergeReplacesFromFirstConflict", apart := false }
def FnMergeReplacesFromFirstConflictSaid : Prop := fnMergeReplacesFromFirstConflictRow.holds Try.pinned (OpenSpec.ofChange fnMergeReplacesFromFirstConflictSpec)

/-- ITS FALSE NEIGHBOUR: 'it returns false'. Refute it at one input. -/
def fnMergeReplacesFromFirstConflictWrong : ChangeSpec := { name := "fnMergeReplacesFromFirstConflict", fn := fun _ => fun
  | [d1, d2, d3, d4, d5, d6, d7, d8] => { results := [.lit (.bool false)], args := [d1, d2, d3, d4, d5, d6, d7, d8] }
  | _ => none }
def FnMergeReplacesFromFirstConflictWrongFalsely : Prop := fnMergeReplacesFromFirstConflictRow.holds Try.pinned (OpenSpec.ofChange fnMergeReplacesFromFirstConflictWrong)

/-- 'zzlaws_root_b1.FnMergeKeepsLogSoundAndIsIdempotent': WHATEVER THE INPUT: true; the input reads as it did. -/
def fnMergeKeepsLogSoundAndIsIdempotentSpec : ChangeSpec := { name := "fnMergeKeepsLogSoundAndIsIdempotent", fn := fun _ => fun
  | [d1, d2, d3, d4, d5, d6, d7, d8] => { results := [.lit (.bool true)], args := [d1, d2, d3, d4, d5, d6, d7, d8] }
  | _ => none }
def fnMergeKeepsLogSoundAndIsIdempotentRow : OpenClaim := { program := "qxb6601153a", sum := "b967aa935c189ba3047c1f46f5374338b3e5d7bccb3794bffc43ecf060d3cd54", func := "example.com/oarlock/oarlock/zzlaws_root_b1.FnMergeKeepsLogSoundAndIsIdempotent", spec := "fnMergeKeepsLogSoundAndIsIdempotent", apart := false }
def FnMergeKeepsLogSoundAndIsIdempotentSaid : Prop := fnMergeKeepsLogSoundAndIsIdempotentRow.holds Try.pinned (OpenSpec.ofChange fnMergeKeepsLogSoundAndIsIdempotentSpec)

/-- ITS FALSE NEIGHBOUR: 'it returns false'. Refute it at one input. -/
def fnMergeKeepsLogSoundAndIsIdempotentWrong : ChangeSpec := { name := "fnMergeKeepsLogSoundAndIsIdempotent", fn := fun _ => fun
  | [d1, d2, d3, d4, d5, d6, d7, d8] => { results := [.lit (.bool false)], args := [d1, d2, d3, d4, d5, d6, d7, d8] }
  | _ => none }
def FnMergeKeepsLogSoundAndIsIdempotentWrongFalsely : Prop := fnMergeKeepsLogSoundAndIsIdempotentRow.holds Try.pinned (OpenSpec.ofChange fnMergeKeepsLogSoundAndIsIdempotentWrong)

/-- 'zzlaws_root_b1.FnRestoreMatchesModel': WHATEVER THE INPUT: true; the input reads as it did. -/
def fnRestoreMatchesModelSpec : ChangeSpec := { name := "fnRestoreMatchesModel", fn := fun _ => fun
  | [d1, d2, d3, d4, d5, d6, d7, d8, d9, d10, d11, d12] => { results := [.lit (.bool true)], args := [d1, d2, d3, d4, d5, d6, d7, d8, d9, d10, d11, d12] }
  | _ => none }
def fnRestoreMatchesModelRow : OpenClaim := { program := "qxb6601153a", sum := "b967aa935c189ba3047c1f46f5374338b3e5d7bccb3794bffc43ecf060d3cd54", func := "example.com/oarlock/oarlock/zzlaws_root_b1.FnRestoreMatchesModel", spec := "fnRestoreMatchesModel", apart := false }
def FnRestoreMatchesModelSaid : Prop := fnRestoreMatchesModelRow.holds Try.pinned (OpenSpec.ofChange fnRestoreMatchesModelSpec)

/-- ITS FALSE NEIGHBOUR: 'it returns false'. Refute it at one input. -/
def fnRestoreMatchesModelWrong : ChangeSpec := { name := "fnRestoreMatchesModel", fn := fun _ => fun
  | [d1, d2, d3, d4, d5, d6, d7, d8, d9, d10, d11, d12] => { results := [.lit (.bool false)], args := [d1, d2, d3, d4, d5, d6, d7, d8, d9, d10, d11, d12] }
  | _ => none }
def FnRestoreMatchesModelWrongFalsely : Prop := fnRestoreMatchesModelRow.holds Try.pinned (OpenSpec.ofChange fnRestoreMatchesModelWrong)

/-- 'zzlaws_root_b1.FnRestoreLeavesSoundLogAndIsIdempotent': WHATEVER THE INPUT: true; the input reads as it did. -/
def fnRestoreLeavesSoundLogAndIsIdempotentSpec : ChangeSpec := { name := "fnRestoreLeavesSoundLogAndIsIdempotent", fn := fun _ => fun
  | [d1, d2, d3, d4, d5, d6, d7, d8, d9, d10, d11, d12] => { results := [.lit (.bool true)], args := [d1, d2, d3, d4, d5, d6, d7, d8, d9, d10, d11, d12] }
  | _ => none }
def fnRestoreLeavesSoundLogAndIsIdempotentRow : OpenClaim := { program := "qxb6601153a", sum := "b967aa935c189ba3047c1f46f5374338b3e5d7bccb3794bffc43ecf060d3cd54", func := "example.com/oarlock/oarlock/zzlaws_root_b1.FnRestoreLeavesSoundLogAndIsIdempotent", spec := "fnRestoreLeavesSoundLogAndIsIdempotent", apart := false }
def FnRestoreLeavesSoundLogAndIsIdempotentSaid : Prop := fnRestoreLeavesSoundLogAndIsIdempotentRow.holds Try.pinned (OpenSpec.ofChange fnRestoreLeavesSoundLogAndIsIdempotentSpec)

/-- ITS FALSE NEIGHBOUR: 'it returns false'. Refute it at one input. -/
def fnRestoreLeavesSoundLogAndIsIdempotentWrong : ChangeSpec := { name := "fnRestoreLeavesSoundLogAndIsIdempotent", fn := fun _ => fun
  | [d1, d2, d3, d4, d5, d6, d7, d8, d9, d10, d11, d12] => { results := [.lit (.bool false)], args := [d1, d2, d3, d4, d5, d6, d7, d8, d9, d10, d11, d12] }
  | _ => none }
def FnRestoreLeavesSoundLogAndIsIdempotentWrongFalsely : Prop := fnRestoreLeavesSoundLogAndIsIdempotentRow.holds Try.pinned (OpenSpec.ofChange fnRestoreLeavesSoundLogAndIsIdempotentWrong)

end Rows
end Go.Proofs.Qxb6601153a
