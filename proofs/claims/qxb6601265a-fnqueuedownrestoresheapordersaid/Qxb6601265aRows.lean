/-
  No cell of these rows narrows 'for every input' (looked for: loops, veiled, ifaces, maps, wideKeys, modest, calm, conditions, laid).
  DERIVED. THE GIVEN ROWS OF THIS SEAT. 2 by the template 'for every input the law returns true; each argument reads behind the call as it read before'; 0 by the template 'total and deterministic' (their statements: Qxb6601265aTotals.lean).
  GIVEN WITH THE SEED: the statements are not yours to turn. If you find one false, say at which input.
  Laid BY PROGRAM, IN A SANDBOX (cutbox-rows.mjs): the forced cells as the released guide's own fill.sh prints them over the translation 9ea49b1a01acf5ed… (all of the seat's roots in one cut). By AI agents, Wed Nov 11 2026. No macro, syntax, notation, axiom, sorry.
-/
import Derived.Test.Qxb6601265aChecked
import GoSem.Claim
import GoSem.ClaimJoined
import GoSem.ClaimMapViews
import Derived.JoinedTies
import Derived.KernelRfl
namespace Go.Proofs.Qxb6601265a
/- THE CELL 'sum', in the pinned program and in every row, IS THE sha256 OF THE DUMP (.gsa) THAT Qxb6601265aProg.lean LOADS. Nothing in Lean hashes anything: it is a label: what it is worth is what the hold of that sum in a sandbox is worth. -/
noncomputable def Try.pinned : Pinned := { name := "qxb6601265a", sum := "9ea49b1a01acf5eda78ac28df81ca7712376c62dd83d7b051f87e38c23ec3e09", checked := Try.checked }
namespace Rows
def none {H : Type} : Left H := { results := [], args := [] }

/-- 'zzlaws_internal_sat_b1.FnQueueDownRestoresHeapOrder': WHATEVER THE INPUT: true; the input reads as it did. -/
def fnQueueDownRestoresHeapOrderSpec : ChangeSpec := { name := "fnQueueDownRestoresHeapOrder", fn := fun _ => fun
  | [d1, d2, d3, d4] => { results := [.lit (.bool true)], args := [d1, d2, d3, d4] }
  | _ => none }
def fnQueueDownRestoresHeapOrderRow : OpenClaim := { program := "qxb6601265a", sum := "9ea49b1a01acf5eda78ac28df81ca7712376c62dd83d7b051f87e38c23ec3e09", func := "example.com/covenant/covenant/zzlaws_internal_sat_b1.FnQueueDownRestoresHeapOrder", spec := "fnQueueDownRestoresHeapOrder", apart := false }
def FnQueueDownRestoresHeapOrderSaid : Prop := fnQueueDownRestoresHeapOrderRow.holds Try.pinned (OpenSpec.ofChange fnQueueDownRestoresHeapOrderSpec)

/-- ITS FALSE NEIGHBOUR: 'it returns false'. Refute it at one input. -/
def fnQueueDownRestoresHeapOrderWrong : ChangeSpec := { name := "fnQueueDownRestoresHeapOrder", fn := fun _ => fun
  | [d1, d2, d3, d4] => { results := [.lit (.bool false)], args := [d1, d2, d3, d4] }
  | _ => none }
def FnQueueDownRestoresHeapOrderWrongFalsely : Prop := fnQueueDownRestoresHeapOrderRow.holds Try.pinned (OpenSpec.ofChange fnQueueDownRestoresHeapOrderWrong)

/-- 'zzlaws_internal_sat_b1.FnQueueDownKeepsPlaces': WHATEVER THE INPUT: true; the input reads as it did. -/
def fnQueueDownKeepsPlacesSpec : ChangeSpec := { name := "fnQueueDownKeepsPlaces", fn := fun _ => fun
  | [d1, d2, d3, d4] => { results := [.lit (.bool true)], args := [d1, d2, d3, d4] }
  | _ => none }
def fnQueueDownKeepsPlacesRow : OpenClaim := { program := "qxb6601265a", sum := "9ea49b1a01acf5eda78ac28df81ca7712376c62dd83d7b051f87e38c23ec3e09", func := "example.com/covenant/covenant/zzlaws_internal_sat_b1.FnQueueDownKeepsPlaces", spec := "fnQueueDownKeepsPlaces", apart := false }
def FnQueueDownKeepsPlacesSaid : Prop := fnQueueDownKeepsPlacesRow.holds Try.pinned (OpenSpec.ofChange fnQueueDownKeepsPlacesSpec)

/-- ITS FALSE NEIGHBOUR: 'it returns false'. Refute it at one input. -/
def fnQueueDownKeepsPlacesWrong : ChangeSpec := { name := "fnQueueDownKeepsPlaces", fn := fun _ => fun
  | [d1, d2, d3, d4] => { results := [.lit (.bool false)], args := [d1, d2, d3, d4] }
  | _ => none }
def FnQueueDownKeepsPlacesWrongFalsely : Prop := fnQueueDownKeepsPlacesRow.holds Try.pinned (OpenSpec.ofChange fnQueueDownKeepsPlacesWrong)

end Rows
end Go.Proofs.Qxb6601265a
