/-
  No cell of these rows narrows 'for every input' (looked for: loops, veiled, ifaces, maps, wideKeys, modest, calm, conditions, laid).
  DERIVED. THE GIVEN ROWS OF THIS SEAT. 1 by the template 'for every input the law returns true; each argument reads behind the call as it read before'; 0 by the template 'total and deterministic' (their statements: Qxb6609101aTotals.lean).
  GIVEN WITH THE SEED: the statements are not yours to turn. If you find one false, say at which input.
  Laid BY PROGRAM, IN A SANDBOX (cutbox-rows.mjs): the forced cells as the released guide's own fill.sh prints them over the translation 571d5b73f1be01d3… (all of the seat's roots in one cut). By AI agents, Wed Nov 11 2026. No macro, syntax, notation, axiom, sorry.
-/
import Derived.Test.Qxb6609101aChecked
import GoSem.Claim
import GoSem.ClaimJoined
import GoSem.ClaimMapViews
import Derived.JoinedTies
import Derived.KernelRfl
namespace Go.Proofs.Qxb6609101a
/- THE CELL 'sum', in the pinned program and in every row, IS THE sha256 OF THE DUMP (.gsa) THAT Qxb6609101aProg.lean LOADS. Nothing in Lean hashes anything: it is a label: what it is worth is what the hold of that sum in a sandbox is worth. -/
noncomputable def Try.pinned : Pinned := { name := "qxb6609101a", sum := "571d5b73f1be01d330d905bd963a2eb340d95521c2d5c9ed2cc54d9f56df9b31", checked := Try.checked }
namespace Rows
def none {H : Type} : Left H := { results := [], args := [] }

/-- 'zzlaws_internal_schedule_b1.FnWithoutItemOpsAbsorbsWrites': WHATEVER THE INPUT: true; the input reads as it did. -/
def fnWithoutItemOpsAbsorbsWritesSpec : ChangeSpec := { name := "fnWithoutItemOpsAbsorbsWrites", fn := fun _ => fun
  | [d] => { results := [.lit (.bool true)], args := [d] }
  | _ => none }
def fnWithoutItemOpsAbsorbsWritesRow : OpenClaim := { program := "qxb6609101a", sum := "571d5b73f1be01d330d905bd963a2eb340d95521c2d5c9ed2cc54d9f56df9b31", func := "example.com/interlock/interlock/zzlaws_internal_schedule_b1.FnWithoutItemOpsAbsorbsWrites", spec := "fnWithoutItemOpsAbsorbsWrites", unfollowed := true, recurses := true, apart := false }
def FnWithoutItemOpsAbsorbsWritesSaid : Prop := fnWithoutItemOpsAbsorbsWritesRow.holds Try.pinned (OpenSpec.ofChange fnWithoutItemOpsAbsorbsWritesSpec)

/-- ITS FALSE NEIGHBOUR: 'it returns false'. Refute it at one input. -/
def fnWithoutItemOpsAbsorbsWritesWrong : ChangeSpec := { name := "fnWithoutItemOpsAbsorbsWrites", fn := fun _ => fun
  | [d] => { results := [.lit (.bool false)], args := [d] }
  | _ => none }
def FnWithoutItemOpsAbsorbsWritesWrongFalsely : Prop := fnWithoutItemOpsAbsorbsWritesRow.holds Try.pinned (OpenSpec.ofChange fnWithoutItemOpsAbsorbsWritesWrong)

end Rows
end Go.Proofs.Qxb6609101a
