/-
  No cell of these rows narrows 'for every input' (looked for: loops, veiled, ifaces, maps, wideKeys, modest, calm, conditions, laid).
  DERIVED. THE GIVEN ROWS OF THIS SEAT. 2 by the template 'for every input the law returns true; each argument reads behind the call as it read before'; 0 by the template 'total and deterministic' (their statements: Qxb6613752aTotals.lean).
  GIVEN WITH THE SEED: the statements are not yours to turn. If you find one false, say at which input.
  Laid BY PROGRAM, IN A SANDBOX (cutbox-rows.mjs): the forced cells as the released guide's own fill.sh prints them over the translation a3528dac30d31593… (all of the seat's roots in one cut). By AI agents, Wed Nov 11 2026. No macro, syntax, notation, axiom, sorry.
-/
import Derived.Test.Qxb6613752aChecked
import GoSem.Claim
import GoSem.ClaimJoined
import GoSem.ClaimMapViews
import Derived.JoinedTies
import Derived.KernelRfl
namespace Go.Proofs.Qxb6613752a
/- THE CELL 'sum', in the pinned program and in every row, IS THE sha256 OF THE DUMP (.gsa) THAT Qxb6613752aProg.lean LOADS. Nothing in Lean hashes anything: it is a label: what it is worth is what the hold of that sum in a sandbox is worth. -/
noncomputable def Try.pinned : Pinned := { name := "qxb6613752a", sum := "a3528dac30d315936267497317b42220785aa70c00e82cb09236cedb300c6996", checked := Try.checked }
namespace Rows
def none {H : Type} : Left H := { results := [], args := [] }

/-- 'zzlaws_internal_jsondoc_b1.FnStartMarkFlipsOnlyTheFlag': WHATEVER THE INPUT: true; the input reads as it did. -/
def fnStartMarkFlipsOnlyTheFlagSpec : ChangeSpec := { name := "fnStartMarkFlipsOnlyTheFlag", fn := fun _ => fun
  | [d1, d2] => { results := [.lit (.bool true)], args := [d1, d2] }
  | _ => none }
def fnStartMarkFlipsOnlyTheFlagRow : OpenClaim := { program := "qxb6613752a", sum := "a3528dac30d315936267497317b42220785aa70c00e82cb09236cedb300c6996", func := "example.com/sextant/sextant/zzlaws_internal_jsondoc_b1.FnStartMarkFlipsOnlyTheFlag", spec := "fnStartMarkFlipsOnlyTheFlag", apart := false }
def FnStartMarkFlipsOnlyTheFlagSaid : Prop := fnStartMarkFlipsOnlyTheFlagRow.holds Try.pinned (OpenSpec.ofChange fnStartMarkFlipsOnlyTheFlagSpec)

/-- ITS FALSE NEIGHBOUR: 'it returns false'. Refute it at one input. -/
def fnStartMarkFlipsOnlyTheFlagWrong : ChangeSpec := { name := "fnStartMarkFlipsOnlyTheFlag", fn := fun _ => fun
  | [d1, d2] => { results := [.lit (.bool false)], args := [d1, d2] }
  | _ => none }
def FnStartMarkFlipsOnlyTheFlagWrongFalsely : Prop := fnStartMarkFlipsOnlyTheFlagRow.holds Try.pinned (OpenSpec.ofChange fnStartMarkFlipsOnlyTheFlagWrong)

/-- 'zzlaws_internal_jsondoc_b1.FnLowerKeepsTheLeastDepthOfEachBlock': WHATEVER THE INPUT: true; the input reads as it did. -/
def fnLowerKeepsTheLeastDepthOfEachBlockSpec : ChangeSpec := { name := "fnLowerKeepsTheLeastDepthOfEachBlock", fn := fun _ => fun
  | [d1, d2, d3] => { results := [.lit (.bool true)], args := [d1, d2, d3] }
  | _ => none }
def fnLowerKeepsTheLeastDepthOfEachBlockRow : OpenClaim := { program := "qxb6613752a", sum := "a3528dac30d315936267497317b42220785aa70c00e82cb09236cedb300c6996", func := "example.com/sextant/sextant/zzlaws_internal_jsondoc_b1.FnLowerKeepsTheLeastDepthOfEachBlock", spec := "fnLowerKeepsTheLeastDepthOfEachBlock", apart := false }
def FnLowerKeepsTheLeastDepthOfEachBlockSaid : Prop := fnLowerKeepsTheLeastDepthOfEachBlockRow.holds Try.pinned (OpenSpec.ofChange fnLowerKeepsTheLeastDepthOfEachBlockSpec)

/-- ITS FALSE NEIGHBOUR: 'it returns false'. Refute it at one input. -/
def fnLowerKeepsTheLeastDepthOfEachBlockWrong : ChangeSpec := { name := "fnLowerKeepsTheLeastDepthOfEachBlock", fn := fun _ => fun
  | [d1, d2, d3] => { results := [.lit (.bool false)], args := [d1, d2, d3] }
  | _ => none }
def FnLowerKeepsTheLeastDepthOfEachBlockWrongFalsely : Prop := fnLowerKeepsTheLeastDepthOfEachBlockRow.holds Try.pinned (OpenSpec.ofChange fnLowerKeepsTheLeastDepthOfEachBlockWrong)

end Rows
end Go.Proofs.Qxb6613752a
