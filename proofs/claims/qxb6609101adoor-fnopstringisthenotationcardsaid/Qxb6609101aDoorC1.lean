/- What the listed tables give; the start that fits. -/
import Derived.Test.Qxb6609101aDoorA6
import Derived.Test.Qxb6609101aDoorTie
import Derived.ProofKit
import Derived.OpenShut
import Derived.ShutString
import Derived.ChangeOld
import Derived.Below
import Derived.Stop.Joined
import Derived.LaidMore
import Derived.Lib.LaidTab
namespace Go.Proofs.Qxb6609101aDoor
open Go.ChangeShapes Go.WideShapes Go.ChangeAt Go.RowKit
open Go.ChangeMaps (open_string shut_string)

theorem own : ownKnob Tryd.prog.godebug = none := by kernel_rfl
theorem laidOut : laidOutB Tryd.prog = true := by kernel_rfl

theorem wf64 {t : Int} (h : (Lit.int .i64 t).wf = true) : -9223372036854775808 ≤ t ∧ t ≤ 9223372036854775807 := by
  have h' : (decide ((-9223372036854775808 : Int) ≤ t) && decide (t ≤ (9223372036854775807 : Int))) = true := h
  simpa using h'

/-- The list that each row of this seat bears. -/
def seatLaid : List (String × DataW Unit) := Rows.fnWritesExactlyWhenPrintedAsWriteRow.laid

theorem door_met (os : Os) (args : Array Value) : laidMetH Tryd.prog seatLaid ((World.doorLaid Tryd.prog 24 os).forCall (fun _ _ => 0) ⟨#[], args, []⟩).memory :=
  laidMetH_of_parts3 (fuel := 8) (laidMet_of_run' 8 (by kernel_rfl) (by kernel_rfl)) (by kernel_rfl) (by kernel_rfl)

theorem gPow : Tryd.prog.globalNamed powName = some 0 := by kernel_rfl
theorem gPowT : (Tryd.prog.globals[0]?).map (·.type) = some 46 := by kernel_rfl
theorem tab_of_laid {W : World} (h : laidMetH Tryd.prog seatLaid W) : Lib.TabIs Tryd.prog W powName .u64 Lib.pow10Tab := by
  rw [MakeChecks.laidMetH_plain _ _ _ (by kernel_rfl)] at h
  have h' : laidMet Tryd.prog seatLaid W := h
  obtain ⟨ps, ⟨g0, t0, cs0, f0, p0, q0, hg0, ht0, hv0, hd0, ⟨g1, t1, cs1, f1, p1, q1, hg1, ht1, hv1, hd1, ⟨g2, t2, cs2, f2, p2, q2, hg2, ht2, hv2, hd2, _, _⟩, _⟩, _⟩, _⟩ := h'
  obtain rfl := Option.some.inj (gPow.symm.trans hg2)
  obtain rfl := Option.some.inj (gPowT.symm.trans ht2)
  have hd : DataW.trod (fun _ => ()) Tryd.prog W 0 _ _ _ 46 cs2.toList = some (Lib.tabData .u64 Lib.pow10Tab, _) := hd2
  have hc := Lib.cells_of_tab Tryd.underlying46 Tryd.underlying36 (by kernel_rfl) (by kernel_rfl) hd
  unfold Lib.TabIs
  rw [show W.var? Tryd.prog powName = some cs2 from hv2, ← hc]
end Go.Proofs.Qxb6609101aDoor
