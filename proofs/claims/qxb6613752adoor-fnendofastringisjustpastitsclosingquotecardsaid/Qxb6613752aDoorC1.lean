/- What the listed table gives; the start that fits; the slice of bytes opened. -/
import Derived.Test.Qxb6613752aDoorA7
import Derived.Test.Qxb6613752aDoorTie
import Derived.ProofKit
import Derived.OpenShut
import Derived.ShutString
import Derived.ChangeOld
import Derived.Below
import Derived.Stop.Joined
import Derived.LaidMore
import Derived.Lib.LaidTab
namespace Go.Proofs.Qxb6613752aDoor
open Go.ChangeShapes Go.WideShapes Go.ChangeAt Go.RowKit

theorem own : ownKnob Tryd.prog.godebug = none := by kernel_rfl
theorem laidOut : laidOutB Tryd.prog = true := by kernel_rfl

theorem wf64 {t : Int} (h : (Lit.int .i64 t).wf = true) : -9223372036854775808 ≤ t ∧ t ≤ 9223372036854775807 := by
  have h' : (decide ((-9223372036854775808 : Int) ≤ t) && decide (t ≤ (9223372036854775807 : Int))) = true := h
  simpa using h'
theorem wf8 {t : Int} (h : (Lit.int .u8 t).wf = true) : 0 ≤ t ∧ t ≤ 255 := by
  have h' : (decide ((0 : Int) ≤ t) && decide (t ≤ (255 : Int))) = true := h
  simpa using h'

/-- The list that the row bears. -/
def seatLaid : List (String × DataW Unit) := Rows.fnEndOfAStringIsJustPastItsClosingQuoteRow.laid
/-- The listed table's name, off the given row. -/
def tabName : String := (Rows.fnEndOfAStringIsJustPastItsClosingQuoteRow.laid.map (·.1)).headD ""
def tabInts : List Int := Lib.deBruijn64tab.map (fun (n : Nat) => (n : Int))

theorem door_met (os : Os) (args : Array Value) : laidMetH Tryd.prog seatLaid ((World.doorLaid Tryd.prog 14 os).forCall (fun _ _ => 0) ⟨#[], args, []⟩).memory :=
  laidMetH_of_parts3 (fuel := 8) (laidMet_of_run' 8 (by kernel_rfl) (by kernel_rfl)) (by kernel_rfl) (by kernel_rfl)

theorem gTab : Tryd.prog.globalNamed tabName = some 1 := by kernel_rfl
theorem gTabT : (Tryd.prog.globals[1]?).map (·.type) = some 83 := by kernel_rfl
theorem tab_of_laid {W : World} (h : laidMetH Tryd.prog seatLaid W) : Lib.TabIs Tryd.prog W tabName .u8 tabInts := by
  rw [MakeChecks.laidMetH_plain _ _ _ (by kernel_rfl)] at h
  have h' : laidMet Tryd.prog seatLaid W := h
  obtain ⟨ps, ⟨g0, t0, cs0, f0, p0, q0, hg0, ht0, hv0, hd0, _, _⟩, _⟩ := h'
  obtain rfl := Option.some.inj (gTab.symm.trans hg0)
  obtain rfl := Option.some.inj (gTabT.symm.trans ht0)
  have hd : DataW.trod (fun _ => ()) Tryd.prog W 0 _ _ _ 83 cs0.toList = some (Lib.tabData .u8 tabInts, _) := hd0
  have hc := Lib.cells_of_tab Tryd.underlying83 Tryd.underlying5 (by kernel_rfl) (by kernel_rfl) hd
  unfold Lib.TabIs
  rw [show W.var? Tryd.prog tabName = some cs0 from hv0, ← hc]

theorem tabAt_of_laid {W : World} (h : laidMetH Tryd.prog seatLaid W) : TabAt 1 Lib.deBruijn64tab W ∧ 1 < W.heap.size := by
  have ht := tab_of_laid h
  have hat : TabAt 1 Lib.deBruijn64tab W := by
    intro j hj
    have hj' : j < tabInts.length := by simp only [tabInts, List.length_map]; exact hj
    rw [ht.cell gTab j hj']
    simp [tabInts, List.getD, hj]
  exact ⟨hat, World.block_lt_of_cell? W _ (hat 0 (by decide))⟩

theorem open_bytes {H : Type} {enc : TypeId × Value → H} {W : World} {held : Bool} {n : Nat} {a : Option Addr} {len cap : Nat} {x : DataW H × List MemPlace}
    (h : DataW.trod enc Tryd.prog W 0 (fun _ => true) held n 22 [.slice a len cap] = some x) :
    ∃ zs : List Int, zs.length = len ∧ BytesAt W a zs ∧ Wf8 zs ∧ len ≤ 9223372036854775807 := by
  rcases open_ints Tryd.underlying22 Tryd.underlying5 (by kernel_rfl) h with ⟨hcs, _⟩ | ⟨ad, l, c, zs, hcs, _, hl, hm, hz, _, hcell, hwz⟩
  · simp at hcs
    obtain ⟨rfl, rfl, rfl⟩ := hcs
    exact ⟨[], rfl, .inl rfl, (fun z hz => by cases hz), by omega⟩
  · simp at hcs
    obtain ⟨rfl, rfl, rfl⟩ := hcs
    unfold maxLen at hm
    simp at hz
    refine ⟨zs.take len, by simp; omega, ?_, ?_, by omega⟩
    · by_cases h0 : len = 0
      · subst h0; exact .inl (by simp)
      · right
        have hc0 := hcell 0 (by omega)
        obtain ⟨b, off, spot⟩ := ad
        have hsp : spot = none := by
          simp [Addr.add, World.cell?] at hc0
          cases spot with
          | none => rfl
          | some s => split at hc0 <;> simp at hc0
        subst hsp
        have had : ∀ t, (⟨b, off, none⟩ : Addr).add t = ⟨b, off + t, none⟩ := fun t => by unfold Addr.add; split <;> simp_all
        refine ⟨b, off, rfl, ?_, fun i hi => ?_⟩
        · rw [had] at hc0
          exact World.block_lt_of_cell? W _ hc0
        · have hi' : i < zs.length := by simp at hi; omega
          have := hcell i hi'
          rw [had] at this
          rw [this]
          simp [List.getD, hi']
    · intro z hz'
      exact wf8 (hwz z (List.mem_of_mem_take hz'))
end Go.Proofs.Qxb6613752aDoor
