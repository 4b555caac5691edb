/- What the listed variables give; the start that fits; the slice of bytes opened. -/
import Derived.Test.Qxb6609101aFmtB2
import Derived.Test.Qxb6609101aFmtTie
import Derived.ProofKit
import Derived.OpenShut
import Derived.ShutString
import Derived.ChangeOld
import Derived.Below
import Derived.Stop.JoinedAt
import Derived.Stop.JoinedTold
import Derived.Stop.LaidErr
import Derived.Deep.DeepWitnessRef
import Derived.LaidMore
import Derived.LaidHandle
namespace Go.Proofs.Qxb6609101aFmt
open Go.ChangeShapes Go.WideShapes Go.ChangeAt Go.RowKit
open Go.ChangeMaps (open_string shut_string)
open Go.Extern.Stop Go.Stop Go.Extern

theorem own : ownKnob Tryf.prog.godebug = none := by kernel_rfl
theorem laidOut : laidOutB Tryf.prog = true := by kernel_rfl
theorem gEof : Tryf.prog.globalNamed "io.EOF" = some 1 := by kernel_rfl
theorem gEofT : (Tryf.prog.globals[1]?).map (·.type) = some 27 := by kernel_rfl
theorem cells69 : Tryf.prog.cellsOf 69 = 1 := by kernel_rfl
theorem cells9 : Tryf.prog.cellsOf 9 = 1 := by kernel_rfl

theorem eof_of_laid {W : World} {r : List (String × DataW Unit)} (h : laidMet Tryf.prog (("io.EOF", Rows.laid_io_EOF) :: r) W) : ∃ eof, EofAt W eof := by
  obtain ⟨a, s, hv, hc, _, _⟩ := laid_sentinel (g := 1) h gEof gEofT Tryf.underlying27 (fun u hu => typeName_ptr_named (nm := "errors.errorString") (by kernel_rfl) (by kernel_rfl) (by decide) u (hu.trans (congrArg some (by decide)))) Tryf.underlying67 Tryf.underlying69 rfl rfl Tryf.underlying9 cells69 cells9
  have hcell : W.cell? ⟨1, 0, none⟩ = some (.iface 67 (.pointer (some a))) := by simpa using World.var?_cell gEof hv 0
  exact ⟨a, hcell, World.block_lt_of_cell? W _ hcell⟩

theorem open_bytes {H : Type} {enc : TypeId × Value → H} {W : World} {held : Bool} {n : Nat} {a : Option Addr} {len cap : Nat} {x : DataW H × List MemPlace}
    (h : DataW.trod enc Tryf.prog W 0 (fun _ => true) held n 22 [.slice a len cap] = some x) :
    ∃ zs : List Int, zs.length = len ∧ BytesAt W a zs ∧ Wf zs ∧ (a = none → len = 0) ∧ len ≤ 9223372036854775807 := by
  rcases open_ints Tryf.underlying22 Tryf.underlying5 (by kernel_rfl) h with ⟨hcs, _⟩ | ⟨ad, l, c, zs, hcs, _, hl, hm, hz, _, hcell, hwz⟩
  · simp at hcs
    obtain ⟨rfl, rfl, rfl⟩ := hcs
    exact ⟨[], rfl, .inl rfl, (fun z hz => by cases hz), (fun _ => rfl), by omega⟩
  · simp at hcs
    obtain ⟨rfl, rfl, rfl⟩ := hcs
    unfold maxLen at hm
    simp at hz
    refine ⟨zs.take len, by simp; omega, ?_, ?_, (fun h => by simp at h), by omega⟩
    · by_cases h0 : len = 0
      · subst h0; exact .inl (by simp)
      · right
        have hc0 := hcell 0 (by omega)
        obtain ⟨b, off, spot⟩ := ad
        have hsp : spot = none := by
          simp [Addr.add, World.cell?] at hc0
          cases spot with
          | none => rfl
          | some s => split at hc0 <;> simp at hc0
        subst hsp
        have had : ∀ t, (⟨b, off, none⟩ : Addr).add t = ⟨b, off + t, none⟩ := fun t => by unfold Addr.add; split <;> simp_all
        refine ⟨b, off, rfl, ?_, fun i hi => ?_⟩
        · rw [had] at hc0
          exact World.block_lt_of_cell? W _ hc0
        · have hi' : i < zs.length := by simp at hi; omega
          have := hcell i hi'
          rw [had] at this
          rw [this]
          simp [List.getD, hi']
    · intro z hz'
      exact bounds_u8 (hwz z (List.mem_of_mem_take hz'))
end Go.Proofs.Qxb6609101aFmt
