/- What the two listed sentinels give. -/
import Derived.Test.Qxb6609101aFmtC1
import Derived.Test.Qxb6609101aFmtB8
import Derived.Stop.LaidTwo
namespace Go.Proofs.Qxb6609101aFmt
open Go.ChangeShapes Go.WideShapes Go.ChangeAt Go.RowKit
open Go.Extern.Stop Go.Stop Go.Extern

theorem gUnx : Tryf.prog.globalNamed "io.ErrUnexpectedEOF" = some 0 := by kernel_rfl
theorem gUnxT : (Tryf.prog.globals[0]?).map (·.type) = some 27 := by kernel_rfl

theorem sents_of_laid {W : World} {r : List (String × DataW Unit)} (h : laidMet Tryf.prog (("io.EOF", Rows.laid_io_EOF) :: ("io.ErrUnexpectedEOF", Rows.laid_io_ErrUnexpectedEOF) :: r) W) : ∃ ep eof s, Sents W ep eof s := by
  obtain ⟨a0, a1, s0, s1, c0, c1, t0, t1, hv0, hv1, hc0, hs0, hz0, hc1, hs1, hz1, hne, hb0, hb1⟩ := laid_sentinels2 (g0 := 1) (g1 := 0) h gEof gEofT gUnx gUnxT Tryf.underlying27 (fun u hu => typeName_ptr_named (nm := "errors.errorString") (by kernel_rfl) (by kernel_rfl) (by decide) u (hu.trans (congrArg some (by decide)))) Tryf.underlying67 Tryf.underlying69 rfl rfl Tryf.underlying9 cells69 cells9
  have hcell0 : W.cell? ⟨1, 0, none⟩ = some (.iface 67 (.pointer (some a0))) := by simpa using World.var?_cell gEof hv0 0
  have hcell1 : W.cell? ⟨0, 0, none⟩ = some (.iface 67 (.pointer (some a1))) := by simpa using World.var?_cell gUnx hv1 0
  exact ⟨a1, a0, s1, hcell1, hcell0, ⟨Ne.symm hne, ⟨c1, t1, hb1⟩, ⟨c0, t0, hb0⟩⟩, hc1⟩
end Go.Proofs.Qxb6609101aFmt
