/-
  DERIVED. GIVEN WITH THE SEED: THE CARDS: each row of Qxb6609101aFmtRows.lean that lists a variable, with what it lists TIED to the program's text (the seventh form; the later family's looks); each row that meets fmt, with fmt's text TOLD by the authors' own Lean function (tested against real Go, not proved from fmt's source: count such statements apart). THE CARD IS WHAT COUNTS. Prove the row's statement (the work); the ties are given (Qxb6609101aFmtTie.lean); close each card by the builder's one call (the guide's Derived/Test/ToyasCard.lean, 'card_holds'). Laid BY PROGRAM, IN A SANDBOX (cutbox-door.mjs). By AI agents, Wed Nov 11 2026. No macro, syntax, notation, axiom, sorry.
-/
import Derived.Test.Qxb6609101aFmtRows
import GoSem.ClaimSeven
namespace Go.Proofs.Qxb6609101aFmt
namespace Rows

/-- THE TOLD AND TIED CARD OF 'zzlaws_internal_schedule_b1.FnNewScannerSkipsOneMarkOnly'. -/
def fnNewScannerSkipsOneMarkOnlyCard : Claim7 := { stood := { row := fnNewScannerSkipsOneMarkOnlyRow, standIns := [], harness := (true, "1dc83ca45d22a1306e246ff6acde4017165c41600de64278c53d98f06e49e92e"), looks := true }, told := true, laidByText := true, laidKinds := [.sentinel], laidTests := true, laidLooks := .later, goes := false }
def FnNewScannerSkipsOneMarkOnlyToldSaid : Prop := Claim7.holds Tryf.pinned (.plain (OpenSpec.ofChange fnNewScannerSkipsOneMarkOnlySpec)) fnNewScannerSkipsOneMarkOnlyCard
/-- ITS FALSE NEIGHBOUR. Refute it at one input. -/
def FnNewScannerSkipsOneMarkOnlyToldWrongFalsely : Prop := Claim7.holds Tryf.pinned (.plain (OpenSpec.ofChange fnNewScannerSkipsOneMarkOnlyWrong)) fnNewScannerSkipsOneMarkOnlyCard

/-- THE TOLD AND TIED CARD OF 'zzlaws_internal_schedule_b1.FnNewScannerRefusesFailingReader'. -/
def fnNewScannerRefusesFailingReaderCard : Claim7 := { stood := { row := fnNewScannerRefusesFailingReaderRow, standIns := [], harness := (true, "1dc83ca45d22a1306e246ff6acde4017165c41600de64278c53d98f06e49e92e"), looks := true }, told := true, laidByText := true, laidKinds := [.sentinel, .sentinel], laidTests := true, laidLooks := .later, goes := false }
def FnNewScannerRefusesFailingReaderToldSaid : Prop := Claim7.holds Tryf.pinned (.plain (OpenSpec.ofChange fnNewScannerRefusesFailingReaderSpec)) fnNewScannerRefusesFailingReaderCard
/-- ITS FALSE NEIGHBOUR. Refute it at one input. -/
def FnNewScannerRefusesFailingReaderToldWrongFalsely : Prop := Claim7.holds Tryf.pinned (.plain (OpenSpec.ofChange fnNewScannerRefusesFailingReaderWrong)) fnNewScannerRefusesFailingReaderCard
end Rows
end Go.Proofs.Qxb6609101aFmt
