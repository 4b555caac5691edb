/-
  DERIVED. GIVEN WITH THE SEED: THE CARDS: each row of Qxb6609101aDoorRows.lean that lists a variable, with what it lists TIED to the program's text (the seventh form; the later family's looks); each row that meets fmt, with fmt's text TOLD by the authors' own Lean function (tested against real Go, not proved from fmt's source: count such statements apart). THE CARD IS WHAT COUNTS. Prove the row's statement (the work); the ties are given (Qxb6609101aDoorTie.lean); close each card by the builder's one call (the guide's Derived/Test/ToyasCard.lean, 'card_holds'). Laid BY PROGRAM, IN A SANDBOX (cutbox-door.mjs). By AI agents, Wed Nov 11 2026. No macro, syntax, notation, axiom, sorry.
-/
import Derived.Test.Qxb6609101aDoorRows
import GoSem.ClaimSeven
namespace Go.Proofs.Qxb6609101aDoor
namespace Rows

/-- THE TIED CARD OF 'zzlaws_internal_schedule_b1.FnWritesExactlyWhenPrintedAsWrite'. -/
def fnWritesExactlyWhenPrintedAsWriteCard : Claim7 := { stood := { row := fnWritesExactlyWhenPrintedAsWriteRow, standIns := [], harness := (true, "0bfef67be125d562570eef6d65be074bc48d44d5c06baf823db9cc293f9ad618"), looks := false }, kinds := [], alts := [], laidByText := true, laidKinds := [.data, .data, .data], laidTests := true, laidLooks := .later }
def FnWritesExactlyWhenPrintedAsWriteCardSaid : Prop := Claim7.holds Tryd.pinned (.plain (OpenSpec.ofChange fnWritesExactlyWhenPrintedAsWriteSpec)) fnWritesExactlyWhenPrintedAsWriteCard

/-- THE TIED CARD OF 'zzlaws_internal_schedule_b1.FnOpStringIsTheNotation'. -/
def fnOpStringIsTheNotationCard : Claim7 := { stood := { row := fnOpStringIsTheNotationRow, standIns := [], harness := (true, "0bfef67be125d562570eef6d65be074bc48d44d5c06baf823db9cc293f9ad618"), looks := false }, kinds := [], alts := [], laidByText := true, laidKinds := [.data, .data, .data], laidTests := true, laidLooks := .later }
def FnOpStringIsTheNotationCardSaid : Prop := Claim7.holds Tryd.pinned (.plain (OpenSpec.ofChange fnOpStringIsTheNotationSpec)) fnOpStringIsTheNotationCard

/-- THE TIED CARD OF 'zzlaws_internal_schedule_b1.FnOpStringTellsOpsApart'. -/
def fnOpStringTellsOpsApartCard : Claim7 := { stood := { row := fnOpStringTellsOpsApartRow, standIns := [], harness := (true, "0bfef67be125d562570eef6d65be074bc48d44d5c06baf823db9cc293f9ad618"), looks := false }, kinds := [], alts := [], laidByText := true, laidKinds := [.data, .data, .data], laidTests := true, laidLooks := .later }
def FnOpStringTellsOpsApartCardSaid : Prop := Claim7.holds Tryd.pinned (.plain (OpenSpec.ofChange fnOpStringTellsOpsApartSpec)) fnOpStringTellsOpsApartCard
end Rows
end Go.Proofs.Qxb6609101aDoor
