/-
  DERIVED. GIVEN WITH THE SEED: THE CARDS: each row of Qxb6613752aDoorRows.lean that lists a variable, with what it lists TIED to the program's text (the seventh form; the later family's looks); each row that meets fmt, with fmt's text TOLD by the authors' own Lean function (tested against real Go, not proved from fmt's source: count such statements apart). THE CARD IS WHAT COUNTS. Prove the row's statement (the work); the ties are given (Qxb6613752aDoorTie.lean); close each card by the builder's one call (the guide's Derived/Test/ToyasCard.lean, 'card_holds'). Laid BY PROGRAM, IN A SANDBOX (cutbox-door.mjs). By AI agents, Wed Nov 11 2026. No macro, syntax, notation, axiom, sorry.
-/
import Derived.Test.Qxb6613752aDoorRows
import GoSem.ClaimSeven
namespace Go.Proofs.Qxb6613752aDoor
namespace Rows

/-- THE TIED CARD OF 'zzlaws_internal_jsondoc_b1.FnEndOfAStringIsJustPastItsClosingQuote'. -/
def fnEndOfAStringIsJustPastItsClosingQuoteCard : Claim7 := { stood := { row := fnEndOfAStringIsJustPastItsClosingQuoteRow, standIns := [], harness := (true, "1ab9978dc745fcff0fc5ed810255a80d325718df534077ace7d1d2f13882513b"), looks := false }, kinds := [], alts := [], laidByText := true, laidKinds := [.data], laidTests := true, laidLooks := .later }
def FnEndOfAStringIsJustPastItsClosingQuoteCardSaid : Prop := Claim7.holds Tryd.pinned (.plain (OpenSpec.ofChange fnEndOfAStringIsJustPastItsClosingQuoteSpec)) fnEndOfAStringIsJustPastItsClosingQuoteCard

/-- THE TIED CARD OF 'zzlaws_internal_jsondoc_b1.FnFlushInTwoBatchesBuildsTheSameTable'. -/
def fnFlushInTwoBatchesBuildsTheSameTableCard : Claim7 := { stood := { row := fnFlushInTwoBatchesBuildsTheSameTableRow, standIns := [], harness := (true, "1ab9978dc745fcff0fc5ed810255a80d325718df534077ace7d1d2f13882513b"), looks := false }, kinds := [], alts := [], laidByText := true, laidKinds := [.data], laidTests := true, laidLooks := .later }
def FnFlushInTwoBatchesBuildsTheSameTableCardSaid : Prop := Claim7.holds Tryd.pinned (.plain (OpenSpec.ofChange fnFlushInTwoBatchesBuildsTheSameTableSpec)) fnFlushInTwoBatchesBuildsTheSameTableCard
end Rows
end Go.Proofs.Qxb6613752aDoor
