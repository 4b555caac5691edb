/-
  NARROWER THAN 'FOR EVERY INPUT', by the rows' own cells (each row's printed sentence says how): FnNewScannerSkipsOneMarkOnly: laid · FnNewScannerRefusesFailingReader: laid.
  DERIVED. THE GIVEN ROWS OF THIS SEAT. 2 by the template 'for every input the law returns true; each argument reads behind the call as it read before'; 0 by the template 'total and deterministic' (their statements: Qxb6609101aFmtTotals.lean).
  GIVEN WITH THE SEED: the statements are not yours to turn. If you find one false, say at which input.
  Laid BY PROGRAM, IN A SANDBOX (cutbox-rows.mjs): the forced cells as the released guide's own fill.sh prints them over the translation 83847a747eef2736… (all of the seat's roots in one cut). By AI agents, Wed Nov 11 2026. No macro, syntax, notation, axiom, sorry.
-/
import Derived.Test.Qxb6609101aFmtChecked
import GoSem.Claim
import GoSem.ClaimJoined
import GoSem.ClaimMapViews
import Derived.JoinedTies
import Derived.KernelRfl
namespace Go.Proofs.Qxb6609101aFmt
/- THE CELL 'sum', in the pinned program and in every row, IS THE sha256 OF THE DUMP (.gsa) THAT Qxb6609101aFmtProg.lean LOADS. Nothing in Lean hashes anything: it is a label: what it is worth is what the hold of that sum in a sandbox is worth. -/
noncomputable def Tryf.pinned : Pinned := { name := "qxb6609101afmt", sum := "83847a747eef27365d4a8820eb2be9ffd2a64afadf1763b00f89e56066387958", checked := Tryf.checked }
namespace Rows
def none {H : Type} : Left H := { results := [], args := [] }

/- WHAT THE LISTED PACKAGE-LEVEL VARIABLES READ AS WHEN THE CALL BEGINS. Each datum BY PROGRAM (the guide's laid-datum.mjs) off the statement by which the dump's own 'gosem.cut.vars' lays the variable. In a bare row this is a premise. The card (Qxb6609101aFmtCards.lean) ties it to the program's text. -/
def laid_io_EOF {H : Type} : DataW H := .iface "*errors.errorString" (.ptr (.agg [.lit (.string [69, 79, 70])]))
def laid_io_ErrUnexpectedEOF {H : Type} : DataW H := .iface "*errors.errorString" (.ptr (.agg [.lit (.string [117, 110, 101, 120, 112, 101, 99, 116, 101, 100, 32, 69, 79, 70])]))

/-- 'zzlaws_internal_schedule_b1.FnNewScannerSkipsOneMarkOnly': WHATEVER THE INPUT: true; the input reads as it did. -/
def fnNewScannerSkipsOneMarkOnlySpec : ChangeSpec := { name := "fnNewScannerSkipsOneMarkOnly", fn := fun _ => fun
  | [d1, d2] => { results := [.lit (.bool true)], args := [d1, d2] }
  | _ => none }
def fnNewScannerSkipsOneMarkOnlyRow : OpenClaim := { program := "qxb6609101afmt", sum := "83847a747eef27365d4a8820eb2be9ffd2a64afadf1763b00f89e56066387958", func := "example.com/interlock/interlock/zzlaws_internal_schedule_b1.FnNewScannerSkipsOneMarkOnly", spec := "fnNewScannerSkipsOneMarkOnly", stops := ["fmt.errorf"], inPlace := ["fmt.errorf"], unfollowed := true, recurses := true, named := ["io.EOF"], apart := false, laid := [("io.EOF", laid_io_EOF)] }
/-- NO THEOREM (fmt's text is open here; it may be false): for the released tool's asking of the row's closed facts alone. THE STATEMENT IS 'FnNewScannerSkipsOneMarkOnlyToldSaid' (Qxb6609101aFmtCards.lean). -/
def FnNewScannerSkipsOneMarkOnlyFormAsk : Prop := fnNewScannerSkipsOneMarkOnlyRow.holds Tryf.pinned (OpenSpec.ofChange fnNewScannerSkipsOneMarkOnlySpec)

/-- ITS FALSE NEIGHBOUR: 'it returns false'. Refute it at one input. -/
def fnNewScannerSkipsOneMarkOnlyWrong : ChangeSpec := { name := "fnNewScannerSkipsOneMarkOnly", fn := fun _ => fun
  | [d1, d2] => { results := [.lit (.bool false)], args := [d1, d2] }
  | _ => none }
def FnNewScannerSkipsOneMarkOnlyWrongFormAsk : Prop := fnNewScannerSkipsOneMarkOnlyRow.holds Tryf.pinned (OpenSpec.ofChange fnNewScannerSkipsOneMarkOnlyWrong)

/-- 'zzlaws_internal_schedule_b1.FnNewScannerRefusesFailingReader': WHATEVER THE INPUT: true; the input reads as it did. -/
def fnNewScannerRefusesFailingReaderSpec : ChangeSpec := { name := "fnNewScannerRefusesFailingReader", fn := fun _ => fun
  | [d1, d2] => { results := [.lit (.bool true)], args := [d1, d2] }
  | _ => none }
def fnNewScannerRefusesFailingReaderRow : OpenClaim := { program := "qxb6609101afmt", sum := "83847a747eef27365d4a8820eb2be9ffd2a64afadf1763b00f89e56066387958", func := "example.com/interlock/interlock/zzlaws_internal_schedule_b1.FnNewScannerRefusesFailingReader", spec := "fnNewScannerRefusesFailingReader", stops := ["fmt.errorf"], inPlace := ["fmt.errorf"], unfollowed := true, recurses := true, named := ["io.ErrUnexpectedEOF", "io.EOF"], apart := false, laid := [("io.EOF", laid_io_EOF), ("io.ErrUnexpectedEOF", laid_io_ErrUnexpectedEOF)] }
/-- NO THEOREM (fmt's text is open here; it may be false): for the released tool's asking of the row's closed facts alone. THE STATEMENT IS 'FnNewScannerRefusesFailingReaderToldSaid' (Qxb6609101aFmtCards.lean). -/
def FnNewScannerRefusesFailingReaderFormAsk : Prop := fnNewScannerRefusesFailingReaderRow.holds Tryf.pinned (OpenSpec.ofChange fnNewScannerRefusesFailingReaderSpec)

/-- ITS FALSE NEIGHBOUR: 'it returns false'. Refute it at one input. -/
def fnNewScannerRefusesFailingReaderWrong : ChangeSpec := { name := "fnNewScannerRefusesFailingReader", fn := fun _ => fun
  | [d1, d2] => { results := [.lit (.bool false)], args := [d1, d2] }
  | _ => none }
def FnNewScannerRefusesFailingReaderWrongFormAsk : Prop := fnNewScannerRefusesFailingReaderRow.holds Tryf.pinned (OpenSpec.ofChange fnNewScannerRefusesFailingReaderWrong)

end Rows
end Go.Proofs.Qxb6609101aFmt
