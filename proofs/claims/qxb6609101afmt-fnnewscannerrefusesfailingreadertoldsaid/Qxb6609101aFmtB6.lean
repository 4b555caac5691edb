/- fmt.Errorf over the stop, at the format of NewScanner: it gives an error. -/
import Derived.Test.Qxb6609101aFmtB5
import Derived.Stop.CallBack
import Derived.Stop.IfaceNil
import Derived.Stop.JoinedTold
import Derived.WalkSpells
namespace Go.Proofs.Qxb6609101aFmt
open Go.RowKit
open Go.Extern.Stop Go.Stop Go.Extern

theorem call22 (args : Array Value) (w : World) : (callFunc 22 args).run Tryf.prog w = ((FmtStop.errorf #[9, 64] #[27] args).run Tryf.prog w).andThen fun v w' => .ok (.value v) w' :=
  run_callFunc_extern Tryf.func22 (by kernel_rfl) (by kernel_rfl) (by kernel_rfl) (by kernel_rfl) args w
theorem guardF (name : String) (w : World) : (FmtStop.guard name).run Tryf.prog w = .ok () w := by kernel_rfl
def readFmt : ByteArray := ⟨#[114, 101, 97, 100, 32, 37, 115, 58, 32, 37, 119]⟩
theorem fmt0 : FmtStop.printed? ⟨#[114, 101, 97, 100, 32, 37, 115, 58, 32, 37, 119]⟩ 2 = some [(0, 115, false), (1, 119, false)] := by kernel_rfl
theorem fmt0r (w : World) : (FmtDoors.printed ⟨#[114, 101, 97, 100, 32, 37, 115, 58, 32, 37, 119]⟩ 2).run Tryf.prog w = .ok [(0, 115, false), (1, 119, false)] w := by kernel_rfl
theorem fmt1 : FmtStop.printed? ⟨#[114, 101, 97, 100, 32, 37, 115, 58, 32, 37, 119]⟩ 0 = some [] := by kernel_rfl
theorem fmt1r (w : World) : (FmtDoors.printed ⟨#[114, 101, 97, 100, 32, 37, 115, 58, 32, 37, 119]⟩ 0).run Tryf.prog w = .ok [] w := by kernel_rfl
def shape9 : List UInt8 := [12, 6, 0, 0, 0, 0, 0, 0, 0, 115, 116, 114, 105, 110, 103]
theorem op9w (name : String) (v : UInt8) (hv : v = 115) (x : ByteArray) (w : World) : (FmtStop.operand name true v false (.iface 9 (.string x))).run Tryf.prog w = .ok (shape9, FmtStop.pack x.data.toList) w := by subst hv; kernel_rfl
theorem op67w (name : String) (a : Addr) (s : ByteArray) (w : World) (hc : w.cell? a = some (.string s)) :
    ∃ l : List UInt8, (FmtStop.operand name true 119 false (.iface 67 (.pointer (some a)))).run Tryf.prog w = .ok (l, s.data.toList) w := by
  have h1 : (typeStr 67).run Tryf.prog w = .ok Tryf.t67.str w := by kernel_rfl
  have d2 : Tryf.t67.desc = .pointer 69 := rfl
  have d3 : Tryf.t69.desc = .named "errors.errorString" 68 := rfl
  refine ⟨14 :: FmtStop.pack Tryf.t67.str.toUTF8.data.toList, ?_⟩
  simp [FmtStop.operand, h1, d2, d3, run_load, hc]
theorem ptr67 (w : World) : (FmtStop.ptrTo "errors.errorString").run Tryf.prog w = .ok 67 w := by kernel_rfl
theorem elem67 (w : World) : (elemOf 67).run Tryf.prog w = .ok 69 w := by kernel_rfl
theorem isError67 (w : World) : (FmtDoors.textMethod 67 "Error").run Tryf.prog w = .ok true w := by kernel_rfl
theorem ptr66 (w : World) : (FmtStop.ptrTo "fmt.wrapError").run Tryf.prog w = .ok 66 w := by kernel_rfl
theorem elem66 (w : World) : (elemOf 66).run Tryf.prog w = .ok 91 w := by kernel_rfl
theorem isError66 (w : World) : (FmtDoors.textMethod 66 "Error").run Tryf.prog w = .ok true w := by kernel_rfl

def IsErr (e : Ending) : Prop := ∃ a : Addr, e = .returned (.iface 66 (.pointer (some a)))

set_option maxRecDepth 100000 in
set_option maxHeartbeats 1000000 in
theorem errorf_any (F : Interp) (b : Nat) (name s : ByteArray) (ep : Addr) (w : World) (hF : F.answers w.tape) (c0 : w.cell? ⟨b, 0, none⟩ = some (.iface 9 (.string name))) (c1 : w.cell? ⟨b, 1, none⟩ = some (.iface 67 (.pointer (some ep)))) (hs : w.cell? ep = some (.string s)) :
    Calls Tryf.prog 20 #[.string ⟨#[114, 101, 97, 100, 32, 37, 115, 58, 32, 37, 119]⟩, .slice (some ⟨b, 0, none⟩) 2 2] w fun e w' => IsErr e ∧ Fr (fun _ => False) w w' := by
  have hF' := answers_open hF
  have f1 := call22
  have f2 := guardF
  have f3 := fmt0
  have f4 := fmt0r
  have f5 := fmt1
  have f6 := fmt1r
  have f7 := fun n x W => op9w n 115 rfl x W
  obtain ⟨l67, f8⟩ := op67w "fmt.errorf" ep s _ hs
  have f9 := ptr67
  have g1 := elem67
  have g2 := isError67
  have g3 := ptr66
  have g4 := elem66
  have g5 := isError66
  go_enter Tryf.func20, Tryf.ntmps20
  go_wp2
  go_ret
  exact ⟨⟨_, rfl⟩, ((Fr.refl _ w).alloc _).drew⟩
end Go.Proofs.Qxb6609101aFmt
