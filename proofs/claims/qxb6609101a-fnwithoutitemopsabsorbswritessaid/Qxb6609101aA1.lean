/- The small callees of FnWithoutItemOpsAbsorbsWrites: the tests on a kind. -/
import Derived.Test.Qxb6609101aRows
import Derived.WalkKit
import Derived.WalkSpells
import Derived.WalkLawsBesides
namespace Go.Proofs.Qxb6609101a
open Go.RowKit

def isW (s : ByteArray) : Bool := s.toList == [119] || s.toList == [105]
def hasI (s : ByteArray) : Bool := s.toList == [114] || s.toList == [119] || s.toList == [105] || s.toList == [108] || s.toList == [115, 108] || s.toList == [120, 108] || s.toList == [117, 108] || s.toList == [117]

set_option maxHeartbeats 400000 in
theorem writes_any (s : ByteArray) (w : World) :
    Calls Try.prog 7 #[.string s] w fun e w' => e = .returned (.bool (isW s)) ∧ w' = w := by
  go_enter Try.func7, Try.ntmps7
  go_wp2
  all_goals (go_ret; exact ⟨by simp_all [isW], rfl⟩)

set_option maxHeartbeats 400000 in
theorem hasItem_any (s : ByteArray) (w : World) :
    Calls Try.prog 8 #[.string s] w fun e w' => e = .returned (.bool (hasI s)) ∧ w' = w := by
  go_enter Try.func8, Try.ntmps8
  go_wp2
  all_goals (go_ret; exact ⟨by simp_all [hasI], rfl⟩)

set_option maxHeartbeats 400000 in
theorem takesItem_any (s : ByteArray) (w : World) :
    Calls Try.prog 17 #[.string s] w fun e w' => e = .returned (.bool (hasI s)) ∧ w' = w := by
  go_enter Try.func17, Try.ntmps17
  go_wp2
  all_goals (go_ret; exact ⟨by simp_all [hasI], rfl⟩)

/-- An operation as its six cells: kind, number, item, line, column, version. -/
structure OpV where
  k : ByteArray
  t : Int
  it : ByteArray
  l : Int
  c : Int
def OpV.cells (o : OpV) : List Value := [.string o.k, .int .i64 o.t, .string o.it, .int .i64 o.l, .int .i64 o.c, .int .i64 0]
def OpV.cells5 (o : OpV) : List Value := [.string o.k, .int .i64 o.t, .string o.it, .int .i64 o.l, .int .i64 o.c]
def OpV.same (a b : OpV) : Bool := a.k.toList == b.k.toList && a.t == b.t && a.it.toList == b.it.toList && a.l == b.l && a.c == b.c
theorem OpV.same_refl (a : OpV) : a.same a = true := by simp [OpV.same]

set_option maxHeartbeats 400000 in
theorem toOp_any (k it : ByteArray) (t l c : Int) (w : World) :
    Calls Try.prog 12 #[.agg #[.string k, .int .i64 t, .string it, .int .i64 l, .int .i64 c]] w fun e w' => e = .returned (.agg #[.string k, .int .i64 t, .string it, .int .i64 l, .int .i64 c, .int .i64 0]) ∧ Below w.heap.size w w' := by
  go_enter Try.func12, Try.ntmps12
  go_wp2
  exact bodyPost_ret (v := .agg #[.string k, .int .i64 t, .string it, .int .i64 l, .int .i64 c, .int .i64 0]) (by simp [results, Try.results12, go_sem]) rfl ⟨rfl, ((Below.refl _ _).alloc (Nat.le_refl _) _).alloc (by simp) _⟩

set_option maxHeartbeats 400000 in
theorem sameOp_any (k it : ByteArray) (t l c v : Int) (k' it' : ByteArray) (t' l' c' : Int) (w : World) :
    Calls Try.prog 18 #[.agg #[.string k, .int .i64 t, .string it, .int .i64 l, .int .i64 c, .int .i64 v], .agg #[.string k', .int .i64 t', .string it', .int .i64 l', .int .i64 c']] w fun e w' => e = .returned (.bool (OpV.same ⟨k, t, it, l, c⟩ ⟨k', t', it', l', c'⟩)) ∧ Below w.heap.size w w' := by
  go_enter Try.func18, Try.ntmps18
  go_wp2
  all_goals (go_ret; exact ⟨by simp_all [OpV.same], ((Below.refl _ _).alloc (Nat.le_refl _) _).alloc (by simp) _⟩)

set_option maxHeartbeats 400000 in
theorem clo7_any (k it : ByteArray) (t l c v : Int) (b : Nat) (w : World) (hlt : b < w.heap.size) (hb : w.cell? ⟨b, 0, none⟩ = some (.func (.func 7) #[] #[])) :
    Calls Try.prog 13 #[.agg #[.string k, .int .i64 t, .string it, .int .i64 l, .int .i64 c, .int .i64 v], .pointer (some ⟨b, 0, none⟩)] w fun e w' => e = .returned (.bool (isW k)) ∧ Below w.heap.size w w' := by
  go_enter Try.func13, Try.ntmps13
  go_wp2_with (go_at_call 7; refine (writes_any _ _).mono ?_; rintro e w' ⟨rfl, rfl⟩)
  go_ret
  exact ⟨rfl, ((Below.refl _ _).alloc (Nat.le_refl _) _)⟩

set_option maxHeartbeats 400000 in
theorem clo8_any (k it : ByteArray) (t l c v : Int) (b : Nat) (w : World) (hlt : b < w.heap.size) (hb : w.cell? ⟨b, 0, none⟩ = some (.func (.func 8) #[] #[])) :
    Calls Try.prog 13 #[.agg #[.string k, .int .i64 t, .string it, .int .i64 l, .int .i64 c, .int .i64 v], .pointer (some ⟨b, 0, none⟩)] w fun e w' => e = .returned (.bool (hasI k)) ∧ Below w.heap.size w w' := by
  go_enter Try.func13, Try.ntmps13
  go_wp2_with (go_at_call 8; refine (hasItem_any _ _).mono ?_; rintro e w' ⟨rfl, rfl⟩)
  go_ret
  exact ⟨rfl, ((Below.refl _ _).alloc (Nat.le_refl _) _)⟩

end Go.Proofs.Qxb6609101a
