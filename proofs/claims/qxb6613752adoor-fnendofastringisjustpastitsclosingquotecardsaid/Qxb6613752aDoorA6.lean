/- The value's end; the law's own walk. -/
import Derived.Test.Qxb6613752aDoorA5
namespace Go.Proofs.Qxb6613752aDoor
open Go.RowKit

theorem zzClosing_any (g o q : Nat) (b : Bool) (zs : List Int) (w : World) (hl : zs.length ≤ 1048576) (ho : o < zs.length) (hw : Wf8 zs) (hc : CellsAt w g zs) (h1w : 1 < w.heap.size) (hT : TabAt 1 Lib.deBruijn64tab w) (hs : scan zs (o + 1) false = some (q, b)) :
    Calls Tryd.prog 7 #[.slice (some ⟨g, 0, none⟩) zs.length zs.length, .int .i64 (o : Int)] w fun e w' => e = .returned (.tuple #[.int .i64 (q : Int), .bool b]) ∧ Below w.heap.size w w' := by
  have HC : Hid (CellsAt w g zs) := hc
  have HT : Hid (TabAt 1 Lib.deBruijn64tab w) := hT
  have HS : Hid (scan zs (o + 1) false = some (q, b)) := hs
  have HW : Hid (Wf8 zs) := hw
  clear hc hT hs hw
  go_enter Tryd.func7, Tryd.ntmps7
  go_wp2_with (go_at_call 25; refine (closing_any g o q b zs w hl ho HW.out HC.out h1w HT.out HS.out).mono ?_; rintro e w2 ⟨rfl, hb⟩)
  go_ret2
  exact ⟨rfl, hb⟩

theorem newValue_any (o m : Int) (w : World) :
    Calls Tryd.prog 9 #[.int .i32 o, .int .u32 m] w fun e w' => e = .returned (.agg #[.pointer none, .int .i32 o, .int .u32 m]) ∧ Below w.heap.size w w' := by
  go_enter Tryd.func9, Tryd.ntmps9
  go_wp2
  refine bodyPost_ret (v := .agg #[.pointer none, .int .i32 o, .int .u32 m]) ?_ rfl ⟨rfl, (Below.refl _ w).alloc (Nat.le_refl _) _⟩
  simp [results, Tryd.results9, go_sem]

theorem end_any (o m : Int) (w : World) :
    Calls Tryd.prog 26 #[.agg #[.pointer none, .int .i32 o, .int .u32 m]] w fun e w' => e = .returned (.int .i64 (wrap64 (bits .andNot .u32 m 2147483648))) ∧ Below w.heap.size w w' := by
  go_enter Tryd.func26, Tryd.ntmps26
  go_wp2
  go_ret
  exact ⟨rfl, (Below.refl _ w).alloc (Nat.le_refl _) _⟩
theorem zzEnd_any (o m : Int) (w : World) :
    Calls Tryd.prog 8 #[.agg #[.pointer none, .int .i32 o, .int .u32 m]] w fun e w' => e = .returned (.int .i64 (wrap64 (bits .andNot .u32 m 2147483648))) ∧ Below w.heap.size w w' := by
  have E := fun w => end_any o m w
  generalize wrap64 (bits .andNot .u32 m 2147483648) = r at E ⊢
  have HE : Hid (∀ w, Calls Tryd.prog 26 #[.agg #[.pointer none, .int .i32 o, .int .u32 m]] w fun e w' => e = .returned (.int .i64 r) ∧ Below w.heap.size w w') := E
  clear E
  go_enter Tryd.func8, Tryd.ntmps8
  go_wp2_with (go_at_call 26; refine (HE.out _).mono ?_; rintro e w2 ⟨rfl, hb⟩)
  go_ret
  exact ⟨rfl, ((Below.refl _ w).alloc (Nat.le_refl _) _).trans (hb.mono (by simp))⟩

theorem top_or (x : Nat) (hx : x < 2147483648) : x ||| 2147483648 = x + 2147483648 := by
  have := Nat.two_pow_add_eq_or_of_lt (i := 31) hx 1
  rw [Nat.or_comm]
  have e : (2 ^ 31 * 1 : Nat) = 2147483648 := by decide
  rw [e] at this
  omega

theorem orTop (x : Nat) (hx : x < 2147483648) : bits .or .u32 (x : Int) 2147483648 = ((x + 2147483648 : Nat) : Int) := by
  show IntKind.u32.wrap ((BitVec.ofInt 32 (x : Int) ||| BitVec.ofInt 32 2147483648).toNat : Int) = _
  have h1 : (BitVec.ofInt 32 (x : Int)).toNat = x := by
    rw [BitVec.ofInt_natCast, BitVec.toNat_ofNat]; exact Nat.mod_eq_of_lt (by omega)
  rw [BitVec.toNat_or, h1, show (BitVec.ofInt 32 2147483648).toNat = 2147483648 by decide, top_or x hx, wrap_u32']
  omega

theorem notTop (x y : Nat) (hx : x < 2147483648) (hy : y = x ∨ y = x + 2147483648) : bits .andNot .u32 (y : Int) 2147483648 = (x : Int) := by
  show IntKind.u32.wrap ((BitVec.ofInt 32 (y : Int) &&& ~~~(BitVec.ofInt 32 2147483648)).toNat : Int) = _
  have h1 : (BitVec.ofInt 32 (y : Int)).toNat = y := by
    rw [BitVec.ofInt_natCast, BitVec.toNat_ofNat]; exact Nat.mod_eq_of_lt (by omega)
  have e : y &&& 2147483647 = x := by
    have := Nat.and_two_pow_sub_one_eq_mod y 31
    rw [show (2 ^ 31 - 1 : Nat) = 2147483647 by decide, show (2 ^ 31 : Nat) = 2147483648 by decide] at this
    rw [this]
    omega
  rw [BitVec.toNat_and, h1, show (~~~(BitVec.ofInt 32 2147483648)).toNat = 2147483647 by decide, e, wrap_u32']
  omega
end Go.Proofs.Qxb6613752aDoor
