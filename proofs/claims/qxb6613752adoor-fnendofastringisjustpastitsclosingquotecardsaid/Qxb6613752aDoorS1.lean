/-
  The shelf's contract on binary.LittleEndian.Uint64, laid at this program in plain words (the kit's lay-shelf and lay-plain): the numbering, the body compared, one application; and math-bits TrailingZeros64, walked at this program after the shelf's own walk (the arithmetic is the shelf's).
-/
import Derived.Shelf.Bin.ReadersZ
import Derived.Shelf.Spec.TrailingZeros
import Derived.Test.Qxb6613752aDoorRows
namespace Go.Proofs
open Go.Shelf
def Tryd.laysBin33_ren : Go.Shelf.Ren := ⟨fun | 33 => 32 | n => n, fun | 25 => 71 | 22 => 22 | 33 => 43 | 0 => 0 | 5 => 5 | 45 => 77 | n => n, fun | n => n⟩
theorem Tryd.laysBin33 : Go.Proofs.LaysBin.n33 Tryd.prog Tryd.laysBin33_ren := {
  mixed := by kernel_rfl
  f33 := Tryd.func32.trans (congrArg some (by kernel_rfl))
  t0 := Tryd.underlying0
  a0 := Tryd.isAgg0
  z0 := Tryd.sizeOf0
  v0 := Tryd.zeroValue0
  i0 := by kernel_rfl
  t5 := Tryd.underlying5
  a5 := Tryd.isAgg5
  z5 := Tryd.sizeOf5
  v5 := Tryd.zeroValue5
  i5 := by kernel_rfl
  t22 := Tryd.underlying22
  a22 := Tryd.isAgg22
  z22 := Tryd.sizeOf22
  v22 := Tryd.zeroValue22
  i22 := by kernel_rfl
  t25 := Tryd.underlying71
  a25 := Tryd.isAgg71
  z25 := Tryd.sizeOf71
  v25 := Tryd.zeroValue71
  i25 := by kernel_rfl
  t33 := Tryd.underlying43
  a33 := Tryd.isAgg43
  z33 := Tryd.sizeOf43
  v33 := Tryd.zeroValue43
  i33 := by kernel_rfl
  t45 := Tryd.underlying77
  a45 := Tryd.isAgg77
  z45 := Tryd.sizeOf77
  v45 := Tryd.zeroValue77
  i45 := by kernel_rfl }
namespace Qxb6613752aDoor
open Go.RowKit
theorem uint64_any (a : Addr) (n c : Nat) (zs : List Int) (w : World) (hn : 8 ≤ n) (hl : 8 ≤ zs.length) (hcell : ∀ i, i < zs.length → w.cell? (a.add i) = some (.int .u8 (zs.getD i 0))) (hw : ∀ z ∈ zs, (Lit.int .u8 z).wf = true) :
    Calls Tryd.prog 32 #[.agg #[], .slice (some a) n c] w fun e w' => e = .returned (.int .u64 (Lib.leZ (zs.take 8))) ∧ Below w.heap.size w w' :=
  Any.binary_LE_Uint64_z Tryd.laysBin33 a n c zs w hn hl hcell hw

set_option maxHeartbeats 1000000 in
theorem tz64_core (x k idx : Nat) (w : World) (hx0 : ((x : Int) == 0) = false)
    (key : IntKind.u64.wrap (bits BinOp.and IntKind.u64 (x : Int) (IntKind.u64.wrap (-(x : Int))) * 285870213051353865) / 288230376151711744 = (idx : Int))
    (_hi : idx < 64) (_hk : k < 64) (hcell : w.cell? ⟨1, idx, none⟩ = some (.int .u8 k)) :
    Calls Tryd.prog 38 #[.int .u64 x] w fun e w' => e = .returned (.int .i64 k) ∧ w' = w := by
  go_enter Tryd.func38, Tryd.ntmps38
  go_wp2_with (simp only [key])
  go_ret
  exact ⟨rfl, rfl⟩

/-- The number of trailing zero bits of a number that is not 0. -/
theorem tz64_any (x : Nat) (hx : x < 18446744073709551616) (hx0 : x ≠ 0) (w : World) (hT : TabAt 1 Lib.deBruijn64tab w) :
    Calls Tryd.prog 38 #[.int .u64 x] w fun e w' => e = .returned (.int .i64 (Lib.ctz 64 x)) ∧ w' = w := by
  obtain ⟨hlow, hk⟩ := Lib.lowest_bit 64 x hx0 hx
  obtain ⟨hi, htab⟩ := Lib.deBruijn64_at _ hk
  have hcell := hT _ hi
  rw [htab] at hcell
  exact tz64_core x _ _ w (by simp; omega) (tz64_key x _ hx hx0 hlow) hi hk hcell
end Qxb6613752aDoor
end Go.Proofs
