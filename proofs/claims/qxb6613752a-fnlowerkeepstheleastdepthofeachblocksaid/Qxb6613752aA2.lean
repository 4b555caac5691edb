/- The index's callees: newIndex, start. -/
import Derived.Test.Qxb6613752aA0
import Derived.Test.Qxb6613752aA1
namespace Go.Proofs.Qxb6613752a
open Go.RowKit

theorem newIndex_any (x y z : Value) (w : World) (hx : ∃ a n c, x = .slice a n c) (hy : ∃ a n c, y = .slice a n c) (hz : ∃ n, z = .int .i64 n) :
    Calls Try.prog 8 #[x, y, z] w fun e w' => e = .returned (.pointer (some ⟨w.heap.size, 0, none⟩)) ∧ w' = w.alloc (.cells #[x, y, z] 39) := by
  obtain ⟨a, n, c, rfl⟩ := hx
  obtain ⟨a', n', c', rfl⟩ := hy
  obtain ⟨m, rfl⟩ := hz
  go_enter Try.func8, Try.ntmps8
  go_wp2
  go_ret
  exact ⟨rfl, rfl⟩

theorem start_any (xb g n c b : Nat) (e : Nat) (w : World) (c0 : w.cell? ⟨xb, 0, none⟩ = some (.slice (some ⟨g, 0, none⟩) n c)) (c1 : w.cell? ⟨g, b, none⟩ = some (.int .u16 e)) (hb : b < n) (_hn : n ≤ 10000000) (h1 : e < 65536) (d : Nat) (f : Bool) (hd : e % 32768 = d) (hf : decide (32768 ≤ e) = f) :
    Calls Try.prog 13 #[.pointer (some ⟨xb, 0, none⟩), .int .i64 b] w fun r w' => r = .returned (.tuple #[.int .i64 (d : Nat), .bool f]) ∧ ∃ q, w' = w.drewN q := by
  have hi : (b : Int) < (n : Int) := by omega
  have HD : Hid (e % 32768 = d) := hd
  have HE : Hid (decide (32768 ≤ e) = f) := hf
  clear hd hf
  go_enter Try.func13, Try.ntmps13
  go_wp2
  go_quiet (fail)
  rw [bits_andNot16 h1, bits_and16 h1]
  have hbl : ((((e / 32768 * 32768 : Nat)) : Int) != 0) = decide (32768 ≤ e) := by
    rw [Bool.eq_iff_iff]
    simp
    omega
  rw [hbl]
  have hm : e % 32768 < 32768 := Nat.mod_lt _ (by omega)
  have hw : wrap64 (((e % 32768 : Nat)) : Int) = ((e % 32768 : Nat) : Int) := by
    unfold wrap64
    omega
  rw [hw, HD.out, HE.out]
  clear hbl hw hm
  go_wp2
  go_ret2
  exact ⟨rfl, _, rfl⟩

theorem zzStart_any (xb g n c b : Nat) (e : Nat) (w : World) (c0 : w.cell? ⟨xb, 0, none⟩ = some (.slice (some ⟨g, 0, none⟩) n c)) (c1 : w.cell? ⟨g, b, none⟩ = some (.int .u16 e)) (hb : b < n) (hn : n ≤ 10000000) (h1 : e < 65536) (d : Nat) (f : Bool) (hd : e % 32768 = d) (hf : decide (32768 ≤ e) = f) :
    Calls Try.prog 7 #[.pointer (some ⟨xb, 0, none⟩), .int .i64 b] w fun r w' => r = .returned (.tuple #[.int .i64 (d : Nat), .bool f]) ∧ ∃ q, w' = w.drewN q := by
  have H : Hid (w.cell? ⟨xb, 0, none⟩ = some (.slice (some ⟨g, 0, none⟩) n c)) := c0
  have H' : Hid (w.cell? ⟨g, b, none⟩ = some (.int .u16 e)) := c1
  have HD : Hid (e % 32768 = d) := hd
  have HE : Hid (decide (32768 ≤ e) = f) := hf
  clear c0 c1 hd hf
  go_enter Try.func7, Try.ntmps7
  go_wp2_with fail
  refine (start_any xb g n c b e _ H.out H'.out hb hn h1 d f HD.out HE.out).mono ?_
  rintro r w1 ⟨rfl, q, rfl⟩
  go_wp2
  go_ret2
  exact ⟨rfl, _, rfl⟩
end Go.Proofs.Qxb6613752a
