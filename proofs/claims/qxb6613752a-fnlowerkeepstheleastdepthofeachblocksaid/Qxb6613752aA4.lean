/- The callees of FnLowerKeepsTheLeastDepthOfEachBlock. -/
import Derived.Test.Qxb6613752aA3
import Derived.Deep.RegionHeld3
namespace Go.Proofs.Qxb6613752a
open Go.RowKit

def inB (off : Int) (nb : Nat) : Bool := decide (0 ≤ off) && decide (off / 64 < (nb : Int))

theorem inBlocks_any (off : Int) (nb : Nat) (w : World) (_h0 : -9223372036854775808 ≤ off) (_h1 : off ≤ 9223372036854775807) :
    Calls Try.prog 10 #[.int .i64 off, .int .i64 nb] w fun e w' => e = .returned (.bool (inB off nb)) ∧ w' = w := by
  go_enter Try.func10, Try.ntmps10
  go_wp2
  all_goals go_ret
  · exact ⟨by simp_all [inB], rfl⟩
  · refine ⟨?_, rfl⟩
    have : decide (0 ≤ off) = false := by simp; omega
    simp [inB, this]

theorem bytes9_any (a a' a'' : Option Addr) (n cap n' cap' n'' cap'' : Nat) (w : World) (hn : n ≤ 9223372036854775807) (hn' : n' ≤ 9223372036854775807) (hn'' : n'' ≤ 9223372036854775807) :
    Calls Try.prog 9 #[.slice a n cap, .slice a' n' cap', .slice a'' n'' cap''] w fun e w' => IsBool e ∧ w' = w := by
  go_enter Try.func9, Try.ntmps9
  go_wp2
  all_goals (go_ret; exact ⟨⟨_, rfl⟩, rfl⟩)

/-- The lower of an entry and a depth as uint16. -/
def lowV (z dep : Int) : Int := if IntKind.u16.wrap dep < z then IntKind.u16.wrap dep else z

set_option maxRecDepth 100000 in
set_option maxHeartbeats 1000000 in
theorem lower_any (xb lb g n b : Nat) (off dep z : Int) (s0 s2 : Value) (w : World) (hx : w.heap[xb]? = some (.cells #[s0, .slice (some ⟨lb, 0, none⟩) 1 1, s2] 39 (0, 0))) (hlb : w.heap[lb]? = some (.cells #[.slice (some ⟨g, 0, none⟩) n n] 22 (0, 0)))
    (cur : Array Value) (hg : w.heap[g]? = some (.cells cur 24 (0, 0))) (hc : w.cell? ⟨g, b, none⟩ = some (.int .u16 z)) (hob : off / 64 = (b : Int)) (hb : b < n) (_h0 : 0 ≤ off) (_h1 : off ≤ 9223372036854775807) :
    Calls Try.prog 14 #[.pointer (some ⟨xb, 0, none⟩), .int .i64 off, .int .i64 dep] w fun e w' => e = .returned (.tuple #[]) ∧ w' = (w.setCell ⟨g, b, none⟩ (.int .u16 (lowV z dep))).drew := by
  have c0 : w.cell? ⟨xb, 1, none⟩ = some (.slice (some ⟨lb, 0, none⟩) 1 1) := by rw [cell_of_row w xb 1 _ 39 (0, 0) hx]; rfl
  have c1 : w.cell? ⟨lb, 0, none⟩ = some (.slice (some ⟨g, 0, none⟩) n n) := by rw [cell_of_row w lb 0 _ 22 (0, 0) hlb]; rfl
  have hfz := frozen_of_row w g b _ 24 hg
  have hi : (b : Int) < (n : Int) := by omega
  have hne1 : g ≠ xb := by intro e; rw [e, hx] at hg; simp at hg
  have hne2 : g ≠ lb := by intro e; rw [e, hlb] at hg; simp at hg
  clear hx hlb hg
  go_enter Try.func14, Try.ntmps14
  go_wp2
  go_region
  exact bodyPost_end (v := .tuple #[]) (by simp [results, Try.results14, go_sem]) rfl ⟨rfl, rfl⟩

set_option maxHeartbeats 400000 in
theorem zzLower_any (xb lb g n b : Nat) (off dep z : Int) (s0 s2 : Value) (w : World) (hx : w.heap[xb]? = some (.cells #[s0, .slice (some ⟨lb, 0, none⟩) 1 1, s2] 39 (0, 0))) (hlb : w.heap[lb]? = some (.cells #[.slice (some ⟨g, 0, none⟩) n n] 22 (0, 0)))
    (cur : Array Value) (hg : w.heap[g]? = some (.cells cur 24 (0, 0))) (hc : w.cell? ⟨g, b, none⟩ = some (.int .u16 z)) (hob : off / 64 = (b : Int)) (hb : b < n) (h0 : 0 ≤ off) (h1 : off ≤ 9223372036854775807) :
    Calls Try.prog 11 #[.pointer (some ⟨xb, 0, none⟩), .int .i64 off, .int .i64 dep] w fun e w' => e = .returned (.tuple #[]) ∧ w' = (w.setCell ⟨g, b, none⟩ (.int .u16 (lowV z dep))).drew := by
  have H : Hid _ := And.intro hx (And.intro hlb (And.intro hg hc))
  clear hx hlb hg hc
  go_enter Try.func11, Try.ntmps11
  go_wp2_with (go_at_call 14; refine (lower_any xb lb g n b off dep z s0 s2 _ H.out.1 H.out.2.1 cur H.out.2.2.1 H.out.2.2.2 hob hb h0 h1).mono ?_; rintro e wx ⟨rfl, hw⟩; obtain rfl := hw.symm)
  exact bodyPost_end (v := .tuple #[]) (by simp [results, Try.results11, go_sem]) rfl ⟨rfl, rfl⟩

theorem zzLows_any (xb : Nat) (v : Value) (hv : ∃ a n c, v = .slice a n c) (w : World) (hx : w.cell? ⟨xb, 1, none⟩ = some v) :
    Calls Try.prog 12 #[.pointer (some ⟨xb, 0, none⟩)] w fun e w' => e = .returned v ∧ w' = w := by
  obtain ⟨a, n, c, rfl⟩ := hv
  go_enter Try.func12, Try.ntmps12
  go_wp2
  go_ret
  exact ⟨rfl, rfl⟩
end Go.Proofs.Qxb6613752a
