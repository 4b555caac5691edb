/- The walk of the scan, a byte at a time. -/
import Derived.Test.Qxb6613752aDoorA3
import Derived.Laws.CopyOwn
namespace Go.Proofs.Qxb6613752aDoor
open Go.RowKit

/-- The bytes of a row. -/
structure CellsAt (w : World) (g : Nat) (zs : List Int) : Prop where
  lt : g < w.heap.size
  cell : ∀ i, i < zs.length → w.cell? ⟨g, i, none⟩ = some (.int .u8 (zs.getD i 0))

theorem CellsAt.below {w w' : World} {g : Nat} {zs : List Int} (h : CellsAt w g zs) (hb : Below w.heap.size w w') : CellsAt w' g zs :=
  ⟨Nat.lt_of_lt_of_le h.lt hb.size, fun i hi => by rw [hb.cell (p := ⟨g, i, none⟩) h.lt]; exact h.cell i hi⟩

/-- What the scan's answer looks like. -/
def Answer (S : Option (Nat × Bool)) (e : Ending) : Prop :=
  (∃ q b, S = some (q, b) ∧ e = .returned (.tuple #[.int .i64 (q : Nat), .bool b])) ∨ (S = none ∧ ∃ b, e = .returned (.tuple #[.int .i64 (-1), .bool b]))

set_option maxHeartbeats 1000000 in
theorem closeModel_any (g o : Nat) (zs : List Int) (w : World) (hl : zs.length ≤ 1048576) (ho : o < zs.length) (hc : CellsAt w g zs) :
    Calls Tryd.prog 6 #[.slice (some ⟨g, 0, none⟩) zs.length zs.length, .int .i64 (o : Int)] w fun e w' => Answer (scan zs (o + 1) false) e ∧ w' = w := by
  have HC : Hid (CellsAt w g zs) := hc
  clear hc
  -- the scan's answer, named
  obtain ⟨S, hS⟩ : ∃ S, S = scan zs (o + 1) false := ⟨_, rfl⟩
  rw [← hS]
  have HS : Hid (scan zs (o + 1) false = S) := hS.symm
  clear hS
  go_enter Tryd.func6, Tryd.ntmps6
  go_wp2
  go_loopw [6, 7] (fun s6 s7 wr => ∃ (i : Nat) (b : Bool), s6 = .bool b ∧ s7 = .int .i64 i ∧ i ≤ zs.length + 1 ∧ wr = w ∧ scan zs i b = S) (fun _ s7 _ => zs.length + 2 - (intOf s7).toNat)
  case atStart => exact ⟨o + 1, false, rfl, by go_num, by omega, rfl, HS.out⟩
  case round =>
    obtain ⟨i, b, rfl, rfl, hi, rfl, hs⟩ := hrel
    have H : Hid (scan zs i b = S) := hs
    clear hs
    by_cases hlt : i < zs.length
    · have c0 := HC.out.cell i hlt
      obtain ⟨z, hz⟩ : ∃ z, z = zs.getD i 0 := ⟨_, rfl⟩
      rw [← hz] at c0
      have HZ : Hid (z = zs.getD i 0) := hz
      clear hz
      by_cases h1 : z = 34
      · have k1 : (z == 34) = true := by simp [h1]
        have HH : Hid (S = some (i, b)) := by rw [Hid, ← H.out]; exact scan_quote zs i b hlt (by rw [← HZ.out]; exact h1)
        clear h1
        go_wp2
        go_ret2
        exact ⟨.inl ⟨i, b, HH.out, rfl⟩, rfl⟩
      · have k1 : (z == 34) = false := by simp [h1]
        by_cases h2 : z = 92
        · have k2 : (z == 92) = true := by simp [h2]
          have HH : Hid (scan zs (i + 2) true = S) := by rw [Hid, ← H.out]; exact (scan_esc zs i b hlt (by rw [← HZ.out]; exact h2)).symm
          clear h1 h2
          go_wp2
          go_roundw
          case rel => exact ⟨i + 2, true, rfl, by go_num, by omega, trivial, HH.out⟩
          case measure => simp [intOf]; omega
        · have k2 : (z == 92) = false := by simp [h2]
          have HH : Hid (scan zs (i + 1) b = S) := by rw [Hid, ← H.out]; exact (scan_plain zs i b hlt (by rw [← HZ.out]; exact h1) (by rw [← HZ.out]; exact h2)).symm
          clear h1 h2
          go_wp2
          go_roundw
          case rel => exact ⟨i + 1, b, rfl, by go_num, by omega, trivial, HH.out⟩
          case measure => simp [intOf]; omega
    · have HH : Hid (S = none) := by rw [Hid, ← H.out]; exact scan_end zs i b hlt
      go_wp2
      go_ret2
      exact ⟨.inr ⟨HH.out, b, rfl⟩, rfl⟩
end Go.Proofs.Qxb6613752aDoor
