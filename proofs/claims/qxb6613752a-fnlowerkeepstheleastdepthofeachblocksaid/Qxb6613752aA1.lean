/- Rows of uint16; the clone. -/
import Derived.Test.Qxb6613752aRows
import Derived.WalkKit
import Derived.WalkSpells
import Derived.WalkLawsBesides
import Derived.Deep.QuietTactic
import Derived.BigQuiet
namespace Go.Proofs.Qxb6613752a
open Go.RowKit

theorem Try.info24 : (Try.prog.info? 24).map (fun i => (i.zero, i.size, i.bytes)) = some (some (.int .u16 0), 1, 2) := by kernel_rfl

def BytesAt (w : World) (a : Option Addr) (zs : List Int) : Prop :=
  zs = [] ∨ ∃ b off, a = some ⟨b, off, none⟩ ∧ b < w.heap.size ∧ ∀ i (h : i < zs.length), w.cell? ⟨b, off + i, none⟩ = some (.int .u16 zs[i])

def Wf (zs : List Int) : Prop := ∀ z ∈ zs, 0 ≤ z ∧ z ≤ 65535

def vals (zs : List Int) : List Value := zs.map (Value.int .u16)
theorem vals_length (zs : List Int) : (vals zs).length = zs.length := by simp [vals]
def OwnB (w : World) (g cap : Nat) (zs : List Int) : Prop :=
  ∃ cur : List Value, w.heap[g]? = some (.cells cur.toArray 24 (0, 0)) ∧ cur.length = cap ∧ zs.length ≤ cap ∧ cur.take zs.length = vals zs

theorem OwnB.lt {w : World} {g cap : Nat} {zs : List Int} (h : OwnB w g cap zs) : g < w.heap.size := by
  obtain ⟨cur, hg, _⟩ := h
  exact (Array.getElem?_eq_some_iff.1 hg).1
theorem OwnB.le {w : World} {g cap : Nat} {zs : List Int} (h : OwnB w g cap zs) : zs.length ≤ cap := by obtain ⟨cur, _, _, h, _⟩ := h; exact h
theorem OwnB.below {w w' : World} {g cap B : Nat} {zs : List Int} (h : OwnB w g cap zs) (hb : Below B w w') (hg : g < B) : OwnB w' g cap zs := by
  obtain ⟨cur, hh, r⟩ := h
  exact ⟨cur, by rw [hb.block g hg]; exact hh, r⟩
theorem OwnB.bytes {w : World} {g cap : Nat} {zs : List Int} (h : OwnB w g cap zs) : BytesAt w (some ⟨g, 0, none⟩) zs := by
  have hl := h.lt
  obtain ⟨cur, hg, hc, hle, ht⟩ := h
  refine .inr ⟨g, 0, rfl, hl, fun i hi => ?_⟩
  rw [Nat.zero_add, cell_of_row w g i cur.toArray 24 (0, 0) hg]
  have := congrArg (fun l => l[i]?) ht
  simp only [List.getElem?_take, vals] at this
  rw [if_pos hi] at this
  simp [this, hi]
theorem OwnB.isSome {w : World} {g cap : Nat} {zs : List Int} (h : OwnB w g cap zs) (n : Nat) (hn : n < cap) : ∃ v, w.cell? ⟨g, n, none⟩ = some v := by
  obtain ⟨cur, hg, hc, hle, ht⟩ := h
  rw [cell_of_row w g n cur.toArray 24 (0, 0) hg]
  exact ⟨cur[n]'(by omega), by simp [hc, hn]⟩
theorem OwnB.frozen {w : World} {g cap : Nat} {zs : List Int} (h : OwnB w g cap zs) (n : Nat) : w.frozen? ⟨g, n, none⟩ = false := by
  obtain ⟨cur, hg, _⟩ := h
  exact frozen_of_row w g n cur.toArray 24 hg
/-- One byte more, behind those that stand. -/
theorem OwnB.push {w : World} {g cap : Nat} {zs : List Int} (h : OwnB w g cap zs) (hn : zs.length < cap) (z : Int) : OwnB (w.setCell ⟨g, zs.length, none⟩ (.int .u16 z)) g cap (zs ++ [z]) := by
  obtain ⟨cur, hg, hc, hle, ht⟩ := h
  refine ⟨cur.set zs.length (.int .u16 z), ?_, by simpa using hc, by simp; omega, ?_⟩
  · rw [heap_setCell_same w g zs.length cur.toArray 24 (.int .u16 z) hg]
    simp
  · rw [List.length_append, List.length_singleton, List.take_succ_eq_append_getElem (by simp; omega), List.take_set_of_le (Nat.le_refl _), ht]
    simp [vals]
/-- Bytes copied in behind those that stand. -/
theorem clone_nil (c : Nat) (w : World) :
    Calls Try.prog 6 #[.slice none 0 c] w fun e w' => e = .returned (.slice none 0 0) ∧ w' = w := by
  have hnil := fun w a n c => Lib.run_eql_slice_nil (P := Try.prog) w 22 24 a n c 0 0 Try.underlying22
  go_enter Try.func6, Try.ntmps6
  go_wp2
  go_ret
  exact ⟨rfl, rfl⟩

theorem ownB_of_owns {w : World} {base g n cap : Nat} {cs : List Value} (h : w.ownsRow base 24 1 (.slice (some ⟨g, 0, none⟩) n cap) n cs) : base ≤ g ∧ OwnB w g cap [] := by
  rcases h.2 with ⟨h', _⟩ | ⟨g', cap', cur, h', hb, hg, hnc, hcm, hcs, htake⟩
  · simp at h'
  · simp only [Value.slice.injEq, Option.some.injEq, Addr.mk.injEq, and_true, true_and] at h'
    obtain ⟨rfl, rfl⟩ := h'
    exact ⟨hb, cur.toList, by simpa using hg, by simpa using hcs, Nat.zero_le _, by simp [vals]⟩

set_option maxHeartbeats 400000 in
theorem clone_some (zs : List Int) (ad : Addr) (cap : Nat) (w : World) (hm : zs.length ≤ 10000000) (ho : BytesAt w (some ad) zs) :
    Calls Try.prog 6 #[.slice (some ad) zs.length cap] w fun e w' => e = .returned (.slice (some ⟨w.heap.size, 0, none⟩) zs.length zs.length) ∧ OwnB w' w.heap.size zs.length zs ∧ Below w.heap.size w w' := by
  have hnil := fun w a n c => Lib.run_eql_slice_nil (P := Try.prog) w 22 24 a n c 0 0 Try.underlying22
  obtain ⟨i0, hi, hz0, hz1, hz2⟩ := info_parts Try.info24
  have HO : Hid (BytesAt w (some ad) zs) := ho
  clear ho
  go_enter Try.func6, Try.ntmps6
  go_wp2_with (at_make; refine wpList_make_full _ rfl _ _ 22 rfl w.heap.size 24 i0 _ 1 Try.underlying22 hi hz0 hz1 .i64 .i64 zs.length zs.length zs.length rfl rfl rfl rfl ?c2 ?c3 ?c4 ?_)
  case c2 => rw [hz2]; omega
  case c3 => unfold maxLen; omega
  case c4 => simp
  intro w1 hown hgrow
  have hb1 : Below w.heap.size w w1 := (Below.refl w.heap.size w).grown hgrow (Nat.le_refl _) (by simp)
  have HO1 : Hid (OwnB w1 w.heap.size zs.length []) := (ownB_of_owns hown).2
  have HB1 : Hid (Below w.heap.size w w1) := hb1
  clear hown hgrow hb1 hi hz0 hz1 hz2 hnil
  go_wp2
  go_loopw [4] (fun s4 wr => ∃ k : Nat, k ≤ zs.length ∧ s4 = .int .i64 k ∧ OwnB wr w.heap.size zs.length (zs.take k) ∧ Below w.heap.size w wr) (fun s4 _ => zs.length - (RowKit.intOf s4).toNat)
  case atStart => exact ⟨0, Nat.zero_le _, rfl, by simpa using HO1.out, HB1.out⟩
  case round =>
    obtain ⟨k, hk, rfl, hown, hbel⟩ := hrel
    by_cases hlt : k < zs.length
    · rcases HO.out with hn | ⟨b, off, he, hb, hcs⟩
      · subst hn; simp at hlt
      · simp only [Option.some.injEq] at he
        subst he
        have c0 := hcs k hlt
        rw [← hbel.cell (p := ⟨b, off + k, none⟩) hb] at c0
        obtain ⟨ou, d0⟩ := hown.isSome k hlt
        have hfz := hown.frozen k
        have HOw : Hid (OwnB wr w.heap.size zs.length (zs.take k)) := hown
        have HB : Hid (Below w.heap.size w wr) := hbel
        clear hcs hown hbel
        obtain ⟨u, hu⟩ : ∃ u, u = zs[k] := ⟨_, rfl⟩
        rw [← hu] at c0
        have HU : Hid (u = zs[k]) := hu
        clear hu
        go_wp2
        go_roundw
        case rel =>
          refine ⟨k + 1, by omega, by go_num, ?_, HB.out.setCell (Nat.le_refl _) _⟩
          have := HOw.out.push (by simp; omega) u
          rw [show (zs.take k).length = k by simp; omega] at this
          rw [List.take_succ_eq_append_getElem hlt, ← HU.out]
          exact this
        case measure => simp [RowKit.intOf]; omega
    · obtain rfl : k = zs.length := by omega
      go_wp2
      go_ret
      exact ⟨rfl, by simpa using hown, hbel⟩


end Go.Proofs.Qxb6613752a
