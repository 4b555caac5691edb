/- FnStartMarkFlipsOnlyTheFlag: the walk. -/
import Derived.Test.Qxb6613752aA2
namespace Go.Proofs.Qxb6613752a
open Go.RowKit

def IsBool (e : Ending) : Prop := ∃ r, e = .returned (.bool r)

theorem bytes5_any (a : Option Addr) (n cap : Nat) (t : Int) (w : World) (hn : n ≤ 9223372036854775807) :
    Calls Try.prog 5 #[.slice a n cap, .int .i64 t] w fun e w' => IsBool e ∧ w' = w := by
  go_enter Try.func5, Try.ntmps5
  go_wp2
  all_goals (go_ret; exact ⟨⟨_, rfl⟩, rfl⟩)

theorem OwnB.cell {w : World} {g cap : Nat} {zs : List Int} (h : OwnB w g cap zs) (i : Nat) (hi : i < zs.length) : w.cell? ⟨g, i, none⟩ = some (.int .u16 zs[i]) := by
  rcases h.bytes with hn | ⟨b, off, hb, _, hc⟩
  · rw [hn] at hi; simp at hi
  · simp only [Option.some.injEq, Addr.mk.injEq, and_true] at hb
    obtain ⟨rfl, rfl⟩ := hb
    have := hc i hi
    rwa [Nat.zero_add] at this

set_option maxRecDepth 100000 in
set_option maxHeartbeats 2000000 in
theorem top3_any (zs : List Int) (a : Option Addr) (cap : Nat) (t : Int) (w : World) (hl : zs.length ≤ 9223372036854775807) (hwf : Wf zs) (hn : a = none → zs.length = 0) (ho : BytesAt w a zs) :
    Calls Try.prog 3 #[.slice a zs.length cap, .int .i64 t] w fun e w' => e = .returned (.bool true) ∧ Below w.heap.size w w' := by
  by_cases ht0 : t < 0
  · have d1 : decide (t < 0) = true := by simpa using ht0
    go_enter Try.func3, Try.ntmps3
    go_wp2_with (go_at_call 5; refine (bytes5_any a zs.length cap t _ hl).mono ?_; rintro e wx ⟨⟨r, rfl⟩, hw⟩; obtain rfl := hw.symm; cases r)
    all_goals (go_ret; exact ⟨rfl, Below.refl _ _⟩)
  have d1 : decide (t < 0) = false := by simpa using ht0
  by_cases ht1 : (zs.length : Int) ≤ t
  · have d2 : decide ((zs.length : Int) ≤ t) = true := by simpa using ht1
    go_enter Try.func3, Try.ntmps3
    go_wp2_with (go_at_call 5; refine (bytes5_any a zs.length cap t _ hl).mono ?_; rintro e wx ⟨⟨r, rfl⟩, hw⟩; obtain rfl := hw.symm; cases r)
    all_goals (go_ret; exact ⟨rfl, Below.refl _ _⟩)
  obtain ⟨b, rfl⟩ : ∃ b : Nat, t = (b : Int) := ⟨t.toNat, by omega⟩
  have hb : b < zs.length := by omega
  have d2 : decide ((zs.length : Int) ≤ (b : Int)) = false := by simp; omega
  have d3 : decide (zs.length ≤ b) = false := by simp; omega
  rcases ho with hnn | ⟨sb, so, rfl, hsb, hcs⟩
  · rw [hnn] at hb; simp at hb
  have HO : Hid (BytesAt w (some ⟨sb, so, none⟩) zs) := .inr ⟨sb, so, rfl, hsb, hcs⟩
  obtain ⟨e, he⟩ : ∃ e : Nat, zs[b] = (e : Int) := ⟨zs[b].toNat, by have := (hwf zs[b] (by simp)).1; omega⟩
  have he1 : e < 65536 := by have := (hwf zs[b] (by simp)).2; omega
  have c0 := hcs b hb
  rw [he] at c0
  have HE : Hid (zs[b] = (e : Int)) := he
  clear hcs he hwf hn ht0 ht1
  by_cases hbig : 65536 < zs.length
  · go_enter Try.func3, Try.ntmps3
    go_wp2_with (go_at_call 5; refine (bytes5_any _ zs.length cap b _ hl).mono ?_; rintro e wx ⟨⟨r, rfl⟩, hw⟩; obtain rfl := hw.symm; cases r)
    all_goals (go_ret; exact ⟨rfl, Below.refl _ _⟩)
  have hi : (b : Int) < (zs.length : Int) := by omega
  go_enter Try.func3, Try.ntmps3
  go_wp2_with (go_at_call 5; refine (bytes5_any _ zs.length cap b _ hl).mono ?_; rintro e wx ⟨⟨r, rfl⟩, hw⟩; obtain rfl := hw.symm; cases r)
  · go_ret
    exact ⟨rfl, Below.refl _ _⟩
  refine (clone_some zs ⟨sb, so, none⟩ cap _ (by omega) HO.out).mono ?_
  rintro r w1 ⟨rfl, ho1, hb1⟩
  have O1 : Hid (OwnB w1 w.heap.size zs.length zs) := ho1
  have B1 : Hid (Below w.heap.size w w1) := hb1
  clear ho1 hb1
  go_wp2_with fail
  refine (clone_some zs ⟨w.heap.size, 0, none⟩ zs.length _ (by omega) O1.out.bytes).mono ?_
  rintro r w2 ⟨rfl, ho2, hb2⟩
  have O2 : Hid (OwnB w2 w1.heap.size zs.length zs) := ho2
  have P2 : Hid (OwnB w2 w.heap.size zs.length zs) := O1.out.below hb2 O1.out.lt
  have B2 : Hid (Below w.heap.size w w2) := B1.out.trans (hb2.mono B1.out.size)
  have f0 : w2.cell? ⟨w1.heap.size, b, none⟩ = some (.int .u16 e) := by rw [ho2.cell b hb, HE.out]
  have fz := ho2.frozen b
  have g0 : w2.cell? ⟨w.heap.size, b, none⟩ = some (.int .u16 e) := by rw [P2.out.cell b hb, HE.out]
  have hne : w1.heap.size ≠ w.heap.size := by have := O1.out.lt; omega
  clear ho2 hb2
  go_wp2_with fail
  rw [bits_xor16 he1]
  obtain ⟨e2, he2⟩ : ∃ e2 : Nat, (e + 32768) % 65536 = e2 := ⟨_, rfl⟩
  rw [he2]
  obtain ⟨W, hW⟩ : ∃ W, W = w2.setCell ⟨w1.heap.size, b, none⟩ (.int .u16 e2) := ⟨_, rfl⟩
  rw [← hW]
  have hsz : W.heap.size = w2.heap.size := by rw [hW]; simp
  have q0 : W.cell? ⟨w.heap.size, b, none⟩ = some (.int .u16 e) := by rw [hW, World.cell?_of_block (w := w2) (Below.heap_setCell _ _ _ _ (Ne.symm hne))]; exact g0
  have q1 : W.cell? ⟨w1.heap.size, b, none⟩ = some (.int .u16 e2) := by rw [hW]; exact World.cell?_setCell_same' _ _ _ (by rw [f0]; rfl)
  have BW : Hid (Below w.heap.size w W) := by
    show Below w.heap.size w W
    rw [hW]
    exact B2.out.setCell (p := ⟨w1.heap.size, b, none⟩) B1.out.size _
  have l1 : w.heap.size < W.heap.size := by rw [hsz]; exact P2.out.lt
  have l2 : w1.heap.size < W.heap.size := by rw [hsz]; exact O2.out.lt
  clear hW f0 g0 fz c0 hsz
  obtain ⟨d, hd⟩ : ∃ d : Nat, e % 32768 = d := ⟨_, rfl⟩
  have hd2 : e2 % 32768 = d := by omega
  have hdl : d < 32768 := by omega
  have he2l : e2 < 65536 := by omega
  have HD : Hid (e % 32768 = d) := hd
  have HD2 : Hid (e2 % 32768 = d) := hd2
  have HE2 : Hid ((e + 32768) % 65536 = e2) := he2
  clear hd hd2 he2
  refine (newIndex_any _ _ _ _ ⟨_, _, _, rfl⟩ ⟨_, _, _, rfl⟩ ⟨_, rfl⟩).mono ?_
  rintro r w4 ⟨rfl, h4⟩
  have b4 : Below W.heap.size W w4 := by rw [h4]; exact (Below.refl _ _).alloc (Nat.le_refl _) _
  have x4 : w4.cell? ⟨W.heap.size, 0, none⟩ = some (.slice (some ⟨w.heap.size, 0, none⟩) zs.length zs.length) := by rw [h4, cell_of_row _ W.heap.size 0 _ 39 (0, 0) (heap_alloc_new W _)]; rfl
  have y4 : w4.cell? ⟨w.heap.size, b, none⟩ = some (.int .u16 e) := by rw [b4.cell (p := ⟨w.heap.size, b, none⟩) l1]; exact q0
  have z4 : w4.cell? ⟨w1.heap.size, b, none⟩ = some (.int .u16 e2) := by rw [b4.cell (p := ⟨w1.heap.size, b, none⟩) l2]; exact q1
  have l4 : w1.heap.size < w4.heap.size := Nat.lt_of_lt_of_le l2 b4.size
  have B4 : Hid (Below w.heap.size w w4) := BW.out.trans (b4.mono (Nat.le_of_lt l1))
  have X4 : Hid (w4.cell? ⟨W.heap.size, 0, none⟩ = some (.slice (some ⟨w.heap.size, 0, none⟩) zs.length zs.length)) := x4
  have Y4 : Hid (w4.cell? ⟨w.heap.size, b, none⟩ = some (.int .u16 e)) := y4
  have Z4 : Hid (w4.cell? ⟨w1.heap.size, b, none⟩ = some (.int .u16 e2)) := z4
  clear h4 b4 x4 y4 z4 q0 q1
  by_cases hf : 32768 ≤ e
  all_goals
    obtain ⟨f, hf1⟩ : ∃ f, decide (32768 ≤ e) = f := ⟨_, rfl⟩
    obtain ⟨f', hf2⟩ : ∃ f, decide (32768 ≤ e2) = f := ⟨_, rfl⟩
    have HF1 : Hid (decide (32768 ≤ e) = f) := hf1
    have HF2 : Hid (decide (32768 ≤ e2) = f') := hf2
    have hff : f = decide (32768 ≤ e) ∧ f' = !f := by
      refine ⟨hf1.symm, ?_⟩
      have := HE2.out
      rw [← hf1, ← hf2, Bool.eq_iff_iff]
      simp
      omega
    clear hf1 hf2
    simp only [hf, decide_true, decide_false] at hff
    obtain ⟨rfl, rfl⟩ := hff
    go_wp2_with fail
    refine (zzStart_any W.heap.size w.heap.size zs.length zs.length b e _ X4.out Y4.out hb (by omega) he1 d _ HD.out HF1.out).mono ?_
    rintro r w5 ⟨rfl, q5, rfl⟩
    go_wp2_with fail
    refine (newIndex_any _ _ _ _ ⟨_, _, _, rfl⟩ ⟨_, _, _, rfl⟩ ⟨_, rfl⟩).mono ?_
    rintro r w6 ⟨rfl, h6⟩
    have b6 : Below w4.heap.size w4 w6 := by rw [h6]; exact (show Below w4.heap.size w4 (w4.drewN q5) from ⟨rfl, rfl, rfl, Nat.le_refl _, fun _ _ => rfl⟩).alloc (Nat.le_refl _) _
    have x6 : w6.cell? ⟨w4.heap.size, 0, none⟩ = some (.slice (some ⟨w1.heap.size, 0, none⟩) zs.length zs.length) := by rw [h6]; exact (cell_of_row _ w4.heap.size 0 _ 39 (0, 0) (heap_alloc_new (w4.drewN q5) _))
    have z6 : w6.cell? ⟨w1.heap.size, b, none⟩ = some (.int .u16 e2) := by rw [b6.cell (p := ⟨w1.heap.size, b, none⟩) l4]; exact Z4.out
    have X6 : Hid (w6.cell? ⟨w4.heap.size, 0, none⟩ = some (.slice (some ⟨w1.heap.size, 0, none⟩) zs.length zs.length)) := x6
    have Z6 : Hid (w6.cell? ⟨w1.heap.size, b, none⟩ = some (.int .u16 e2)) := z6
    have B6 : Hid (Below w.heap.size w w6) := B4.out.trans (b6.mono B4.out.size)
    clear h6 b6 x6 z6
    go_wp2_with fail
    refine (zzStart_any w4.heap.size w1.heap.size zs.length zs.length b e2 _ X6.out Z6.out hb (by omega) he2l d _ HD2.out HF2.out).mono ?_
    rintro r w7 ⟨rfl, q7, rfl⟩
  · have hx : (d : Int) + 32768 = (e : Int) := by have := HD.out; omega
    have k1 : ((d : Int) + 32768 == (e : Int)) = true := by simp [hx]
    have k3 : decide ((d : Int) < 32768) = true := by simp; omega
    have k4 : decide (d < 32768) = true := by simp; omega
    clear hx
    go_wp2
    all_goals (go_ret; refine ⟨?_, B6.out.trans ⟨rfl, rfl, rfl, Nat.le_refl _, fun _ _ => rfl⟩⟩)
    all_goals first | rfl | (have := HD.out; simp; omega)
  · have hx : (d : Int) = (e : Int) := by have := HD.out; omega
    have k1 : ((d : Int) == (e : Int)) = true := by simp [hx]
    have k3 : decide ((d : Int) < 32768) = true := by simp; omega
    have k4 : decide (d < 32768) = true := by simp; omega
    clear hx
    go_wp2
    all_goals (go_ret; refine ⟨?_, B6.out.trans ⟨rfl, rfl, rfl, Nat.le_refl _, fun _ _ => rfl⟩⟩)
    all_goals first | rfl | (have := HD.out; simp; omega)
end Go.Proofs.Qxb6613752a
