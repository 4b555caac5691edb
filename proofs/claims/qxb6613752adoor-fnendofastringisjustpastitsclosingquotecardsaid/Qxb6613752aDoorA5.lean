/- The walk of closingQuote. -/
import Derived.Test.Qxb6613752aDoorA4
namespace Go.Proofs.Qxb6613752aDoor
open Go.RowKit

theorem some_inj {i q : Nat} {e b : Bool} (h : some (i, e) = some (q, b)) : q = i ∧ b = e := by
  simp only [Option.some.injEq, Prod.mk.injEq] at h
  exact ⟨h.1.symm, h.2.symm⟩

theorem word_cells {w : World} {g : Nat} {zs : List Int} (h : CellsAt w g zs) (i : Nat) : ∀ j, j < (zs.drop i).length → w.cell? ((⟨g, i, none⟩ : Addr).add j) = some (.int .u8 ((zs.drop i).getD j 0)) := by
  intro j hj
  have had : (⟨g, i, none⟩ : Addr).add j = ⟨g, i + j, none⟩ := by unfold Addr.add; split <;> simp_all
  rw [had, h.cell (i + j) (by simp at hj; omega)]
  simp [List.getD]

theorem word_lit {zs : List Int} (h : Wf8 zs) (i : Nat) : ∀ z ∈ zs.drop i, (Lit.int .u8 z).wf = true := by
  intro z hz
  have := h z (List.mem_of_mem_drop hz)
  show (decide ((0 : Int) ≤ z) && decide (z ≤ (255 : Int))) = true
  simp
  omega

theorem word_any (g i : Nat) (zs : List Int) (w : World) (hc : CellsAt w g zs) (hw : Wf8 zs) (h8 : i + 8 ≤ zs.length) :
    Calls Tryd.prog 32 #[.agg #[], .slice (some ⟨g, i, none⟩) (zs.length - i) (zs.length - i)] w.drew fun e w' => e = .returned (.int .u64 (val (word zs i) : Nat)) ∧ Below w.heap.size w w' := by
  have hc' : CellsAt w.drew g zs := ⟨hc.lt, hc.cell⟩
  have hlen : 8 ≤ (zs.drop i).length := by simp; omega
  refine (uint64_any ⟨g, i, none⟩ (zs.length - i) (zs.length - i) (zs.drop i) w.drew (by omega) hlen (word_cells hc' i) (word_lit hw i)).mono ?_
  rintro e w' ⟨rfl, hb⟩
  refine ⟨?_, (Below.refl _ w).drew.trans hb⟩
  rw [word_val zs i hw]

theorem TabAt.below {w w' : World} {B : Nat} (h : TabAt 1 Lib.deBruijn64tab w) (hb : Below B w w') (h1 : 1 < B) : TabAt 1 Lib.deBruijn64tab w' := by
  intro j hj
  rw [hb.cell (p := ⟨1, j, none⟩) h1]
  exact h j hj

set_option maxRecDepth 100000 in
set_option maxHeartbeats 2000000 in
theorem closing_any (g o q : Nat) (b : Bool) (zs : List Int) (w : World) (hl : zs.length ≤ 1048576) (ho : o < zs.length) (hw : Wf8 zs) (hc : CellsAt w g zs) (h1w : 1 < w.heap.size) (hT : TabAt 1 Lib.deBruijn64tab w) (hs : scan zs (o + 1) false = some (q, b)) :
    Calls Tryd.prog 25 #[.slice (some ⟨g, 0, none⟩) zs.length zs.length, .int .i64 (o : Int)] w fun e w' => e = .returned (.tuple #[.int .i64 (q : Int), .bool b]) ∧ Below w.heap.size w w' := by
  have HC : Hid (CellsAt w g zs) := hc
  have HT : Hid (TabAt 1 Lib.deBruijn64tab w) := hT
  have HS : Hid (scan zs (o + 1) false = some (q, b)) := hs
  have HW : Hid (Wf8 zs) := hw
  clear hc hT hs hw
  go_enter Tryd.func25, Tryd.ntmps25
  go_wp2
  go_loopw [6, 7] (fun s6 s7 wr => ∃ (i : Nat) (e : Bool), s6 = .bool e ∧ s7 = .int .i64 i ∧ i ≤ zs.length + 1 ∧ Below w.heap.size w wr ∧ scan zs i e = some (q, b)) (fun _ s7 _ => zs.length + 2 - (intOf s7).toNat)
  case atStart => exact ⟨o + 1, false, rfl, by go_num, by omega, Below.refl _ _, HS.out⟩
  case round =>
    obtain ⟨i0, e, rfl, rfl, hi0, hb0, hs0⟩ := hrel
    have HB0 : Hid (Below w.heap.size w wr) := hb0
    have HS0 : Hid (scan zs i0 e = some (q, b)) := hs0
    clear hb0 hs0
    go_wp2
    go_loopw [7] (fun s7 wr => ∃ (i : Nat), s7 = .int .i64 i ∧ i0 ≤ i ∧ i ≤ zs.length + 1 ∧ Below w.heap.size w wr ∧ scan zs i e = some (q, b)) (fun s7 _ => zs.length + 2 - (intOf s7).toNat)
    case atStart => exact ⟨i0, rfl, Nat.le_refl _, hi0, HB0.out, HS0.out⟩
    case round =>
      obtain ⟨i, rfl, hi1, hi2, hb, hs⟩ := hrel
      have HB : Hid (Below w.heap.size w wr) := hb
      have HS1 : Hid (scan zs i e = some (q, b)) := hs
      have HCr : Hid (CellsAt wr g zs) := HC.out.below hb
      have HTr : Hid (TabAt 1 Lib.deBruijn64tab wr) := TabAt.below HT.out hb h1w
      clear hb hs
      by_cases h8 : i + 8 ≤ zs.length
      · have b0 : (0 : Int) ≤ (i : Int) := by omega
        have hne : ¬ zs.length = i := by omega
        have b1 : (i : Int) ≤ (zs.length : Int) := by omega
        have k8 : decide ((i : Int) + 8 ≤ (zs.length : Int)) = true := by simp; omega
        obtain ⟨m, hm⟩ : ∃ m, m = U (word zs i) := ⟨_, rfl⟩
        have hq := quote_val (word zs i) (word_len zs i h8) (word_bytes zs i HW.out)
        rw [← hm] at hq
        have HQ : Hid _ := hq.1
        have hmlt := hq.2
        have HM : Hid (m = U (word zs i)) := hm
        clear hq hm
        go_wp2_with fail
        go_region_held3 (fun _ => True) (trivial) (first | (go_at_call 32; refine (word_any g i zs wr HCr.out HW.out h8).mono ?_; rintro e1 w2 ⟨rfl, hb2⟩) | (go_at_call 31; refine (quote_any _ _).mono ?_; rintro e1 w3 ⟨rfl, hx⟩; obtain rfl := hx.symm; rw [HQ.out]))
        have HB2 : Hid (Below w.heap.size w w2) := HB.out.trans (hb2.mono HB.out.size)
        clear hb2
        by_cases h0 : m = 0
        · have k9 : ((m : Int) != 0) = false := by simp [h0]
          have HS2 : Hid (scan zs (i + 8) e = some (q, b)) := by rw [Hid, ← HS1.out]; exact (scan_word zs i e HW.out h8 (by rw [← HM.out]; exact h0)).symm
          clear h0
          go_wp2
          go_roundw
          case rel => exact ⟨i + 8, by go_num, by omega, by omega, HB2.out, HS2.out⟩
          case measure => simp [intOf]; omega
        · have k9 : ((m : Int) != 0) = true := by simp [h0]
          have hf := scan_first zs i e HW.out h8 (by rw [← HM.out]; exact h0)
          rw [← HM.out] at hf
          obtain ⟨p, hp⟩ : ∃ p, p = Lib.ctz 64 m / 8 := ⟨_, rfl⟩
          rw [← hp] at hf
          have HP : Hid (Lib.ctz 64 m / 8 = p) := hp.symm
          have hp8 := hf.1
          have HS2 : Hid (scan zs (i + p) e = some (q, b)) := by rw [Hid, ← HS1.out]; exact hf.2.symm
          have HT2 : Hid (TabAt 1 Lib.deBruijn64tab w2) := TabAt.below HT.out HB2.out h1w
          have HF : Hid (∀ w, TabAt 1 Lib.deBruijn64tab w → Calls Tryd.prog 33 #[.int .u64 m] w fun e w' => e = .returned (.int .i64 (p : Int)) ∧ w' = w) := by
            intro w hT
            rw [hp]
            exact first_any m hmlt h0 w hT
          clear h0 hf hp
          go_wp2_with (go_at_call 33; refine (HF.out _ HT2.out).mono ?_; rintro e1 wx ⟨rfl, hx⟩; obtain rfl := hx.symm)
          go_loopw [7] (fun s7 wr => ∃ (i : Nat), s7 = .int .i64 i ∧ i0 ≤ i ∧ i ≤ zs.length + 1 ∧ Below w.heap.size w wr ∧ scan zs i e = some (q, b)) (fun s7 _ => zs.length + 2 - (intOf s7).toNat)
          case atStart => exact ⟨i + p, by go_num, by omega, by omega, HB2.out, HS2.out⟩
          case round =>
            obtain ⟨i, rfl, hi1, hi2, hb, hs⟩ := hrel
            have HB : Hid (Below w.heap.size w wr) := hb
            have HS1 : Hid (scan zs i e = some (q, b)) := hs
            have hlt : i < zs.length := by
              by_cases h : i < zs.length
              · exact h
              · rw [scan_end zs i e h] at hs; cases hs
            have c0 := (HC.out.below hb).cell i hlt
            obtain ⟨z, hz⟩ : ∃ z, z = zs.getD i 0 := ⟨_, rfl⟩
            rw [← hz] at c0
            have HZ : Hid (z = zs.getD i 0) := hz
            clear hz hb hs
            by_cases h1 : z = 34
            · have k1 : (z == 34) = true := by simp [h1]
              have k1' : (z != 34) = false := by simp [h1]
              have hh := some_inj ((scan_quote zs i e hlt (by rw [← HZ.out]; exact h1)).symm.trans HS1.out)
              have HH : Hid (q = i ∧ b = e) := hh
              clear h1 hh
              go_wp2
              go_ret2
              obtain ⟨rfl, rfl⟩ := HH.out
              exact ⟨rfl, HB.out⟩
            · have k1 : (z == 34) = false := by simp [h1]
              have k1' : (z != 34) = true := by simp [h1]
              by_cases h2 : z = 92
              · have k2 : (z != 92) = false := by simp [h2]
                have HH : Hid (scan zs (i + 2) true = some (q, b)) := by rw [Hid, ← HS1.out]; exact (scan_esc zs i e hlt (by rw [← HZ.out]; exact h2)).symm
                clear h1 h2
                go_wp2
                go_roundw
                case rel => exact ⟨i + 2, true, rfl, by go_num, by omega, HB.out, HH.out⟩
                case measure => simp [intOf]; omega
              · have k2 : (z != 92) = true := by simp [h2]
                have HH : Hid (scan zs (i + 1) e = some (q, b)) := by rw [Hid, ← HS1.out]; exact (scan_plain zs i e hlt (by rw [← HZ.out]; exact h1) (by rw [← HZ.out]; exact h2)).symm
                clear h1 h2
                go_wp2
                go_roundw
                case rel => exact ⟨i + 1, by go_num, by omega, by omega, HB.out, HH.out⟩
                case measure => simp [intOf]; omega
      · have k8 : decide ((i : Int) + 8 ≤ (zs.length : Int)) = false := by simp; omega
        go_wp2
        go_loopw [7] (fun s7 wr => ∃ (i : Nat), s7 = .int .i64 i ∧ i0 ≤ i ∧ i ≤ zs.length + 1 ∧ Below w.heap.size w wr ∧ scan zs i e = some (q, b)) (fun s7 _ => zs.length + 2 - (intOf s7).toNat)
        case atStart => exact ⟨i, by go_num, by omega, by omega, HB.out, HS1.out⟩
        case round =>
          obtain ⟨i, rfl, hi1, hi2, hb, hs⟩ := hrel
          have HB : Hid (Below w.heap.size w wr) := hb
          have HS1 : Hid (scan zs i e = some (q, b)) := hs
          have hlt : i < zs.length := by
            by_cases h : i < zs.length
            · exact h
            · rw [scan_end zs i e h] at hs; cases hs
          have c0 := (HC.out.below hb).cell i hlt
          obtain ⟨z, hz⟩ : ∃ z, z = zs.getD i 0 := ⟨_, rfl⟩
          rw [← hz] at c0
          have HZ : Hid (z = zs.getD i 0) := hz
          clear hz hb hs
          by_cases h1 : z = 34
          · have k1 : (z == 34) = true := by simp [h1]
            have k1' : (z != 34) = false := by simp [h1]
            have hh := some_inj ((scan_quote zs i e hlt (by rw [← HZ.out]; exact h1)).symm.trans HS1.out)
            have HH : Hid (q = i ∧ b = e) := hh
            clear h1 hh
            go_wp2
            go_ret2
            obtain ⟨rfl, rfl⟩ := HH.out
            exact ⟨rfl, HB.out⟩
          · have k1 : (z == 34) = false := by simp [h1]
            have k1' : (z != 34) = true := by simp [h1]
            by_cases h2 : z = 92
            · have k2 : (z != 92) = false := by simp [h2]
              have HH : Hid (scan zs (i + 2) true = some (q, b)) := by rw [Hid, ← HS1.out]; exact (scan_esc zs i e hlt (by rw [← HZ.out]; exact h2)).symm
              clear h1 h2
              go_wp2
              go_roundw
              case rel => exact ⟨i + 2, true, rfl, by go_num, by omega, HB.out, HH.out⟩
              case measure => simp [intOf]; omega
            · have k2 : (z != 92) = true := by simp [h2]
              have HH : Hid (scan zs (i + 1) e = some (q, b)) := by rw [Hid, ← HS1.out]; exact (scan_plain zs i e hlt (by rw [← HZ.out]; exact h1) (by rw [← HZ.out]; exact h2)).symm
              clear h1 h2
              go_wp2
              go_roundw
              case rel => exact ⟨i + 1, by go_num, by omega, by omega, HB.out, HH.out⟩
              case measure => simp [intOf]; omega
end Go.Proofs.Qxb6613752aDoor
