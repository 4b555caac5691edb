/- FnLowerKeepsTheLeastDepthOfEachBlock: the walk. -/
import Derived.Test.Qxb6613752aB1
namespace Go.Proofs.Qxb6613752a
open Go.RowKit

set_option maxRecDepth 100000 in
set_option maxHeartbeats 2000000 in
theorem top4_any (zs os ds : List Int) (a ao ad : Option Addr) (cap co cd : Nat) (w : World) (hl : zs.length ≤ 9223372036854775807) (hlo : os.length ≤ 9223372036854775807) (hld : ds.length ≤ 9223372036854775807)
    (hwf : Wf zs) (hn : a = none → zs.length = 0) (ho : BytesAt w a zs) (hio : IntsAt w ao os) (hid : IntsAt w ad ds) (hwo : Wf64 os) :
    Calls Try.prog 4 #[.slice a zs.length cap, .slice ao os.length co, .slice ad ds.length cd] w fun e w' => e = .returned (.bool true) ∧ Below w.heap.size w w' := by
  have HO : Hid (BytesAt w a zs) := ho
  have HN : Hid (a = none → zs.length = 0) := hn
  have HI : Hid (IntsAt w ao os) := hio
  have HD : Hid (IntsAt w ad ds) := hid
  have HW : Hid (Wf zs) := hwf
  have HWo : Hid (Wf64 os) := hwo
  clear ho hn hio hid hwf hwo
  go_enter Try.func4, Try.ntmps4
  go_wp2_with fail
  refine (bytes9_any a ao ad zs.length cap os.length co ds.length cd _ hl hlo hld).mono ?_
  rintro e wx ⟨⟨r, rfl⟩, hx⟩
  obtain rfl := hx.symm
  cases r
  · go_wp2
    go_ret
    exact ⟨rfl, Below.refl _ _⟩
  by_cases hz : 4096 < zs.length
  · have k1 : decide ((4096 : Int) < (zs.length : Int)) = true := by simp; omega
    go_wp2
    go_ret
    exact ⟨rfl, Below.refl _ _⟩
  have k1 : decide ((4096 : Int) < (zs.length : Int)) = false := by simp; omega
  by_cases hz2 : 4096 < os.length
  · have k2 : decide ((4096 : Int) < (os.length : Int)) = true := by simp; omega
    go_wp2
    go_ret
    exact ⟨rfl, Below.refl _ _⟩
  have k2 : decide ((4096 : Int) < (os.length : Int)) = false := by simp; omega
  by_cases hz3 : 4096 < ds.length
  · have k3 : decide ((4096 : Int) < (ds.length : Int)) = true := by simp; omega
    go_wp2
    go_ret
    exact ⟨rfl, Below.refl _ _⟩
  have k3 : decide ((4096 : Int) < (ds.length : Int)) = false := by simp; omega
  by_cases hz4 : os.length = ds.length
  case neg =>
    have k4 : ((os.length : Int) != (ds.length : Int)) = true := by simp; omega
    go_wp2
    go_ret
    exact ⟨rfl, Below.refl _ _⟩
  have k4 : ((os.length : Int) != (ds.length : Int)) = false := by simp [hz4]
  have HZ : Hid (os.length = ds.length) := hz4
  clear hz4
  go_wp2_with fail
  refine (clone_any zs a cap _ (by omega) HN.out HO.out).mono ?_
  rintro e w1 ⟨a1, rfl, hp1, hy1, hn1, hb1⟩
  have B1 : Hid (Below w.heap.size w w1) := hb1
  have P1 : Hid (0 < zs.length → a1 = some ⟨w.heap.size, 0, none⟩ ∧ OwnB w1 w.heap.size zs.length zs) := hp1
  have Y1 : Hid (BytesAt w1 a1 zs) := hy1
  have N1 : Hid (a1 = none → zs.length = 0) := hn1
  clear hp1 hy1 hn1 hb1
  go_wp2_with fail
  refine (clone_any zs a1 zs.length _ (by omega) N1.out Y1.out).mono ?_
  rintro e w2 ⟨a2, rfl, hp2, -, -, hb2⟩
  have Y2 : Hid (BytesAt w2 a1 zs) := Y1.out.below hb2
  have P2 : Hid (0 < zs.length → a2 = some ⟨w1.heap.size, 0, none⟩ ∧ OwnB w2 w1.heap.size zs.length zs) := hp2
  have B2 : Hid (Below w1.heap.size w1 w2) := hb2
  clear hp2 hb2
  go_wp2_with fail
  refine (clone_any zs a1 zs.length _ (by omega) N1.out Y2.out).mono ?_
  rintro e w3 ⟨a3, rfl, hp3, -, -, hb3⟩
  have P3 : Hid (0 < zs.length → a3 = some ⟨w2.heap.size, 0, none⟩ ∧ OwnB w3 w2.heap.size zs.length zs) := hp3
  have B3 : Hid (Below w2.heap.size w2 w3) := hb3
  clear hp3 hb3
  go_wp2_with fail
  refine (newIndex_any _ _ _ _ ⟨_, _, _, rfl⟩ ⟨_, _, _, rfl⟩ ⟨_, rfl⟩).mono ?_
  rintro r w4 ⟨rfl, h4⟩
  have H4 : Hid _ := h4
  clear h4
  go_wp2_with fail
  refine (newIndex_any _ _ _ _ ⟨_, _, _, rfl⟩ ⟨_, _, _, rfl⟩ ⟨_, rfl⟩).mono ?_
  rintro r w5 ⟨rfl, h5⟩
  have H5 : Hid _ := h5
  clear h5
  go_wp2_with fail
  have R5 : Hid (Rg w w5 zs a1 a2 a3 (w3.heap.size + 1) w3.heap.size (w4.heap.size + 1) w4.heap.size w.heap.size w1.heap.size w2.heap.size [] []) := Rg.start B1.out B2.out B3.out P1.out P2.out P3.out H4.out H5.out
  have g12 : 0 < zs.length → w.heap.size < w1.heap.size := fun h => (P1.out h).2.lt
  have g23 : 0 < zs.length → w1.heap.size < w2.heap.size := fun h => (P2.out h).2.lt
  have G12 : Hid (0 < zs.length → w.heap.size < w1.heap.size) := g12
  have G23 : Hid (0 < zs.length → w1.heap.size < w2.heap.size) := g23
  clear g12 g23 P1 P2 P3 H4 H5 B1 B2 B3 Y1 Y2 N1
  generalize w3.heap.size = l1 at *
  generalize w4.heap.size = l2 at *
  generalize w1.heap.size = gf at *
  generalize w2.heap.size = gr at *
  go_loopw [12] (fun s12 wr => ∃ j : Nat, j ≤ os.length ∧ s12 = .int .i64 j ∧ Rg w wr zs a1 a2 a3 (l1 + 1) l1 (l2 + 1) l2 w.heap.size gf gr ((os.zip ds).take j) []) (fun s12 _ => os.length - (intOf s12).toNat)
  case atStart => exact ⟨0, Nat.zero_le _, rfl, by simpa using R5.out⟩
  case round =>
    obtain ⟨j, hj, rfl, hR⟩ := hrel
    by_cases hlt : j < os.length
    · have hlt2 : j < ds.length := by rw [← HZ.out]; exact hlt
      have HT : Hid ((os.zip ds).take (j + 1) = (os.zip ds).take j ++ [(os[j], ds[j])]) := zip_take os ds j hlt hlt2
      rcases HI.out with hn | ⟨bo, oo, rfl, hbo, hco⟩
      · subst hn; simp at hlt
      rcases HD.out with hn | ⟨bd, od, rfl, hbd, hcd⟩
      · subst hn; simp at hlt2
      have c0 := hco j hlt
      have d0 := hcd j hlt2
      rw [← hR.bel.cell (p := ⟨bo, oo + j, none⟩) hbo] at c0
      rw [← hR.bel.cell (p := ⟨bd, od + j, none⟩) hbd] at d0
      have hu := HWo.out os[j] (by simp)
      have HR : Hid (Rg w wr zs a1 a2 a3 (l1 + 1) l1 (l2 + 1) l2 w.heap.size gf gr ((os.zip ds).take j) []) := hR
      clear hR hco hcd
      generalize os[j] = u at *
      generalize ds[j] = v at *
      cases hb : inB u zs.length
      · have HB : Hid (inB u zs.length = false) := hb
        clear hb
        go_wp2_with (go_at_call 10; refine (inBlocks_any u zs.length _ hu.1 hu.2).mono ?_; rintro e wx ⟨rfl, hx⟩; obtain rfl := hx.symm; rw [HB.out])
        go_roundw
        case rel => exact ⟨j + 1, by omega, by go_num, by rw [HT.out]; exact HR.out.skip1 (u, v) HB.out⟩
        case measure => simp [intOf]; omega
      · have HB : Hid (inB u zs.length = true) := hb
        clear hb
        go_wp2_with (go_at_call 10; refine (inBlocks_any u zs.length _ hu.1 hu.2).mono ?_; rintro e wx ⟨rfl, hx⟩; obtain rfl := hx.symm; rw [HB.out])
        go_region_held3 (fun W => W.cell? ⟨bo, oo + j, none⟩ = some (.int .i64 u) ∧ W.cell? ⟨bd, od + j, none⟩ = some (.int .i64 v)) (go_keep)
          (first | (go_at_call 11; refine (HR.out.drew.meet1 G12.out (fun h => Nat.ne_of_lt (G23.out h)) rfl u v HB.out hu.2).mono ?_; rintro e w2 ⟨rfl, hR2⟩; have h1 : w2.cell? ⟨bo, oo + j, none⟩ = wr.cell? ⟨bo, oo + j, none⟩ := (hR2.bel.cell (p := ⟨bo, oo + j, none⟩) hbo).trans (HR.out.bel.cell (p := ⟨bo, oo + j, none⟩) hbo).symm; have h2 : w2.cell? ⟨bd, od + j, none⟩ = wr.cell? ⟨bd, od + j, none⟩ := (hR2.bel.cell (p := ⟨bd, od + j, none⟩) hbd).trans (HR.out.bel.cell (p := ⟨bd, od + j, none⟩) hbd).symm))
        have HR2 : Hid (Rg w w2 zs a1 a2 a3 (l1 + 1) l1 (l2 + 1) l2 w.heap.size gf gr ((os.zip ds).take j ++ [(u, v)]) []) := hR2
        clear hR2 h1 h2 c0 d0
        go_wp2
        go_roundw
        case rel => exact ⟨j + 1, by omega, by go_num, by rw [HT.out]; exact HR2.out⟩
        case measure => simp [intOf]; omega
    · obtain rfl : j = os.length := by omega
      have HR : Hid (Rg w wr zs a1 a2 a3 (l1 + 1) l1 (l2 + 1) l2 w.heap.size gf gr (os.zip ds) []) := by
        have := hR
        rw [List.take_of_length_le (by simp; omega)] at this
        exact this
      clear hR hlt hj R5
      go_wp2
      go_loopw [13] (fun s13 wr => ∃ j : Nat, j ≤ os.length ∧ s13 = .int .i64 ((j : Int) - 1) ∧ Rg w wr zs a1 a2 a3 (l1 + 1) l1 (l2 + 1) l2 w.heap.size gf gr (os.zip ds) ((os.zip ds).drop j).reverse) (fun s13 _ => ((intOf s13) + 1).toNat)
      case atStart => exact ⟨os.length, Nat.le_refl _, rfl, by rw [List.drop_of_length_le (by simp; omega)]; exact HR.out⟩
      case round =>
        obtain ⟨j, hj, rfl, hR⟩ := hrel
        cases j with
        | succ j =>
          have hlt : j < os.length := hj
          have e1 : ((j + 1 : Nat) : Int) - 1 = (j : Int) := by omega
          rw [e1]
          have hlt2 : j < ds.length := by rw [← HZ.out]; exact hlt
          have HT : Hid (((os.zip ds).drop j).reverse = ((os.zip ds).drop (j + 1)).reverse ++ [(os[j], ds[j])]) := zip_drop os ds j hlt hlt2
          rcases HI.out with hn | ⟨bo, oo, rfl, hbo, hco⟩
          · subst hn; simp at hlt
          rcases HD.out with hn | ⟨bd, od, rfl, hbd, hcd⟩
          · subst hn; simp at hlt2
          have c0 := hco j hlt
          have d0 := hcd j hlt2
          rw [← hR.bel.cell (p := ⟨bo, oo + j, none⟩) hbo] at c0
          rw [← hR.bel.cell (p := ⟨bd, od + j, none⟩) hbd] at d0
          have hu := HWo.out os[j] (by simp)
          have HR : Hid (Rg w wr zs a1 a2 a3 (l1 + 1) l1 (l2 + 1) l2 w.heap.size gf gr (os.zip ds) ((os.zip ds).drop (j + 1)).reverse) := hR
          clear hR hco hcd e1 hj
          generalize os[j] = u at *
          generalize ds[j] = v at *
          cases hb : inB u zs.length
          · have HB : Hid (inB u zs.length = false) := hb
            clear hb
            go_wp2_with (go_at_call 10; refine (inBlocks_any u zs.length _ hu.1 hu.2).mono ?_; rintro e wx ⟨rfl, hx⟩; obtain rfl := hx.symm; rw [HB.out])
            go_roundw
            case rel => exact ⟨j, by omega, by go_num, by rw [HT.out]; exact HR.out.skip2 (u, v) HB.out⟩
            case measure => simp [intOf]
          · have HB : Hid (inB u zs.length = true) := hb
            clear hb
            go_wp2_with (go_at_call 10; refine (inBlocks_any u zs.length _ hu.1 hu.2).mono ?_; rintro e wx ⟨rfl, hx⟩; obtain rfl := hx.symm; rw [HB.out])
            go_region_held3 (fun W => W.cell? ⟨bo, oo + j, none⟩ = some (.int .i64 u) ∧ W.cell? ⟨bd, od + j, none⟩ = some (.int .i64 v)) (go_keep)
              (first | (go_at_call 11; refine (HR.out.drew.swap.meet1 (fun h => Nat.lt_trans (G12.out h) (G23.out h)) (fun h => Nat.ne_of_gt (G23.out h)) rfl u v HB.out hu.2).mono ?_; rintro e w2 ⟨rfl, hR2⟩; have h1 : w2.cell? ⟨bo, oo + j, none⟩ = wr.cell? ⟨bo, oo + j, none⟩ := (hR2.bel.cell (p := ⟨bo, oo + j, none⟩) hbo).trans (HR.out.bel.cell (p := ⟨bo, oo + j, none⟩) hbo).symm; have h2 : w2.cell? ⟨bd, od + j, none⟩ = wr.cell? ⟨bd, od + j, none⟩ := (hR2.bel.cell (p := ⟨bd, od + j, none⟩) hbd).trans (HR.out.bel.cell (p := ⟨bd, od + j, none⟩) hbd).symm))
            have HR2 : Hid (Rg w w2 zs a1 a2 a3 (l1 + 1) l1 (l2 + 1) l2 w.heap.size gf gr (os.zip ds) (((os.zip ds).drop (j + 1)).reverse ++ [(u, v)])) := hR2.swap
            clear hR2 h1 h2 c0 d0
            go_wp2
            go_roundw
            case rel => exact ⟨j, by omega, by go_num, by rw [HT.out]; exact HR2.out⟩
            case measure => simp [intOf]
        | zero =>
          have HR : Hid (Rg w wr zs a1 a2 a3 (l1 + 1) l1 (l2 + 1) l2 w.heap.size gf gr (os.zip ds) (os.zip ds).reverse) := by
            have := hR
            rw [List.drop_zero] at this
            exact this
          have e1 : ((0 : Nat) : Int) - 1 = -1 := by omega
          rw [e1]
          clear hR e1 hj
          have hc1 : wr.cell? ⟨l1 + 1, 1, none⟩ = some (.slice (some ⟨l1, 0, none⟩) 1 1) := by rw [cell_of_row wr (l1 + 1) 1 _ 39 (0, 0) HR.out.hx1]; rfl
          have hc2 : wr.cell? ⟨l2 + 1, 1, none⟩ = some (.slice (some ⟨l2, 0, none⟩) 1 1) := by rw [cell_of_row wr (l2 + 1) 1 _ 39 (0, 0) HR.out.hx2]; rfl
          have hr1 : wr.cell? ⟨l1, 0, none⟩ = some (.slice a2 zs.length zs.length) := by rw [cell_of_row wr l1 0 _ 22 (0, 0) HR.out.hl1]; rfl
          have hr2 : wr.cell? ⟨l2, 0, none⟩ = some (.slice a3 zs.length zs.length) := by rw [cell_of_row wr l2 0 _ 22 (0, 0) HR.out.hl2]; rfl
          have HC1 : Hid _ := hc1
          have HC2 : Hid _ := hc2
          clear hc1 hc2
          go_wp2_with (first | (go_at_call 12; refine (zzLows_any _ _ ⟨_, _, _, rfl⟩ _ HC1.out).mono ?_; rintro e wx ⟨rfl, hx⟩; obtain rfl := hx.symm) | (go_at_call 12; refine (zzLows_any _ _ ⟨_, _, _, rfl⟩ _ HC2.out).mono ?_; rintro e wx ⟨rfl, hx⟩; obtain rfl := hx.symm))
          go_loopw [16] (fun s16 wr' => ∃ j : Nat, j ≤ zs.length ∧ s16 = .int .i64 j ∧ Rg w wr' zs a1 a2 a3 (l1 + 1) l1 (l2 + 1) l2 w.heap.size gf gr (os.zip ds) (os.zip ds).reverse) (fun s16 _ => zs.length - (intOf s16).toNat)
          case atStart => exact ⟨0, Nat.zero_le _, rfl, HR.out⟩
          case round =>
            obtain ⟨j, hj, rfl, hR'⟩ := hrel
            by_cases hlt : j < zs.length
            · have hn : 0 < zs.length := by omega
              clear hr1 hr2
              obtain ⟨rfl, oz⟩ := hR'.z hn
              obtain ⟨rfl, of⟩ := hR'.f hn
              obtain ⟨rfl, or⟩ := hR'.r hn
              obtain ⟨t, ht⟩ : ∃ t, t = low zs.length j (zs.getD j 0) (os.zip ds) := ⟨_, rfl⟩
              obtain ⟨z, hz'⟩ : ∃ z, z = zs.getD j 0 := ⟨_, rfl⟩
              have c1 := oz.cellD j hlt
              have c2 := of.cellD j (by rw [lows_length]; exact hlt)
              have c3 := or.cellD j (by rw [lows_length]; exact hlt)
              rw [lows_at zs _ j hlt, ← ht] at c2
              rw [lows_at zs _ j hlt, low_rev, ← ht] at c3
              have HTz : Hid (t = low zs.length j (zs.getD j 0) (os.zip ds)) := ht
              rw [← hz'] at c1 ht
              have ht2 : t ≤ z := by rw [ht]; exact low_le _ _ _ _
              have k6 : decide (z < t) = false := by simp; omega
              have HTt : Hid (t = low zs.length j z (os.zip ds)) := ht
              have HR3 : Hid (Rg w wr zs (some ⟨w.heap.size, 0, none⟩) (some ⟨gf, 0, none⟩) (some ⟨gr, 0, none⟩) (l1 + 1) l1 (l2 + 1) l2 w.heap.size gf gr (os.zip ds) (os.zip ds).reverse) := hR'
              clear hR' oz of or ht hz' HC1 HC2
              go_wp2_with fail
              go_quiet (fail)
              go_wp2_with fail
              go_quiet (fail)
              go_wp2_with fail
              go_quiet (fail)
              go_wp2_with fail
              generalize hh0 : (t == z) = h0
              have HH0 : Hid ((t == z) = h0) := hh0
              clear hh0 c1 c2 c3 k6
              go_loopw [17, 18] (fun s17 s18 wr' => ∃ (k : Nat) (h : Bool), k ≤ os.length ∧ s17 = .bool h ∧ s18 = .int .i64 k ∧ Rg w wr' zs (some ⟨w.heap.size, 0, none⟩) (some ⟨gf, 0, none⟩) (some ⟨gr, 0, none⟩) (l1 + 1) l1 (l2 + 1) l2 w.heap.size gf gr (os.zip ds) (os.zip ds).reverse ∧ Hitted zs.length j t z ((os.zip ds).take k) h) (fun _ s18 _ => os.length - (intOf s18).toNat)
              case atStart => exact ⟨0, h0, Nat.zero_le _, rfl, rfl, ((HR3.out.drewN _).drewN _).drewN _, Hitted.start HH0.out⟩
              case round =>
                obtain ⟨k, h, hk, rfl, rfl, hR4, hH⟩ := hrel
                by_cases hlt' : k < os.length
                · have hlt2 : k < ds.length := by rw [← HZ.out]; exact hlt'
                  have HT : Hid ((os.zip ds).take (k + 1) = (os.zip ds).take k ++ [(os[k], ds[k])]) := zip_take os ds k hlt' hlt2
                  have HM : Hid ((os[k], ds[k]) ∈ os.zip ds) := zip_mem os ds k hlt' hlt2
                  rcases HI.out with hn' | ⟨bo, oo, rfl, hbo, hco⟩
                  · subst hn'; simp at hlt'
                  rcases HD.out with hn' | ⟨bd, od, rfl, hbd, hcd⟩
                  · subst hn'; simp at hlt2
                  have c0 := hco k hlt'
                  have d0 := hcd k hlt2
                  rw [← hR4.bel.cell (p := ⟨bo, oo + k, none⟩) hbo] at c0
                  rw [← hR4.bel.cell (p := ⟨bd, od + k, none⟩) hbd] at d0
                  have hu := HWo.out os[k] (by simp)
                  have c2 := (hR4.f hn).2.cellD j (by rw [lows_length]; exact hlt)
                  rw [lows_at zs _ j hlt, ← HTz.out] at c2
                  have HR : Hid (Rg w wr zs (some ⟨w.heap.size, 0, none⟩) (some ⟨gf, 0, none⟩) (some ⟨gr, 0, none⟩) (l1 + 1) l1 (l2 + 1) l2 w.heap.size gf gr (os.zip ds) (os.zip ds).reverse) := hR4
                  have HH : Hid (Hitted zs.length j t z ((os.zip ds).take k) h) := hH
                  clear hR4 hH hco hcd
                  generalize os[k] = u at *
                  generalize ds[k] = v at *
                  cases hb : inB u zs.length
                  · have HB : Hid (inB u zs.length = false) := hb
                    clear hb
                    go_wp2_with (go_at_call 10; refine (inBlocks_any u zs.length _ hu.1 hu.2).mono ?_; rintro e wx ⟨rfl, hx⟩; obtain rfl := hx.symm; rw [HB.out])
                    go_roundw
                    case rel => exact ⟨k + 1, h, by omega, rfl, by go_num, HR.out, by rw [HT.out]; exact HH.out.skip (u, v) (fun h => by simp [hits, HB.out] at h)⟩
                    case measure => simp [intOf]; omega
                  · have HB : Hid (inB u zs.length = true) := hb
                    clear hb
                    by_cases hq : u / 64 = (j : Int)
                    · have k7 : (u / 64 == (j : Int)) = true := by simp [hq]
                      have hhit : hits (u, v) zs.length j = true := by simp [hits, HB.out, hq]
                      have hle : t ≤ IntKind.u16.wrap v := by rw [HTt.out]; exact low_le_hit zs.length j z (os.zip ds) (u, v) HM.out hhit
                      have k8 : decide (IntKind.u16.wrap v < t) = false := by simp; omega
                      clear hq
                      by_cases he : t = IntKind.u16.wrap v
                      · have k9 : (t == IntKind.u16.wrap v) = true := by simp [he]
                        clear he
                        go_wp2_with (go_at_call 10; refine (inBlocks_any u zs.length _ hu.1 hu.2).mono ?_; rintro e wx ⟨rfl, hx⟩; obtain rfl := hx.symm; rw [HB.out])
                        go_roundw
                        case rel => exact ⟨k + 1, true, by omega, rfl, by go_num, HR.out, Hitted.yes⟩
                        case measure => simp [intOf]; omega
                      · have k9 : (t == IntKind.u16.wrap v) = false := by simp [he]
                        have HE : Hid (t ≠ IntKind.u16.wrap v) := he
                        clear he
                        go_wp2_with (go_at_call 10; refine (inBlocks_any u zs.length _ hu.1 hu.2).mono ?_; rintro e wx ⟨rfl, hx⟩; obtain rfl := hx.symm; rw [HB.out])
                        go_roundw
                        case rel => exact ⟨k + 1, h, by omega, rfl, by go_num, HR.out, by rw [HT.out]; exact HH.out.skip (u, v) (fun _ => HE.out)⟩
                        case measure => simp [intOf]; omega
                    · have k7 : (u / 64 == (j : Int)) = false := by simp [hq]
                      have HQ : Hid (¬ u / 64 = (j : Int)) := hq
                      clear hq
                      go_wp2_with (go_at_call 10; refine (inBlocks_any u zs.length _ hu.1 hu.2).mono ?_; rintro e wx ⟨rfl, hx⟩; obtain rfl := hx.symm; rw [HB.out])
                      go_roundw
                      case rel => exact ⟨k + 1, h, by omega, rfl, by go_num, HR.out, by rw [HT.out]; exact HH.out.skip (u, v) (fun h => by simp [hits, HQ.out] at h)⟩
                      case measure => simp [intOf]; omega
                · obtain rfl : k = os.length := by omega
                  have hT := hH.all (by simp; omega) HTt.out
                  subst hT
                  go_wp2
                  go_roundw
                  case rel => exact ⟨j + 1, by omega, by go_num, hR4⟩
                  case measure => simp [intOf]; omega
            · obtain rfl : j = zs.length := by omega
              go_wp2
              go_ret
              exact ⟨rfl, hR'.bel⟩
end Go.Proofs.Qxb6613752a
