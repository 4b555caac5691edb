/- strconv.AppendInt at base 10, with the frame to the cell: from 100 on; the sign; the public one. -/
import Derived.Test.Qxb6609101aDoorA8
namespace Go.Proofs.Qxb6609101aDoor
open Go.RowKit Go.Lib Go.Sort

theorem sliceTo24 (W : World) (b m : Nat) (hm : m ≤ 24) : (Instr.sliceAt 37 (.pointer (some ⟨b, 0, none⟩)) none (some (.int .i64 (m : Int))) none).run Tryd.prog W = .ok (.slice (some ⟨b, 0, none⟩) m 24) W := by
  have hal : Tryd.prog.arrayLen 37 = 24 := by simp [Program.arrayLen, Tryd.underlying37]
  have hel : Tryd.prog.elem 37 = 5 := by simp [Program.elem, Tryd.underlying37]
  obtain ⟨i5, hi5, _, hs5, _⟩ := info_parts Tryd.info5
  rw [run_sliceAt_array_h W 37 ⟨b, 0, none⟩ (by rw [hal, hel]; exact Tryd.underlying37) .i64 (m : Int) (by omega) (by rw [hal]; omega), hal, hel]
  simp [sizeOf, typeInfo, hi5, hs5, slicedAt, Addr.add]

set_option maxHeartbeats 2000000 in
set_option maxRecDepth 100000 in
theorem appendUint_big (B n u : Nat) (hu : 100 ≤ u) (hu64 : u < 18446744073709551616) (sv : Value) (xs : List Value) (w : World) (hown : w.ownsRow B 5 1 sv n xs) (hBw : B ≤ w.heap.size) (hlim : n + 20 ≤ 140737488355328)
    (htab : Lib.TabIs Tryd.prog w powName .u64 Lib.pow10Tab) :
    Calls Tryd.prog 19 #[sv, .int .u64 u, .int .i64 10] w fun e w' => ∃ v', e = .returned v' ∧ w'.ownsRow B 5 1 v' (n + (Lib.decDigits u).length) (xs ++ Lib.byteCells (Lib.decDigits u)) ∧ Below B w w' ∧ Kp w w' sv n v' := by
  have hnd20 : Lib.nDigits u ≤ 20 := Lib.nDigits_le20 u hu64
  have hnd1 := Lib.nDigits_pos u
  have hsl := fun W => sliceTo24 W w.heap.size (Lib.nDigits u) (by omega)
  have hH0 := Lib.holds_zero0 w 37 (Lib.nDigits u) (by omega)
  have hfmt := formatBase10_any w.heap.size 0 24 u (Array.replicate (Lib.nDigits u) 0) (w.alloc (.cells Lib.zeros24 37)) hH0 (by rw [Array.size_replicate]; exact Lib.lt_pow_nDigits u) hu64 (by rw [Array.size_replicate]; omega)
  rw [Array.size_replicate] at hfmt
  have HH0 : Hid _ := hH0
  have HO : Hid (w.ownsRow B 5 1 sv n xs) := hown
  have iu : (100 : Int) ≤ (u : Int) := by omega
  clear hH0 hown
  go_enter Tryd.func19, Tryd.ntmps19
  go_wp2_with (first
    | (go_at_call 21; refine (numDigits_any u (by omega) hu64 _ (Lib.tabIs_alloc htab _)).mono ?_; rintro e wx ⟨rfl, hx⟩; obtain rfl := hx.symm))
  refine hfmt.mono ?_
  rintro e w' ⟨rfl, k, v', dk, rfl, hF⟩
  have hcells : ∀ j u', (Lib.byteCells (Lib.decDigits u))[j]? = some u' → ((putRow (fun (b : UInt8) => Value.int .u8 (b.toNat : Int)) (w.alloc (.cells Lib.zeros24 37)) w.heap.size 0 dk).drewN k).cell? ((⟨w.heap.size, 0, none⟩ : Addr).add j) = some u' := by
    intro j u' hj
    have hjl : j < (Lib.decDigits u).length := by
      have h5 := (List.getElem?_eq_some_iff.1 hj).1
      rwa [Lib.byteCells_length] at h5
    have e5 : (Lib.byteCells (Lib.decDigits u))[j]? = some (Value.int .u8 ((Lib.decDigits u)[j].toNat : Int)) := by simp [Lib.byteCells, hjl]
    rw [e5] at hj
    cases hj
    rw [Lib.row_is_numeral hF j hjl, Lib.add_plain, World.cell?_drewN]
    exact cell?_putRow (fun (b : UInt8) => Value.int .u8 (b.toNat : Int)) _ w.heap.size 0 _ dk HH0.out (by rw [hF.size, Array.size_replicate]) j (by rw [hF.size]; rw [Lib.decDigits_length] at hjl; exact hjl)
  obtain ⟨os, eo⟩ := Lib.fin_at w (.cells Lib.zeros24 37) dk k 0
  have hbel : Below w.heap.size w ((putRow (fun (b : UInt8) => Value.int .u8 (b.toNat : Int)) (w.alloc (.cells Lib.zeros24 37)) w.heap.size 0 dk).drewN k) := by rw [eo]; exact Lib.below_grow w.heap.size w (Nat.le_refl _) k os
  have hown2 : ((putRow (fun (b : UInt8) => Value.int .u8 (b.toNat : Int)) (w.alloc (.cells Lib.zeros24 37)) w.heap.size 0 dk).drewN k).ownsRow B 5 1 sv n xs := by rw [eo]; exact Lib.ownsRow_grow HO.out k os
  generalize (putRow (fun (b : UInt8) => Value.int .u8 (b.toNat : Int)) (w.alloc (.cells Lib.zeros24 37)) w.heap.size 0 dk).drewN k = W2 at hcells hown2 hbel ⊢
  clear eo HH0 hfmt hF
  have hsz2 := hbel.size
  have HC : Hid _ := hcells
  have HO2 : Hid (W2.ownsRow B 5 1 sv n xs) := hown2
  have HB2 : Hid (Below w.heap.size w W2) := hbel
  clear hcells hown2 hbel
  go_wp2_with (at_builtin; refine wpList_slice_kp _ rfl _ _ rfl B sv n xs rfl HO2.out ⟨w.heap.size, 0, none⟩ (Lib.nDigits u) 24 (Lib.byteCells (Lib.decDigits u)) rfl (by rw [Lib.byteCells_length, Lib.decDigits_length]) hnd1 HC.out (by intro u' hu'; simp only [Lib.byteCells, List.mem_map] at hu'; obtain ⟨b, _, rfl⟩ := hu'; rfl) (by omega) (by omega) ?_)
  intro v2 w3 ho3 hg3 hk3
  have H3 : Hid (w3.ownsRow B 5 1 v2 (n + Lib.nDigits u) (xs ++ Lib.byteCells (Lib.decDigits u))) := ho3
  have HG : Hid (W2.grownBy w3 sv.ownBlock) := hg3
  clear ho3 hg3
  go_wp2
  go_ret
  refine ⟨v2, rfl, ?_, (HB2.out.mono hBw).grown HG.out (by omega) (fun k hk => (HO2.out.lt k hk).1), (Kp.of_below HB2.out (own_lt HO.out)).trans hk3 (own_lt HO.out) (Nat.le_refl _)⟩
  rw [Lib.decDigits_length]
  exact H3.out

theorem appendUint_kp (B n u : Nat) (hu64 : u < 18446744073709551616) (sv : Value) (xs : List Value) (w : World) (hown : w.ownsRow B 5 1 sv n xs) (hBw : B ≤ w.heap.size) (hlim : n + 20 ≤ 140737488355328)
    (htab : Lib.TabIs Tryd.prog w powName .u64 Lib.pow10Tab) :
    Calls Tryd.prog 19 #[sv, .int .u64 u, .int .i64 10] w fun e w' => ∃ v', e = .returned v' ∧ w'.ownsRow B 5 1 v' (n + (Lib.decDigits u).length) (xs ++ Lib.byteCells (Lib.decDigits u)) ∧ Below B w w' ∧ Kp w w' sv n v' := by
  by_cases h : u < 100
  · exact appendUint_small B n u h sv xs w hown hBw hlim
  · exact appendUint_big B n u (by omega) hu64 sv xs w hown hBw hlim htab

set_option maxHeartbeats 2000000 in
theorem appendInt18_kp (B n : Nat) (i : Int) (h0 : -9223372036854775808 ≤ i) (h1 : i ≤ 9223372036854775807) (sv : Value) (xs : List Value) (w : World) (hown : w.ownsRow B 5 1 sv n xs) (hBw : B ≤ w.heap.size) (hlim : n + 21 ≤ 140737488355328)
    (htab : Lib.TabBelow Tryd.prog B w powName .u64 Lib.pow10Tab) :
    Calls Tryd.prog 18 #[sv, .int .i64 i, .int .i64 10] w fun e w' => ∃ v', e = .returned v' ∧ w'.ownsRow B 5 1 v' (n + (Lib.itoa i).length) (xs ++ Lib.byteCells (Lib.itoa i)) ∧ Below B w w' ∧ Kp w w' sv n v' := by
  have HO : Hid (w.ownsRow B 5 1 sv n xs) := hown
  have HT : Hid (Lib.TabBelow Tryd.prog B w powName .u64 Lib.pow10Tab) := htab
  clear hown htab
  by_cases hneg : i < 0
  · obtain ⟨u, rfl⟩ : ∃ u : Nat, i = -(u : Int) := ⟨i.natAbs, by omega⟩
    have hu1 : 1 ≤ u := by omega
    have hu64 : u < 18446744073709551616 := by omega
    have hwr : IntKind.u64.wrap (-IntKind.u64.wrap (-(u : Int))) = (u : Int) := by rw [IntKind.wrap_u64, IntKind.wrap_u64]; omega
    rw [Lib.itoa_neg u hu1]
    go_enter Tryd.func18, Tryd.ntmps18
    go_wp2_with (at_builtin; refine wpList_slice_kp _ rfl _ _ rfl B sv n xs rfl (HO.out.alloc _) ⟨w.heap.size, 0, none⟩ 1 1 [Value.int .u8 45] rfl rfl (by omega) (by intro j u' hj; match j, hj with | 0, hj => simp at hj; subst hj; simp [Addr.add]) (by intro u' hu'; simp at hu'; subst hu'; rfl) (by omega) (by simp; omega) ?_)
    intro v1 w1 ho1 hg1 hk1
    have hnx1 : Below B w w1 := ((Below.refl B w).alloc hBw _).grown hg1 (by simp; omega) (fun k hk => (HO.out.lt k hk).1)
    have HK : Hid (Kp w w1 sv n v1) := (Kp.of_below ((Below.refl _ w).alloc (Nat.le_refl _) _) (own_lt HO.out)).trans hk1 (own_lt HO.out) (Nat.le_refl _)
    have H1 : Hid (w1.ownsRow B 5 1 v1 (n + 1) (xs ++ [Value.int .u8 45])) := ho1
    have HN : Hid (Below B w w1) := hnx1
    clear ho1 hg1 hk1 hnx1
    go_wp2_with (go_at_call 19; refine (appendUint_kp B (n + 1) u hu64 v1 _ w1 H1.out (Nat.le_trans hBw HN.out.size) (by omega) (HT.out w1 HN.out)).mono ?_; rintro e w2 ⟨v2, rfl, ho2, hb2, hk2⟩)
    have H2 : Hid _ := And.intro ho2 (And.intro hb2 hk2)
    clear ho2 hb2 hk2
    go_wp2
    go_ret
    refine ⟨v2, rfl, ?_, HN.out.trans H2.out.2.1, HK.out.trans H2.out.2.2 (own_lt HO.out) (by omega)⟩
    have h := H2.out.1
    rw [List.append_assoc] at h
    rw [show n + ((Lib.decDigits u).length + 1) = n + 1 + (Lib.decDigits u).length by omega]
    exact h
  · obtain ⟨u, rfl⟩ : ∃ u : Nat, i = (u : Int) := ⟨i.toNat, by omega⟩
    have hu64 : u < 18446744073709551616 := by omega
    have hit : Lib.itoa (u : Int) = Lib.decDigits u := by rw [Lib.itoa, if_neg (by omega), Int.toNat_natCast]
    rw [hit]
    go_enter Tryd.func18, Tryd.ntmps18
    go_wp2_with (go_at_call 19; refine (appendUint_kp B n u hu64 sv xs _ HO.out hBw (by omega) (HT.out w (Below.refl _ _))).mono ?_; rintro e w2 ⟨v2, rfl, ho2, hb2, hk2⟩)
    have H2 : Hid _ := And.intro ho2 (And.intro hb2 hk2)
    clear ho2 hb2 hk2
    go_wp2
    go_ret
    exact ⟨v2, rfl, H2.out⟩

set_option maxHeartbeats 400000 in
theorem appendInt_kp (B n : Nat) (i : Int) (h0 : -9223372036854775808 ≤ i) (h1 : i ≤ 9223372036854775807) (sv : Value) (xs : List Value) (w : World) (hown : w.ownsRow B 5 1 sv n xs) (hBw : B ≤ w.heap.size) (hlim : n + 21 ≤ 140737488355328)
    (htab : Lib.TabBelow Tryd.prog B w powName .u64 Lib.pow10Tab) :
    Calls Tryd.prog 16 #[sv, .int .i64 i, .int .i64 10] w fun e w' => ∃ v', e = .returned v' ∧ w'.ownsRow B 5 1 v' (n + (Lib.itoa i).length) (xs ++ Lib.byteCells (Lib.itoa i)) ∧ Below B w w' ∧ Kp w w' sv n v' := by
  have HO : Hid (w.ownsRow B 5 1 sv n xs) := hown
  have HT : Hid (Lib.TabBelow Tryd.prog B w powName .u64 Lib.pow10Tab) := htab
  clear hown htab
  go_enter Tryd.func16, Tryd.ntmps16
  go_wp2_with (go_at_call 18; refine (appendInt18_kp B n i h0 h1 sv xs w HO.out hBw hlim HT.out).mono ?_; rintro e w2 ⟨v2, rfl, ho2, hb2, hk2⟩)
  have H2 : Hid _ := And.intro ho2 (And.intro hb2 hk2)
  clear ho2 hb2 hk2
  go_wp2
  go_ret
  exact ⟨v2, rfl, H2.out⟩
end Go.Proofs.Qxb6609101aDoor
