/- FnOpStringIsTheNotation: the walk. -/
import Derived.Test.Qxb6609101aDoorB2
import Derived.Deep.QuietTactic
import Derived.BigQuiet
namespace Go.Proofs.Qxb6609101aDoor
open Go.RowKit Go.Lib

/-- The operation in block b. -/
def OpAt (w : World) (b : Nat) (k it : ByteArray) (t l c : Int) : Prop := w.heap[b]? = some (.cells #[.string k, .int .i64 t, .string it, .int .i64 l, .int .i64 c, .int .i64 0] 27 (0, 0))
theorem OpAt.below {w w' : World} {b : Nat} {k it : ByteArray} {t l c : Int} (h : OpAt w b k it t l c) (hb : Below w.heap.size w w') : OpAt w' b k it t l c := by
  have h' : w.heap[b]? = _ := h
  show w'.heap[b]? = _
  rw [hb.block b (Array.getElem?_eq_some_iff.1 h').1]
  exact h'
theorem OpAt.c {w : World} {b : Nat} {k it : ByteArray} {t l c : Int} (h : OpAt w b k it t l c) : w.cell? ⟨b, 0, none⟩ = some (.string k) ∧ w.cell? ⟨b, 1, none⟩ = some (.int .i64 t) ∧ w.cell? ⟨b, 2, none⟩ = some (.string it) ∧ w.cell? ⟨b, 3, none⟩ = some (.int .i64 l) ∧ w.cell? ⟨b, 4, none⟩ = some (.int .i64 c) ∧ w.cell? ⟨b, 5, none⟩ = some (.int .i64 0) :=
  ⟨box_cells h 0, box_cells h 1, box_cells h 2, box_cells h 3, box_cells h 4, box_cells h 5⟩

theorem owns_form {w : World} {B n : Nat} {v : Value} {xs : List Value} (h : w.ownsRow B 5 1 v n xs) : ∃ a cap, v = .slice a n cap ∧ (0 < n → ∃ g, a = some ⟨g, 0, none⟩ ∧ v.ownBlock = some g ∧ g < w.heap.size) ∧ ∀ g, a = some ⟨g, 0, none⟩ → ∀ j x, xs[j]? = some x → w.cell? ⟨g, j, none⟩ = some x := by
  rcases h.2 with ⟨rfl, rfl⟩ | ⟨g, cap, cur, rfl, _, hg, _⟩
  · exact ⟨none, 0, rfl, fun h => by omega, fun g hg => by cases hg⟩
  · refine ⟨_, cap, rfl, fun _ => ⟨g, rfl, rfl, (Array.getElem?_eq_some_iff.1 hg).1⟩, fun g' hg' j x hx => ?_⟩
    simp only [Option.some.injEq, Addr.mk.injEq, and_true] at hg'
    subst hg'
    have := h.cells (g := g) rfl j x hx
    have had : (⟨g, 0, none⟩ : Addr).add j = ⟨g, j, none⟩ := by unfold Addr.add; split <;> simp_all
    rwa [had] at this

theorem owns_below {w w' : World} {B n : Nat} {v : Value} {xs : List Value} (h : w.ownsRow B 5 1 v n xs) (hb : Below w.heap.size w w') : w'.ownsRow B 5 1 v n xs := by
  refine ⟨h.1, ?_⟩
  rcases h.2 with hn | ⟨g, cap, cur, rfl, hbg, hg, r⟩
  · exact .inl hn
  · exact .inr ⟨g, cap, cur, rfl, hbg, by rw [hb.block g (Array.getElem?_eq_some_iff.1 hg).1]; exact hg, r⟩

theorem opText_pos (k it : ByteArray) (t : Int) : 0 < (opText k t it).length := by
  obtain ⟨l, v, h⟩ := itoa_ends t
  unfold opText
  simp [h]
  omega

set_option maxRecDepth 100000 in
set_option maxHeartbeats 2000000 in
theorem top4_any (zs : List Int) (a : Option Addr) (cap : Nat) (k it : ByteArray) (t l c : Int) (w : World) (h0 : -9223372036854775808 ≤ t) (h1 : t ≤ 9223372036854775807) (hk : k.size ≤ 9223372036854775807) (hi : it.size ≤ 9223372036854775807) (hl : zs.length ≤ 9223372036854775807)
    (hn : a = none → zs.length = 0) (ho : BytesAt w a zs) (htab : Lib.TabIs Tryd.prog w powName .u64 Lib.pow10Tab) :
    Calls Tryd.prog 4 #[.string k, .int .i64 t, .string it, .int .i64 l, .int .i64 c, .slice a zs.length cap] w fun e w' => e = .returned (.bool true) ∧ Below w.heap.size w w' := by
  have HT : Hid (Lib.TabBelow Tryd.prog w.heap.size w powName .u64 Lib.pow10Tab) := Lib.tabBelow_of_tabIs htab
  have HO : Hid (BytesAt w a zs) := ho
  have HN : Hid (a = none → zs.length = 0) := hn
  clear htab ho hn
  go_enter Tryd.func4, Tryd.ntmps4
  go_wp2_with fail
  refine (bytes10_any k it t l c a zs.length cap _ hk hi hl).mono ?_
  rintro e wx ⟨⟨r, rfl⟩, hx⟩
  obtain rfl := hx.symm
  cases r
  · go_wp2
    go_ret
    exact ⟨rfl, Below.refl _ _⟩
  by_cases hb1 : 262144 < k.size
  · go_wp2
    go_ret
    exact ⟨rfl, Below.refl _ _⟩
  by_cases hb2 : 262144 < it.size
  · go_wp2
    go_ret
    exact ⟨rfl, Below.refl _ _⟩
  by_cases hb3 : 262144 < zs.length
  · go_wp2
    go_ret
    exact ⟨rfl, Below.refl _ _⟩
  go_wp2_with fail
  refine (clone_any zs a cap _ (by omega) HN.out HO.out).mono ?_
  rintro e w1 ⟨pv, rfl, hown1, hbel1⟩
  have B1 : Hid (Below w.heap.size w w1) := hbel1
  have O1 : Hid (w1.ownsRow w.heap.size 5 1 pv zs.length (vals zs)) := hown1
  obtain ⟨pa, pc, rfl, hpa, hpc⟩ := owns_form hown1
  have PA : Hid (0 < zs.length → ∃ g, pa = some ⟨g, 0, none⟩ ∧ Value.ownBlock (.slice pa zs.length pc) = some g ∧ g < w1.heap.size) := hpa
  have PC : Hid (∀ g, pa = some ⟨g, 0, none⟩ → ∀ j x, (vals zs)[j]? = some x → w1.cell? ⟨g, j, none⟩ = some x) := hpc
  clear hown1 hbel1 hpa hpc
  have OA : Hid (OpAt (w1.alloc (.cells #[.string k, .int .i64 t, .string it, .int .i64 l, .int .i64 c, .int .i64 0] 27)) w1.heap.size k it t l c) := heap_alloc_new w1 _
  go_wp2_with fail
  refine (itoa_any t _ h0 h1).mono ?_
  rintro e w2 ⟨rfl, hb2⟩
  have O2 : Hid (OpAt w2 w1.heap.size k it t l c) := OA.out.below hb2
  have B2 : Hid (Below w1.heap.size w1 w2) := ((Below.refl _ w1).alloc (Nat.le_refl _) _).trans (hb2.mono (by simp))
  clear hb2 OA
  obtain ⟨nu, hnu⟩ : ∃ s : ByteArray, s = ⟨(Lib.itoa t).toArray⟩ := ⟨_, rfl⟩
  rw [← hnu]
  have Hnu : Hid (nu.data.toList = Lib.itoa t) := by subst hnu; rfl
  have hnl2 : nu.size ≤ 21 := by
    have := Lib.itoa_length_le t h0 h1
    subst hnu
    simpa [ByteArray.size] using this
  clear hnu
  obtain ⟨o1, o2, o3, o4, o5, o6⟩ := O2.out.c
  cases hp : hasI k
  all_goals
    have Hp := (show Hid _ from hp)
    clear hp
    go_wp2_with (go_at_call 12; refine (takesItem_any k _).mono ?_; rintro e wx ⟨rfl, hw⟩; obtain rfl := hw.symm; rw [Hp.out])
  all_goals
    refine (string_any k it t l c 0 _ h0 h1 (by omega) (by omega) (tab_up HT.out (B1.out.trans (B2.out.mono B1.out.size)))).mono ?_
    rintro e w3 ⟨rfl, hb3⟩
    have O3 : Hid (OpAt w3 w1.heap.size k it t l c) := O2.out.below hb3
    have B3 : Hid (Below w1.heap.size w1 w3) := B2.out.trans (hb3.mono B2.out.size)
    clear hb3 O2 o1 o2 o3 o4 o5 o6
    obtain ⟨s, hs⟩ : ∃ s : ByteArray, s = ⟨(opText k t it).toArray⟩ := ⟨_, rfl⟩
    rw [← hs]
    have Hs : Hid (s.data.toList = opText k t it) := by subst hs; rfl
    have hss : s.size = (opText k t it).length := by subst hs; simp [ByteArray.size]
    have hsl : s.size ≤ 2000000 := by
      have := Lib.itoa_length_le t h0 h1
      rw [hss]
      cases hp : hasI k
      · rw [len_bare hp]; omega
      · rw [len_item hp]; omega
    have Hss : Hid (s.size = (opText k t it).length) := hss
    have hs0 : 0 < s.size := by rw [hss]; exact opText_pos k it t
    have hwant : (s.toList == (if hasI k then k ++ nu ++ { data := #[40] } ++ it ++ { data := #[41] } else k ++ nu).toList) = true := by
      cases hp : hasI k
      · rw [beq_lists Hs.out (y := opText k t it) (by rw [opText]; simp [hp, ByteArray.data_append, Hnu.out])]
        simp
      · rw [beq_lists Hs.out (y := opText k t it) (by rw [opText]; simp [hp, ByteArray.data_append, Hnu.out])]
        simp
    simp only [Hp.out, if_true, Bool.false_eq_true, if_false] at hwant
    clear hs hss
    obtain ⟨o1, o2, o3, o4, o5, o6⟩ := O3.out.c
    have TB : Hid (Lib.TabBelow Tryd.prog w.heap.size w3 powName .u64 Lib.pow10Tab) := HT.out.on (B1.out.trans (B3.out.mono B1.out.size))
    have OW : Hid (w3.ownsRow w.heap.size 5 1 (.slice pa zs.length pc) zs.length (vals zs)) := owns_below O1.out B3.out
    have hsz3 : w.heap.size ≤ w3.heap.size := Nat.le_trans B1.out.size B3.out.size
    go_wp2_with fail
    refine (appendTo_kp w.heap.size k it t l c 0 _ zs.length (vals zs) _ h0 h1 OW.out hsz3 (by omega) (by omega) (by omega) TB.out).mono ?_
    rintro e w5 ⟨v5, rfl, ho5, hb5, kp5⟩
    rw [← Hss.out] at ho5
    obtain ⟨ba, bc, rfl, hba, hbc⟩ := owns_form ho5
    obtain ⟨gb, rfl, _, _⟩ := hba (by omega)
    have hbc' := hbc gb rfl
    have BC : Hid (∀ j x, (vals zs ++ Lib.byteCells (opText k t it))[j]? = some x → w5.cell? ⟨gb, j, none⟩ = some x) := hbc'
    have KP : Hid (Kp w3 w5 (.slice pa zs.length pc) zs.length (.slice (some ⟨gb, 0, none⟩) (zs.length + s.size) bc)) := kp5
    have B5 : Hid (Below w.heap.size w w5) := (B1.out.trans (B3.out.mono B1.out.size)).trans hb5
    have hlq : ((((zs.length + s.size : Nat) : Int)) != (zs.length : Int) + (s.size : Int)) = false := by simp
    clear ho5 hb5 kp5 hba hbc hbc' o1 o2 o3 o4 o5 o6 O3 OW TB O1
    go_wp2_with fail
  all_goals
    go_loopw [17] (fun s17 wr => ∃ j : Nat, j ≤ zs.length ∧ s17 = .int .i64 j ∧ ∃ q, wr = w5.drewN q) (fun s17 _ => zs.length - (RowKit.intOf s17).toNat)
    case atStart => exact ⟨0, Nat.zero_le _, rfl, 0, rfl⟩
    case round =>
      obtain ⟨j, hj, rfl, q, rfl⟩ := hrel
      by_cases hlt : j < zs.length
      · obtain ⟨g, rfl, hgo, hgl⟩ := PA.out (by omega)
        have hvj : (vals zs)[j]? = some (.int .u8 zs[j]) := by simp [vals, hlt]
        have c0 : w5.cell? ⟨g, j, none⟩ = some (.int .u8 zs[j]) := by
          rw [KP.out.first g hgo j hlt, B3.out.cell (p := ⟨g, j, none⟩) hgl]
          exact PC.out g rfl j _ hvj
        have d0 : w5.cell? ⟨gb, j, none⟩ = some (.int .u8 zs[j]) := BC.out j _ (by rw [List.getElem?_append_left (by simp [vals]; exact hlt)]; exact hvj)
        generalize zs[j] = u at c0 d0
        clear hvj
        have hne : (u != u) = false := by simp
        have hj1 : j < zs.length + s.size := by omega
        have hj2 : (j : Int) < ((zs.length + s.size : Nat) : Int) := by omega
        go_wp2
        go_quiet (fail)
        go_wp2
        go_roundw
        case rel => exact ⟨j + 1, by omega, by go_num, q + nq, rfl⟩
        case measure => simp [RowKit.intOf]; omega
      · go_wp2_with fail
        go_loopw [18] (fun s18 wr => ∃ j : Nat, j ≤ s.size ∧ s18 = .int .i64 j ∧ ∃ q, wr = w5.drewN q) (fun s18 _ => s.size - (RowKit.intOf s18).toNat)
        case atStart => exact ⟨0, Nat.zero_le _, rfl, q, rfl⟩
        case round =>
          obtain ⟨i, hi', rfl, q', rfl⟩ := hrel
          by_cases hlt' : i < s.size
          · have hti : i < (opText k t it).length := by rw [← Hss.out]; exact hlt'
            have d0 : w5.cell? ⟨gb, zs.length + i, none⟩ = some (.int .u8 ((opText k t it)[i].toNat : Int)) := BC.out _ _ (by
              rw [List.getElem?_append_right (by simp [vals])]
              simp [vals, Lib.byteCells, hti])
            have hsi : s[i] = (opText k t it)[i] := by
              have := Hs.out
              show s.data[i] = _
              simp [← Array.getElem_toList, this]
            generalize (opText k t it)[i] = u at d0 hsi
            have hne : ((u.toNat : Int) != (u.toNat : Int)) = false := by simp
            have hj1 : zs.length + i < zs.length + s.size := by omega
            have hj2 : (zs.length : Int) + (i : Int) < ((zs.length + s.size : Nat) : Int) := by omega
            go_wp2
            go_quiet (fail)
            go_wp2
            go_roundw
            case rel => exact ⟨i + 1, by omega, by go_num, q' + nq, rfl⟩
            case measure => simp [RowKit.intOf]; omega
          · go_wp2
            go_ret
            exact ⟨rfl, B5.out.trans ⟨rfl, rfl, rfl, Nat.le_refl _, fun _ _ => rfl⟩⟩
end Go.Proofs.Qxb6609101aDoor
