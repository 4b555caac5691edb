/- FnWritesExactlyWhenPrintedAsWrite: the walk. -/
import Derived.Test.Qxb6609101aDoorA5
namespace Go.Proofs.Qxb6609101aDoor
open Go.RowKit Go.Lib

theorem tab_up {w w1 : World} (h : Lib.TabBelow Tryd.prog w.heap.size w powName .u64 Lib.pow10Tab) (hb : Below w.heap.size w w1) : Lib.TabBelow Tryd.prog w1.heap.size w1 powName .u64 Lib.pow10Tab :=
  fun w' h' => h w' (hb.trans (h'.mono hb.size))

theorem dec_ends (u : Nat) : ∃ l v, Lib.decDigits u = l ++ [dig v] := by
  by_cases h : u < 10
  · exact ⟨[], u, by rw [dec_last h]; rfl⟩
  · exact ⟨Lib.decDigits (u / 10), u, by have := dec_more h []; rwa [List.append_nil] at this⟩
theorem itoa_ends (t : Int) : ∃ l v, Lib.itoa t = l ++ [dig v] := by
  unfold Lib.itoa
  split
  · obtain ⟨l, v, h⟩ := dec_ends t.natAbs
    exact ⟨45 :: l, v, by rw [h]; rfl⟩
  · exact dec_ends _
theorem dig_ne (v : Nat) : dig v ≠ 41 := by
  intro h
  have := congrArg UInt8.toNat h
  simp [dig] at this
  omega

theorem isW_hasI {k : ByteArray} (h : isW k = true) : hasI k = true := by
  simp only [isW, Bool.or_eq_true] at h
  rcases h with h | h <;> simp [hasI, h]

theorem plain3 (k it : ByteArray) (t : Int) : isW k = (decide (opText k t it = [119] ++ Lib.itoa t ++ [40] ++ it.data.toList ++ [41]) || decide (opText k t it = [105] ++ Lib.itoa t ++ [40] ++ it.data.toList ++ [41])) := by
  have key : ∀ c : UInt8, opText k t it = [c] ++ Lib.itoa t ++ [40] ++ it.data.toList ++ [41] ↔ hasI k = true ∧ k.data.toList = [c] := by
    intro c
    constructor
    · intro h
      by_cases hp : hasI k = true
      · refine ⟨hp, ?_⟩
        rw [opText, if_pos hp] at h
        simp only [← List.append_assoc] at h
        exact List.append_cancel_right (List.append_cancel_right (List.append_cancel_right (List.append_cancel_right h)))
      · exfalso
        rw [opText, if_neg hp] at h
        obtain ⟨l, v, hl⟩ := itoa_ends t
        have := congrArg List.getLast? h
        rw [hl] at this
        simp only [List.append_nil, ← List.append_assoc, List.getLast?_concat] at this
        exact dig_ne v (Option.some.inj this)
    · rintro ⟨hp, hk⟩
      rw [opText, if_pos hp, hk]
      simp only [← List.append_assoc]
  rw [Bool.eq_iff_iff]
  simp only [Bool.or_eq_true, decide_eq_true_eq, key]
  constructor
  · intro h
    have hp := isW_hasI h
    simp only [isW, Bool.or_eq_true, beq_iff_eq, ByteArray.toList_eq] at h
    rcases h with h | h
    · exact Or.inl ⟨hp, h⟩
    · exact Or.inr ⟨hp, h⟩
  · rintro (⟨_, h⟩ | ⟨_, h⟩)
    · simp [isW, ByteArray.toList_eq, h]
    · simp [isW, ByteArray.toList_eq, h]

theorem beq_lists {a b : ByteArray} {x y : List UInt8} (ha : a.data.toList = x) (hb : b.data.toList = y) : (a.toList == b.toList) = decide (x = y) := by
  rw [ByteArray.toList_eq, ByteArray.toList_eq, ha, hb, Bool.eq_iff_iff]
  simp

set_option maxHeartbeats 1000000 in
theorem top3_any (k it : ByteArray) (t : Int) (w : World) (h0 : -9223372036854775808 ≤ t) (h1 : t ≤ 9223372036854775807) (hk : k.size ≤ 9223372036854775807) (hi : it.size ≤ 9223372036854775807)
    (htab : Lib.TabIs Tryd.prog w powName .u64 Lib.pow10Tab) :
    Calls Tryd.prog 3 #[.string k, .int .i64 t, .string it] w fun e w' => e = .returned (.bool true) ∧ Below w.heap.size w w' := by
  have HT : Hid (Lib.TabBelow Tryd.prog w.heap.size w powName .u64 Lib.pow10Tab) := Lib.tabBelow_of_tabIs htab
  clear htab
  by_cases hks : k.size ≤ 524288
  · by_cases his : it.size ≤ 524288
    · have d1 : decide ((524288 : Int) < (k.size : Int)) = false := by simp; omega
      have d2 : decide ((524288 : Int) < (it.size : Int)) = false := by simp; omega
      go_enter Tryd.func3, Tryd.ntmps3
      go_wp2_with (go_at_call 6; refine (bytes6_any k it t _ hk hi).mono ?_; rintro e wx ⟨⟨r, rfl⟩, hw⟩; obtain rfl := hw.symm; cases r)
      · go_ret
        exact ⟨rfl, Below.refl _ _⟩
      · refine (string_any k it t 0 0 0 _ h0 h1 (by omega) (by omega) (tab_up HT.out ((Below.refl _ _).alloc (Nat.le_refl _) _))).mono ?_
        rintro e w1 ⟨rfl, hb1⟩
        have HB1 : Hid (Below w.heap.size w w1) := ((Below.refl _ _).alloc (Nat.le_refl _) _).trans (hb1.mono (by simp))
        clear hb1
        obtain ⟨s, hs⟩ : ∃ s : ByteArray, s = ⟨(opText k t it).toArray⟩ := ⟨_, rfl⟩
        rw [← hs]
        have Hs : Hid (s.data.toList = opText k t it) := by subst hs; rfl
        have hss : k.size + (Lib.itoa t).length ≤ s.size := by
          subst hs
          show _ ≤ (opText k t it).toArray.size
          rw [List.size_toArray]
          cases hp : hasI k
          · rw [len_bare hp]; omega
          · rw [len_item hp]; omega
        have hsl : s.size ≤ 2000000 := by
          subst hs
          show (opText k t it).toArray.size ≤ _
          have := Lib.itoa_length_le t h0 h1
          rw [List.size_toArray]
          cases hp : hasI k
          · rw [len_bare hp]; omega
          · rw [len_item hp]; omega
        have Hss : Hid (k.size + (Lib.itoa t).length ≤ s.size) := hss
        clear hs hss
        go_wp2_with fail
        refine (itoa_any t _ h0 h1).mono ?_
        rintro e w2 ⟨rfl, hb2⟩
        have HB2 : Hid (Below w.heap.size w w2) := HB1.out.trans (hb2.mono HB1.out.size)
        clear hb2
        obtain ⟨nu, hnu⟩ : ∃ s : ByteArray, s = ⟨(Lib.itoa t).toArray⟩ := ⟨_, rfl⟩
        rw [← hnu]
        have Hnu : Hid (nu.data.toList = Lib.itoa t) := by subst hnu; rfl
        have hnl : nu.size = (Lib.itoa t).length := by subst hnu; simp [ByteArray.size]
        have hnl2 : nu.size ≤ 21 := by rw [hnl]; exact Lib.itoa_length_le t h0 h1
        have d3 : decide ((s.size : Int) < (k.size : Int) + (nu.size : Int)) = false := by
          have := Hss.out
          rw [← hnl] at this
          simp
          omega
        have hle : k.size + nu.size ≤ s.size := by rw [hnl]; exact Hss.out
        have hpre : ((s.extract 0 (k.size + nu.size)).toList == (k ++ nu).toList) = true := by
          have e1 : (s.extract 0 (k.size + nu.size)).data.toList = k.data.toList ++ Lib.itoa t := by
            have e2 : s.data.toList = (k.data.toList ++ Lib.itoa t) ++ (if hasI k then [40] ++ it.data.toList ++ [41] else []) := Hs.out
            have e3 : (s.extract 0 (k.size + nu.size)).data.toList = s.data.toList.take (k.size + nu.size) := by simp [ByteArray.data_extract]
            rw [e3, e2, hnl, ← size_list k, ← List.length_append, List.take_left]
          rw [beq_lists e1 (y := k.data.toList ++ Lib.itoa t) (by rw [ByteArray.data_append, Array.toList_append, Hnu.out])]
          simp
        have hW : (s.toList == (({ data := #[119] } : ByteArray) ++ nu ++ { data := #[40] } ++ it ++ { data := #[41] }).toList) = decide (opText k t it = [119] ++ Lib.itoa t ++ [40] ++ it.data.toList ++ [41]) :=
          beq_lists Hs.out (by simp only [ByteArray.data_append, Array.toList_append, Hnu.out])
        have hI : (s.toList == (({ data := #[105] } : ByteArray) ++ nu ++ { data := #[40] } ++ it ++ { data := #[41] }).toList) = decide (opText k t it = [105] ++ Lib.itoa t ++ [40] ++ it.data.toList ++ [41]) :=
          beq_lists Hs.out (by simp only [ByteArray.data_append, Array.toList_append, Hnu.out])
        have hpl := plain3 k it t
        rw [← hW, ← hI] at hpl
        have Hpl : Hid _ := hpl
        clear hnu hnl hW hI hpl
        go_wp2_with (go_at_call 9; refine (writes_any k _).mono ?_; rintro e wx ⟨rfl, hw⟩; obtain rfl := hw.symm)
        all_goals (go_ret; refine ⟨?_, HB2.out⟩)
        · have := Hpl.out
          simp_all
        · have := Hpl.out
          simp_all
    · have d1 : decide ((524288 : Int) < (k.size : Int)) = false := by simp; omega
      have d2 : decide ((524288 : Int) < (it.size : Int)) = true := by simp; omega
      go_enter Tryd.func3, Tryd.ntmps3
      go_wp2_with (go_at_call 6; refine (bytes6_any k it t _ hk hi).mono ?_; rintro e wx ⟨⟨r, rfl⟩, hw⟩; obtain rfl := hw.symm; cases r)
      all_goals (go_ret; exact ⟨rfl, Below.refl _ _⟩)
  · have d1 : decide ((524288 : Int) < (k.size : Int)) = true := by simp; omega
    go_enter Tryd.func3, Tryd.ntmps3
    go_wp2_with (go_at_call 6; refine (bytes6_any k it t _ hk hi).mono ?_; rintro e wx ⟨⟨r, rfl⟩, hw⟩; obtain rfl := hw.symm; cases r)
    all_goals (go_ret; exact ⟨rfl, Below.refl _ _⟩)
end Go.Proofs.Qxb6609101aDoor
