import Derived.Test.Qxb6609101aFmtA1
namespace Go.Proofs.Qxb6609101aFmt
open Go.RowKit

theorem Tryf.info5 : (Tryf.prog.info? 5).map (fun i => (i.zero, i.size, i.bytes)) = some (some (.int .u8 0), 1, 1) := by kernel_rfl

def IsBool (e : Ending) : Prop := ∃ r, e = .returned (.bool r)

set_option maxHeartbeats 400000 in
theorem bytes5_any (a : Option Addr) (n cap : Nat) (s : ByteArray) (w : World) (hn : n ≤ 9223372036854775807) (hs : s.size ≤ 9223372036854775807) :
    Calls Tryf.prog 5 #[.slice a n cap, .string s] w fun e w' => IsBool e ∧ w' = w := by
  go_enter Tryf.func5, Tryf.ntmps5
  go_wp2
  all_goals (go_ret; exact ⟨⟨_, rfl⟩, rfl⟩)

set_option maxHeartbeats 400000 in
theorem bytes10_any (a : Option Addr) (n cap : Nat) (s : ByteArray) (w : World) (hn : n ≤ 9223372036854775807) (hs : s.size ≤ 9223372036854775807) :
    Calls Tryf.prog 10 #[.slice a n cap, .string s] w fun e w' => IsBool e ∧ w' = w := by
  go_enter Tryf.func10, Tryf.ntmps10
  go_wp2
  all_goals (go_ret; exact ⟨⟨_, rfl⟩, rfl⟩)

theorem clone_nil (c : Nat) (w : World) :
    Calls Tryf.prog 6 #[.slice none 0 c] w fun e w' => e = .returned (.slice none 0 0) ∧ w' = w := by
  have hnil := fun w a n c => Lib.run_eql_slice_nil (P := Tryf.prog) w 22 5 a n c 0 0 Tryf.underlying22
  go_enter Tryf.func6, Tryf.ntmps6
  go_wp2
  go_ret
  exact ⟨rfl, rfl⟩

theorem ownB_of_owns {w : World} {base g n cap : Nat} {cs : List Value} (h : w.ownsRow base 5 1 (.slice (some ⟨g, 0, none⟩) n cap) n cs) : base ≤ g ∧ OwnB w g cap [] := by
  rcases h.2 with ⟨h', _⟩ | ⟨g', cap', cur, h', hb, hg, hnc, hcm, hcs, htake⟩
  · simp at h'
  · simp only [Value.slice.injEq, Option.some.injEq, Addr.mk.injEq, and_true, true_and] at h'
    obtain ⟨rfl, rfl⟩ := h'
    exact ⟨hb, cur.toList, by simpa using hg, by simpa using hcs, Nat.zero_le _, by simp [vals]⟩

set_option maxHeartbeats 400000 in
theorem clone_some (zs : List Int) (ad : Addr) (cap : Nat) (w : World) (hm : zs.length ≤ 10000000) (ho : BytesAt w (some ad) zs) :
    Calls Tryf.prog 6 #[.slice (some ad) zs.length cap] w fun e w' => e = .returned (.slice (some ⟨w.heap.size, 0, none⟩) zs.length zs.length) ∧ OwnB w' w.heap.size zs.length zs ∧ Below w.heap.size w w' := by
  have hnil := fun w a n c => Lib.run_eql_slice_nil (P := Tryf.prog) w 22 5 a n c 0 0 Tryf.underlying22
  obtain ⟨i0, hi, hz0, hz1, hz2⟩ := info_parts Tryf.info5
  have HO : Hid (BytesAt w (some ad) zs) := ho
  clear ho
  go_enter Tryf.func6, Tryf.ntmps6
  go_wp2_with (at_make; refine wpList_make_full _ rfl _ _ 22 rfl w.heap.size 5 i0 _ 1 Tryf.underlying22 hi hz0 hz1 .i64 .i64 zs.length zs.length zs.length rfl rfl rfl rfl ?c2 ?c3 ?c4 ?_)
  case c2 => rw [hz2]; omega
  case c3 => unfold maxLen; omega
  case c4 => simp
  intro w1 hown hgrow
  have hb1 : Below w.heap.size w w1 := (Below.refl w.heap.size w).grown hgrow (Nat.le_refl _) (by simp)
  have HO1 : Hid (OwnB w1 w.heap.size zs.length []) := (ownB_of_owns hown).2
  have HB1 : Hid (Below w.heap.size w w1) := hb1
  clear hown hgrow hb1 hi hz0 hz1 hz2 hnil
  go_wp2
  go_loopw [4] (fun s4 wr => ∃ k : Nat, k ≤ zs.length ∧ s4 = .int .i64 k ∧ OwnB wr w.heap.size zs.length (zs.take k) ∧ Below w.heap.size w wr) (fun s4 _ => zs.length - (intOf s4).toNat)
  case atStart => exact ⟨0, Nat.zero_le _, rfl, by simpa using HO1.out, HB1.out⟩
  case round =>
    obtain ⟨k, hk, rfl, hown, hbel⟩ := hrel
    by_cases hlt : k < zs.length
    · rcases HO.out with hn | ⟨b, off, he, hb, hcs⟩
      · subst hn; simp at hlt
      · simp only [Option.some.injEq] at he
        subst he
        have c0 := hcs k hlt
        rw [← hbel.cell (p := ⟨b, off + k, none⟩) hb] at c0
        obtain ⟨ou, d0⟩ := hown.isSome k hlt
        have hfz := hown.frozen k
        have HOw : Hid (OwnB wr w.heap.size zs.length (zs.take k)) := hown
        have HB : Hid (Below w.heap.size w wr) := hbel
        clear hcs hown hbel
        obtain ⟨u, hu⟩ : ∃ u, u = zs[k] := ⟨_, rfl⟩
        rw [← hu] at c0
        have HU : Hid (u = zs[k]) := hu
        clear hu
        go_wp2
        go_roundw
        case rel =>
          refine ⟨k + 1, by omega, by go_num, ?_, HB.out.setCell (Nat.le_refl _) _⟩
          have := HOw.out.push (by simp; omega) u
          rw [show (zs.take k).length = k by simp; omega] at this
          rw [List.take_succ_eq_append_getElem hlt, ← HU.out]
          exact this
        case measure => simp [intOf]; omega
    · obtain rfl : k = zs.length := by omega
      go_wp2
      go_ret
      exact ⟨rfl, by simpa using hown, hbel⟩

/-- Does it begin with the mark? -/
def hasMark (zs : List Int) : Bool := zs.take 3 == [239, 187, 191]

theorem hasMark_short {zs : List Int} (h : zs.length < 3) : hasMark zs = false := by
  unfold hasMark
  rw [beq_eq_false_iff_ne]
  intro e
  have := congrArg List.length e
  simp at this
  omega

set_option maxHeartbeats 400000 in
theorem hasMark_any (zs : List Int) (a : Option Addr) (cap : Nat) (w : World) (ho : BytesAt w a zs) (hm : zs.length ≤ 10000000) :
    Calls Tryf.prog 8 #[.slice a zs.length cap] w fun e w' => e = .returned (.bool (hasMark zs)) ∧ w' = w := by
  by_cases h3 : 3 ≤ zs.length
  · match zs, h3 with
    | z0 :: z1 :: z2 :: r, _ =>
      rcases ho with h | ⟨b, off, rfl, hb, hcs⟩
      · cases h
      have c0 := hcs 0 (by simp)
      have c1 := hcs 1 (by simp)
      have c2 := hcs 2 (by simp)
      simp only [List.getElem_cons_zero, List.getElem_cons_succ, Nat.add_zero] at c0 c1 c2
      have hlen : (z0 :: z1 :: z2 :: r).length = r.length + 3 := rfl
      rw [hlen]
      rw [hlen] at hm
      clear hcs hlen
      go_enter Tryf.func8, Tryf.ntmps8
      go_wp2
      all_goals (go_ret; exact ⟨ret_bool (by simp_all [hasMark]), rfl⟩)
  · go_enter Tryf.func8, Tryf.ntmps8
    go_wp2
    go_ret
    exact ⟨ret_bool (hasMark_short (by omega)).symm, rfl⟩

set_option maxHeartbeats 400000 in
theorem sameBytes_any (zs : List Int) (a b : Option Addr) (ca cb : Nat) (w : World) (ha : BytesAt w a zs) (hb : BytesAt w b zs) (hm : zs.length ≤ 10000000) :
    Calls Tryf.prog 16 #[.slice a zs.length ca, .slice b zs.length cb] w fun e w' => e = .returned (.bool true) ∧ ∃ n, w' = w.drewN n := by
  have HA : Hid (BytesAt w a zs) := ha
  have HB : Hid (BytesAt w b zs) := hb
  clear ha hb
  go_enter Tryf.func16, Tryf.ntmps16
  go_wp2
  go_loopw [5] (fun s5 wr => ∃ k : Nat, k ≤ zs.length ∧ s5 = .int .i64 k ∧ ∃ n, wr = w.drewN n) (fun s5 _ => zs.length - (intOf s5).toNat)
  case atStart => exact ⟨0, Nat.zero_le _, rfl, 0, rfl⟩
  case round =>
    obtain ⟨k, hk, rfl, n, rfl⟩ := hrel
    by_cases hlt : k < zs.length
    · rcases HA.out with hnn | ⟨ba, offa, rfl, hba, hca⟩
      · subst hnn; simp at hlt
      rcases HB.out with hnn | ⟨bb, offb, rfl, hbb, hcb⟩
      · subst hnn; simp at hlt
      have c0 := hca k hlt
      have d0 := hcb k hlt
      generalize zs[k] = u at c0 d0
      clear hca hcb
      have hne : (u != u) = false := by simp
      go_wp2
      go_quiet (fail)
      go_wp2
      go_roundw
      case rel => exact ⟨k + 1, by omega, by go_num, n + nq, rfl⟩
      case measure => simp [intOf]; omega
    · go_wp2
      go_ret
      exact ⟨rfl, n, rfl⟩
end Go.Proofs.Qxb6609101aFmt
