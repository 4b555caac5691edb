import Derived.Test.Qxb6609101aA7
import Derived.Deep.RegionHeld3
namespace Go.Proofs.Qxb6609101a
open Go.RowKit

def noI (o : OpV) : Bool := !hasI o.k

theorem kept_at {os : List OpV} {k : Nat} (hk : k < os.length) (h : noI os[k] = true) : ∃ hj : ((os.take k).filter noI).length < (os.filter noI).length, (os.filter noI)[((os.take k).filter noI).length] = os[k] := by
  have e : os.filter noI = (os.take k).filter noI ++ os[k] :: (os.drop (k + 1)).filter noI := by
    conv => lhs; rw [← List.take_append_drop k os, List.filter_append, List.drop_eq_getElem_cons hk, List.filter_cons_of_pos h]
  have hj : ((os.take k).filter noI).length < (os.filter noI).length := by rw [e]; simp
  refine ⟨hj, ?_⟩
  simp [e]

theorem kept_step {os : List OpV} {k : Nat} (hk : k < os.length) (h : noI os[k] = true) : ((os.take (k + 1)).filter noI).length = ((os.take k).filter noI).length + 1 := by
  rw [List.take_succ_eq_append_getElem hk, List.filter_append]
  simp [h]

theorem gone_step {os : List OpV} {k : Nat} (hk : k < os.length) (h : noI os[k] = false) : ((os.take (k + 1)).filter noI).length = ((os.take k).filter noI).length := by
  rw [List.take_succ_eq_append_getElem hk, List.filter_append]
  simp [h]

theorem filter_take_le (os : List OpV) (k : Nat) : ((os.take k).filter noI).length ≤ k := by
  have := List.length_filter_le noI (os.take k)
  simp at this
  omega

theorem hasI_wi {s : ByteArray} (h : hasI s = false) : (s.toList == [119]) = false ∧ (s.toList == [105]) = false := by
  simp only [hasI, Bool.or_eq_false_iff] at h
  exact ⟨h.1.1.1.1.1.1.2, h.1.1.1.1.1.2⟩

set_option maxHeartbeats 400000 in
theorem kept_any (os gs : List OpV) (a ga : Option Addr) (cap gcap : Nat) (w : World) (hm : os.length ≤ 1000000) (ho : InAt w a os) (hgo : OpsAt w ga gs) (hgs : gs = os.filter noI) :
    Calls Try.prog 9 #[.slice ga gs.length gcap, .slice a os.length cap, .bool true] w fun e w' => (∃ n : Int, e = .returned (.tuple #[.bool true, .int .i64 n])) ∧ Below w.heap.size w w' := by
  have HO : Hid (InAt w a os) := ho
  have HG : Hid (OpsAt w ga gs) := hgo
  have HS : Hid (gs = os.filter noI) := hgs
  have hgl : gs.length ≤ 1000000 := by rw [hgs]; exact Nat.le_trans (List.length_filter_le _ _) hm
  clear ho hgo hgs
  go_enter Try.func9, Try.ntmps9
  go_wp2
  go_loopw [8, 9, 10, 11, 12] (fun s8 s9 s10 _ _ wr => ∃ k n : Nat, k ≤ os.length ∧ n ≤ k ∧ s8 = .int .i64 ((os.take k).filter noI).length ∧ s9 = .int .i64 n ∧ s10 = .int .i64 k ∧ Below w.heap.size w wr) (fun _ _ s10 _ _ _ => os.length - (intOf s10).toNat)
  case atStart => exact ⟨0, 0, Nat.zero_le _, Nat.le_refl _, by simp, rfl, rfl, Below.refl _ _⟩
  case round =>
    obtain ⟨k, n, hk, hn, rfl, rfl, rfl, hbel⟩ := hrel
    have hfl := filter_take_le os k
    by_cases hlt : k < os.length
    · rcases HO.out with hnn | ⟨b, off, rfl, hb, hcs⟩
      · subst hnn; simp at hlt
      · have e : ∀ o, wr.cell? ⟨b, o, none⟩ = w.cell? ⟨b, o, none⟩ := fun o => hbel.cell hb
        obtain ⟨c0, c1, c2, c3, c4⟩ := hcs k hlt
        rw [← e] at c0 c1 c2 c3 c4
        clear e hcs
        have HB : Hid (Below w.heap.size w wr) := hbel
        cases hp : hasI os[k].k
        · have hnI : noI os[k] = true := by simp [noI, hp]
          obtain ⟨hj, hat⟩ := kept_at hlt hnI
          have hst := kept_step hlt hnI
          rw [← HS.out] at hj
          have Hst : Hid _ := hst
          have hat' : gs[((os.take k).filter noI).length] = os[k] := by simp only [HS.out]; exact hat
          rcases HG.out with hnn | ⟨gb, goff, rfl, hgb, hgcs⟩
          · subst hnn; simp at hj
          · obtain ⟨d0, d1, d2, d3, d4, d5⟩ := hgcs _ hj
            have e : ∀ o, wr.cell? ⟨gb, o, none⟩ = w.cell? ⟨gb, o, none⟩ := fun o => hbel.cell hgb
            rw [← e] at d0 d1 d2 d3 d4 d5
            rw [hat'] at d0 d1 d2 d3 d4
            clear e hgcs hat' hat hst hbel hnI
            generalize ((os.take k).filter noI).length = j at *
            have hd : decide ((gs.length : Int) ≤ (j : Int)) = false := by simp; omega
            have hd' : decide (gs.length ≤ j) = false := by simp; omega
            obtain ⟨u, hu⟩ : ∃ u, u = os[k] := ⟨_, rfl⟩
            rw [← hu] at c0 c1 c2 c3 c4 d0 d1 d2 d3 d4 hp
            have Hp : Hid (hasI u.k = false) := hp
            obtain ⟨k1, k2⟩ := hasI_wi hp
            have hb' : b < wr.heap.size := Nat.lt_of_lt_of_le hb HB.out.size
            have hgb' : gb < wr.heap.size := Nat.lt_of_lt_of_le hgb HB.out.size
            clear hu hp
            go_wp2_with (go_at_call 17; refine (takesItem_any _ _).mono ?_; rintro e wx ⟨rfl, hw⟩; obtain rfl := hw.symm; rw [Hp.out])
            go_region_held3 (fun W => W.cell? ⟨b, off + k * 5, none⟩ = some (.string u.k) ∧ W.cell? ⟨b, off + k * 5 + 1, none⟩ = some (.int .i64 u.t) ∧ W.cell? ⟨b, off + k * 5 + 2, none⟩ = some (.string u.it) ∧
                W.cell? ⟨b, off + k * 5 + 3, none⟩ = some (.int .i64 u.l) ∧ W.cell? ⟨b, off + k * 5 + 4, none⟩ = some (.int .i64 u.c) ∧
                W.cell? ⟨gb, goff + j * 6, none⟩ = some (.string u.k) ∧ W.cell? ⟨gb, goff + j * 6 + 1, none⟩ = some (.int .i64 u.t) ∧ W.cell? ⟨gb, goff + j * 6 + 2, none⟩ = some (.string u.it) ∧
                W.cell? ⟨gb, goff + j * 6 + 3, none⟩ = some (.int .i64 u.l) ∧ W.cell? ⟨gb, goff + j * 6 + 4, none⟩ = some (.int .i64 u.c) ∧ W.cell? ⟨gb, goff + j * 6 + 5, none⟩ = some (.int .i64 0)) (go_keep)
              (first | (go_at_call 18; refine (sameOp_any _ _ _ _ _ _ _ _ _ _ _ _).mono ?_; rintro e w2 ⟨rfl, hb2⟩; rw [OpV.same_refl]; have h1 : ∀ o, w2.cell? ⟨b, o, none⟩ = wr.cell? ⟨b, o, none⟩ := (fun o => hb2.cell (p := ⟨b, o, none⟩) hb'); have h2 : ∀ o, w2.cell? ⟨gb, o, none⟩ = wr.cell? ⟨gb, o, none⟩ := (fun o => hb2.cell (p := ⟨gb, o, none⟩) hgb')))
            have HB2 : Hid (Below w.heap.size w w2) := HB.out.drew.trans (hb2.mono HB.out.size)
            clear c0 c1 c2 c3 c4 d0 d1 d2 d3 d4 d5 hb2
            go_wp2
            go_roundw
            case rel => exact ⟨k + 1, n, by omega, by omega, by rw [Hst.out]; go_num, rfl, by go_num, HB2.out⟩
            case measure => simp [intOf]; omega
        · have hnI : noI os[k] = false := by simp [noI, hp]
          have Hst : Hid _ := gone_step hlt hnI
          generalize ((os.take k).filter noI).length = j at *
          obtain ⟨u, hu⟩ : ∃ u, u = os[k] := ⟨_, rfl⟩
          rw [← hu] at c0 c1 c2 c3 c4 hp
          have Hp : Hid (hasI u.k = true) := hp
          clear hu hp hnI hbel
          go_wp2_with (go_at_call 17; refine (takesItem_any _ _).mono ?_; rintro e wx ⟨rfl, hw⟩; obtain rfl := hw.symm; rw [Hp.out])
          all_goals
            go_roundw
            case rel => exact ⟨k + 1, n + 1, by omega, by omega, by rw [Hst.out], by go_num, by go_num, HB.out⟩
            case measure => simp [intOf]; omega
    · have hke : k = os.length := by omega
      have hE : ((os.take k).filter noI).length = gs.length := by rw [hke, List.take_of_length_le (Nat.le_refl _), HS.out]
      rw [hE]
      have hq : ((gs.length : Int) == (gs.length : Int)) = true := by simp
      clear hE
      go_wp2
      go_ret2
      exact ⟨⟨_, rfl⟩, hbel⟩
end Go.Proofs.Qxb6609101a
