import Derived.Test.Qxb6609101aA8
import Derived.Deep.QuietTactic
import Derived.BigQuiet
import Derived.LaidEqlPtr
namespace Go.Proofs.Qxb6609101a
open Go.RowKit

set_option maxHeartbeats 400000 in
theorem unchanged_any (os : List OpV) (a sa : Option Addr) (cap scap : Nat) (w : World) (hm : os.length ≤ 1000000) (hna : sa = none ↔ a = none) (ho : InAt w a os) (hs : OpsAt w sa os) :
    Calls Try.prog 10 #[.slice sa os.length scap, .slice a os.length cap] w fun e w' => e = .returned (.bool true) ∧ Below w.heap.size w w' := by
  have hnil1 := fun w a n c => Lib.run_eql_slice_nil (P := Try.prog) w 22 25 a n c 0 0 Try.underlying22
  have hnil2 := fun w a n c => Lib.run_eql_slice_nil (P := Try.prog) w 26 39 a n c 0 0 Try.underlying26
  have HO : Hid (InAt w a os) := ho
  have HS : Hid (OpsAt w sa os) := hs
  obtain ⟨bn, hbn⟩ : ∃ bn, a.isNone = bn := ⟨_, rfl⟩
  have hse : sa.isNone = bn := by rw [← hbn]; cases sa <;> cases a <;> simp_all
  have hll : ((os.length : Int) != (os.length : Int)) = false := by simp
  clear ho hs hna
  go_enter Try.func10, Try.ntmps10
  go_wp2
  go_loopw [5] (fun s5 wr => ∃ k : Nat, k ≤ os.length ∧ s5 = .int .i64 k ∧ Below w.heap.size w wr) (fun s5 _ => os.length - (intOf s5).toNat)
  case atStart => exact ⟨0, Nat.zero_le _, rfl, Below.refl _ _⟩
  case round =>
    obtain ⟨k, hk, rfl, hbel⟩ := hrel
    by_cases hlt : k < os.length
    · rcases HO.out with hnn | ⟨b, off, rfl, hb, hcs⟩
      · subst hnn; simp at hlt
      rcases HS.out with hnn | ⟨gb, goff, rfl, hgb, hgcs⟩
      · subst hnn; simp at hlt
      have e : ∀ o, wr.cell? ⟨b, o, none⟩ = w.cell? ⟨b, o, none⟩ := fun o => hbel.cell hb
      have eg : ∀ o, wr.cell? ⟨gb, o, none⟩ = w.cell? ⟨gb, o, none⟩ := fun o => hbel.cell hgb
      obtain ⟨c0, c1, c2, c3, c4⟩ := hcs k hlt
      obtain ⟨d0, d1, d2, d3, d4, d5⟩ := hgcs k hlt
      rw [← e] at c0 c1 c2 c3 c4
      rw [← eg] at d0 d1 d2 d3 d4 d5
      have HB : Hid (Below w.heap.size w wr) := hbel
      have hb' : b < wr.heap.size := Nat.lt_of_lt_of_le hb HB.out.size
      have hgb' : gb < wr.heap.size := Nat.lt_of_lt_of_le hgb HB.out.size
      obtain ⟨u, hu⟩ : ∃ u, u = os[k] := ⟨_, rfl⟩
      rw [← hu] at c0 c1 c2 c3 c4 d0 d1 d2 d3 d4
      clear e eg hcs hgcs hbel hnil1 hnil2 hse hbn hu
      go_wp2
      go_region_held3 (fun W => W.cell? ⟨b, off + k * 5, none⟩ = some (.string u.k) ∧ W.cell? ⟨b, off + k * 5 + 1, none⟩ = some (.int .i64 u.t) ∧ W.cell? ⟨b, off + k * 5 + 2, none⟩ = some (.string u.it) ∧
          W.cell? ⟨b, off + k * 5 + 3, none⟩ = some (.int .i64 u.l) ∧ W.cell? ⟨b, off + k * 5 + 4, none⟩ = some (.int .i64 u.c) ∧
          W.cell? ⟨gb, goff + k * 6, none⟩ = some (.string u.k) ∧ W.cell? ⟨gb, goff + k * 6 + 1, none⟩ = some (.int .i64 u.t) ∧ W.cell? ⟨gb, goff + k * 6 + 2, none⟩ = some (.string u.it) ∧
          W.cell? ⟨gb, goff + k * 6 + 3, none⟩ = some (.int .i64 u.l) ∧ W.cell? ⟨gb, goff + k * 6 + 4, none⟩ = some (.int .i64 u.c) ∧ W.cell? ⟨gb, goff + k * 6 + 5, none⟩ = some (.int .i64 0)) (go_keep)
        (first | (go_at_call 18; refine (sameOp_any _ _ _ _ _ _ _ _ _ _ _ _).mono ?_; rintro e w2 ⟨rfl, hb2⟩; rw [OpV.same_refl]; have h1 : ∀ o, w2.cell? ⟨b, o, none⟩ = wr.cell? ⟨b, o, none⟩ := (fun o => hb2.cell (p := ⟨b, o, none⟩) hb'); have h2 : ∀ o, w2.cell? ⟨gb, o, none⟩ = wr.cell? ⟨gb, o, none⟩ := (fun o => hb2.cell (p := ⟨gb, o, none⟩) hgb')))
      have HB2 : Hid (Below w.heap.size w w2) := HB.out.drew.trans (hb2.mono HB.out.size)
      clear c0 c1 c2 c3 c4 d0 d1 d2 d3 d4 d5 hb2
      go_wp2
      go_roundw
      case rel => exact ⟨k + 1, by omega, by go_num, HB2.out⟩
      case measure => simp [intOf]; omega
    · go_wp2
      go_ret
      exact ⟨rfl, hbel⟩

set_option maxHeartbeats 400000 in
theorem sameSlice_any (a : Option Addr) (n cap : Nat) (w : World) (ha : Plain a) (hn : n ≤ 1000000) (hz : a = none → n = 0) :
    Calls Try.prog 11 #[.slice a n cap, .slice a n cap] w fun e w' => e = .returned (.bool true) ∧ Below w.heap.size w w' := by
  have hnil2 := fun w a n c => Lib.run_eql_slice_nil (P := Try.prog) w 26 39 a n c 0 0 Try.underlying26
  rcases ha with rfl | ⟨b, off, rfl⟩
  · obtain rfl := hz rfl
    go_enter Try.func11, Try.ntmps11
    go_wp2
    go_quiet (fail)
    go_wp2
    go_ret
    exact ⟨rfl, below_drewN (Below.refl _ _) _⟩
  · by_cases h0 : n = 0
    · subst h0
      go_enter Try.func11, Try.ntmps11
      go_wp2
      go_quiet (fail)
      go_wp2
      go_ret
      exact ⟨rfl, below_drewN (Below.refl _ _) _⟩
    · have h1 : ((n : Int) == 0) = false := beq_eq_false_iff_ne.2 (by omega)
      have hpos : (0 : Int) < (n : Int) := by omega
      obtain ⟨i0, hi, -⟩ := info_parts Try.info39
      have hpe := fun w => run_eql_ptr_same (P := Try.prog) w (⟨b, off, none⟩ : Addr) Try.underlying47 hi
      clear hi
      go_enter Try.func11, Try.ntmps11
      go_wp2
      go_quiet (fail)
      go_wp2
      go_ret
      exact ⟨rfl, below_drewN (Below.refl _ _) _⟩
end Go.Proofs.Qxb6609101a
