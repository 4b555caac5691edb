import Derived.Test.Qxb6609101aA6
namespace Go.Proofs.Qxb6609101a
open Go.RowKit

/-- The operations that came in, five cells each. -/
def InAt (w : World) (a : Option Addr) (os : List OpV) : Prop :=
  os = [] ∨ ∃ b off, a = some ⟨b, off, none⟩ ∧ b < w.heap.size ∧ ∀ i (h : i < os.length),
    w.cell? ⟨b, off + i * 5, none⟩ = some (.string os[i].k) ∧ w.cell? ⟨b, off + i * 5 + 1, none⟩ = some (.int .i64 os[i].t) ∧ w.cell? ⟨b, off + i * 5 + 2, none⟩ = some (.string os[i].it) ∧
    w.cell? ⟨b, off + i * 5 + 3, none⟩ = some (.int .i64 os[i].l) ∧ w.cell? ⟨b, off + i * 5 + 4, none⟩ = some (.int .i64 os[i].c)

theorem InAt.below {w w' : World} {a : Option Addr} {os : List OpV} (h : InAt w a os) (hb : Below w.heap.size w w') : InAt w' a os := by
  rcases h with h | ⟨b, off, ha, hlt, h⟩
  · exact .inl h
  · refine .inr ⟨b, off, ha, Nat.lt_of_lt_of_le hlt hb.size, fun i hi => ?_⟩
    have e : ∀ o, w'.cell? ⟨b, o, none⟩ = w.cell? ⟨b, o, none⟩ := fun o => hb.cell hlt
    simp only [e]
    exact h i hi

def zeroOp : OpV := ⟨⟨#[]⟩, 0, ⟨#[]⟩, 0, 0⟩

theorem flat_zero (n : Nat) : (madeCells #[.string ⟨#[]⟩, .int .i64 0, .string ⟨#[]⟩, .int .i64 0, .int .i64 0, .int .i64 0] (n * 6)).toList = flat (List.replicate n zeroOp) := by
  apply List.ext_getElem?
  intro j
  by_cases hj : j < n * 6
  · have hd : j / 6 < n := by omega
    have hg := flat_get (List.replicate n zeroOp) (j / 6) (by simpa using hd) (j % 6) (Nat.mod_lt _ (by omega))
    rw [show j / 6 * 6 + j % 6 = j by omega] at hg
    rw [hg]
    simp only [madeCells, Array.toList_map, List.getElem?_map, Array.toList_range, List.getElem?_range hj, Option.map_some, List.getElem_replicate]
    have h6 : j % 6 < 6 := Nat.mod_lt _ (by omega)
    show some (#[Value.string ⟨#[]⟩, .int .i64 0, .string ⟨#[]⟩, .int .i64 0, .int .i64 0, .int .i64 0][j % 6]!) = zeroOp.cells[j % 6]?
    generalize j % 6 = r at h6
    match r, h6 with
    | 0, _ => rfl
    | 1, _ => rfl
    | 2, _ => rfl
    | 3, _ => rfl
    | 4, _ => rfl
    | 5, _ => rfl
  · rw [List.getElem?_eq_none (by simp [madeCells]; omega), List.getElem?_eq_none (by rw [flat_length]; simp; omega)]

theorem made_step {os : List OpV} {k : Nat} (h : k < os.length) : (os.take k ++ List.replicate (os.length - k) zeroOp).set k os[k] = os.take (k + 1) ++ List.replicate (os.length - (k + 1)) zeroOp := by
  rw [List.take_succ_eq_append_getElem h, List.set_append_right _ _ (by simp; omega)]
  rw [show k - (os.take k).length = 0 by simp; omega, show os.length - k = (os.length - (k + 1)) + 1 by omega, List.replicate_succ, List.set_cons_zero, List.append_assoc]
  rfl

theorem toOps_nil (c : Nat) (w : World) :
    Calls Try.prog 5 #[.slice none 0 c] w fun e w' => e = .returned (.slice none 0 0) ∧ w' = w := by
  have hnil := fun w a n c => Lib.run_eql_slice_nil (P := Try.prog) w 22 25 a n c 0 0 Try.underlying22
  go_enter Try.func5, Try.ntmps5
  go_wp2
  go_ret
  exact ⟨rfl, rfl⟩

set_option maxHeartbeats 400000 in
theorem toOps_any (os : List OpV) (ad : Addr) (cap : Nat) (w : World) (hm : os.length ≤ 1000000) (ho : InAt w (some ad) os) :
    Calls Try.prog 5 #[.slice (some ad) os.length cap] w fun e w' => e = .returned (.slice (some ⟨w.heap.size, 0, none⟩) os.length os.length) ∧ Own w' w.heap.size os.length os ∧ Below w.heap.size w w' := by
  have hnil := fun w a n c => Lib.run_eql_slice_nil (P := Try.prog) w 22 25 a n c 0 0 Try.underlying22
  obtain ⟨i0, hi, hz0, hz1, hz2⟩ := info_parts Try.info39
  have HO : Hid (InAt w (some ad) os) := ho
  clear ho
  go_enter Try.func5, Try.ntmps5
  go_wp2_with (at_make; refine wpList_make_full _ rfl _ _ 26 rfl w.heap.size 39 i0 _ 6 Try.underlying26 hi hz0 hz1 .i64 .i64 os.length os.length os.length rfl rfl rfl rfl ?c2 ?c3 ?c4 ?_)
  case c2 => rw [hz2]; omega
  case c3 => unfold maxLen; omega
  case c4 => simp
  intro w1 hown hgrow
  rw [flat_zero] at hown
  have hb1 : Below w.heap.size w w1 := (Below.refl w.heap.size w).grown hgrow (Nat.le_refl _) (by simp)
  have ho1 := (own_of_owns (os := List.replicate os.length zeroOp) (by simp) hown).2
  have HO1 : Hid (Own w1 w.heap.size os.length (List.replicate os.length zeroOp)) := ho1
  have HB1 : Hid (Below w.heap.size w w1) := hb1
  clear hown hgrow hb1 ho1 hi hz0 hz1 hz2 hnil
  go_wp2
  go_loopw [4] (fun s4 wr => ∃ k : Nat, k ≤ os.length ∧ s4 = .int .i64 k ∧ Own wr w.heap.size os.length (os.take k ++ List.replicate (os.length - k) zeroOp) ∧ Below w.heap.size w wr) (fun s4 _ => os.length - (intOf s4).toNat)
  case atStart => exact ⟨0, Nat.zero_le _, rfl, by simpa using HO1.out, HB1.out⟩
  case round =>
    obtain ⟨k, hk, rfl, hown, hbel⟩ := hrel
    by_cases hlt : k < os.length
    · rcases HO.out with hn | ⟨b, off, he, hb, hcs⟩
      · subst hn; simp at hlt
      · simp only [Option.some.injEq] at he
        subst he
        have e : ∀ o, wr.cell? ⟨b, o, none⟩ = w.cell? ⟨b, o, none⟩ := fun o => hbel.cell hb
        obtain ⟨c0, c1, c2, c3, c4⟩ := hcs k hlt
        rw [← e] at c0 c1 c2 c3 c4
        have hgl := hown.lt
        have hb' : b < wr.heap.size := by omega
        have HOw : Hid (Own wr w.heap.size os.length (os.take k ++ List.replicate (os.length - k) zeroOp)) := hown
        have HB : Hid (Below w.heap.size w wr) := hbel
        clear e hcs hown hbel
        obtain ⟨u, hu⟩ : ∃ u, u = os[k] := ⟨_, rfl⟩
        rw [← hu] at c0 c1 c2 c3 c4
        have HU : Hid (u = os[k]) := hu
        clear hu
        go_wp2_with fail
        refine (toOp_any _ _ _ _ _ _).mono ?_
        rintro e w2 ⟨rfl, hb2⟩
        have hown2 := HOw.out.below hb2 hgl
        have hbel2 := HB.out.trans (hb2.mono (by omega))
        obtain ⟨ou, d0, d1, d2, d3, d4, d5⟩ : ∃ ou : OpV, w2.cell? ⟨w.heap.size, k * 6, none⟩ = some (.string ou.k) ∧ w2.cell? ⟨w.heap.size, k * 6 + 1, none⟩ = some (.int .i64 ou.t) ∧ w2.cell? ⟨w.heap.size, k * 6 + 2, none⟩ = some (.string ou.it) ∧
          w2.cell? ⟨w.heap.size, k * 6 + 3, none⟩ = some (.int .i64 ou.l) ∧ w2.cell? ⟨w.heap.size, k * 6 + 4, none⟩ = some (.int .i64 ou.c) ∧ w2.cell? ⟨w.heap.size, k * 6 + 5, none⟩ = some (.int .i64 0) := ⟨_, cells_at hown2 k (by simp; omega)⟩
        have hfz := hown2.frozen
        have HOw2 : Hid (Own w2 w.heap.size os.length (os.take k ++ List.replicate (os.length - k) zeroOp)) := hown2
        have HB2 : Hid (Below w.heap.size w w2) := hbel2
        clear c0 c1 c2 c3 c4 hown2 hbel2 hb2
        go_wp2
        go_roundw
        case rel => exact ⟨k + 1, by omega, by go_num, by rw [← made_step hlt, ← HU.out]; exact HOw2.out.set k (by simp; omega) u, HB2.out.trans (below_setCells _ _ (Nat.le_refl _) u.cells (k * 6) w2)⟩
        case measure => simp [intOf]; omega
    · obtain rfl : k = os.length := by omega
      go_wp2
      go_ret
      exact ⟨rfl, by simpa using hown, hbel⟩
end Go.Proofs.Qxb6609101a
