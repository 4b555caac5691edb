import Derived.Test.Qxb6609101aA3
namespace Go.Proofs.Qxb6609101a
open Go.RowKit

theorem Try.info39 : (Try.prog.info? 39).map (fun i => (i.zero, i.size, i.bytes)) = some (some (.agg #[.string ⟨#[]⟩, .int .i64 0, .string ⟨#[]⟩, .int .i64 0, .int .i64 0, .int .i64 0]), 6, 64) := by kernel_rfl

set_option maxHeartbeats 400000 in
theorem contains_any {g : FuncId} {p : ByteArray → Bool} (hg : Good g p) (os : List OpV) (a : Option Addr) (cap fb : Nat) (w : World) (hm : os.length ≤ 1000000) (ho : OpsAt w a os) (hf : w.cell? ⟨fb, 0, none⟩ = some (.func (.func g) #[] #[])) (hfb : fb < w.heap.size) :
    Calls Try.prog 14 #[.slice a os.length cap, .func (.func 13) #[] #[.pointer (some ⟨fb, 0, none⟩)]] w fun e w' => e = .returned (.bool (decide (0 ≤ idx p os))) ∧ Below w.heap.size w w' := by
  go_enter Try.func14, Try.ntmps14
  go_wp2_with (go_at_call 19; refine (index_any hg os a cap fb _ hm ho hf hfb).mono ?_; rintro e w' ⟨rfl, hb⟩)
  go_ret
  exact ⟨rfl, by assumption⟩

theorem opsAt_flat {w : World} {b off : Nat} {os : List OpV} (h : OpsAt w (some ⟨b, off, none⟩) os) : ∀ (j : Nat) (u : Value), (flat os)[j]? = some u → w.cell? ((⟨b, off, none⟩ : Addr).add j) = some u := by
  intro j u hu
  have hj : j < os.length * 6 := by
    have := (List.getElem?_eq_some_iff.1 hu).1
    rwa [flat_length] at this
  have had : (⟨b, off, none⟩ : Addr).add j = ⟨b, off + j, none⟩ := by unfold Addr.add; split <;> simp_all
  rw [had]
  rcases h with rfl | ⟨b', off', hab, _, h⟩
  · simp at hj
  · simp only [Option.some.injEq, Addr.mk.injEq, and_true] at hab
    obtain ⟨rfl, rfl⟩ := hab
    have hd : j / 6 < os.length := by omega
    obtain ⟨c0, c1, c2, c3, c4, c5⟩ := h (j / 6) hd
    have hg := flat_get os (j / 6) hd (j % 6) (Nat.mod_lt _ (by omega))
    rw [show j / 6 * 6 + j % 6 = j by omega, hu] at hg
    rw [show off + j = off + j / 6 * 6 + j % 6 by omega]
    have h6 : j % 6 < 6 := Nat.mod_lt _ (by omega)
    generalize j % 6 = r at hg h6
    match r, h6 with
    | 0, _ => rw [hg]; exact c0
    | 1, _ => rw [hg]; exact c1
    | 2, _ => rw [hg]; exact c2
    | 3, _ => rw [hg]; exact c3
    | 4, _ => rw [hg]; exact c4
    | 5, _ => rw [hg]; exact c5

theorem own_of_owns {w : World} {base g n cap : Nat} {os : List OpV} (hn : n = os.length) (h : w.ownsRow base 39 6 (.slice (some ⟨g, 0, none⟩) n cap) n (flat os)) : base ≤ g ∧ Own w g cap os := by
  subst hn
  rcases h.2 with ⟨h', _⟩ | ⟨g', cap', cur, h', hb, hg, hnc, hcm, hcs, htake⟩
  · simp at h'
  · simp only [Value.slice.injEq, Option.some.injEq, Addr.mk.injEq, and_true, true_and] at h'
    obtain ⟨rfl, rfl⟩ := h'
    exact ⟨hb, cur, hg, hcs, hnc, htake⟩

set_option maxHeartbeats 400000 in
theorem clone_any (os : List OpV) (b off cap : Nat) (w : World) (hm : os.length ≤ 1000000) (hne : 0 < os.length) (ho : OpsAt w (some ⟨b, off, none⟩) os) :
    Calls Try.prog 16 #[.slice (some ⟨b, off, none⟩) os.length cap] w fun e w' => ∃ g cap', e = .returned (.slice (some ⟨g, 0, none⟩) os.length cap') ∧ w.heap.size ≤ g ∧ Own w' g cap' os ∧ Below w.heap.size w w' := by
  have hnil := fun w a n c => Lib.run_eql_slice_nil (P := Try.prog) w 26 39 a n c 0 0 Try.underlying26
  obtain ⟨i0, hi, hz0, hz1, hz2⟩ := info_parts Try.info39
  have HO : Hid (OpsAt w (some ⟨b, off, none⟩) os) := ho
  clear ho
  go_enter Try.func16, Try.ntmps16
  go_wp2_with (at_builtin; refine wpList_append_own _ rfl _ _ 26 rfl w.heap.size 39 i0 _ 6 64 Try.underlying26 hi hz0 hz1 hz2 rfl (by decide) _ 0 [] rfl (World.ownsRow_made w #[] 0 (Nat.le_refl _) (by decide) rfl) ⟨b, off, none⟩ os.length cap (flat os) rfl (flat_length os) ?c1 (flat_one os) ?c3 ?c4 ?c5 ?_)
  case c1 => exact opsAt_flat (HO.out.below ((Below.refl _ _).alloc (Nat.le_refl _) _))
  case c3 => unfold maxLen; omega
  case c4 => omega
  case c5 => simp
  intro v' w1 hown hgrow hv
  have hbel : Below w.heap.size w w1 := ((Below.refl w.heap.size w).alloc (Nat.le_refl _) (.cells #[] 39)).grown hgrow (by simp) (by simp [Value.ownBlock])
  clear hgrow
  go_wp2
  go_ret
  have hown' := hown
  rcases hown.2 with ⟨h', h0⟩ | ⟨g', cap', cur, rfl, hb, hg, hnc, hcm, hcs, htake⟩
  · omega
  · exact ⟨g', cap', rfl, hb, (own_of_owns rfl hown').2, hbel⟩

end Go.Proofs.Qxb6609101a
