import Derived.Test.Qxb6609101aA5
namespace Go.Proofs.Qxb6609101a
open Go.RowKit

theorem idx_cases (p : ByteArray → Bool) (os : List OpV) : idx p os = -1 ∨ 0 ≤ idx p os := by
  unfold idx
  split
  · right; omega
  · left; rfl

theorem idx_neg {p : ByteArray → Bool} {os : List OpV} (h : idx p os = -1) : os.filter (fun o => !p o.k) = os := by
  unfold idx at h
  split at h
  · omega
  · rename_i hn
    rw [List.filter_eq_self]
    intro o ho
    have := List.findIdx?_eq_none_iff.1 hn o ho
    simpa using this

theorem contains_is {g : FuncId} {p : ByteArray → Bool} (hg : Good g p) (os : List OpV) (a : Option Addr) (cap fb : Nat) (w : World) (hm : os.length ≤ 1000000) (ho : OpsAt w a os) (hf : w.cell? ⟨fb, 0, none⟩ = some (.func (.func g) #[] #[])) (hfb : fb < w.heap.size) (r : Bool) (hr : decide (0 ≤ idx p os) = r) :
    Calls Try.prog 14 #[.slice a os.length cap, .func (.func 13) #[] #[.pointer (some ⟨fb, 0, none⟩)]] w fun e w' => e = .returned (.bool r) ∧ Below w.heap.size w w' := by
  subst hr
  exact contains_any hg os a cap fb w hm ho hf hfb

/-- An address as the walk reckons them: none, or the head of cells in a block. -/
def Plain (a : Option Addr) : Prop := a = none ∨ ∃ b off, a = some ⟨b, off, none⟩

/-- What Without hands back. -/
structure WOut (p : ByteArray → Bool) (w : World) (a : Option Addr) (cap : Nat) (os : List OpV) (w' : World) (a' : Option Addr) (cap' : Nat) : Prop where
  ops : OpsAt w' a' (os.filter (fun o => !p o.k))
  below : Below w.heap.size w w'
  nil : a' = none ↔ a = none
  shape : Plain a'
  same : (∀ o ∈ os, p o.k = false) → a' = a ∧ cap' = cap

set_option maxHeartbeats 400000 in
theorem without_any {g : FuncId} {p : ByteArray → Bool} (hg : Good g p) (os : List OpV) (a : Option Addr) (cap : Nat) (w : World) (hm : os.length ≤ 1000000) (ha : Plain a) (ho : OpsAt w a os) :
    Calls Try.prog 6 #[.slice a os.length cap, .func (.func g) #[] #[]] w fun e w' => ∃ a' cap', e = .returned (.slice a' (os.filter (fun o => !p o.k)).length cap') ∧ WOut p w a cap os w' a' cap' := by
  have hb0 : Below w.heap.size w (w.alloc (.cells #[.func (.func g) #[] #[]] 29)) := (Below.refl _ _).alloc (Nat.le_refl _) _
  have HO : Hid (OpsAt w a os) := ho
  have HB0 : Hid _ := hb0
  have HA : Hid (Plain a) := ha
  clear ho hb0 ha
  rcases idx_cases p os with hi | hi
  · have Hi : Hid (idx p os = -1) := hi
    clear hi
    go_enter Try.func6, Try.ntmps6
    go_wp2_with (go_at_call 14; refine (contains_is hg os a cap w.heap.size _ hm (HO.out.below HB0.out) (by simp) (by simp) false (by rw [Hi.out]; rfl)).mono ?_; rintro e w1 ⟨rfl, hb⟩)
    go_ret
    have hfil := idx_neg Hi.out
    have hbel := HB0.out.trans (hb.mono (by simp))
    rw [hfil]
    exact ⟨a, cap, rfl, by rw [hfil]; exact HO.out.below hbel, hbel, Iff.rfl, HA.out, fun _ => ⟨rfl, rfl⟩⟩
  · have Hi : Hid (0 ≤ idx p os) := hi
    obtain ⟨k, hk⟩ : ∃ k : Nat, idx p os = k := ⟨(idx p os).toNat, by omega⟩
    obtain ⟨hkl, _, hkp⟩ := idx_inv hk
    have hlen : 0 < os.length := by omega
    have Hkp : Hid (p os[k].k = true) := hkp
    clear hi hk hkp
    rcases HO.out with hn | ⟨b, off, rfl, hbl, hcs⟩
    · subst hn; simp at hlen
    clear hcs
    go_enter Try.func6, Try.ntmps6
    go_wp2_with (first | (go_at_call 14; refine (contains_is hg os _ cap w.heap.size _ hm (HO.out.below HB0.out) (by simp) (by simp) true (by simpa using Hi.out)).mono ?_; rintro e w1 ⟨rfl, hb⟩) | (go_at_call 16; refine (clone_any os b off cap _ hm hlen ((HO.out.below HB0.out).below (by assumption))).mono ?_; rintro e w2 ⟨gb, cap', rfl, hgb, hown, hb2⟩))
    have hs1 : w.heap.size < w1.heap.size := by have := hb.size; simp at this; omega
    have hfc : w2.cell? ⟨w.heap.size, 0, none⟩ = some (.func (.func g) #[] #[]) := by
      rw [hb2.cell (p := ⟨w.heap.size, 0, none⟩) hs1, hb.cell (p := ⟨w.heap.size, 0, none⟩) (by simp)]
      simp
    have hb3 : Below w.heap.size w w2 := (HB0.out.trans (hb.mono (by simp))).trans (hb2.mono (by omega))
    refine (delete_hit hg os gb cap' w.heap.size _ hm Hi.out hown hfc (by omega)).mono ?_
    rintro e w3 ⟨rfl, hown3, hb4⟩
    have R : WOut p w (some ⟨b, off, none⟩) cap os w3 (some ⟨gb, 0, none⟩) cap' :=
      ⟨hown3.opsAt, hb3.trans (hb4.mono (by omega)), by simp, .inr ⟨gb, 0, rfl⟩, fun h => absurd (h os[k] (List.getElem_mem _)) (by rw [Hkp.out]; simp)⟩
    clear hown hown3 hfc hb hb2 hb3 hb4
    go_wp2
    go_ret
    exact ⟨_, _, rfl, R⟩
end Go.Proofs.Qxb6609101a
