import Derived.Test.Qxb6609101aA2
namespace Go.Proofs.Qxb6609101a
open Go.RowKit

/-- The cells of a list of operations, six each. -/
def flat : List OpV → List Value
  | [] => []
  | o :: r => o.cells ++ flat r

theorem flat_length : ∀ os : List OpV, (flat os).length = os.length * 6
  | [] => rfl
  | o :: r => by simp [flat, OpV.cells, flat_length r]; omega

theorem flat_get : ∀ (os : List OpV) (i : Nat) (h : i < os.length) (j : Nat), j < 6 → (flat os)[i * 6 + j]? = os[i].cells[j]?
  | o :: r, 0, _, j, hj => by
    simp only [flat, Nat.zero_mul, Nat.zero_add]
    rw [List.getElem?_append_left (by simpa [OpV.cells] using hj)]
    rfl
  | o :: r, i + 1, h, j, hj => by
    have := flat_get r i (by simpa using h) j hj
    simp only [flat]
    rw [List.getElem?_append_right (by simp [OpV.cells]; omega)]
    rw [show (i + 1) * 6 + j - o.cells.length = i * 6 + j by simp [OpV.cells]; omega, this]
    rfl

theorem flat_append : ∀ a b : List OpV, flat (a ++ b) = flat a ++ flat b
  | [], _ => rfl
  | o :: r, b => by simp [flat, flat_append r b]

theorem flat_take : ∀ (os : List OpV) (i : Nat), (flat os).take (i * 6) = flat (os.take i)
  | [], i => by simp [flat]
  | o :: r, 0 => by simp [flat]
  | o :: r, i + 1 => by
    simp only [flat, List.take_succ_cons]
    rw [← flat_take r i, List.take_append]
    rw [List.take_of_length_le (by simp [OpV.cells]; omega), show (i + 1) * 6 - o.cells.length = i * 6 by simp [OpV.cells]; omega]

theorem flat_set : ∀ (os : List OpV) (i : Nat) (_ : i < os.length) (u : OpV), flat (os.set i u) = (flat os).take (i * 6) ++ u.cells ++ (flat os).drop (i * 6 + 6)
  | o :: r, 0, _, u => by simp [flat, OpV.cells]
  | o :: r, i + 1, h, u => by
    have := flat_set r i (by simpa using h) u
    simp only [List.set_cons_succ, flat, this, List.take_append, List.drop_append]
    rw [List.take_of_length_le (l := o.cells) (by have : o.cells.length = 6 := rfl; omega), List.drop_of_length_le (l := o.cells) (by have : o.cells.length = 6 := rfl; omega)]
    rw [show (i + 1) * 6 - o.cells.length = i * 6 by simp [OpV.cells]; omega, show (i + 1) * 6 + 6 - o.cells.length = i * 6 + 6 by simp [OpV.cells]; omega]
    simp

theorem flat_one (os : List OpV) : ∀ v ∈ flat os, v.oneCell' = true := by
  induction os with
  | nil => intro v hv; simp [flat] at hv
  | cons o r ih =>
    intro v hv
    simp only [flat, List.mem_append] at hv
    rcases hv with hv | hv
    · simp [OpV.cells] at hv
      rcases hv with rfl | rfl | rfl | rfl | rfl | rfl <;> rfl
    · exact ih v hv

/-- Block g is a row of the call's own, of room for 'cap' operations, of which the first are 'os'. -/
def Own (w : World) (g cap : Nat) (os : List OpV) : Prop :=
  ∃ cur : Array Value, w.heap[g]? = some (.cells cur 39 (0, 0)) ∧ cur.size = cap * 6 ∧ os.length ≤ cap ∧ cur.toList.take (os.length * 6) = flat os

theorem Own.lt {w : World} {g cap : Nat} {os : List OpV} (h : Own w g cap os) : g < w.heap.size := by
  obtain ⟨cur, hg, _⟩ := h
  exact (Array.getElem?_eq_some_iff.1 hg).1

theorem Own.at {w : World} {g cap : Nat} {os : List OpV} (h : Own w g cap os) (n : Nat) (hn : n < os.length * 6) : w.cell? ⟨g, n, none⟩ = (flat os)[n]? := by
  obtain ⟨cur, hg, hs, hl, ht⟩ := h
  rw [cell_of_row w g n cur 39 (0, 0) hg, ← ht, List.getElem?_take, if_pos hn]
  simp

theorem Own.isSome {w : World} {g cap : Nat} {os : List OpV} (h : Own w g cap os) (n : Nat) (hn : n < os.length * 6) : (w.cell? ⟨g, n, none⟩).isSome = true := by
  rw [h.at n hn, List.getElem?_eq_getElem (by rw [flat_length]; exact hn)]; rfl

theorem Own.frozen {w : World} {g cap : Nat} {os : List OpV} (h : Own w g cap os) (n : Nat) : w.frozen? ⟨g, n, none⟩ = false := by
  obtain ⟨cur, hg, _⟩ := h
  exact frozen_of_row w g n cur 39 hg

theorem Own.below {w w' : World} {g cap B : Nat} {os : List OpV} (h : Own w g cap os) (hb : Below B w w') (hg : g < B) : Own w' g cap os := by
  obtain ⟨cur, hh, r⟩ := h
  exact ⟨cur, by rw [hb.block g hg]; exact hh, r⟩

theorem Own.opsAt {w : World} {g cap : Nat} {os : List OpV} (h : Own w g cap os) : OpsAt w (some ⟨g, 0, none⟩) os := by
  refine .inr ⟨g, 0, rfl, h.lt, fun i hi => ?_⟩
  have e : ∀ j, j < 6 → w.cell? ⟨g, 0 + i * 6 + j, none⟩ = os[i].cells[j]? := fun j hj => by
    rw [← flat_get os i hi j hj, ← h.at (i * 6 + j) (by omega), Nat.zero_add]
  have := e 0 (by omega); have := e 1 (by omega); have := e 2 (by omega); have := e 3 (by omega); have := e 4 (by omega); have := e 5 (by omega)
  simp_all [OpV.cells]

theorem heap_setCells (g : Nat) : ∀ (vs : List Value) (o : Nat) (w : World) (cur : Array Value) (e : TypeId), w.heap[g]? = some (.cells cur e (0, 0)) → o + vs.length ≤ cur.size →
    (w.setCells g o vs).heap[g]? = some (.cells (cur.toList.take o ++ vs ++ cur.toList.drop (o + vs.length)).toArray e (0, 0))
  | [], o, w, cur, e, h, hl => by simp [World.setCells, h]
  | v :: r, o, w, cur, e, h, hl => by
    rw [World.setCells, heap_setCells g r (o + 1) _ (cur.setIfInBounds o v) e (heap_setCell_same w g o cur e v h) (by simp at hl ⊢; omega)]
    congr 3
    simp only [Array.toList_setIfInBounds, List.length_cons]
    have ho : o < cur.toList.length := by simp at hl ⊢; omega
    rw [List.drop_set_of_lt (by omega), List.take_set, List.take_succ_eq_append_getElem ho, List.set_append_right _ _ (by simp; omega)]
    simp [Nat.min_eq_left (Nat.le_of_lt (by simpa using ho))]
    congr 1
    omega

theorem below_setCells (g B : Nat) (hB : B ≤ g) : ∀ (vs : List Value) (o : Nat) (w : World), Below B w (w.setCells g o vs)
  | [], _, _ => Below.refl _ _
  | v :: r, o, w => ((Below.refl B w).setCell (p := ⟨g, o, none⟩) hB v).trans (below_setCells g B hB r (o + 1) _)

theorem Own.set {w : World} {g cap : Nat} {os : List OpV} (h : Own w g cap os) (i : Nat) (hi : i < os.length) (u : OpV) : Own (w.setCells g (i * 6) u.cells) g cap (os.set i u) := by
  obtain ⟨cur, hg, hs, hl, ht⟩ := h
  refine ⟨_, heap_setCells g u.cells (i * 6) w cur 39 hg (by simp [OpV.cells, hs]; omega), ?_, by simpa using hl, ?_⟩
  · simp [OpV.cells, hs]; omega
  · rw [flat_set os i hi u, ← ht]
    simp only [List.length_set]
    have hc : u.cells.length = 6 := rfl
    rw [hc, List.take_append, List.take_append]
    have hcl : cur.toList.length = cap * 6 := by simpa using hs
    rw [List.take_of_length_le (l := List.take (i * 6) cur.toList) (by simp; omega)]
    rw [List.take_of_length_le (l := u.cells) (by rw [hc]; simp [hcl]; omega)]
    rw [List.take_take, Nat.min_eq_left (by omega)]
    congr 1
    simp only [List.length_append, List.length_take, hc, hcl]
    rw [List.drop_take]
    congr 1
    omega

theorem Own.clear {w : World} {g cap : Nat} {os : List OpV} (h : Own w g cap os) (i : Nat) (hi : i ≤ os.length) (zs : List Value) (hz : i * 6 + zs.length ≤ cap * 6) : Own (w.setCells g (i * 6) zs) g cap (os.take i) := by
  obtain ⟨cur, hg, hs, hl, ht⟩ := h
  refine ⟨_, heap_setCells g zs (i * 6) w cur 39 hg (by omega), ?_, by simp; omega, ?_⟩
  · simp [hs]; omega
  · have hcl : cur.toList.length = cap * 6 := by simpa using hs
    rw [← flat_take os i, ← ht]
    simp only [List.length_take, Nat.min_eq_left hi]
    rw [List.append_assoc, List.take_append_of_le_length (by simp; omega), List.take_take, List.take_take]
    congr 1
    omega
end Go.Proofs.Qxb6609101a
