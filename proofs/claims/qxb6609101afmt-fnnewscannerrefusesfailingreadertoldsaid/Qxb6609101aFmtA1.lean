/- Frames, rows of bytes, and the small callees. -/
import Derived.Test.Qxb6609101aFmtRows
import Derived.WalkKit
import Derived.WalkSpells
import Derived.WalkLawsBesides
import Derived.Laws.CopyOwn
import Derived.Deep.RegionHeld3
import Derived.Deep.QuietTactic
import Derived.BigQuiet
namespace Go.Proofs.Qxb6609101aFmt
open Go.RowKit

/-- All blocks but those of S are as they were. -/
structure Fr (S : Nat → Prop) (w w' : World) : Prop where
  os : w'.os = w.os
  tape : w'.tape = w.tape
  output : w'.output = w.output
  size : w.heap.size ≤ w'.heap.size
  block : ∀ k, k < w.heap.size → ¬ S k → w'.heap[k]? = w.heap[k]?

theorem Fr.refl (S : Nat → Prop) (w : World) : Fr S w w := ⟨rfl, rfl, rfl, Nat.le_refl _, fun _ _ _ => rfl⟩
theorem Fr.trans {S : Nat → Prop} {a b c : World} (h : Fr S a b) (k : Fr S b c) : Fr S a c :=
  ⟨k.os.trans h.os, k.tape.trans h.tape, k.output.trans h.output, Nat.le_trans h.size k.size, fun i hi hs => (k.block i (Nat.lt_of_lt_of_le hi h.size) hs).trans (h.block i hi hs)⟩
theorem Fr.mono {S T : Nat → Prop} {w w' : World} (h : Fr S w w') (hst : ∀ k, k < w.heap.size → S k → T k) : Fr T w w' := ⟨h.os, h.tape, h.output, h.size, fun k hk ht => h.block k hk (fun hs => ht (hst k hk hs))⟩
theorem Fr.drewN {S : Nat → Prop} {a w : World} (h : Fr S a w) (n : Nat) : Fr S a (w.drewN n) := h.trans ⟨rfl, rfl, rfl, Nat.le_refl _, fun _ _ _ => rfl⟩
theorem Fr.drew {S : Nat → Prop} {a w : World} (h : Fr S a w) : Fr S a w.drew := h.trans ⟨rfl, rfl, rfl, Nat.le_refl _, fun _ _ _ => rfl⟩
theorem Fr.alloc {S : Nat → Prop} {a w : World} (h : Fr S a w) (o : Obj) : Fr S a (w.alloc o) :=
  h.trans ⟨rfl, rfl, rfl, by simp, fun k hk _ => Below.heap_alloc _ _ _ hk⟩
theorem Fr.setCell {S : Nat → Prop} {a w : World} (h : Fr S a w) {p : Addr} (hp : S p.block) (u : Value) : Fr S a (w.setCell p u) :=
  h.trans ⟨rfl, rfl, rfl, by simp [World.setCell], fun k _ hs => Below.heap_setCell _ _ _ _ (fun e => hs (e ▸ hp))⟩
theorem Fr.setRow {S : Nat → Prop} {a w : World} (h : Fr S a w) {g : Nat} (hg : S g) (cs : Array Value) : Fr S a (w.setRow g cs) :=
  h.trans ⟨rfl, rfl, rfl, by simp [World.setRow], fun k _ hs => setRow_other w g k cs (fun e => hs (e ▸ hg))⟩
theorem Fr.grown {S : Nat → Prop} {a w w' : World} {row : Option Nat} (h : Fr S a w) (hg : w.grownBy w' row) (hr : ∀ k, row = some k → S k) : Fr S a w' :=
  h.trans ⟨hg.os, hg.tape, hg.output, hg.size, fun k hk hs => hg.block k hk (fun e => hs (hr k e.symm))⟩
theorem Fr.below {S : Nat → Prop} {w w' : World} (h : Fr S w w') {B : Nat} (hB : B ≤ w.heap.size) (hs : ∀ k, k < B → ¬ S k) : Below B w w' :=
  ⟨h.os, h.tape, h.output, h.size, fun k hk => h.block k (Nat.lt_of_lt_of_le hk hB) (hs k hk)⟩
theorem Fr.of_below {w w' : World} {B : Nat} (h : Below B w w') : Fr (fun k => B ≤ k) w w' := ⟨h.os, h.tape, h.output, h.size, fun k _ hs => h.block k (by omega)⟩
theorem Fr.cell {S : Nat → Prop} {w w' : World} (h : Fr S w w') {p : Addr} (hp : p.block < w.heap.size) (hs : ¬ S p.block) : w'.cell? p = w.cell? p := World.cell?_of_block (w := w) (h.block p.block hp hs)

/-- The bytes of a slice in memory. -/
def BytesAt (w : World) (a : Option Addr) (zs : List Int) : Prop :=
  zs = [] ∨ ∃ b off, a = some ⟨b, off, none⟩ ∧ b < w.heap.size ∧ ∀ i (h : i < zs.length), w.cell? ⟨b, off + i, none⟩ = some (.int .u8 zs[i])

theorem BytesAt.fr {S : Nat → Prop} {w w' : World} {a : Option Addr} {zs : List Int} (h : BytesAt w a zs) (hf : Fr S w w') (hs : ∀ x, a = some x → ¬ S x.block) : BytesAt w' a zs := by
  rcases h with h | ⟨b, off, ha, hlt, h⟩
  · exact .inl h
  · refine .inr ⟨b, off, ha, Nat.lt_of_lt_of_le hlt hf.size, fun i hi => ?_⟩
    rw [hf.cell (p := ⟨b, off + i, none⟩) hlt (hs ⟨b, off, none⟩ ha)]
    exact h i hi

theorem BytesAt.below {w w' : World} {a : Option Addr} {zs : List Int} (h : BytesAt w a zs) (hb : Below w.heap.size w w') : BytesAt w' a zs := by
  rcases h with h | ⟨b, off, ha, hlt, h⟩
  · exact .inl h
  · refine .inr ⟨b, off, ha, Nat.lt_of_lt_of_le hlt hb.size, fun i hi => ?_⟩
    rw [hb.cell (p := ⟨b, off + i, none⟩) hlt]
    exact h i hi

theorem BytesAt.drop {w : World} {b off : Nat} {zs : List Int} (h : BytesAt w (some ⟨b, off, none⟩) zs) (n : Nat) : BytesAt w (some ⟨b, off + n, none⟩) (zs.drop n) := by
  by_cases hn : zs.length ≤ n
  · exact .inl (List.drop_eq_nil_of_le hn)
  · rcases h with h | ⟨b', off', ha, hlt, h⟩
    · subst h; simp at hn
    · simp only [Option.some.injEq, Addr.mk.injEq, and_true] at ha
      obtain ⟨rfl, rfl⟩ := ha
      refine .inr ⟨b, off + n, rfl, hlt, fun i hi => ?_⟩
      have := h (n + i) (by simp at hi; omega)
      rw [show off + n + i = off + (n + i) by omega, this]
      simp

theorem BytesAt.take {w : World} {a : Option Addr} {zs : List Int} (h : BytesAt w a zs) (n : Nat) : BytesAt w a (zs.take n) := by
  rcases h with h | ⟨b, off, ha, hlt, h⟩
  · subst h; exact .inl (by simp)
  · refine .inr ⟨b, off, ha, hlt, fun i hi => ?_⟩
    have := h i (by simp at hi; omega)
    rw [this]
    simp

/-- Each number is a byte. -/
def Wf (zs : List Int) : Prop := ∀ z ∈ zs, 0 ≤ z ∧ z ≤ 255

/-- The values of bytes. -/
def vals (zs : List Int) : List Value := zs.map (Value.int .u8)
theorem vals_length (zs : List Int) : (vals zs).length = zs.length := by simp [vals]
theorem vals_one (zs : List Int) : ∀ v ∈ vals zs, v.oneCell' = true := by
  intro v hv
  simp only [vals, List.mem_map] at hv
  obtain ⟨z, _, rfl⟩ := hv
  rfl

/-- Block g is a row of 'cap' bytes of the call's own, whose first are zs. -/
def OwnB (w : World) (g cap : Nat) (zs : List Int) : Prop :=
  ∃ cur : List Value, w.heap[g]? = some (.cells cur.toArray 5 (0, 0)) ∧ cur.length = cap ∧ zs.length ≤ cap ∧ cur.take zs.length = vals zs

theorem OwnB.lt {w : World} {g cap : Nat} {zs : List Int} (h : OwnB w g cap zs) : g < w.heap.size := by
  obtain ⟨cur, hg, _⟩ := h
  exact (Array.getElem?_eq_some_iff.1 hg).1
theorem OwnB.le {w : World} {g cap : Nat} {zs : List Int} (h : OwnB w g cap zs) : zs.length ≤ cap := by obtain ⟨cur, _, _, h, _⟩ := h; exact h
theorem OwnB.fr {S : Nat → Prop} {w w' : World} {g cap : Nat} {zs : List Int} (h : OwnB w g cap zs) (hf : Fr S w w') (hs : ¬ S g) : OwnB w' g cap zs := by
  have hl := h.lt
  obtain ⟨cur, hh, r⟩ := h
  exact ⟨cur, by rw [hf.block g hl hs]; exact hh, r⟩
theorem OwnB.below {w w' : World} {g cap B : Nat} {zs : List Int} (h : OwnB w g cap zs) (hb : Below B w w') (hg : g < B) : OwnB w' g cap zs := by
  obtain ⟨cur, hh, r⟩ := h
  exact ⟨cur, by rw [hb.block g hg]; exact hh, r⟩
theorem OwnB.bytes {w : World} {g cap : Nat} {zs : List Int} (h : OwnB w g cap zs) : BytesAt w (some ⟨g, 0, none⟩) zs := by
  have hl := h.lt
  obtain ⟨cur, hg, hc, hle, ht⟩ := h
  refine .inr ⟨g, 0, rfl, hl, fun i hi => ?_⟩
  rw [Nat.zero_add, cell_of_row w g i cur.toArray 5 (0, 0) hg]
  have := congrArg (fun l => l[i]?) ht
  simp only [List.getElem?_take, vals] at this
  rw [if_pos hi] at this
  simp [this, hi]
theorem OwnB.isSome {w : World} {g cap : Nat} {zs : List Int} (h : OwnB w g cap zs) (n : Nat) (hn : n < cap) : ∃ v, w.cell? ⟨g, n, none⟩ = some v := by
  obtain ⟨cur, hg, hc, hle, ht⟩ := h
  rw [cell_of_row w g n cur.toArray 5 (0, 0) hg]
  exact ⟨cur[n]'(by omega), by simp [hc, hn]⟩
theorem OwnB.frozen {w : World} {g cap : Nat} {zs : List Int} (h : OwnB w g cap zs) (n : Nat) : w.frozen? ⟨g, n, none⟩ = false := by
  obtain ⟨cur, hg, _⟩ := h
  exact frozen_of_row w g n cur.toArray 5 hg
/-- One byte more, behind those that stand. -/
theorem OwnB.push {w : World} {g cap : Nat} {zs : List Int} (h : OwnB w g cap zs) (hn : zs.length < cap) (z : Int) : OwnB (w.setCell ⟨g, zs.length, none⟩ (.int .u8 z)) g cap (zs ++ [z]) := by
  obtain ⟨cur, hg, hc, hle, ht⟩ := h
  refine ⟨cur.set zs.length (.int .u8 z), ?_, by simpa using hc, by simp; omega, ?_⟩
  · rw [heap_setCell_same w g zs.length cur.toArray 5 (.int .u8 z) hg]
    simp
  · rw [List.length_append, List.length_singleton, List.take_succ_eq_append_getElem (by simp; omega), List.take_set_of_le (Nat.le_refl _), ht]
    simp [vals]
/-- Bytes copied in behind those that stand. -/
theorem OwnB.splice {w' : World} {g cap : Nat} {zs : List Int} {cur : List Value} (hc : cur.length = cap) (ht : cur.take zs.length = vals zs) (ys : List Int) (hl : zs.length + ys.length ≤ cap)
    (hg : w'.heap[g]? = some (.cells (Go.splice cur zs.length (vals ys)).toArray 5 (0, 0))) : OwnB w' g cap (zs ++ ys) := by
  refine ⟨_, hg, by rw [length_splice _ _ _ (by rw [vals_length]; omega), hc], by simpa using hl, ?_⟩
  unfold Go.splice
  rw [ht, List.length_append, ← List.append_assoc, ← vals_length zs, ← vals_length ys, ← List.length_append, List.take_left]
  simp [vals]

theorem ret_bool {a b : Bool} (h : a = b) : Ending.returned (.bool a) = .returned (.bool b) := by rw [h]
end Go.Proofs.Qxb6609101aFmt
