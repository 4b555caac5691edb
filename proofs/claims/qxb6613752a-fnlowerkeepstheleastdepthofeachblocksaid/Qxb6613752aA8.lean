/- FnLowerKeepsTheLeastDepthOfEachBlock: the memory that the loops keep. -/
import Derived.Test.Qxb6613752aA6
namespace Go.Proofs.Qxb6613752a
open Go.RowKit

theorem OwnB.put {w : World} {g cap : Nat} {zs : List Int} (h : OwnB w g cap zs) (j : Nat) (_hj : j < zs.length) (z : Int) : OwnB (w.setCell ⟨g, j, none⟩ (.int .u16 z)) g cap (zs.set j z) := by
  obtain ⟨cur, hg, hc, hle, ht⟩ := h
  refine ⟨cur.set j (.int .u16 z), ?_, by simpa using hc, by simpa using hle, ?_⟩
  · rw [heap_setCell_same w g j cur.toArray 24 (.int .u16 z) hg]
    simp
  · rw [List.length_set, List.take_set, ht]
    simp [vals, List.map_set]

theorem IntsAt.below {w w' : World} {a : Option Addr} {zs : List Int} (h : IntsAt w a zs) (hb : Below w.heap.size w w') : IntsAt w' a zs := by
  rcases h with hn | ⟨b, off, ha, hlt, hc⟩
  · exact .inl hn
  · exact .inr ⟨b, off, ha, Nat.lt_of_lt_of_le hlt hb.size, fun i hi => by rw [hb.cell (p := ⟨b, off + i, none⟩) hlt]; exact hc i hi⟩

/-- The two indexes with their rows. -/
structure Rg (w wr : World) (zs : List Int) (a1 a2 a3 : Option Addr) (x1 l1 x2 l2 g1 gf gr : Nat) (L1 L2 : List (Int × Int)) : Prop where
  hx1 : wr.heap[x1]? = some (.cells #[.slice none 0 0, .slice (some ⟨l1, 0, none⟩) 1 1, .int .i64 zs.length] 39 (0, 0))
  hl1 : wr.heap[l1]? = some (.cells #[.slice a2 zs.length zs.length] 22 (0, 0))
  hx2 : wr.heap[x2]? = some (.cells #[.slice none 0 0, .slice (some ⟨l2, 0, none⟩) 1 1, .int .i64 zs.length] 39 (0, 0))
  hl2 : wr.heap[l2]? = some (.cells #[.slice a3 zs.length zs.length] 22 (0, 0))
  z : 0 < zs.length → a1 = some ⟨g1, 0, none⟩ ∧ OwnB wr g1 zs.length zs
  f : 0 < zs.length → a2 = some ⟨gf, 0, none⟩ ∧ OwnB wr gf zs.length (lows zs L1)
  r : 0 < zs.length → a3 = some ⟨gr, 0, none⟩ ∧ OwnB wr gr zs.length (lows zs L2)
  bel : Below w.heap.size w wr

theorem row_ne {w : World} {g b cap t : Nat} {zs : List Int} {cs : Array Value} (h : OwnB w g cap zs) (hb : w.heap[b]? = some (.cells cs t (0, 0))) (ht : t ≠ 24) : b ≠ g := by
  obtain ⟨cur, hg, _⟩ := h
  intro e
  subst e
  rw [hb] at hg
  simp at hg
  exact ht hg.2

theorem OwnB.setFar {w : World} {g cap j g' : Nat} {zs : List Int} {v : Value} (h : OwnB w g cap zs) (hne : g ≠ g') : OwnB (w.setCell ⟨g', j, none⟩ v).drew g cap zs := by
  obtain ⟨cur, hg, r⟩ := h
  refine ⟨cur, ?_, r⟩
  show (w.setCell ⟨g', j, none⟩ v).heap[g]? = _
  rw [Below.heap_setCell _ _ _ _ hne]
  exact hg

theorem lows_snoc (zs : List Int) (L : List (Int × Int)) (p : Int × Int) : lows zs (L ++ [p]) = step (lows zs L) p := by simp [lows]

/-- A lowering of the first index. -/
theorem Rg.lower1 {w wr : World} {zs : List Int} {a1 a2 a3 : Option Addr} {x1 l1 x2 l2 g1 gf gr : Nat} {L1 L2 : List (Int × Int)} (h : Rg w wr zs a1 a2 a3 x1 l1 x2 l2 g1 gf gr L1 L2) (hn : 0 < zs.length) (h1 : g1 ≠ gf) (h2 : gr ≠ gf) (hf : w.heap.size ≤ gf)
    (p : Int × Int) (b : Nat) (hp : inB p.1 zs.length = true) (hb : p.1 / 64 = (b : Int)) (hbl : b < zs.length) :
    Rg w ((wr.setCell ⟨gf, b, none⟩ (.int .u16 (lowV ((lows zs L1).getD b 0) p.2))).drew) zs a1 a2 a3 x1 l1 x2 l2 g1 gf gr (L1 ++ [p]) L2 := by
  obtain ⟨hx1, hl1, hx2, hl2, z, f, r, bel⟩ := h
  have of := (f hn).2
  have far : ∀ {k : Nat} {o : Obj}, wr.heap[k]? = some o → k ≠ gf → ((wr.setCell ⟨gf, b, none⟩ (.int .u16 (lowV ((lows zs L1).getD b 0) p.2))).drew).heap[k]? = some o := by
    intro k o hk hne
    show (wr.setCell ⟨gf, b, none⟩ _).heap[k]? = _
    rw [Below.heap_setCell _ _ _ _ hne]
    exact hk
  refine ⟨far hx1 (row_ne of hx1 (by decide)), far hl1 (row_ne of hl1 (by decide)), far hx2 (row_ne of hx2 (by decide)), far hl2 (row_ne of hl2 (by decide)), fun _ => ⟨(z hn).1, (z hn).2.setFar h1⟩, fun _ => ⟨(f hn).1, ?_⟩, fun _ => ⟨(r hn).1, (r hn).2.setFar h2⟩, (bel.setCell (p := ⟨gf, b, none⟩) hf _).drew⟩
  rw [lows_snoc]
  have hs : step (lows zs L1) p = (lows zs L1).set b (lowV ((lows zs L1).getD b 0) p.2) := by
    have hb' : (p.1 / 64).toNat = b := by omega
    unfold step
    rw [lows_length, if_pos hp, hb']
  rw [hs]
  exact of.put b (by rw [lows_length]; exact hbl) _

/-- A lowering of the second index. -/
theorem Rg.lower2 {w wr : World} {zs : List Int} {a1 a2 a3 : Option Addr} {x1 l1 x2 l2 g1 gf gr : Nat} {L1 L2 : List (Int × Int)} (h : Rg w wr zs a1 a2 a3 x1 l1 x2 l2 g1 gf gr L1 L2) (hn : 0 < zs.length) (h1 : g1 ≠ gr) (h2 : gf ≠ gr) (hf : w.heap.size ≤ gr)
    (p : Int × Int) (b : Nat) (hp : inB p.1 zs.length = true) (hb : p.1 / 64 = (b : Int)) (hbl : b < zs.length) :
    Rg w ((wr.setCell ⟨gr, b, none⟩ (.int .u16 (lowV ((lows zs L2).getD b 0) p.2))).drew) zs a1 a2 a3 x1 l1 x2 l2 g1 gf gr L1 (L2 ++ [p]) := by
  have hsw : Rg w wr zs a1 a3 a2 x2 l2 x1 l1 g1 gr gf L2 L1 := ⟨h.hx2, h.hl2, h.hx1, h.hl1, h.z, h.r, h.f, h.bel⟩
  have h' := hsw.lower1 hn h1 h2 hf p b hp hb hbl
  exact ⟨h'.hx2, h'.hl2, h'.hx1, h'.hl1, h'.z, h'.r, h'.f, h'.bel⟩

theorem Rg.drewN {w wr : World} {zs : List Int} {a1 a2 a3 : Option Addr} {x1 l1 x2 l2 g1 gf gr : Nat} {L1 L2 : List (Int × Int)} (h : Rg w wr zs a1 a2 a3 x1 l1 x2 l2 g1 gf gr L1 L2) (n : Nat) : Rg w (wr.drewN n) zs a1 a2 a3 x1 l1 x2 l2 g1 gf gr L1 L2 :=
  ⟨h.hx1, h.hl1, h.hx2, h.hl2, h.z, h.f, h.r, h.bel.trans ⟨rfl, rfl, rfl, Nat.le_refl _, fun _ _ => rfl⟩⟩

theorem BytesAt.below {w w' : World} {a : Option Addr} {zs : List Int} (h : BytesAt w a zs) (hb : Below w.heap.size w w') : BytesAt w' a zs := by
  rcases h with hn | ⟨b, off, ha, hlt, hc⟩
  · exact .inl hn
  · exact .inr ⟨b, off, ha, Nat.lt_of_lt_of_le hlt hb.size, fun i hi => by rw [hb.cell (p := ⟨b, off + i, none⟩) hlt]; exact hc i hi⟩

theorem Rg.start {w w1 w2 w3 w4 w5 : World} {zs : List Int} {a1 a2 a3 : Option Addr} (b1 : Below w.heap.size w w1) (b2 : Below w1.heap.size w1 w2) (b3 : Below w2.heap.size w2 w3)
    (p1 : 0 < zs.length → a1 = some ⟨w.heap.size, 0, none⟩ ∧ OwnB w1 w.heap.size zs.length zs) (p2 : 0 < zs.length → a2 = some ⟨w1.heap.size, 0, none⟩ ∧ OwnB w2 w1.heap.size zs.length zs) (p3 : 0 < zs.length → a3 = some ⟨w2.heap.size, 0, none⟩ ∧ OwnB w3 w2.heap.size zs.length zs)
    (h4 : w4 = (w3.alloc (.cells #[.slice a2 zs.length zs.length] 22)).alloc (.cells #[.slice none 0 0, .slice (some ⟨w3.heap.size, 0, none⟩) 1 1, .int .i64 zs.length] 39))
    (h5 : w5 = (w4.alloc (.cells #[.slice a3 zs.length zs.length] 22)).alloc (.cells #[.slice none 0 0, .slice (some ⟨w4.heap.size, 0, none⟩) 1 1, .int .i64 zs.length] 39)) :
    Rg w w5 zs a1 a2 a3 (w3.heap.size + 1) w3.heap.size (w4.heap.size + 1) w4.heap.size w.heap.size w1.heap.size w2.heap.size [] [] := by
  have s4 : w4.heap.size = w3.heap.size + 2 := by rw [h4]; simp
  have b4 : Below w3.heap.size w3 w4 := by rw [h4]; exact ((Below.refl _ w3).alloc (Nat.le_refl _) _).alloc (by simp) _
  have b5 : Below w4.heap.size w4 w5 := by rw [h5]; exact ((Below.refl _ w4).alloc (Nat.le_refl _) _).alloc (by simp) _
  have b35 : Below w3.heap.size w3 w5 := b4.trans (b5.mono b4.size)
  have b25 : Below w2.heap.size w2 w5 := b3.trans (b35.mono b3.size)
  have b15 : Below w1.heap.size w1 w5 := b2.trans (b25.mono b2.size)
  have new1 : ∀ (W : World) (o o' : Obj), ((W.alloc o).alloc o').heap[W.heap.size]? = some o := fun W o o' => by
    rw [Below.heap_alloc _ _ _ (by simp)]; exact heap_alloc_new W o
  have new2 : ∀ (W : World) (o o' : Obj), ((W.alloc o').alloc o).heap[W.heap.size + 1]? = some o := fun W o o' => by
    have h := heap_alloc_new (W.alloc o') o
    rw [show (W.alloc o').heap.size = W.heap.size + 1 by simp] at h
    exact h
  refine ⟨?_, ?_, ?_, ?_, fun hn => ⟨(p1 hn).1, (p1 hn).2.below b15 (p1 hn).2.lt⟩, fun hn => ⟨(p2 hn).1, (p2 hn).2.below b25 (p2 hn).2.lt⟩, fun hn => ⟨(p3 hn).1, (p3 hn).2.below b35 (p3 hn).2.lt⟩, b1.trans (b15.mono b1.size)⟩
  · rw [b5.block _ (by omega), h4]; exact new2 w3 _ _
  · rw [b5.block _ (by omega), h4]; exact new1 w3 _ _
  · rw [h5]; exact new2 w4 _ _
  · rw [h5]; exact new1 w4 _ _

theorem Rg.skip1 {w wr : World} {zs : List Int} {a1 a2 a3 : Option Addr} {x1 l1 x2 l2 g1 gf gr : Nat} {L1 L2 : List (Int × Int)} (h : Rg w wr zs a1 a2 a3 x1 l1 x2 l2 g1 gf gr L1 L2) (p : Int × Int) (hp : inB p.1 zs.length = false) : Rg w wr zs a1 a2 a3 x1 l1 x2 l2 g1 gf gr (L1 ++ [p]) L2 := by
  have e : lows zs (L1 ++ [p]) = lows zs L1 := by rw [lows_snoc, step, lows_length, if_neg (by simp [hp])]
  exact ⟨h.hx1, h.hl1, h.hx2, h.hl2, h.z, by rw [e]; exact h.f, h.r, h.bel⟩
theorem Rg.skip2 {w wr : World} {zs : List Int} {a1 a2 a3 : Option Addr} {x1 l1 x2 l2 g1 gf gr : Nat} {L1 L2 : List (Int × Int)} (h : Rg w wr zs a1 a2 a3 x1 l1 x2 l2 g1 gf gr L1 L2) (p : Int × Int) (hp : inB p.1 zs.length = false) : Rg w wr zs a1 a2 a3 x1 l1 x2 l2 g1 gf gr L1 (L2 ++ [p]) := by
  have e : lows zs (L2 ++ [p]) = lows zs L2 := by rw [lows_snoc, step, lows_length, if_neg (by simp [hp])]
  exact ⟨h.hx1, h.hl1, h.hx2, h.hl2, h.z, h.f, by rw [e]; exact h.r, h.bel⟩
end Go.Proofs.Qxb6613752a
