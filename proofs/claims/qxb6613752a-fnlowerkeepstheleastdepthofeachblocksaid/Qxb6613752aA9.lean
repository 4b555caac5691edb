/- FnLowerKeepsTheLeastDepthOfEachBlock: a lowering over the memory that the loops keep. -/
import Derived.Test.Qxb6613752aA8
namespace Go.Proofs.Qxb6613752a
open Go.RowKit

theorem zip_take (os ds : List Int) (j : Nat) (h1 : j < os.length) (h2 : j < ds.length) : (os.zip ds).take (j + 1) = (os.zip ds).take j ++ [(os[j], ds[j])] := by
  rw [List.take_succ_eq_append_getElem (by simp; omega), List.getElem_zip]

theorem zip_drop (os ds : List Int) (j : Nat) (h1 : j < os.length) (h2 : j < ds.length) : ((os.zip ds).drop j).reverse = ((os.zip ds).drop (j + 1)).reverse ++ [(os[j], ds[j])] := by
  rw [List.drop_eq_getElem_cons (by simp; omega), List.getElem_zip, List.reverse_cons]

theorem OwnB.cellD {w : World} {g cap : Nat} {zs : List Int} (h : OwnB w g cap zs) (j : Nat) (hj : j < zs.length) : w.cell? ⟨g, j, none⟩ = some (.int .u16 (zs.getD j 0)) := by
  rcases h.bytes with hn | ⟨b, off, he, _, hc⟩
  · subst hn; simp at hj
  · simp only [Option.some.injEq, Addr.mk.injEq, and_true] at he
    obtain ⟨rfl, rfl⟩ := he
    have := hc j hj
    rw [Nat.zero_add] at this
    rw [this, List.getD_eq_getElem?_getD, List.getElem?_eq_getElem hj]
    rfl

theorem Rg.drew {w wr : World} {zs : List Int} {a1 a2 a3 : Option Addr} {x1 l1 x2 l2 g1 gf gr : Nat} {L1 L2 : List (Int × Int)} (h : Rg w wr zs a1 a2 a3 x1 l1 x2 l2 g1 gf gr L1 L2) : Rg w wr.drew zs a1 a2 a3 x1 l1 x2 l2 g1 gf gr L1 L2 :=
  ⟨h.hx1, h.hl1, h.hx2, h.hl2, h.z, h.f, h.r, h.bel.drew⟩

theorem Rg.swap {w wr : World} {zs : List Int} {a1 a2 a3 : Option Addr} {x1 l1 x2 l2 g1 gf gr : Nat} {L1 L2 : List (Int × Int)} (h : Rg w wr zs a1 a2 a3 x1 l1 x2 l2 g1 gf gr L1 L2) : Rg w wr zs a1 a3 a2 x2 l2 x1 l1 g1 gr gf L2 L1 :=
  ⟨h.hx2, h.hl2, h.hx1, h.hl1, h.z, h.r, h.f, h.bel⟩

theorem Rg.meet1 {w wr : World} {zs : List Int} {a1 a2 a3 : Option Addr} {x1 l1 x2 l2 g1 gf gr : Nat} {L1 L2 : List (Int × Int)} (h : Rg w wr zs a1 a2 a3 x1 l1 x2 l2 g1 gf gr L1 L2) (h1 : 0 < zs.length → g1 < gf) (h2 : 0 < zs.length → gf ≠ gr) (hg : g1 = w.heap.size)
    (u v : Int) (hb : inB u zs.length = true) (hu : u ≤ 9223372036854775807) :
    Calls Try.prog 11 #[.pointer (some ⟨x1, 0, none⟩), .int .i64 u, .int .i64 v] wr fun e w' => e = .returned (.tuple #[]) ∧ Rg w w' zs a1 a2 a3 x1 l1 x2 l2 g1 gf gr (L1 ++ [(u, v)]) L2 := by
  have hb' := hb
  simp only [inB, Bool.and_eq_true, decide_eq_true_eq] at hb'
  obtain ⟨k, hk⟩ : ∃ k : Nat, k = (u / 64).toNat := ⟨_, rfl⟩
  have hob : u / 64 = (k : Int) := by omega
  have hkl : k < zs.length := by omega
  have hn : 0 < zs.length := by omega
  have hl1 := h.hl1
  rw [(h.f hn).1] at hl1
  have hc := (h.f hn).2.cellD k (by rw [lows_length]; exact hkl)
  obtain ⟨cur, hcur, _⟩ := (h.f hn).2
  have hlt := h1 hn
  refine (zzLower_any x1 l1 gf zs.length k u v _ _ _ wr h.hx1 hl1 _ hcur hc hob hkl hb'.1 hu).mono ?_
  rintro e w' ⟨rfl, rfl⟩
  exact ⟨rfl, h.lower1 hn (by omega) (fun e => h2 hn e.symm) (by omega) (u, v) k hb hob hkl⟩
end Go.Proofs.Qxb6613752a
