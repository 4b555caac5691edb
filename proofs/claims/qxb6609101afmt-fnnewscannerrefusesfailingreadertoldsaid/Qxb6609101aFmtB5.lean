/- io.MultiReader's Read keeps to the contract that ReadAll asks for. -/
import Derived.Test.Qxb6609101aFmtB4
namespace Go.Proofs.Qxb6609101aFmt
open Go.RowKit

theorem RdAt.stay {w w' : World} {rb base : Nat} {a : Option Addr} {zs : List Int} {cap pos : Nat} {pr : Int} (h : RdAt w rb a zs cap pos pr) (h2 : rb < base) (ha : ∀ x, a = some x → x.block < base) (hk : ∀ k, k < base → w'.heap[k]? = w.heap[k]?) : RdAt w' rb a zs cap pos pr := by
  refine ⟨by rw [hk rb h2]; exact h.cell, ?_, h.other, h.pos, h.len, h.cap⟩
  rcases h.bytes with hn | ⟨b, off, hab, hlt, hcs⟩
  · exact .inl hn
  · have hb := ha _ hab
    have e := hk b hb
    have hlt' : b < w'.heap.size := by
      have h3 : w.heap[b]? = some w.heap[b] := Array.getElem?_eq_getElem hlt
      rw [← e] at h3
      exact (Array.getElem?_eq_some_iff.1 h3).1
    refine .inr ⟨b, off, hab, hlt', fun i hi => ?_⟩
    rw [World.cell?_of_block (w := w) (w' := w') (a := ⟨b, off + i, none⟩) e]
    exact hcs i hi

/-- What is left. -/
def MrLeft (mb ab rb eb : Nat) (a : Option Addr) (zs : List Int) (cap : Nat) (ep eof : Addr) (w : World) (rest : List Int) : Prop :=
  MrC w eb ep eof ∧ ((MrA w mb ab rb eb ∧ ∃ pos pr, RdAt w rb a zs cap pos pr ∧ rest = zs.drop pos) ∨ (MrB w mb ab eb ∧ rest = []))

/-- Where the blocks lie. -/
structure MrLay (base mb ab rb eb : Nat) (a : Option Addr) (ep eof : Addr) : Prop where
  m1 : 1 < mb
  m2 : mb < base
  a1 : 1 < ab
  a2 : ab < base
  r1 : 1 < rb
  r2 : rb < base
  e2 : eb < base
  p2 : ep.block < base
  o2 : eof.block < base
  ma : mb ≠ ab
  mr : mb ≠ rb
  ar : ab ≠ rb
  em : eb ≠ mb
  ea : eb ≠ ab
  er : eb ≠ rb
  pm : ep.block ≠ mb
  pa : ep.block ≠ ab
  pr : ep.block ≠ rb
  om : eof.block ≠ mb
  oa : eof.block ≠ ab
  or : eof.block ≠ rb
  d : ∀ x, a = some x → x.block < base ∧ x.block ≠ mb ∧ x.block ≠ ab

theorem rdr_multi {base mb ab rb eb : Nat} {a : Option Addr} {zs : List Int} {cap : Nat} {ep eof : Addr} (L : MrLay base mb ab rb eb a ep eof) :
    Rdr 44 55 ⟨mb, 0, none⟩ base (fun k => k = rb ∨ k = mb ∨ k = ab) (MrLeft mb ab rb eb a zs cap ep eof) (.iface 67 (.pointer (some ep))) := by
  obtain ⟨m1, m2, a1, a2, r1, r2, e2, p2, o2, ma, mr, ar, em, ea, er, pm, pa, pr', om, oa, or', d⟩ := L
  refine ⟨?_, ?_, ?_, ?_⟩
  · rintro k (rfl | rfl | rfl) <;> omega
  · rintro w w' rest ⟨hC, hAB⟩ hk
    refine ⟨?_, ?_⟩
    · obtain ⟨one, ⟨hne, ⟨c, t, ha⟩, ⟨c', t', hb⟩⟩, err⟩ := hC
      refine ⟨?_, ⟨hne, ⟨c, t, ?_⟩, ⟨c', t', ?_⟩⟩, ?_⟩
      · rw [World.cell?_of_block (w := w) (w' := w') (a := ⟨1, 0, none⟩) (hk 1 (by omega))]; exact one
      · rw [hk _ p2]; exact ha
      · rw [hk _ o2]; exact hb
      · rw [hk _ e2]; exact err
    · rcases hAB with ⟨⟨hm, ha⟩, pos, pr, hrd, hr⟩ | ⟨⟨hm, ha⟩, hr⟩
      · exact .inl ⟨⟨by rw [hk _ m2]; exact hm, by rw [hk _ a2]; exact ha⟩, pos, pr, hrd.stay r2 (fun x hx => (d x hx).1) hk, hr⟩
      · exact .inr ⟨⟨by rw [hk _ m2]; exact hm, by rw [hk _ a2]; exact ha⟩, hr⟩
  · rintro w g o m c ⟨hC, hAB⟩
    have hAB' : ∃ pr, (MrA w mb ab rb eb ∧ RdAt w rb a zs cap zs.length pr) ∨ MrB w mb ab eb := by
      rcases hAB with ⟨hA, pos, pr, h, hr⟩ | ⟨hB, _⟩
      · have hp : pos = zs.length := by
          have := congrArg List.length hr
          have := h.pos
          simp at *
          omega
        subst hp
        exact ⟨pr, .inl ⟨hA, h⟩⟩
      · exact ⟨0, .inr hB⟩
    obtain ⟨pr, hAB'⟩ := hAB'
    refine (mr_fin mb ab rb eb a zs cap pr ep eof _ w hC hAB' ⟨by omega, by omega⟩ ⟨pm, pa⟩ ⟨om, oa⟩ ⟨em, ea⟩ ma).mono ?_
    rintro e w' ⟨rfl, hf⟩
    exact ⟨rfl, hf.mono (fun k _ hk => .inr hk)⟩
  · rintro w rest g o m c cur ⟨hC, hAB⟩ hne hg hgh hfit hm
    rcases hAB with ⟨⟨hmm, haa⟩, pos, pr, h, hr⟩ | ⟨_, hr⟩
    · have hp : pos < zs.length := by
        rcases Nat.lt_or_ge pos zs.length with h' | h'
        · exact h'
        · rw [List.drop_eq_nil_of_le h'] at hr; exact absurd hr hne
      refine (mr_more mb ab rb eb a zs cap pos pr eof g o m c cur w hmm haa hC.one h hp hgh (by omega) (by omega) (by omega) hfit hm (fun x hx => by have := (d x hx).1; omega)).mono ?_
      rintro e w' ⟨rfl, hrd, hg', hf⟩
      have hrl : rest.length = zs.length - pos := by rw [hr]; simp
      refine ⟨by rw [hrl], ⟨hC.fr hf (by omega) (by omega) (by omega) (by omega), .inl ⟨⟨?_, ?_⟩, _, _, hrd, ?_⟩⟩, by rw [hr]; exact hg', hf.mono (fun k _ hk => by omega)⟩
      · rw [hf.block _ (Array.getElem?_eq_some_iff.1 hmm).1 (by omega)]; exact hmm
      · rw [hf.block _ (Array.getElem?_eq_some_iff.1 haa).1 (by omega)]; exact haa
      · rw [hr, List.drop_drop]
        rcases Nat.le_total m (zs.length - pos) with h' | h'
        · rw [Nat.min_eq_left h']
        · rw [Nat.min_eq_right h', List.drop_eq_nil_of_le (by omega), List.drop_eq_nil_of_le (by omega)]
    · exact absurd hr hne
end Go.Proofs.Qxb6609101aFmt
