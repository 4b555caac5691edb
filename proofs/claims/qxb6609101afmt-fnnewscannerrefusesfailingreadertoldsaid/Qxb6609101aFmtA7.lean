/- The simple reader; the prefix; the scanner. -/
import Derived.Test.Qxb6609101aFmtA6
import Derived.Laws.BytesArg
import Derived.Lib.Bytes
namespace Go.Proofs.Qxb6609101aFmt
open Go.RowKit

/-- What is left of a bytes.Reader at block rb. -/
def RdLeft (rb : Nat) (a : Option Addr) (zs : List Int) (cap : Nat) (eof : Addr) (w : World) (rest : List Int) : Prop :=
  w.cell? ⟨1, 0, none⟩ = some (.iface 67 (.pointer (some eof))) ∧ ∃ pos pr, RdAt w rb a zs cap pos pr ∧ rest = zs.drop pos

theorem rdr_bytes (rb base : Nat) (a : Option Addr) (zs : List Int) (cap : Nat) (eof : Addr) (h1 : 1 < rb) (h2 : rb < base) (ha : ∀ x, a = some x → x.block < base) :
    Rdr 43 33 ⟨rb, 0, none⟩ base (fun k => k = rb) (RdLeft rb a zs cap eof) (.iface 67 (.pointer (some eof))) := by
  have stay : ∀ (w w' : World) pos pr, RdAt w rb a zs cap pos pr → (∀ k, k < base → w'.heap[k]? = w.heap[k]?) → RdAt w' rb a zs cap pos pr := by
    intro w w' pos pr h hk
    refine ⟨by rw [hk rb h2]; exact h.cell, ?_, h.other, h.pos, h.len, h.cap⟩
    rcases h.bytes with hn | ⟨b, off, hab, hlt, hcs⟩
    · exact .inl hn
    · have hb := ha _ hab
      have e := hk b hb
      have hlt' : b < w'.heap.size := by
        have h3 : w.heap[b]? = some w.heap[b] := Array.getElem?_eq_getElem hlt
        rw [← e] at h3
        exact (Array.getElem?_eq_some_iff.1 h3).1
      refine .inr ⟨b, off, hab, hlt', fun i hi => ?_⟩
      rw [World.cell?_of_block (w := w) (w' := w') (a := ⟨b, off + i, none⟩) e]
      exact hcs i hi
  refine ⟨fun k hk => by subst hk; exact ⟨h1, h2⟩, ?_, ?_, ?_⟩
  · rintro w w' rest ⟨hc, pos, pr, h, hr⟩ hk
    refine ⟨?_, pos, pr, stay w w' pos pr h hk, hr⟩
    rw [World.cell?_of_block (w := w) (w' := w') (a := ⟨1, 0, none⟩) (hk 1 (by omega))]
    exact hc
  · rintro w g o m c ⟨hc, pos, pr, h, hr⟩
    have hp : pos = zs.length := by
      have := congrArg List.length hr
      have := h.pos
      simp at *
      omega
    subst hp
    refine (read_end rb a zs cap pr _ eof w h hc).mono ?_
    rintro e w' ⟨rfl, n, rfl⟩
    exact ⟨rfl, (Fr.refl _ w).drewN n⟩
  · rintro w rest g o m c cur ⟨hc, pos, pr, h, hr⟩ hne hg hgh hfit hm
    have hp : pos < zs.length := by
      rcases Nat.lt_or_ge pos zs.length with h' | h'
      · exact h'
      · rw [List.drop_eq_nil_of_le h'] at hr; exact absurd hr hne
    refine (read_some rb a zs cap pos pr g o m c cur w h hp hgh (by omega) hfit hm (fun x hx => by have := ha x hx; omega)).mono ?_
    rintro e w' ⟨rfl, hrd, hg', hf⟩
    have hrl : rest.length = zs.length - pos := by rw [hr]; simp
    refine ⟨by rw [hrl], ⟨?_, _, _, hrd, ?_⟩, by rw [hr]; exact hg', hf⟩
    · have h1s : 1 < w.heap.size := World.block_lt_of_cell? w ⟨1, 0, none⟩ hc
      rw [hf.cell (p := ⟨1, 0, none⟩) h1s (by show ¬ (1 = rb ∨ 1 = g); omega)]
      exact hc
    · rw [hr, List.drop_drop]
      rcases Nat.le_total m (zs.length - pos) with h' | h'
      · rw [Nat.min_eq_left h']
      · rw [Nat.min_eq_right h', List.drop_eq_nil_of_le (by omega), List.drop_eq_nil_of_le (by omega)]

theorem na33 (a : Addr) (w : World) : (nilAhead 196 33 (.pointer (some a)) "Read").run Tryf.prog w = .ok (some false) w := by kernel_rfl
theorem me33 (a : Addr) (w : World) : (method 196 33 (.pointer (some a)) "Read").run Tryf.prog w = .ok (43, .pointer (some a)) w := by kernel_rfl
theorem en43 (args : Array Value) (w : World) : (callFunc 43 args).run Tryf.prog w = .ok (.enter 43 args) w := by kernel_rfl

theorem bytesOf_inj : ∀ (xs ys : List Int), Wf xs → Wf ys → (Lib.bytesOf xs == Lib.bytesOf ys) = (xs == ys)
  | [], [], _, _ => rfl
  | [], y :: ys, _, _ => rfl
  | x :: xs, [], _, _ => rfl
  | x :: xs, y :: ys, hx, hy => by
    have ih := bytesOf_inj xs ys (fun z hz => hx z (by simp [hz])) (fun z hz => hy z (by simp [hz]))
    have h1 := hx x (by simp)
    have h2 := hy y (by simp)
    show ((UInt8.ofNat x.toNat :: Lib.bytesOf xs) == (UInt8.ofNat y.toNat :: Lib.bytesOf ys)) = ((x :: xs) == (y :: ys))
    rw [List.cons_beq_cons, List.cons_beq_cons, ih]
    congr 1
    rw [Bool.eq_iff_iff, beq_iff_eq, beq_iff_eq]
    constructor
    · intro h
      have := congrArg UInt8.toNat h
      simp at this
      omega
    · intro h; rw [h]

theorem conv_of {w : World} {b off n c : Nat} {xs : List Int} (h : BytesAt w (some ⟨b, off, none⟩) xs) (hn : xs.length = n) : (convert 22 9 (.slice (some ⟨b, off, none⟩) n c)).run Tryf.prog w = .ok (.string (strOfNums xs)) w := by
  refine run_convert_bytes_arg (P := Tryf.prog) w 22 5 Tryf.underlying22 Tryf.underlying5 b off n c xs hn ?_ 9 Tryf.underlying9
  intro i hi
  rcases h with rfl | ⟨b', off', hab, _, h⟩
  · simp at hn; omega
  · simp only [Option.some.injEq, Addr.mk.injEq, and_true] at hab
    obtain ⟨rfl, rfl⟩ := hab
    have := h i (by omega)
    rw [this]
    simp [List.getD, List.getElem?_eq_getElem (show i < xs.length by omega)]

set_option maxHeartbeats 400000 in
theorem equal_any (v1 v2 : Value) (xs ys : List Int) (w : World) (hx : Wf xs) (hy : Wf ys) (h1 : (convert 22 9 v1).run Tryf.prog w = .ok (.string (strOfNums xs)) w) (h2 : (convert 22 9 v2).run Tryf.prog w = .ok (.string (strOfNums ys)) w) :
    Calls Tryf.prog 25 #[v1, v2] w fun e w' => e = .returned (.bool (xs == ys)) ∧ w' = w := by
  rw [← bytesOf_inj xs ys hx hy, ← Lib.strOfNums_toList, ← Lib.strOfNums_toList]
  go_enter Tryf.func25, Tryf.ntmps25
  go_wp2
  go_ret
  exact ⟨rfl, rfl⟩
end Go.Proofs.Qxb6609101aFmt
