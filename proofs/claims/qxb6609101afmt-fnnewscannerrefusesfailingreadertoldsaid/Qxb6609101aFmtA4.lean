/- Laws for ReadAll: an append with room, an append of zeros, the chunks. -/
import Derived.Test.Qxb6609101aFmtA3
import Derived.Shelf.Abstract
namespace Go.Proofs.Qxb6609101aFmt
open Go.RowKit

/-- 'append(final, chunk...)' within the room: the bytes stand behind those that were there. -/
theorem wpList_append_roomB {w : World} {ops : Array Oper} {rest : List Oper} {o : Oper} {a : Act} {Q : Exit → Act → World → Prop} (hgd : o.guard = none) (s x : Operand)
    (ho : o.op = .call { callee := .builtin .append, args := #[s, x], argTypes := #[22, 22] })
    (g cap : Nat) (xs : List Int) (hs : a.eval s = .slice (some ⟨g, 0, none⟩) xs.length cap) (hown : OwnB w g cap xs)
    (b off c : Nat) (ys : List Int) (hx : a.eval x = .slice (some ⟨b, off, none⟩) ys.length c) (hys : BytesAt w (some ⟨b, off, none⟩) ys) (hroom : xs.length + ys.length ≤ cap)
    (h : ∀ w', OwnB w' g cap (xs ++ ys) → Fr (fun k => k = g) w w' → wpList Tryf.prog ops Q rest (a.put o.dst (.slice (some ⟨g, 0, none⟩) (xs.length + ys.length) cap)) w') : wpList Tryf.prog ops Q (o :: rest) a w := by
  refine wpList_plain hgd fun K hK => ?_
  obtain ⟨i0, hi, hz0, hz1, hz2⟩ := info_parts Tryf.info5
  obtain ⟨cur, hg, hc, hle, ht⟩ := hown
  have hrun := run_append_room (P := Tryf.prog) w 22 o.type 5 i0 Tryf.underlying22 hi g xs.length cap cur.toArray hg ⟨b, off, none⟩ ys.length c (vals ys) (by rw [hz1, vals_length]; omega) hys.vals (vals_one ys) hroom (by rw [hz1, vals_length]; simp; omega)
  unfold Oper.wp
  simp [execOp, ho, resolve, invoke, builtin, hs, hx, hrun, Result.andThen]
  refine hK _ _ (h _ ?_ (Fr.setRow (S := fun k => k = g) (Fr.refl _ w) rfl _))
  refine OwnB.splice hc ht ys hroom ?_
  rw [hz1, Nat.mul_one]
  have := setRow_heap w g cur.toArray (Go.splice cur xs.length (vals ys)).toArray 5 (0, 0) hg
  simpa [Go.splice] using this

/-- 'append([]byte(nil), make([]byte, n)...)': a new row of n zeros and some spare. -/
theorem wpList_append_zeros {w : World} {ops : Array Oper} {rest : List Oper} {o : Oper} {a : Act} {Q : Exit → Act → World → Prop} (hgd : o.guard = none) (s x : Operand)
    (ho : o.op = .call { callee := .builtin .append, args := #[s, x], argTypes := #[22, 3] })
    (n : Nat) (N : Int) (hs : a.eval s = .slice none 0 0) (hx : a.eval x = .int .i64 N) (hN : N = n) (hn : 0 < n) (hn1 : n ≤ 1000000000)
    (h : ∀ cap w', n ≤ cap → cap ≤ 9223372036854775807 → OwnB w' w.heap.size cap [] → Fr (fun _ => False) w w' → wpList Tryf.prog ops Q rest (a.put o.dst (.slice (some ⟨w.heap.size, 0, none⟩) n cap)) w') : wpList Tryf.prog ops Q (o :: rest) a w := by
  subst hN
  refine wpList_plain hgd fun K hK => ?_
  obtain ⟨i0, hi, hz0, hz1, hz2⟩ := info_parts Tryf.info5
  have hn0 : n ≠ 0 := by omega
  have h63' : ¬ (9223372036854775807 < (n : Int)) := by omega
  have h48' : ¬ (281474976710656 < Builtin.nextslicecap n 0) := by rw [nextslicecap_zero hn]; omega
  have h48'' : ¬ (281474976710656 < (n : Int)) := by omega
  have hneg : ¬ ((n : Int) < 0) := by omega
  have hw : IntKind.i64.wrap (n : Int) = n := by rw [IntKind.wrap_i64]; omega
  have hrun : ∀ ty, ∃ cap, n ≤ cap ∧ cap ≤ 9223372036854775807 ∧ ∃ cs : Array Value, cs.size = cap ∧ (Builtin.append_ #[22, 3] ty #[.slice none 0 0, .int .i64 n]).run Tryf.prog w = .ok (.slice (some ⟨w.heap.size, 0, none⟩) n cap) (w.drew.alloc (.cells cs 5)) := by
    intro ty
    refine ⟨grownCap w n 0 5, grownCap_ge w n 0 5, ?_, Builtin.zeroCells #[.int .u8 0] n ++ Builtin.zeroCells #[.int .u8 0] (grownCap w n 0 5 - n), ?_, ?_⟩
    · have := grownCap_le_maxLen w n 0 5 (by unfold maxLen; omega)
      unfold maxLen at this
      omega
    · have := grownCap_ge w n 0 5
      simp [Builtin.zeroCells]
      omega
    · simp [Builtin.append_, asInt, asIntOf, run_underlying Tryf.underlying22, run_underlying Tryf.underlying3, sizeOf, typeInfo, zeroValue, hi, hz0, hz1, hz2, hw, hneg, h48'', hn0, h63', h48', Question.forced, run_firstCells_none, newRow, grownCap, Value.cells]
  obtain ⟨cap, hc1, hc2, cs, hcs, hrun⟩ := hrun o.type
  unfold Oper.wp
  simp [execOp, ho, resolve, invoke, builtin, hs, hx, hrun, Result.andThen]
  refine hK _ _ (h cap _ hc1 hc2 ?_ (((Fr.refl _ w).drew).alloc _))
  exact ⟨cs.toList, by simpa using heap_alloc_new w.drew (.cells cs 5), by simpa using hcs, Nat.zero_le _, by simp [vals]⟩
end Go.Proofs.Qxb6609101aFmt
