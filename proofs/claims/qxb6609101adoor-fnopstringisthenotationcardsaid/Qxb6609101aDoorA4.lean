/- (Op).String. -/
import Derived.Test.Qxb6609101aDoorA3
import Derived.Lib.BufferRead
namespace Go.Proofs.Qxb6609101aDoor
open Go.RowKit Go.Lib

theorem conv_own {w : World} {B n : Nat} {v : Value} {l : List UInt8} (h : w.ownsRow B 5 1 v n (Lib.byteCells l)) : (convert 31 9 v).run Tryd.prog w = .ok (.string ⟨l.toArray⟩) w := by
  have hl : l.length = n := by simpa [Lib.byteCells] using h.1
  rcases h.2 with ⟨rfl, h0⟩ | ⟨g, cap, cur, rfl, _⟩
  · have : l = [] := List.eq_nil_of_length_eq_zero (by omega)
    subst this
    exact Lib.run_convert_nil_bytes w 31 9 5 0 Tryd.underlying31 Tryd.underlying5 Tryd.underlying9
  · subst hl
    exact run_convert_bytes_back w 31 9 5 ⟨g, 0, none⟩ cap l Tryd.underlying31 Tryd.underlying5 Tryd.underlying9 (fun j hj => h.cells (g := g) rfl j _ (by simp [Lib.byteCells, hj]))

set_option maxHeartbeats 1000000 in
theorem string_any (k it : ByteArray) (t l c q : Int) (w : World) (h0 : -9223372036854775808 ≤ t) (h1 : t ≤ 9223372036854775807)
    (hk : k.size ≤ 1000000000) (hi : it.size ≤ 1000000000) (htab : Lib.TabBelow Tryd.prog w.heap.size w powName .u64 Lib.pow10Tab) :
    Calls Tryd.prog 7 #[.agg #[.string k, .int .i64 t, .string it, .int .i64 l, .int .i64 c, .int .i64 q]] w fun e w' => e = .returned (.string ⟨(opText k t it).toArray⟩) ∧ Below w.heap.size w w' := by
  have HT : Hid (Lib.TabBelow Tryd.prog w.heap.size w powName .u64 Lib.pow10Tab) := htab
  clear htab
  go_enter Tryd.func7, Tryd.ntmps7
  go_wp2_with fail
  refine (appendTo_any w.heap.size k it t l c q (.slice none 0 0) 0 [] _ h0 h1 (World.ownsRow_nil _ _ _ _) (by simp) (by omega) hk hi (HT.out.on ((Below.refl _ _).alloc (Nat.le_refl _) _))).mono ?_
  rintro e w1 ⟨v1, rfl, ho1, hb1⟩
  have hcv := conv_own (l := opText k t it) ho1
  have HB : Hid (Below w.heap.size w w1) := ((Below.refl _ _).alloc (Nat.le_refl _) _).trans hb1
  clear ho1 hb1
  go_wp2
  go_ret
  exact ⟨rfl, HB.out⟩
end Go.Proofs.Qxb6609101aDoor
