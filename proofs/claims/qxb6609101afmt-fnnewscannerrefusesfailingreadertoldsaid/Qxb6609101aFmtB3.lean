/- The readers of the failing scanner: iotest.ErrReader, io.MultiReader. -/
import Derived.Test.Qxb6609101aFmtB1
import Derived.Deep.LoopGhost
namespace Go.Proofs.Qxb6609101aFmt
open Go.RowKit

/-- Two sentinels that are not the same. -/
def Ne2 (w : World) (ep eof : Addr) : Prop := ep ≠ eof ∧ (∃ c t, w.heap[ep.block]? = some (.cells c t (0, 0))) ∧ (∃ c t, w.heap[eof.block]? = some (.cells c t (0, 0)))

theorem Ne2.eql {w : World} {ep eof : Addr} (h : Ne2 w ep eof) : (binOp .eql 27 (.iface 67 (.pointer (some ep))) (.iface 67 (.pointer (some eof)))).run Tryf.prog w = .ok (.bool false) w := by
  obtain ⟨hne, ⟨c, t, ha⟩, ⟨c', t', hb⟩⟩ := h
  obtain ⟨i, hi, hcmp⟩ := Option.map_eq_some_iff.1 Tryf.comp67
  obtain ⟨j, hj, hjs⟩ := Option.map_eq_some_iff.1 Tryf.size69
  exact run_eql_iface_ptr_other (P := Tryf.prog) w Tryf.underlying27 Tryf.underlying67 hi hcmp hj (by rw [hjs]; decide) hne ha hb
theorem Ne2.neq {w : World} {ep eof : Addr} (h : Ne2 w ep eof) : (binOp .neq 27 (.iface 67 (.pointer (some ep))) (.iface 67 (.pointer (some eof)))).run Tryf.prog w = .ok (.bool true) w := by
  obtain ⟨hne, ⟨c, t, ha⟩, ⟨c', t', hb⟩⟩ := h
  obtain ⟨i, hi, hcmp⟩ := Option.map_eq_some_iff.1 Tryf.comp67
  obtain ⟨j, hj, hjs⟩ := Option.map_eq_some_iff.1 Tryf.size69
  simp only [binOp]
  simp [Op.equal, Op.maxDepth, run_equalIn_iface_ptr_other w 9998 Tryf.underlying27 Tryf.underlying67 hi hcmp hj (by rw [hjs]; decide) hne ha hb]
theorem neq_same (a : Addr) (w : World) : (binOp .neq 27 (.iface 67 (.pointer (some a))) (.iface 67 (.pointer (some a)))).run Tryf.prog w = .ok (.bool false) w := by
  obtain ⟨i, hi, hc⟩ := Option.map_eq_some_iff.1 Tryf.comp67
  obtain ⟨j, hj, _⟩ := Option.map_eq_some_iff.1 Tryf.size69
  simp only [binOp]
  simp [Op.equal, Op.maxDepth, run_equalIn_iface_ptr_same w 9998 a Tryf.underlying27 Tryf.underlying67 hi hc hj]

set_option maxHeartbeats 400000 in
theorem errRead_any (eb : Nat) (ep : Addr) (pv : Value) (w : World) (h : w.cell? ⟨eb, 0, none⟩ = some (.iface 67 (.pointer (some ep)))) :
    Calls Tryf.prog 45 #[.pointer (some ⟨eb, 0, none⟩), pv] w fun e w' => e = .returned (.tuple #[.int .i64 0, .iface 67 (.pointer (some ep))]) ∧ ∃ n, w' = w.drewN n := by
  go_enter Tryf.func45, Tryf.ntmps45
  go_wp2
  go_quiet (fail)
  go_wp2
  go_ret2
  exact ⟨rfl, _, rfl⟩

set_option maxHeartbeats 400000 in
theorem errReader_any (ep : Addr) (w : World) :
    Calls Tryf.prog 18 #[.iface 67 (.pointer (some ep))] w fun e w' => e = .returned (.iface 58 (.pointer (some ⟨w.heap.size, 0, none⟩))) ∧ w' = w.alloc (.cells #[.iface 67 (.pointer (some ep))] 60) := by
  go_enter Tryf.func18, Tryf.ntmps18
  go_wp2
  go_ret
  exact ⟨rfl, rfl⟩

theorem Tryf.info42 : (Tryf.prog.info? 42).map (fun i => (i.zero, i.size, i.bytes)) = some (some .nilIface, 1, 16) := by kernel_rfl

set_option maxHeartbeats 400000 in
theorem multiReader_any (b : Nat) (x y : Value) (w : World) (h0 : w.heap[b]? = some (.cells #[x, y] 42 (0, 0))) (hx : x.oneCell' = true) (hy : y.oneCell' = true) :
    Calls Tryf.prog 17 #[.slice (some ⟨b, 0, none⟩) 2 2] w fun e w' => ∃ mb ab, e = .returned (.iface 55 (.pointer (some ⟨mb, 0, none⟩))) ∧ w.heap.size ≤ mb ∧ w.heap.size ≤ ab ∧ mb ≠ ab ∧ w'.heap[mb]? = some (.cells #[.slice (some ⟨ab, 0, none⟩) 2 2] 57 (0, 0)) ∧ w'.heap[ab]? = some (.cells #[x, y] 42 (0, 0)) ∧ Below w.heap.size w w' := by
  have hmk : ∀ w, (Instr.makeSlice 54 (.int .i64 2) (.int .i64 2)).run Tryf.prog w = .ok (.slice (some ⟨w.heap.size, 0, none⟩) 2 2) (w.alloc (.cells #[.nilIface, .nilIface] 42)) := fun _ => by kernel_rfl
  have hlt := (Array.getElem?_eq_some_iff.1 h0).1
  have hs42 : (Tryf.prog.info? 42).map (·.size) = some 1 := by kernel_rfl
  have hb1 : (w.alloc (.cells #[.nilIface, .nilIface] 42)).heap[b]? = some (.cells #[x, y] 42 (0, 0)) := by rw [Below.heap_alloc _ _ _ hlt]; exact h0
  have hcp := run_copy_row (P := Tryf.prog) (w.alloc (.cells #[.nilIface, .nilIface] 42)) 54 54 3 42 w.heap.size 0 2 2 ⟨b, 0, none⟩ 2 2 #[.nilIface, .nilIface] 42 [x, y] Tryf.underlying54 hs42 (heap_alloc_new w _) rfl (fun j v hj => by
    have had : (⟨b, 0, none⟩ : Addr).add j = ⟨b, j, none⟩ := by unfold Addr.add; split <;> simp_all
    rw [had, cell_of_row _ b j _ 42 (0, 0) hb1]
    simpa using hj) (by simp) (fun v hv => by
    simp at hv
    rcases hv with rfl | rfl
    · exact hx
    · exact hy)
  have H0 : Hid (w.heap[b]? = some (.cells #[x, y] 42 (0, 0))) := h0
  clear h0 hb1
  go_enter Tryf.func17, Tryf.ntmps17
  go_wp2
  go_ret
  have hr : ((w.alloc (.cells #[.nilIface, .nilIface] 42)).setRow w.heap.size #[x, y]).heap[w.heap.size]? = some (.cells #[x, y] 42 (0, 0)) := setRow_heap _ w.heap.size #[.nilIface, .nilIface] _ 42 _ (heap_alloc_new w _)
  refine ⟨w.heap.size + 1, rfl, by omega, w.heap.size, Nat.le_refl _, by omega, ?_, ?_, ?_⟩
  · have h1 := heap_alloc_new ((w.alloc (.cells #[.nilIface, .nilIface] 42)).setRow w.heap.size #[x, y]) (.cells #[.slice (some ⟨w.heap.size, 0, none⟩) 2 2] 57)
    simpa using h1
  · rw [Below.heap_alloc _ _ _ (by simp)]
    exact hr
  · refine Below.alloc ?_ (by simp) _
    exact ((Below.refl _ w).alloc (Nat.le_refl _) _).trans ⟨rfl, rfl, rfl, by simp, fun k hk => setRow_other _ _ _ _ (by omega)⟩
end Go.Proofs.Qxb6609101aFmt
