import Derived.Test.Qxb6609101aFmtA9
import Derived.MapKept
namespace Go.Proofs.Qxb6609101aFmt
open Go.RowKit

theorem Tryf.comp67 : (Tryf.prog.info? 67).map (·.comparable) = some true := by kernel_rfl
theorem Tryf.size69 : (Tryf.prog.info? 69).map (·.size) = some 1 := by kernel_rfl

theorem eq_same (a : Addr) (w : World) : (binOp .eql 27 (.iface 67 (.pointer (some a))) (.iface 67 (.pointer (some a)))).run Tryf.prog w = .ok (.bool true) w := by
  obtain ⟨i, hi, hc⟩ := Option.map_eq_some_iff.1 Tryf.comp67
  obtain ⟨j, hj, _⟩ := Option.map_eq_some_iff.1 Tryf.size69
  exact run_eql_iface_ptr_same w a Tryf.underlying27 Tryf.underlying67 hi hc hj

/-- io.EOF holds a pointer. -/
def EofAt (w : World) (eof : Addr) : Prop := w.cell? ⟨1, 0, none⟩ = some (.iface 67 (.pointer (some eof))) ∧ 1 < w.heap.size

theorem EofAt.below {w w' : World} {eof : Addr} (h : EofAt w eof) (hb : Below w.heap.size w w') : EofAt w' eof := by
  have h2 := h.2
  have h3 := hb.size
  exact ⟨by rw [hb.cell (p := ⟨1, 0, none⟩) h.2]; exact h.1, by omega⟩

set_option maxHeartbeats 400000 in
theorem zzNew_any (zs : List Int) (a : Option Addr) (cap : Nat) (name : ByteArray) (eof : Addr) (w : World) (hz : zs.length ≤ 10000000) (hwf : Wf zs) (hcap : zs.length ≤ cap) (hb : BytesAt w a zs) (ha : ∀ x, a = some x → x.block < w.heap.size) (he : EofAt w eof) :
    Calls Tryf.prog 7 #[.slice a zs.length cap, .string name] w fun e w' => ∃ sb, e = .returned (.tuple #[.pointer (some ⟨sb, 0, none⟩), .nilIface]) ∧ ScAt w' sb w.heap.size name (trim zs) ∧ Below w.heap.size w w' := by
  obtain ⟨W, hW⟩ : ∃ W, W = w.alloc (.cells #[.slice a zs.length cap, .int .i64 0, .int .i64 (-1)] 53) := ⟨_, rfl⟩
  have hbel : Below w.heap.size w W := by rw [hW]; exact (Below.refl _ _).alloc (Nat.le_refl _) _
  have hsz : W.heap.size = w.heap.size + 1 := by rw [hW]; simp
  have heW := he.below hbel
  have hR : Rdr 43 33 ⟨w.heap.size, 0, none⟩ W.heap.size (fun k => k = w.heap.size) (RdLeft w.heap.size a zs cap eof) (.iface 67 (.pointer (some eof))) :=
    rdr_bytes w.heap.size W.heap.size a zs cap eof he.2 (by omega) (fun x hx => by have := ha x hx; omega)
  have hr : RdLeft w.heap.size a zs cap eof W zs := by
    refine ⟨heW.1, 0, -1, ⟨?_, hb.below hbel, fun x hx => by have := ha x hx; omega, Nat.zero_le _, hz, hcap⟩, by simp⟩
    rw [hW]
    exact heap_alloc_new w _
  have HW : Hid (W = w.alloc (.cells #[.slice a zs.length cap, .int .i64 0, .int .i64 (-1)] 53)) := hW
  have HR : Hid (Rdr 43 33 ⟨w.heap.size, 0, none⟩ W.heap.size (fun k => k = w.heap.size) (RdLeft w.heap.size a zs cap eof) (.iface 67 (.pointer (some eof)))) := hR
  have Hr : Hid (RdLeft w.heap.size a zs cap eof W zs) := hr
  have HB : Hid (Below w.heap.size w W) := hbel
  have HE : Hid (EofAt W eof) := heW
  have HWf : Hid (Wf zs) := hwf
  have HS : Hid (W.heap.size = w.heap.size + 1) := hsz
  clear hW hbel heW hR hr hwf hsz hb ha he
  go_enter Tryf.func7, Tryf.ntmps7
  go_wp2_with (first | (go_at_call 13; refine (newReader_any _ a zs.length cap rfl _).mono ?_; rintro e wx ⟨rfl, hx⟩; rw [← HW.out] at hx; obtain rfl := hx.symm) | (go_at_call 12; refine (newScanner_ok _ HR.out zs hz HWf.out Hr.out (na33 _) (me33 _) en43 HE.out.1 HE.out.2 (fun W' _ => eq_same eof W') name).mono ?_; rintro e w2 ⟨sb, rfl, hsc, hf⟩))
  go_ret2
  have hbb : Below w.heap.size W w2 := hf.below (by rw [HS.out]; omega) (fun k hk h => by rw [HS.out] at h; omega)
  refine ⟨sb, rfl, ?_, HB.out.trans hbb⟩
  obtain ⟨a', cap', mb, ck, h1, h2, h3, h4, h5, h6⟩ := hsc
  rw [HS.out] at h4 h5 h6
  exact ⟨a', cap', mb, ck, h1, h2, h3, by omega, by omega, fun x hx => by have := h6 x hx; omega⟩

set_option maxHeartbeats 400000 in
theorem state_any (sb base : Nat) (name : ByteArray) (zs : List Int) (w : World) (h : ScAt w sb base name zs) :
    Calls Tryf.prog 14 #[.pointer (some ⟨sb, 0, none⟩)] w fun e w' => ∃ a cap, e = .returned (.tuple #[.string name, .slice a zs.length cap, .int .i64 0, .int .i64 0]) ∧ BytesAt w a zs ∧ ∃ n, w' = w.drewN n := by
  obtain ⟨a, cap, mb, ck, h1, h2, h3, _⟩ := h
  have c0 := cell_of_row w sb 0 _ 51 (0, 0) h1
  have c1 := cell_of_row w sb 1 _ 51 (0, 0) h1
  have c2 := cell_of_row w sb 2 _ 51 (0, 0) h1
  have c5 := cell_of_row w sb 5 _ 51 (0, 0) h1
  simp at c0 c1 c2 c5
  have HB : Hid (BytesAt w a zs) := h3
  have hlen : ∀ n ty, (Builtin.len_ #[49] ty #[.map (some mb)]).run Tryf.prog (w.drewN n) = .ok (.int .i64 0) (w.drewN n) := fun n ty => by
    have h2' : (w.drewN n).heap[mb]? = some (.map #[] ck) := h2
    simp [Builtin.len_, run_underlying Tryf.underlying49, MapKept.run_getObj_map h2', goInt, Result.andThen]
  clear h1 h3 h2
  go_enter Tryf.func14, Tryf.ntmps14
  go_wp2
  go_quiet (fail)
  go_wp2
  exact bodyPost_ret (v := .tuple #[.string name, .slice a zs.length cap, .int .i64 0, .int .i64 0]) (by simp [results, Tryf.results14, go_sem]) rfl ⟨a, cap, rfl, HB.out, nq, rfl⟩

set_option maxHeartbeats 400000 in
theorem pos_any (sb base : Nat) (name : ByteArray) (zs : List Int) (w : World) (h : ScAt w sb base name zs) :
    Calls Tryf.prog 15 #[.pointer (some ⟨sb, 0, none⟩)] w fun e w' => e = .returned (.agg #[.int .i64 1, .int .i64 1]) ∧ Below w.heap.size w w' := by
  obtain ⟨a, cap, mb, ck, h1, h2, h3, _⟩ := h
  have c3 := cell_of_row w sb 3 _ 51 (0, 0) h1
  have c4 := cell_of_row w sb 4 _ 51 (0, 0) h1
  have hlt := (Array.getElem?_eq_some_iff.1 h1).1
  simp at c3 c4
  clear h1 h3 h2
  go_enter Tryf.func15, Tryf.ntmps15
  go_wp2
  exact bodyPost_ret (v := .agg #[.int .i64 1, .int .i64 1]) (by simp [results, Tryf.results15, go_sem]) rfl ⟨rfl, (Below.refl _ _).alloc (Nat.le_refl _) _⟩

set_option maxHeartbeats 400000 in
theorem fresh_any (sb base : Nat) (name : ByteArray) (zs : List Int) (b : Option Addr) (cb : Nat) (w : World) (h : ScAt w sb base name zs) (hb : BytesAt w b zs) (hl : zs.length ≤ 10000000) :
    Calls Tryf.prog 9 #[.pointer (some ⟨sb, 0, none⟩), .string name, .slice b zs.length cb] w fun e w' => e = .returned (.bool true) ∧ Below w.heap.size w w' := by
  have HS : Hid (ScAt w sb base name zs) := h
  have HB : Hid (BytesAt w b zs) := hb
  clear h hb
  go_enter Tryf.func9, Tryf.ntmps9
  go_wp2_with fail
  refine (state_any sb base name zs _ HS.out).mono ?_
  rintro e w1 ⟨a, cap, rfl, hby, n, rfl⟩
  have hb1 : Below w.heap.size w (w.drewN n) := below_drewN (Below.refl _ _) n
  have HB1 : Hid (Below w.heap.size w (w.drewN n)) := hb1
  have HY : Hid (BytesAt w a zs) := hby
  clear hb1 hby
  go_wp2_with fail
  refine (pos_any sb base name zs _ (HS.out.below HB1.out)).mono ?_
  rintro e w2 ⟨rfl, hb2⟩
  have hb3 : Below w.heap.size w w2 := HB1.out.trans hb2
  have HB3 : Hid (Below w.heap.size w w2) := hb3
  clear hb2 hb3
  go_wp2_with fail
  have hb4 : Below w.heap.size w (w2.alloc (.cells #[.int .i64 1, .int .i64 1] 38)) := HB3.out.alloc HB3.out.size _
  have HB4 : Hid (Below w.heap.size w (w2.alloc (.cells #[.int .i64 1, .int .i64 1] 38))) := hb4
  refine (sameBytes_any zs a b cap cb _ (HY.out.below hb4) (HB.out.below hb4) hl).mono ?_
  rintro e w3 ⟨rfl, m, rfl⟩
  clear hb4
  go_wp2_with fail
  go_ret
  exact ⟨rfl, below_drewN HB4.out _⟩
end Go.Proofs.Qxb6609101aFmt
