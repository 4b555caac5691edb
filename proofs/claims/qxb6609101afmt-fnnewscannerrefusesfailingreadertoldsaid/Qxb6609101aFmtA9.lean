import Derived.Test.Qxb6609101aFmtA8
import Derived.Lib.SlBytesConst
namespace Go.Proofs.Qxb6609101aFmt
open Go.RowKit

/-- A fresh scanner over the bytes zs. -/
def ScAt (w : World) (sb base : Nat) (name : ByteArray) (zs : List Int) : Prop :=
  ∃ a cap mb ck, w.heap[sb]? = some (.cells #[.string name, .slice a zs.length cap, .int .i64 0, .int .i64 1, .int .i64 1, .map (some mb)] 51 (0, 0)) ∧ w.heap[mb]? = some (.map #[] ck) ∧ BytesAt w a zs ∧ base ≤ sb ∧ base ≤ mb ∧ (∀ x, a = some x → base ≤ x.block)

theorem ScAt.below {w w' : World} {sb base : Nat} {name : ByteArray} {zs : List Int} (h : ScAt w sb base name zs) (hb : Below w.heap.size w w') : ScAt w' sb base name zs := by
  obtain ⟨a, cap, mb, ck, h1, h2, h3, h4⟩ := h
  refine ⟨a, cap, mb, ck, ?_, ?_, h3.below hb, h4⟩
  · rw [hb.block sb (Array.getElem?_eq_some_iff.1 h1).1]; exact h1
  · rw [hb.block mb (Array.getElem?_eq_some_iff.1 h2).1]; exact h2

set_option maxHeartbeats 400000 in
theorem newScanner_ok {fr : FuncId} {tr : TypeId} {pa : Addr} {RB : Nat → Prop} {R : World → List Int → Prop} {eof : Addr} (w : World) (hR : Rdr fr tr pa w.heap.size RB R (.iface 67 (.pointer (some eof)))) (zs : List Int) (hz : zs.length ≤ 10000000) (hwf : Wf zs) (hr : R w zs)
    (hna : ∀ w, (nilAhead 196 tr (.pointer (some pa)) "Read").run Tryf.prog w = .ok (some false) w) (hme : ∀ w, (method 196 tr (.pointer (some pa)) "Read").run Tryf.prog w = .ok (fr, .pointer (some pa)) w)
    (hen : ∀ args w, (callFunc fr args).run Tryf.prog w = .ok (.enter fr args) w) (hc1 : w.cell? ⟨1, 0, none⟩ = some (.iface 67 (.pointer (some eof)))) (h1 : 1 < w.heap.size)
    (hq : ∀ W : World, Fr (fun k => RB k ∨ w.heap.size ≤ k) w W → (binOp .eql 27 (.iface 67 (.pointer (some eof))) (.iface 67 (.pointer (some eof)))).run Tryf.prog W = .ok (.bool true) W) (name : ByteArray) :
    Calls Tryf.prog 12 #[.iface tr (.pointer (some pa)), .string name] w fun e w' => ∃ sb, e = .returned (.tuple #[.pointer (some ⟨sb, 0, none⟩), .nilIface]) ∧ ScAt w' sb w.heap.size name (trim zs) ∧ Fr (fun k => RB k ∨ w.heap.size ≤ k) w w' := by
  have hmm := @run_makeMap Tryf.prog
  have hcv := fun (w : World) (C : Array Value) (n c : Nat) => Lib.run_convert_bytes_const (P := Tryf.prog) w 22 5 C n c Tryf.underlying22 Tryf.underlying5
  go_enter Tryf.func12, Tryf.ntmps12
  go_wp2_with fail
  refine (readAll_any w hR zs hz hr hna hme hen hc1 h1 hq).mono ?_
  rintro e w1 ⟨g, cap, rfl, hg, hown, hf⟩
  simp only [if_true]
  have HO : Hid (OwnB w1 g cap zs) := hown
  have HF : Hid (Fr (fun k => RB k ∨ w.heap.size ≤ k) w w1) := hf
  clear hown hf hR hr hna hme hen hc1 hq
  have hgl := HO.out.lt
  have hle := HO.out.le
  have hbw : Below w1.heap.size w1 (w1.alloc (.cells #[.int .u8 239, .int .u8 187, .int .u8 191] 5 (3, 4))) := (Below.refl _ _).alloc (Nat.le_refl _) _
  have HB : Hid (BytesAt (w1.alloc (.cells #[.int .u8 239, .int .u8 187, .int .u8 191] 5 (3, 4))) (some ⟨g, 0, none⟩) zs) := HO.out.bytes.below hbw
  have HM : Hid (BytesAt (w1.alloc (.cells #[.int .u8 239, .int .u8 187, .int .u8 191] 5 (3, 4))) (some ⟨w1.heap.size, 0, none⟩) mark) := by
    refine .inr ⟨w1.heap.size, 0, rfl, by simp, fun i hi => ?_⟩
    rw [Nat.zero_add, cell_of_row _ w1.heap.size i #[.int .u8 239, .int .u8 187, .int .u8 191] 5 (3, 4) (heap_alloc_new w1 _)]
    have h3 : i < 3 := hi
    match i, h3 with
    | 0, _ => rfl
    | 1, _ => rfl
    | 2, _ => rfl
  have HW : Hid (Wf zs) := hwf
  clear hbw hwf
  go_wp2_with (first | (go_at_call 21; refine (trim_any zs g cap w1.heap.size 3 _ HB.out HM.out HW.out (by omega) hle).mono ?_; rintro e wx ⟨off, cap', rfl, hby, hx⟩; obtain rfl := hx.symm))
  go_ret2
  refine ⟨w1.heap.size + 1 + 1, rfl, ⟨some ⟨g, off, none⟩, cap', w1.heap.size + 1, 0, ?_, ?_, ?_, ?_, ?_, ?_⟩, ((HF.out.alloc _).alloc _).alloc _⟩
  · have := heap_alloc_new ((w1.alloc (.cells #[.int .u8 239, .int .u8 187, .int .u8 191] 5 (3, 4))).alloc (.map #[] 0)) (.cells #[.string name, .slice (some ⟨g, off, none⟩) (trim zs).length cap', .int .i64 0, .int .i64 1, .int .i64 1, .map (some (w1.heap.size + 1))] 51)
    simpa using this
  · rw [Below.heap_alloc _ _ _ (by simp)]
    have := heap_alloc_new (w1.alloc (.cells #[.int .u8 239, .int .u8 187, .int .u8 191] 5 (3, 4))) (.map #[] 0)
    simpa using this
  · exact hby.below (((Below.refl _ _).alloc (Nat.le_refl _) _).alloc (by simp) _)
  · have := HF.out.size; omega
  · have := HF.out.size; omega
  · intro x hx
    simp only [Option.some.injEq] at hx
    subst hx
    exact hg
end Go.Proofs.Qxb6609101aFmt
