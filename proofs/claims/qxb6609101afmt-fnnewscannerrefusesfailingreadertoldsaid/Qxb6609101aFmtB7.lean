/- NewScanner over a reader that fails; ZZnewScannerFailing. -/
import Derived.Test.Qxb6609101aFmtB6
import Derived.Deep.RegionHeld3
namespace Go.Proofs.Qxb6609101aFmt
open Go.RowKit
open Go.Extern.Stop Go.Stop Go.Extern

set_option maxHeartbeats 1000000 in
theorem newScanner_bad {fr : FuncId} {tr : TypeId} {pa : Addr} {RB : Nat → Prop} {R : World → List Int → Prop} {ep eof : Addr} (F : Interp) (s : ByteArray) (w : World) (hF : F.answers w.tape) (hR : Rdr fr tr pa w.heap.size RB R (.iface 67 (.pointer (some ep)))) (zs : List Int) (hz : zs.length ≤ 10000000) (hr : R w zs)
    (hna : ∀ w, (nilAhead 196 tr (.pointer (some pa)) "Read").run Tryf.prog w = .ok (some false) w) (hme : ∀ w, (method 196 tr (.pointer (some pa)) "Read").run Tryf.prog w = .ok (fr, .pointer (some pa)) w)
    (hen : ∀ args w, (callFunc fr args).run Tryf.prog w = .ok (.enter fr args) w) (hc1 : w.cell? ⟨1, 0, none⟩ = some (.iface 67 (.pointer (some eof)))) (h1 : 1 < w.heap.size)
    (hq : ∀ W : World, Fr (fun k => RB k ∨ w.heap.size ≤ k) w W → (binOp .eql 27 (.iface 67 (.pointer (some ep))) (.iface 67 (.pointer (some eof)))).run Tryf.prog W = .ok (.bool false) W)
    (hs : w.cell? ep = some (.string s)) (hp : ¬ RB ep.block) (name : ByteArray) :
    Calls Tryf.prog 12 #[.iface tr (.pointer (some pa)), .string name] w fun e w' => (∃ a : Addr, e = .returned (.tuple #[.pointer none, .iface 66 (.pointer (some a))])) ∧ Fr (fun k => RB k ∨ w.heap.size ≤ k) w w' := by
  go_enter Tryf.func12, Tryf.ntmps12
  go_wp2_with fail
  refine (readAll_any w hR zs hz hr hna hme hen hc1 h1 hq).mono ?_
  rintro e w1 ⟨g, cap, rfl, hg, hown, hf⟩
  simp only [Bool.false_eq_true, if_false]
  have hpb : ep.block < w.heap.size := World.block_lt_of_cell? w ep hs
  have hs1 : w1.cell? ep = some (.string s) := (hf.cell hpb (fun h => h.elim hp (fun h => by omega))).trans hs
  have HS1 : Hid (w1.cell? ep = some (.string s)) := hs1
  have HF : Hid (Fr (fun k => RB k ∨ w.heap.size ≤ k) w w1) := hf
  have HFF : Hid (F.answers w1.tape) := by
    show F.answers w1.tape
    rw [hf.tape]
    exact hF
  have hpb1 : ep.block < w1.heap.size := World.block_lt_of_cell? w1 ep hs1
  clear hown hf hR hr hna hme hen hc1 hq hF hs hs1
  go_wp2_with (first
    | (go_at_call 20
       refine (errorf_any F w1.heap.size name s ep (w1.alloc (.cells #[.iface 9 (.string name), .iface 67 (.pointer (some ep))] 20)) HFF.out (by simp) (by simp) ((World.cell?_of_block (w := w1) (Below.heap_alloc w1 _ _ hpb1)).trans HS1.out)).mono ?_
       rintro e w2 ⟨⟨x, rfl⟩, hf2⟩))
  go_ret2
  exact ⟨⟨x, rfl⟩, (HF.out.alloc _).trans (hf2.mono (fun _ _ h => h.elim))⟩

theorem na55 (a : Addr) (w : World) : (nilAhead 196 55 (.pointer (some a)) "Read").run Tryf.prog w = .ok (some false) w := by kernel_rfl
theorem me55 (a : Addr) (w : World) : (method 196 55 (.pointer (some a)) "Read").run Tryf.prog w = .ok (44, .pointer (some a)) w := by kernel_rfl
theorem en44 (args : Array Value) (w : World) : (callFunc 44 args).run Tryf.prog w = .ok (.enter 44 args) w := by kernel_rfl

/-- The two sentinels, and the text behind the second. -/
structure Sents (w : World) (ep eof : Addr) (s : ByteArray) : Prop where
  zero : w.cell? ⟨0, 0, none⟩ = some (.iface 67 (.pointer (some ep)))
  one : w.cell? ⟨1, 0, none⟩ = some (.iface 67 (.pointer (some eof)))
  ne : Ne2 w ep eof
  text : w.cell? ep = some (.string s)

theorem Sents.below {w w' : World} {ep eof : Addr} {s : ByteArray} (h : Sents w ep eof s) (hb : Below w.heap.size w w') : Sents w' ep eof s := by
  obtain ⟨z, o, ⟨hne, ⟨c, t, ha⟩, ⟨c', t', hb'⟩⟩, ht⟩ := h
  refine ⟨?_, ?_, ⟨hne, ⟨c, t, ?_⟩, ⟨c', t', ?_⟩⟩, ?_⟩
  · rw [hb.cell (p := ⟨0, 0, none⟩) (World.block_lt_of_cell? w _ z)]; exact z
  · rw [hb.cell (p := ⟨1, 0, none⟩) (World.block_lt_of_cell? w _ o)]; exact o
  · rw [hb.block _ (Array.getElem?_eq_some_iff.1 ha).1]; exact ha
  · rw [hb.block _ (Array.getElem?_eq_some_iff.1 hb').1]; exact hb'
  · rw [hb.cell (World.block_lt_of_cell? w _ ht)]; exact ht

theorem fail_setup {w w1 w2 w3 : World} {zs : List Int} {a : Option Addr} {cap mb ab : Nat} {s : ByteArray} {ep eof : Addr} (hz : zs.length ≤ 10000000) (hcap : zs.length ≤ cap) (hb : BytesAt w a zs) (ha : ∀ x, a = some x → x.block < w.heap.size) (he : Sents w ep eof s)
    (e1 : w1 = w.drew.alloc (.cells #[.slice a zs.length cap, .int .i64 0, .int .i64 (-1)] 53)) (e2 : w2 = w1.alloc (.cells #[.iface 67 (.pointer (some ep))] 60)) (o : Obj) (hm1 : w.heap.size + 3 ≤ mb) (hm2 : w.heap.size + 3 ≤ ab) (hne : mb ≠ ab)
    (hm : w3.heap[mb]? = some (.cells #[.slice (some ⟨ab, 0, none⟩) 2 2] 57 (0, 0))) (hab : w3.heap[ab]? = some (.cells #[.iface 33 (.pointer (some ⟨w.heap.size, 0, none⟩)), .iface 58 (.pointer (some ⟨w.heap.size + 1, 0, none⟩))] 42 (0, 0)))
    (hbel : Below (w2.alloc o).heap.size (w2.alloc o) w3) :
    MrLay w3.heap.size mb ab w.heap.size (w.heap.size + 1) a ep eof ∧ MrLeft mb ab w.heap.size (w.heap.size + 1) a zs cap ep eof w3 zs ∧ Below w.heap.size w w3 := by
  have s1 : w1.heap.size = w.heap.size + 1 := by rw [e1]; simp
  have s2 : w2.heap.size = w.heap.size + 2 := by rw [e2]; simp; omega
  have s3 : (w2.alloc o).heap.size = w.heap.size + 3 := by simp; omega
  have b1 : Below w.heap.size w w1 := by rw [e1]; exact (Below.refl _ w).drew.alloc (Nat.le_refl _) _
  have b2 : Below w1.heap.size w1 w2 := by rw [e2]; exact (Below.refl _ w1).alloc (Nat.le_refl _) _
  have b3 : Below w2.heap.size w2 w3 := ((Below.refl _ w2).alloc (Nat.le_refl _) o).trans (hbel.mono (by omega))
  have bel : Below w.heap.size w w3 := b1.trans ((b2.trans (b3.mono (by omega))).mono (by omega))
  have he3 := he.below bel
  have h1s : 1 < w.heap.size := World.block_lt_of_cell? w _ he.one
  obtain ⟨hne', ⟨c, t, ha'⟩, ⟨c', t', hb'⟩⟩ := he.ne
  have hp := (Array.getElem?_eq_some_iff.1 ha').1
  have ho := (Array.getElem?_eq_some_iff.1 hb').1
  have hr : w3.heap[w.heap.size]? = some (.cells #[.slice a zs.length cap, .int .i64 0, .int .i64 (-1)] 53 (0, 0)) := by
    rw [b3.block _ (by omega), b2.block _ (by omega), e1]
    exact heap_alloc_new w.drew _
  have hee : w3.heap[w.heap.size + 1]? = some (.cells #[.iface 67 (.pointer (some ep))] 60 (0, 0)) := by
    rw [b3.block _ (by omega), e2, ← s1]
    exact heap_alloc_new w1 _
  have sz := b3.size
  have hmb := (Array.getElem?_eq_some_iff.1 hm).1
  have habl := (Array.getElem?_eq_some_iff.1 hab).1
  refine ⟨?_, ⟨⟨he3.one, he3.ne, hee⟩, .inl ⟨⟨hm, hab⟩, 0, -1, ⟨hr, hb.below bel, fun x hx => by have := ha x hx; omega, Nat.zero_le _, hz, hcap⟩, by simp⟩⟩, bel⟩
  exact ⟨by omega, hmb, by omega, habl, h1s, by omega, by omega, by omega, by omega, hne, by omega, by omega, by omega, by omega, by omega, by omega, by omega, by omega, by omega, by omega, by omega, fun x hx => by have := ha x hx; omega⟩

theorem Sents.q {w W : World} {ep eof : Addr} {s : ByteArray} {S : Nat → Prop} (h : Sents w ep eof s) (hf : Fr S w W) (h1 : ¬ S ep.block) (h2 : ¬ S eof.block) : Ne2 W ep eof := by
  obtain ⟨hne, ⟨c, t, ha⟩, ⟨c', t', hb⟩⟩ := h.ne
  exact ⟨hne, ⟨c, t, by rw [hf.block _ (Array.getElem?_eq_some_iff.1 ha).1 h1]; exact ha⟩, ⟨c', t', by rw [hf.block _ (Array.getElem?_eq_some_iff.1 hb).1 h2]; exact hb⟩⟩

set_option maxRecDepth 100000 in
set_option maxHeartbeats 1000000 in
theorem zzFail_any (F : Interp) (zs : List Int) (a : Option Addr) (cap : Nat) (name s : ByteArray) (ep eof : Addr) (w : World) (hF : F.answers w.tape) (hz : zs.length ≤ 10000000) (hcap : zs.length ≤ cap) (hb : BytesAt w a zs) (ha : ∀ x, a = some x → x.block < w.heap.size) (he : Sents w ep eof s) :
    Calls Tryf.prog 11 #[.slice a zs.length cap, .string name] w fun e w' => (∃ x : Addr, e = .returned (.tuple #[.pointer none, .iface 66 (.pointer (some x))])) ∧ Below w.heap.size w w' := by
  have HFF : Hid (F.answers w.tape) := hF
  have HBy : Hid (BytesAt w a zs) := hb
  have HA : Hid (∀ x, a = some x → x.block < w.heap.size) := ha
  have HE : Hid (Sents w ep eof s) := he
  have z0 := he.zero
  have h1s : 1 < w.heap.size := World.block_lt_of_cell? w _ he.one
  clear hF hb ha he
  go_enter Tryf.func11, Tryf.ntmps11
  go_wp2_with fail
  go_region_held3 (fun W => W.cell? ⟨0, 0, none⟩ = some (.iface 67 (.pointer (some ep)))) (go_keep)
    (first
      | (go_at_call 13
         refine (newReader_any _ a zs.length cap rfl _).mono ?_
         rintro e w1 ⟨rfl, hx⟩
         have HX1 : Hid (w1 = w.drew.alloc (.cells #[.slice a zs.length cap, .int .i64 0, .int .i64 (-1)] 53)) := hx
         have z1 : w1.cell? ⟨0, 0, none⟩ = some (.iface 67 (.pointer (some ep))) := by
           rw [hx]
           exact (World.cell?_of_block (w := w) (Below.heap_alloc w.drew _ _ (by show 0 < w.heap.size; omega))).trans z0
         clear hx)
      | (go_at_call 18
         refine (errReader_any ep _).mono ?_
         rintro e w2 ⟨rfl, hx⟩
         have hs1 : w1.heap.size = w.heap.size + 1 := by rw [HX1.out]; simp
         have hs2 : w2.heap.size = w.heap.size + 2 := by rw [hx]; simp; omega
         have HX2 : Hid (w2 = w1.alloc (.cells #[.iface 67 (.pointer (some ep))] 60)) := hx
         have z2 : w2.cell? ⟨0, 0, none⟩ = some (.iface 67 (.pointer (some ep))) := by
           rw [hx]
           exact (World.cell?_of_block (w := w1) (Below.heap_alloc w1 _ _ (by show 0 < w1.heap.size; omega))).trans z1
         have n2 := World.new_ne w2 ⟨0, 0, none⟩ z2
         clear hx)
      | (go_at_call 17
         refine (multiReader_any (w.heap.size + 2) (.iface 33 (.pointer (some ⟨w.heap.size, 0, none⟩))) (.iface 58 (.pointer (some ⟨w.heap.size + 1, 0, none⟩))) _ (by rw [← hs2]; exact heap_alloc_new w2 _) rfl rfl).mono ?_
         rintro e w3 ⟨mb, ab, rfl, k1, k2, k3, k4, k5, k6⟩
         have q1 : w.heap.size + 3 ≤ mb := by simp at k1; omega
         have q2 : w.heap.size + 3 ≤ ab := by simp at k2; omega
         have st := fail_setup hz hcap HBy.out HA.out HE.out HX1.out HX2.out _ q1 q2 k3 k4 k5 k6
         have ST : Hid _ := st
         have z3 : w3.cell? ⟨0, 0, none⟩ = some (.iface 67 (.pointer (some ep))) := (HE.out.below st.2.2).zero
         clear k1 k2 k3 k4 k5 k6 st)
      | (go_at_call 12
         refine (newScanner_bad F s w3 (by rw [ST.out.2.2.tape]; exact HFF.out) (rdr_multi ST.out.1) zs hz ST.out.2.1 (na55 _) (me55 _) en44 ((HE.out.below ST.out.2.2).one) (by have := ST.out.2.2.size; omega)
           (fun W hf => ((HE.out.below ST.out.2.2).q hf (fun h => by have l := ST.out.1; have p1 := l.pm; have p2 := l.pa; have p3 := l.pr; have p4 := l.p2; omega) (fun h => by have l := ST.out.1; have p1 := l.om; have p2 := l.oa; have p3 := l.or; have p4 := l.o2; omega)).eql)
           ((HE.out.below ST.out.2.2).text) (fun h => by have l := ST.out.1; have p1 := l.pm; have p2 := l.pa; have p3 := l.pr; omega) name).mono ?_
         rintro e w4 ⟨⟨x, rfl⟩, hf⟩
         have hb4 : Below w.heap.size w w4 := ST.out.2.2.trans (hf.below ST.out.2.2.size (fun k hk h => by have q3 := ST.out.2.2.size; omega))
         have z4 : w4.cell? ⟨0, 0, none⟩ = some (.iface 67 (.pointer (some ep))) := (HE.out.below hb4).zero
         have HB4 : Hid (Below w.heap.size w w4) := hb4
         clear hf hb4))
  go_wp2
  go_ret2
  exact ⟨⟨x, rfl⟩, HB4.out⟩
end Go.Proofs.Qxb6609101aFmt
