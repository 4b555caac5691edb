/- io.MultiReader's Read over a simple reader and one that fails. -/
import Derived.Test.Qxb6609101aFmtB3
namespace Go.Proofs.Qxb6609101aFmt
open Go.RowKit

theorem nil_eof (eof : Addr) (w : World) : (binOp .eql 27 .nilIface (.iface 67 (.pointer (some eof)))).run Tryf.prog w = .ok (.bool false) w :=
  run_eql_iface_nil_left w 67 _ Tryf.underlying27

set_option maxRecDepth 100000 in
set_option maxHeartbeats 1000000 in
theorem mr_more (mb ab rb eb : Nat) (a : Option Addr) (zs : List Int) (cap pos : Nat) (pr : Int) (eof : Addr) (g o m c : Nat) (cur : List Value) (w : World)
    (hm : w.heap[mb]? = some (.cells #[.slice (some ⟨ab, 0, none⟩) 2 2] 57 (0, 0))) (ha : w.heap[ab]? = some (.cells #[.iface 33 (.pointer (some ⟨rb, 0, none⟩)), .iface 58 (.pointer (some ⟨eb, 0, none⟩))] 42 (0, 0)))
    (hc1 : w.cell? ⟨1, 0, none⟩ = some (.iface 67 (.pointer (some eof)))) (h : RdAt w rb a zs cap pos pr) (hp : pos < zs.length)
    (hgh : w.heap[g]? = some (.cells cur.toArray 5 (0, 0))) (hgr : g ≠ rb) (hg1 : g ≠ 1) (hr1 : rb ≠ 1) (hfit : o + m ≤ cur.length) (h0 : 0 < m) (hag : ∀ x, a = some x → x.block ≠ g) :
    Calls Tryf.prog 44 #[.pointer (some ⟨mb, 0, none⟩), .slice (some ⟨g, o, none⟩) m c] w fun e w' => e = .returned (.tuple #[.int .i64 (min m (zs.length - pos) : Nat), .nilIface]) ∧
      RdAt w' rb a zs cap (pos + min m (zs.length - pos)) (-1) ∧ w'.heap[g]? = some (.cells (Go.splice cur o (vals ((zs.drop pos).take m))).toArray 5 (0, 0)) ∧ Fr (fun k => k = rb ∨ k = g) w w' := by
  have c0 : w.cell? ⟨mb, 0, none⟩ = some (.slice (some ⟨ab, 0, none⟩) 2 2) := by rw [cell_of_row w mb 0 _ 57 (0, 0) hm]; rfl
  have c1 : w.cell? ⟨ab, 0, none⟩ = some (.iface 33 (.pointer (some ⟨rb, 0, none⟩))) := by rw [cell_of_row w ab 0 _ 42 (0, 0) ha]; rfl
  have na := na33
  have me := me33
  have ne := nil_eof eof
  have HR : Hid (RdAt w rb a zs cap pos pr) := h
  have Hg : Hid (w.heap[g]? = some (.cells cur.toArray 5 (0, 0))) := hgh
  have H1 : Hid (w.cell? ⟨1, 0, none⟩ = some (.iface 67 (.pointer (some eof)))) := hc1
  clear hm ha hgh h
  go_enter Tryf.func44, Tryf.ntmps44
  go_wp2_with fail
  go_loopg [4, 5, 6, 7] 0 (fun gk s4 s5 s6 s7 wr => wr = w)
  case atStart => rfl
  case round =>
    obtain rfl := hrel
    obtain ⟨n, hn⟩ : ∃ n, n = min m (zs.length - pos) := ⟨_, rfl⟩
    have hn0 : decide ((0 : Int) < (n : Int)) = true := by simp; omega
    have hn1 : decide (0 < n) = true := by simp; omega
    have hl := HR.out.len
    have hn2 : n ≤ 10000000 := by omega
    have HN : Hid (n = min m (zs.length - pos)) := hn
    clear hn hl
    have h1s := World.block_lt_of_cell? wr ⟨1, 0, none⟩ hc1
    go_wp2_with (first
      | (go_at_call 43
         refine (read_some rb a zs cap pos pr g o m c cur _ HR.out hp Hg.out hgr hfit h0 hag).mono ?_
         rintro e w1 ⟨rfl, hrd, hg', hf⟩
         rw [← HN.out] at hrd ⊢
         have e1 : w1.cell? ⟨1, 0, none⟩ = some (.iface 67 (.pointer (some eof))) := (hf.cell (p := ⟨1, 0, none⟩) h1s (by show ¬ (1 = rb ∨ 1 = g); omega)).trans H1.out
         have HX : Hid _ := And.intro hrd (And.intro hg' hf)
         clear hrd hg' hf))
    go_ret2
    rw [← HN.out]
    exact ⟨rfl, HX.out⟩

theorem na58 (a : Addr) (w : World) : (nilAhead 196 58 (.pointer (some a)) "Read").run Tryf.prog w = .ok (some false) w := by kernel_rfl
theorem me58 (a : Addr) (w : World) : (method 196 58 (.pointer (some a)) "Read").run Tryf.prog w = .ok (45, .pointer (some a)) w := by kernel_rfl

theorem ta58 (v : Value) (w : World) : (Instr.typeAssert (.iface 58 v) 42 55 true).run Tryf.prog w = .ok (.tuple #[.pointer none, .bool false]) w := by kernel_rfl

/-- What both stages share: the sentinels, the reader that fails. -/
structure MrC (w : World) (eb : Nat) (ep eof : Addr) : Prop where
  one : w.cell? ⟨1, 0, none⟩ = some (.iface 67 (.pointer (some eof)))
  ne : Ne2 w ep eof
  err : w.heap[eb]? = some (.cells #[.iface 67 (.pointer (some ep))] 60 (0, 0))
/-- The first reader stands. -/
def MrA (w : World) (mb ab rb eb : Nat) : Prop := w.heap[mb]? = some (.cells #[.slice (some ⟨ab, 0, none⟩) 2 2] 57 (0, 0)) ∧ w.heap[ab]? = some (.cells #[.iface 33 (.pointer (some ⟨rb, 0, none⟩)), .iface 58 (.pointer (some ⟨eb, 0, none⟩))] 42 (0, 0))
/-- The first reader has ended. -/
def MrB (w : World) (mb ab eb : Nat) : Prop := w.heap[mb]? = some (.cells #[.slice (some ⟨ab, 1, none⟩) 1 1] 57 (0, 0)) ∧ w.heap[ab]? = some (.cells #[.iface 89 (.agg #[]), .iface 58 (.pointer (some ⟨eb, 0, none⟩))] 42 (0, 0))

theorem MrC.drewN {w : World} {eb : Nat} {ep eof : Addr} (h : MrC w eb ep eof) (n : Nat) : MrC (w.drewN n) eb ep eof := ⟨h.one, h.ne, h.err⟩
theorem MrC.fr {S : Nat → Prop} {w w' : World} {eb : Nat} {ep eof : Addr} (h : MrC w eb ep eof) (hf : Fr S w w') (h1 : ¬ S 1) (h2 : ¬ S ep.block) (h3 : ¬ S eof.block) (h4 : ¬ S eb) : MrC w' eb ep eof := by
  obtain ⟨one, ⟨hne, ⟨c, t, ha⟩, ⟨c', t', hb⟩⟩, err⟩ := h
  refine ⟨?_, ⟨hne, ⟨c, t, ?_⟩, ⟨c', t', ?_⟩⟩, ?_⟩
  · rw [hf.cell (p := ⟨1, 0, none⟩) (World.block_lt_of_cell? w _ one) h1]; exact one
  · rw [hf.block _ (Array.getElem?_eq_some_iff.1 ha).1 h2]; exact ha
  · rw [hf.block _ (Array.getElem?_eq_some_iff.1 hb).1 h3]; exact hb
  · rw [hf.block _ (Array.getElem?_eq_some_iff.1 err).1 h4]; exact err

set_option maxRecDepth 100000 in
set_option maxHeartbeats 1000000 in
theorem mr_fin (mb ab rb eb : Nat) (a : Option Addr) (zs : List Int) (cap : Nat) (pr : Int) (ep eof : Addr) (pv : Value) (w : World) (hC : MrC w eb ep eof) (hA : (MrA w mb ab rb eb ∧ RdAt w rb a zs cap zs.length pr) ∨ MrB w mb ab eb)
    (h1 : 1 ≠ mb ∧ 1 ≠ ab) (h2 : ep.block ≠ mb ∧ ep.block ≠ ab) (h3 : eof.block ≠ mb ∧ eof.block ≠ ab) (h4 : eb ≠ mb ∧ eb ≠ ab) (h5 : mb ≠ ab) :
    Calls Tryf.prog 44 #[.pointer (some ⟨mb, 0, none⟩), pv] w fun e w' => e = .returned (.tuple #[.int .i64 0, .iface 67 (.pointer (some ep))]) ∧ Fr (fun k => k = mb ∨ k = ab) w w' := by
  have na := na33
  have me := me33
  have na' := na58
  have me' := me58
  have es := eq_same eof
  have ns := neq_same eof
  have HC : Hid (MrC w eb ep eof) := hC
  have HA : Hid ((MrA w mb ab rb eb ∧ RdAt w rb a zs cap zs.length pr) ∨ MrB w mb ab eb) := hA
  clear hC hA
  go_enter Tryf.func44, Tryf.ntmps44
  go_wp2_with fail
  go_loopg [4, 5, 6, 7] 1 (fun gk s4 s5 s6 s7 wr => MrC wr eb ep eof ∧ Fr (fun k => k = mb ∨ k = ab) w wr ∧ ((1 ≤ gk ∧ MrA wr mb ab rb eb ∧ RdAt wr rb a zs cap zs.length pr) ∨ MrB wr mb ab eb))
  case atStart => exact ⟨HC.out, Fr.refl _ _, HA.out.imp (fun h => ⟨Nat.le_refl _, h⟩) id⟩
  case round =>
    obtain ⟨hC, hF, hAB⟩ := hrel
    have HC' : Hid (MrC wr eb ep eof) := hC
    have HF : Hid (Fr (fun k => k = mb ∨ k = ab) w wr) := hF
    have one := hC.one
    clear hF hC HC HA
    rcases hAB with ⟨hgk, ⟨hm, ha⟩, hrd⟩ | ⟨hm, ha⟩
    · have c0 : wr.cell? ⟨mb, 0, none⟩ = some (.slice (some ⟨ab, 0, none⟩) 2 2) := by rw [cell_of_row wr mb 0 _ 57 (0, 0) hm]; rfl
      have c1 : wr.cell? ⟨ab, 0, none⟩ = some (.iface 33 (.pointer (some ⟨rb, 0, none⟩))) := by rw [cell_of_row wr ab 0 _ 42 (0, 0) ha]; rfl
      have f0 := frozen_of_row wr mb 0 _ 57 hm
      have f1 := frozen_of_row wr ab 0 _ 42 ha
      have HM : Hid _ := hm
      have HAb : Hid _ := ha
      have HR : Hid (RdAt wr rb a zs cap zs.length pr) := hrd
      clear hm ha hrd
      go_wp2_with (first
        | (go_at_call 43
           refine (read_end rb a zs cap pr pv eof _ HR.out one).mono ?_
           rintro e w1 ⟨rfl, n, rfl⟩))
      go_roundg 0
      case rel =>
        have hfr : Fr (fun k => k = mb ∨ k = ab) wr (((wr.drewN n).setCell ⟨ab, 0, none⟩ (.iface 89 (.agg #[]))).setCell ⟨mb, 0, none⟩ (.slice (some ⟨ab, 1, none⟩) 1 1)) :=
          (((Fr.refl _ wr).drewN n).setCell (p := ⟨ab, 0, none⟩) (Or.inr rfl) _).setCell (p := ⟨mb, 0, none⟩) (Or.inl rfl) _
        refine ⟨HC'.out.fr hfr (by omega) (by omega) (by omega) (by omega), HF.out.trans hfr, .inr ⟨?_, ?_⟩⟩
        · exact heap_setCell_same _ mb 0 #[.slice (some ⟨ab, 0, none⟩) 2 2] 57 _ (by rw [Below.heap_setCell _ _ _ _ h5]; exact HM.out)
        · rw [Below.heap_setCell _ _ _ _ (Ne.symm h5)]
          exact heap_setCell_same (wr.drewN n) ab 0 #[.iface 33 (.pointer (some ⟨rb, 0, none⟩)), .iface 58 (.pointer (some ⟨eb, 0, none⟩))] 42 _ HAb.out
      case measure => omega
    · have ta := ta58
      have c0 : wr.cell? ⟨mb, 0, none⟩ = some (.slice (some ⟨ab, 1, none⟩) 1 1) := by rw [cell_of_row wr mb 0 _ 57 (0, 0) hm]; rfl
      have c1 : wr.cell? ⟨ab, 1, none⟩ = some (.iface 58 (.pointer (some ⟨eb, 0, none⟩))) := by rw [cell_of_row wr ab 1 _ 42 (0, 0) ha]; rfl
      have c2 : wr.cell? ⟨eb, 0, none⟩ = some (.iface 67 (.pointer (some ep))) := by rw [cell_of_row wr eb 0 _ 60 (0, 0) HC'.out.err]; rfl
      have eq1 := fun n => (HC'.out.drewN n).ne.eql
      have eq2 := fun n => (HC'.out.drewN n).ne.neq
      clear hm ha
      go_wp2_with (first
        | (go_at_call 45
           refine (errRead_any eb ep pv _ c2).mono ?_
           rintro e w1 ⟨rfl, n, rfl⟩))
      go_ret2
      exact ⟨rfl, HF.out.drewN _⟩
end Go.Proofs.Qxb6609101aFmt
