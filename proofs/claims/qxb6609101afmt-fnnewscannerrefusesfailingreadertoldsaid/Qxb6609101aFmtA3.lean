import Derived.Test.Qxb6609101aFmtA2
namespace Go.Proofs.Qxb6609101aFmt
open Go.RowKit

theorem newReader_any (v : Value) (a : Option Addr) (n c : Nat) (hv : v = .slice a n c) (w : World) :
    Calls Tryf.prog 13 #[v] w fun e w' => e = .returned (.pointer (some ⟨w.heap.size, 0, none⟩)) ∧ w' = w.alloc (.cells #[v, .int .i64 0, .int .i64 (-1)] 53) := by
  subst hv
  go_enter Tryf.func13, Tryf.ntmps13
  go_wp2
  go_ret
  exact ⟨rfl, rfl⟩

/-- The reader at block rb stands at place 'pos' of the bytes 'zs'. -/
structure RdAt (w : World) (rb : Nat) (a : Option Addr) (zs : List Int) (cap pos : Nat) (pr : Int) : Prop where
  cell : w.heap[rb]? = some (.cells #[.slice a zs.length cap, .int .i64 pos, .int .i64 pr] 53 (0, 0))
  bytes : BytesAt w a zs
  other : ∀ x, a = some x → x.block ≠ rb
  pos : pos ≤ zs.length
  len : zs.length ≤ 10000000
  cap : zs.length ≤ cap

set_option maxHeartbeats 400000 in
theorem read_end (rb : Nat) (a : Option Addr) (zs : List Int) (cap : Nat) (pr : Int) (pv : Value) (eof : Addr) (w : World) (h : RdAt w rb a zs cap zs.length pr) (he : w.cell? ⟨1, 0, none⟩ = some (.iface 67 (.pointer (some eof)))) :
    Calls Tryf.prog 43 #[.pointer (some ⟨rb, 0, none⟩), pv] w fun e w' => e = .returned (.tuple #[.int .i64 0, .iface 67 (.pointer (some eof))]) ∧ ∃ n, w' = w.drewN n := by
  have c0 := cell_of_row w rb 0 _ 53 (0, 0) h.cell
  have c1 := cell_of_row w rb 1 _ 53 (0, 0) h.cell
  have hl := h.len
  simp at c0 c1
  clear h
  go_enter Tryf.func43, Tryf.ntmps43
  go_wp2
  go_quiet (fail)
  go_wp2
  go_quiet (fail)
  go_wp2
  go_ret2
  exact ⟨rfl, _, World.drewN_drewN _ _ _⟩

/-- 'copy' as a step of a region that draws: the world behind it, outright. -/
theorem step_copy_row {P : Program} {ops : Array Oper} {o : Oper} {a : Act} {w : World} {K : Act → World → Prop} {Q : Exit → Act → World → Prop} {E : Prop} (hgd : o.guard = none) (d s : Operand) (dT sT : TypeId)
    (ho : o.op = .call { callee := .builtin .copy, args := #[d, s], argTypes := #[dT, sT] }) (elem : TypeId) (hu : P.underlying dT = some (.slice elem)) (hsz : (P.info? elem).map (·.size) = some 1)
    (g off : Nat) (ad : Addr) (dLen dCap sLen sCap : Nat) (hd : a.eval d = .slice (some ⟨g, off, none⟩) dLen dCap) (hs : a.eval s = .slice (some ad) sLen sCap)
    (cur : List Value) (t : TypeId) (hg : w.heap[g]? = some (.cells cur.toArray t (0, 0))) (cs : List Value) (n : Nat) (hcl : cs.length = n) (hn : n = Nat.min sLen dLen)
    (hsrc : ∀ j v, cs[j]? = some v → w.cell? (ad.add j) = some v) (hfit : off + n ≤ cur.length) (h1 : ∀ v ∈ cs, v.oneCell' = true)
    (h : K (a.put o.dst (.int .i64 n)) (w.setRow g (Go.splice cur off cs).toArray)) :
    if Region.wanted o (yielded ops a.tmps) = true then Oper.wp P o a w K Q else E := by
  subst hcl
  have hw : Region.wanted o (yielded ops a.tmps) = true := by simp [Region.wanted, hgd]
  rw [if_pos hw]
  have hrun := run_copy_row (P := P) w dT sT o.type elem g off dLen dCap ad sLen sCap cur.toArray t cs hu hsz hg hn hsrc (by simpa using hfit) h1
  unfold Oper.wp
  simp [execOp, ho, resolve, invoke, builtin, hd, hs, hrun, Result.andThen]
  exact (show K (a.put o.dst (.int .i64 cs.length)) (w.setRow g (List.take off cur ++ (cs ++ List.drop (off + cs.length) cur)).toArray) from h)

theorem Tryf.size5 : (Tryf.prog.info? 5).map (·.size) = some 1 := by kernel_rfl

theorem BytesAt.vals {w : World} {b off : Nat} {zs : List Int} (h : BytesAt w (some ⟨b, off, none⟩) zs) : ∀ (j : Nat) (v : Value), (vals zs)[j]? = some v → w.cell? ((⟨b, off, none⟩ : Addr).add j) = some v := by
  intro j v hv
  have had : (⟨b, off, none⟩ : Addr).add j = ⟨b, off + j, none⟩ := by unfold Addr.add; split <;> simp_all
  simp only [Qxb6609101aFmt.vals, List.getElem?_map, Option.map_eq_some_iff] at hv
  obtain ⟨z, hz, rfl⟩ := hv
  obtain ⟨hj, rfl⟩ := List.getElem?_eq_some_iff.1 hz
  rw [had]
  rcases h with rfl | ⟨b', off', hab, _, h⟩
  · simp at hj
  · simp only [Option.some.injEq, Addr.mk.injEq, and_true] at hab
    obtain ⟨rfl, rfl⟩ := hab
    exact h j hj

set_option maxHeartbeats 400000 in
theorem read_some (rb : Nat) (a : Option Addr) (zs : List Int) (cap pos : Nat) (pr : Int) (g o m c : Nat) (cur : List Value) (w : World) (h : RdAt w rb a zs cap pos pr) (hp : pos < zs.length)
    (hg : w.heap[g]? = some (.cells cur.toArray 5 (0, 0))) (hne : g ≠ rb) (hm : o + m ≤ cur.length) (hm0 : 0 < m) (hag : ∀ x, a = some x → x.block ≠ g) :
    Calls Tryf.prog 43 #[.pointer (some ⟨rb, 0, none⟩), .slice (some ⟨g, o, none⟩) m c] w fun e w' => e = .returned (.tuple #[.int .i64 (min m (zs.length - pos) : Nat), .nilIface]) ∧
      RdAt w' rb a zs cap (pos + min m (zs.length - pos)) (-1) ∧ w'.heap[g]? = some (.cells (Go.splice cur o (vals ((zs.drop pos).take m))).toArray 5 (0, 0)) ∧ Fr (fun k => k = rb ∨ k = g) w w' := by
  have c0 := cell_of_row w rb 0 _ 53 (0, 0) h.cell
  have c1 := cell_of_row w rb 1 _ 53 (0, 0) h.cell
  have c2 := cell_of_row w rb 2 _ 53 (0, 0) h.cell
  have f2 := frozen_of_row w rb 2 _ 53 h.cell
  have f1 := frozen_of_row w rb 1 _ 53 h.cell
  have hl := h.len
  have hcap := h.cap
  simp at c0 c1 c2
  rcases h.bytes with hn | ⟨b, off, rfl, hb, hcs⟩
  · subst hn; simp at hp
  have hbr : b ≠ rb := h.other _ rfl
  have hbg : b ≠ g := hag _ rfl
  clear hag
  have HS : Hid (BytesAt w (some ⟨b, off + pos, none⟩) ((zs.drop pos).take m)) := (h.bytes.drop pos).take m
  have H : Hid (RdAt w rb (some ⟨b, off, none⟩) zs cap pos pr) := h
  have HG : Hid (w.heap[g]? = some (.cells cur.toArray 5 (0, 0))) := hg
  obtain ⟨n, hn⟩ : ∃ n, n = min m (zs.length - pos) := ⟨_, rfl⟩
  rw [← hn]
  have hnm : n ≤ m := by omega
  have hnz : n ≤ zs.length - pos := by omega
  have hn0 : 0 < n := by omega
  have hpl : pos ≤ zs.length := by omega
  have hcp : ¬ cap = pos := by omega
  have HN : Hid (n = min m (zs.length - pos)) := hn
  clear h hg hcs hn
  go_enter Tryf.func43, Tryf.ntmps43
  go_wp2
  go_quiet (fail)
  go_wp2
  have hF : Fr (fun k => k = rb) w ((w.drewN nq).setCell ⟨rb, 2, none⟩ (.int .i64 (-1))).drew := (((Fr.refl (fun k => k = rb) w).drewN nq).setCell (p := ⟨rb, 2, none⟩) rfl _).drew
  have s1 : Hid (((w.drewN nq).setCell ⟨rb, 2, none⟩ (.int .i64 (-1))).drew.heap[g]? = some (.cells cur.toArray 5 (0, 0))) := by
    unfold Hid
    rw [hF.block g (Array.getElem?_eq_some_iff.1 HG.out).1 hne]
    exact HG.out
  have s2 : Hid (BytesAt ((w.drewN nq).setCell ⟨rb, 2, none⟩ (.int .i64 (-1))).drew (some ⟨b, off + pos, none⟩) ((zs.drop pos).take m)) := HS.out.fr hF (fun x hx => by simp at hx; subst hx; exact hbr)
  have s3 : Hid ((vals ((zs.drop pos).take m)).length = n) := by unfold Hid; rw [vals_length, HN.out]; simp
  have s4 : Hid (n = Nat.min (zs.length - pos) m) := by unfold Hid; rw [HN.out]; exact Nat.min_comm _ _
  obtain ⟨cs, hcs⟩ : ∃ cs, cs = vals ((zs.drop pos).take m) := ⟨_, rfl⟩
  have hv1 := BytesAt.vals s2.out
  have hv2 := vals_one ((zs.drop pos).take m)
  rw [← hcs] at hv1 hv2 s3
  have s5 : Hid (∀ (j : Nat) (v : Value), cs[j]? = some v → ((w.drewN nq).setCell ⟨rb, 2, none⟩ (.int .i64 (-1))).drew.cell? ((⟨b, off + pos, none⟩ : Addr).add j) = some v) := hv1
  have s6 : Hid (∀ v ∈ cs, v.oneCell' = true) := hv2
  have s7 : Hid (cs = vals ((zs.drop pos).take m)) := hcs
  have r1 : ((w.drewN nq).setCell ⟨rb, 2, none⟩ (.int .i64 (-1))).drew.heap[rb]? = some (.cells #[.slice (some ⟨b, off, none⟩) zs.length cap, .int .i64 pos, .int .i64 (-1)] 53 (0, 0)) :=
    heap_setCell_same (w.drewN nq) rb 2 _ 53 (.int .i64 (-1)) H.out.cell
  have HF : Hid (Fr (fun k => k = rb ∨ k = g) w (((w.drewN nq).setCell ⟨rb, 2, none⟩ (.int .i64 (-1))).drew.setRow g (Go.splice cur o cs).toArray)) := Fr.setRow (S := fun k => k = rb ∨ k = g) (hF.mono (fun k _ h => Or.inl h)) (Or.inr rfl) _
  have r2 : (((w.drewN nq).setCell ⟨rb, 2, none⟩ (.int .i64 (-1))).drew.setRow g (Go.splice cur o cs).toArray).heap[rb]? = some (.cells #[.slice (some ⟨b, off, none⟩) zs.length cap, .int .i64 pos, .int .i64 (-1)] 53 (0, 0)) := by
    rw [setRow_other _ _ _ _ (Ne.symm hne)]; exact r1
  have r3 : Hid ((((w.drewN nq).setCell ⟨rb, 2, none⟩ (.int .i64 (-1))).drew.setRow g (Go.splice cur o cs).toArray).heap[g]? = some (.cells (Go.splice cur o cs).toArray 5 (0, 0))) := setRow_heap _ g _ _ 5 _ s1.out
  have R2 : Hid _ := r2
  clear hv1 hv2 hF hcs r1 r2
  go_region_law (refine step_copy_row rfl (.tmp 20) (.tmp 29) 22 22 rfl 5 Tryf.underlying22 Tryf.size5 g o ⟨b, off + pos, none⟩ m c (zs.length - pos) (cap - pos) (by simp [Act.eval, Act.put]) (by simp [Act.eval, Act.put]) cur 5 s1.out cs n s3.out s4.out s5.out (by omega) s6.out ?_)
  all_goals
    generalize ((w.drewN nq).setCell ⟨rb, 2, none⟩ (.int .i64 (-1))).drew.setRow g (Go.splice cur o cs).toArray = W2 at *
    have e1 := cell_of_row W2 rb 1 _ 53 (0, 0) R2.out
    have e2 := frozen_of_row W2 rb 1 _ 53 R2.out
    simp at e1
    clear s1 s2 s3 s4 s5 s6 c0 c1 c2 f1 f2
    go_wp2
    go_ret2
    refine ⟨rfl, ?_, ?_, HF.out.setCell (p := ⟨rb, 1, none⟩) (Or.inl rfl) _⟩
    · refine ⟨?_, H.out.bytes.fr (HF.out.setCell (p := ⟨rb, 1, none⟩) (Or.inl rfl) _) ?_, H.out.other, by omega, hl, hcap⟩
      · have e3 := heap_setCell_same W2 rb 1 _ 53 (.int .i64 ((pos : Int) + (n : Int))) R2.out
        rw [show (((pos + n : Nat) : Int)) = (pos : Int) + (n : Int) by omega]
        exact e3
      · intro x hx
        simp only [Option.some.injEq] at hx
        subst hx
        exact fun h => h.elim hbr hbg
    · rw [Below.heap_setCell _ _ _ _ hne, ← s7.out]
      exact r3.out
end Go.Proofs.Qxb6609101aFmt
