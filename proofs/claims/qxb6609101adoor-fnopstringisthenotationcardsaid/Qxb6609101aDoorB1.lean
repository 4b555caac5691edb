/- (Op).AppendTo, with the frame to the cell. -/
import Derived.Test.Qxb6609101aDoorA9
namespace Go.Proofs.Qxb6609101aDoor
open Go.RowKit Go.Lib

theorem step_string_kp {ops : Array Oper} {o : Oper} {a : Act} {w : World} {K : Act → World → Prop} {Q : Exit → Act → World → Prop} {E : Prop} (hgd : o.guard = none) (sl x : Operand) (u : TypeId) (hu : Tryd.prog.underlying u = some .string)
    (ho : o.op = .call { callee := .builtin .append, args := #[sl, x], argTypes := #[31, u] })
    (base : Nat) (v : Value) (n : Nat) (xs : List Value) (hs : a.eval sl = v) (hown : w.ownsRow base 5 1 v n xs) (s : ByteArray) (hx : a.eval x = .string s)
    (hbytes : n + s.size ≤ 140737488355328) (hbase : base ≤ w.heap.size)
    (h : ∀ v' w', w'.ownsRow base 5 1 v' (n + s.size) (xs ++ strCells s) → w.grownBy w' v.ownBlock → (∀ k, k < w.heap.size → v.ownBlock ≠ some k → v'.ownBlock ≠ some k) → Kp w w' v n v' → K (a.put o.dst v') w') :
    if Region.wanted o (yielded ops a.tmps) = true then Oper.wp Tryd.prog o a w K Q else E := by
  have hw : Region.wanted o (yielded ops a.tmps) = true := by simp [Region.wanted, hgd]
  rw [if_pos hw]
  obtain ⟨i5, hi5, hz5, hs5, hb5⟩ := info_parts Tryd.info5
  have h63 : n + s.size ≤ maxLen := by unfold maxLen; omega
  obtain ⟨v', w', hr, h2, h3, _⟩ := run_append_own_string (P := Tryd.prog) w base 31 u o.type 5 i5 Tryd.underlying31 hu hi5 hz5 hs5 hb5 v n xs hown s h63 hbytes hbase
  have h5 := blk_string (P := Tryd.prog) w base 31 u o.type 5 i5 Tryd.underlying31 hu hi5 hz5 hs5 hb5 v n xs hown s h63 hbytes v' w' hr
  have h6 := moved_string (P := Tryd.prog) w base 31 u o.type 5 i5 Tryd.underlying31 hu hi5 hz5 hs5 hb5 v n xs hown s h63 hbytes v' w' hr
  unfold Oper.wp execOp
  simp only [ho, resolve, invoke, builtin, Sem.run_bind, Sem.run_pure, Result.andThen_ok, List.map_toArray, List.map_cons, List.map_nil, hs, hx, hr]
  exact h v' w' h2 h3 h5 (.of_ap ⟨h3, h5, h6⟩ hown h2)

theorem step_byte_kp {ops : Array Oper} {o : Oper} {a : Act} {w : World} {K : Act → World → Prop} {Q : Exit → Act → World → Prop} {E : Prop} (hgd : o.guard = none) (sl x : Operand)
    (ho : o.op = .call { callee := .builtin .append, args := #[sl, x], argTypes := #[31, 31] })
    (base : Nat) (v : Value) (n : Nat) (xs : List Value) (hs : a.eval sl = v) (hown : w.ownsRow base 5 1 v n xs) (ad : Addr) (c : Nat) (hx : a.eval x = .slice (some ad) 1 c) (q : Value) (hq : w.cell? ad = some q) (h1 : q.oneCell' = true)
    (hbytes : n + 1 ≤ 140737488355328) (hbase : base ≤ w.heap.size)
    (h : ∀ v' w', w'.ownsRow base 5 1 v' (n + 1) (xs ++ [q]) → w.grownBy w' v.ownBlock → (∀ k, k < w.heap.size → v.ownBlock ≠ some k → v'.ownBlock ≠ some k) → Kp w w' v n v' → K (a.put o.dst v') w') :
    if Region.wanted o (yielded ops a.tmps) = true then Oper.wp Tryd.prog o a w K Q else E := by
  have hw : Region.wanted o (yielded ops a.tmps) = true := by simp [Region.wanted, hgd]
  rw [if_pos hw]
  obtain ⟨i5, hi5, hz5, hs5, hb5⟩ := info_parts Tryd.info5
  have h63 : n + 1 ≤ maxLen := by unfold maxLen; omega
  have hnews : ∀ (j : Nat) (u : Value), [q][j]? = some u → w.cell? (ad.add j) = some u := by
    intro j u hj
    cases j with
    | zero => simp at hj; subst hj; rw [show ad.add 0 = ad by simp [Addr.add]]; exact hq
    | succ j => simp at hj
  have hone : ∀ u ∈ [q], u.oneCell' = true := by intro u hu; simp at hu; subst hu; exact h1
  obtain ⟨v', w', hr, h2, h3, _⟩ := run_append_own (P := Tryd.prog) w base 31 o.type 5 i5 _ 1 1 Tryd.underlying31 hi5 hz5 hs5 hb5 rfl (by omega) v n xs hown ad 1 c [q] (by simp) hnews hone h63 (by omega) hbase
  have hab := own_slice (P := Tryd.prog) w base 31 o.type 5 i5 _ Tryd.underlying31 hi5 hz5 hs5 hb5 v n xs hown ad 1 c [q] rfl (by omega) hnews hone h63 hbytes v' w' hr
  unfold Oper.wp execOp
  simp only [ho, resolve, invoke, builtin, Sem.run_bind, Sem.run_pure, Result.andThen_ok, List.map_toArray, List.map_cons, List.map_nil, hs, hx, hr]
  exact h v' w' h2 h3 hab.1 (.of_ap ⟨h3, hab.1, hab.2⟩ hown h2)

set_option maxHeartbeats 1000000 in
theorem appendTo_kp (B : Nat) (k it : ByteArray) (t l c q : Int) (sv : Value) (n : Nat) (xs : List Value) (w : World) (h0 : -9223372036854775808 ≤ t) (h1 : t ≤ 9223372036854775807)
    (hown : w.ownsRow B 5 1 sv n xs) (hBw : B ≤ w.heap.size) (hn : n ≤ 1000000000) (hk : k.size ≤ 1000000000) (hi : it.size ≤ 1000000000)
    (htab : Lib.TabBelow Tryd.prog B w powName .u64 Lib.pow10Tab) :
    Calls Tryd.prog 13 #[.agg #[.string k, .int .i64 t, .string it, .int .i64 l, .int .i64 c, .int .i64 q], sv] w fun e w' => ∃ v', e = .returned v' ∧ w'.ownsRow B 5 1 v' (n + (opText k t it).length) (xs ++ Lib.byteCells (opText k t it)) ∧ Below B w w' ∧ Kp w w' sv n v' := by
  have b2 : n + k.size ≤ 140737488355328 := by omega
  have HO : Hid (w.ownsRow B 5 1 sv n xs) := hown
  have HT : Hid (Lib.TabBelow Tryd.prog B w powName .u64 Lib.pow10Tab) := htab
  clear hown htab
  go_enter Tryd.func13, Tryd.ntmps13
  go_wp2_with fail
  have HB : Hid ((w.alloc (.cells #[.string k, .int .i64 t, .string it, .int .i64 l, .int .i64 c, .int .i64 q] 27)).heap[w.heap.size]? = some (.cells #[.string k, .int .i64 t, .string it, .int .i64 l, .int .i64 c, .int .i64 q] 27 (0, 0))) := heap_alloc_new w _
  go_region_held3 (fun W => W.cell? ⟨w.heap.size, 0, none⟩ = some (.string k) ∧ W.cell? ⟨w.heap.size, 1, none⟩ = some (.int .i64 t) ∧ W.cell? ⟨w.heap.size, 2, none⟩ = some (.string it)) (go_keep)
    (first
      | (refine step_string_kp rfl (.tmp 5) (.tmp 7) 23 Tryd.underlying23 rfl B sv n xs (by simp [Act.eval]) (HO.out.alloc _) k (by simp [Act.eval]) b2 (by simp; omega) ?_
         intro v1 w1 ho1 hg1 hk1 kp1
         have HB1 : Hid (w1.heap[w.heap.size]? = some (.cells #[.string k, .int .i64 t, .string it, .int .i64 l, .int .i64 c, .int .i64 q] 27 (0, 0))) := box_heap HO.out hg1 HB.out
         have e1a : w1.cell? ⟨w.heap.size, 0, none⟩ = some (.string k) := box_cells HB1.out 0
         have e1b : w1.cell? ⟨w.heap.size, 1, none⟩ = some (.int .i64 t) := box_cells HB1.out 1
         have e1c : w1.cell? ⟨w.heap.size, 2, none⟩ = some (.string it) := box_cells HB1.out 2
         have H1 : Hid (w1.ownsRow B 5 1 v1 (n + k.size) (xs ++ strCells k)) := ho1
         have G1 : Hid (Below B w w1) := below_step HO.out hBw ((Below.refl _ _).alloc hBw _).drew hg1
         have P1 : Hid (Kp w w1 sv n v1) := (Kp.of_below ((Below.refl _ w).alloc (Nat.le_refl _) _).drew (own_lt HO.out)).trans kp1 (own_lt HO.out) (Nat.le_refl _)
         clear ho1 hg1 hk1 kp1)
      | (go_at_call 16
         refine (appendInt_kp B (n + k.size) t h0 h1 v1 (xs ++ strCells k) w1 H1.out (Nat.le_trans hBw G1.out.size) (by omega) (HT.out.on G1.out)).mono ?_
         rintro e w2 ⟨v2, rfl, ho2, hb2, kp2⟩
         have HB2 : Hid (w2.heap[w.heap.size]? = some (.cells #[.string k, .int .i64 t, .string it, .int .i64 l, .int .i64 c, .int .i64 q] 27 (0, 0))) := (kp2.other w.heap.size (Array.getElem?_eq_some_iff.1 HB1.out).1 (own_type H1.out HB1.out)).1.trans HB1.out
         have e2a : w2.cell? ⟨w.heap.size, 0, none⟩ = some (.string k) := box_cells HB2.out 0
         have e2b : w2.cell? ⟨w.heap.size, 1, none⟩ = some (.int .i64 t) := box_cells HB2.out 1
         have e2c : w2.cell? ⟨w.heap.size, 2, none⟩ = some (.string it) := box_cells HB2.out 2
         have H2 : Hid (w2.ownsRow B 5 1 v2 (n + k.size + (Lib.itoa t).length) (xs ++ strCells k ++ Lib.byteCells (Lib.itoa t))) := ho2
         have G2 : Hid (Below B w w2) := G1.out.trans hb2
         have P2 : Hid (Kp w w2 sv n v2) := P1.out.trans kp2 (own_lt HO.out) (by omega)
         clear ho2 hb2 kp2))
  by_cases hp : hasI k = true
  · have Hp : Hid (hasI k = true) := hp
    have ne2 : Hid (v2.ownBlock ≠ some w.heap.size) := own_type H2.out HB2.out
    have hB2 : B ≤ w2.heap.size := Nat.le_trans hBw G2.out.size
    clear hp HB HB1 e1a e1b e1c H1 G1 P1
    go_wp2_with (go_at_call 17; refine (hasItem_any _ _).mono ?_; rintro e wx ⟨rfl, hw⟩; obtain rfl := hw.symm; rw [Hp.out])
    have hL := Lib.itoa_length_le t h0 h1
    have hm : n + k.size + (Lib.itoa t).length + it.size + 2 ≤ 140737488355328 := by omega
    clear hL
    go_region_held3 (fun W => W.cell? ⟨w.heap.size, 2, none⟩ = some (.string it)) (go_keep)
      (first
        | (refine step_byte_kp rfl (.tmp 15) (.tmp 16) rfl B v2 _ _ (by simp [Act.eval]) (by first | with_reducible exact own_drew (H2.out.alloc _) | with_reducible exact own_drew ((H2.out.alloc _).alloc _)) _ _ rfl (.int .u8 40) (lit_cell (by first | with_reducible exact new_drew _ _ | with_reducible exact new_drew1 _ _ _ | with_reducible exact new_drew2 _ _ _)) rfl (by omega) (Nat.le_trans hB2 (by simp <;> omega)) ?_
           intro v3 w3 ho3 hg3 hk3 kp3
           have b3 := pend hg3 hk3 ne2.out (by first | with_reducible exact heap_drew (old_alloc HB2.out) | with_reducible exact heap_drew (old_alloc (old_alloc HB2.out)))
           have e3 : w3.cell? ⟨w.heap.size, 2, none⟩ = some (.string it) := box_cells b3.1 2
           have B3 : Hid _ := b3
           have l3 := fun (b : Nat) (o : Obj) (hb : w2.heap.size ≤ b) hW => pend (b := b) (o := o) hg3 hk3 (own_ne H2.out hb) hW
           have L3 : Hid _ := l3
           have G3 : Hid (Below B w w3) := below_own (by first | with_reducible exact own_drew (H2.out.alloc _) | with_reducible exact own_drew ((H2.out.alloc _).alloc _)) hBw hg3 (by first | with_reducible exact (G2.out.alloc hB2 _).drew | with_reducible exact ((G2.out.alloc hB2 _).alloc (Nat.le_trans hB2 (by simp)) _).drew)
           have hB3 : B ≤ w3.heap.size := Nat.le_trans hBw G3.out.size
           have P3 : Hid (Kp w2 w3 v2 (n + k.size + (Lib.itoa t).length) v3) := by
             show Kp w2 w3 v2 (n + k.size + (Lib.itoa t).length) v3
             first
               | (with_reducible exact (Kp.of_below ((Below.refl _ w2).alloc (Nat.le_refl _) _).drew (own_lt H2.out)).trans kp3 (own_lt H2.out) (Nat.le_refl _))
               | (with_reducible exact (Kp.of_below (((Below.refl _ w2).alloc (Nat.le_refl _) _).alloc (by simp) _).drew (own_lt H2.out)).trans kp3 (own_lt H2.out) (Nat.le_refl _))
           have H3 : Hid (w3.ownsRow B 5 1 v3 (n + k.size + (Lib.itoa t).length + 1) (xs ++ strCells k ++ Lib.byteCells (Lib.itoa t) ++ [.int .u8 40])) := ho3
           clear b3 l3 hg3 hk3 ho3 kp3)
        | (refine step_string_kp rfl (.tmp 17) (.tmp 19) 9 Tryd.underlying9 rfl B v3 _ _ (by simp [Act.eval]) (by first | with_reducible exact H3.out | with_reducible exact H3.out.alloc _) it (by simp [Act.eval]) (by omega) (Nat.le_trans hB3 (by simp)) ?_
           intro v4 w4 ho4 hg4 hk4 kp4
           have b4 := pend hg4 hk4 B3.out.2 (by first | with_reducible exact B3.out.1 | with_reducible exact old_alloc B3.out.1)
           have e4 : w4.cell? ⟨w.heap.size, 2, none⟩ = some (.string it) := box_cells b4.1 2
           have B4 : Hid _ := b4
           have l4 := fun (b : Nat) (o : Obj) (hb : v3.ownBlock ≠ some b) hW => pend (b := b) (o := o) hg4 hk4 hb hW
           have L4 : Hid _ := l4
           have G4 : Hid (Below B w w4) := below_own (by first | with_reducible exact H3.out | with_reducible exact H3.out.alloc _) hBw hg4 (by first | with_reducible exact G3.out | with_reducible exact G3.out.alloc hB3 _)
           have hB4 : B ≤ w4.heap.size := Nat.le_trans hBw G4.out.size
           have P4 : Hid (Kp w3 w4 v3 (n + k.size + (Lib.itoa t).length + 1) v4) := by
             show Kp w3 w4 v3 (n + k.size + (Lib.itoa t).length + 1) v4
             first
               | (with_reducible exact kp4)
               | (with_reducible exact (Kp.of_below ((Below.refl _ w3).alloc (Nat.le_refl _) _) (own_lt H3.out)).trans kp4 (own_lt H3.out) (Nat.le_refl _))
           have H4 : Hid (w4.ownsRow B 5 1 v4 (n + k.size + (Lib.itoa t).length + 1 + it.size) (xs ++ strCells k ++ Lib.byteCells (Lib.itoa t) ++ [.int .u8 40] ++ strCells it)) := ho4
           clear b4 l4 hg4 hk4 ho4 kp4)
        | (refine step_byte_kp rfl (.tmp 20) (.tmp 21) rfl B v4 _ _ (by simp [Act.eval]) (by first | with_reducible exact H4.out | with_reducible exact H4.out.alloc _) _ _ rfl (.int .u8 41)
             (lit_cell (by first
               | with_reducible exact heap_alloc_new _ _
               | with_reducible exact (L4.out _ _ (own_ne H3.out (Nat.le_refl _)) (heap_alloc_new _ _)).1
               | (have x := L3.out _ _ (Nat.le_refl _) (new_drew1 _ _ _); with_reducible exact (L4.out _ _ x.2 x.1).1)
               | (have x := L3.out _ _ (Nat.le_succ _) (new_drew2 _ _ _); with_reducible exact (L4.out _ _ x.2 x.1).1))) rfl (by omega) (Nat.le_trans hB4 (by simp)) ?_
           intro v5 w5 ho5 hg5 hk5 kp5
           have e5 : w5.cell? ⟨w.heap.size, 2, none⟩ = some (.string it) := box_cells (pend hg5 hk5 B4.out.2 (by first | with_reducible exact B4.out.1 | with_reducible exact old_alloc B4.out.1)).1 2
           have G5 : Hid (Below B w w5) := below_own (by first | with_reducible exact H4.out | with_reducible exact H4.out.alloc _) hBw hg5 (by first | with_reducible exact G4.out | with_reducible exact G4.out.alloc hB4 _)
           have P5 : Hid (Kp w4 w5 v4 (n + k.size + (Lib.itoa t).length + 1 + it.size) v5) := by
             show Kp w4 w5 v4 (n + k.size + (Lib.itoa t).length + 1 + it.size) v5
             first
               | (with_reducible exact kp5)
               | (with_reducible exact (Kp.of_below ((Below.refl _ w4).alloc (Nat.le_refl _) _) (own_lt H4.out)).trans kp5 (own_lt H4.out) (Nat.le_refl _))
           have H5 : Hid (w5.ownsRow B 5 1 v5 (n + k.size + (Lib.itoa t).length + 1 + it.size + 1) (xs ++ strCells k ++ Lib.byteCells (Lib.itoa t) ++ [.int .u8 40] ++ strCells it ++ [.int .u8 41])) := ho5
           have PP : Hid (Kp w w5 sv n v5) := ((P2.out.trans P3.out (own_lt HO.out) (by omega)).trans P4.out (own_lt HO.out) (by omega)).trans P5.out (own_lt HO.out) (by omega)
           clear hg5 hk5 ho5 kp5))
    all_goals
      clear L3 L4 H3 H4 P3 P4 P5
      go_wp2
      go_ret
      exact ⟨v5, rfl, own_text H5.out k it t (text_item Hp.out t it xs) (by rw [len_item Hp.out]; omega), G5.out, PP.out⟩
  · have hp' : hasI k = false := by simpa using hp
    have Hp : Hid (hasI k = false) := hp'
    clear hp hp' HB HB1 e1a e1b e1c H1 G1 P1 HO
    go_wp2_with (go_at_call 17; refine (hasItem_any _ _).mono ?_; rintro e wx ⟨rfl, hw⟩; obtain rfl := hw.symm; rw [Hp.out])
    go_ret
    exact ⟨v2, rfl, own_text H2.out k it t (text_bare Hp.out t it xs) (by rw [len_bare Hp.out]; omega), G2.out, P2.out⟩
end Go.Proofs.Qxb6609101aDoor
