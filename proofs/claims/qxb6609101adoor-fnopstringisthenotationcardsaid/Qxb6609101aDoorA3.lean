/- (Op).AppendTo. -/
import Derived.Test.Qxb6609101aDoorA2
import Derived.Lib.ItoaLen
namespace Go.Proofs.Qxb6609101aDoor
open Go.RowKit Go.Lib

theorem Tryd.info5 : (Tryd.prog.info? 5).map (fun i => (i.zero, i.size, i.bytes)) = some (some (.int .u8 0), 1, 1) := by kernel_rfl

/-- An operation's text. -/
def opText (k : ByteArray) (t : Int) (it : ByteArray) : List UInt8 := k.data.toList ++ Lib.itoa t ++ (if hasI k then [40] ++ it.data.toList ++ [41] else [])

theorem box_heap {w W w1 : World} {sv : Value} {B n : Nat} {xs : List Value} {o : Obj} (ho : w.ownsRow B 5 1 sv n xs) (hg : W.grownBy w1 sv.ownBlock) (hW : W.heap[w.heap.size]? = some o) : w1.heap[w.heap.size]? = some o := by
  rw [hg.block w.heap.size (Array.getElem?_eq_some_iff.1 hW).1 (fun h => by have := (ho.lt _ h.symm).2; omega)]
  exact hW

theorem box_cells {W : World} {b : Nat} {cs : Array Value} (hb : W.heap[b]? = some (.cells cs 27 (0, 0))) (j : Nat) : W.cell? ⟨b, j, none⟩ = cs[j]? := by
  simp [World.cell?, hb]

theorem below_step {w W w1 : World} {sv : Value} {B n : Nat} {xs : List Value} (ho : w.ownsRow B 5 1 sv n xs) (hB : B ≤ w.heap.size) (hW : Below B w W) (hg : W.grownBy w1 sv.ownBlock) : Below B w w1 :=
  hW.grown hg (Nat.le_trans hB hW.size) (fun _ hg => (ho.lt _ hg).1)

theorem lit_cell {W : World} {b : Nat} {q : Value} (h : W.heap[b]? = some (.cells #[q] 5 (0, 0))) : W.cell? ⟨b, 0, none⟩ = some q := by
  simp [World.cell?, h]

/-- What an append leaves of a block that is not the row's own. -/
theorem pend {W w3 : World} {v v3 : Value} {b : Nat} {o : Obj} (hg : W.grownBy w3 v.ownBlock) (hk : ∀ k, k < W.heap.size → v.ownBlock ≠ some k → v3.ownBlock ≠ some k) (hb : v.ownBlock ≠ some b) (hW : W.heap[b]? = some o) :
    w3.heap[b]? = some o ∧ v3.ownBlock ≠ some b := by
  have hlt := (Array.getElem?_eq_some_iff.1 hW).1
  exact ⟨(hg.block b hlt (fun h => hb h.symm)).trans hW, hk b hlt hb⟩

theorem own_ne {w : World} {B n b : Nat} {v : Value} {xs : List Value} (h : w.ownsRow B 5 1 v n xs) (hb : w.heap.size ≤ b) : v.ownBlock ≠ some b := fun e => by
  have := (h.lt _ e).2
  omega

theorem own_type {w : World} {B n b : Nat} {v : Value} {xs : List Value} {cs : Array Value} (h : w.ownsRow B 5 1 v n xs) (hb : w.heap[b]? = some (.cells cs 27 (0, 0))) : v.ownBlock ≠ some b := by
  intro e
  rcases h.2 with ⟨rfl, _⟩ | ⟨g, cap, cur, rfl, _, hg, _⟩
  · simp [Value.ownBlock] at e
  · simp [Value.ownBlock] at e
    subst e
    rw [hb] at hg
    simp at hg

theorem old_alloc {w : World} {b : Nat} {o x : Obj} (h : w.heap[b]? = some x) : (w.alloc o).heap[b]? = some x := by
  rw [Below.heap_alloc w o b (Array.getElem?_eq_some_iff.1 h).1]
  exact h

theorem new_alloc2 (w : World) (o o' : Obj) : ((w.alloc o').alloc o).heap[w.heap.size + 1]? = some o := by
  have h := heap_alloc_new (w.alloc o') o
  have e : (w.alloc o').heap.size = w.heap.size + 1 := by simp
  rw [e] at h
  exact h

theorem new_drew (w : World) (o : Obj) : (w.alloc o).drew.heap[w.heap.size]? = some o := heap_alloc_new w o
theorem new_drew1 (w : World) (o o' : Obj) : ((w.alloc o).alloc o').drew.heap[w.heap.size]? = some o := old_alloc (heap_alloc_new w o)
theorem new_drew2 (w : World) (o o' : Obj) : ((w.alloc o').alloc o).drew.heap[w.heap.size + 1]? = some o := new_alloc2 w o o'
theorem own_drew {w : World} {B n : Nat} {v : Value} {xs : List Value} (h : w.ownsRow B 5 1 v n xs) : w.drew.ownsRow B 5 1 v n xs := h
theorem heap_drew {w : World} {b : Nat} {x : Obj} (h : w.heap[b]? = some x) : w.drew.heap[b]? = some x := h

theorem text_item {k : ByteArray} (hp : hasI k = true) (t : Int) (it : ByteArray) (xs : List Value) : xs ++ strCells k ++ Lib.byteCells (Lib.itoa t) ++ [Value.int .u8 40] ++ strCells it ++ [Value.int .u8 41] = xs ++ Lib.byteCells (opText k t it) := by
  unfold opText
  rw [if_pos hp]
  simp only [Lib.byteCells, strCells, List.map_append, List.map_cons, List.map_nil, List.append_assoc]
  rfl

theorem text_bare {k : ByteArray} (hp : hasI k = false) (t : Int) (it : ByteArray) (xs : List Value) : xs ++ strCells k ++ Lib.byteCells (Lib.itoa t) = xs ++ Lib.byteCells (opText k t it) := by
  unfold opText
  rw [if_neg (by simp [hp])]
  simp only [Lib.byteCells, strCells, List.map_append, List.append_assoc, List.append_nil]

theorem size_list (k : ByteArray) : k.data.toList.length = k.size := by rw [Array.length_toList]; rfl

theorem len_item {k : ByteArray} (hp : hasI k = true) (t : Int) (it : ByteArray) : (opText k t it).length = k.size + (Lib.itoa t).length + it.size + 2 := by
  unfold opText
  rw [if_pos hp]
  simp only [List.length_append, List.length_cons, List.length_nil, size_list]
  omega

theorem len_bare {k : ByteArray} (hp : hasI k = false) (t : Int) (it : ByteArray) : (opText k t it).length = k.size + (Lib.itoa t).length := by
  unfold opText
  rw [if_neg (by simp [hp])]
  simp only [List.length_append, List.length_nil, size_list]
  omega

theorem below_own {w W w1 : World} {sv : Value} {B n : Nat} {xs : List Value} (ho : W.ownsRow B 5 1 sv n xs) (hB : B ≤ w.heap.size) (hg : W.grownBy w1 sv.ownBlock) (hW : Below B w W) : Below B w w1 :=
  hW.grown hg (Nat.le_trans hB hW.size) (fun _ hg => (ho.lt _ hg).1)

theorem own_text {w : World} {B n n' : Nat} {v : Value} {xs ys : List Value} (h : w.ownsRow B 5 1 v n' ys) (k it : ByteArray) (t : Int) (hy : ys = xs ++ Lib.byteCells (opText k t it)) (hn : n' = n + (opText k t it).length) :
    w.ownsRow B 5 1 v (n + (opText k t it).length) (xs ++ Lib.byteCells (opText k t it)) := by
  subst hy hn
  exact h

theorem cell_others {W w1 : World} {b : Nat} {cs : Array Value} (hb : W.heap[b]? = some (.cells cs 27 (0, 0))) (h : Lib.OthersKept 5 none W w1) : w1.heap[b]? = some (.cells cs 27 (0, 0)) :=
  h b _ hb (by simp) (by intro c fz h; cases h)

set_option maxHeartbeats 1000000 in
theorem appendTo_any (B : Nat) (k it : ByteArray) (t l c q : Int) (sv : Value) (n : Nat) (xs : List Value) (w : World) (h0 : -9223372036854775808 ≤ t) (h1 : t ≤ 9223372036854775807)
    (hown : w.ownsRow B 5 1 sv n xs) (hBw : B ≤ w.heap.size) (hn : n ≤ 1000000000) (hk : k.size ≤ 1000000000) (hi : it.size ≤ 1000000000)
    (htab : Lib.TabBelow Tryd.prog B w powName .u64 Lib.pow10Tab) :
    Calls Tryd.prog 13 #[.agg #[.string k, .int .i64 t, .string it, .int .i64 l, .int .i64 c, .int .i64 q], sv] w fun e w' => ∃ v', e = .returned v' ∧ w'.ownsRow B 5 1 v' (n + (opText k t it).length) (xs ++ Lib.byteCells (opText k t it)) ∧ Below B w w' := by
  obtain ⟨i5, hi5, hz5, hs5, hb5⟩ := info_parts Tryd.info5
  have b1 : n + k.size ≤ maxLen := by simp only [maxLen]; omega
  have b2 : n + k.size ≤ 140737488355328 := by omega
  have HO : Hid (w.ownsRow B 5 1 sv n xs) := hown
  have HT : Hid (Lib.TabBelow Tryd.prog B w powName .u64 Lib.pow10Tab) := htab
  clear hown htab
  go_enter Tryd.func13, Tryd.ntmps13
  go_wp2_with fail
  have HB : Hid ((w.alloc (.cells #[.string k, .int .i64 t, .string it, .int .i64 l, .int .i64 c, .int .i64 q] 27)).heap[w.heap.size]? = some (.cells #[.string k, .int .i64 t, .string it, .int .i64 l, .int .i64 c, .int .i64 q] 27 (0, 0))) := heap_alloc_new w _
  go_region_held3 (fun W => W.cell? ⟨w.heap.size, 0, none⟩ = some (.string k) ∧ W.cell? ⟨w.heap.size, 1, none⟩ = some (.int .i64 t) ∧ W.cell? ⟨w.heap.size, 2, none⟩ = some (.string it)) (go_keep)
    (first
      | (refine step_append_string rfl (.tmp 5) (.tmp 7) 31 23 rfl B 5 i5 Tryd.underlying31 Tryd.underlying23 hi5 hz5 hs5 hb5 sv n xs (by simp [Act.eval]) (HO.out.alloc _) k (by simp [Act.eval]) b1 b2 (by simp; omega) ?_
         intro v1 w1 ho1 hg1 hk1
         have HB1 : Hid (w1.heap[w.heap.size]? = some (.cells #[.string k, .int .i64 t, .string it, .int .i64 l, .int .i64 c, .int .i64 q] 27 (0, 0))) := box_heap HO.out hg1 HB.out
         have e1a : w1.cell? ⟨w.heap.size, 0, none⟩ = some (.string k) := box_cells HB1.out 0
         have e1b : w1.cell? ⟨w.heap.size, 1, none⟩ = some (.int .i64 t) := box_cells HB1.out 1
         have e1c : w1.cell? ⟨w.heap.size, 2, none⟩ = some (.string it) := box_cells HB1.out 2
         have H1 : Hid (w1.ownsRow B 5 1 v1 (n + k.size) (xs ++ strCells k)) := ho1
         have G1 : Hid (Below B w w1) := below_step HO.out hBw ((Below.refl _ _).alloc hBw _).drew hg1
         clear ho1 hg1 hk1)
      | (go_at_call 16
         refine (appendInt_any B (n + k.size) t h0 h1 v1 (xs ++ strCells k) w1 H1.out (Nat.le_trans hBw G1.out.size) (by omega) (HT.out.on G1.out)).mono ?_
         rintro e w2 ⟨v2, rfl, ho2, hb2, hk2⟩
         have HB2 : Hid (w2.heap[w.heap.size]? = some (.cells #[.string k, .int .i64 t, .string it, .int .i64 l, .int .i64 c, .int .i64 q] 27 (0, 0))) := cell_others HB1.out hk2
         have e2a : w2.cell? ⟨w.heap.size, 0, none⟩ = some (.string k) := box_cells HB2.out 0
         have e2b : w2.cell? ⟨w.heap.size, 1, none⟩ = some (.int .i64 t) := box_cells HB2.out 1
         have e2c : w2.cell? ⟨w.heap.size, 2, none⟩ = some (.string it) := box_cells HB2.out 2
         have H2 : Hid (w2.ownsRow B 5 1 v2 (n + k.size + (Lib.itoa t).length) (xs ++ strCells k ++ Lib.byteCells (Lib.itoa t))) := ho2
         have G2 : Hid (Below B w w2) := G1.out.trans hb2
         clear ho2 hb2 hk2))
  by_cases hp : hasI k = true
  · have Hp : Hid (hasI k = true) := hp
    have ne2 : Hid (v2.ownBlock ≠ some w.heap.size) := own_type H2.out HB2.out
    have hB2 : B ≤ w2.heap.size := Nat.le_trans hBw G2.out.size
    clear hp HB HB1 e1a e1b e1c H1 G1 HO
    go_wp2_with (go_at_call 17; refine (hasItem_any _ _).mono ?_; rintro e wx ⟨rfl, hw⟩; obtain rfl := hw.symm; rw [Hp.out])
    have hL := Lib.itoa_length_le t h0 h1
    have hm : n + k.size + (Lib.itoa t).length + it.size + 2 ≤ 140737488355328 := by omega
    have hm' : n + k.size + (Lib.itoa t).length + it.size + 2 ≤ maxLen := by simp only [maxLen]; omega
    clear hL
    go_region_held3 (fun W => W.cell? ⟨w.heap.size, 2, none⟩ = some (.string it)) (go_keep)
      (first
        | (refine step_append_byte rfl (.tmp 15) (.tmp 16) 31 rfl B 5 i5 (.int .u8 0) Tryd.underlying31 hi5 hz5 rfl hs5 hb5 v2 _ _ (by simp [Act.eval]) (by first | with_reducible exact own_drew (H2.out.alloc _) | with_reducible exact own_drew ((H2.out.alloc _).alloc _)) _ _ rfl (.int .u8 40) (lit_cell (by first | with_reducible exact new_drew _ _ | with_reducible exact new_drew1 _ _ _ | with_reducible exact new_drew2 _ _ _)) rfl (by omega) (by omega) (Nat.le_trans hB2 (by simp <;> omega)) ?_
           intro v3 w3 ho3 hg3 hk3
           have b3 := pend hg3 hk3 ne2.out (by first | with_reducible exact heap_drew (old_alloc HB2.out) | with_reducible exact heap_drew (old_alloc (old_alloc HB2.out)))
           have e3 : w3.cell? ⟨w.heap.size, 2, none⟩ = some (.string it) := box_cells b3.1 2
           have B3 : Hid _ := b3
           have l3 := fun (b : Nat) (o : Obj) (hb : w2.heap.size ≤ b) hW => pend (b := b) (o := o) hg3 hk3 (own_ne H2.out hb) hW
           have L3 : Hid _ := l3
           have G3 : Hid (Below B w w3) := below_own (by first | with_reducible exact own_drew (H2.out.alloc _) | with_reducible exact own_drew ((H2.out.alloc _).alloc _)) hBw hg3 (by first | with_reducible exact (G2.out.alloc hB2 _).drew | with_reducible exact ((G2.out.alloc hB2 _).alloc (Nat.le_trans hB2 (by simp)) _).drew)
           have hB3 : B ≤ w3.heap.size := Nat.le_trans hBw G3.out.size
           have H3 : Hid (w3.ownsRow B 5 1 v3 (n + k.size + (Lib.itoa t).length + 1) (xs ++ strCells k ++ Lib.byteCells (Lib.itoa t) ++ [.int .u8 40])) := ho3
           clear b3 l3 hg3 hk3 ho3)
        | (refine step_append_string rfl (.tmp 17) (.tmp 19) 31 9 rfl B 5 i5 Tryd.underlying31 Tryd.underlying9 hi5 hz5 hs5 hb5 v3 _ _ (by simp [Act.eval]) (by first | with_reducible exact H3.out | with_reducible exact H3.out.alloc _) it (by simp [Act.eval]) (by omega) (by omega) (Nat.le_trans hB3 (by simp)) ?_
           intro v4 w4 ho4 hg4 hk4
           have b4 := pend hg4 hk4 B3.out.2 (by first | with_reducible exact B3.out.1 | with_reducible exact old_alloc B3.out.1)
           have e4 : w4.cell? ⟨w.heap.size, 2, none⟩ = some (.string it) := box_cells b4.1 2
           have B4 : Hid _ := b4
           have l4 := fun (b : Nat) (o : Obj) (hb : v3.ownBlock ≠ some b) hW => pend (b := b) (o := o) hg4 hk4 hb hW
           have L4 : Hid _ := l4
           have G4 : Hid (Below B w w4) := below_own (by first | with_reducible exact H3.out | with_reducible exact H3.out.alloc _) hBw hg4 (by first | with_reducible exact G3.out | with_reducible exact G3.out.alloc hB3 _)
           have hB4 : B ≤ w4.heap.size := Nat.le_trans hBw G4.out.size
           have H4 : Hid (w4.ownsRow B 5 1 v4 (n + k.size + (Lib.itoa t).length + 1 + it.size) (xs ++ strCells k ++ Lib.byteCells (Lib.itoa t) ++ [.int .u8 40] ++ strCells it)) := ho4
           clear b4 l4 hg4 hk4 ho4)
        | (refine step_append_byte rfl (.tmp 20) (.tmp 21) 31 rfl B 5 i5 (.int .u8 0) Tryd.underlying31 hi5 hz5 rfl hs5 hb5 v4 _ _ (by simp [Act.eval]) (by first | with_reducible exact H4.out | with_reducible exact H4.out.alloc _) _ _ rfl (.int .u8 41)
             (lit_cell (by first
               | with_reducible exact heap_alloc_new _ _
               | with_reducible exact (L4.out _ _ (own_ne H3.out (Nat.le_refl _)) (heap_alloc_new _ _)).1
               | (have x := L3.out _ _ (Nat.le_refl _) (new_drew1 _ _ _); with_reducible exact (L4.out _ _ x.2 x.1).1)
               | (have x := L3.out _ _ (Nat.le_succ _) (new_drew2 _ _ _); with_reducible exact (L4.out _ _ x.2 x.1).1))) rfl (by omega) (by omega) (Nat.le_trans hB4 (by simp)) ?_
           intro v5 w5 ho5 hg5 hk5
           have e5 : w5.cell? ⟨w.heap.size, 2, none⟩ = some (.string it) := box_cells (pend hg5 hk5 B4.out.2 (by first | with_reducible exact B4.out.1 | with_reducible exact old_alloc B4.out.1)).1 2
           have G5 : Hid (Below B w w5) := below_own (by first | with_reducible exact H4.out | with_reducible exact H4.out.alloc _) hBw hg5 (by first | with_reducible exact G4.out | with_reducible exact G4.out.alloc hB4 _)
           have H5 : Hid (w5.ownsRow B 5 1 v5 (n + k.size + (Lib.itoa t).length + 1 + it.size + 1) (xs ++ strCells k ++ Lib.byteCells (Lib.itoa t) ++ [.int .u8 40] ++ strCells it ++ [.int .u8 41])) := ho5
           clear hg5 hk5 ho5))
    all_goals
      clear L3 L4 H3 H4
      go_wp2
      go_ret
      exact ⟨v5, rfl, own_text H5.out k it t (text_item Hp.out t it xs) (by rw [len_item Hp.out]; omega), G5.out⟩
  · have hp' : hasI k = false := by simpa using hp
    have Hp : Hid (hasI k = false) := hp'
    clear hp hp' HB HB1 e1a e1b e1c H1 G1 HO
    go_wp2_with (go_at_call 17; refine (hasItem_any _ _).mono ?_; rintro e wx ⟨rfl, hw⟩; obtain rfl := hw.symm; rw [Hp.out])
    go_ret
    exact ⟨v2, rfl, own_text H2.out k it t (text_bare Hp.out t it xs) (by rw [len_bare Hp.out]; omega), G2.out⟩
end Go.Proofs.Qxb6609101aDoor
