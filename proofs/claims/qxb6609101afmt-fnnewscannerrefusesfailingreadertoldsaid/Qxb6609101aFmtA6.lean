import Derived.Test.Qxb6609101aFmtA5
namespace Go.Proofs.Qxb6609101aFmt
open Go.RowKit

theorem Tryf.info22 : (Tryf.prog.info? 22).map (fun i => (i.zero, i.size, i.bytes)) = some (some (.slice none 0 0), 1, 24) := by kernel_rfl

theorem St.start {RB : Nat → Prop} {R : World → List Int → Prop} {zs : List Int} (w : World) (hr : R w zs) (hst : ∀ (w1 w2 : World) rest, R w1 rest → (∀ k, k < w.heap.size → w2.heap[k]? = w1.heap[k]?) → R w2 rest) :
    St w.heap.size RB R zs w ((w.alloc (.cells (madeCells #[.int .u8 0] 512) 5)).alloc (.cells (madeCells #[.slice none 0 0] 4) 22)) w.heap.size 512 [] 256 (w.heap.size + 1) 4 [] zs := by
  have hf : Fr (fun k => RB k ∨ w.heap.size ≤ k) w ((w.alloc (.cells (madeCells #[.int .u8 0] 512) 5)).alloc (.cells (madeCells #[.slice none 0 0] 4) 22)) := ((Fr.refl _ w).alloc _).alloc _
  refine ⟨⟨(madeCells #[.int .u8 0] 512).toList, ?_, by simp [madeCells], Nat.zero_le _, by simp [vals]⟩, Nat.le_refl _, by simp, by omega, by omega, by omega, by omega, ?_, (fun c hc => by cases hc), by simp [flat], ?_, hf, by simp; omega⟩
  · rw [Below.heap_alloc _ _ _ (by simp)]
    simpa using heap_alloc_new w (.cells (madeCells #[.int .u8 0] 512) 5)
  · have := World.ownsRow_made (base := w.heap.size) (e := 22) (size := 1) (w.alloc (.cells (madeCells #[.int .u8 0] 512) 5)) (madeCells #[.slice none 0 0] 4) 4 (by simp) (by decide) (by simp [madeCells])
    simpa using this
  · refine hst w _ zs hr (fun k hk => ?_)
    rw [Below.heap_alloc _ _ _ (by simp; omega), Below.heap_alloc _ _ _ hk]

set_option maxRecDepth 100000 in
set_option maxHeartbeats 1000000 in
theorem readAll_any {fr : FuncId} {tr : TypeId} {pa : Addr} {RB : Nat → Prop} {R : World → List Int → Prop} {ep eof : Addr} {qb : Bool} (w : World) (hR : Rdr fr tr pa w.heap.size RB R (.iface 67 (.pointer (some ep)))) (zs : List Int) (hz : zs.length ≤ 10000000) (hr : R w zs)
    (hna : ∀ w, (nilAhead 196 tr (.pointer (some pa)) "Read").run Tryf.prog w = .ok (some false) w) (hme : ∀ w, (method 196 tr (.pointer (some pa)) "Read").run Tryf.prog w = .ok (fr, .pointer (some pa)) w)
    (hen : ∀ args w, (callFunc fr args).run Tryf.prog w = .ok (.enter fr args) w) (hc1 : w.cell? ⟨1, 0, none⟩ = some (.iface 67 (.pointer (some eof)))) (h1 : 1 < w.heap.size)
    (hq : ∀ W : World, Fr (fun k => RB k ∨ w.heap.size ≤ k) w W → (binOp .eql 27 (.iface 67 (.pointer (some ep))) (.iface 67 (.pointer (some eof)))).run Tryf.prog W = .ok (.bool qb) W) :
    Calls Tryf.prog 19 #[.iface tr (.pointer (some pa))] w fun e w' => ∃ g cap, e = .returned (.tuple #[.slice (some ⟨g, 0, none⟩) zs.length cap, if qb then .nilIface else .iface 67 (.pointer (some ep))]) ∧ w.heap.size ≤ g ∧ OwnB w' g cap zs ∧ Fr (fun k => RB k ∨ w.heap.size ≤ k) w w' := by
  have hmk1 : ∀ w, (Instr.makeSlice 22 (.int .i64 0) (.int .i64 512)).run Tryf.prog w = .ok (.slice (some ⟨w.heap.size, 0, none⟩) 0 512) (w.alloc (.cells (madeCells #[.int .u8 0] 512) 5)) := fun _ => by kernel_rfl
  have hmk2 : ∀ w, (Instr.makeSlice 61 (.int .i64 0) (.int .i64 4)).run Tryf.prog w = .ok (.slice (some ⟨w.heap.size, 0, none⟩) 0 4) (w.alloc (.cells (madeCells #[.slice none 0 0] 4) 22)) := fun _ => by kernel_rfl
  have HS : Hid _ := St.start (RB := RB) w hr hR.stay
  have HQ : Hid _ := hq
  have HC : Hid (w.cell? ⟨1, 0, none⟩ = some (.iface 67 (.pointer (some eof)))) := hc1
  clear hq hr hc1
  go_enter Tryf.func19, Tryf.ntmps19
  go_wp2_with fail
  go_loopg [4, 5, 6, 7] zs.length (fun gk s4 s5 s6 s7 wr => ∃ (gb capb : Nat) (ys : List Int) (next cg cap6 : Nat) (cs : List Ck) (rest : List Int), s4 = .slice (some ⟨gb, 0, none⟩) ys.length capb ∧ s5 = .int .i64 next ∧ s6 = .slice (some ⟨cg, 0, none⟩) cs.length cap6 ∧ s7 = .int .i64 (flat cs).length ∧ rest.length ≤ gk ∧ St w.heap.size RB R zs w wr gb capb ys next cg cap6 cs rest)
  case atStart => exact ⟨_, _, _, _, _, _, _, _, rfl, rfl, rfl, rfl, Nat.le_refl _, HS.out⟩
  case round =>
    obtain ⟨gb, capb, ys, next, cg, cap6, cs, rest, rfl, rfl, rfl, rfl, hgk, hst⟩ := hrel
    clear hmk1 hmk2 HS
    have hroom := hst.room
    have hcapm := hst.capmax
    have hn0 := hst.next0
    have hn1 := hst.next1
    have hn2 := hst.next2
    have hlen : (flat cs).length + ys.length + rest.length ≤ 10000000 := by rw [hst.len]; exact hz
    have HST : Hid _ := hst
    clear hst
    have hI1 : (ys.length : Int) ≤ (capb : Int) := by omega
    have hI2 : (0 : Int) ≤ (ys.length : Int) := by omega
    have hI3 : ys.length ≤ capb := by omega
    have hI4 : ¬ capb = ys.length := by omega
    have hI5 : (capb : Int) ≤ (capb : Int) := by omega
    have hI6 : capb ≤ capb := by omega
    by_cases hrest : rest = []
    · subst hrest
      have HRd : Hid (R wr.drew []) := hR.stay wr wr.drew [] HST.out.rdr (fun _ _ => rfl)
      clear hgk hn0 hn1 hn2
      go_wp2_with fail
      go_region_held3 (fun _ => True) (trivial) (first | (go_at_fn fr; refine (hR.fin _ gb ys.length (capb - ys.length) (capb - ys.length) HRd.out).mono ?_; rintro e w1 ⟨rfl, hf1⟩))
      have HF1 : Hid (Fr RB wr w1) := (Fr.refl RB wr).drew.trans hf1
      have hF0 : Fr (fun k => RB k ∨ w.heap.size ≤ k) w w1 := HST.out.fr.trans (HF1.out.mono (fun k _ h => .inl h))
      have hg1 : w1.cell? ⟨1, 0, none⟩ = some (.iface 67 (.pointer (some eof))) := by
        rw [hF0.cell (p := ⟨1, 0, none⟩) h1 (fun h => h.elim (fun h => by have := (hR.rb 1 h).1; omega) (fun h => absurd h1 (Nat.not_lt.2 h)))]
        exact HC.out
      have hq1 := HQ.out w1 hF0
      have HF0 : Hid _ := hF0
      have hzs : flat cs ++ ys = zs := by have := HST.out.all; simpa using this
      have HZ : Hid (flat cs ++ ys = zs) := hzs
      have hown1 : OwnB w1 gb capb ys := HST.out.own.fr HF1.out (fun h => by have := (hR.rb gb h).2; have := HST.out.gbase; omega)
      have HO1 : Hid (OwnB w1 gb capb ys) := hown1
      clear hf1 hF0 hna hme hen HRd hzs hown1
      by_cases hcs : cs = []
      · subst hcs
        have hb0 : (((([] : List Ck).length : Nat) : Int) == 0) = true := rfl
        go_wp2_with fail
        all_goals go_ret2
        all_goals
          have hz' : ys = zs := by simpa [flat] using HZ.out
          rw [← hz']
          exact ⟨gb, capb, by simp, HST.out.gbase, HO1.out, HF0.out⟩
      · have hcl : (((cs.length : Nat) : Int) == 0) = false := beq_eq_false_iff_ne.2 (fun h => hcs (List.eq_nil_of_length_eq_zero (by omega)))
        have hck1 : CkOk w1 w.heap.size gb cs := HST.out.ck.fr HF1.out (fun c hc h => by have := (hR.rb c.g h).2; have := (HST.out.ck c hc).1; omega) (Nat.le_refl _)
        have hch1 : w1.ownsRow w.heap.size 22 1 (.slice (some ⟨cg, 0, none⟩) cs.length cap6) cs.length (cs.map ckVal) := owns_fr HST.out.chunks HF1.out (fun h => by have := (hR.rb cg h).2; have := (owns_lt HST.out.chunks).1; omega)
        have hclen := flat_len cs (fun c hc => (hck1 c hc).2.2.2)
        have hcpos := List.length_pos_iff.2 hcs
        have HH1 : Hid (w1.ownsRow w.heap.size 22 1 (.slice (some ⟨cg, 0, none⟩) cs.length cap6) cs.length (cs.map ckVal)) := hch1
        have HK1 : Hid (CkOk w1 w.heap.size gb cs) := hck1
        simp only [List.length_nil, Nat.add_zero] at hlen
        clear hck1 hch1 hcs
        go_wp2_with (first | (at_builtin; refine wpList_append_zeros rfl _ _ rfl ((flat cs).length + ys.length) _ rfl rfl (by omega) (by omega) (by omega) ?_; intro capf w2 hcf1 hcf2 hown2 hf2))
        all_goals
          have HF2 : Hid (Fr (fun _ => False) w1 w2) := hf2
          have HO2 : Hid (OwnB w2 w1.heap.size capf []) := hown2
          clear hf2 hown2 hg1 hq1
          go_loopw [10, 54, 12] (fun s10 s54 _ wi => ∃ k : Nat, k ≤ cs.length ∧ s54 = .int .i64 k ∧ s10 = .slice (some ⟨w1.heap.size, 0, none⟩) (flat (cs.take k)).length capf ∧ OwnB wi w1.heap.size capf (flat (cs.take k)) ∧ Fr (fun j => j = w1.heap.size) w2 wi) (fun _ s54 _ _ => cs.length - (intOf s54).toNat)
          case atStart => exact ⟨0, Nat.zero_le _, rfl, by simp [flat], by simpa [flat] using HO2.out, Fr.refl _ _⟩
          case round =>
            obtain ⟨k, hk, rfl, rfl, hown, hfi⟩ := hrel
            have HFi : Hid (Fr (fun j => j = w1.heap.size) w2 wr) := hfi
            have HOi : Hid (OwnB wr w1.heap.size capf (flat (cs.take k))) := hown
            clear hfi hown
            by_cases hlt : k < cs.length
            · obtain ⟨hcg1, hcg2, hcown, _⟩ := HK1.out cs[k] (List.getElem_mem _)
              have hcl1 := hcown.lt
              have hby : BytesAt wr (some ⟨cs[k].g, 0, none⟩) cs[k].ys := (((hcown.fr HF2.out (fun h => h)).fr HFi.out (by omega))).bytes
              have hcell : wr.cell? ⟨cg, k, none⟩ = some (.slice (some ⟨cs[k].g, 0, none⟩) cs[k].ys.length cs[k].cap) := by
                have e1 := World.ownsRow.cellAt (w := w1) HH1.out k (by omega)
                obtain ⟨_, curg, hcurg⟩ := owns_lt HH1.out
                have hcgl := (Array.getElem?_eq_some_iff.1 hcurg).1
                rw [HFi.out.cell (p := ⟨cg, k, none⟩) (Nat.lt_of_lt_of_le hcgl HF2.out.size) (Nat.ne_of_lt hcgl), HF2.out.cell (p := ⟨cg, k, none⟩) hcgl (fun h => h), e1]
                simp [ckVal, hlt]
              have hsucc := flat_take_succ cs k hlt
              have htl := flat_take_le cs (k + 1)
              rw [hsucc, List.length_append] at htl
              have Hsucc : Hid _ := hsucc
              have HBy : Hid (BytesAt wr (some ⟨cs[k].g, 0, none⟩) cs[k].ys) := hby
              clear hcown hby hsucc hcg1 hcg2 hcl1
              generalize cs[k] = c at *
              generalize hfl : flat (cs.take k) = xs at *
              have Hfl : Hid _ := hfl
              clear hfl
              have hroomf : xs.length + c.ys.length ≤ capf := by omega
              go_wp2_with (first | (at_builtin; refine wpList_append_roomB rfl _ _ rfl w1.heap.size capf xs rfl HOi.out c.g 0 c.cap c.ys rfl HBy.out hroomf ?_; intro w3 hown3 hf3))
              go_roundw
              case rel => exact ⟨k + 1, by omega, by go_num, by rw [Hsucc.out, List.length_append], by rw [Hsucc.out]; exact hown3, HFi.out.trans hf3⟩
              case measure => simp [intOf]; omega
            · obtain rfl : k = cs.length := by omega
              have hown1 := HO1.out
              have hgl := hown1.lt
              have HBy : Hid (BytesAt wr (some ⟨gb, 0, none⟩) ys) := (((hown1.fr HF2.out (fun h => h)).fr HFi.out (by omega))).bytes
              have hcl3 : cs.take cs.length = cs := List.take_of_length_le (Nat.le_refl _)
              rw [hcl3] at HOi ⊢
              have hroomf : (flat cs).length + ys.length ≤ capf := by omega
              clear hown1 hcl3 hlt
              go_wp2_with (first | (at_builtin; refine wpList_append_roomB rfl _ _ rfl w1.heap.size capf (flat cs) rfl HOi.out gb 0 capb ys rfl HBy.out hroomf ?_; intro w3 hown3 hf3))
              all_goals
                go_ret2
                rw [HZ.out] at hown3
                refine ⟨w1.heap.size, capf, ?_, HF0.out.size, hown3, (HF0.out.trans (HF2.out.mono (fun _ _ h => h.elim))).trans ?_⟩
                · rw [← HZ.out, List.length_append]; simp
                · have hw12 := HF2.out.size
                  have hw01 := HF0.out.size
                  exact ((HFi.out.trans hf3).mono (fun j _ h => .inr (by omega)))
    · have HRd : Hid (R wr.drew rest) := hR.stay wr wr.drew rest HST.out.rdr (fun _ _ => rfl)
      obtain ⟨cur, hg, hcl, _, ht⟩ := HST.out.own
      have HG : Hid (wr.drew.heap[gb]? = some (.cells cur.toArray 5 (0, 0))) := hg
      have hgb := HST.out.gbase
      have HT : Hid (cur.length = capb ∧ cur.take ys.length = vals ys) := ⟨hcl, ht⟩
      have hrp := List.length_pos_iff.2 hrest
      have hfit : ys.length + (capb - ys.length) ≤ cur.length := by omega
      have hpos : 0 < capb - ys.length := by omega
      have HRe : Hid (rest ≠ []) := hrest
      clear hg hcl ht hrest
      go_wp2_with fail
      go_region_held3 (fun _ => True) (trivial) (first | (go_at_fn fr; refine (hR.more _ rest gb ys.length (capb - ys.length) (capb - ys.length) cur HRd.out HRe.out hgb HG.out hfit hpos).mono ?_; rintro e w1 ⟨rfl, hR1, hg1, hf1⟩))
      have HF1 : Fr (fun k => RB k ∨ k = gb) wr w1 := (Fr.refl _ wr).drew.trans hf1
      obtain ⟨own1, ch1, ck1, all1, fr1, sz1⟩ := HST.out.read hR.rb HT.out.1 HT.out.2 hR1 hg1 HF1
      obtain ⟨n, hn⟩ : ∃ n, n = min (capb - ys.length) rest.length := ⟨_, rfl⟩
      rw [← hn]
      have hnn1 : n ≤ capb - ys.length := by omega
      have hnn2 : n ≤ rest.length := by omega
      have hnn3 : 0 < n := by omega
      obtain ⟨yy, hyy⟩ : ∃ yy, yy = ys ++ rest.take (capb - ys.length) := ⟨_, rfl⟩
      obtain ⟨rr, hrr⟩ : ∃ rr, rr = rest.drop (capb - ys.length) := ⟨_, rfl⟩
      have hyl : yy.length = ys.length + n := by rw [hyy, hn]; simp
      have hrl : rr.length < gk := by rw [hrr]; simp; omega
      rw [← hyy] at own1 all1
      rw [← hrr] at all1 hR1
      have HY : Hid (yy.length = ys.length + n) := hyl
      have H1 : Hid (OwnB w1 gb capb yy) := own1
      have H2 : Hid (w1.ownsRow w.heap.size 22 1 (.slice (some ⟨cg, 0, none⟩) cs.length cap6) cs.length (cs.map ckVal)) := ch1
      have H3 : Hid (CkOk w1 w.heap.size gb cs) := ck1
      have H4 : Hid (flat cs ++ yy ++ rr = zs) := all1
      have H5 : Hid (Fr (fun k => RB k ∨ w.heap.size ≤ k) w w1) := fr1
      have H6 : Hid (R w1 rr) := hR1
      clear hyl own1 ch1 ck1 all1 fr1 hR1 hyy hrr hn HF1 hg1 hf1 HG HRd HRe HT hna hme hen hI1 hI2 hI3 hI4 hI5 hI6 hfit hpos
      have hcap171 : 171 ≤ capb := by omega
      by_cases hfull : capb - (ys.length + n) < capb / 16
      · obtain ⟨i22, hi22, hz22a, hz22b, hz22c⟩ := info_parts Tryf.info22
        have hclen := flat_len cs (fun c hc => (H3.out c hc).2.2.2)
        have hb24 : (cs.length + 1) * 24 ≤ 140737488355328 := by omega
        have hb63 : cs.length + 1 ≤ maxLen := by unfold maxLen; omega
        go_wp2_with (first | (at_builtin; refine wpList_append_own _ rfl (.tmp 76) (.tmp 78) 61 rfl w.heap.size 22 i22 _ 1 24 Tryf.underlying61 hi22 hz22a hz22b hz22c rfl (by decide) _ cs.length (cs.map ckVal) rfl (World.ownsRow.alloc H2.out _) ⟨w1.heap.size, 0, none⟩ 1 1 [.slice (some ⟨gb, 0, none⟩) (ys.length + n) capb] rfl rfl (cell_one_new _ _ _) (fun u hu => by simp at hu; subst hu; rfl) hb63 hb24 (by simp; omega) ?_; intro v2 w2 hown2 hgrow2 hv2) | (at_builtin; refine wpList_append_zeros rfl _ _ rfl next _ rfl rfl rfl (by omega) (by omega) ?_; intro capn w3 hcn hcm hown3 hf3))
        have hown2' := hown2
        rcases hown2.2 with ⟨_, h0⟩ | ⟨cg', cap6', cur', hve, _⟩
        · omega
        rw [hve]
        rw [hve] at hown2'
        have e1 : ckVal ⟨gb, capb, yy⟩ = .slice (some ⟨gb, 0, none⟩) (ys.length + n) capb := by simp [ckVal, HY.out]
        rw [← e1] at hown2'
        have HP := HST.out.push hz H1.out H2.out H3.out H4.out H5.out sz1 (by rw [HY.out]; exact hfull) hR.stay H6.out hown2' hgrow2 hown3 hf3 hcn hcm
        go_roundg rr.length
        case measure => exact hrl
        case rel =>
          refine ⟨w2.heap.size, capn, [], next + next / 2, cg', cap6', cs ++ [⟨gb, capb, yy⟩], rr, rfl, by go_num, by simp, ?_, Nat.le_refl _, HP⟩
          rw [flat_snoc, List.length_append, HY.out]
          go_num
      · go_wp2_with fail
        go_roundg rr.length
        case measure => exact hrl
        case rel => exact ⟨gb, capb, yy, next, cg, cap6, cs, rr, by rw [HY.out], rfl, rfl, rfl, Nat.le_refl _, ⟨H1.out, hgb, by rw [HY.out]; omega, hcapm, hn0, hn1, hn2, H2.out, H3.out, H4.out, H6.out, H5.out, sz1⟩⟩
end Go.Proofs.Qxb6609101aFmt
