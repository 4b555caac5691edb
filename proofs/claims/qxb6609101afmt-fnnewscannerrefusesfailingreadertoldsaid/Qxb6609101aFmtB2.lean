import Derived.Test.Qxb6609101aFmtB1
namespace Go.Proofs.Qxb6609101aFmt
open Go.RowKit

theorem hasMark_app (zs : List Int) : hasMark (mark ++ zs) = true := rfl
theorem trim_app (zs : List Int) : trim (mark ++ zs) = zs := rfl

/-- A copy of the bytes: nil, or a row of the call's own. -/
theorem clone_all (zs : List Int) (a : Option Addr) (cap : Nat) (w : World) (hm : zs.length ≤ 10000000) (hn : a = none → zs.length = 0) (ho : BytesAt w a zs) :
    Calls Tryf.prog 6 #[.slice a zs.length cap] w fun e w' => ∃ a' cap', e = .returned (.slice a' zs.length cap') ∧ BytesAt w' a' zs ∧ zs.length ≤ cap' ∧ (∀ x, a' = some x → x.block < w'.heap.size ∧ x.spot = none) ∧ (a' = none → zs.length = 0) ∧ Below w.heap.size w w' := by
  cases a with
  | none =>
    have h0 := hn rfl
    have hos : zs = [] := List.eq_nil_of_length_eq_zero h0
    subst hos
    refine (clone_nil cap w).mono ?_
    rintro e w' ⟨rfl, rfl⟩
    exact ⟨none, 0, rfl, .inl rfl, Nat.le_refl _, (fun x hx => by cases hx), (fun _ => rfl), Below.refl _ _⟩
  | some ad =>
    refine (clone_some zs ad cap w hm ho).mono ?_
    rintro e w' ⟨rfl, hown, hb⟩
    exact ⟨_, _, rfl, hown.bytes, Nat.le_refl _, (fun x hx => by simp only [Option.some.injEq] at hx; subst hx; exact ⟨hown.lt, rfl⟩), (fun h => by cases h), hb⟩

theorem wpList_append_nilB {w : World} {ops : Array Oper} {rest : List Oper} {o : Oper} {a : Act} {Q : Exit → Act → World → Prop} (hgd : o.guard = none) (s x : Operand)
    (ho : o.op = .call { callee := .builtin .append, args := #[s, x], argTypes := #[22, 22] })
    (g n cap c : Nat) (hs : a.eval s = .slice (some ⟨g, 0, none⟩) n cap) (hx : a.eval x = .slice none 0 c) (hn : n ≤ cap)
    (h : wpList Tryf.prog ops Q rest (a.put o.dst (.slice (some ⟨g, 0, none⟩) n cap)) w) : wpList Tryf.prog ops Q (o :: rest) a w := by
  refine wpList_plain hgd fun K hK => ?_
  obtain ⟨i0, hi, hz0, hz1, hz2⟩ := info_parts Tryf.info5
  have hrun : ∀ ty, (Builtin.append_ #[22, 22] ty #[.slice (some ⟨g, 0, none⟩) n cap, .slice none 0 c]).run Tryf.prog w = .ok (.slice (some ⟨g, 0, none⟩) n cap) w := fun ty => by
    simp [Builtin.append_, run_underlying Tryf.underlying22, sizeOf, typeInfo, hi, Builtin.lenOf, Builtin.firstCells, hn, storeCells]
  unfold Oper.wp
  simp [execOp, ho, resolve, invoke, builtin, hs, hx, hrun, Result.andThen]
  exact hK _ _ h

/-- 'append(out, data...)' within the room, data nil or not. -/
theorem wpList_append_optB {w : World} {ops : Array Oper} {rest : List Oper} {o : Oper} {a : Act} {Q : Exit → Act → World → Prop} (hgd : o.guard = none) (s x : Operand)
    (ho : o.op = .call { callee := .builtin .append, args := #[s, x], argTypes := #[22, 22] })
    (g cap : Nat) (xs : List Int) (hs : a.eval s = .slice (some ⟨g, 0, none⟩) xs.length cap) (hown : OwnB w g cap xs)
    (ad : Option Addr) (c : Nat) (ys : List Int) (hx : a.eval x = .slice ad ys.length c) (hys : BytesAt w ad ys) (hnil : ad = none → ys.length = 0) (hsp : ∀ x, ad = some x → x.spot = none) (hroom : xs.length + ys.length ≤ cap)
    (h : ∀ w', OwnB w' g cap (xs ++ ys) → Fr (fun k => k = g) w w' → wpList Tryf.prog ops Q rest (a.put o.dst (.slice (some ⟨g, 0, none⟩) (xs.length + ys.length) cap)) w') : wpList Tryf.prog ops Q (o :: rest) a w := by
  cases ad with
  | none =>
    have hy := List.eq_nil_of_length_eq_zero (hnil rfl)
    subst hy
    refine wpList_append_nilB hgd s x ho g xs.length cap c hs hx (by simpa using hroom) ?_
    exact h w (by simpa using hown) (Fr.refl _ _)
  | some ad =>
    obtain ⟨b, off, sp⟩ := ad
    have hsp' : sp = none := hsp _ rfl
    subst hsp'
    exact wpList_append_roomB hgd s x ho g cap xs hs hown b off c ys hx hys hroom h

theorem mark_new (w : World) : BytesAt (w.alloc (.cells #[.int .u8 239, .int .u8 187, .int .u8 191] 5)) (some ⟨w.heap.size, 0, none⟩) mark := by
  refine .inr ⟨w.heap.size, 0, rfl, by simp, fun i hi => ?_⟩
  rw [Nat.zero_add, cell_of_row _ w.heap.size i #[.int .u8 239, .int .u8 187, .int .u8 191] 5 (0, 0) (heap_alloc_new w _)]
  have h3 : i < 3 := hi
  match i, h3 with
  | 0, _ => rfl
  | 1, _ => rfl
  | 2, _ => rfl

theorem mark_after {w1 w2 w3 : World} {o : Obj} {ad : Option Addr} {zs : List Int} (h : BytesAt w1 ad zs) (hlt : ∀ x, ad = some x → x.block < w1.heap.size ∧ x.spot = none) (hg : w1.grownBy w2 none) (hf : Fr (fun k => k = w1.heap.size) (w2.alloc o) w3) : BytesAt w3 ad zs := by
  have h1 : Fr (fun k => k = w1.heap.size) w1 w2 := (Fr.refl _ w1).grown hg (by simp)
  exact h.fr ((h1.alloc o).trans hf) (fun x hx => Nat.ne_of_lt (hlt x hx).1)

set_option maxHeartbeats 1000000 in
theorem skips_any (zs : List Int) (a : Option Addr) (cap : Nat) (name : ByteArray) (eof : Addr) (w : World) (hl : zs.length ≤ 9223372036854775807) (hs : name.size ≤ 9223372036854775807) (hwf : Wf zs) (hn : a = none → zs.length = 0) (ho : BytesAt w a zs) (he : EofAt w eof) :
    Calls Tryf.prog 3 #[.slice a zs.length cap, .string name] w fun e w' => e = .returned (.bool true) ∧ Below w.heap.size w w' := by
  have HO : Hid (BytesAt w a zs) := ho
  have HN : Hid (a = none → zs.length = 0) := hn
  have HW : Hid (Wf zs) := hwf
  have HE : Hid (EofAt w eof) := he
  clear ho hn hwf he
  go_enter Tryf.func3, Tryf.ntmps3
  go_wp2_with fail
  refine (bytes5_any a zs.length cap name _ hl hs).mono ?_
  rintro e wx ⟨⟨r, rfl⟩, hx⟩
  obtain rfl := hx.symm
  cases r
  · go_wp2
    go_ret
    exact ⟨rfl, Below.refl _ _⟩
  by_cases hb1 : 524288 < zs.length
  · go_wp2
    go_ret
    exact ⟨rfl, Below.refl _ _⟩
  by_cases hb2 : 524288 < name.size
  · go_wp2
    go_ret
    exact ⟨rfl, Below.refl _ _⟩
  go_wp2_with fail
  refine (clone_all zs a cap _ (by omega) HN.out HO.out).mono ?_
  rintro e w1 ⟨a1, cap1, rfl, hby, hc1, hx1, hn1, hb1'⟩
  have H1 : Hid (BytesAt w1 a1 zs) := hby
  have H2 : Hid (∀ x, a1 = some x → x.block < w1.heap.size ∧ x.spot = none) := hx1
  have H3 : Hid (a1 = none → zs.length = 0) := hn1
  have B1 : Hid (Below w.heap.size w w1) := hb1'
  clear hby hx1 hb1' hn1
  obtain ⟨i0, hi, hz0, hz1, hz2⟩ := info_parts Tryf.info5
  go_wp2_with (first | (at_make; refine wpList_make_own _ rfl _ _ 22 rfl w1.heap.size 5 i0 _ 1 Tryf.underlying22 hi hz0 hz1 .i64 .i64 _ (zs.length + 3) rfl rfl (by omega) (by rw [hz2]; omega) (by unfold maxLen; omega) (Nat.le_refl _) ?_; intro w2 hown2 hgrow2) | (at_builtin; refine wpList_append_roomB rfl (.tmp 27) (.tmp 28) rfl w1.heap.size (zs.length + 3) [] rfl ((ownB_of_owns hown2).2.fr ((Fr.refl (fun _ => False) w2).alloc _) (fun h => h)) w2.heap.size 0 3 mark rfl (mark_new w2) (by simp [mark]) ?_; intro w3 hown3 hf3) | (at_builtin; refine wpList_append_optB rfl (.tmp 30) (.tmp 31) rfl w1.heap.size (zs.length + 3) mark rfl hown3 a1 cap1 zs rfl (mark_after H1.out H2.out hgrow2 hf3) H3.out (fun x hx => (H2.out x hx).2) (by simp [mark]; omega) ?_; intro w4 hown4 hf4))
  have hf14 : Fr (fun k => k = w1.heap.size) w1 w4 := (((Fr.refl (fun k => k = w1.heap.size) w1).grown hgrow2 (by simp)).alloc _).trans (hf3.trans hf4)
  have hs14 := hf14.size
  have K1 : Hid (BytesAt w4 a1 zs) := H1.out.fr hf14 (fun x hx => Nat.ne_of_lt (H2.out x hx).1)
  have K2 : Hid (∀ x, a1 = some x → x.block < w4.heap.size) := fun x hx => Nat.lt_of_lt_of_le (H2.out x hx).1 hs14
  have K3 : Hid (OwnB w4 w1.heap.size (zs.length + 3) (mark ++ zs)) := hown4
  have hb14 : Below w1.heap.size w1 w4 := hf14.below (Nat.le_refl _) (fun k hk => Nat.ne_of_lt hk)
  have B4 : Hid (Below w.heap.size w w4) := B1.out.trans (hb14.mono B1.out.size)
  have K4 : Hid (EofAt w4 eof) := HE.out.below B4.out
  clear hf14 hs14 hown2 hgrow2 hown3 hf3 hown4 hf4 hb14 H1 H2 hi hz0 hz1 hz2
  refine (zzNew_any zs a1 cap1 name eof _ (by omega) HW.out hc1 K1.out K2.out K4.out).mono ?_
  rintro e w5 ⟨sb, rfl, hsc, hb5⟩
  have S1 : Hid (ScAt w5 sb w4.heap.size name (trim zs)) := hsc
  have B5 : Hid (Below w4.heap.size w4 w5) := hb5
  clear hsc hb5
  go_wp2_with fail
  have hbw5 := B4.out.trans (B5.out.mono B4.out.size)
  have hlw := K3.out.lt
  have hown5 := K3.out.below B5.out hlw
  rw [show mark.length + zs.length = (mark ++ zs).length from List.length_append.symm]
  have hml : (mark ++ zs).length = zs.length + 3 := by rw [List.length_append, Nat.add_comm]; rfl
  refine (zzNew_any (mark ++ zs) (some ⟨w1.heap.size, 0, none⟩) (zs.length + 3) name eof _ (by omega) (fun z hz => (List.mem_append.1 hz).elim (mark_wf z) (HW.out z)) (by omega) hown5.bytes (fun x hx => by simp only [Option.some.injEq] at hx; subst hx; exact hown5.lt) (HE.out.below hbw5)).mono ?_
  rintro e w6 ⟨sb2, rfl, hsc2, hb6⟩
  rw [trim_app] at hsc2
  have B6 : Hid (Below w.heap.size w w6) := hbw5.trans (hb6.mono hbw5.size)
  have S2 : Hid (ScAt w6 sb2 w5.heap.size name zs) := hsc2
  have S1' : Hid (ScAt w6 sb w4.heap.size name (trim zs)) := S1.out.below hb6
  have K6 : Hid (BytesAt w6 a1 zs) := (K1.out.below B5.out).below hb6
  clear hbw5 hown5 hsc2 hb6 S1 K1 K2 K3 K4 hlw hml
  go_wp2_with fail
  refine (hasMark_any zs a1 cap1 _ K6.out (by omega)).mono ?_
  rintro e wx ⟨rfl, hx'⟩
  obtain rfl := hx'.symm
  cases hmk : hasMark zs
  · have HM : Hid (hasMark zs = false) := hmk
    clear hmk
    have ht : trim zs = zs := by simp [trim, HM.out]
    rw [ht] at S1'
    go_wp2_with fail
    refine (fresh_any sb _ name zs a1 cap1 _ S1'.out K6.out (by omega)).mono ?_
    rintro e w7 ⟨rfl, hb7⟩
    have B7 : Hid (Below w6.heap.size w6 w7) := hb7
    clear hb7
    go_wp2_with fail
    refine (fresh_any sb2 _ name zs a1 cap1 _ (S2.out.below B7.out) (K6.out.below B7.out) (by omega)).mono ?_
    rintro e w8 ⟨rfl, hb8⟩
    have B8 : Hid (Below w.heap.size w w8) := (B6.out.trans (B7.out.mono B6.out.size)).trans (hb8.mono (Nat.le_trans B6.out.size B7.out.size))
    clear hb8
    go_wp2_with fail
    go_ret
    exact ⟨rfl, B8.out⟩
  · have HM : Hid (hasMark zs = true) := hmk
    have h3 : 3 ≤ zs.length := by
      rcases Nat.lt_or_ge zs.length 3 with h | h
      · rw [hasMark_short h] at hmk; cases hmk
      · exact h
    clear hmk
    rcases K6.out with hnn | ⟨b, off, rfl, hbl, hcs⟩
    · rw [hnn] at h3; simp at h3
    clear hcs hbl
    have hi3 : (3 : Int) ≤ (zs.length : Int) := by omega
    have ht : trim zs = zs.drop 3 := by simp [trim, HM.out]
    have htl : (trim zs).length = zs.length - 3 := by rw [ht]; simp
    have Htl : Hid ((trim zs).length = zs.length - 3) := htl
    have KD : Hid (∃ off', (if cap1 = 3 then some (⟨b, off, none⟩ : Addr) else some ⟨b, off + 3, none⟩) = some ⟨b, off', none⟩ ∧ BytesAt w6 (some ⟨b, off', none⟩) (trim zs)) := by
      by_cases hc : cap1 = 3
      · refine ⟨off, by simp [hc], .inl ?_⟩
        exact List.eq_nil_of_length_eq_zero (by omega)
      · exact ⟨off + 3, by simp [hc], by rw [ht]; exact K6.out.drop 3⟩
    clear htl ht
    obtain ⟨off', hoff, hbd⟩ := KD.out
    have HBd : Hid (BytesAt w6 (some ⟨b, off', none⟩) (trim zs)) := hbd
    clear hbd KD
    go_wp2_with fail
    rw [← Htl.out]
    refine (fresh_any sb _ name (trim zs) (some ⟨b, off', none⟩) (cap1 - 3) _ S1'.out HBd.out (by rw [Htl.out]; omega)).mono ?_
    rintro e w7 ⟨rfl, hb7⟩
    have B7 : Hid (Below w6.heap.size w6 w7) := hb7
    clear hb7 hoff
    go_wp2_with fail
    refine (fresh_any sb2 _ name zs _ cap1 _ (S2.out.below B7.out) (K6.out.below B7.out) (by omega)).mono ?_
    rintro e w8 ⟨rfl, hb8⟩
    have B8 : Hid (Below w.heap.size w w8) := (B6.out.trans (B7.out.mono B6.out.size)).trans (hb8.mono (Nat.le_trans B6.out.size B7.out.size))
    clear hb8
    go_wp2_with fail
    go_ret
    exact ⟨rfl, B8.out⟩
end Go.Proofs.Qxb6609101aFmt
