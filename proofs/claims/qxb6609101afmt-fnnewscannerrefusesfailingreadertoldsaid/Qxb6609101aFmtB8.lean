/- FnNewScannerRefusesFailingReader: the walk. -/
import Derived.Test.Qxb6609101aFmtB7
import Derived.Test.Qxb6609101aFmtB2
namespace Go.Proofs.Qxb6609101aFmt
open Go.RowKit
open Go.Extern.Stop Go.Stop Go.Extern

theorem Sents.eof {w : World} {ep eof : Addr} {s : ByteArray} (h : Sents w ep eof s) : EofAt w eof := ⟨h.one, World.block_lt_of_cell? w _ h.one⟩

set_option maxRecDepth 100000 in
set_option maxHeartbeats 1000000 in
theorem refuses_any (F : Interp) (zs : List Int) (a : Option Addr) (cap : Nat) (name s : ByteArray) (ep eof : Addr) (w : World) (hF : F.answers w.tape) (hl : zs.length ≤ 9223372036854775807) (hs : name.size ≤ 9223372036854775807) (hwf : Wf zs) (hn : a = none → zs.length = 0) (ho : BytesAt w a zs) (he : Sents w ep eof s) :
    Calls Tryf.prog 4 #[.slice a zs.length cap, .string name] w fun e w' => e = .returned (.bool true) ∧ Below w.heap.size w w' := by
  have HO : Hid (BytesAt w a zs) := ho
  have HN : Hid (a = none → zs.length = 0) := hn
  have HW : Hid (Wf zs) := hwf
  have HE : Hid (Sents w ep eof s) := he
  have HFF : Hid (F.answers w.tape) := hF
  clear ho hn hwf he hF
  go_enter Tryf.func4, Tryf.ntmps4
  go_wp2_with fail
  refine (bytes10_any a zs.length cap name _ hl hs).mono ?_
  rintro e wx ⟨⟨r, rfl⟩, hx⟩
  obtain rfl := hx.symm
  cases r
  · go_wp2
    go_ret
    exact ⟨rfl, Below.refl _ _⟩
  by_cases hb1 : 524288 < zs.length
  · go_wp2
    go_ret
    exact ⟨rfl, Below.refl _ _⟩
  by_cases hb2 : 524288 < name.size
  · go_wp2
    go_ret
    exact ⟨rfl, Below.refl _ _⟩
  go_wp2_with fail
  refine (clone_all zs a cap _ (by omega) HN.out HO.out).mono ?_
  rintro e w1 ⟨a1, cap1, rfl, hby, hc1, hx1, hn1, hb1'⟩
  have K1 : Hid (BytesAt w1 a1 zs) := hby
  have H2 : Hid (∀ x, a1 = some x → x.block < w1.heap.size ∧ x.spot = none) := hx1
  have B1 : Hid (Below w.heap.size w w1) := hb1'
  clear hby hx1 hb1' hn1
  go_wp2_with fail
  refine (zzFail_any F zs a1 cap1 name s ep eof _ (by rw [B1.out.tape]; exact HFF.out) (by omega) hc1 K1.out (fun x hx => (H2.out x hx).1) (HE.out.below B1.out)).mono ?_
  rintro e w4 ⟨⟨xe, rfl⟩, hb4⟩
  have B4 : Hid (Below w.heap.size w w4) := B1.out.trans (hb4.mono B1.out.size)
  have K4 : Hid (BytesAt w4 a1 zs) := K1.out.below hb4
  have L4 : Hid (∀ x, a1 = some x → x.block < w4.heap.size) := fun x hx => Nat.lt_of_lt_of_le (H2.out x hx).1 hb4.size
  clear hb4 K1
  go_wp2_with fail
  refine (zzNew_any zs a1 cap1 name eof _ (by omega) HW.out hc1 K4.out L4.out (HE.out.below B4.out).eof).mono ?_
  rintro e w6 ⟨sb, rfl, hsc, hb6⟩
  have B6 : Hid (Below w.heap.size w w6) := B4.out.trans (hb6.mono B4.out.size)
  have S1' : Hid (ScAt w6 sb w4.heap.size name (trim zs)) := hsc
  have K6 : Hid (BytesAt w6 a1 zs) := K4.out.below hb6
  clear hsc hb6 K4
  go_wp2_with fail
  refine (hasMark_any zs a1 cap1 _ K6.out (by omega)).mono ?_
  rintro e wx ⟨rfl, hx'⟩
  obtain rfl := hx'.symm
  cases hmk : hasMark zs
  · have HM : Hid (hasMark zs = false) := hmk
    clear hmk
    have ht : trim zs = zs := by simp [trim, HM.out]
    rw [ht] at S1'
    go_wp2_with fail
    refine (fresh_any sb _ name zs a1 cap1 _ S1'.out K6.out (by omega)).mono ?_
    rintro e w7 ⟨rfl, hb7⟩
    have B7 : Hid (Below w.heap.size w w7) := B6.out.trans (hb7.mono B6.out.size)
    clear hb7
    go_wp2_with fail
    go_ret
    exact ⟨rfl, B7.out⟩
  · have HM : Hid (hasMark zs = true) := hmk
    have h3 : 3 ≤ zs.length := by
      rcases Nat.lt_or_ge zs.length 3 with h | h
      · rw [hasMark_short h] at hmk; cases hmk
      · exact h
    clear hmk
    rcases K6.out with hnn | ⟨b, off, rfl, hbl, hcs⟩
    · rw [hnn] at h3; simp at h3
    clear hcs hbl
    have hi3 : (3 : Int) ≤ (zs.length : Int) := by omega
    have ht : trim zs = zs.drop 3 := by simp [trim, HM.out]
    have htl : (trim zs).length = zs.length - 3 := by rw [ht]; simp
    have Htl : Hid ((trim zs).length = zs.length - 3) := htl
    have KD : Hid (∃ off', (if cap1 = 3 then some (⟨b, off, none⟩ : Addr) else some ⟨b, off + 3, none⟩) = some ⟨b, off', none⟩ ∧ BytesAt w6 (some ⟨b, off', none⟩) (trim zs)) := by
      by_cases hc : cap1 = 3
      · refine ⟨off, by simp [hc], .inl ?_⟩
        exact List.eq_nil_of_length_eq_zero (by omega)
      · exact ⟨off + 3, by simp [hc], by rw [ht]; exact K6.out.drop 3⟩
    clear htl ht
    obtain ⟨off', hoff, hbd⟩ := KD.out
    have HBd : Hid (BytesAt w6 (some ⟨b, off', none⟩) (trim zs)) := hbd
    clear hbd KD
    go_wp2_with fail
    rw [← Htl.out]
    refine (fresh_any sb _ name (trim zs) (some ⟨b, off', none⟩) (cap1 - 3) _ S1'.out HBd.out (by rw [Htl.out]; omega)).mono ?_
    rintro e w7 ⟨rfl, hb7⟩
    have B7 : Hid (Below w.heap.size w w7) := B6.out.trans (hb7.mono B6.out.size)
    clear hb7 hoff
    go_wp2_with fail
    go_ret
    exact ⟨rfl, B7.out⟩
end Go.Proofs.Qxb6609101aFmt
