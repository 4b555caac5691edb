import Derived.Test.Qxb6609101aFmtA7
namespace Go.Proofs.Qxb6609101aFmt
open Go.RowKit

def mark : List Int := [239, 187, 191]
theorem mark_wf : Wf mark := by intro z hz; simp [mark] at hz; omega

set_option maxHeartbeats 400000 in
theorem hasPrefix_any (zs : List Int) (g cap m c : Nat) (w : World) (hz : BytesAt w (some ⟨g, 0, none⟩) zs) (hm : BytesAt w (some ⟨m, 0, none⟩) mark) (hw : Wf zs) (hl : zs.length ≤ 100000000) (hcap : zs.length ≤ cap) :
    Calls Tryf.prog 24 #[.slice (some ⟨g, 0, none⟩) zs.length cap, .slice (some ⟨m, 0, none⟩) 3 c] w fun e w' => e = .returned (.bool (hasMark zs)) ∧ w' = w := by
  by_cases h3 : 3 ≤ zs.length
  · have hi : (3 : Int) ≤ (zs.length : Int) := by omega
    have hd : decide (3 ≤ zs.length) = true := by simpa using h3
    have hc3 : 3 ≤ cap := by omega
    have hw3 : Wf (zs.take 3) := fun z hz => hw z (List.mem_of_mem_take hz)
    have H1 : Hid _ := conv_of (c := cap) (n := 3) (hz.take 3) (by simp; omega)
    have H2 : Hid _ := conv_of (c := c) (n := 3) hm rfl
    have H3 : Hid (Wf (zs.take 3)) := hw3
    clear hw3 hz hm hw
    go_enter Tryf.func24, Tryf.ntmps24
    go_wp2_with (first | (go_at_call 25; refine (equal_any _ _ (zs.take 3) mark _ H3.out mark_wf H1.out H2.out).mono ?_; rintro e wx ⟨rfl, hx⟩; obtain rfl := hx.symm))
    go_ret
    exact ⟨rfl, rfl⟩
  · go_enter Tryf.func24, Tryf.ntmps24
    go_wp2_with fail
    go_ret
    exact ⟨ret_bool (hasMark_short (by omega)).symm, rfl⟩

def trim (zs : List Int) : List Int := if hasMark zs then zs.drop 3 else zs

set_option maxHeartbeats 400000 in
theorem trim_any (zs : List Int) (g cap m c : Nat) (w : World) (hz : BytesAt w (some ⟨g, 0, none⟩) zs) (hm : BytesAt w (some ⟨m, 0, none⟩) mark) (hw : Wf zs) (hl : zs.length ≤ 100000000) (hcap : zs.length ≤ cap) :
    Calls Tryf.prog 21 #[.slice (some ⟨g, 0, none⟩) zs.length cap, .slice (some ⟨m, 0, none⟩) 3 c] w fun e w' => ∃ off cap', e = .returned (.slice (some ⟨g, off, none⟩) (trim zs).length cap') ∧ BytesAt w (some ⟨g, off, none⟩) (trim zs) ∧ w' = w := by
  have H2 : Hid (BytesAt w (some ⟨g, 0, none⟩) zs) := hz
  have H3 : Hid (BytesAt w (some ⟨m, 0, none⟩) mark) := hm
  have H4 : Hid (Wf zs) := hw
  clear hz hm hw
  cases hmk : hasMark zs
  · have HM : Hid (hasMark zs = false) := hmk
    clear hmk
    go_enter Tryf.func21, Tryf.ntmps21
    go_wp2_with (first | (go_at_call 24; refine (hasPrefix_any zs g cap m c _ H2.out H3.out H4.out hl hcap).mono ?_; rintro e wx ⟨rfl, hx⟩; obtain rfl := hx.symm; rw [HM.out]))
    go_ret
    exact ⟨0, cap, by simp [trim, HM.out], by simpa [trim, HM.out] using H2.out, rfl⟩
  · have HM : Hid (hasMark zs = true) := hmk
    have h3 : 3 ≤ zs.length := by
      rcases Nat.lt_or_ge zs.length 3 with h | h
      · rw [hasMark_short h] at hmk; cases hmk
      · exact h
    clear hmk
    have hi : (3 : Int) ≤ (zs.length : Int) := by omega
    by_cases hc3 : cap = 3
    · subst hc3
      have hl3 : zs.length = 3 := by omega
      have HL : Hid (zs.length = 3) := hl3
      clear hl3
      go_enter Tryf.func21, Tryf.ntmps21
      go_wp2_with (first | (go_at_call 24; refine (hasPrefix_any zs g 3 m c _ H2.out H3.out H4.out hl hcap).mono ?_; rintro e wx ⟨rfl, hx⟩; obtain rfl := hx.symm; rw [HM.out]))
      go_ret
      have e : trim zs = [] := by simp [trim, HM.out, HL.out]
      exact ⟨0, 0, by rw [e]; simp [HL.out], by rw [e]; exact .inl rfl, rfl⟩
    go_enter Tryf.func21, Tryf.ntmps21
    go_wp2_with (first | (go_at_call 24; refine (hasPrefix_any zs g cap m c _ H2.out H3.out H4.out hl hcap).mono ?_; rintro e wx ⟨rfl, hx⟩; obtain rfl := hx.symm; rw [HM.out]))
    go_ret
    exact ⟨3, cap - 3, by simp [trim, HM.out], by have := H2.out.drop 3; simpa [trim, HM.out] using this, rfl⟩
end Go.Proofs.Qxb6609101aFmt
