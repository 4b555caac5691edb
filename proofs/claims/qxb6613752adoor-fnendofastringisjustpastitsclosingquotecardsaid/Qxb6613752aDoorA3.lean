/- The words' functions in numbers; the scan, a byte at a time. -/
import Derived.Test.Qxb6613752aDoorA2
namespace Go.Proofs.Qxb6613752aDoor

theorem bits_andNot_u64_nat (a b : Nat) (ha : a < 18446744073709551616) (hb : b < 18446744073709551616) : bits .andNot .u64 (a : Int) (b : Int) = ((a ^^^ (a &&& b) : Nat) : Int) := by
  have hx : a ^^^ (a &&& b) < 2 ^ 64 := Nat.xor_lt_two_pow (by omega) (Nat.and_lt_two_pow _ (by omega))
  have h1 : (BitVec.ofInt 64 (a : Int)).toNat = a := by
    rw [BitVec.ofInt_natCast, BitVec.toNat_ofNat]; exact Nat.mod_eq_of_lt (by omega)
  have h2 : (BitVec.ofInt 64 (b : Int)).toNat = b := by
    rw [BitVec.ofInt_natCast, BitVec.toNat_ofNat]; exact Nat.mod_eq_of_lt (by omega)
  have e : ∀ A B : BitVec 64, A &&& ~~~B = A ^^^ (A &&& B) := by
    intro A B
    apply BitVec.eq_of_getLsbD_eq
    intro i hi
    simp only [BitVec.getLsbD_and, BitVec.getLsbD_not, BitVec.getLsbD_xor, hi, decide_true, Bool.true_and]
    cases A.getLsbD i <;> cases B.getLsbD i <;> rfl
  show IntKind.u64.wrap ((BitVec.ofInt 64 (a : Int) &&& ~~~(BitVec.ofInt 64 (b : Int))).toNat : Int) = _
  rw [e, BitVec.toNat_xor, BitVec.toNat_and, h1, h2, IntKind.wrap_u64]
  omega

theorem val8 (L : List Nat) (h8 : L.length = 8) (h : Bytes L) : val L < 18446744073709551616 := by
  have := val_lt L h
  rw [h8] at this
  exact this

theorem rep_val (c : Nat) : val (List.replicate 8 c) = 72340172838076673 * c := by
  simp only [List.replicate, val]
  omega

theorem eqV_val (L : List Nat) (h8 : L.length = 8) (h : Bytes L) (c : Nat) (hc : c < 256) : eqV (val L) c = (eqB 0 (L.map (· ^^^ c)) : Nat) := by
  have hX : eqX (val L) c = (val (L.map (· ^^^ c)) : Nat) := by
    unfold eqX
    rw [show (72340172838076673 * (c : Int)) = ((72340172838076673 * c : Nat) : Int) by simp, bits_xor_u64_nat _ _ (val8 L h8 h) (by omega), ← rep_val, ← h8, xor_val L c hc h]
  have hb := xor_bytes L c hc h
  have hl : (L.map (· ^^^ c)).length = 8 := by simp [h8]
  generalize L.map (· ^^^ c) = X at *
  have hv := val8 X hl hb
  have hs := val8 (subB 0 X) (by rw [subB_length, hl]) (subB_bytes 0 X)
  have e := subB_val 0 X (by decide) hb
  have hbo := borB_le 0 X (by decide)
  rw [hl, rep_val] at e
  have hS : IntKind.u64.wrap ((val X : Int) - 72340172838076673) = (val (subB 0 X) : Nat) := by
    rw [IntKind.wrap_u64]
    rcases Nat.le_one_iff_eq_zero_or_eq_one.1 hbo with h0 | h0 <;> rw [h0] at e <;> omega
  unfold eqV
  rw [hX, hS, bits_andNot_u64_nat _ _ hs hv]
  rw [show (9259542123273814144 : Int) = ((9259542123273814144 : Nat) : Int) by rfl, bits_and_u64_nat _ _ (Nat.xor_lt_two_pow (n := 64) hs (Nat.and_lt_two_pow _ hv)) (by decide)]
  rw [← eqB_val 0 X hb, hl, rep_val]

theorem quote_val (L : List Nat) (h8 : L.length = 8) (h : Bytes L) : bits .or .u64 (eqV (val L) 34) (eqV (val L) 92) = (U L : Nat) ∧ U L < 18446744073709551616 := by
  have l1 := eqB_lt 0 (L.map (· ^^^ 34))
  have l2 := eqB_lt 0 (L.map (· ^^^ 92))
  rw [List.length_map, h8] at l1 l2
  have e1 := eqV_val L h8 h 34 (by decide)
  have e2 := eqV_val L h8 h 92 (by decide)
  have e1' : eqV (val L) 34 = (eqB 0 (L.map (· ^^^ 34)) : Nat) := e1
  have e2' : eqV (val L) 92 = (eqB 0 (L.map (· ^^^ 92)) : Nat) := e2
  rw [e1', e2', bits_or_u64_nat _ _ l1 l2]
  exact ⟨rfl, Nat.or_lt_two_pow (n := 64) l1 l2⟩

theorem leZ_val (zs : List Int) (h : ∀ z ∈ zs, 0 ≤ z) : Lib.leZ zs = (val (zs.map Int.toNat) : Nat) := by
  induction zs with
  | nil => rfl
  | cons z r ih =>
    have := ih (fun x hx => h x (by simp [hx]))
    have := h z (by simp)
    simp only [Lib.leZ, List.map_cons, val]
    omega

/-- The bytes of a text. -/
def Wf8 (zs : List Int) : Prop := ∀ z ∈ zs, 0 ≤ z ∧ z ≤ 255

/-- The scan, a byte at a time: the quote that closes, and whether an escape came before. -/
def scan (zs : List Int) (i : Nat) (esc : Bool) : Option (Nat × Bool) :=
  if _ : i < zs.length then
    if zs.getD i 0 = 34 then some (i, esc)
    else if zs.getD i 0 = 92 then scan zs (i + 2) true
    else scan zs (i + 1) esc
  else none
termination_by zs.length - i

theorem scan_end (zs : List Int) (i : Nat) (esc : Bool) (h : ¬ i < zs.length) : scan zs i esc = none := by rw [scan, dif_neg h]
theorem scan_quote (zs : List Int) (i : Nat) (esc : Bool) (h : i < zs.length) (h1 : zs.getD i 0 = 34) : scan zs i esc = some (i, esc) := by rw [scan, dif_pos h, if_pos h1]
theorem scan_esc (zs : List Int) (i : Nat) (esc : Bool) (h : i < zs.length) (h1 : zs.getD i 0 = 92) : scan zs i esc = scan zs (i + 2) true := by rw [scan, dif_pos h, if_neg (by omega), if_pos h1]
theorem scan_plain (zs : List Int) (i : Nat) (esc : Bool) (h : i < zs.length) (h1 : zs.getD i 0 ≠ 34) (h2 : zs.getD i 0 ≠ 92) : scan zs i esc = scan zs (i + 1) esc := by rw [scan, dif_pos h, if_neg h1, if_neg h2]

theorem scan_skip (zs : List Int) (i p : Nat) (esc : Bool) (hp : i + p ≤ zs.length) (h : ∀ j, j < p → zs.getD (i + j) 0 ≠ 34 ∧ zs.getD (i + j) 0 ≠ 92) : scan zs i esc = scan zs (i + p) esc := by
  induction p with
  | zero => rfl
  | succ p ih =>
    rw [ih (by omega) (fun j hj => h j (by omega)), scan_plain zs (i + p) esc (by omega) (h p (by omega)).1 (h p (by omega)).2]
    rfl

theorem scan_lt (zs : List Int) (i : Nat) (esc : Bool) (q : Nat) (e : Bool) (h : scan zs i esc = some (q, e)) : q < zs.length := by
  induction hn : zs.length - i using Nat.strongRecOn generalizing i esc with
  | _ n ih =>
    rw [scan] at h
    split at h
    · next hlt =>
      split at h
      · simp at h; omega
      · split at h
        · exact ih _ (by omega) (i + 2) true h rfl
        · exact ih _ (by omega) (i + 1) esc h rfl
    · cases h

/-- The eight bytes from i. -/
def word (zs : List Int) (i : Nat) : List Nat := ((zs.drop i).take 8).map Int.toNat
theorem word_len (zs : List Int) (i : Nat) (h : i + 8 ≤ zs.length) : (word zs i).length = 8 := by simp [word]; omega
theorem word_bytes (zs : List Int) (i : Nat) (h : Wf8 zs) : Bytes (word zs i) := by
  intro b hb
  obtain ⟨z, hz, rfl⟩ := List.mem_map.1 hb
  have := h z (List.mem_of_mem_drop (List.mem_of_mem_take hz))
  omega
theorem word_val (zs : List Int) (i : Nat) (h : Wf8 zs) : Lib.leZ ((zs.drop i).take 8) = (val (word zs i) : Nat) :=
  leZ_val _ (fun z hz => (h z (List.mem_of_mem_drop (List.mem_of_mem_take hz))).1)
theorem word_at (zs : List Int) (i j : Nat) (h : Wf8 zs) (hi : i + 8 ≤ zs.length) (hj : j < (word zs i).length) : zs.getD (i + j) 0 = ((word zs i)[j] : Nat) := by
  have hj8 : j < 8 := by rw [word_len zs i hi] at hj; exact hj
  have hlt : i + j < zs.length := by omega
  have h0 := h zs[i + j] (List.getElem_mem _)
  simp only [word, List.getElem_map, List.getElem_take, List.getElem_drop]
  rw [List.getD_eq_getElem?_getD, List.getElem?_eq_getElem hlt]
  simp only [Option.getD_some]
  omega

/-- No quote, no backslash among the eight. -/
theorem scan_word (zs : List Int) (i : Nat) (esc : Bool) (h : Wf8 zs) (hi : i + 8 ≤ zs.length) (h0 : U (word zs i) = 0) : scan zs i esc = scan zs (i + 8) esc := by
  refine scan_skip zs i 8 esc hi (fun j hj => ?_)
  have hjl : j < (word zs i).length := by rw [word_len zs i hi]; exact hj
  have hp := U_none _ (word_bytes zs i h) h0 (word zs i)[j] (List.getElem_mem _)
  rw [word_at zs i j h hi hjl]
  exact ⟨by have := hp.1; omega, by have := hp.2; omega⟩

/-- The first of them. -/
theorem scan_first (zs : List Int) (i : Nat) (esc : Bool) (h : Wf8 zs) (hi : i + 8 ≤ zs.length) (h0 : U (word zs i) ≠ 0) :
    Lib.ctz 64 (U (word zs i)) / 8 < 8 ∧ scan zs i esc = scan zs (i + Lib.ctz 64 (U (word zs i)) / 8) esc := by
  have hf := U_first _ (word_bytes zs i h) h0
  have hl := word_len zs i hi
  have e : Lib.ctz 64 (U (word zs i)) = Lib.ctzFrom (8 * (word zs i).length) (U (word zs i)) := by rw [Lib.ctz, if_neg h0, hl]
  rw [e]
  generalize Lib.ctzFrom (8 * (word zs i).length) (U (word zs i)) / 8 = p at *
  refine ⟨by omega, scan_skip zs i p esc (by omega) (fun j hj => ?_)⟩
  have hp := hf.2 j hj (by omega)
  rw [word_at zs i j h hi (by omega)]
  exact ⟨by have := hp.1; omega, by have := hp.2; omega⟩
end Go.Proofs.Qxb6613752aDoor
