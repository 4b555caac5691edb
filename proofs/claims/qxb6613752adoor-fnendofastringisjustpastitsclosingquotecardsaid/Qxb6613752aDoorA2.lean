/- The plain law of the eight bytes at a time: the lowest top bit set is that of the first quote or backslash. -/
import Derived.Test.Qxb6613752aDoorA1
namespace Go.Proofs.Qxb6613752aDoor

def val : List Nat → Nat
  | [] => 0
  | b :: r => b + 256 * val r

theorem byte_bit (a b i : Nat) (hb : b < 256) : (b + 256 * a).testBit i = if i < 8 then b.testBit i else a.testBit (i - 8) := by
  have := Nat.testBit_two_pow_mul_add a (i := 8) hb i
  rw [show b + 256 * a = 2 ^ 8 * a + b by omega]
  exact this
theorem xor_lt {b d : Nat} (hb : b < 256) (hd : d < 256) : b ^^^ d < 256 := Nat.xor_lt_two_pow (n := 8) hb hd
theorem and_lt {b d : Nat} (hd : d < 256) : b &&& d < 256 := Nat.and_lt_two_pow (n := 8) _ hd
theorem or_lt {b d : Nat} (hb : b < 256) (hd : d < 256) : b ||| d < 256 := Nat.or_lt_two_pow (n := 8) hb hd
theorem byte_xor (a b c d : Nat) (hb : b < 256) (hd : d < 256) : (b + 256 * a) ^^^ (d + 256 * c) = (b ^^^ d) + 256 * (a ^^^ c) := by
  apply Nat.eq_of_testBit_eq
  intro i
  rw [Nat.testBit_xor, byte_bit _ _ _ hb, byte_bit _ _ _ hd, byte_bit _ _ _ (xor_lt hb hd), Nat.testBit_xor, Nat.testBit_xor]
  split <;> rfl
theorem byte_and (a b c d : Nat) (hb : b < 256) (hd : d < 256) : (b + 256 * a) &&& (d + 256 * c) = (b &&& d) + 256 * (a &&& c) := by
  apply Nat.eq_of_testBit_eq
  intro i
  rw [Nat.testBit_and, byte_bit _ _ _ hb, byte_bit _ _ _ hd, byte_bit _ _ _ (and_lt hd), Nat.testBit_and, Nat.testBit_and]
  split <;> rfl
theorem byte_or (a b c d : Nat) (hb : b < 256) (hd : d < 256) : (b + 256 * a) ||| (d + 256 * c) = (b ||| d) + 256 * (a ||| c) := by
  apply Nat.eq_of_testBit_eq
  intro i
  rw [Nat.testBit_or, byte_bit _ _ _ hb, byte_bit _ _ _ hd, byte_bit _ _ _ (or_lt hb hd), Nat.testBit_or, Nat.testBit_or]
  split <;> rfl

def Bytes (L : List Nat) : Prop := ∀ b ∈ L, b < 256
theorem Bytes.head {b : Nat} {r : List Nat} (h : Bytes (b :: r)) : b < 256 := h b (by simp)
theorem Bytes.tail {b : Nat} {r : List Nat} (h : Bytes (b :: r)) : Bytes r := fun x hx => h x (by simp [hx])

/-- The borrow, byte for byte. -/
def subB : Nat → List Nat → List Nat
  | _, [] => []
  | c, b :: r => (b + 255 - c) % 256 :: subB (if b < 1 + c then 1 else 0) r
def borB : Nat → List Nat → Nat
  | c, [] => c
  | c, b :: r => borB (if b < 1 + c then 1 else 0) r
def eqB : Nat → List Nat → Nat
  | _, [] => 0
  | c, b :: r => ((((b + 255 - c) % 256) ^^^ (((b + 255 - c) % 256) &&& b)) &&& 128) + 256 * eqB (if b < 1 + c then 1 else 0) r

theorem val_lt (L : List Nat) (h : Bytes L) : val L < 256 ^ L.length := by
  induction L with
  | nil => simp [val]
  | cons b r ih =>
    have := ih h.tail
    have := h.head
    simp only [val, List.length_cons, Nat.pow_succ]
    omega
theorem eqB_lt (c : Nat) (L : List Nat) : eqB c L < 256 ^ L.length := by
  induction L generalizing c with
  | nil => simp [eqB]
  | cons b r ih =>
    have := ih (if b < 1 + c then 1 else 0)
    have : ((((b + 255 - c) % 256) ^^^ (((b + 255 - c) % 256) &&& b)) &&& 128) < 256 := and_lt (by decide)
    simp only [eqB, List.length_cons, Nat.pow_succ]
    omega
theorem subB_bytes (c : Nat) (L : List Nat) : Bytes (subB c L) := by
  induction L generalizing c with
  | nil => intro x hx; cases hx
  | cons b r ih =>
    intro x hx
    rcases List.mem_cons.1 hx with rfl | hx
    · omega
    · exact ih _ x hx
theorem subB_length (c : Nat) (L : List Nat) : (subB c L).length = L.length := by
  induction L generalizing c with
  | nil => rfl
  | cons b r ih => simp [subB, ih]
theorem borB_le (c : Nat) (L : List Nat) (hc : c ≤ 1) : borB c L ≤ 1 := by
  induction L generalizing c with
  | nil => exact hc
  | cons b r ih => exact ih _ (by split <;> omega)

theorem subB_val (c : Nat) (L : List Nat) (hc : c ≤ 1) (h : Bytes L) : val L + 256 ^ L.length * borB c L = val (subB c L) + val (List.replicate L.length 1) + c := by
  induction L generalizing c with
  | nil => simp [val, subB, borB]
  | cons b r ih =>
    have hb := h.head
    have e := ih (if b < 1 + c then 1 else 0) (by split <;> omega) h.tail
    simp only [val, subB, borB, List.length_cons, Nat.pow_succ, List.replicate_succ]
    rw [show 256 ^ r.length * 256 * borB (if b < 1 + c then 1 else 0) r = 256 * (256 ^ r.length * borB (if b < 1 + c then 1 else 0) r) by rw [Nat.mul_comm (256 ^ r.length) 256, Nat.mul_assoc]]
    generalize 256 ^ r.length * borB (if b < 1 + c then 1 else 0) r = Q at *
    by_cases hlt : b < 1 + c
    · rw [if_pos hlt] at e ⊢; omega
    · rw [if_neg hlt] at e ⊢; omega

theorem eqB_val (c : Nat) (L : List Nat) (h : Bytes L) : (val (subB c L) ^^^ (val (subB c L) &&& val L)) &&& val (List.replicate L.length 128) = eqB c L := by
  induction L generalizing c with
  | nil => simp [val, subB, eqB]
  | cons b r ih =>
    have hb := h.head
    simp only [val, subB, eqB, List.length_cons, List.replicate_succ]
    rw [byte_and _ _ _ _ (by omega) hb, byte_xor _ _ _ _ (by omega) (and_lt hb), byte_and _ _ _ _ (xor_lt (by omega) (and_lt hb)) (by decide), ih _ h.tail]

theorem xor_val (L : List Nat) (c : Nat) (hc : c < 256) (h : Bytes L) : val L ^^^ val (List.replicate L.length c) = val (L.map (· ^^^ c)) := by
  induction L with
  | nil => simp [val]
  | cons b r ih =>
    simp only [val, List.length_cons, List.replicate_succ, List.map_cons]
    rw [byte_xor _ _ _ _ h.head hc, ih h.tail]

theorem xor_bytes (L : List Nat) (c : Nat) (hc : c < 256) (h : Bytes L) : Bytes (L.map (· ^^^ c)) := by
  intro x hx
  obtain ⟨b, hb, rfl⟩ := List.mem_map.1 hx
  exact xor_lt (h b hb) hc

theorem no_match : ∀ x, x < 256 → x ≠ 0 → ((((x + 255 - 0) % 256) ^^^ (((x + 255 - 0) % 256) &&& x)) &&& 128) = 0 := by decide +kernel
theorem eqB_ne (b : Nat) (r : List Nat) (hb : b < 256) (h0 : b ≠ 0) : eqB 0 (b :: r) = 0 + 256 * eqB 0 r := by
  rw [eqB, no_match b hb h0, if_neg (by omega)]
theorem eqB_zero (r : List Nat) : eqB 0 (0 :: r) = 128 + 256 * eqB 1 r := rfl

/-- What both comparisons set. -/
def U (L : List Nat) : Nat := eqB 0 (L.map (· ^^^ 34)) ||| eqB 0 (L.map (· ^^^ 92))
theorem xor_ne {b c : Nat} (h : b ≠ c) : b ^^^ c ≠ 0 := by
  intro e
  have e2 : b ^^^ c ^^^ c = c := by rw [e, Nat.zero_xor]
  rw [Nat.xor_assoc, Nat.xor_self, Nat.xor_zero] at e2
  exact h e2
theorem U_plain (b : Nat) (r : List Nat) (hb : b < 256) (h1 : b ≠ 34) (h2 : b ≠ 92) : U (b :: r) = 256 * U r := by
  unfold U
  rw [List.map_cons, List.map_cons, eqB_ne _ _ (xor_lt hb (by decide)) (xor_ne h1), eqB_ne _ _ (xor_lt hb (by decide)) (xor_ne h2), byte_or _ _ _ _ (by decide) (by decide)]
  simp
theorem U_hit (b : Nat) (r : List Nat) (h : b = 34 ∨ b = 92) : ∃ k, U (b :: r) = 128 + 256 * k := by
  unfold U
  rw [List.map_cons, List.map_cons]
  rcases h with rfl | rfl
  · refine ⟨eqB 1 (r.map (· ^^^ 34)) ||| eqB 0 (r.map (· ^^^ 92)), ?_⟩
    rw [show (34 ^^^ 34 : Nat) = 0 by decide, eqB_zero, eqB_ne _ _ (by decide) (by decide), byte_or _ _ _ _ (by decide) (by decide)]
    rfl
  · refine ⟨eqB 0 (r.map (· ^^^ 34)) ||| eqB 1 (r.map (· ^^^ 92)), ?_⟩
    rw [show (92 ^^^ 92 : Nat) = 0 by decide, eqB_zero, eqB_ne _ _ (by decide) (by decide), byte_or _ _ _ _ (by decide) (by decide)]
    rfl

theorem ctz_up (f y : Nat) : Lib.ctzFrom (f + 8) (256 * y) = 8 + Lib.ctzFrom f y := by
  have st : ∀ g z, Lib.ctzFrom (g + 1) (2 * z) = 1 + Lib.ctzFrom g z := by
    intro g z
    rw [Lib.ctzFrom, if_neg (by omega), show 2 * z / 2 = z by omega]
  rw [show 256 * y = 2 * (2 * (2 * (2 * (2 * (2 * (2 * (2 * y))))))) by omega]
  rw [st (f + 7), st (f + 6), st (f + 5), st (f + 4), st (f + 3), st (f + 2), st (f + 1), st f]
  omega
theorem ctz_hit (f k : Nat) : Lib.ctzFrom (f + 8) (128 + 256 * k) = 7 := by
  have st : ∀ g z, Lib.ctzFrom (g + 1) (2 * z) = 1 + Lib.ctzFrom g z := by
    intro g z
    rw [Lib.ctzFrom, if_neg (by omega), show 2 * z / 2 = z by omega]
  rw [show 128 + 256 * k = 2 * (2 * (2 * (2 * (2 * (2 * (2 * (1 + 2 * k))))))) by omega]
  rw [st (f + 7), st (f + 6), st (f + 5), st (f + 4), st (f + 3), st (f + 2), st (f + 1), Lib.ctzFrom, if_pos (by omega)]

def Plain (b : Nat) : Prop := b ≠ 34 ∧ b ≠ 92

theorem U_none (L : List Nat) (h : Bytes L) (h0 : U L = 0) : ∀ b ∈ L, Plain b := by
  induction L with
  | nil => intro b hb; cases hb
  | cons b r ih =>
    by_cases hs : b = 34 ∨ b = 92
    · obtain ⟨k, hk⟩ := U_hit b r hs
      omega
    · have hp : Plain b := ⟨fun e => hs (.inl e), fun e => hs (.inr e)⟩
      have e := U_plain b r h.head hp.1 hp.2
      intro x hx
      rcases List.mem_cons.1 hx with rfl | hx
      · exact hp
      · exact ih h.tail (by omega) x hx

theorem U_first (L : List Nat) (h : Bytes L) (h0 : U L ≠ 0) : Lib.ctzFrom (8 * L.length) (U L) / 8 < L.length ∧ ∀ i (_ : i < Lib.ctzFrom (8 * L.length) (U L) / 8) (hi : i < L.length), Plain L[i] := by
  induction L with
  | nil => exact absurd rfl h0
  | cons b r ih =>
    change Lib.ctzFrom (8 * r.length + 8) (U (b :: r)) / 8 < r.length + 1 ∧ ∀ i (_ : i < Lib.ctzFrom (8 * r.length + 8) (U (b :: r)) / 8) (hi : i < (b :: r).length), Plain (b :: r)[i]
    by_cases hs : b = 34 ∨ b = 92
    · obtain ⟨k, hk⟩ := U_hit b r hs
      rw [hk, ctz_hit]
      exact ⟨by omega, fun i hi => absurd hi (by omega)⟩
    · have hp : Plain b := ⟨fun e => hs (.inl e), fun e => hs (.inr e)⟩
      have e := U_plain b r h.head hp.1 hp.2
      have := ih h.tail (by intro e'; rw [e'] at e; exact h0 e)
      rw [e, ctz_up]
      refine ⟨by omega, fun i hi hi' => ?_⟩
      cases i with
      | zero => exact hp
      | succ i => exact this.2 i (by omega) (by simpa using hi')
end Go.Proofs.Qxb6613752aDoor
