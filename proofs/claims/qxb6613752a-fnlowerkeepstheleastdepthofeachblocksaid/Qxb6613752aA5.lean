/- FnLowerKeepsTheLeastDepthOfEachBlock: the plain law: lowering in order and in reverse. -/
import Derived.Test.Qxb6613752aA4
namespace Go.Proofs.Qxb6613752a

/-- One lowering: offset and depth. -/
def hits (p : Int × Int) (nb j : Nat) : Bool := inB p.1 nb && decide (p.1 / 64 = (j : Int))
def step (zs : List Int) (p : Int × Int) : List Int := if inB p.1 zs.length then zs.set (p.1 / 64).toNat (lowV (zs.getD (p.1 / 64).toNat 0) p.2) else zs
def lows (zs : List Int) (L : List (Int × Int)) : List Int := L.foldl step zs
/-- What one entry becomes. -/
def low (nb j : Nat) (z : Int) (L : List (Int × Int)) : Int := L.foldl (fun z p => if hits p nb j then lowV z p.2 else z) z

theorem step_length (zs : List Int) (p : Int × Int) : (step zs p).length = zs.length := by
  unfold step
  split <;> simp
theorem lows_length (zs : List Int) (L : List (Int × Int)) : (lows zs L).length = zs.length := by
  unfold lows
  induction L generalizing zs with
  | nil => rfl
  | cons p L ih => rw [List.foldl_cons, ih, step_length]

theorem step_at (zs : List Int) (p : Int × Int) (j : Nat) (hj : j < zs.length) : (step zs p).getD j 0 = if hits p zs.length j then lowV (zs.getD j 0) p.2 else zs.getD j 0 := by
  unfold step hits
  cases hb : inB p.1 zs.length
  · simp
  · simp only [inB, Bool.and_eq_true, decide_eq_true_eq] at hb
    by_cases he : p.1 / 64 = (j : Int)
    · have : (p.1 / 64).toNat = j := by omega
      simp [he, hj, List.getD]
    · have : (p.1 / 64).toNat ≠ j := by omega
      simp [he, List.getD, this]

theorem lows_at (zs : List Int) (L : List (Int × Int)) (j : Nat) (hj : j < zs.length) : (lows zs L).getD j 0 = low zs.length j (zs.getD j 0) L := by
  unfold lows low
  induction L generalizing zs with
  | nil => rfl
  | cons p L ih =>
    rw [List.foldl_cons, List.foldl_cons, ih (step zs p) (by rw [step_length]; exact hj), step_length, step_at zs p j hj]

theorem lowV_comm (z a b : Int) : lowV (lowV z a) b = lowV (lowV z b) a := by
  unfold lowV
  generalize IntKind.u16.wrap a = x
  generalize IntKind.u16.wrap b = y
  repeat' split
  all_goals omega

theorem low_rev (nb j : Nat) (z : Int) (L : List (Int × Int)) : low nb j z L.reverse = low nb j z L := by
  unfold low
  rw [List.foldl_reverse]
  have comm : ∀ (p q : Int × Int) (z : Int), (if hits p nb j then lowV (if hits q nb j then lowV z q.2 else z) p.2 else (if hits q nb j then lowV z q.2 else z)) = (if hits q nb j then lowV (if hits p nb j then lowV z p.2 else z) q.2 else (if hits p nb j then lowV z p.2 else z)) := by
    intro p q z
    by_cases h1 : hits p nb j <;> by_cases h2 : hits q nb j <;> simp [h1, h2, lowV_comm]
  induction L generalizing z with
  | nil => rfl
  | cons p L ih =>
    rw [List.foldr_cons, List.foldl_cons, ← ih]
    clear ih
    induction L with
    | nil => rfl
    | cons q L ih => rw [List.foldr_cons, comm, ih, List.foldr_cons]

theorem low_le (nb j : Nat) (z : Int) (L : List (Int × Int)) : low nb j z L ≤ z := by
  unfold low
  induction L generalizing z with
  | nil => exact Int.le_refl _
  | cons p L ih =>
    rw [List.foldl_cons]
    refine Int.le_trans (ih _) ?_
    split
    · unfold lowV; split <;> omega
    · exact Int.le_refl _

theorem low_le_hit (nb j : Nat) (z : Int) (L : List (Int × Int)) (p : Int × Int) (hp : p ∈ L) (hh : hits p nb j = true) : low nb j z L ≤ IntKind.u16.wrap p.2 := by
  induction L generalizing z with
  | nil => cases hp
  | cons q L ih =>
    rcases List.mem_cons.1 hp with rfl | hp
    · unfold low
      rw [List.foldl_cons, if_pos hh]
      refine Int.le_trans (low_le nb j _ L) ?_
      unfold lowV; split <;> omega
    · exact ih _ hp

theorem low_one (nb j : Nat) (z : Int) (L : List (Int × Int)) : low nb j z L = z ∨ ∃ p ∈ L, hits p nb j = true ∧ low nb j z L = IntKind.u16.wrap p.2 := by
  induction L generalizing z with
  | nil => exact .inl rfl
  | cons q L ih =>
    have e : low nb j z (q :: L) = low nb j (if hits q nb j then lowV z q.2 else z) L := rfl
    rcases ih (if hits q nb j then lowV z q.2 else z) with h | ⟨p, hp, h1, h2⟩
    · rw [e, h]
      by_cases hq : hits q nb j = true
      · rw [if_pos hq]
        unfold lowV
        split
        · exact .inr ⟨q, by simp, hq, rfl⟩
        · exact .inl rfl
      · rw [if_neg hq]; exact .inl rfl
    · exact .inr ⟨p, List.mem_cons_of_mem _ hp, h1, by rw [e]; exact h2⟩
end Go.Proofs.Qxb6613752a
