/- FnLowerKeepsTheLeastDepthOfEachBlock: what the flag of the last loop says. -/
import Derived.Test.Qxb6613752aA9
namespace Go.Proofs.Qxb6613752a

theorem zip_mem (os ds : List Int) (k : Nat) (h1 : k < os.length) (h2 : k < ds.length) : (os[k], ds[k]) ∈ os.zip ds := by
  rw [← List.getElem_zip (h := by simp; omega)]
  exact List.getElem_mem _

/-- The flag is set if the entry is one of those met. -/
def Hitted (nb j : Nat) (t z : Int) (L : List (Int × Int)) (h : Bool) : Prop := (t = z ∨ ∃ p ∈ L, hits p nb j = true ∧ t = IntKind.u16.wrap p.2) → h = true

theorem Hitted.start {nb j : Nat} {t z : Int} {L : List (Int × Int)} {h : Bool} (e : (t == z) = h) : Hitted nb j t z (L.take 0) h := by
  rintro (rfl | ⟨p, hp, _⟩)
  · rw [← e]; simp
  · simp at hp

theorem Hitted.skip {nb j : Nat} {t z : Int} {L : List (Int × Int)} {h : Bool} (hH : Hitted nb j t z L h) (p : Int × Int) (hp : hits p nb j = true → t ≠ IntKind.u16.wrap p.2) : Hitted nb j t z (L ++ [p]) h := by
  rintro (e | ⟨q, hq, h1, h2⟩)
  · exact hH (.inl e)
  · rcases List.mem_append.1 hq with hq | hq
    · exact hH (.inr ⟨q, hq, h1, h2⟩)
    · obtain rfl := List.mem_singleton.1 hq
      exact absurd h2 (hp h1)

theorem Hitted.yes {nb j : Nat} {t z : Int} {L : List (Int × Int)} : Hitted nb j t z L true := fun _ => rfl

theorem Hitted.all {nb j k : Nat} {t z : Int} {L : List (Int × Int)} {h : Bool} (hH : Hitted nb j t z (L.take k) h) (hk : L.length ≤ k) (ht : t = low nb j z L) : h = true := by
  rw [List.take_of_length_le hk] at hH
  rcases low_one nb j z L with e | ⟨p, hp, h1, h2⟩
  · exact hH (.inl (ht.trans e))
  · exact hH (.inr ⟨p, hp, h1, ht.trans h2⟩)
end Go.Proofs.Qxb6613752a
