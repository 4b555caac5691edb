/- FnLowerKeepsTheLeastDepthOfEachBlock: what the walk leans on: the clone whatever came in; rows of ints. -/
import Derived.Test.Qxb6613752aA5
namespace Go.Proofs.Qxb6613752a
open Go.RowKit

/-- The ints of a slice that came in. -/
def IntsAt (w : World) (a : Option Addr) (zs : List Int) : Prop :=
  zs = [] ∨ ∃ b off, a = some ⟨b, off, none⟩ ∧ b < w.heap.size ∧ ∀ i (h : i < zs.length), w.cell? ⟨b, off + i, none⟩ = some (.int .i64 zs[i])
def Wf64 (zs : List Int) : Prop := ∀ z ∈ zs, -9223372036854775808 ≤ z ∧ z ≤ 9223372036854775807

theorem clone_any (zs : List Int) (a : Option Addr) (cap : Nat) (w : World) (hm : zs.length ≤ 10000000) (hn : a = none → zs.length = 0) (ho : BytesAt w a zs) :
    Calls Try.prog 6 #[.slice a zs.length cap] w fun e w' => ∃ a', e = .returned (.slice a' zs.length zs.length) ∧ (0 < zs.length → a' = some ⟨w.heap.size, 0, none⟩ ∧ OwnB w' w.heap.size zs.length zs) ∧ BytesAt w' a' zs ∧ (a' = none → zs.length = 0) ∧ Below w.heap.size w w' := by
  cases a with
  | none =>
    have hos : zs = [] := List.eq_nil_of_length_eq_zero (hn rfl)
    subst hos
    refine (clone_nil cap w).mono ?_
    rintro e w' ⟨rfl, rfl⟩
    exact ⟨none, rfl, (fun h => by simp at h), .inl rfl, (fun _ => rfl), Below.refl _ _⟩
  | some ad =>
    refine (clone_some zs ad cap w hm ho).mono ?_
    rintro e w' ⟨rfl, hown, hb⟩
    exact ⟨_, rfl, (fun _ => ⟨rfl, hown⟩), hown.bytes, (fun h => by cases h), hb⟩
end Go.Proofs.Qxb6613752a
