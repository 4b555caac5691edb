/- The slice of bytes opened. -/
import Derived.Test.Qxb6609101aDoorC1
import Derived.Test.Qxb6609101aDoorB3
namespace Go.Proofs.Qxb6609101aDoor
open Go.ChangeShapes Go.WideShapes Go.ChangeAt Go.RowKit

theorem open_bytes {H : Type} {enc : TypeId × Value → H} {W : World} {held : Bool} {n : Nat} {a : Option Addr} {len cap : Nat} {x : DataW H × List MemPlace}
    (h : DataW.trod enc Tryd.prog W 0 (fun _ => true) held n 31 [.slice a len cap] = some x) :
    ∃ zs : List Int, zs.length = len ∧ BytesAt W a zs ∧ Wf zs ∧ (a = none → len = 0) ∧ len ≤ 9223372036854775807 := by
  rcases open_ints Tryd.underlying31 Tryd.underlying5 (by kernel_rfl) h with ⟨hcs, _⟩ | ⟨ad, l, c, zs, hcs, _, hl, hm, hz, _, hcell, hwz⟩
  · simp at hcs
    obtain ⟨rfl, rfl, rfl⟩ := hcs
    exact ⟨[], rfl, .inl rfl, (fun z hz => by cases hz), (fun _ => rfl), by omega⟩
  · simp at hcs
    obtain ⟨rfl, rfl, rfl⟩ := hcs
    unfold maxLen at hm
    simp at hz
    refine ⟨zs.take len, by simp; omega, ?_, ?_, (fun h => by simp at h), by omega⟩
    · by_cases h0 : len = 0
      · subst h0; exact .inl (by simp)
      · right
        have hc0 := hcell 0 (by omega)
        obtain ⟨b, off, spot⟩ := ad
        have hsp : spot = none := by
          simp [Addr.add, World.cell?] at hc0
          cases spot with
          | none => rfl
          | some s => split at hc0 <;> simp at hc0
        subst hsp
        have had : ∀ t, (⟨b, off, none⟩ : Addr).add t = ⟨b, off + t, none⟩ := fun t => by unfold Addr.add; split <;> simp_all
        refine ⟨b, off, rfl, ?_, fun i hi => ?_⟩
        · rw [had] at hc0
          exact World.block_lt_of_cell? W _ hc0
        · have hi' : i < zs.length := by simp at hi; omega
          have := hcell i hi'
          rw [had] at this
          rw [this]
          simp [List.getD, hi']
    · intro z hz'
      exact bounds_u8 (hwz z (List.mem_of_mem_take hz'))
end Go.Proofs.Qxb6609101aDoor
