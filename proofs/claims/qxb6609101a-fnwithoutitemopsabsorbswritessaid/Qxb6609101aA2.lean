import Derived.Test.Qxb6609101aA1
namespace Go.Proofs.Qxb6609101a
open Go.RowKit

def Good (g : FuncId) (p : ByteArray → Bool) : Prop := (g = 7 ∧ p = isW) ∨ (g = 8 ∧ p = hasI)

theorem clo_any {g : FuncId} {p : ByteArray → Bool} (hg : Good g p) (k it : ByteArray) (t l c v : Int) (b : Nat) (w : World) (hlt : b < w.heap.size) (hb : w.cell? ⟨b, 0, none⟩ = some (.func (.func g) #[] #[])) :
    Calls Try.prog 13 #[.agg #[.string k, .int .i64 t, .string it, .int .i64 l, .int .i64 c, .int .i64 v], .pointer (some ⟨b, 0, none⟩)] w fun e w' => e = .returned (.bool (p k)) ∧ Below w.heap.size w w' := by
  rcases hg with ⟨rfl, rfl⟩ | ⟨rfl, rfl⟩
  · exact clo7_any k it t l c v b w hlt hb
  · exact clo8_any k it t l c v b w hlt hb

/-- The operations of a slice in memory, six cells each. -/
def OpsAt (w : World) (a : Option Addr) (os : List OpV) : Prop :=
  os = [] ∨ ∃ b off, a = some ⟨b, off, none⟩ ∧ b < w.heap.size ∧ ∀ i (h : i < os.length),
    w.cell? ⟨b, off + i * 6, none⟩ = some (.string os[i].k) ∧ w.cell? ⟨b, off + i * 6 + 1, none⟩ = some (.int .i64 os[i].t) ∧ w.cell? ⟨b, off + i * 6 + 2, none⟩ = some (.string os[i].it) ∧
    w.cell? ⟨b, off + i * 6 + 3, none⟩ = some (.int .i64 os[i].l) ∧ w.cell? ⟨b, off + i * 6 + 4, none⟩ = some (.int .i64 os[i].c) ∧ w.cell? ⟨b, off + i * 6 + 5, none⟩ = some (.int .i64 0)

theorem OpsAt.below {w w' : World} {a : Option Addr} {os : List OpV} (h : OpsAt w a os) (hb : Below w.heap.size w w') : OpsAt w' a os := by
  rcases h with h | ⟨b, off, ha, hlt, h⟩
  · exact .inl h
  · refine .inr ⟨b, off, ha, Nat.lt_of_lt_of_le hlt hb.size, fun i hi => ?_⟩
    have e : ∀ o, w'.cell? ⟨b, o, none⟩ = w.cell? ⟨b, o, none⟩ := fun o => hb.cell hlt
    simp only [e]
    exact h i hi

def idx (p : ByteArray → Bool) (os : List OpV) : Int := match os.findIdx? (fun o => p o.k) with | some i => (i : Int) | none => -1
theorem idx_hit {p : ByteArray → Bool} {os : List OpV} {k : Nat} (hk : k < os.length) (hno : ∀ j (_ : j < k) (h' : j < os.length), p os[j].k = false) (hp : p os[k].k = true) : idx p os = k := by
  unfold idx
  rw [List.findIdx?_eq_some_iff_getElem.2 ⟨hk, hp, fun j hj => by have := hno j hj (by omega); simpa using this⟩]
theorem idx_none {p : ByteArray → Bool} {os : List OpV} (hno : ∀ j (h' : j < os.length), p os[j].k = false) : idx p os = -1 := by
  unfold idx
  rw [List.findIdx?_eq_none_iff.2 (fun o ho => by obtain ⟨j, hj, rfl⟩ := List.getElem_of_mem ho; exact hno j hj)]
theorem ret_int {k : IntKind} {a b : Int} (h : a = b) : Ending.returned (.int k a) = .returned (.int k b) := by rw [h]
theorem ret_bool {a b : Bool} (h : a = b) : Ending.returned (.bool a) = .returned (.bool b) := by rw [h]

set_option maxHeartbeats 400000 in
theorem index_any {g : FuncId} {p : ByteArray → Bool} (hg : Good g p) (os : List OpV) (a : Option Addr) (cap fb : Nat) (w : World) (hm : os.length ≤ 1000000) (ho : OpsAt w a os) (hf : w.cell? ⟨fb, 0, none⟩ = some (.func (.func g) #[] #[])) (hfb : fb < w.heap.size) :
    Calls Try.prog 19 #[.slice a os.length cap, .func (.func 13) #[] #[.pointer (some ⟨fb, 0, none⟩)]] w fun e w' => e = .returned (.int .i64 (idx p os)) ∧ Below w.heap.size w w' := by
  go_enter Try.func19, Try.ntmps19
  go_wp2
  go_loopw [8, 5] (fun i _ wr => ∃ k : Nat, k ≤ os.length ∧ i = .int .i64 k ∧ (∀ j (h : j < k) (h' : j < os.length), p os[j].k = false) ∧ Below w.heap.size w wr) (fun i _ _ => os.length - (intOf i).toNat)
  case atStart => exact ⟨0, Nat.zero_le _, rfl, fun j h => by omega, Below.refl _ _⟩
  case round =>
    obtain ⟨k, hk, rfl, hno, hbel⟩ := hrel
    have Hno : Hid (∀ j (h : j < k) (h' : j < os.length), p os[j].k = false) := hno
    clear hno
    by_cases hlt : k < os.length
    · rcases ho with ho | ⟨b, off, rfl, hb, ho⟩
      · subst ho; simp at hlt
      · have e : ∀ o, wr.cell? ⟨b, o, none⟩ = w.cell? ⟨b, o, none⟩ := fun o => hbel.cell hb
        obtain ⟨c0, c1, c2, c3, c4, c5⟩ := ho k hlt
        rw [← e] at c0 c1 c2 c3 c4 c5
        have hf' : wr.cell? ⟨fb, 0, none⟩ = some (.func (.func g) #[] #[]) := by rw [hbel.cell (p := ⟨fb, 0, none⟩) hfb]; exact hf
        have hfb' : fb < wr.heap.size := Nat.lt_of_lt_of_le hfb hbel.size
        have hb' : b < wr.heap.size := Nat.lt_of_lt_of_le hb hbel.size
        clear e ho hf hfb hb
        go_wp2_with fail
        refine (clo_any hg _ _ _ _ _ _ _ _ hfb' hf').mono ?_
        rintro e w1 ⟨rfl, hb1⟩
        have hb2 := hbel.trans (hb1.mono hbel.size)
        clear c0 c1 c2 c3 c4 c5 hf' hfb' hb' hbel hb1
        cases hp : p os[k].k
        · have Hp : Hid (p os[k].k = false) := hp
          clear hp
          go_wp2
          go_roundw
          case rel =>
            refine ⟨k + 1, by omega, by go_num, fun j hj h' => ?_, hb2⟩
            by_cases e : j = k
            · subst e; exact Hp.out
            · exact Hno.out j (by omega) h'
          case measure => simp [intOf]; omega
        · have Hp : Hid (p os[k].k = true) := hp
          clear hp
          go_wp2
          go_ret
          exact ⟨ret_int (idx_hit hlt Hno.out Hp.out).symm, hb2⟩
    · go_wp2
      go_ret
      exact ⟨ret_int (idx_none (fun j h' => Hno.out j (by omega) h')).symm, hbel⟩
end Go.Proofs.Qxb6609101a
