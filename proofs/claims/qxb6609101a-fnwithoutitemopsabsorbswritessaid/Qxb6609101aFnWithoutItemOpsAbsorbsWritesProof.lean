/- The row of FnWithoutItemOpsAbsorbsWrites: the argument opened, the walk, the argument read again. -/
import Derived.Test.Qxb6609101aB1
import Derived.ProofKit
import Derived.OpenShut
import Derived.ShutString
import Derived.ChangeOld
import Derived.Below
import Derived.Deep.Slices
namespace Go.Proofs.Qxb6609101a.fnWithoutItemOpsAbsorbsWrites
open Go.ChangeShapes Go.WideShapes Go.ChangeAt Go.RowKit
open Go.Deep (open_slice choose_lt)
set_option linter.unusedVariables false

theorem own : ownKnob Try.prog.godebug = none := by kernel_rfl
theorem laidOut : laidOutB Try.prog = true := by kernel_rfl
theorem cells25 : Try.prog.cellsOf 25 = 5 := by kernel_rfl
theorem cells9 : Try.prog.cellsOf 9 = 1 := by kernel_rfl
theorem cells3 : Try.prog.cellsOf 3 = 1 := by kernel_rfl

/-- One operation that came in, read as a datum: its five cells. -/
theorem open_op {H : Type} {enc : TypeId × Value → H} {W : World} {base : Nat} {spare : Nat → Bool} {held : Bool} {n : Nat} {cs : List Value} {x : DataW H × List MemPlace}
    (h : DataW.trod enc Try.prog W base spare held n 25 cs = some x) : ∃ o : OpV, cs = o.cells5 := by
  obtain ⟨xs, m, _, _, hl, hlen, hf⟩ := DataW.trod_struct Try.underlying25 h
  rw [cells25] at hl
  simp only [List.size_toArray, List.length_cons, List.length_nil] at hlen
  match cs, hl with
  | [c0, c1, c2, c3, c4], _ =>
    have f0 : DataW.trod enc Try.prog W base spare held m 9 (([c0, c1, c2, c3, c4].drop 0).take (Try.prog.cellsOf 9)) = xs[0]? := hf 0 _ rfl
    rw [cells9] at f0
    have f1 : DataW.trod enc Try.prog W base spare held m 3 (([c0, c1, c2, c3, c4].drop 1).take (Try.prog.cellsOf 3)) = xs[1]? := hf 1 _ rfl
    rw [cells3] at f1
    have f2 : DataW.trod enc Try.prog W base spare held m 9 (([c0, c1, c2, c3, c4].drop 2).take (Try.prog.cellsOf 9)) = xs[2]? := hf 2 _ rfl
    rw [cells9] at f2
    have f3 : DataW.trod enc Try.prog W base spare held m 3 (([c0, c1, c2, c3, c4].drop 3).take (Try.prog.cellsOf 3)) = xs[3]? := hf 3 _ rfl
    rw [cells3] at f3
    have f4 : DataW.trod enc Try.prog W base spare held m 3 (([c0, c1, c2, c3, c4].drop 4).take (Try.prog.cellsOf 3)) = xs[4]? := hf 4 _ rfl
    rw [cells3] at f4
    match xs, hlen with
    | [x0, x1, x2, x3, x4], _ =>
      obtain ⟨k, e0, _, _⟩ := DataW.trod_string Try.underlying9 f0
      obtain ⟨t, e1, _, _⟩ := DataW.trod_int Try.underlying3 f1
      obtain ⟨it, e2, _, _⟩ := DataW.trod_string Try.underlying9 f2
      obtain ⟨l, e3, _, _⟩ := DataW.trod_int Try.underlying3 f3
      obtain ⟨c, e4, _, _⟩ := DataW.trod_int Try.underlying3 f4
      simp at e0 e1 e2 e3 e4
      subst e0 e1 e2 e3 e4
      exact ⟨⟨k, t, it, l, c⟩, rfl⟩

theorem zeroOp_inh : Nonempty OpV := ⟨zeroOp⟩

theorem open_in {H : Type} {enc : TypeId × Value → H} {W : World} {held : Bool} {n : Nat} {a : Option Addr} {len cap : Nat} {x : DataW H × List MemPlace}
    (h : DataW.trod enc Try.prog W 0 (fun _ => true) held n 22 [.slice a len cap] = some x) :
    ∃ os : List OpV, os.length = len ∧ InAt W a os ∧ (a = none → len = 0) ∧ len ≤ 9223372036854775807 := by
  rcases open_slice Try.underlying22 h with ⟨hcs, _⟩ | ⟨ad, len', cap', m, n', D, Pl, hcs, _, hl, hm, hmm, _, hx⟩
  · simp at hcs
    obtain ⟨rfl, rfl, rfl⟩ := hcs
    exact ⟨[], rfl, .inl rfl, fun _ => rfl, by omega⟩
  · simp at hcs
    obtain ⟨rfl, rfl, rfl⟩ := hcs
    unfold maxLen at hm
    rw [cells25] at hx
    have hx' : ∀ i, i < len → ∃ o : OpV, ∀ j, j < 5 → W.cell? (ad.add (i * 5 + j)) = o.cells5[j]? := fun i hi => by
      obtain ⟨cs', h1, h2⟩ := hx i (by rw [hmm]; simp; omega)
      obtain ⟨o, rfl⟩ := open_op h2
      obtain ⟨_, _, hc⟩ := World.cells?_some h1
      refine ⟨o, fun j hj => ?_⟩
      rw [← Go.Deep.add_add]
      exact hc j hj
    have inh : Inhabited OpV := ⟨zeroOp⟩
    obtain ⟨f, hf⟩ := choose_lt hx'
    refine ⟨(List.range len).map f, by simp, ?_, fun h => by simp at h, by omega⟩
    by_cases h0 : len = 0
    · subst h0; exact .inl rfl
    · right
      have hc0 := hf 0 (by omega) 0 (by omega)
      obtain ⟨b, off, spot⟩ := ad
      have hsp : spot = none := by
        simp [Addr.add, OpV.cells5, World.cell?] at hc0
        cases spot with
        | none => rfl
        | some s => split at hc0 <;> simp at hc0
      subst hsp
      have had : ∀ t, (⟨b, off, none⟩ : Addr).add t = ⟨b, off + t, none⟩ := fun t => by unfold Addr.add; split <;> simp_all
      refine ⟨b, off, rfl, ?_, fun i hi => ?_⟩
      · rw [had] at hc0
        exact World.block_lt_of_cell? W _ hc0
      · simp only [List.length_map, List.length_range] at hi
        have e : ∀ j, j < 5 → W.cell? ⟨b, off + i * 5 + j, none⟩ = (f i).cells5[j]? := fun j hj => by
          rw [← hf i hi j hj, had]
          congr 2
          omega
        have := e 0 (by omega); have := e 1 (by omega); have := e 2 (by omega); have := e 3 (by omega); have := e 4 (by omega)
        simp_all [OpV.cells5]

set_option maxRecDepth 100000 in
theorem lifted (os : Os) (started : os.Started) (H : Type) (enc : TypeId × Value → H) :
    ReturnsInHanded {} Try.checked os 3 .any (Rows.fnWithoutItemOpsAbsorbsWritesSpec.pre6 enc Try.prog Try.f3 Rows.fnWithoutItemOpsAbsorbsWritesRow.domain false) (Rows.fnWithoutItemOpsAbsorbsWritesSpec.post enc Try.prog Try.f3 false true false false) := by
  refine returnsInHanded_of_change (C := Try.checked) own started (by kernel_rfl) Try.func3
    (ChangeSpec.witness6 (enc := enc) (C := Try.checked) false ⟨#[], #[.slice none 0 0], []⟩ 8 (by kernel_rfl) (by kernel_rfl) (by kernel_rfl) (by kernel_rfl)) ?_
  intro W base args ds gs before hval0 hW hcnd _
  have hval : ∀ (j : Nat) t v, Try.f3.params[j]? = some t → args[j]? = some v → Value.okWide Try.prog W .any base t v := hval0
  have hW' := hW
  obtain ⟨p, q, hA0, hV, rfl, hfz, hnd⟩ := hW
  have hA : DataW.TrodAll enc Try.prog W 0 (fun _ => true) true Try.f3.params.toList args.toList ds p := hA0
  rw [Try.params3] at hA hval
  obtain ⟨v0, vs0, d0, ds0, p0, q0, hargs, rfl, rfl, h0, r0⟩ := trodAll_cons hA
  obtain ⟨rfl, rfl, rfl⟩ := trodAll_nil r0
  obtain rfl : args = #[v0] := by cases args; simp_all
  obtain ⟨rfl, rfl⟩ := trodVars_none hV
  obtain ⟨a0, len0, cap0, rfl⟩ := okWide_slice Try.underlying22 (hval 0 22 v0 rfl rfl)
  have k0 := h0
  have lt0 : ∀ x ∈ p0, x.block < W.heap.size := by obtain ⟨m, hm⟩ := k0; exact DataW.trod_lt m _ _ _ hm
  obtain ⟨fuel, hf⟩ := h0
  obtain ⟨os0, rfl, hin, hnil, hlen⟩ := open_in (by simpa [Value.cells] using hf)
  clear hA0 hval0
  refine (top_any os0 a0 cap0 W hlen hnil hin).mono fun e W' ⟨he, bel⟩ => ?_
  subst he
  exact ⟨_, rfl, _, _, _, [], _, [], hW', trodAll_mk1 (shut_bool Try.underlying4 _), (trodAll_cons_mk (Below.trod laidOut (by kernel_rfl) (of_decide_eq_true (by kernel_rfl)) k0 bel lt0) trodAll_mk0), rfl, bel.frame _, fun h => by cases h⟩

theorem over : Rows.fnWithoutItemOpsAbsorbsWritesRow.holds Try.pinned (OpenSpec.ofChange Rows.fnWithoutItemOpsAbsorbsWritesSpec) :=
  OpenClaim.holds_of_wide 3 Try.f3 rfl rfl rfl rfl rfl rfl rfl ⟨rfl, rfl, rfl, rfl, rfl⟩ rfl rfl rfl rfl rfl (by kernel_rfl) Try.func3 (by kernel_rfl)
    (of_decide_eq_true (by kernel_rfl)) (by unfold Func.isWrapper; first | (rw [if_pos (by decide +kernel)]; kernel_rfl) | (rw [if_neg (by decide +kernel)]; exact ⟨rfl, rfl⟩))
    (fun os started H enc _ => lifted os started H enc)

/-- The statement. -/
theorem proved : Rows.FnWithoutItemOpsAbsorbsWritesSaid := over
end Go.Proofs.Qxb6609101a.fnWithoutItemOpsAbsorbsWrites
