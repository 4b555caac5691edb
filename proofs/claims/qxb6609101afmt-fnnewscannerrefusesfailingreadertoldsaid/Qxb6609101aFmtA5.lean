/- ReadAll over whatever reader keeps to a contract: the reader, the chunks, the state of the loop. -/
import Derived.Test.Qxb6609101aFmtA4
import Derived.LaidEql
import Derived.Deep.LoopGhost
namespace Go.Proofs.Qxb6609101aFmt
open Go.RowKit

/-- A reader: its method, its memory (RB, below base), how many bytes are left (R), the error that stands at their end (E). -/
structure Rdr (fr : FuncId) (tr : TypeId) (pa : Addr) (base : Nat) (RB : Nat → Prop) (R : World → List Int → Prop) (E : Value) : Prop where
  rb : ∀ k, RB k → 1 < k ∧ k < base
  stay : ∀ (w w' : World) rest, R w rest → (∀ k, k < base → w'.heap[k]? = w.heap[k]?) → R w' rest
  fin : ∀ w g o m c, R w [] → Calls Tryf.prog fr #[.pointer (some pa), .slice (some ⟨g, o, none⟩) m c] w fun e w' => e = .returned (.tuple #[.int .i64 0, E]) ∧ Fr RB w w'
  more : ∀ w rest g o m c cur, R w rest → rest ≠ [] → base ≤ g → w.heap[g]? = some (.cells (List.toArray cur) 5 (0, 0)) → o + m ≤ cur.length → 0 < m →
    Calls Tryf.prog fr #[.pointer (some pa), .slice (some ⟨g, o, none⟩) m c] w fun e w' => e = .returned (.tuple #[.int .i64 (min m rest.length : Nat), .nilIface]) ∧ R w' (rest.drop m) ∧
      w'.heap[g]? = some (.cells (Go.splice cur o (vals (rest.take m))).toArray 5 (0, 0)) ∧ Fr (fun k => RB k ∨ k = g) w w'

/-- A chunk that was filled. -/
structure Ck where
  g : Nat
  cap : Nat
  ys : List Int
def ckVal (c : Ck) : Value := .slice (some ⟨c.g, 0, none⟩) c.ys.length c.cap
def flat (cs : List Ck) : List Int := (cs.map (·.ys)).flatten
def CkOk (w : World) (base gb : Nat) (cs : List Ck) : Prop := ∀ c ∈ cs, base ≤ c.g ∧ c.g < gb ∧ OwnB w c.g c.cap c.ys ∧ c.ys ≠ []

theorem CkOk.fr {S : Nat → Prop} {w w' : World} {base gb gb' : Nat} {cs : List Ck} (h : CkOk w base gb cs) (hf : Fr S w w') (hs : ∀ c ∈ cs, ¬ S c.g) (hg : gb ≤ gb') : CkOk w' base gb' cs := fun c hc => by
  obtain ⟨h1, h2, h3, h4⟩ := h c hc
  exact ⟨h1, by omega, h3.fr hf (hs c hc), h4⟩

theorem flat_len (cs : List Ck) (h : ∀ c ∈ cs, c.ys ≠ []) : cs.length ≤ (flat cs).length := by
  induction cs with
  | nil => simp
  | cons c r ih =>
    have := ih (fun x hx => h x (by simp [hx]))
    have h0 := List.length_pos_iff.2 (h c (by simp))
    simp [flat] at this ⊢
    omega

theorem flat_snoc (cs : List Ck) (c : Ck) : flat (cs ++ [c]) = flat cs ++ c.ys := by simp [flat]
theorem flat_take_succ (cs : List Ck) (k : Nat) (h : k < cs.length) : flat (cs.take (k + 1)) = flat (cs.take k) ++ cs[k].ys := by
  rw [List.take_succ_eq_append_getElem h, flat_snoc]
theorem flat_take_le (cs : List Ck) (k : Nat) : (flat (cs.take k)).length ≤ (flat cs).length := by
  have : flat cs = flat (cs.take k) ++ flat (cs.drop k) := by
    unfold flat
    rw [← List.flatten_append, ← List.map_append, List.take_append_drop]
  rw [this]; simp

/-- The loop's state. -/
structure St (base : Nat) (RB : Nat → Prop) (R : World → List Int → Prop) (zs : List Int) (w0 wr : World) (gb capb : Nat) (ys : List Int) (next : Nat) (cg cap6 : Nat) (cs : List Ck) (rest : List Int) : Prop where
  own : OwnB wr gb capb ys
  gbase : base ≤ gb
  room : ys.length < capb
  capmax : capb ≤ 9223372036854775807
  next0 : 256 ≤ next
  next1 : next ≤ 30000000
  next2 : 2 * next ≤ 3 * capb
  chunks : wr.ownsRow base 22 1 (.slice (some ⟨cg, 0, none⟩) cs.length cap6) cs.length (cs.map ckVal)
  ck : CkOk wr base gb cs
  all : flat cs ++ ys ++ rest = zs
  rdr : R wr rest
  fr : Fr (fun k => RB k ∨ base ≤ k) w0 wr
  size : base ≤ wr.heap.size

theorem St.len {base : Nat} {RB : Nat → Prop} {R : World → List Int → Prop} {zs : List Int} {w0 wr : World} {gb capb : Nat} {ys : List Int} {next cg cap6 : Nat} {cs : List Ck} {rest : List Int}
    (h : St base RB R zs w0 wr gb capb ys next cg cap6 cs rest) : (flat cs).length + ys.length + rest.length = zs.length := by
  rw [← h.all]; simp; omega

theorem owns_lt {w : World} {base e size cg n cap : Nat} {xs : List Value} (h : w.ownsRow base e size (.slice (some ⟨cg, 0, none⟩) n cap) n xs) : base ≤ cg ∧ ∃ cur, w.heap[cg]? = some (.cells cur e (0, 0)) := by
  rcases h.2 with ⟨h', _⟩ | ⟨g', cap', cur, h', hb, hg, _⟩
  · simp at h'
  · simp only [Value.slice.injEq, Option.some.injEq, Addr.mk.injEq, and_true, true_and] at h'
    obtain ⟨rfl, rfl⟩ := h'
    exact ⟨hb, cur, hg⟩

theorem owns_fr {S : Nat → Prop} {w w' : World} {base e size cg n cap : Nat} {xs : List Value} (h : w.ownsRow base e size (.slice (some ⟨cg, 0, none⟩) n cap) n xs) (hf : Fr S w w') (hs : ¬ S cg) : w'.ownsRow base e size (.slice (some ⟨cg, 0, none⟩) n cap) n xs := by
  refine ⟨h.1, ?_⟩
  rcases h.2 with ⟨h', _⟩ | ⟨g', cap', cur, h', hb, hg, r⟩
  · simp at h'
  · have hh := h'
    simp only [Value.slice.injEq, Option.some.injEq, Addr.mk.injEq, and_true, true_and] at hh
    obtain ⟨rfl, rfl⟩ := hh
    exact .inr ⟨cg, cap, cur, rfl, hb, by rw [hf.block cg (Array.getElem?_eq_some_iff.1 hg).1 hs]; exact hg, r⟩

/-- A row of bytes is no row of slices. -/
theorem ne_of_types {w : World} {base cg n cap6 gb capb : Nat} {xs : List Value} {ys : List Int} (h : w.ownsRow base 22 1 (.slice (some ⟨cg, 0, none⟩) n cap6) n xs) (ho : OwnB w gb capb ys) : cg ≠ gb := by
  obtain ⟨_, cur, hc⟩ := owns_lt h
  obtain ⟨cur', hg, _⟩ := ho
  intro e
  subst e
  rw [hc] at hg
  simp at hg

/-- Behind a read of some bytes. -/
theorem St.read {base : Nat} {RB : Nat → Prop} {R : World → List Int → Prop} {zs : List Int} {w0 wr w1 : World} {gb capb : Nat} {ys : List Int} {next cg cap6 : Nat} {cs : List Ck} {rest : List Int} {cur : List Value}
    (hrb : ∀ k, RB k → 1 < k ∧ k < base) (h : St base RB R zs w0 wr gb capb ys next cg cap6 cs rest) (hc : cur.length = capb) (ht : cur.take ys.length = vals ys)
    (_hR : R w1 (rest.drop (capb - ys.length))) (hg : w1.heap[gb]? = some (.cells (Go.splice cur ys.length (vals (rest.take (capb - ys.length)))).toArray 5 (0, 0))) (hf : Fr (fun k => RB k ∨ k = gb) wr w1) :
    OwnB w1 gb capb (ys ++ rest.take (capb - ys.length)) ∧ w1.ownsRow base 22 1 (.slice (some ⟨cg, 0, none⟩) cs.length cap6) cs.length (cs.map ckVal) ∧ CkOk w1 base gb cs ∧
      flat cs ++ (ys ++ rest.take (capb - ys.length)) ++ rest.drop (capb - ys.length) = zs ∧ Fr (fun k => RB k ∨ base ≤ k) w0 w1 ∧ base ≤ w1.heap.size := by
  have hroom := h.room
  refine ⟨OwnB.splice hc ht _ (by simp; omega) hg, owns_fr h.chunks hf ?_, h.ck.fr hf ?_ (Nat.le_refl _), ?_, h.fr.trans (hf.mono ?_), Nat.le_trans h.size hf.size⟩
  · have h1 := (owns_lt h.chunks).1
    have h2 := ne_of_types h.chunks h.own
    rintro (h3 | h3)
    · have := (hrb _ h3).2; omega
    · exact h2 h3
  · intro c hc'
    obtain ⟨h1, h2, _⟩ := h.ck c hc'
    rintro (h3 | h3)
    · have := (hrb _ h3).2; omega
    · omega
  · rw [← List.append_assoc, List.append_assoc, List.take_append_drop, h.all]
  · intro k _ hk
    rcases hk with hk | rfl
    · exact .inl hk
    · exact .inr h.gbase

theorem fr_grown {w w' : World} {cg : Nat} (hg : w.grownBy w' (some cg)) : Fr (fun k => k = cg) w w' := (Fr.refl _ w).grown hg (fun k hk => by simpa using hk.symm)

/-- Behind a chunk that was full: it goes to the chunks, and a new one is laid. -/
theorem St.push {base : Nat} {RB : Nat → Prop} {R : World → List Int → Prop} {zs : List Int} {w0 wr w1 w2 w3 : World} {gb capb : Nat} {ys ys' : List Int} {next cg cg' cap6 cap6' capn : Nat} {cs : List Ck} {rest rest' : List Int} {blk : Obj}
    (h : St base RB R zs w0 wr gb capb ys next cg cap6 cs rest) (hz : zs.length ≤ 10000000)
    (own1 : OwnB w1 gb capb ys') (ch1 : w1.ownsRow base 22 1 (.slice (some ⟨cg, 0, none⟩) cs.length cap6) cs.length (cs.map ckVal)) (ck1 : CkOk w1 base gb cs) (all1 : flat cs ++ ys' ++ rest' = zs)
    (fr1 : Fr (fun k => RB k ∨ base ≤ k) w0 w1) (sz1 : base ≤ w1.heap.size) (hfull : capb - ys'.length < capb / 16)
    (hst : ∀ (w1 w2 : World) rest, R w1 rest → (∀ k, k < base → w2.heap[k]? = w1.heap[k]?) → R w2 rest) (hR : R w1 rest')
    (own2 : w2.ownsRow base 22 1 (.slice (some ⟨cg', 0, none⟩) (cs.length + 1) cap6') (cs.length + 1) (cs.map ckVal ++ [ckVal ⟨gb, capb, ys'⟩])) (hgrow : (w1.alloc blk).grownBy w2 (some cg))
    (own3 : OwnB w3 w2.heap.size capn []) (hf3 : Fr (fun _ => False) w2 w3) (hcn : next ≤ capn) (hcm : capn ≤ 9223372036854775807) :
    St base RB R zs w0 w3 w2.heap.size capn [] (next + next / 2) cg' cap6' (cs ++ [⟨gb, capb, ys'⟩]) rest' := by
  have hn0 := h.next0
  have hn2 := h.next2
  have hle := own1.le
  have hlen : (flat cs).length + ys'.length + rest'.length ≤ 10000000 := by
    have := congrArg List.length all1
    simp at this
    omega
  have hgl := own1.lt
  have hcgl := (owns_lt ch1).1
  have hf2 : Fr (fun k => k = cg) w1 w2 := ((Fr.refl _ w1).alloc blk).trans (fr_grown hgrow)
  have hf13 : Fr (fun k => k = cg) w1 w3 := hf2.trans (hf3.mono (fun _ _ h => h.elim))
  have hs2 := hf2.size
  have hys : ys' ≠ [] := by
    intro e
    subst e
    simp at hfull
    omega
  refine ⟨own3, by omega, by simp; omega, hcm, by omega, by omega, by omega, ?_, ?_, ?_, ?_, ?_, ?_⟩
  · have := owns_fr own2 hf3 (fun h => h)
    simpa using this
  · intro c hc
    rcases List.mem_append.1 hc with hc | hc
    · obtain ⟨h1, h2, h3, h4⟩ := ck1 c hc
      exact ⟨h1, by omega, h3.fr hf13 (Ne.symm (ne_of_types ch1 h3)), h4⟩
    · simp only [List.mem_singleton] at hc
      subst hc
      exact ⟨h.gbase, by show gb < _; omega, own1.fr hf13 (Ne.symm (ne_of_types ch1 own1)), hys⟩
  · rw [flat_snoc]; simpa using all1
  · refine hst w1 w3 rest' hR (fun k hk => hf13.block k (by omega) (by omega))
  · exact fr1.trans (hf13.mono (fun k _ hk => .inr (by omega)))
  · have := hf13.size; omega
end Go.Proofs.Qxb6609101aFmt
