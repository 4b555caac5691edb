/- 'append' onto a row of bytes that the call owns: what is kept, to the cell: the row that comes back is the old one or a new one, and where it is new the old one stands. -/
import Derived.Test.Qxb6609101aDoorA6
namespace Go.Proofs.Qxb6609101aDoor
open Go.RowKit Go.Lib

/-- What one append leaves of the old world. -/
structure Ap (w w' : World) (v v' : Value) : Prop where
  grown : w.grownBy w' v.ownBlock
  blk : ∀ k, k < w.heap.size → v.ownBlock ≠ some k → v'.ownBlock ≠ some k
  moved : ∀ k, v.ownBlock = some k → v'.ownBlock ≠ some k → w'.heap[k]? = w.heap[k]?

theorem moved_string {P : Program} (w : World) (base : Nat) (t u ty e : TypeId) (i : TypeInfo) (ht : P.underlying t = some (.slice e)) (hu : P.underlying u = some .string) (hi : P.info? e = some i) (hz : i.zero = some (.int .u8 0))
    (hsize : i.size = 1) (hby : i.bytes = 1) (v : Value) (n : Nat) (xs : List Value) (hown : w.ownsRow base e 1 v n xs) (s : ByteArray)
    (h63 : n + s.size ≤ maxLen) (hbytes : n + s.size ≤ 140737488355328) (v' : Value) (w' : World) (hr : (Builtin.append_ #[t, u] ty #[v, .string s]).run P w = .ok v' w') :
    ∀ k, v.ownBlock = some k → v'.ownBlock ≠ some k → w'.heap[k]? = w.heap[k]? := by
  intro k hk hne
  have hxl : xs.length = n := by simpa using hown.1
  rcases hown.2 with ⟨rfl, rfl⟩ | ⟨g, cap, cur, rfl, hbg, hg, hnc, hcm, hcs, htake⟩
  · simp [Value.ownBlock] at hk
  · have hgl := (Array.getElem?_eq_some_iff.1 hg).1
    have hkg : g = k := by simpa [Value.ownBlock] using hk
    by_cases hroom : n + s.size ≤ cap
    · have hcs' : cur.size = cap := by simpa using hcs
      have hr2 := run_append_room_string (P := P) w t u ty e i ht hu hi hsize g n cap cur hg s hroom (by omega)
      rw [hr2] at hr
      injection hr with h1 h2
      rw [← h1] at hne
      exact absurd hk hne
    · have holds : ∀ j u, xs[j]? = some u → w.cell? ((⟨g, 0, none⟩ : Addr).add j) = some u := hown.cells (g := g) rfl
      have hr2 := run_append_grow_string (P := P) w t u ty e i (.int .u8 0) ht hu hi hz ⟨g, 0, none⟩ n cap xs (by rw [hsize]; simpa using hxl) holds s (by omega) (by omega) (by rw [hby]; exact growslice_fits (by omega) (by omega))
      rw [hr2] at hr
      injection hr with h1 h2
      rw [← h2, Below.heap_alloc _ _ _ (by show k < w.heap.size; omega)]
      rfl

theorem own_slice {P : Program} (w : World) (base : Nat) (t ty e : TypeId) (i : TypeInfo) (z : Value) (ht : P.underlying t = some (.slice e)) (hi : P.info? e = some i) (hz : i.zero = some z)
    (hsize : i.size = 1) (hby : i.bytes = 1) (v : Value) (n : Nat) (xs : List Value) (hown : w.ownsRow base e 1 v n xs) (ad : Addr) (m c : Nat) (news : List Value) (hl : news.length = m) (h0 : 0 < m) (hnews : ∀ j u, news[j]? = some u → w.cell? (ad.add j) = some u) (h1 : ∀ u ∈ news, u.oneCell' = true)
    (h63 : n + m ≤ maxLen) (hbytes : n + m ≤ 140737488355328) (v' : Value) (w' : World) (hr : (Builtin.append_ #[t, t] ty #[v, .slice (some ad) m c]).run P w = .ok v' w') :
    (∀ k, k < w.heap.size → v.ownBlock ≠ some k → v'.ownBlock ≠ some k) ∧ (∀ k, v.ownBlock = some k → v'.ownBlock ≠ some k → w'.heap[k]? = w.heap[k]?) := by
  have hxl : xs.length = n := by simpa using hown.1
  rcases hown.2 with ⟨rfl, rfl⟩ | ⟨g, cap, cur, rfl, hbg, hg, hnc, hcm, hcs, htake⟩
  · have hr2 := run_append_nil (P := P) w t ty e i z ht hi hz ad m c news (by simp [hsize, hl]) hnews h0 (by omega) (by rw [hby]; omega)
    rw [hr2] at hr
    injection hr with h1 h2
    refine ⟨fun k hk hne => ?_, fun k hk => by simp [Value.ownBlock] at hk⟩
    rw [← h1]
    simp [Value.ownBlock]
    omega
  · have hgl := (Array.getElem?_eq_some_iff.1 hg).1
    by_cases hroom : n + m ≤ cap
    · have hcs' : cur.size = cap := by simpa using hcs
      have hr2 := run_append_room (P := P) w t ty e i ht hi g n cap cur hg ad m c news (by simp [hsize, hl]) hnews h1 hroom (by rw [hsize]; omega)
      rw [hr2] at hr
      injection hr with h1 h2
      rw [← h1]
      exact ⟨fun k _ hne => hne, fun k hk hne => absurd hk hne⟩
    · have holds : ∀ j u, xs[j]? = some u → w.cell? ((⟨g, 0, none⟩ : Addr).add j) = some u := hown.cells (g := g) rfl
      have hr2 := run_append_grow (P := P) w t ty e i z ht hi hz ⟨g, 0, none⟩ n cap xs (by rw [hsize]; simpa using hxl) holds ad m c news (by simp [hsize, hl]) hnews (by omega) (by omega) (by rw [hby]; exact growslice_fits (by omega) (by omega))
      rw [hr2] at hr
      injection hr with h1 h2
      refine ⟨fun k hk hne => ?_, fun k hk _ => ?_⟩
      · rw [← h1]
        simp [Value.ownBlock]
        omega
      · have hkg : g = k := by simpa [Value.ownBlock] using hk
        rw [← h2, Below.heap_alloc _ _ _ (by show k < w.heap.size; omega)]
        rfl

/-- The frame of a chain of appends onto v, which held n bytes: other blocks stand, v's first n bytes stand. -/
structure Kp (w w' : World) (v : Value) (n : Nat) (v' : Value) : Prop where
  size : w.heap.size ≤ w'.heap.size
  other : ∀ k, k < w.heap.size → v.ownBlock ≠ some k → w'.heap[k]? = w.heap[k]? ∧ v'.ownBlock ≠ some k
  first : ∀ k, v.ownBlock = some k → ∀ j, j < n → w'.cell? ⟨k, j, none⟩ = w.cell? ⟨k, j, none⟩

theorem Kp.trans {a b c : World} {v v1 v2 : Value} {n m : Nat} (h : Kp a b v n v1) (k : Kp b c v1 m v2) (hv : ∀ g, v.ownBlock = some g → g < a.heap.size) (hnm : n ≤ m) : Kp a c v n v2 := by
  refine ⟨Nat.le_trans h.size k.size, fun g hg hne => ?_, fun g hg j hj => ?_⟩
  · obtain ⟨h1, h2⟩ := h.other g hg hne
    obtain ⟨k1, k2⟩ := k.other g (Nat.lt_of_lt_of_le hg h.size) h2
    exact ⟨k1.trans h1, k2⟩
  · have h1 := h.first g hg j hj
    by_cases hv1 : v1.ownBlock = some g
    · exact (k.first g hv1 j (by omega)).trans h1
    · exact (World.cell?_of_block (k.other g (Nat.lt_of_lt_of_le (hv g hg) h.size) hv1).1).trans h1

/-- New blocks and draws. -/
theorem Kp.of_below {a b : World} {v : Value} {n : Nat} (h : Below a.heap.size a b) (hv : ∀ g, v.ownBlock = some g → g < a.heap.size) : Kp a b v n v :=
  ⟨h.size, fun k hk hne => ⟨h.block k hk, hne⟩, fun k hk _ _ => World.cell?_of_block (h.block k (hv k hk))⟩

theorem Kp.of_ap {w w' : World} {v v' : Value} {B n m : Nat} {xs ys : List Value} (h : Ap w w' v v') (ho : w.ownsRow B 5 1 v n xs) (ho' : w'.ownsRow B 5 1 v' m (xs ++ ys)) : Kp w w' v n v' := by
  refine ⟨h.grown.size, fun k hk hne => ⟨h.grown.block k hk (fun e => hne e.symm), h.blk k hk hne⟩, fun k hk j hj => ?_⟩
  have hxl : xs.length = n := by simpa using ho.1
  by_cases hv : v'.ownBlock = some k
  · have cell : ∀ {W : World} {V : Value} {q : Nat} {zs : List Value}, W.ownsRow B 5 1 V q zs → V.ownBlock = some k → ∀ u, zs[j]? = some u → W.cell? ⟨k, j, none⟩ = some u := by
      intro W V q zs hW hV u hu
      rcases hW.2 with ⟨rfl, _⟩ | ⟨g, cap, cur, rfl, _⟩
      · simp [Value.ownBlock] at hV
      · have hgk : g = k := by simpa [Value.ownBlock] using hV
        subst hgk
        have := hW.cells (g := g) rfl j u hu
        have had : (⟨g, 0, none⟩ : Addr).add j = ⟨g, j, none⟩ := by unfold Addr.add; split <;> simp_all
        rwa [had] at this
    have hjx : j < xs.length := by omega
    rw [cell ho' hv xs[j] (by rw [List.getElem?_append_left hjx]; exact List.getElem?_eq_getElem hjx), cell ho hk xs[j] (List.getElem?_eq_getElem hjx)]
  · exact World.cell?_of_block (h.moved k hk hv)
end Go.Proofs.Qxb6609101aDoor
