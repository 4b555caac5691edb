/- 'append' onto a row of bytes that the call owns, as a step of a region that draws its order: what is kept, and that the row that comes back is the old one or a new one. -/
import Derived.Test.Qxb6609101aDoorA1
import Derived.Deep.RegionLaw
import Derived.Deep.RegionHeld3
namespace Go.Proofs.Qxb6609101aDoor
open Go.RowKit Go.Lib

theorem blk_string {P : Program} (w : World) (base : Nat) (t u ty e : TypeId) (i : TypeInfo) (ht : P.underlying t = some (.slice e)) (hu : P.underlying u = some .string) (hi : P.info? e = some i) (hz : i.zero = some (.int .u8 0))
    (hsize : i.size = 1) (hby : i.bytes = 1) (v : Value) (n : Nat) (xs : List Value) (hown : w.ownsRow base e 1 v n xs) (s : ByteArray)
    (h63 : n + s.size ≤ maxLen) (hbytes : n + s.size ≤ 140737488355328) (v' : Value) (w' : World) (hr : (Builtin.append_ #[t, u] ty #[v, .string s]).run P w = .ok v' w') :
    ∀ k, k < w.heap.size → v.ownBlock ≠ some k → v'.ownBlock ≠ some k := by
  intro k hk hne
  have hxl : xs.length = n := by simpa using hown.1
  rcases hown.2 with ⟨rfl, rfl⟩ | ⟨g, cap, cur, rfl, hbg, hg, hnc, hcm, hcs, htake⟩
  · by_cases hm : s.size = 0
    · have hf := run_firstCells_string (P := P) w 1 s
      rw [hm] at hf
      simp [Builtin.append_, run_underlying ht, run_underlying hu, sizeOf, typeInfo, hi, hsize, Builtin.lenOf, hm, hf] at hr
      rw [← hr.1]
      simp [Value.ownBlock]
    · have hr2 := run_append_nil_string (P := P) w t u ty e i (.int .u8 0) ht hu hi hz s (by omega) (by omega) (by rw [hby]; omega)
      rw [hr2] at hr
      injection hr with h1 h2
      rw [← h1]
      simp [Value.ownBlock]
      omega
  · by_cases hroom : n + s.size ≤ cap
    · have hcs' : cur.size = cap := by simpa using hcs
      have hr2 := run_append_room_string (P := P) w t u ty e i ht hu hi hsize g n cap cur hg s hroom (by omega)
      rw [hr2] at hr
      injection hr with h1 h2
      rw [← h1]
      exact hne
    · have holds : ∀ j u, xs[j]? = some u → w.cell? ((⟨g, 0, none⟩ : Addr).add j) = some u := hown.cells (g := g) rfl
      have hr2 := run_append_grow_string (P := P) w t u ty e i (.int .u8 0) ht hu hi hz ⟨g, 0, none⟩ n cap xs (by rw [hsize]; simpa using hxl) holds s (by omega) (by omega) (by rw [hby]; exact growslice_fits (by omega) (by omega))
      rw [hr2] at hr
      injection hr with h1 h2
      rw [← h1]
      simp [Value.ownBlock]
      omega

theorem step_append_string {P : Program} {ops : Array Oper} {o : Oper} {a : Act} {w : World} {K : Act → World → Prop} {Q : Exit → Act → World → Prop} {E : Prop} (hgd : o.guard = none) (sl x : Operand) (t u : TypeId)
    (ho : o.op = .call { callee := .builtin .append, args := #[sl, x], argTypes := #[t, u] })
    (base : Nat) (e : TypeId) (i : TypeInfo) (ht : P.underlying t = some (.slice e)) (hu : P.underlying u = some .string) (hi : P.info? e = some i) (hz : i.zero = some (.int .u8 0))
    (hsize : i.size = 1) (hby : i.bytes = 1)
    (v : Value) (n : Nat) (xs : List Value) (hs : a.eval sl = v) (hown : w.ownsRow base e 1 v n xs) (s : ByteArray) (hx : a.eval x = .string s)
    (h63 : n + s.size ≤ maxLen) (hbytes : n + s.size ≤ 140737488355328) (hbase : base ≤ w.heap.size)
    (h : ∀ v' w', w'.ownsRow base e 1 v' (n + s.size) (xs ++ strCells s) → w.grownBy w' v.ownBlock → (∀ k, k < w.heap.size → v.ownBlock ≠ some k → v'.ownBlock ≠ some k) → K (a.put o.dst v') w') :
    if Region.wanted o (yielded ops a.tmps) = true then Oper.wp P o a w K Q else E := by
  have hw : Region.wanted o (yielded ops a.tmps) = true := by simp [Region.wanted, hgd]
  rw [if_pos hw]
  obtain ⟨v', w', hr, h2, h3, _⟩ := run_append_own_string (P := P) w base t u o.type e i ht hu hi hz hsize hby v n xs hown s h63 hbytes hbase
  have h5 := blk_string (P := P) w base t u o.type e i ht hu hi hz hsize hby v n xs hown s h63 hbytes v' w' hr
  unfold Oper.wp execOp
  simp only [ho, resolve, invoke, builtin, Sem.run_bind, Sem.run_pure, Result.andThen_ok, List.map_toArray, List.map_cons, List.map_nil, hs, hx, hr]
  exact h v' w' h2 h3 h5

theorem blk_slice {P : Program} (w : World) (base : Nat) (t ty e : TypeId) (i : TypeInfo) (z : Value) (ht : P.underlying t = some (.slice e)) (hi : P.info? e = some i) (hz : i.zero = some z)
    (hsize : i.size = 1) (hby : i.bytes = 1) (v : Value) (n : Nat) (xs : List Value) (hown : w.ownsRow base e 1 v n xs) (ad : Addr) (c : Nat) (q : Value) (hq : w.cell? ad = some q) (h1 : q.oneCell' = true)
    (h63 : n + 1 ≤ maxLen) (hbytes : n + 1 ≤ 140737488355328) (v' : Value) (w' : World) (hr : (Builtin.append_ #[t, t] ty #[v, .slice (some ad) 1 c]).run P w = .ok v' w') :
    ∀ k, k < w.heap.size → v.ownBlock ≠ some k → v'.ownBlock ≠ some k := by
  intro k hk hne
  have hxl : xs.length = n := by simpa using hown.1
  have hnews : ∀ (j : Nat) (u : Value), [q][j]? = some u → w.cell? (ad.add j) = some u := by
    intro j u hj
    cases j with
    | zero => simp at hj; subst hj; rw [show ad.add 0 = ad by simp [Addr.add]]; exact hq
    | succ j => simp at hj
  rcases hown.2 with ⟨rfl, rfl⟩ | ⟨g, cap, cur, rfl, hbg, hg, hnc, hcm, hcs, htake⟩
  · have hr2 := run_append_nil (P := P) w t ty e i z ht hi hz ad 1 c [q] (by simp [hsize]) hnews (by omega) (by omega) (by rw [hby]; omega)
    rw [hr2] at hr
    injection hr with h1 h2
    rw [← h1]
    simp [Value.ownBlock]
    omega
  · by_cases hroom : n + 1 ≤ cap
    · have hcs' : cur.size = cap := by simpa using hcs
      have hr2 := run_append_room (P := P) w t ty e i ht hi g n cap cur hg ad 1 c [q] (by simp [hsize]) hnews (by intro u hu; simp at hu; subst hu; exact h1) hroom (by rw [hsize]; simp; omega)
      rw [hr2] at hr
      injection hr with h1 h2
      rw [← h1]
      exact hne
    · have holds : ∀ j u, xs[j]? = some u → w.cell? ((⟨g, 0, none⟩ : Addr).add j) = some u := hown.cells (g := g) rfl
      have hr2 := run_append_grow (P := P) w t ty e i z ht hi hz ⟨g, 0, none⟩ n cap xs (by rw [hsize]; simpa using hxl) holds ad 1 c [q] (by simp [hsize]) hnews (by omega) (by omega) (by rw [hby]; exact growslice_fits (by omega) (by omega))
      rw [hr2] at hr
      injection hr with h1 h2
      rw [← h1]
      simp [Value.ownBlock]
      omega

theorem step_append_byte {P : Program} {ops : Array Oper} {o : Oper} {a : Act} {w : World} {K : Act → World → Prop} {Q : Exit → Act → World → Prop} {E : Prop} (hgd : o.guard = none) (sl x : Operand) (t : TypeId)
    (ho : o.op = .call { callee := .builtin .append, args := #[sl, x], argTypes := #[t, t] })
    (base : Nat) (e : TypeId) (i : TypeInfo) (z : Value) (ht : P.underlying t = some (.slice e)) (hi : P.info? e = some i) (hz : i.zero = some z) (hzs : z.cells.size = 1)
    (hsize : i.size = 1) (hby : i.bytes = 1)
    (v : Value) (n : Nat) (xs : List Value) (hs : a.eval sl = v) (hown : w.ownsRow base e 1 v n xs) (ad : Addr) (c : Nat) (hx : a.eval x = .slice (some ad) 1 c) (q : Value) (hq : w.cell? ad = some q) (h1 : q.oneCell' = true)
    (h63 : n + 1 ≤ maxLen) (hbytes : n + 1 ≤ 140737488355328) (hbase : base ≤ w.heap.size)
    (h : ∀ v' w', w'.ownsRow base e 1 v' (n + 1) (xs ++ [q]) → w.grownBy w' v.ownBlock → (∀ k, k < w.heap.size → v.ownBlock ≠ some k → v'.ownBlock ≠ some k) → K (a.put o.dst v') w') :
    if Region.wanted o (yielded ops a.tmps) = true then Oper.wp P o a w K Q else E := by
  have hw : Region.wanted o (yielded ops a.tmps) = true := by simp [Region.wanted, hgd]
  rw [if_pos hw]
  have hnews : ∀ (j : Nat) (u : Value), [q][j]? = some u → w.cell? (ad.add j) = some u := by
    intro j u hj
    cases j with
    | zero => simp at hj; subst hj; rw [show ad.add 0 = ad by simp [Addr.add]]; exact hq
    | succ j => simp at hj
  obtain ⟨v', w', hr, h2, h3, _⟩ := run_append_own (P := P) w base t o.type e i z 1 1 ht hi hz hsize hby hzs (by omega) v n xs hown ad 1 c [q] (by simp) hnews (by intro u hu; simp at hu; subst hu; exact h1) h63 (by omega) hbase
  have h5 := blk_slice (P := P) w base t o.type e i z ht hi hz hsize hby v n xs hown ad c q hq h1 h63 hbytes v' w' hr
  unfold Oper.wp execOp
  simp only [ho, resolve, invoke, builtin, Sem.run_bind, Sem.run_pure, Result.andThen_ok, List.map_toArray, List.map_cons, List.map_nil, hs, hx, hr]
  exact h v' w' h2 h3 h5
end Go.Proofs.Qxb6609101aDoor
