/- strconv.AppendInt at base 10, with the frame to the cell. -/
import Derived.Test.Qxb6609101aDoorA7
import Derived.Lib.ItoaMem
import Derived.Lib.AppendIntMem
import Derived.CellFam
namespace Go.Proofs.Qxb6609101aDoor
open Go.RowKit Go.Lib Go.Sort

theorem wpList_string_kp (w : World) {ops : Array Oper} {rest : List Oper} {o : Oper} {a : Act} {Q : Exit → Act → World → Prop} (hgd : o.guard = none) (sl x : Operand) (u : TypeId) (hu : Tryd.prog.underlying u = some .string)
    (ho : o.op = .call { callee := .builtin .append, args := #[sl, x], argTypes := #[31, u] })
    (base : Nat) (v : Value) (n : Nat) (xs : List Value) (hs : a.eval sl = v) (hown : w.ownsRow base 5 1 v n xs) (s : ByteArray) (hx : a.eval x = .string s)
    (hbytes : n + s.size ≤ 140737488355328) (hbase : base ≤ w.heap.size)
    (h : ∀ v' w', w'.ownsRow base 5 1 v' (n + s.size) (xs ++ strCells s) → w.grownBy w' v.ownBlock → Kp w w' v n v' → wpList Tryd.prog ops Q rest (a.put o.dst v') w') : wpList Tryd.prog ops Q (o :: rest) a w := by
  obtain ⟨i5, hi5, hz5, hs5, hb5⟩ := info_parts Tryd.info5
  have h63 : n + s.size ≤ maxLen := by unfold maxLen; omega
  refine wpList_plain hgd fun K hK => ?_
  obtain ⟨v', w', hr, h2, h3, _⟩ := run_append_own_string (P := Tryd.prog) w base 31 u o.type 5 i5 Tryd.underlying31 hu hi5 hz5 hs5 hb5 v n xs hown s h63 hbytes hbase
  have ap : Ap w w' v v' := ⟨h3, blk_string (P := Tryd.prog) w base 31 u o.type 5 i5 Tryd.underlying31 hu hi5 hz5 hs5 hb5 v n xs hown s h63 hbytes v' w' hr, moved_string (P := Tryd.prog) w base 31 u o.type 5 i5 Tryd.underlying31 hu hi5 hz5 hs5 hb5 v n xs hown s h63 hbytes v' w' hr⟩
  unfold Oper.wp execOp
  simp only [ho, resolve, invoke, builtin, Sem.run_bind, Sem.run_pure, Result.andThen_ok, List.map_toArray, List.map_cons, List.map_nil, hs, hx, hr]
  exact hK _ _ (h v' w' h2 h3 (.of_ap ap hown h2))

theorem wpList_slice_kp (w : World) {ops : Array Oper} {rest : List Oper} {o : Oper} {a : Act} {Q : Exit → Act → World → Prop} (hgd : o.guard = none) (sl x : Operand)
    (ho : o.op = .call { callee := .builtin .append, args := #[sl, x], argTypes := #[31, 31] })
    (base : Nat) (v : Value) (n : Nat) (xs : List Value) (hs : a.eval sl = v) (hown : w.ownsRow base 5 1 v n xs) (ad : Addr) (m c : Nat) (news : List Value) (hx : a.eval x = .slice (some ad) m c) (hl : news.length = m) (h0 : 0 < m)
    (hnews : ∀ j u, news[j]? = some u → w.cell? (ad.add j) = some u) (h1 : ∀ u ∈ news, u.oneCell' = true)
    (hbytes : n + m ≤ 140737488355328) (hbase : base ≤ w.heap.size)
    (h : ∀ v' w', w'.ownsRow base 5 1 v' (n + m) (xs ++ news) → w.grownBy w' v.ownBlock → Kp w w' v n v' → wpList Tryd.prog ops Q rest (a.put o.dst v') w') : wpList Tryd.prog ops Q (o :: rest) a w := by
  obtain ⟨i5, hi5, hz5, hs5, hb5⟩ := info_parts Tryd.info5
  have h63 : n + m ≤ maxLen := by unfold maxLen; omega
  refine wpList_plain hgd fun K hK => ?_
  obtain ⟨v', w', hr, h2, h3, _⟩ := run_append_own (P := Tryd.prog) w base 31 o.type 5 i5 _ 1 1 Tryd.underlying31 hi5 hz5 hs5 hb5 rfl (by omega) v n xs hown ad m c news (by omega) hnews h1 h63 (by omega) hbase
  have hab := own_slice (P := Tryd.prog) w base 31 o.type 5 i5 _ Tryd.underlying31 hi5 hz5 hs5 hb5 v n xs hown ad m c news hl h0 hnews h1 h63 hbytes v' w' hr
  unfold Oper.wp execOp
  simp only [ho, resolve, invoke, builtin, Sem.run_bind, Sem.run_pure, Result.andThen_ok, List.map_toArray, List.map_cons, List.map_nil, hs, hx, hr]
  exact hK _ _ (h v' w' h2 h3 (.of_ap ⟨h3, hab.1, hab.2⟩ hown h2))

theorem small_any (i : Nat) (h : i < 100) (w : World) : Calls Tryd.prog 20 #[.int .i64 i] w fun e w' => e = .returned (.string ⟨(Lib.decDigits i).toArray⟩) ∧ w' = w :=
  Any.internal_strconv_small (ρ := Tryd.laysM176_ren) { Tryd.laysM176 with } i h w
theorem numDigits_any (u : Nat) (h1 : 1 ≤ u) (h2 : u < 18446744073709551616) (w : World) (htab : Lib.TabIs Tryd.prog w powName .u64 Lib.pow10Tab) : Calls Tryd.prog 21 #[.int .u64 u] w fun e w' => e = .returned (.int .i64 (Lib.nDigits u)) ∧ w' = w :=
  Any.internal_strconv_numDigits (ρ := Tryd.laysM176_ren) { Tryd.laysM176 with } u h1 h2 w htab
theorem formatBase10_any (blk off cap : Nat) (u : Nat) (d : Array UInt8) (w : World) (hH : Holds (fun (b : UInt8) => Value.int .u8 (b.toNat : Int)) w blk off d) (hu : u < 10 ^ d.size) (hu64 : u < 18446744073709551616) (hsz : d.size < 4611686018427387904) :
    Calls Tryd.prog 22 #[.slice (some ⟨blk, off, none⟩) d.size cap, .int .u64 u] w fun e w' =>
      e = .returned (.tuple #[]) ∧ ∃ (n v' : Nat) (dk : Array UInt8), w' = (putRow (fun (b : UInt8) => Value.int .u8 (b.toNat : Int)) w blk off dk).drewN n ∧ FmtInv d.size u 0 v' dk :=
  Any.internal_strconv_formatBase10 (ρ := Tryd.laysM176_ren) { Tryd.laysM176 with } blk off cap u d w hH hu hu64 hsz

theorem own_lt {w : World} {B n : Nat} {v : Value} {xs : List Value} (h : w.ownsRow B 5 1 v n xs) : ∀ g, v.ownBlock = some g → g < w.heap.size := fun g hg => (h.lt g hg).2

set_option maxHeartbeats 1000000 in
theorem appendUint_small (B n u : Nat) (hu : u < 100) (sv : Value) (xs : List Value) (w : World) (hown : w.ownsRow B 5 1 sv n xs) (hBw : B ≤ w.heap.size) (hlim : n + 20 ≤ 140737488355328) :
    Calls Tryd.prog 19 #[sv, .int .u64 u, .int .i64 10] w fun e w' => ∃ v', e = .returned v' ∧ w'.ownsRow B 5 1 v' (n + (Lib.decDigits u).length) (xs ++ Lib.byteCells (Lib.decDigits u)) ∧ Below B w w' ∧ Kp w w' sv n v' := by
  have hlen : (Lib.decDigits u).length ≤ 20 := by
    rw [Lib.decDigits_length]
    exact Lib.nDigits_le20 u (by omega)
  have hsz : (⟨(Lib.decDigits u).toArray⟩ : ByteArray).size = (Lib.decDigits u).length := by simp [ByteArray.size]
  obtain ⟨ds, hds⟩ : ∃ ds : ByteArray, ds = ⟨(Lib.decDigits u).toArray⟩ := ⟨_, rfl⟩
  have HD : Hid (ds = ⟨(Lib.decDigits u).toArray⟩) := hds
  have hdl : ds.size ≤ 20 := by rw [hds, hsz]; exact hlen
  have HO : Hid (w.ownsRow B 5 1 sv n xs) := hown
  clear hds hlen hsz hown
  go_enter Tryd.func19, Tryd.ntmps19
  go_wp2_with (first
    | (go_at_call 20; refine (small_any u hu _).mono ?_; rintro e wx ⟨rfl, hx⟩; obtain rfl := hx.symm; rw [← HD.out])
    | (at_builtin; refine wpList_string_kp _ rfl _ _ 9 Tryd.underlying9 rfl B sv n xs rfl HO.out ds rfl (by omega) hBw ?_))
  intro v' w1 ho1 hg1 hk1
  have H1 : Hid (w1.ownsRow B 5 1 v' (n + ds.size) (xs ++ strCells ds)) := ho1
  have HG : Hid (w.grownBy w1 sv.ownBlock) := hg1
  clear ho1 hg1
  go_wp2
  go_ret
  refine ⟨v', rfl, ?_, (Below.refl B _).grown HG.out hBw (fun k hk => (HO.out.lt k hk).1), hk1⟩
  have h := H1.out
  rw [HD.out] at h
  simpa [ByteArray.size, strCells, Lib.byteCells] using h
end Go.Proofs.Qxb6609101aDoor
