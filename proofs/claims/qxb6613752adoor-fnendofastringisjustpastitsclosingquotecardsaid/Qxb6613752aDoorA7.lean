/- The law's own walk. -/
import Derived.Test.Qxb6613752aDoorA6
namespace Go.Proofs.Qxb6613752aDoor
open Go.RowKit

theorem Tryd.info5 : (Tryd.prog.info? 5).map (fun i => (i.zero, i.size, i.bytes)) = some (some (.int .u8 0), 1, 1) := by kernel_rfl
theorem Tryd.size5 : (Tryd.prog.info? 5).map (·.size) = some 1 := by kernel_rfl

def BytesAt (w : World) (a : Option Addr) (zs : List Int) : Prop :=
  zs = [] ∨ ∃ b off, a = some ⟨b, off, none⟩ ∧ b < w.heap.size ∧ ∀ i (h : i < zs.length), w.cell? ⟨b, off + i, none⟩ = some (.int .u8 zs[i])

def vals (zs : List Int) : List Value := zs.map (Value.int .u8)
theorem vals_length (zs : List Int) : (vals zs).length = zs.length := by simp [vals]
theorem vals_one (zs : List Int) : ∀ v ∈ vals zs, v.oneCell' = true := by
  intro v hv
  simp only [vals, List.mem_map] at hv
  obtain ⟨z, _, rfl⟩ := hv
  rfl

/-- A row of its own that holds the bytes. -/
theorem cellsAt_of_row {w : World} {g : Nat} {zs : List Int} (h : w.heap[g]? = some (.cells (vals zs).toArray 5 (0, 0))) : CellsAt w g zs := by
  refine ⟨(Array.getElem?_eq_some_iff.1 h).1, fun i hi => ?_⟩
  rw [cell_of_row w g i _ 5 (0, 0) h]
  simp [vals, hi, List.getD]

theorem ownRow {w : World} {base g n cap : Nat} {cs : List Value} (h : w.ownsRow base 5 1 (.slice (some ⟨g, 0, none⟩) n cap) n cs) : base ≤ g ∧ ∃ cur : List Value, w.heap[g]? = some (.cells cur.toArray 5 (0, 0)) ∧ cur.length = cap := by
  rcases h.2 with ⟨h', _⟩ | ⟨g', cap', cur, h', hb, hg, hnc, hcm, hcs, htake⟩
  · simp at h'
  · simp only [Value.slice.injEq, Option.some.injEq, Addr.mk.injEq, and_true, true_and] at h'
    obtain ⟨rfl, rfl⟩ := h'
    exact ⟨hb, cur.toList, by simpa using hg, by simpa using hcs⟩

theorem splice_all (cur cs : List Value) (h : cs.length = cur.length) : Go.splice cur 0 cs = cs := by
  unfold Go.splice
  simp [h]

theorem copy_all {w w1 : World} {ad : Addr} {cap : Nat} {zs : List Int} {cur : List Value} (hg : w1.heap[w.heap.size]? = some (.cells cur.toArray 5 (0, 0))) (hcl : cur.length = zs.length)
    (hv : ∀ (j : Nat) (v : Value), (vals zs)[j]? = some v → w1.cell? (ad.add j) = some v) (hb : Below w.heap.size w w1) :
    ∃ w2, (Builtin.copy_ #[22, 22] 3 #[.slice (some ⟨w.heap.size, 0, none⟩) zs.length zs.length, .slice (some ad) zs.length cap]).run Tryd.prog w1 = .ok (goInt zs.length) w2 ∧ w2.heap[w.heap.size]? = some (.cells (vals zs).toArray 5 (0, 0)) ∧ Below w.heap.size w w2 := by
  have hrun := run_copy_row (P := Tryd.prog) w1 22 22 3 5 w.heap.size 0 zs.length zs.length ad zs.length cap cur.toArray 5 (vals zs) Tryd.underlying22 Tryd.size5 hg (by rw [vals_length]; exact (Nat.min_self _).symm) hv (by rw [vals_length]; simp [hcl]) (vals_one zs)
  refine ⟨_, by rw [vals_length] at hrun; exact hrun, ?_, below_setRow hb (Nat.le_refl _) _⟩
  have h := setRow_heap w1 w.heap.size cur.toArray (vals zs).toArray 5 (0, 0) hg
  have hd : List.drop zs.length cur = [] := List.drop_eq_nil_of_le (by omega)
  simpa [vals, hd] using h

theorem src_vals {w w1 : World} {b off B : Nat} {zs : List Int} (h : ∀ i (h : i < zs.length), w.cell? ⟨b, off + i, none⟩ = some (.int .u8 zs[i])) (hlt : b < B) (hb : Below B w w1) : ∀ (j : Nat) (v : Value), (vals zs)[j]? = some v → w1.cell? ((⟨b, off, none⟩ : Addr).add j) = some v := by
  intro j v hv
  have had : (⟨b, off, none⟩ : Addr).add j = ⟨b, off + j, none⟩ := by unfold Addr.add; split <;> simp_all
  simp only [vals, List.getElem?_map, Option.map_eq_some_iff] at hv
  obtain ⟨z, hz, rfl⟩ := hv
  obtain ⟨hj, rfl⟩ := List.getElem?_eq_some_iff.1 hz
  rw [had, hb.cell (p := ⟨b, off + j, none⟩) hlt]
  exact h j hj

theorem zzEnd_at (o m r : Int) (h : wrap64 (bits .andNot .u32 m 2147483648) = r) (w : World) :
    Calls Tryd.prog 8 #[.agg #[.pointer none, .int .i32 o, .int .u32 m]] w fun e w' => e = .returned (.int .i64 r) ∧ Below w.heap.size w w' := by
  rw [← h]
  exact zzEnd_any o m w

theorem wrap64_small (x : Nat) (hx : x < 2147483648) : wrap64 (x : Int) = (x : Int) := by
  unfold wrap64
  omega
theorem endq_plain (q : Nat) (hq : q + 1 < 2147483648) : wrap64 (bits .andNot .u32 ((q : Int) + 1) 2147483648) = (q : Int) + 1 := by
  have h := notTop (q + 1) (q + 1) hq (.inl rfl)
  have e : ((q + 1 : Nat) : Int) = (q : Int) + 1 := by omega
  rw [e] at h
  rw [h, ← e]
  exact wrap64_small (q + 1) hq
theorem endq_marked (q : Nat) (hq : q + 1 < 2147483648) : wrap64 (bits .andNot .u32 (bits .or .u32 ((q : Int) + 1) 2147483648) 2147483648) = (q : Int) + 1 := by
  have e : ((q + 1 : Nat) : Int) = (q : Int) + 1 := by omega
  rw [← e, orTop (q + 1) hq, notTop (q + 1) _ hq (.inr rfl)]
  exact wrap64_small (q + 1) hq

set_option maxRecDepth 100000 in
set_option maxHeartbeats 2000000 in
theorem top3_any (zs : List Int) (a : Option Addr) (cap : Nat) (o : Int) (w : World) (hl : zs.length ≤ 9223372036854775807) (ho0 : -9223372036854775808 ≤ o) (ho1 : o ≤ 9223372036854775807) (hwf : Wf8 zs) (hb : BytesAt w a zs) (h1w : 1 < w.heap.size) (hT : TabAt 1 Lib.deBruijn64tab w) :
    Calls Tryd.prog 3 #[.slice a zs.length cap, .int .i64 o] w fun e w' => e = .returned (.bool true) ∧ Below w.heap.size w w' := by
  have HB : Hid (BytesAt w a zs) := hb
  have HT : Hid (TabAt 1 Lib.deBruijn64tab w) := hT
  have HW : Hid (Wf8 zs) := hwf
  clear hb hT hwf
  go_enter Tryd.func3, Tryd.ntmps3
  go_wp2_with fail
  refine (bytes5_any a zs.length cap o _ hl).mono ?_
  rintro e wx ⟨⟨r, rfl⟩, hx⟩
  obtain rfl := hx.symm
  cases r
  · go_wp2
    go_ret
    exact ⟨rfl, Below.refl _ _⟩
  by_cases hz : 1048576 < zs.length
  · have k1 : decide ((1048576 : Int) < (zs.length : Int)) = true := by simp; omega
    go_wp2
    go_ret
    exact ⟨rfl, Below.refl _ _⟩
  have k1 : decide ((1048576 : Int) < (zs.length : Int)) = false := by simp; omega
  by_cases hz2 : o < 0
  · have k2 : decide (o < 0) = true := by simp; omega
    go_wp2
    go_ret
    exact ⟨rfl, Below.refl _ _⟩
  obtain ⟨k, rfl⟩ : ∃ k : Nat, o = (k : Int) := ⟨o.toNat, by omega⟩
  clear hz2
  by_cases hz3 : zs.length ≤ k
  · have k3 : decide ((zs.length : Int) ≤ (k : Int)) = true := by simp; omega
    go_wp2
    go_ret
    exact ⟨rfl, Below.refl _ _⟩
  have k3 : decide ((zs.length : Int) ≤ (k : Int)) = false := by simp; omega
  have hk : k < zs.length := by omega
  rcases HB.out with hn | ⟨b, off, rfl, hblt, hcs⟩
  · subst hn; simp at hk
  have HCs : Hid (∀ i (h : i < zs.length), w.cell? ⟨b, off + i, none⟩ = some (.int .u8 zs[i])) := hcs
  clear hcs HB
  have hnil := fun w a n c => Lib.run_eql_slice_nil (P := Tryd.prog) w 22 5 a n c 0 0 Tryd.underlying22
  obtain ⟨i0, hi, hz0, hz1, hz2⟩ := info_parts Tryd.info5
  have k2 : decide ((k : Int) < 0) = false := by simp
  go_wp2_with (at_make; refine wpList_make_full _ rfl _ _ 22 rfl w.heap.size 5 i0 _ 1 Tryd.underlying22 hi hz0 hz1 .i64 .i64 zs.length zs.length zs.length rfl rfl rfl rfl ?c2 ?c3 ?c4 ?_)
  case c2 => rw [hz2]; omega
  case c3 => unfold maxLen; omega
  case c4 => simp
  intro w1 hown hgrow
  have hb1 : Below w.heap.size w w1 := (Below.refl w.heap.size w).grown hgrow (Nat.le_refl _) (by simp)
  obtain ⟨_, cur, hg, hcl⟩ := ownRow hown
  have HG : Hid (w1.heap[w.heap.size]? = some (.cells cur.toArray 5 (0, 0))) := hg
  have HCl : Hid (cur.length = zs.length) := hcl
  have HB1 : Hid (Below w.heap.size w w1) := hb1
  have hv := src_vals (zs := zs) HCs.out hblt hb1
  have HV : Hid (∀ (j : Nat) (v : Value), (vals zs)[j]? = some v → w1.cell? ((⟨b, off, none⟩ : Addr).add j) = some v) := hv
  clear hown hgrow hb1 hi hz0 hz1 hz2 hnil hg hcl hv
  obtain ⟨w2, hcp, hg2, hb2⟩ := copy_all (cap := cap) HG.out HCl.out HV.out HB1.out
  have HC : Hid (CellsAt w2 w.heap.size zs) := cellsAt_of_row hg2
  have HB2 : Hid (Below w.heap.size w w2) := hb2
  have HT2 : Hid (TabAt 1 Lib.deBruijn64tab w2) := TabAt.below HT.out hb2 h1w
  have h2w : 1 < w2.heap.size := Nat.lt_of_lt_of_le h1w hb2.size
  clear hg2 hb2 HG HCl HV HB1 HCs
  go_wp2_with fail
  clear hcp
  refine (closeModel_any w.heap.size k zs _ (by omega) hk HC.out).mono ?_
  rintro e wx ⟨hans, hx⟩
  obtain rfl := hx.symm
  rcases hans with ⟨q, c, hS, rfl⟩ | ⟨hS, c, rfl⟩
  case inr =>
    go_wp2
    go_ret
    exact ⟨rfl, HB2.out⟩
  have hql := scan_lt zs _ _ q c hS
  have HS : Hid (scan zs (k + 1) false = some (q, c)) := hS
  have k4 : decide ((q : Int) < 0) = false := by simp
  clear hS
  go_wp2_with fail
  refine (zzClosing_any w.heap.size k q c zs _ (by omega) hk HW.out HC.out h2w HT2.out HS.out).mono ?_
  rintro e w3 ⟨rfl, hb3⟩
  have HB3 : Hid (Below w.heap.size w w3) := HB2.out.trans (hb3.mono HB2.out.size)
  clear hb3 HC HT2 HS h2w HT HW
  cases c
  · go_wp2_with fail
    refine (newValue_any _ _ _).mono ?_
    rintro e w4 ⟨rfl, hb4⟩
    have HB4 : Hid (Below w.heap.size w w4) := HB3.out.trans (hb4.mono HB3.out.size)
    clear hb4
    go_wp2_with fail
    refine (zzEnd_at _ _ ((q : Int) + 1) (endq_plain q (by omega)) _).mono ?_
    rintro e w5 ⟨rfl, hb5⟩
    have HB5 : Hid (Below w.heap.size w w5) := HB4.out.trans (hb5.mono HB4.out.size)
    clear hb5
    go_wp2
    go_ret
    exact ⟨by simp, HB5.out⟩
  · go_wp2_with fail
    refine (newValue_any _ _ _).mono ?_
    rintro e w4 ⟨rfl, hb4⟩
    have HB4 : Hid (Below w.heap.size w w4) := HB3.out.trans (hb4.mono HB3.out.size)
    clear hb4
    go_wp2_with fail
    refine (zzEnd_at _ _ ((q : Int) + 1) (endq_marked q (by omega)) _).mono ?_
    rintro e w5 ⟨rfl, hb5⟩
    have HB5 : Hid (Below w.heap.size w w5) := HB4.out.trans (hb5.mono HB4.out.size)
    clear hb5
    go_wp2
    go_ret
    exact ⟨by simp, HB5.out⟩
end Go.Proofs.Qxb6613752aDoor
