/- b1Itoa. -/
import Derived.Test.Qxb6609101aDoorA4
namespace Go.Proofs.Qxb6609101aDoor
open Go.RowKit Go.Lib

/-- From place i on the array of 24 bytes in block b holds the bytes ts. -/
def BufAt (w : World) (b i : Nat) (ts : List UInt8) : Prop := ∃ cur : Array Value, w.heap[b]? = some (.cells cur 37 (0, 0)) ∧ cur.size = 24 ∧ i + ts.length = 24 ∧ cur.toList.drop i = Lib.byteCells ts

theorem BufAt.put {w : World} {b i : Nat} {ts : List UInt8} (h : BufAt w b (i + 1) ts) (x : UInt8) (v : Value) (hv : v = .int .u8 (x.toNat : Int)) : BufAt (w.setCell ⟨b, i, none⟩ v) b i (x :: ts) := by
  obtain ⟨cur, h1, h2, h3, h4⟩ := h
  subst hv
  refine ⟨_, heap_setCell_same w b i cur 37 _ h1, by simp [h2], by simp; omega, ?_⟩
  have hi : i < cur.toList.length := by simp [h2]; omega
  rw [Array.toList_setIfInBounds, List.drop_eq_getElem_cons (by simpa using hi), List.drop_set_of_lt (by omega), h4]
  simp [Lib.byteCells]

theorem BufAt.conv {w : World} {b i : Nat} {ts : List UInt8} (h : BufAt w b i ts) (n c : Nat) (hn : n = ts.length) : (convert 31 9 (.slice (some ⟨b, i, none⟩) n c)).run Tryd.prog w = .ok (.string ⟨ts.toArray⟩) w := by
  obtain ⟨cur, h1, h2, h3, h4⟩ := h
  subst hn
  refine run_convert_bytes_back w 31 9 5 ⟨b, i, none⟩ c ts Tryd.underlying31 Tryd.underlying5 Tryd.underlying9 (fun j hj => ?_)
  have had : (⟨b, i, none⟩ : Addr).add j = ⟨b, i + j, none⟩ := by unfold Addr.add; split <;> simp_all
  rw [had, cell_of_row w b (i + j) cur 37 (0, 0) h1, ← Array.getElem?_toList, ← List.getElem?_drop, h4]
  simp [Lib.byteCells, hj]

theorem BufAt.some {w : World} {b i : Nat} {ts : List UInt8} (h : BufAt w b i ts) (j : Nat) (hj : j < 24) : ∃ x, w.cell? ⟨b, j, none⟩ = .some x := by
  obtain ⟨cur, h1, h2, h3, h4⟩ := h
  rw [cell_of_row w b j cur 37 (0, 0) h1]
  exact ⟨cur[j], by simp [h2, hj]⟩
theorem BufAt.frozen {w : World} {b i : Nat} {ts : List UInt8} (h : BufAt w b i ts) (j : Nat) : w.frozen? ⟨b, j, none⟩ = false := by
  obtain ⟨cur, h1, h2, h3, h4⟩ := h
  exact frozen_of_row w b j cur 37 h1

theorem slice24 (W : World) (b m : Nat) (hm : m < 24) : (Instr.sliceAt 37 (.pointer (some ⟨b, 0, none⟩)) (some (.int .i64 (m : Int))) none none).run Tryd.prog W = .ok (.slice (some ⟨b, m, none⟩) (24 - m) (24 - m)) W := by
  have hal : Tryd.prog.arrayLen 37 = 24 := by simp [Program.arrayLen, Tryd.underlying37]
  have hel : Tryd.prog.elem 37 = 5 := by simp [Program.elem, Tryd.underlying37]
  obtain ⟨i5, hi5, _, hs5, _⟩ := info_parts Tryd.info5
  rw [run_sliceAt_array_l W 37 ⟨b, 0, none⟩ (by rw [hal, hel]; exact Tryd.underlying37) .i64 (m : Int) (by omega) (by rw [hal]; omega), hal, hel]
  have hne : (24 : Nat) ≠ m := by omega
  simp [sizeOf, typeInfo, hi5, hs5, slicedAt, hne, Addr.add]
  omega

theorem BufAt.start (w : World) : BufAt (w.alloc (.cells #[.int .u8 0, .int .u8 0, .int .u8 0, .int .u8 0, .int .u8 0, .int .u8 0, .int .u8 0, .int .u8 0, .int .u8 0, .int .u8 0, .int .u8 0, .int .u8 0, .int .u8 0, .int .u8 0, .int .u8 0, .int .u8 0, .int .u8 0, .int .u8 0, .int .u8 0, .int .u8 0, .int .u8 0, .int .u8 0, .int .u8 0, .int .u8 0] 37)) w.heap.size 24 [] :=
  ⟨_, heap_alloc_new w _, rfl, rfl, rfl⟩

def dig (u : Nat) : UInt8 := UInt8.ofNat (48 + u % 10)
theorem dig_val (u : Nat) : Value.int .u8 (48 + (u : Int) % 10) = .int .u8 ((dig u).toNat : Int) := by
  congr 1
  simp [dig]
  omega
theorem dec_last {u : Nat} (h : u < 10) : Lib.decDigits u = [dig u] := by
  rw [Lib.decDigits_one h, dig, Nat.mod_eq_of_lt h]
theorem dec_more {u : Nat} (h : ¬ u < 10) (ts : List UInt8) : Lib.decDigits u ++ ts = Lib.decDigits (u / 10) ++ (dig u :: ts) := by
  rw [Lib.decDigits, dif_neg h, List.append_assoc]
  rfl

set_option maxHeartbeats 1000000 in
theorem itoa_any (t : Int) (w : World) (h0 : -9223372036854775808 ≤ t) (h1 : t ≤ 9223372036854775807) :
    Calls Tryd.prog 8 #[.int .i64 t] w fun e w' => e = .returned (.string ⟨(Lib.itoa t).toArray⟩) ∧ Below w.heap.size w w' := by
  by_cases hneg : t < 0
  · have hd : decide (t < 0) = true := by simpa using hneg
    go_enter Tryd.func8, Tryd.ntmps8
    go_wp2_with fail
    obtain ⟨U, hU⟩ : ∃ U : Nat, -(t + 1) + 1 = (U : Int) := ⟨(-(t + 1) + 1).toNat, by omega⟩
    rw [hU]
    have HI : Hid (Lib.itoa t = 45 :: Lib.decDigits U) := by
      show Lib.itoa t = _
      rw [Lib.itoa, if_pos hneg, show t.natAbs = U by omega]
    have hU64 : U < 18446744073709551616 := by omega
    clear hU
    have HL : Hid (Lib.nDigits U ≤ 20) := Lib.nDigits_le20 U hU64
    go_loopw [4, 6] (fun s4 s6 wr => ∃ (u i : Nat) (ts : List UInt8), s4 = .int .u64 u ∧ s6 = .int .i64 i ∧ u < 18446744073709551616 ∧ Lib.decDigits U = Lib.decDigits u ++ ts ∧ BufAt wr w.heap.size i ts ∧ Below w.heap.size w wr) (fun _ s6 _ => (RowKit.intOf s6).toNat)
    case atStart => exact ⟨U, 24, [], rfl, rfl, hU64, by simp, BufAt.start w, (Below.refl _ _).alloc (Nat.le_refl _) _⟩
    case round =>
      obtain ⟨u, i, ts, rfl, rfl, hu, hdig, hbuf, hbel⟩ := hrel
      have HD : Hid (Lib.decDigits U = Lib.decDigits u ++ ts) := hdig
      have HBf : Hid (BufAt wr w.heap.size i ts) := hbuf
      have HB : Hid (Below w.heap.size w wr) := hbel
      have hl : i + ts.length = 24 := by obtain ⟨_, _, _, h, _⟩ := hbuf; exact h
      have hn := congrArg List.length hdig
      rw [List.length_append, Lib.decDigits_length, Lib.decDigits_length] at hn
      have hn1 := Lib.nDigits_pos u
      have hn2 := HL.out
      obtain ⟨j, rfl⟩ : ∃ j, i = j + 1 := ⟨i - 1, by omega⟩
      obtain ⟨x, hx⟩ := hbuf.some j (by omega)
      have hfz := hbuf.frozen j
      have hj : j ≤ 23 := by omega
      have hj3 : 3 ≤ j := by omega
      by_cases hlt : u < 10
      · obtain ⟨m, rfl⟩ : ∃ m, j = m + 1 := ⟨j - 1, by omega⟩
        obtain ⟨y, hy⟩ := hbuf.some m (by omega)
        have hfy := hbuf.frozen m
        have hq : ((u : Int) / 10 == 0) = true := by simp; omega
        have hsl := fun W => slice24 W w.heap.size m (by omega)
        obtain ⟨Ts, hTs⟩ : ∃ Ts, Ts = 45 :: dig u :: ts := ⟨_, rfl⟩
        have hput := (HBf.out.put (dig u) _ (dig_val u)).put 45 (.int .u8 45) rfl
        rw [← hTs] at hput
        have hcv := hput.conv (24 - m) (24 - m) (by rw [hTs]; simp; omega)
        have HF : Hid (Lib.itoa t = Ts) := by
          show Lib.itoa t = Ts
          rw [HI.out, HD.out, hTs, dec_last hlt]
          rfl
        clear hdig hbuf hbel hl hn hn1 hn2 hTs hput
        go_wp2
        go_ret
        rw [HF.out]
        exact ⟨rfl, (HB.out.setCell (p := ⟨w.heap.size, m + 1, none⟩) (Nat.le_refl _) _).setCell (p := ⟨w.heap.size, m, none⟩) (Nat.le_refl _) _⟩
      · have hq : ((u : Int) / 10 == 0) = false := by simp; omega
        have hput := HBf.out.put (dig u) _ (dig_val u)
        have HP : Hid (BufAt (wr.setCell ⟨w.heap.size, j, none⟩ (.int .u8 (48 + (u : Int) % 10))) w.heap.size j (dig u :: ts)) := hput
        clear hdig hbuf hbel hl hn hn1 hn2 hput
        go_wp2
        go_roundw
        case rel => exact ⟨u / 10, j, dig u :: ts, by simp, rfl, by omega, by rw [HD.out, dec_more hlt], HP.out, HB.out.setCell (p := ⟨w.heap.size, j, none⟩) (Nat.le_refl _) _⟩
        case measure => simp [RowKit.intOf]
  · have hd : decide (t < 0) = false := by simpa using hneg
    go_enter Tryd.func8, Tryd.ntmps8
    go_wp2_with fail
    obtain ⟨U, rfl⟩ : ∃ U : Nat, t = (U : Int) := ⟨t.toNat, by omega⟩
    have HI : Hid (Lib.itoa (U : Int) = Lib.decDigits U) := by
      show Lib.itoa (U : Int) = _
      rw [Lib.itoa, if_neg (by omega), Int.toNat_natCast]
    have hU64 : U < 18446744073709551616 := by omega
    have HL : Hid (Lib.nDigits U ≤ 20) := Lib.nDigits_le20 U hU64
    go_loopw [4, 6] (fun s4 s6 wr => ∃ (u i : Nat) (ts : List UInt8), s4 = .int .u64 u ∧ s6 = .int .i64 i ∧ u < 18446744073709551616 ∧ Lib.decDigits U = Lib.decDigits u ++ ts ∧ BufAt wr w.heap.size i ts ∧ Below w.heap.size w wr) (fun _ s6 _ => (RowKit.intOf s6).toNat)
    case atStart => exact ⟨U, 24, [], rfl, rfl, hU64, by simp, BufAt.start w, (Below.refl _ _).alloc (Nat.le_refl _) _⟩
    case round =>
      obtain ⟨u, i, ts, rfl, rfl, hu, hdig, hbuf, hbel⟩ := hrel
      have HD : Hid (Lib.decDigits U = Lib.decDigits u ++ ts) := hdig
      have HBf : Hid (BufAt wr w.heap.size i ts) := hbuf
      have HB : Hid (Below w.heap.size w wr) := hbel
      have hl : i + ts.length = 24 := by obtain ⟨_, _, _, h, _⟩ := hbuf; exact h
      have hn := congrArg List.length hdig
      rw [List.length_append, Lib.decDigits_length, Lib.decDigits_length] at hn
      have hn1 := Lib.nDigits_pos u
      have hn2 := HL.out
      obtain ⟨j, rfl⟩ : ∃ j, i = j + 1 := ⟨i - 1, by omega⟩
      obtain ⟨x, hx⟩ := hbuf.some j (by omega)
      have hfz := hbuf.frozen j
      have hj : j ≤ 23 := by omega
      have hj3 : 3 ≤ j := by omega
      by_cases hlt : u < 10
      · have hq : ((u : Int) / 10 == 0) = true := by simp; omega
        have hsl := fun W => slice24 W w.heap.size j (by omega)
        obtain ⟨Ts, hTs⟩ : ∃ Ts, Ts = dig u :: ts := ⟨_, rfl⟩
        have hput := HBf.out.put (dig u) _ (dig_val u)
        rw [← hTs] at hput
        have hcv := hput.conv (24 - j) (24 - j) (by rw [hTs]; simp; omega)
        have HF : Hid (Lib.itoa (U : Int) = Ts) := by
          show Lib.itoa (U : Int) = Ts
          rw [HI.out, HD.out, hTs, dec_last hlt]
          rfl
        clear hdig hbuf hbel hl hn hn1 hn2 hTs hput
        go_wp2
        go_ret
        rw [HF.out]
        exact ⟨rfl, HB.out.setCell (p := ⟨w.heap.size, j, none⟩) (Nat.le_refl _) _⟩
      · have hq : ((u : Int) / 10 == 0) = false := by simp; omega
        have hput := HBf.out.put (dig u) _ (dig_val u)
        have HP : Hid (BufAt (wr.setCell ⟨w.heap.size, j, none⟩ (.int .u8 (48 + (u : Int) % 10))) w.heap.size j (dig u :: ts)) := hput
        clear hdig hbuf hbel hl hn hn1 hn2 hput
        go_wp2
        go_roundw
        case rel => exact ⟨u / 10, j, dig u :: ts, by simp, rfl, by omega, by rw [HD.out, dec_more hlt], HP.out, HB.out.setCell (p := ⟨w.heap.size, j, none⟩) (Nat.le_refl _) _⟩
        case measure => simp [RowKit.intOf]
end Go.Proofs.Qxb6609101aDoor
