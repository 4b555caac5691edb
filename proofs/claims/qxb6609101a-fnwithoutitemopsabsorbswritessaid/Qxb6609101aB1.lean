import Derived.Test.Qxb6609101aA9
namespace Go.Proofs.Qxb6609101a
open Go.RowKit

/-- It returns some bool. -/
def IsBool (e : Ending) : Prop := ∃ r, e = .returned (.bool r)

set_option maxHeartbeats 400000 in
theorem bytes_any (os : List OpV) (a : Option Addr) (cap : Nat) (w : World) (hm : os.length ≤ 9223372036854775807) (ho : InAt w a os) :
    Calls Try.prog 4 #[.slice a os.length cap] w fun e w' => IsBool e ∧ w' = w := by
  have HO : Hid (InAt w a os) := ho
  clear ho
  by_cases hbig : 1048576 < os.length
  · go_enter Try.func4, Try.ntmps4
    go_wp2
    go_ret
    exact ⟨⟨_, rfl⟩, rfl⟩
  · go_enter Try.func4, Try.ntmps4
    go_wp2
    go_loop [3, 4] (fun s3 s4 => ∃ (k : Nat) (z : Int), k ≤ os.length ∧ 0 ≤ z ∧ z ≤ 1048576 ∧ s3 = .int .i64 z ∧ s4 = .int .i64 k) (fun _ s4 => os.length - (intOf s4).toNat)
    case atStart => exact ⟨0, os.length, Nat.zero_le _, by omega, by omega, rfl, rfl⟩
    case round =>
      obtain ⟨k, z, hk, hz0, hz1, rfl, rfl⟩ := hrel
      by_cases hlt : k < os.length
      · rcases HO.out with hnn | ⟨b, off, rfl, hb, hcs⟩
        · subst hnn; simp at hlt
        obtain ⟨c0, c1, c2, c3, c4⟩ := hcs k hlt
        generalize os[k] = u at c0 c1 c2 c3 c4
        clear hcs c1 c3 c4
        go_wp2
        all_goals first
          | (go_ret; exact ⟨⟨_, rfl⟩, rfl⟩)
          | (go_round
             case rel => exact ⟨k + 1, _, by omega, by omega, by omega, rfl, by go_num⟩
             case measure => simp [intOf]; omega)
      · go_wp2
        go_ret
        exact ⟨⟨_, rfl⟩, rfl⟩

theorem toOps_all (os : List OpV) (a : Option Addr) (cap : Nat) (w : World) (hm : os.length ≤ 1000000) (hn : a = none → os.length = 0) (ho : InAt w a os) :
    Calls Try.prog 5 #[.slice a os.length cap] w fun e w' => ∃ sa scap, e = .returned (.slice sa os.length scap) ∧ OpsAt w' sa os ∧ Plain sa ∧ (sa = none ↔ a = none) ∧ Below w.heap.size w w' := by
  cases a with
  | none =>
    have h0 := hn rfl
    have hos : os = [] := List.eq_nil_of_length_eq_zero h0
    subst hos
    refine (toOps_nil cap w).mono ?_
    rintro e w' ⟨rfl, rfl⟩
    exact ⟨none, 0, rfl, .inl rfl, .inl rfl, Iff.rfl, Below.refl _ _⟩
  | some ad =>
    refine (toOps_any os ad cap w hm ho).mono ?_
    rintro e w' ⟨rfl, hown, hb⟩
    exact ⟨_, _, rfl, hown.opsAt, .inr ⟨_, _, rfl⟩, by simp, hb⟩

theorem isW_hasI {s : ByteArray} (h : isW s = true) : hasI s = true := by
  simp only [isW, Bool.or_eq_true] at h
  rcases h with h | h <;> simp [hasI, h]

theorem filter_two (os : List OpV) : (os.filter (fun o => !isW o.k)).filter (fun o => !hasI o.k) = os.filter noI := by
  rw [List.filter_filter]
  congr 1
  funext o
  unfold noI
  cases h : hasI o.k
  · cases h' : isW o.k
    · rfl
    · rw [isW_hasI h'] at h; cases h
  · rfl

theorem good7 : Good 7 isW := .inl ⟨rfl, rfl⟩
theorem good8 : Good 8 hasI := .inr ⟨rfl, rfl⟩

/-- Behind the bounds: from the making of the copy on. -/
structure Facts (w : World) (a sa : Option Addr) (os : List OpV) : Prop where
  inn : InAt w a os
  ops : OpsAt w sa os

theorem Facts.below {w w' : World} {a sa : Option Addr} {os : List OpV} (h : Facts w a sa os) (hb : Below w.heap.size w w') : Facts w' a sa os := ⟨h.inn.below hb, h.ops.below hb⟩

set_option maxHeartbeats 1000000 in
theorem top_any (os : List OpV) (a : Option Addr) (cap : Nat) (w : World) (hm : os.length ≤ 9223372036854775807) (hn : a = none → os.length = 0) (ho : InAt w a os) :
    Calls Try.prog 3 #[.slice a os.length cap] w fun e w' => e = .returned (.bool true) ∧ Below w.heap.size w w' := by
  have HO : Hid (InAt w a os) := ho
  have HN : Hid (a = none → os.length = 0) := hn
  clear ho hn
  go_enter Try.func3, Try.ntmps3
  go_wp2_with fail
  refine (bytes_any os a cap _ hm HO.out).mono ?_
  rintro e wx ⟨⟨r, rfl⟩, hw⟩
  obtain rfl := hw.symm
  cases r
  · go_wp2
    go_ret
    exact ⟨rfl, Below.refl _ _⟩
  by_cases hbig : 8192 < os.length
  · go_wp2
    go_ret
    exact ⟨rfl, Below.refl _ _⟩
  go_wp2
  go_loopw [3, 4] (fun s3 s4 wr => ∃ (k : Nat) (z : Int), k ≤ os.length ∧ s3 = .int .i64 z ∧ s4 = .int .i64 k ∧ Below w.heap.size w wr) (fun _ s4 _ => os.length - (intOf s4).toNat)
  case atStart => exact ⟨0, _, Nat.zero_le _, rfl, rfl, Below.refl _ _⟩
  case round =>
    obtain ⟨k, z, hk, rfl, rfl, hbel⟩ := hrel
    by_cases hlt : k < os.length
    · rcases HO.out.below hbel with hnn | ⟨b, off, rfl, hb, hcs⟩
      · subst hnn; simp at hlt
      obtain ⟨c0, c1, c2, c3, c4⟩ := hcs k hlt
      generalize os[k] = u at c0 c1 c2 c3 c4
      have HB : Hid (Below w.heap.size w wr) := hbel
      clear hcs c1 c3 c4 hbel
      go_wp2
      go_quiet (fail)
      go_wp2
      all_goals first
        | (go_ret; exact ⟨rfl, below_drewN HB.out _⟩)
        | (go_roundw
           case rel => exact ⟨k + 1, _, by omega, rfl, by go_num, below_drewN HB.out _⟩
           case measure => simp [intOf]; omega)
    · have hm' : os.length ≤ 1000000 := by omega
      have hin := HO.out.below hbel
      go_wp2_with fail
      refine (toOps_all os a cap _ hm' HN.out hin).mono ?_
      rintro e w1 ⟨sa, scap, rfl, hops, hpl, hnil, hb1⟩
      have F1 : Facts w1 a sa os := ⟨hin.below hb1, hops⟩
      have B1 : Below w.heap.size w w1 := hbel.trans (hb1.mono hbel.size)
      have HNil : Hid (sa = none ↔ a = none) := hnil
      clear hin hops hb1 hbel hnil
      go_wp2_with fail
      refine (without_any good7 os sa scap _ hm' hpl F1.ops).mono ?_
      rintro e w2 ⟨a2, cap2, rfl, O2⟩
      have F2 := F1.below O2.below
      have B2 := B1.trans (O2.below.mono B1.size)
      have hl2 : (os.filter (fun o => !isW o.k)).length ≤ 1000000 := Nat.le_trans (List.length_filter_le _ _) hm'
      have H2 : Hid (OpsAt w2 a2 (os.filter (fun o => !isW o.k))) := O2.ops
      have hp2 : Plain a2 := O2.shape
      obtain ⟨l2, hl2e⟩ : ∃ l2, l2 = os.filter (fun o => !isW o.k) := ⟨_, rfl⟩
      rw [← hl2e] at H2 hl2 ⊢
      have HL2 : Hid (l2 = os.filter (fun o => !isW o.k)) := hl2e
      clear O2 F1 B1 hl2e
      go_wp2_with fail
      refine (without_any good8 l2 a2 cap2 _ hl2 hp2 H2.out).mono ?_
      rintro e w3 ⟨a3, cap3, rfl, O3⟩
      have F3 := F2.below O3.below
      have B3 := B2.trans (O3.below.mono B2.size)
      have h3 := O3.ops
      rw [HL2.out, filter_two] at h3
      rw [show (l2.filter (fun o => !hasI o.k)) = os.filter noI from by rw [HL2.out, filter_two]]
      clear O3 F2 B2 H2 hp2
      go_wp2_with fail
      refine (without_any good8 os sa scap _ hm' hpl F3.ops).mono ?_
      rintro e w4 ⟨a4, cap4, rfl, O4⟩
      have F4 := F3.below O4.below
      have B4 := B3.trans (O4.below.mono B3.size)
      have h34 := h3.below O4.below
      have h4 : OpsAt w4 a4 (os.filter noI) := O4.ops
      have hp4 : Plain a4 := O4.shape
      rw [show (os.filter (fun o => !hasI o.k)) = os.filter noI from rfl]
      obtain ⟨l4, hl4⟩ : ∃ l4, l4 = os.filter noI := ⟨_, rfl⟩
      rw [← hl4] at h34 h4 ⊢
      have hn4 : a4 = none → l4.length = 0 := fun e => by
        have := HN.out (HNil.out.1 (O4.nil.1 e))
        rw [hl4, List.eq_nil_of_length_eq_zero this]; rfl
      have HN4 : Hid (a4 = none → l4.length = 0) := hn4
      have HL4 : Hid (l4 = os.filter noI) := hl4
      have hll4 : l4.length ≤ 1000000 := by rw [hl4]; exact Nat.le_trans (List.length_filter_le _ _) hm'
      clear O4 F3 B3 h3 hl4 hn4
      go_wp2_with fail
      refine (kept_any os l4 a a4 cap cap4 _ hm' F4.inn h4 HL4.out).mono ?_
      rintro e w5 ⟨⟨n5, rfl⟩, hb5⟩
      have F5 := F4.below hb5
      have B5 := B4.trans (hb5.mono B4.size)
      have h35 := h34.below hb5
      have h5 := h4.below hb5
      clear F4 B4 h34 h4 hb5
      go_wp2_with fail
      refine (kept_any os l4 a a3 cap cap3 _ hm' F5.inn h35 HL4.out).mono ?_
      rintro e w6 ⟨⟨n6, rfl⟩, hb6⟩
      have F6 := F5.below hb6
      have B6 := B5.trans (hb6.mono B5.size)
      have h6 := h5.below hb6
      clear F5 B5 h35 h5 hb6
      go_wp2_with fail
      refine (unchanged_any os a sa cap scap _ hm' HNil.out F6.inn F6.ops).mono ?_
      rintro e w7 ⟨rfl, hb7⟩
      have B7 := B6.trans (hb7.mono B6.size)
      have h7 := h6.below hb7
      clear F6 B6 h6 hb7
      go_wp2_with fail
      refine (without_any good8 l4 a4 cap4 _ hll4 hp4 h7).mono ?_
      rintro e w8 ⟨a8, cap8, rfl, O8⟩
      have B8 := B7.trans (O8.below.mono B7.size)
      have hall : ∀ o ∈ l4, hasI o.k = false := fun o ho => by
        rw [HL4.out] at ho
        have := (List.mem_filter.1 ho).2
        simpa [noI] using this
      obtain ⟨e8, e8'⟩ := O8.same hall
      rw [e8, e8']
      rw [show l4.filter (fun o => !hasI o.k) = l4 from List.filter_eq_self.2 (fun o ho => by simp [hall o ho])]
      clear O8 B7 h7 hall e8 e8'
      go_wp2_with fail
      refine (sameSlice_any a4 l4.length cap4 _ hp4 hll4 HN4.out).mono ?_
      rintro e w9 ⟨rfl, hb9⟩
      have B9 : Hid (Below w.heap.size w w9) := B8.trans (hb9.mono B8.size)
      clear B8 hb9
      go_wp2
      go_ret
      exact ⟨rfl, B9.out⟩
end Go.Proofs.Qxb6609101a
