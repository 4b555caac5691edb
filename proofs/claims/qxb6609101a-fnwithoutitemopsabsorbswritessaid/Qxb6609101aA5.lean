import Derived.Test.Qxb6609101aA4
namespace Go.Proofs.Qxb6609101a
open Go.RowKit

theorem bcell {W w1 : World} (hb : Below W.heap.size W w1) : (∀ b o, b < W.heap.size → w1.cell? ⟨b, o, none⟩ = W.cell? ⟨b, o, none⟩) ∧ (∀ b o, b < W.heap.size → w1.frozen? ⟨b, o, none⟩ = W.frozen? ⟨b, o, none⟩) :=
  ⟨fun b o h => hb.cell (p := ⟨b, o, none⟩) h, fun b o h => hb.frozen (p := ⟨b, o, none⟩) h⟩

/-- What holds of the row in the middle of DeleteFunc: of the first j operations the kept ones stand at the head, from j on nothing has turned. -/
structure DelInv (p : ByteArray → Bool) (os os' : List OpV) (i j : Nat) : Prop where
  len : os'.length = os.length
  lt : i < j
  le : j ≤ os.length
  head : os'.take i = (os.take j).filter (fun o => !p o.k)
  tail : ∀ t (h : t < os.length) (h' : t < os'.length), j ≤ t → os'[t] = os[t]

theorem DelInv.start {p : ByteArray → Bool} {os : List OpV} {k : Nat} (hk : k < os.length) (hno : ∀ j (_ : j < k) (h' : j < os.length), p os[j].k = false) (hp : p os[k].k = true) : DelInv p os os k (k + 1) := by
  refine ⟨rfl, by omega, by omega, ?_, fun _ _ _ _ => rfl⟩
  rw [List.take_succ_eq_append_getElem hk, List.filter_append]
  have h1 : (os.take k).filter (fun o => !p o.k) = os.take k := by
    rw [List.filter_eq_self]
    intro o ho
    obtain ⟨j, hj, rfl⟩ := List.getElem_of_mem ho
    simp only [List.length_take] at hj
    simp [hno j (by omega) (by omega)]
  rw [h1]
  simp [hp]

theorem DelInv.skip {p : ByteArray → Bool} {os os' : List OpV} {i j : Nat} (h : DelInv p os os' i j) (hj : j < os.length) (hp : p os[j].k = true) : DelInv p os os' i (j + 1) := by
  refine ⟨h.len, by have := h.lt; omega, by omega, ?_, fun t h1 h2 h3 => h.tail t h1 h2 (by omega)⟩
  rw [List.take_succ_eq_append_getElem hj, List.filter_append, ← h.head]
  simp [hp]

theorem DelInv.keep {p : ByteArray → Bool} {os os' : List OpV} {i j : Nat} (h : DelInv p os os' i j) (hj : j < os.length) (hp : p os[j].k = false) : DelInv p os (os'.set i os[j]) (i + 1) (j + 1) := by
  have hij := h.lt
  have hl := h.len
  refine ⟨by simpa using h.len, by omega, by omega, ?_, fun t h1 h2 h3 => ?_⟩
  · rw [List.take_succ_eq_append_getElem hj, List.filter_append, ← h.head, List.take_succ_eq_append_getElem (by simp; omega)]
    simp [hp]
    rw [List.take_set_of_le (Nat.le_refl _)]
  · rw [List.getElem_set_ne (by omega)]
    exact h.tail t h1 (by simpa using h2) (by omega)

theorem DelInv.done {p : ByteArray → Bool} {os os' : List OpV} {i : Nat} (h : DelInv p os os' i os.length) : os'.take i = os.filter (fun o => !p o.k) := by
  rw [h.head, List.take_of_length_le (Nat.le_refl _)]

theorem idx_inv {p : ByteArray → Bool} {os : List OpV} {k : Nat} (h : idx p os = k) : ∃ hk : k < os.length, (∀ j (_ : j < k) (h' : j < os.length), p os[j].k = false) ∧ p os[k].k = true := by
  unfold idx at h
  split at h
  · rename_i i hi
    obtain ⟨h1, h2, h3⟩ := List.findIdx?_eq_some_iff_getElem.1 hi
    have : i = k := by omega
    subst this
    exact ⟨h1, fun j hj h' => by simpa using h3 j hj, h2⟩
  · omega

theorem cells_at {w : World} {g cap : Nat} {os : List OpV} (h : Own w g cap os) (i : Nat) (hi : i < os.length) :
    w.cell? ⟨g, i * 6, none⟩ = some (.string os[i].k) ∧ w.cell? ⟨g, i * 6 + 1, none⟩ = some (.int .i64 os[i].t) ∧ w.cell? ⟨g, i * 6 + 2, none⟩ = some (.string os[i].it) ∧
    w.cell? ⟨g, i * 6 + 3, none⟩ = some (.int .i64 os[i].l) ∧ w.cell? ⟨g, i * 6 + 4, none⟩ = some (.int .i64 os[i].c) ∧ w.cell? ⟨g, i * 6 + 5, none⟩ = some (.int .i64 0) := by
  have e : ∀ j, j < 6 → w.cell? ⟨g, i * 6 + j, none⟩ = os[i].cells[j]? := fun j hj => by
    rw [← flat_get os i hi j hj, ← h.at (i * 6 + j) (by omega)]
  have := e 0 (by omega); have := e 1 (by omega); have := e 2 (by omega); have := e 3 (by omega); have := e 4 (by omega); have := e 5 (by omega)
  simp_all [OpV.cells]


theorem run_clear_ops (w : World) (gb o n c : Nat) (hn : 0 < n) (hc : ∀ j, j < n * 6 → (w.cell? ⟨gb, o + j, none⟩).isSome = true) (hf : ∀ j, j < n * 6 → w.frozen? ⟨gb, o + j, none⟩ = false) :
    ∃ zs : List Value, zs.length = n * 6 ∧ ∀ ty, (Builtin.clear_ #[26] ty #[.slice (some ⟨gb, o, none⟩) n c]).run Try.prog w = .ok (.tuple #[]) (w.setCells gb o zs) := by
  obtain ⟨zs, hzs⟩ : ∃ zs : List Value, zs = (Builtin.zeroCells #[.string ⟨#[]⟩, .int .i64 0, .string ⟨#[]⟩, .int .i64 0, .int .i64 0, .int .i64 0] n).toList := ⟨_, rfl⟩
  have hl : zs.length = n * 6 := by rw [hzs]; simp [Builtin.zeroCells]
  have h1 : ∀ v ∈ zs, v.oneCell' = true := by
    intro v hv
    rw [hzs] at hv
    simp only [Builtin.zeroCells, Array.toList_map, List.mem_map] at hv
    obtain ⟨i, _, rfl⟩ := hv
    have : i % 6 < 6 := Nat.mod_lt _ (by omega)
    show Value.oneCell' (#[Value.string ⟨#[]⟩, .int .i64 0, .string ⟨#[]⟩, .int .i64 0, .int .i64 0, .int .i64 0][i % 6]!) = true
    generalize i % 6 = r at this
    match r, this with
    | 0, _ => rfl
    | 1, _ => rfl
    | 2, _ => rfl
    | 3, _ => rfl
    | 4, _ => rfl
    | 5, _ => rfl
  refine ⟨zs, hl, fun ty => ?_⟩
  have hst := run_storeCells_cells (P := Try.prog) gb o zs 0 w (by simpa [hl] using hc) (by simpa [hl] using hf) h1
  simp only [Nat.add_zero] at hst
  obtain ⟨m, rfl⟩ : ∃ m, n = m + 1 := ⟨n - 1, by omega⟩
  simp [Builtin.clear_, run_underlying Try.underlying26, Value.cells, ← hzs, hst]

set_option maxHeartbeats 400000 in
theorem delete_hit {g : FuncId} {p : ByteArray → Bool} (hg : Good g p) (os : List OpV) (gb cap fb : Nat) (w : World) (hm : os.length ≤ 1000000) (hne : 0 ≤ idx p os) (ho : Own w gb cap os) (hf : w.cell? ⟨fb, 0, none⟩ = some (.func (.func g) #[] #[])) (hfb : fb < gb) :
    Calls Try.prog 15 #[.slice (some ⟨gb, 0, none⟩) os.length cap, .func (.func 13) #[] #[.pointer (some ⟨fb, 0, none⟩)]] w fun e w' => e = .returned (.slice (some ⟨gb, 0, none⟩) (os.filter (fun o => !p o.k)).length cap) ∧ Own w' gb cap (os.filter (fun o => !p o.k)) ∧ Below gb w w' := by
  have hgl := ho.lt
  obtain ⟨k0, hk0⟩ : ∃ k : Nat, idx p os = k := ⟨(idx p os).toNat, by omega⟩
  obtain ⟨hk0l, hno0, hp0⟩ := idx_inv hk0
  have HI : Hid (DelInv p os os k0 (k0 + 1)) := DelInv.start hk0l hno0 hp0
  clear hno0 hp0
  have hb1 : ((k0 : Int) == -1) = false := beq_eq_false_iff_ne.2 (by omega)
  have HO : Hid (Own w gb cap os) := ho
  have HF : Hid (w.cell? ⟨fb, 0, none⟩ = some (.func (.func g) #[] #[])) := hf
  have HK : Hid (idx p os = k0) := hk0
  clear ho hf hk0 hne
  go_enter Try.func15, Try.ntmps15
  go_wp2_with (go_at_call 19; refine (index_any hg os (some ⟨gb, 0, none⟩) cap fb _ hm HO.out.opsAt HF.out (by omega)).mono ?_; rintro e w0 ⟨rfl, hb⟩; rw [HK.out])
  go_loopw [5, 6, 7] (fun s5 s6 _ wr => ∃ (i j : Nat) (os' : List OpV), s5 = .int .i64 i ∧ s6 = .int .i64 j ∧ DelInv p os os' i j ∧ Own wr gb cap os' ∧ Below gb w wr) (fun _ s6 _ _ => os.length - (intOf s6).toNat)
  case atStart => exact ⟨k0, k0 + 1, os, rfl, by go_num, HI.out, HO.out.below hb hgl, hb.mono (by omega)⟩
  case round =>
    clear hb hb1 HI HK hk0l
    obtain ⟨i, j, os', rfl, rfl, hinv, hown, hbel⟩ := hrel
    have hij := hinv.lt
    have hjl := hinv.le
    have hlen := hinv.len
    have HV : Hid (DelInv p os os' i j) := hinv
    have HOw : Hid (Own wr gb cap os') := hown
    have hgr := hown.lt
    have Hlen : Hid (os'.length = os.length) := hlen
    by_cases hlt : j < os.length
    · have hej := hinv.tail j hlt (by omega) (Nat.le_refl _)
      obtain ⟨c0, c1, c2, c3, c4, c5⟩ := cells_at hown j (by omega)
      rw [hej] at c0 c1 c2 c3 c4
      obtain ⟨ou, d0, d1, d2, d3, d4, d5⟩ : ∃ ou : OpV, wr.cell? ⟨gb, i * 6, none⟩ = some (.string ou.k) ∧ wr.cell? ⟨gb, i * 6 + 1, none⟩ = some (.int .i64 ou.t) ∧ wr.cell? ⟨gb, i * 6 + 2, none⟩ = some (.string ou.it) ∧
        wr.cell? ⟨gb, i * 6 + 3, none⟩ = some (.int .i64 ou.l) ∧ wr.cell? ⟨gb, i * 6 + 4, none⟩ = some (.int .i64 ou.c) ∧ wr.cell? ⟨gb, i * 6 + 5, none⟩ = some (.int .i64 0) := ⟨_, cells_at hown i (by omega)⟩
      have hfz := hown.frozen
      have hf' : wr.cell? ⟨fb, 0, none⟩ = some (.func (.func g) #[] #[]) := by rw [hbel.cell (p := ⟨fb, 0, none⟩) hfb]; exact HF.out
      clear hinv hown hlen hej
      obtain ⟨u, hu⟩ : ∃ u, u = os[j] := ⟨_, rfl⟩
      rw [← hu] at c0 c1 c2 c3 c4
      have HU : Hid (u = os[j]) := hu
      clear hu
      go_wp2_with fail
      refine (clo_any hg _ _ _ _ _ _ _ _ (by simp; omega) (by rw [World.cell?_alloc_past _ _ _ (by simpa using (by omega : fb < wr.heap.size))]; exact hf')).mono ?_
      rintro e w1 ⟨rfl, hb1⟩
      obtain ⟨hc1, hf1⟩ := bcell hb1
      have hz : wr.heap.size < w1.heap.size := by have := hb1.size; simp at this; omega
      have HB : Hid (Below gb w w1) := (hbel.alloc (by omega) _).trans (hb1.mono (by simp; omega))
      have HOw1 : Hid (Own w1 gb cap os') := HOw.out.below ((((Below.refl _ _).alloc (Nat.le_refl _) _).trans (hb1.mono (by simp)))) hgr
      clear c0 c1 c2 c3 c4 c5 hf' hbel hb1
      cases hp : p u.k
      · have Hp : Hid (p u.k = false) := hp
        clear hp
        go_wp2
        go_roundw
        case rel => exact ⟨i + 1, j + 1, os'.set i u, by go_num, by go_num, by rw [HU.out]; exact HV.out.keep hlt (by rw [← HU.out]; exact Hp.out), HOw1.out.set i (by rw [Hlen.out]; omega) u, HB.out.trans (below_setCells gb gb (Nat.le_refl _) u.cells (i * 6) w1)⟩
        case measure => simp [intOf]; omega
      · have Hp : Hid (p u.k = true) := hp
        clear hp
        go_wp2
        go_roundw
        case rel => exact ⟨i, j + 1, os', rfl, by go_num, HV.out.skip hlt (by rw [← HU.out]; exact Hp.out), HOw1.out, HB.out⟩
        case measure => simp [intOf]; omega
    · obtain rfl : j = os.length := by omega
      obtain ⟨zs, hzl, hcl⟩ := run_clear_ops wr gb (i * 6) (os.length - i) (cap - i) (by omega) (fun t ht => hown.isSome _ (by omega)) (fun t ht => hown.frozen _)
      have hcap : os.length ≤ cap := by obtain ⟨cur, _, _, h, _⟩ := hown; omega
      have HZ : Hid (zs.length = (os.length - i) * 6) := hzl
      have HB : Hid (Below gb w wr) := hbel
      clear hinv hown hlen hzl hbel
      go_wp2
      go_ret
      have hdone := HV.out.done
      have hlen2 : (os.filter (fun o => !p o.k)).length = i := by rw [← hdone, List.length_take, Hlen.out]; omega
      refine ⟨by rw [hlen2]; rfl, ?_, HB.out.trans (below_setCells gb gb (Nat.le_refl _) zs (i * 6) wr)⟩
      rw [← hdone]
      exact HOw.out.clear i (by rw [Hlen.out]; omega) zs (by rw [HZ.out]; omega)
end Go.Proofs.Qxb6609101a
