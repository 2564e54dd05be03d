import Derived.Test.Qxb6614657aSearch
import Derived.Maps.AppendAt
import Derived.Lib.Overlaps
import Derived.Laws.Externs
namespace Go.Proofs.Qxb6614657a
open Go.RowKit

/-- copy, elements of any size. -/
theorem run_copy_rows {P : Program} (w : World) (dT sT ty elem : TypeId) (size : Nat) (b o dLen dCap : Nat) (a : Addr) (sLen sCap : Nat) (cs : List Value)
    (hu : P.underlying dT = some (.slice elem)) (hs : (P.info? elem).map (·.size) = some size) (hn : cs.length = Nat.min sLen dLen * size)
    (hsrc : ∀ j v, cs[j]? = some v → w.cell? (a.add j) = some v) (hc : ∀ j, j < cs.length → (w.cell? ⟨b, o + j, none⟩).isSome = true) (hf : ∀ j, j < cs.length → w.frozen? ⟨b, o + j, none⟩ = false) (h1 : ∀ v ∈ cs, v.oneCell' = true) :
    (Builtin.copy_ #[dT, sT] ty #[.slice (some ⟨b, o, none⟩) dLen dCap, .slice (some a) sLen sCap]).run P w = .ok (goInt (Nat.min sLen dLen)) (w.setCells b o cs) := by
  have hl := run_loadCells_list (P := P) w a cs hsrc
  have hst := run_storeCells_cells (P := P) b o cs 0 w (by simpa using hc) (by simpa using hf) h1
  cases hq : P.info? elem with
  | none => simp [hq] at hs
  | some i =>
    have hi : i.size = size := by simpa [hq] using hs
    simp [Builtin.copy_, run_underlying hu, Builtin.lenOf, Builtin.firstCells, sizeOf, typeInfo, hq, hi, ← hn, hl, hst]

theorem info73 : (Try.prog.info? 73).map (fun i => (i.zero, i.size, i.bytes)) = some (some (.agg #[.int .i64 0, .int .u64 0, .int .i64 0, .slice none 0 0]), 4, 48) := by kernel_rfl
def En.plain (e : En) : Prop := ∃ a n c, e.v = .slice a n c
theorem cells_one (e : En) (h : e.plain) : ∀ u ∈ e.cells.toList, u.oneCell' = true := by
  obtain ⟨a, n, c, hv⟩ := h
  intro u hu
  simp only [En.cells, hv, List.mem_cons, List.not_mem_nil, or_false] at hu
  rcases hu with rfl | rfl | rfl | rfl <;> rfl
theorem ents_one (L : List En) (h : ∀ e ∈ L, e.plain) : ∀ u ∈ ents L, u.oneCell' = true := by
  intro u hu
  obtain ⟨e, he, hu⟩ := List.mem_flatMap.1 hu
  exact cells_one e (h e he) u hu
theorem ents_take (L : List En) (i : Nat) : (ents L).take (i * 4) = ents (L.take i) := by
  induction L generalizing i with
  | nil => simp [ents]
  | cons e L ih =>
    match i with
    | 0 => simp [ents]
    | i + 1 => rw [ents_cons, List.take_succ_cons, ents_cons, ← ih, show (i + 1) * 4 = e.cells.toList.length + i * 4 by rw [cells_len]; omega, List.take_length_add_append]
theorem ents_drop (L : List En) (i : Nat) : (ents L).drop (i * 4) = ents (L.drop i) := by
  induction L generalizing i with
  | nil => simp [ents]
  | cons e L ih =>
    match i with
    | 0 => simp
    | i + 1 => rw [ents_cons, List.drop_succ_cons, ← ih, show (i + 1) * 4 = e.cells.toList.length + i * 4 by rw [cells_len]; omega, List.drop_length_add_append]

/-- What Insert leaves. -/
def Ins (w w' : World) (lo : Nat) (ev : Value) (L : List En) (i : Nat) (e : En) (r : Ending) : Prop :=
  ∃ v', r = .returned v' ∧ w'.ownsRow lo 73 4 v' (L.length + 1) (ents (L.take i ++ e :: L.drop i)) ∧ w.grownBy w' ev.ownBlock ∧ (v'.ownBlock = ev.ownBlock ∨ v'.ownBlock = some w.heap.size)

set_option maxRecDepth 100000 in
set_option maxHeartbeats 1000000 in
theorem insert_end (L : List En) (e : En) (lo vb : Nat) (ev : Value) (w : World) (hL : L.length ≤ 4096) (he : e.plain) (hrow : w.ownsRow lo 73 4 ev L.length (ents L)) (hlo : lo ≤ w.heap.size) (hvb : w.heap[vb]? = some (.cells e.cells 73 (0, 0))) :
    Calls Try.prog 38 #[ev, .int .i64 L.length, .slice (some ⟨vb, 0, none⟩) 1 1] w fun r w' => Ins w w' lo ev L L.length e r := by
  obtain ⟨i0, hi, hz0, hz1, hz2⟩ := info_parts info73
  obtain ⟨a, c, rfl⟩ := row_shape hrow
  have hc : L.length ≤ c := by
    rcases hrow.2 with ⟨h, _⟩ | ⟨g, cap, cur, h, _, _, h1, _⟩
    · simp only [Value.slice.injEq] at h; omega
    · simp only [Value.slice.injEq, true_and] at h; omega
  have hnews : ∀ j u, e.cells.toList[j]? = some u → w.cell? ((⟨vb, 0, none⟩ : Addr).add j) = some u := fun j u hu => by
    rw [Addr.add_lit, Nat.zero_add, cell_of_row w vb j e.cells 73 (0, 0) hvb]
    simpa using hu
  have h1 := cells_one e he
  have hlen : e.cells.toList.length = 1 * 4 := rfl
  have hx : ents L ++ e.cells.toList = ents (L.take L.length ++ e :: L.drop L.length) := by
    rw [List.take_length, List.drop_length, ents_append]; simp [ents]
  generalize hE : e.cells.toList = cs at *
  go_enter Try.func38, Try.ntmps38
  go_wp2_with (at_builtin; go_must (refine wpList_append_own_at _ rfl (.tmp 23) (.tmp 24) 55 rfl lo 73 i0 (.agg #[.int .i64 0, .int .u64 0, .int .i64 0, .slice none 0 0]) 4 48 Try.underlying55 hi hz0 hz1 hz2 rfl (by decide) (.slice a L.length c) L.length (ents L) rfl hrow ⟨vb, 0, none⟩ 1 1 cs rfl hlen hnews h1 (by unfold maxLen; omega) (by omega) hlo ?_); intro v' w' ho hg hn hloc)
  all_goals
    rw [hx] at ho
    have hG' : ∀ c', w.grownBy w' (Value.slice a L.length c').ownBlock := fun c' => by cases a <;> exact hg
    have hL' : ∀ c', v'.ownBlock = (Value.slice a L.length c').ownBlock ∨ v'.ownBlock = some w.heap.size := fun c' => by cases a <;> exact hloc
    go_ret
    exact ⟨_, rfl, ho, hG' _, hL' _⟩

theorem size_73 (w : World) : (sizeOf 73).run Try.prog w = .ok 4 w := by
  obtain ⟨i0, hi, hz0, hz1, hz2⟩ := info_parts info73
  simp [sizeOf, typeInfo, hi, hz1]
/-- A row of one's own, seen one element longer. -/
theorem own_longer {w : World} {lo e G n cap : Nat} {xs : List Value} (h : w.ownsRow lo e 4 (.slice (some ⟨G, 0, none⟩) n cap) n xs) (hc : n + 1 ≤ cap) : ∃ ys, w.ownsRow lo e 4 (.slice (some ⟨G, 0, none⟩) (n + 1) cap) (n + 1) ys ∧ ys.length = (n + 1) * 4 ∧ ys.take (n * 4) = xs := by
  rcases h.2 with ⟨h', _⟩ | ⟨g, cap', cur, h', hb, hg, hnc, hcm, hcs, htake⟩
  · cases h'
  · simp only [Value.slice.injEq, Option.some.injEq, Addr.mk.injEq, and_true, true_and] at h'
    obtain ⟨rfl, rfl⟩ := h'
    have hl : (cur.toList.take ((n + 1) * 4)).length = (n + 1) * 4 := by rw [List.length_take, Array.length_toList, hcs]; omega
    refine ⟨cur.toList.take ((n + 1) * 4), ⟨hl, .inr ⟨G, cap, cur, rfl, hb, hg, hc, hcm, hcs, rfl⟩⟩, hl, ?_⟩
    rw [List.take_take, show min (n * 4) ((n + 1) * 4) = n * 4 by omega]; exact htake
theorem put_insert (ys : List Value) (L : List En) (i : Nat) (e : En) (hi : i < L.length) (hl : ys.length = (L.length + 1) * 4) (ht : ys.take (L.length * 4) = ents L) :
    putAt (putAt ys ((i + 1) * 4) (ents (L.drop i))) (i * 4) e.cells.toList = ents (L.take i ++ e :: L.drop i) := by
  have hd : (ents (L.drop i)).length = (L.length - i) * 4 := by rw [ents_length, List.length_drop]
  have htl : (ents (L.take i)).length = i * 4 := by rw [ents_length, List.length_take]; omega
  apply List.ext_getElem?
  intro j
  by_cases hj : j < (L.length + 1) * 4
  · rw [putAt_get _ _ _ _ (by rw [putAt_length]; omega), cells_len, putAt_get _ _ _ _ (by omega), hd, ents_append, ents_cons]
    by_cases h1 : i * 4 ≤ j ∧ j < i * 4 + 4
    · rw [if_pos h1, List.getElem?_append_right (by omega), htl, List.getElem?_append_left (by rw [cells_len]; omega)]
    · rw [if_neg h1]
      by_cases h2 : (i + 1) * 4 ≤ j ∧ j < (i + 1) * 4 + (L.length - i) * 4
      · rw [if_pos h2, List.getElem?_append_right (by omega), htl, List.getElem?_append_right (by rw [cells_len]; omega), cells_len, show j - i * 4 - 4 = j - (i + 1) * 4 by omega]
      · rw [if_neg h2, List.getElem?_append_left (by omega), ← ents_take, ← ht, List.take_take, show min (i * 4) (L.length * 4) = i * 4 by omega, List.getElem?_take, if_pos (by omega)]
  · rw [List.getElem?_eq_none (by rw [putAt_length, putAt_length]; omega), List.getElem?_eq_none (by rw [ents_append, ents_cons, List.length_append, List.length_append, cells_len, htl, hd]; omega)]

set_option maxRecDepth 100000 in
set_option maxHeartbeats 1000000 in
theorem insert_shift (L : List En) (i : Nat) (e : En) (lo G cap vb : Nat) (w : World) (hi : i < L.length) (hL : L.length ≤ 4096) (hp : ∀ e ∈ L, e.plain) (he : e.plain) (hroom : L.length + 1 ≤ cap) (hrow : w.ownsRow lo 73 4 (.slice (some ⟨G, 0, none⟩) L.length cap) L.length (ents L)) (hvb : w.heap[vb]? = some (.cells e.cells 73 (0, 0))) (hne : vb ≠ G) :
    Calls Try.prog 38 #[.slice (some ⟨G, 0, none⟩) L.length cap, .int .i64 i, .slice (some ⟨vb, 0, none⟩) 1 1] w fun r w' => Ins w w' lo (.slice (some ⟨G, 0, none⟩) L.length cap) L i e r := by
  obtain ⟨n, hn⟩ : ∃ n, n = L.length := ⟨_, rfl⟩
  have hcm : cap ≤ 9223372036854775807 := by
    rcases hrow.2 with ⟨h, _⟩ | ⟨g, c, cur, h, _, _, _, h1, _⟩
    · cases h
    · simp only [Value.slice.injEq, true_and] at h
      have := h.2
      unfold maxLen at h1
      omega
  obtain ⟨cur, hcur⟩ := row_kind hrow G rfl
  have hcs : cur.size ≠ 0 := by
    have := hrow.cellAt 0 (by omega)
    rw [List.getElem?_eq_getElem (by rw [ents_length]; omega), cell_of_row w G 0 cur 73 (0, 0) hcur] at this
    have := (Array.getElem?_eq_some_iff.1 this).1
    omega
  have hov : ∀ lb cb, (callFunc 41 #[.slice (some ⟨vb, 0, none⟩) 1 1, .slice (some ⟨G, (i + 1) * 4, none⟩) lb cb]).run Try.prog w = .ok (.value (.bool false)) w := fun lb cb => by
    rw [run_callFunc_extern Try.func41 (by kernel_rfl) (by kernel_rfl) (by kernel_rfl) (e := Extern.SlicesOverlaps.overlaps #[55, 55] #[4]) (by kernel_rfl),
      Lib.run_overlaps_apart w 55 4 73 Try.underlying55 4 size_73 ⟨vb, 0, none⟩ ⟨G, (i + 1) * 4, none⟩ 1 1 lb cb hne 73 73 e.cells.size cur.size (by simp [World.shape?, hvb]) (by simp [World.shape?, hcur]) hcs (frozen_of_row w vb 0 e.cells 73 hvb) (frozen_of_row w vb _ e.cells 73 hvb)]
    rfl
  obtain ⟨ys, hy, hyl, hyt⟩ := own_longer hrow hroom
  have hyd := hy.drew
  have hz2 : ¬ ((i : Int) = (L.length : Int)) := by omega
  have hb2 : ¬ (cap = i + 1) := by omega
  have hb4 : ¬ (cap = i) := by omega
  have htn : ((i : Int) + 1).toNat = i + 1 := by omega
  have hz3 : ¬ ((cap : Int) < (L.length : Int) + 1) := by omega
  have hdl : (ents (L.drop i)).length = (L.length - i) * 4 := by rw [ents_length, List.length_drop]
  have hcp1 : (Builtin.copy_ #[55, 55] 3 #[.slice (some ⟨G, (i + 1) * 4, none⟩) (L.length - i) (cap - (i + 1)), .slice (some ⟨G, i * 4, none⟩) (L.length + 1 - i) (cap - i)]).run Try.prog w.drew = .ok (goInt (Nat.min (L.length + 1 - i) (L.length - i))) (w.drew.setCells G ((i + 1) * 4) (ents (L.drop i))) := by
    refine run_copy_rows w.drew 55 55 3 73 4 G ((i + 1) * 4) (L.length - i) (cap - (i + 1)) ⟨G, i * 4, none⟩ (L.length + 1 - i) (cap - i) (ents (L.drop i)) Try.underlying55 size73 (by rw [hdl, show Nat.min (L.length + 1 - i) (L.length - i) = L.length - i by simp only [Nat.min_def]; split <;> omega]) (fun j v hv => ?_) (fun j hj => ?_) (fun j hj => hyd.frozenAt _) (ents_one _ fun e he => hp e (List.mem_of_mem_drop he))
    · have hj : j < (L.length - i) * 4 := by rw [← hdl]; exact (List.getElem?_eq_some_iff.1 hv).1
      rw [Addr.add_lit, hrow.drew.cellAt (i * 4 + j) (by omega)]
      rw [← ents_drop, List.getElem?_drop] at hv; exact hv
    · rw [hdl] at hj
      rw [hyd.cellAt _ (by omega), List.getElem?_eq_getElem (by omega)]; rfl
  have hs1 := own_setCells (ents (L.drop i)) ((i + 1) * 4) hyd
  have hvb1 : (w.drew.setCells G ((i + 1) * 4) (ents (L.drop i))).heap[vb]? = some (.cells e.cells 73 (0, 0)) := by
    rw [hs1.2.block vb (Array.getElem?_eq_some_iff.1 hvb).1 (fun h => hne (by cases h; rfl))]; exact hvb
  have hcp2 : ∀ ty, (Builtin.copy_ #[55, 55] ty #[.slice (some ⟨G, i * 4, none⟩) (L.length + 1 - i) (cap - i), .slice (some ⟨vb, 0, none⟩) 1 1]).run Try.prog (w.drew.setCells G ((i + 1) * 4) (ents (L.drop i))) = .ok (goInt (Nat.min 1 (L.length + 1 - i))) ((w.drew.setCells G ((i + 1) * 4) (ents (L.drop i))).setCells G (i * 4) e.cells.toList) := fun ty => by
    refine run_copy_rows _ 55 55 ty 73 4 G (i * 4) (L.length + 1 - i) (cap - i) ⟨vb, 0, none⟩ 1 1 e.cells.toList Try.underlying55 size73 (by rw [cells_len, show Nat.min 1 (L.length + 1 - i) = 1 by simp only [Nat.min_def]; split <;> omega]) (fun j v hv => ?_) (fun j hj => ?_) (fun j hj => hs1.1.frozenAt _) (cells_one e he)
    · rw [Addr.add_lit, Nat.zero_add, cell_of_row _ vb j e.cells 73 (0, 0) hvb1]; simpa using hv
    · rw [cells_len] at hj
      rw [hs1.1.cellAt _ (by omega), List.getElem?_eq_getElem (by rw [putAt_length]; omega)]; rfl
  have hs2 := own_setCells e.cells.toList (i * 4) hs1.1
  rw [put_insert ys L i e hi hyl hyt] at hs2
  have hins : Ins w ((w.drew.setCells G ((i + 1) * 4) (ents (L.drop i))).setCells G (i * 4) e.cells.toList) lo (.slice (some ⟨G, 0, none⟩) L.length cap) L i e (.returned (.slice (some ⟨G, 0, none⟩) (L.length + 1) cap)) :=
    ⟨_, rfl, hs2.1, ⟨(hs1.2.trans hs2.2).os, (hs1.2.trans hs2.2).tape, (hs1.2.trans hs2.2).output, (hs1.2.trans hs2.2).size, (hs1.2.trans hs2.2).block⟩, .inl rfl⟩
  have HI : Hid _ := hins
  generalize ents (L.drop i) = ds at *
  generalize e.cells.toList = ecs at *
  have hw1 : IntKind.i64.wrap ((i : Int) + 1) = (i : Int) + 1 := by rw [IntKind.wrap_i64]; omega
  have hb1 : (0 : Int) ≤ (i : Int) + 1 := by omega
  have hin : i ≤ L.length := by omega
  have hb3 : (i : Int) ≤ (L.length : Int) + 1 := by omega
  clear hins hs2 hs1 hvb1 hyt hyl hcur hcs hvb hp he hrow hy hyd hdl
  go_enter Try.func38, Try.ntmps38
  go_wp2_with (simp only [hov])
  go_region_law (refine step_copy_runI rfl (.tmp 73) (.tmp 76) 55 55 rfl (.slice (some ⟨G, (i + 1) * 4, none⟩) (L.length - i) (cap - (i + 1))) (.slice (some ⟨G, i * 4, none⟩) (L.length + 1 - i) (cap - i)) (by simp [Act.eval, Act.put]) (by simp [Act.eval, Act.put]) hcp1 ?_)
  go_wp2
  go_ret
  exact HI.out

/-- The row that grows. -/
theorem zeros_grow (w : World) (lo G i k cap : Nat) (L : List En) (hrow : w.ownsRow lo 73 4 (.slice (some ⟨G, 0, none⟩) L.length cap) L.length (ents L)) (hi : i ≤ L.length) (hk : 0 < k) (hcap : cap < i + k) (hs : i + k ≤ 8192) (hlo : lo ≤ w.heap.size) :
    ∃ c' W1 zs, (Builtin.append_ #[55, 3] 55 #[.slice (some ⟨G, 0, none⟩) i cap, .int .i64 k]).run Try.prog w = .ok (.slice (some ⟨w.heap.size, 0, none⟩) (i + k) c') W1 ∧
      W1.ownsRow lo 73 4 (.slice (some ⟨w.heap.size, 0, none⟩) (i + k) c') (i + k) (ents (L.take i) ++ zs) ∧ w.grownBy W1 none ∧ i + k ≤ c' ∧ c' ≤ 9223372036854775807 := by
  obtain ⟨i0, hi0, hz0, hz1, hz2⟩ := info_parts info73
  have htl : (ents (L.take i)).length = i * 4 := by rw [ents_length, List.length_take]; omega
  have hold : (Builtin.firstCells i0.size i (.slice (some ⟨G, 0, none⟩) i cap)).run Try.prog w.drew = .ok (ents (L.take i)).toArray w.drew := by
    rw [hz1]
    refine run_firstCells_some w.drew 4 i ⟨G, 0, none⟩ i cap (ents (L.take i)) htl (fun j v hj => ?_)
    have hjl : j < i * 4 := by rw [← htl]; exact (List.getElem?_eq_some_iff.1 hj).1
    rw [Addr.add_lit, Nat.zero_add, hrow.drew.cellAt j (by omega)]
    rw [← ents_take, List.getElem?_take, if_pos hjl] at hj; exact hj
  have hr := Lib.run_append_grow_zeros (P := Try.prog) w 55 3 55 73 i0 _ .i64 .i64 Try.underlying55 Try.underlying3 hi0 hz0 (some ⟨G, 0, none⟩) i cap (ents (L.take i)) hold k hk (by omega) hcap (by omega) (by rw [hz2]; omega) (growslice_fits hcap (by rw [hz2]; omega))
  have hge := grownCap_ge w (i + k) cap 73
  have hcm : grownCap w (i + k) cap 73 ≤ maxLen := grownCap_le_maxLen w (i + k) cap 73 (by unfold maxLen; omega)
  have hzc : (Value.agg #[.int .i64 0, .int .u64 0, .int .i64 0, .slice none 0 0]).cells.size = 4 := rfl
  refine ⟨_, _, (Builtin.zeroCells (Value.agg #[.int .i64 0, .int .u64 0, .int .i64 0, .slice none 0 0]).cells k).toList, hr, ⟨?_, .inr ⟨w.heap.size, _, _, rfl, hlo, heap_alloc_new w.drew _, hge, hcm, ?_, ?_⟩⟩, ⟨rfl, rfl, rfl, by simp, fun q hq _ => heap_alloc_old w.drew _ hq⟩, hge, by unfold maxLen at hcm; omega⟩
  · rw [List.length_append, htl, Array.length_toList, size_zeroCells, hzc]; omega
  · simp only [Array.size_append, List.size_toArray, size_zeroCells, hzc, htl]; omega
  · simp only [Array.toList_append]
    have hl : (ents (L.take i) ++ (Builtin.zeroCells (Value.agg #[.int .i64 0, .int .u64 0, .int .i64 0, .slice none 0 0]).cells k).toList).length = (i + k) * 4 := by rw [List.length_append, htl, Array.length_toList, size_zeroCells, hzc]; omega
    rw [← hl]
    exact List.take_left
theorem put_grow (zs : List Value) (L : List En) (i : Nat) (e : En) (hi : i < L.length) (hl : (ents (L.take i) ++ zs).length = (L.length + 1) * 4) :
    putAt (putAt (ents (L.take i) ++ zs) (i * 4) e.cells.toList) ((i + 1) * 4) (ents (L.drop i)) = ents (L.take i ++ e :: L.drop i) := by
  have hd : (ents (L.drop i)).length = (L.length - i) * 4 := by rw [ents_length, List.length_drop]
  have htl : (ents (L.take i)).length = i * 4 := by rw [ents_length, List.length_take]; omega
  apply List.ext_getElem?
  intro j
  by_cases hj : j < (L.length + 1) * 4
  · rw [putAt_get _ _ _ _ (by rw [putAt_length]; omega), hd, putAt_get _ _ _ _ (by omega), cells_len, ents_append, ents_cons]
    by_cases h2 : (i + 1) * 4 ≤ j ∧ j < (i + 1) * 4 + (L.length - i) * 4
    · rw [if_pos h2, List.getElem?_append_right (by omega), htl, List.getElem?_append_right (by rw [cells_len]; omega), cells_len, show j - i * 4 - 4 = j - (i + 1) * 4 by omega]
    · rw [if_neg h2]
      by_cases h1 : i * 4 ≤ j ∧ j < i * 4 + 4
      · rw [if_pos h1, List.getElem?_append_right (by omega), htl, List.getElem?_append_left (by rw [cells_len]; omega)]
      · rw [if_neg h1, List.getElem?_append_left (by omega), List.getElem?_append_left (by omega)]
  · rw [List.getElem?_eq_none (by rw [putAt_length, putAt_length]; omega), List.getElem?_eq_none (by rw [ents_append, ents_cons, List.length_append, List.length_append, cells_len, htl, hd]; omega)]

set_option maxRecDepth 100000 in
set_option maxHeartbeats 1000000 in
theorem insert_grow (L : List En) (i : Nat) (e : En) (lo G cap vb : Nat) (w : World) (hi : i < L.length) (hL : L.length ≤ 4096) (hp : ∀ e ∈ L, e.plain) (he : e.plain) (hnc : L.length ≤ cap) (hroom : cap < L.length + 1) (hrow : w.ownsRow lo 73 4 (.slice (some ⟨G, 0, none⟩) L.length cap) L.length (ents L)) (hlo : lo ≤ w.heap.size) (hvb : w.heap[vb]? = some (.cells e.cells 73 (0, 0))) :
    Calls Try.prog 38 #[.slice (some ⟨G, 0, none⟩) L.length cap, .int .i64 i, .slice (some ⟨vb, 0, none⟩) 1 1] w fun r w' => Ins w w' lo (.slice (some ⟨G, 0, none⟩) L.length cap) L i e r := by
  have hcap : cap = L.length := by omega
  subst hcap
  obtain ⟨k, hk⟩ : ∃ k : Nat, (L.length : Int) + 1 - (i : Int) = (k : Int) := ⟨L.length + 1 - i, by omega⟩
  obtain ⟨c', W1, zs, hr, hy, hg1, hc1, hc2⟩ := zeros_grow w lo G i k L.length L hrow (by omega) (by omega) (by omega) (by omega) hlo
  rw [show i + k = L.length + 1 by omega] at hr hy hc1
  have hdl : (ents (L.drop i)).length = (L.length - i) * 4 := by rw [ents_length, List.length_drop]
  have hyl := hy.1
  have hvb0 : W1.heap[vb]? = some (.cells e.cells 73 (0, 0)) := by rw [hg1.block vb (Array.getElem?_eq_some_iff.1 hvb).1 (by simp)]; exact hvb
  have hcp1 : ∀ ty, (Builtin.copy_ #[55, 55] ty #[.slice (some ⟨w.heap.size, i * 4, none⟩) (L.length + 1 - i) (c' - i), .slice (some ⟨vb, 0, none⟩) 1 1]).run Try.prog W1 = .ok (goInt (Nat.min 1 (L.length + 1 - i))) (W1.setCells w.heap.size (i * 4) e.cells.toList) := fun ty => by
    refine run_copy_rows _ 55 55 ty 73 4 w.heap.size (i * 4) (L.length + 1 - i) (c' - i) ⟨vb, 0, none⟩ 1 1 e.cells.toList Try.underlying55 size73 (by rw [cells_len, show Nat.min 1 (L.length + 1 - i) = 1 by simp only [Nat.min_def]; split <;> omega]) (fun j v hv => ?_) (fun j hj => ?_) (fun j hj => hy.frozenAt _) (cells_one e he)
    · rw [Addr.add_lit, Nat.zero_add, cell_of_row _ vb j e.cells 73 (0, 0) hvb0]; simpa using hv
    · rw [cells_len] at hj
      rw [hy.cellAt _ (by omega), List.getElem?_eq_getElem (by omega)]; rfl
  have hs1 := own_setCells e.cells.toList (i * 4) hy
  have hrow1 := (hrow.kept hg1 (.inr (by simp [Value.ownBlock]))).kept hs1.2 (.inr (by
    intro h
    have := (hrow.lt G rfl).2
    simp only [Value.ownBlock, Option.some.injEq] at h
    omega))
  have hcp2 : (Builtin.copy_ #[55, 55] 3 #[.slice (some ⟨w.heap.size, (i + 1) * 4, none⟩) (L.length - i) (c' - (i + 1)), .slice (some ⟨G, i * 4, none⟩) (L.length - i) (L.length - i)]).run Try.prog (W1.setCells w.heap.size (i * 4) e.cells.toList).drew = .ok (goInt (Nat.min (L.length - i) (L.length - i))) ((W1.setCells w.heap.size (i * 4) e.cells.toList).drew.setCells w.heap.size ((i + 1) * 4) (ents (L.drop i))) := by
    refine run_copy_rows _ 55 55 3 73 4 w.heap.size ((i + 1) * 4) (L.length - i) (c' - (i + 1)) ⟨G, i * 4, none⟩ (L.length - i) (L.length - i) (ents (L.drop i)) Try.underlying55 size73 (by rw [hdl, show Nat.min (L.length - i) (L.length - i) = L.length - i by simp only [Nat.min_def]; split <;> omega]) (fun j v hv => ?_) (fun j hj => ?_) (fun j hj => hs1.1.drew.frozenAt _) (ents_one _ fun e he => hp e (List.mem_of_mem_drop he))
    · have hj : j < (L.length - i) * 4 := by rw [← hdl]; exact (List.getElem?_eq_some_iff.1 hv).1
      rw [Addr.add_lit, hrow1.drew.cellAt (i * 4 + j) (by omega)]
      rw [← ents_drop, List.getElem?_drop] at hv; exact hv
    · rw [hdl] at hj
      rw [hs1.1.drew.cellAt _ (by omega), List.getElem?_eq_getElem (by rw [putAt_length]; omega)]; rfl
  have hs2 := own_setCells (ents (L.drop i)) ((i + 1) * 4) hs1.1.drew
  rw [put_grow zs L i e hi hyl] at hs2
  have hins : Ins w ((W1.setCells w.heap.size (i * 4) e.cells.toList).drew.setCells w.heap.size ((i + 1) * 4) (ents (L.drop i))) lo (.slice (some ⟨G, 0, none⟩) L.length L.length) L i e (.returned (.slice (some ⟨w.heap.size, 0, none⟩) (L.length + 1) c')) := by
    refine ⟨_, rfl, hs2.1, ⟨(hs2.2.os.trans hs1.2.os).trans hg1.os, (hs2.2.tape.trans hs1.2.tape).trans hg1.tape, (hs2.2.output.trans hs1.2.output).trans hg1.output, Nat.le_trans hg1.size (Nat.le_trans hs1.2.size hs2.2.size), fun q hq _ => ?_⟩, .inr rfl⟩
    have hne : some q ≠ some w.heap.size := fun h => by cases h; omega
    have hq1 : q < W1.heap.size := Nat.lt_of_lt_of_le hq hg1.size
    exact ((hs2.2.block q (Nat.lt_of_lt_of_le hq1 hs1.2.size) hne).trans (hs1.2.block q hq1 hne)).trans (hg1.block q hq (by simp))
  have HI : Hid _ := hins
  generalize ents (L.drop i) = ds at *
  generalize e.cells.toList = ecs at *
  have hz2 : ¬ ((i : Int) = (L.length : Int)) := by omega
  have hb4 : ¬ (L.length = i) := by omega
  have hb5 : ¬ (c' = i) := by omega
  have hb6 : ¬ (c' = i + 1) := by omega
  have htn : ((i : Int) + 1).toNat = i + 1 := by omega
  have hw1 : IntKind.i64.wrap ((i : Int) + 1) = (i : Int) + 1 := by rw [IntKind.wrap_i64]; omega
  have hb1 : (0 : Int) ≤ (i : Int) + 1 := by omega
  have hin : i ≤ L.length := by omega
  have hb3 : (i : Int) ≤ (L.length : Int) + 1 := by omega
  clear hins hs2 hs1 hrow1 hvb0 hyl hvb hp he hrow hy hdl hg1
  go_enter Try.func38, Try.ntmps38
  go_wp2_with (at_builtin; go_must (refine Lib.wpList_append_run _ rfl _ _ 55 3 rfl _ _ rfl rfl _ _ hr ?_))
  go_region_law (refine step_copy_runI rfl (.tmp 50) (.tmp 53) 55 55 rfl (.slice (some ⟨w.heap.size, (i + 1) * 4, none⟩) (L.length - i) (c' - (i + 1))) (.slice (some ⟨G, i * 4, none⟩) (L.length - i) (L.length - i)) (by simp [Act.eval, Act.put]) (by simp [Act.eval, Act.put]) hcp2 ?_)
  go_wp2
  go_ret
  exact HI.out

/-- slices.Insert of one entry. -/
theorem insert_any (L : List En) (i : Nat) (e : En) (lo vb : Nat) (ev : Value) (w : World) (hi : i ≤ L.length) (hL : L.length ≤ 4096) (hp : ∀ e ∈ L, e.plain) (he : e.plain) (hrow : w.ownsRow lo 73 4 ev L.length (ents L)) (hlo : lo ≤ w.heap.size) (hvb : w.heap[vb]? = some (.cells e.cells 73 (0, 0))) (hne : ev.ownBlock ≠ some vb) :
    Calls Try.prog 38 #[ev, .int .i64 i, .slice (some ⟨vb, 0, none⟩) 1 1] w fun r w' => Ins w w' lo ev L i e r := by
  by_cases hil : i = L.length
  · subst hil
    exact insert_end L e lo vb ev w hL he hrow hlo hvb
  · have h0 := hrow
    rcases h0.2 with ⟨_, h⟩ | ⟨G, cap, cur, rfl, _, _, hnc, _⟩
    · omega
    · by_cases hroom : L.length + 1 ≤ cap
      · exact insert_shift L i e lo G cap vb w (by omega) hL hp he hroom hrow hvb (fun h => hne (by simp [Value.ownBlock, h]))
      · exact insert_grow L i e lo G cap vb w (by omega) hL hp he hnc (by omega) hrow hlo hvb
end Go.Proofs.Qxb6614657a
