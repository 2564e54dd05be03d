import Derived.Test.Qxb6614657aStamp
namespace Go.Proofs.Qxb6614657a
open Go.RowKit

/-- A slice whose elements are one cell each, at any place. -/
def Rd (w : World) (v : Value) (cs : List Value) : Prop := ∃ ao cap, v = .slice ao cs.length cap ∧ ∀ j u, cs[j]? = some u → ∃ g off, ao = some ⟨g, off, none⟩ ∧ w.cell? ⟨g, off + j, none⟩ = some u
theorem Rd.grow {w w' : World} {v : Value} {cs : List Value} (h : Rd w v cs) (hb : Below w.heap.size w w') : Rd w' v cs := by
  obtain ⟨ao, cap, e, h2⟩ := h
  refine ⟨ao, cap, e, fun j u hu => ?_⟩
  obtain ⟨g, off, e2, hc⟩ := h2 j u hu
  exact ⟨g, off, e2, by rw [hb.cell (p := ⟨g, off + j, none⟩) (World.block_lt_of_cell? w _ hc)]; exact hc⟩
theorem RepC.insertG {w w' : World} {lo n Bp Bw BM : Nat} {hv ev v' : Value} {me : Nat} {hs : List ByteArray} {L : List En} {M : Hold} (h : RepC w lo n Bp Bw BM hv ev me hs L M) (i k : Nat) (e0 : En) (K0 : Nat → Bool) (he0 : e0.h = k) (hec : e0.c < 18446744073709551616) (hce : Col w lo n e0 K0) (hea : ∀ x ∈ L, x.v.ownBlock = none ∨ x.v.ownBlock ≠ e0.v.ownBlock) (hk : k < n) (hlo : ∀ j (hj : j < L.length), j < i → L[j].h < k) (hhi : ∀ j (hj : j < L.length), i ≤ j → k < L[j].h)
    (hI : Ins w w' lo ev L i e0 (.returned v')) (hi : i ≤ L.length) :
    RepC (w'.setCell ⟨Bp, 3, none⟩ v') lo n Bp Bw BM hv v' me hs (L.take i ++ e0 :: L.drop i) (setM M k (e0.c, K0)) ∧ (w'.setCell ⟨Bp, 3, none⟩ v').heap[BM]? = w.heap[BM]? ∧
      w'.cell? ⟨Bp, 3, none⟩ = some ev ∧ w'.frozen? ⟨Bp, 3, none⟩ = false := by
  obtain ⟨v'', e, ho, hg, hloc⟩ := hI
  simp only [Ending.returned.injEq] at e
  subst e
  have keep : ∀ (q : Nat) (o : Obj), w.heap[q]? = some o → (∀ c, o ≠ .cells c 73 (0, 0)) → w'.heap[q]? = some o := fun q o hq hne => by
    rw [hg.block q (Array.getElem?_eq_some_iff.1 hq).1 (fun e => ?_)]
    · exact hq
    · obtain ⟨c, hc⟩ := row_kind h.row q e.symm
      rw [hc] at hq; cases hq; exact hne _ rfl
  have hp' := keep _ _ h.p (fun _ h => by cases h)
  have keep2 : ∀ (q : Nat) (o : Obj), w'.heap[q]? = some o → (∀ c, o ≠ .cells c 69 (0, 0)) → (w'.setCell ⟨Bp, 3, none⟩ v').heap[q]? = some o := fun q o hq hne => by
    rw [Below.heap_setCell w' ⟨Bp, 3, none⟩ v' q (fun e => ?_)]
    · exact hq
    · simp only at e; subst e; rw [hp'] at hq; cases hq; exact hne _ rfl
  have keep3 : ∀ (q : Nat) (o : Obj), w.heap[q]? = some o → (∀ c, o ≠ .cells c 73 (0, 0)) → (∀ c, o ≠ .cells c 69 (0, 0)) → (w'.setCell ⟨Bp, 3, none⟩ v').heap[q]? = some o := fun q o hq h1 h2 => keep2 q o (keep q o hq h1) h2
  have hne : ∀ e ∈ L, e.h ≠ k := fun e he => by
    obtain ⟨j, hj, rfl⟩ := List.getElem_of_mem he
    by_cases h1 : j < i
    · have := hlo j hj h1; omega
    · have := hhi j hj (by omega); omega
  have hlt : ∀ e ∈ L, ∀ q, e.v.ownBlock = some q → q < w.heap.size := fun e he q hq => by
    obtain ⟨K, _, bs, h1, _⟩ := h.col e he
    exact (h1.lt q hq).2
  have hl : (L.take i ++ e0 :: L.drop i).length = L.length + 1 := by simp; omega
  have hpcell : w'.cell? ⟨Bp, 3, none⟩ = some ev := by rw [cell_of_row w' Bp 3 _ 69 (0, 0) hp']; rfl
  have hown2 : ∀ {e s m : Nat} {v : Value} {xs : List Value}, w'.ownsRow lo e s v m xs → e ≠ 69 → (w'.setCell ⟨Bp, 3, none⟩ v').ownsRow lo e s v m xs := fun hq hn => own_same hq fun q hq' => by
    obtain ⟨c, hc⟩ := row_kind hq q hq'
    rw [keep2 q _ hc (fun _ h => by cases h; exact hn rfl), hc]
  have hown3 : ∀ {e s m : Nat} {v : Value} {xs : List Value}, w.ownsRow lo e s v m xs → e ≠ 69 → e ≠ 73 → (w'.setCell ⟨Bp, 3, none⟩ v').ownsRow lo e s v m xs := fun hq h1 h2 => own_same hq fun q hq' => by
    obtain ⟨c, hc⟩ := row_kind hq q hq'
    rw [keep3 q _ hc (fun _ h => by cases h; exact h2 rfl) (fun _ h => by cases h; exact h1 rfl), hc]
  refine ⟨⟨?_, keep3 _ _ h.wr (fun _ h => by cases h) (fun _ h => by cases h), h.hl, h.sz, hown3 h.hosts (by decide) (by decide), by rw [hl]; exact hown2 ho (by decide), ?_, ?_, ?_, ?_, ?_, ?_, by simp [World.setCell]; exact Nat.le_trans h.low hg.size, ?_⟩, ?_, hpcell, frozen_of_row w' Bp 3 _ 69 hp'⟩
  · have := heap_setCell_same w' Bp 3 _ 69 v' hp'
    rw [this]; rfl
  · refine pair_put h.ord (fun x hx => ?_) (fun x hx => ?_)
    · obtain ⟨j, hj, rfl⟩ := List.getElem_of_mem hx
      rw [List.getElem_take]
      simp only [List.length_take] at hj
      rw [he0]; exact hlo j (by omega) (by omega)
    · obtain ⟨j, hj, rfl⟩ := List.getElem_of_mem hx
      rw [List.getElem_drop]
      simp only [List.length_drop] at hj
      rw [he0]; exact hhi (i + j) (by omega) (by omega)
  · intro x hx
    rcases mem_put.1 hx with hx | rfl
    · exact h.lt x hx
    · rw [he0]; exact hk
  · intro x hx
    rcases mem_put.1 hx with hx | rfl
    · exact h.cb x hx
    · exact hec
  · intro x hx
    rcases mem_put.1 hx with hx | rfl
    · obtain ⟨K, hM, bs, h1, h2⟩ := h.col x hx
      exact ⟨K, by unfold setM; rw [if_neg (hne x hx)]; exact hM, bs, hown3 h1 (by decide) (by decide), h2⟩
    · obtain ⟨bs, h1, h2⟩ := hce
      exact ⟨K0, by unfold setM; exact if_pos he0, bs, hown3 h1 (by decide) (by decide), h2⟩
  · intro x hx
    unfold setM
    rw [if_neg (fun e => hx e0 (mem_put.2 (.inr rfl)) (by rw [e]; exact he0))]
    exact h.non x fun y hy => hx y (mem_put.2 (.inl hy))
  · refine pair_put h.apart (fun x hx => hea x (List.mem_of_mem_take hx)) (fun x hx => ?_)
    rcases hea x (List.mem_of_mem_drop hx) with e | e
    · by_cases e1 : e0.v.ownBlock = none
      · exact .inl e1
      · exact .inr (by rw [e]; exact e1)
    · exact .inr (Ne.symm e)
  · obtain ⟨es, c, hb⟩ := h.bm
    exact ⟨es, c, keep3 _ _ hb (fun _ h => by cases h) (fun _ h => by cases h)⟩
  · obtain ⟨es, c, hb⟩ := h.bm
    rw [hb]; exact keep3 _ _ hb (fun _ h => by cases h) (fun _ h => by cases h)


set_option maxRecDepth 100000 in
theorem newMatrix_any (hv : Value) (me BM : Nat) (w : World) (hp : ∃ a n c, hv = .slice a n c) :
    Calls Try.prog 20 #[hv, .int .i64 me, .map (some BM)] w fun e w' => e = .returned (.pointer (some ⟨w.heap.size + 1, 0, none⟩)) ∧ w' = (w.alloc (.cells #[hv, .map none] 66)).alloc (.cells (pcells w.heap.size me (.slice none 0 0) BM) 69) := by
  obtain ⟨a, n, c, rfl⟩ := hp
  go_enter Try.func20, Try.ntmps20
  go_wp2
  go_ret
  exact ⟨rfl, rfl⟩
attribute [local go_sem ↓] load73S store73S load71S store71S

set_option maxRecDepth 100000 in
set_option maxHeartbeats 1000000 in
theorem addEntry_any (lo n Bp Bw BM : Nat) (hv ev : Value) (me : Nat) (hs : List ByteArray) (L : List En) (M : Hold) (e : En) (K : Nat → Bool) (w : World) (h : RepC w lo n Bp Bw BM hv ev me hs L M) (hlo : lo ≤ Bp) (hec : e.c < 18446744073709551616) (hce : Col w lo n e K) (hea : ∀ x ∈ L, x.v.ownBlock = none ∨ x.v.ownBlock ≠ e.v.ownBlock) (hk : e.h < n) (hn : n ≤ 4096) (hlt : ∀ x ∈ L, x.h < e.h) :
    Calls Try.prog 21 #[.pointer (some ⟨Bp, 0, none⟩), .int .i64 e.h, .int .u64 e.c, .int .i64 e.f, e.v] w fun r w' => r = .returned (.tuple #[]) ∧ ∃ ev', RepC w' lo n Bp Bw BM hv ev' me hs (L ++ [e]) (setM M e.h (e.c, K)) ∧ w'.heap[BM]? = w.heap[BM]? ∧ Below lo w w' := by
  have hL := h.len
  obtain ⟨i0, hi, hz0, hz1, hz2⟩ := info_parts info73
  obtain ⟨a, c, rfl⟩ := row_shape h.row
  obtain ⟨eh, ec, ef, ev0⟩ := e
  obtain ⟨av, mv, cv, hev⟩ := hce.plain
  simp only at hev
  subst hev
  have ba : Below w.heap.size w (w.alloc (.cells (En.mk eh ec ef (.slice av mv cv)).cells 73)) := (Below.refl _ _).alloc (Nat.le_refl _) _
  have h1 := h.grow ba
  have hce1 : Col (w.alloc (.cells (En.mk eh ec ef (.slice av mv cv)).cells 73)) lo n (En.mk eh ec ef (.slice av mv cv)) K := hce.kept fun q hq => by
    obtain ⟨bs, h2, _⟩ := hce
    exact ba.block q (h2.lt q hq).2
  have hnews : ∀ j u, (En.mk eh ec ef (.slice av mv cv)).cells.toList[j]? = some u → (w.alloc (.cells (En.mk eh ec ef (.slice av mv cv)).cells 73)).cell? ((⟨w.heap.size, 0, none⟩ : Addr).add j) = some u := fun j u hu => by
    rw [Addr.add_lit, Nat.zero_add, cell_of_row _ w.heap.size j (En.mk eh ec ef (.slice av mv cv)).cells 73 (0, 0) (heap_alloc_new w _)]
    simpa using hu
  have h1c := cells_one _ hce.plain
  obtain ⟨p0, p2, p3, p4, p5, p6⟩ := h.pcell
  have hlen : (En.mk eh ec ef (.slice av mv cv)).cells.toList.length = 1 * 4 := rfl
  have hrow := h1.row
  have hlow := h1.low
  have hplen : ents L ++ (En.mk eh ec ef (.slice av mv cv)).cells.toList = ents (L.take L.length ++ (En.mk eh ec ef (.slice av mv cv)) :: L.drop L.length) := by
    rw [List.take_length, List.drop_length, ents_append]; simp [ents]
  have eL : L.take L.length ++ (En.mk eh ec ef (.slice av mv cv)) :: L.drop L.length = L ++ [En.mk eh ec ef (.slice av mv cv)] := by rw [List.take_length, List.drop_length]
  have hevlo : ∀ q, (Value.slice a L.length c).ownBlock = some q → lo ≤ q := fun q hq => (h.row.lt q hq).1
  have hfin : ∀ v' w', w'.ownsRow lo 73 4 v' (L.length + 1) (ents L ++ (En.mk eh ec ef (.slice av mv cv)).cells.toList) → (w.alloc (.cells (En.mk eh ec ef (.slice av mv cv)).cells 73)).grownBy w' (Value.slice a L.length c).ownBlock → (v'.ownBlock = (Value.slice a L.length c).ownBlock ∨ v'.ownBlock = some (w.alloc (.cells (En.mk eh ec ef (.slice av mv cv)).cells 73)).heap.size) →
      (∃ ev', RepC (w'.setCell ⟨Bp, 3, none⟩ v') lo n Bp Bw BM hv ev' me hs (L ++ [En.mk eh ec ef (.slice av mv cv)]) (setM M eh (ec, K)) ∧ (w'.setCell ⟨Bp, 3, none⟩ v').heap[BM]? = w.heap[BM]? ∧ Below lo w (w'.setCell ⟨Bp, 3, none⟩ v')) ∧ w'.cell? ⟨Bp, 3, none⟩ = some (.slice a L.length c) ∧ w'.frozen? ⟨Bp, 3, none⟩ = false := fun v' w' ho hg hloc => by
    rw [hplen] at ho
    obtain ⟨hC, hB, y0, y1⟩ := h1.insertG (v' := v') L.length eh (En.mk eh ec ef (.slice av mv cv)) K rfl hec hce1 hea hk (fun j hj _ => hlt _ (List.getElem_mem hj)) (fun j hj hij => by omega) ⟨v', rfl, ho, hg, hloc⟩ (Nat.le_refl _)
    rw [eL] at hC
    obtain ⟨es, ck, hbm⟩ := h.bm
    refine ⟨⟨v', hC, hB.trans (ba.block BM (Array.getElem?_eq_some_iff.1 hbm).1), ?_⟩, y0, y1⟩
    exact ((ba.mono h.low).grown hg (Nat.le_trans h.low ba.size) hevlo).setCell (p := ⟨Bp, 3, none⟩) hlo v'
  have HF : Hid _ := hfin
  unfold En.cells at hnews hrow h1c hlen hlow HF
  clear hfin hplen eL hce1 h1 hce hea hlt h
  go_enter Try.func21, Try.ntmps21
  go_wp2_with (at_builtin; go_must (refine wpList_append_own_at _ rfl (.tmp 14) (.tmp 21) 55 rfl lo 73 i0 (.agg #[.int .i64 0, .int .u64 0, .int .i64 0, .slice none 0 0]) 4 48 Try.underlying55 hi hz0 hz1 hz2 rfl (by decide) (.slice a L.length c) L.length (ents L) rfl hrow ⟨w.heap.size, 0, none⟩ 1 1 _ rfl hlen hnews h1c (by unfold maxLen; omega) (by omega) hlow ?_); intro v' w' ho hg hn2 hloc; obtain ⟨hR, y0, y1⟩ := HF.out v' w' ho hg hloc; obtain ⟨a', c', rfl⟩ := row_shape ho; have HR : Hid _ := hR; clear hR HF hn2)
  obtain ⟨ev', r1, r2, r3⟩ := HR.out
  exact bodyPost_end (results_none Try.results21 _ _ _) rfl ⟨rfl, ⟨ev', r1⟩, r2, r3⟩
end Go.Proofs.Qxb6614657a
