import Derived.Test.Qxb6614657aRaise
namespace Go.Proofs.Qxb6614657a
open Go.RowKit

theorem mem_put {L : List En} {i : Nat} {e x : En} : x ∈ L.take i ++ e :: L.drop i ↔ x ∈ L ∨ x = e := by
  rw [List.mem_append, List.mem_cons]
  constructor
  · rintro (h | h | h)
    · exact .inl (List.mem_of_mem_take h)
    · exact .inr h
    · exact .inl (List.mem_of_mem_drop h)
  · rintro (h | h)
    · rw [← List.take_append_drop i L] at h
      rcases List.mem_append.1 h with h | h
      · exact .inl h
      · exact .inr (.inr h)
    · exact .inr (.inl h)
theorem pair_put {R : En → En → Prop} {L : List En} {i : Nat} {e : En} (h : L.Pairwise R) (h1 : ∀ x ∈ L.take i, R x e) (h2 : ∀ x ∈ L.drop i, R e x) : (L.take i ++ e :: L.drop i).Pairwise R := by
  rw [← List.take_append_drop i L] at h
  have h' := List.pairwise_append.1 h
  refine List.pairwise_append.2 ⟨h'.1, List.pairwise_cons.2 ⟨h2, h'.2.1⟩, fun a ha b hb => ?_⟩
  rcases List.mem_cons.1 hb with rfl | hb
  · exact h1 a ha
  · exact h'.2.2 a ha b hb
def En.new (k : Nat) : En := ⟨k, 0, 0, .slice none 0 0⟩

theorem RepC.insert {w w' : World} {lo n Bp Bw BM : Nat} {hv ev v' : Value} {me : Nat} {hs : List ByteArray} {L : List En} {M : Hold} (h : RepC w lo n Bp Bw BM hv ev me hs L M) (i k : Nat) (hk : k < n) (hlo : ∀ j (hj : j < L.length), j < i → L[j].h < k) (hhi : ∀ j (hj : j < L.length), i ≤ j → k < L[j].h)
    (hI : Ins w w' lo ev L i (En.new k) (.returned v')) (hi : i ≤ L.length) :
    RepC (w'.setCell ⟨Bp, 3, none⟩ v') lo n Bp Bw BM hv v' me hs (L.take i ++ En.new k :: L.drop i) (setM M k (0, fun _ => false)) ∧ FrO w (w'.setCell ⟨Bp, 3, none⟩ v') (Ow Bp BM ev L) (Ow Bp BM v' (L.take i ++ En.new k :: L.drop i)) ∧ (w'.setCell ⟨Bp, 3, none⟩ v').heap[BM]? = w.heap[BM]? ∧
      w'.cell? ⟨Bp, 3, none⟩ = some ev ∧ w'.frozen? ⟨Bp, 3, none⟩ = false := by
  obtain ⟨v'', e, ho, hg, hloc⟩ := hI
  simp only [Ending.returned.injEq] at e
  subst e
  have keep : ∀ (q : Nat) (o : Obj), w.heap[q]? = some o → (∀ c, o ≠ .cells c 73 (0, 0)) → w'.heap[q]? = some o := fun q o hq hne => by
    rw [hg.block q (Array.getElem?_eq_some_iff.1 hq).1 (fun e => ?_)]
    · exact hq
    · obtain ⟨c, hc⟩ := row_kind h.row q e.symm
      rw [hc] at hq; cases hq; exact hne _ rfl
  have hp' := keep _ _ h.p (fun _ h => by cases h)
  have keep2 : ∀ (q : Nat) (o : Obj), w'.heap[q]? = some o → (∀ c, o ≠ .cells c 69 (0, 0)) → (w'.setCell ⟨Bp, 3, none⟩ v').heap[q]? = some o := fun q o hq hne => by
    rw [Below.heap_setCell w' ⟨Bp, 3, none⟩ v' q (fun e => ?_)]
    · exact hq
    · simp only at e; subst e; rw [hp'] at hq; cases hq; exact hne _ rfl
  have keep3 : ∀ (q : Nat) (o : Obj), w.heap[q]? = some o → (∀ c, o ≠ .cells c 73 (0, 0)) → (∀ c, o ≠ .cells c 69 (0, 0)) → (w'.setCell ⟨Bp, 3, none⟩ v').heap[q]? = some o := fun q o hq h1 h2 => keep2 q o (keep q o hq h1) h2
  have hne : ∀ e ∈ L, e.h ≠ k := fun e he => by
    obtain ⟨j, hj, rfl⟩ := List.getElem_of_mem he
    by_cases h1 : j < i
    · have := hlo j hj h1; omega
    · have := hhi j hj (by omega); omega
  have hlt : ∀ e ∈ L, ∀ q, e.v.ownBlock = some q → q < w.heap.size := fun e he q hq => by
    obtain ⟨K, _, bs, h1, _⟩ := h.col e he
    exact (h1.lt q hq).2
  have hl : (L.take i ++ En.new k :: L.drop i).length = L.length + 1 := by simp; omega
  have hpcell : w'.cell? ⟨Bp, 3, none⟩ = some ev := by rw [cell_of_row w' Bp 3 _ 69 (0, 0) hp']; rfl
  have hown2 : ∀ {e s m : Nat} {v : Value} {xs : List Value}, w'.ownsRow lo e s v m xs → e ≠ 69 → (w'.setCell ⟨Bp, 3, none⟩ v').ownsRow lo e s v m xs := fun hq hn => own_same hq fun q hq' => by
    obtain ⟨c, hc⟩ := row_kind hq q hq'
    rw [keep2 q _ hc (fun _ h => by cases h; exact hn rfl), hc]
  have hown3 : ∀ {e s m : Nat} {v : Value} {xs : List Value}, w.ownsRow lo e s v m xs → e ≠ 69 → e ≠ 73 → (w'.setCell ⟨Bp, 3, none⟩ v').ownsRow lo e s v m xs := fun hq h1 h2 => own_same hq fun q hq' => by
    obtain ⟨c, hc⟩ := row_kind hq q hq'
    rw [keep3 q _ hc (fun _ h => by cases h; exact h2 rfl) (fun _ h => by cases h; exact h1 rfl), hc]
  refine ⟨⟨?_, keep3 _ _ h.wr (fun _ h => by cases h) (fun _ h => by cases h), h.hl, h.sz, hown3 h.hosts (by decide) (by decide), by rw [hl]; exact hown2 ho (by decide), ?_, ?_, ?_, ?_, ?_, ?_, by simp [World.setCell]; exact Nat.le_trans h.low hg.size, ?_⟩, ⟨hg.os, hg.tape, hg.output, by simp [World.setCell]; exact hg.size, ?_, ?_⟩, ?_, hpcell, frozen_of_row w' Bp 3 _ 69 hp'⟩
  · have := heap_setCell_same w' Bp 3 _ 69 v' hp'
    rw [this]; rfl
  · refine pair_put h.ord (fun x hx => ?_) (fun x hx => ?_)
    · obtain ⟨j, hj, rfl⟩ := List.getElem_of_mem hx
      rw [List.getElem_take]
      simp only [List.length_take] at hj
      exact hlo j (by omega) (by omega)
    · obtain ⟨j, hj, rfl⟩ := List.getElem_of_mem hx
      rw [List.getElem_drop]
      simp only [List.length_drop] at hj
      exact hhi (i + j) (by omega) (by omega)
  · intro x hx
    rcases mem_put.1 hx with hx | rfl
    · exact h.lt x hx
    · exact hk
  · intro x hx
    rcases mem_put.1 hx with hx | rfl
    · exact h.cb x hx
    · show (0 : Nat) < _; omega
  · intro x hx
    rcases mem_put.1 hx with hx | rfl
    · obtain ⟨K, hM, bs, h1, h2⟩ := h.col x hx
      exact ⟨K, by unfold setM; rw [if_neg (hne x hx)]; exact hM, bs, hown3 h1 (by decide) (by decide), h2⟩
    · exact ⟨fun _ => false, by unfold setM; exact if_pos rfl, [], World.ownsRow_nil _ _ _ _, by simp, by simp [En.new], fun l => bitAt_nil _ _, fun l hl => by cases hl⟩
  · intro x hx
    unfold setM
    rw [if_neg (fun e => hx (En.new k) (mem_put.2 (.inr rfl)) (by rw [e]; rfl))]
    exact h.non x fun y hy => hx y (mem_put.2 (.inl hy))
  · refine pair_put h.apart (fun x hx => ?_) (fun x hx => .inl rfl)
    by_cases e : x.v.ownBlock = none
    · exact .inl e
    · exact .inr fun e' => e (by rw [e']; rfl)
  · obtain ⟨es, c, hb⟩ := h.bm
    exact ⟨es, c, keep3 _ _ hb (fun _ h => by cases h) (fun _ h => by cases h)⟩
  · intro q hq hn
    rw [Below.heap_setCell w' ⟨Bp, 3, none⟩ v' q (fun e => hn (.inl e))]
    exact hg.block q hq (fun e => hn (.inr (.inr (.inl e.symm))))
  · intro q hq ho'
    rcases ho' with ho' | ho' | ho' | ⟨x, hx, ho'⟩
    · exact .inl ho'
    · exact .inr (.inl ho')
    · rcases hloc with e | e
      · exact .inr (.inr (.inl (e ▸ ho')))
      · rw [e] at ho'; cases ho'; omega
    · rcases mem_put.1 hx with hx | rfl
      · exact .inr (.inr (.inr ⟨x, hx, ho'⟩))
      · cases ho'
  · obtain ⟨es, c, hb⟩ := h.bm
    rw [hb]; exact keep3 _ _ hb (fun _ h => by cases h) (fun _ h => by cases h)

/-- What entry leaves: the entry of host k lies at i. -/
def Entered (w w' : World) (lo n Bp Bw BM : Nat) (hv ev : Value) (me : Nat) (hs : List ByteArray) (L : List En) (M : Hold) (k : Nat) (r : Ending) : Prop :=
  ∃ (G cap i : Nat) (L' : List En) (M' : Hold) (hi : i < L'.length), r = .returned (.pointer (some ⟨G, i * 4, none⟩)) ∧ L'[i].h = k ∧ Rep w' lo n Bp Bw BM hv (.slice (some ⟨G, 0, none⟩) L'.length cap) me hs L' M' ∧
    FrO w w' (Ow Bp BM ev L) (Ow Bp BM (.slice (some ⟨G, 0, none⟩) L'.length cap) L') ∧ ((M k ≠ none ∧ M' = M) ∨ (M k = none ∧ M' = setM M k (0, fun _ => false)))

set_option maxRecDepth 100000 in
set_option maxHeartbeats 1000000 in
theorem entry_any (lo n Bp Bw BM : Nat) (hv ev : Value) (me : Nat) (hs : List ByteArray) (L : List En) (M : Hold) (k : Nat) (w : World) (h : Rep w lo n Bp Bw BM hv ev me hs L M) (hk : k < n) (hn : n ≤ 4096) :
    Calls Try.prog 31 #[.pointer (some ⟨Bp, 0, none⟩), .int .i64 k] w fun r w' => Entered w w' lo n Bp Bw BM hv ev me hs L M k r := by
  obtain ⟨p0, p2, p3, p4, p5, p6⟩ := h.c.pcell
  have hL := h.c.len
  obtain ⟨a, c, rfl⟩ := row_shape h.c.row
  go_enter Try.func31, Try.ntmps31
  go_wp2_with fail
  refine (search_any L k lo _ _ (by omega) h.c.ord h.c.row).mono ?_
  rintro e w1 ⟨⟨i, b, rfl, hil, hlo, hhi, hb⟩, hb1⟩
  have h1 : Rep w1 lo n Bp Bw BM hv (.slice a L.length c) me hs L M := ⟨h.c.grow hb1, by
    obtain ⟨D, ⟨es, ck, x1, x2⟩, hV⟩ := h.m
    exact ⟨D, ⟨es, ck, by rw [hb1.block BM (Array.getElem?_eq_some_iff.1 x1).1]; exact x1, x2⟩, hV⟩⟩
  have hF1 : FrO w w1 (Ow Bp BM (.slice a L.length c) L) (Ow Bp BM (.slice a L.length c) L) := FrO.of hb1
  clear p0 p2 p3 p4 p5 p6 hb1 h
  obtain ⟨p0, p2, p3, p4, p5, p6⟩ := h1.c.pcell
  cases b
  · have hno : ∀ (hi : i < L.length), L[i].h ≠ k := fun hi e => by cases hb.2 ⟨hi, e⟩
    have hhi2 : ∀ j (hj : j < L.length), i ≤ j → k < L[j].h := fun j hj hij => by
      by_cases e : i = j
      · subst e
        have := hno hj
        have := hhi i hj hij
        omega
      · have h2 := hhi i (by omega) (Nat.le_refl _)
        have := List.pairwise_iff_getElem.1 h1.c.ord i j (by omega) hj (by omega)
        omega
    have hMk : M k = none := h1.c.non k fun e he => by
      obtain ⟨j, hj, rfl⟩ := List.getElem_of_mem he
      by_cases h2 : j < i
      · have := hlo j hj h2; omega
      · have := hhi2 j hj (by omega); omega
    have HLO : Hid _ := hlo
    have HHI : Hid _ := hhi2
    clear hb hno hhi hhi2 hlo
    go_wp2_with fail
    have ba : Below w1.heap.size w1 (w1.alloc (.cells (En.new k).cells 73)) := (Below.refl _ _).alloc (Nat.le_refl _) _
    have h2 := h1.c.grow ba
    have hlt : ∀ q, (Value.slice a L.length c).ownBlock = some q → q < w1.heap.size := fun q hq => (h1.c.row.lt q hq).2
    refine (insert_any L i (En.new k) lo w1.heap.size _ (w1.alloc (.cells (En.new k).cells 73)) hil (by omega) h2.plain ⟨_, _, _, rfl⟩ h2.row h2.low (heap_alloc_new w1 _) (fun e => by have := hlt _ e; omega)).mono ?_
    rintro r w2 hI
    obtain ⟨v', rfl, hI'⟩ := id hI
    obtain ⟨hC3, hF3, hB3, y0, y1⟩ := h2.insert i k hk HLO.out HHI.out hI hil
    obtain ⟨a', c', rfl⟩ := row_shape hI'.1
    have hl3 : (L.take i ++ En.new k :: L.drop i).length = L.length + 1 := by simp; omega
    obtain ⟨G, cp, e⟩ : ∃ g cc, Value.slice a' (L.length + 1) c' = .slice (some ⟨g, 0, none⟩) (L.length + 1) cc := by
      rcases hI'.1.2 with ⟨_, e⟩ | ⟨g, cap, cur, e, _⟩
      · omega
      · exact ⟨_, _, e⟩
    simp only [Value.slice.injEq, true_and] at e
    obtain ⟨rfl, rfl⟩ := e
    have z3 := hC3.pcell.2.2.1
    have hE : Entered w (w2.setCell ⟨Bp, 3, none⟩ (.slice (some ⟨G, 0, none⟩) (L.length + 1) c')) lo n Bp Bw BM hv (.slice a L.length c) me hs L M k (.returned (.pointer (some ⟨G, i * 4, none⟩))) := by
      refine ⟨G, c', i, L.take i ++ En.new k :: L.drop i, setM M k (0, fun _ => false), by omega, rfl, ?_, ⟨by rw [hl3]; exact hC3, ?_⟩, by rw [hl3]; exact (hF1.trans (FrO.of ba)).trans hF3, .inr ⟨hMk, rfl⟩⟩
      · rw [List.getElem_append_right (by simp; omega)]
        simp [En.new, Nat.min_eq_left hil]
      · obtain ⟨D, ⟨es, ck, x1, x2⟩, hV⟩ := h1.m
        refine ⟨D, ⟨es, ck, ?_, x2⟩, hV.congr fun x _ => ?_⟩
        · rw [hB3, ba.block BM (Array.getElem?_eq_some_iff.1 x1).1]; exact x1
        · rw [cntM_set]
          unfold setC
          split
          · next e => subst e; unfold cntM; rw [hMk]
          · rfl
    have HE : Hid _ := hE
    clear hE hC3 hF3 hB3 hI hI' h2 h1 hF1 ba HLO HHI p0 p2 p3 p4 p5 p6
    go_wp2
    go_ret
    exact HE.out
  · obtain ⟨hi, hik⟩ := hb.1 rfl
    have hMk : M k ≠ none := fun e => by
      obtain ⟨K, hK, _⟩ := h1.c.col L[i] (List.getElem_mem hi)
      rw [hik, e] at hK; cases hK
    obtain ⟨G, cp, e⟩ : ∃ g cc, Value.slice a L.length c = .slice (some ⟨g, 0, none⟩) L.length cc := by
      rcases h1.c.row.2 with ⟨_, e⟩ | ⟨g, cap, cur, e, _⟩
      · omega
      · exact ⟨_, _, e⟩
    simp only [Value.slice.injEq, true_and] at e
    obtain ⟨rfl, rfl⟩ := e
    have hE : Entered w w1 lo n Bp Bw BM hv (.slice (some ⟨G, 0, none⟩) L.length c) me hs L M k (.returned (.pointer (some ⟨G, i * 4, none⟩))) :=
      ⟨G, c, i, L, M, hi, rfl, hik, h1, hF1, .inl ⟨hMk, rfl⟩⟩
    have HE : Hid _ := hE
    clear hE h1 hF1 hb hlo hhi hik
    go_wp2
    go_ret
    exact HE.out
end Go.Proofs.Qxb6614657a
