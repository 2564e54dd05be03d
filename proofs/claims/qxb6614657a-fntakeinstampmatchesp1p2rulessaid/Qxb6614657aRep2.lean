import Derived.Test.Qxb6614657aRep
namespace Go.Proofs.Qxb6614657a
open Go.RowKit

/-- The entry at i, with its set of hosts. -/
theorem RepC.hst {w : World} {lo n Bp Bw BM : Nat} {hv : Value} {G cap : Nat} {me : Nat} {hs : List ByteArray} {L : List En} {M : Hold} (h : RepC w lo n Bp Bw BM hv (.slice (some ⟨G, 0, none⟩) L.length cap) me hs L M) (i : Nat) (hi : i < L.length) :
    ∃ bs K, M L[i].h = some (L[i].c, K) ∧ HSt w lo G L.length cap (i * 4 + 2) (ents L) L[i].f L[i].v bs ∧ L[i].f + bs.length ≤ (n + 7) / 8 ∧ (∀ l, bitAt L[i].f bs l = K l) ∧ (∀ l, K l = true → l < n) := by
  obtain ⟨K, hM, bs, h1, h2, h3, h4, h5⟩ := h.col L[i] (List.getElem_mem hi)
  refine ⟨bs, K, hM, ⟨h.row, by omega, ?_, ?_, h1, h2⟩, h3, h4, h5⟩
  · rw [ents_get L i 2 hi (by omega)]; rfl
  · rw [show i * 4 + 2 + 1 = i * 4 + 3 by omega, ents_get L i 3 hi (by omega)]; rfl
theorem set_map (L : List En) (i : Nat) (e : En) (hi : i < L.length) (he : e.h = L[i].h) : (L.set i e).map (·.h) = L.map (·.h) := by
  rw [List.map_set, he]
  apply List.ext_getElem?
  intro j
  rw [List.getElem?_set]
  by_cases e : i = j
  · subst e; simp [hi]
  · simp [e]
theorem ord_set {L : List En} {i : Nat} {e : En} (hi : i < L.length) (he : e.h = L[i].h) (h : L.Pairwise (fun a b => a.h < b.h)) : (L.set i e).Pairwise (fun a b => a.h < b.h) := by
  have h' : (L.map (·.h)).Pairwise (· < ·) := List.pairwise_map.2 h
  rw [← set_map L i e hi he] at h'
  exact List.pairwise_map.1 h'
theorem ord_ne {L : List En} (h : L.Pairwise (fun a b => a.h < b.h)) {i j : Nat} (hi : i < L.length) (hj : j < L.length) (hne : i ≠ j) : L[i].h ≠ L[j].h := by
  have := List.pairwise_iff_getElem.1 h
  by_cases h1 : i < j
  · have := this i j hi hj h1; omega
  · have := this j i hj hi (by omega); omega
theorem apart_ne {L : List En} (h : L.Pairwise (fun a b => a.v.ownBlock = none ∨ a.v.ownBlock ≠ b.v.ownBlock)) {i j : Nat} (hi : i < L.length) (hj : j < L.length) (hne : i ≠ j) : L[i].v.ownBlock = none ∨ L[i].v.ownBlock ≠ L[j].v.ownBlock := by
  have := List.pairwise_iff_getElem.1 h
  by_cases h1 : i < j
  · exact this i j hi hj h1
  · rcases this j i hj hi (by omega) with e | e
    · by_cases h2 : L[i].v.ownBlock = none
      · exact .inl h2
      · exact .inr (by rw [e]; exact h2)
    · exact .inr (Ne.symm e)
/-- What a set's update does to the process. -/
theorem RepC.turn {w w' : World} {lo n Bp Bw BM : Nat} {hv : Value} {G cap : Nat} {me : Nat} {hs : List ByteArray} {L : List En} {M : Hold} (h : RepC w lo n Bp Bw BM hv (.slice (some ⟨G, 0, none⟩) L.length cap) me hs L M) (i : Nat) (hi : i < L.length) (e : En) (K : Nat → Bool) (heh : e.h = L[i].h) (hec : e.c < 18446744073709551616)
    (fr : Fr2 w w' G L[i].v.ownBlock) (hv' : e.v.ownBlock = L[i].v.ownBlock ∨ ∀ k, e.v.ownBlock = some k → w.heap.size ≤ k) (hrow : w'.ownsRow lo 73 4 (.slice (some ⟨G, 0, none⟩) L.length cap) L.length (ents (L.set i e))) (hc : Col w' lo n e K) :
    RepC w' lo n Bp Bw BM hv (.slice (some ⟨G, 0, none⟩) L.length cap) me hs (L.set i e) (setM M L[i].h (e.c, K)) ∧ FrO w w' (Ow Bp BM (.slice (some ⟨G, 0, none⟩) L.length cap) L) (Ow Bp BM (.slice (some ⟨G, 0, none⟩) L.length cap) (L.set i e)) ∧ w'.heap[BM]? = w.heap[BM]? := by
  obtain ⟨cG, hG⟩ := row_kind h.row G rfl
  obtain ⟨Ki, _, hci⟩ := h.col L[i] (List.getElem_mem hi)
  have hlt : ∀ j (hj : j < L.length) q, L[j].v.ownBlock = some q → q < w.heap.size := fun j hj q hq => by
    obtain ⟨K, _, bs, h1, _⟩ := h.col L[j] (List.getElem_mem hj)
    exact (h1.lt q hq).2
  have keep : ∀ (q : Nat) (o : Obj), w.heap[q]? = some o → (∀ c, o ≠ .cells c 73 (0, 0)) → (∀ c, o ≠ .cells c 5 (0, 0)) → w'.heap[q]? = some o := fun q o ho h73 h5 => by
    rw [fr.block q (Array.getElem?_eq_some_iff.1 ho).1 ?_ ?_]
    · exact ho
    · intro e; subst e; rw [hG] at ho; cases ho; exact h73 _ rfl
    · intro e
      obtain ⟨bs, h1, _⟩ := hci
      obtain ⟨c, hc⟩ := row_kind h1 q e.symm
      rw [hc] at ho; cases ho; exact h5 _ rfl
  have hget : ∀ j (hj : j < (L.set i e).length), (j = i ∧ (L.set i e)[j] = e) ∨ (j ≠ i ∧ ∃ hj' : j < L.length, (L.set i e)[j] = L[j]) := fun j hj => by
    have hj' : j < L.length := by simpa using hj
    by_cases e1 : j = i
    · subst e1; exact .inl ⟨rfl, by simp⟩
    · exact .inr ⟨e1, hj', by rw [List.getElem_set_ne (Ne.symm e1)]⟩
  have hother : ∀ j (hj : j < L.length), j ≠ i → ∀ q, L[j].v.ownBlock = some q → w'.heap[q]? = w.heap[q]? := fun j hj hne q hq => by
    obtain ⟨K, _, bs, h1, _⟩ := h.col L[j] (List.getElem_mem hj)
    refine fr.block q (hlt j hj q hq) (fun e => ?_) (fun e => ?_)
    · subst e
      obtain ⟨c, hc⟩ := row_kind h1 _ hq
      rw [hG] at hc; cases hc
    · rcases apart_ne h.apart hj hi hne with e2 | e2
      · rw [hq] at e2; cases e2
      · exact e2 (hq.trans e)
  refine ⟨⟨keep _ _ h.p (fun _ h => by cases h) (fun _ h => by cases h), keep _ _ h.wr (fun _ h => by cases h) (fun _ h => by cases h), h.hl, h.sz, ?_, by rw [List.length_set]; exact hrow, ord_set hi heh h.ord, ?_, ?_, ?_, ?_, ?_, Nat.le_trans h.low fr.size, ?_⟩, ⟨fr.os, fr.tape, fr.output, fr.size, ?_, ?_⟩, ?_⟩
  · refine own_same h.hosts fun q hq => ?_
    obtain ⟨c, hc⟩ := row_kind h.hosts q hq
    rw [keep q _ hc (fun _ h => by cases h) (fun _ h => by cases h), hc]
  · intro x hx
    rcases List.mem_or_eq_of_mem_set hx with hx | rfl
    · exact h.lt x hx
    · rw [heh]; exact h.lt _ (List.getElem_mem hi)
  · intro x hx
    rcases List.mem_or_eq_of_mem_set hx with hx | rfl
    · exact h.cb x hx
    · exact hec
  · intro x hx
    obtain ⟨j, hj, rfl⟩ := List.getElem_of_mem hx
    rcases hget j hj with ⟨rfl, e1⟩ | ⟨hne, hj', e1⟩
    · rw [e1]
      exact ⟨K, by unfold setM; rw [if_pos heh], hc⟩
    · rw [e1]
      obtain ⟨Kj, hM, hcj⟩ := h.col L[j] (List.getElem_mem hj')
      exact ⟨Kj, by unfold setM; rw [if_neg (ord_ne h.ord hj' hi hne)]; exact hM, hcj.kept (hother j hj' hne)⟩
  · intro x hx
    have hmem : e ∈ L.set i e := List.mem_iff_getElem.2 ⟨i, by simpa using hi, by simp⟩
    have hne : x ≠ L[i].h := fun e1 => hx e hmem (by rw [heh, e1])
    unfold setM
    rw [if_neg hne]
    refine h.non x fun y hy => ?_
    obtain ⟨j, hj, rfl⟩ := List.getElem_of_mem hy
    by_cases e1 : j = i
    · subst e1; exact Ne.symm hne
    · refine hx _ ?_
      have : (L.set i e)[j]'(by simpa using hj) = L[j] := by rw [List.getElem_set_ne (Ne.symm e1)]
      rw [← this]; exact List.getElem_mem _
  · refine List.pairwise_iff_getElem.2 fun j k hj hk hjk => ?_
    rcases hget j hj with ⟨rfl, e1⟩ | ⟨hne, hj', e1⟩
    · rcases hget k hk with ⟨rfl, _⟩ | ⟨hne2, hk', e2⟩
      · omega
      · rw [e1, e2]
        rcases hv' with e3 | e3
        · rw [e3]; exact apart_ne h.apart hi hk' (Ne.symm hne2)
        · by_cases e4 : e.v.ownBlock = none
          · exact .inl e4
          · obtain ⟨q, hq⟩ := Option.ne_none_iff_exists'.1 e4
            exact .inr fun e5 => by
              have := e3 q hq
              have := hlt k hk' q (e5 ▸ hq)
              omega
    · rcases hget k hk with ⟨rfl, e2⟩ | ⟨hne2, hk', e2⟩
      · rw [e1, e2]
        rcases hv' with e3 | e3
        · rw [e3]; exact apart_ne h.apart hj' hi hne
        · by_cases e4 : L[j].v.ownBlock = none
          · exact .inl e4
          · obtain ⟨q, hq⟩ := Option.ne_none_iff_exists'.1 e4
            exact .inr fun e5 => by
              have := e3 q (e5 ▸ hq)
              have := hlt j hj' q hq
              omega
      · rw [e1, e2]; exact apart_ne h.apart hj' hk' (by omega)
  · obtain ⟨es, c, hb⟩ := h.bm
    exact ⟨es, c, keep _ _ hb (fun _ h => by cases h) (fun _ h => by cases h)⟩
  · intro q hq hn
    exact fr.block q hq (fun e1 => hn (.inr (.inr (.inl (by rw [e1]; rfl))))) (fun e1 => hn (.inr (.inr (.inr ⟨L[i], List.getElem_mem hi, e1.symm⟩))))
  · intro q hq ho
    rcases ho with ho | ho | ho | ⟨x, hx, ho⟩
    · exact .inl ho
    · exact .inr (.inl ho)
    · exact .inr (.inr (.inl ho))
    · rcases List.mem_or_eq_of_mem_set hx with hx | rfl
      · exact .inr (.inr (.inr ⟨x, hx, ho⟩))
      · rcases hv' with e3 | e3
        · exact .inr (.inr (.inr ⟨L[i], List.getElem_mem hi, e3 ▸ ho⟩))
        · have := e3 q ho; omega
  · obtain ⟨es, c, hb⟩ := h.bm
    rw [hb]; exact keep _ _ hb (fun _ h => by cases h) (fun _ h => by cases h)
/-- An update of the set of the entry at i. -/
theorem RepC.upd {w w' : World} {lo n Bp Bw BM : Nat} {hv : Value} {G cap : Nat} {me : Nat} {hs : List ByteArray} {L : List En} {M : Hold} (h : RepC w lo n Bp Bw BM hv (.slice (some ⟨G, 0, none⟩) L.length cap) me hs L M) (i : Nat) (hi : i < L.length) (K : Nat → Bool) (hK : ∀ l, K l = true → l < n)
    (hu : Upd w w' lo G L.length cap (i * 4 + 2) (ents L) L[i].v K ((n + 7) / 8)) :
    ∃ e, e.h = L[i].h ∧ e.c = L[i].c ∧ RepC w' lo n Bp Bw BM hv (.slice (some ⟨G, 0, none⟩) L.length cap) me hs (L.set i e) (setM M L[i].h (L[i].c, K)) ∧ FrO w w' (Ow Bp BM (.slice (some ⟨G, 0, none⟩) L.length cap) L) (Ow Bp BM (.slice (some ⟨G, 0, none⟩) L.length cap) (L.set i e)) ∧ w'.heap[BM]? = w.heap[BM]? := by
  obtain ⟨f', v', bs', hS, fr, hv', hb, hN⟩ := hu
  have hrow := hS.row
  rw [ents_set L i f' v' hi] at hrow
  exact ⟨⟨L[i].h, L[i].c, f', v'⟩, rfl, rfl, h.turn i hi ⟨L[i].h, L[i].c, f', v'⟩ K rfl (h.cb L[i] (List.getElem_mem hi)) fr hv' hrow ⟨bs', hS.own, hS.byt, hN, hb, hK⟩⟩
end Go.Proofs.Qxb6614657a
