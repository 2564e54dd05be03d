import Derived.Test.Qxb6614657aEntry
namespace Go.Proofs.Qxb6614657a
open Go.RowKit

def zeroH : Nat × (Nat → Bool) := (0, fun _ => false)
/-- The rule of P2 at one entry. -/
def colF (me v : Nat) (T : Nat → Bool) (x : Nat × (Nat → Bool)) : Nat × (Nat → Bool) :=
  if x.1 < v then (v, fun l => decide (l = me) || T l) else if x.1 = v then (v, fun l => x.2 l || T l) else x
/-- The rule of P1 at one entry. -/
def pairF (me frm k v : Nat) (x : Nat × (Nat → Bool)) : Nat × (Nat → Bool) :=
  if x.1 < v then (v, fun l => (decide (l = me) || (decide (x.1 = 0) || x.2 k) && decide (l = k)) || decide (l = frm)) else if x.1 = v then (v, fun l => x.2 l || decide (l = frm)) else x
/-- What a process holds of host k. -/
def at' (M : Hold) (k : Nat) : Nat × (Nat → Bool) := (M k).getD zeroH
def Took (w w' : World) (lo n Bp Bw BM : Nat) (hv ev : Value) (me : Nat) (hs : List ByteArray) (L : List En) (M' : Hold) : Prop :=
  ∃ ev' L', Rep w' lo n Bp Bw BM hv ev' me hs L' M' ∧ FrO w w' (Ow Bp BM ev L) (Ow Bp BM ev' L')

theorem own_map {w w' : World} {BM : Nat} {D : DataW Unit} (h : w.ownsMap Try.prog 9 (plainElem Try.prog 37) BM (Maps.size D) D) (e : w'.heap[BM]? = w.heap[BM]?) : w'.ownsMap Try.prog 9 (plainElem Try.prog 37) BM (Maps.size D) D := by
  obtain ⟨es, ck, x1, x2⟩ := h
  exact ⟨es, ck, by rw [e]; exact x1, x2⟩
theorem Rep.grow {w w' : World} {lo n Bp Bw BM : Nat} {hv ev : Value} {me : Nat} {hs : List ByteArray} {L : List En} {M : Hold} (h : Rep w lo n Bp Bw BM hv ev me hs L M) (hb : Below w.heap.size w w') : Rep w' lo n Bp Bw BM hv ev me hs L M := by
  refine ⟨h.c.grow hb, ?_⟩
  obtain ⟨D, hm, hV⟩ := h.m
  exact ⟨D, own_map hm (hb.block BM hm.lt), hV⟩
theorem RepC.owlt {w : World} {lo n Bp Bw BM : Nat} {hv ev : Value} {me : Nat} {hs : List ByteArray} {L : List En} {M : Hold} (h : RepC w lo n Bp Bw BM hv ev me hs L M) {q : Nat} (hq : Ow Bp BM ev L q) : q < w.heap.size := by
  rcases hq with rfl | rfl | hq | ⟨e, he, hq⟩
  · exact (Array.getElem?_eq_some_iff.1 h.p).1
  · obtain ⟨es, c, hb⟩ := h.bm; exact (Array.getElem?_eq_some_iff.1 hb).1
  · exact (h.row.lt q hq).2
  · obtain ⟨K, _, bs, h1, _⟩ := h.col e he
    exact (h1.lt q hq).2
theorem FrO.row {w w' : World} {O O' : Nat → Prop} (h : FrO w w' O O') {lo e s n : Nat} {u : Value} {xs : List Value} (ho : w.ownsRow lo e s u n xs) (hn : ∀ q, u.ownBlock = some q → ¬ O q) : w'.ownsRow lo e s u n xs :=
  own_same ho fun q hq => h.block q (ho.lt q hq).2 (hn q hq)
theorem FrO.cell {w w' : World} {O O' : Nat → Prop} (h : FrO w w' O O') {a : Addr} (ha : a.block < w.heap.size) (hn : ¬ O a.block) : w'.cell? a = w.cell? a := World.cell?_of_block (h.block a.block ha hn)
/-- The count of an entry is what the process holds. -/
theorem RepC.held {w : World} {lo n Bp Bw BM : Nat} {hv ev : Value} {me : Nat} {hs : List ByteArray} {L : List En} {M : Hold} (h : RepC w lo n Bp Bw BM hv ev me hs L M) (i : Nat) (hi : i < L.length) : ∃ K, M L[i].h = some (L[i].c, K) := by
  obtain ⟨K, hM, _⟩ := h.col L[i] (List.getElem_mem hi)
  exact ⟨K, hM⟩
/-- An update of the set, in the process. -/
theorem Rep.upd {w w' : World} {lo n Bp Bw BM : Nat} {hv : Value} {G cap : Nat} {me : Nat} {hs : List ByteArray} {L : List En} {M : Hold} (h : Rep w lo n Bp Bw BM hv (.slice (some ⟨G, 0, none⟩) L.length cap) me hs L M) (i : Nat) (hi : i < L.length) (K : Nat → Bool) (hK : ∀ l, K l = true → l < n)
    (hu : Upd w w' lo G L.length cap (i * 4 + 2) (ents L) L[i].v K ((n + 7) / 8)) :
    ∃ e, e.h = L[i].h ∧ e.c = L[i].c ∧ Rep w' lo n Bp Bw BM hv (.slice (some ⟨G, 0, none⟩) (L.set i e).length cap) me hs (L.set i e) (setM M L[i].h (L[i].c, K)) ∧ FrO w w' (Ow Bp BM (.slice (some ⟨G, 0, none⟩) L.length cap) L) (Ow Bp BM (.slice (some ⟨G, 0, none⟩) (L.set i e).length cap) (L.set i e)) := by
  obtain ⟨e, h1, h2, h3, h4, h5⟩ := h.c.upd i hi K hK hu
  obtain ⟨D, hm, hV⟩ := h.m
  obtain ⟨K0, hM0⟩ := h.c.held i hi
  refine ⟨e, h1, h2, ⟨by rw [List.length_set]; exact h3, D, own_map hm h5, hV.congr fun x _ => ?_⟩, by rw [List.length_set]; exact h4⟩
  rw [cntM_set]
  unfold setC
  split
  · next e => subst e; unfold cntM; rw [hM0]
  · rfl
/-- A set of hosts that is handed in. -/
structure Given (w : World) (n tf : Nat) (tv : Value) (tbs : List Nat) : Prop where
  own : ∃ lo', w.ownsRow lo' 5 1 tv tbs.length (u8s tbs)
  byt : ∀ b ∈ tbs, b < 256
  fit : tf + tbs.length ≤ (n + 7) / 8
  low : ∀ l, bitAt tf tbs l = true → l < n
theorem Given.of {w w' : World} {n tf : Nat} {tv : Value} {tbs : List Nat} (h : Given w n tf tv tbs) {O O' : Nat → Prop} (hF : FrO w w' O O') (hn : ∀ q, tv.ownBlock = some q → ¬ O q) : Given w' n tf tv tbs := by
  obtain ⟨⟨lo', h1⟩, h2, h3, h4⟩ := h
  exact ⟨⟨lo', hF.row h1 hn⟩, h2, h3, h4⟩

theorem setM_same (M : Hold) (k : Nat) (x : Nat × (Nat → Bool)) (h : M k = some x) : setM M k x = M := by
  funext j
  unfold setM
  split
  · next e => subst e; exact h.symm
  · rfl
/-- The state behind the raise: the entry of k lies at i. -/
def Mid (w0 wx : World) (lo n Bp Bw BM : Nat) (hv ev : Value) (me : Nat) (hs : List ByteArray) (L : List En) (M' : Hold) (G i k c : Nat) : Prop :=
  ∃ (cap : Nat) (L2 : List En) (hi : i < L2.length), L2[i].h = k ∧ L2[i].c = c ∧ Rep wx lo n Bp Bw BM hv (.slice (some ⟨G, 0, none⟩) L2.length cap) me hs L2 M' ∧ FrO w0 wx (Ow Bp BM ev L) (Ow Bp BM (.slice (some ⟨G, 0, none⟩) L2.length cap) L2)
attribute [local go_sem ↓] load71S store71S

set_option maxRecDepth 100000 in
set_option maxHeartbeats 1000000 in
theorem column_any (lo n Bp Bw BM : Nat) (hv ev : Value) (me : Nat) (hs : List ByteArray) (L : List En) (M : Hold) (k v tf : Nat) (tv : Value) (tbs : List Nat) (w : World) (h : Rep w lo n Bp Bw BM hv ev me hs L M) (hd : Distinct hs) (hk : k < n) (hn : n ≤ 4096) (hme : me < n) (hv0 : v ≠ 0) (hv1 : v < 18446744073709551616)
    (hT : Given w n tf tv tbs) (hap : ∀ q, tv.ownBlock = some q → ¬ Ow Bp BM ev L q) :
    Calls Try.prog 29 #[.pointer (some ⟨Bp, 0, none⟩), .int .i64 k, .int .u64 v, .agg #[.int .i64 tf, tv]] w fun r w' => r = .returned (.tuple #[]) ∧ Took w w' lo n Bp Bw BM hv ev me hs L (setM M k (colF me v (bitAt tf tbs) (at' M k))) := by
  have b0 : Below w.heap.size w (w.alloc (.cells #[.int .i64 tf, tv] 71)) := (Below.refl _ _).alloc (Nat.le_refl _) _
  have h0 := h.grow b0
  have hF0 : FrO w (w.alloc (.cells #[.int .i64 tf, tv] 71)) (Ow Bp BM ev L) (Ow Bp BM ev L) := FrO.of b0
  have hT0 := hT.of hF0 hap
  have hbx : ¬ Ow Bp BM ev L w.heap.size := fun hq => by have := h.c.owlt hq; omega
  obtain ⟨lo', hT1⟩ := hT.own
  obtain ⟨ta, tc, rfl⟩ := row_shape hT1
  go_enter Try.func29, Try.ntmps29
  go_wp2_with fail
  refine (entry_any lo n Bp Bw BM hv ev me hs L M k _ h0 hk hn).mono ?_
  rintro r w1 ⟨G, cap, i, L1, M1, hi, rfl, hik, h1, hF1, hMM⟩
  obtain ⟨K1, hK1⟩ := h1.c.held i hi
  rw [hik] at hK1
  have hat : at' M k = (L1[i].c, K1) := by
    unfold at'
    rcases hMM with ⟨_, e⟩ | ⟨e, e'⟩
    · rw [← e, hK1]; rfl
    · rw [e]
      rw [e'] at hK1
      unfold setM at hK1
      simp only [if_pos, Option.some.injEq] at hK1
      exact hK1
  have hset : ∀ x, setM M1 k x = setM M k x := fun x => by
    rcases hMM with ⟨_, e⟩ | ⟨_, e'⟩
    · rw [e]
    · rw [e', setM_set]
  have hF := hF0.trans hF1
  have hT2 := hT0.of hF1 hap
  have q0 : w1.cell? ⟨w.heap.size, 0, none⟩ = some (.int .i64 tf) := by rw [hF1.cell (by simp) hbx]; simp
  have q1 : w1.cell? ⟨w.heap.size, 1, none⟩ = some (.slice ta tbs.length tc) := by rw [hF1.cell (by simp) hbx]; simp
  obtain ⟨x0, x1, x2, x3, xf⟩ := h1.c.cellAt i hi
  clear xf
  have hqlt : ∀ q, (Value.slice ta tbs.length tc).ownBlock = some q → q < w.heap.size := fun q hq => (hT1.lt q hq).2
  by_cases hc : L1[i].c < v
  · have d1 : decide ((L1[i].c : Int) < (v : Int)) = true := by simpa using hc
    go_wp2_with fail
    refine (raise_any lo n Bp Bw BM hv G cap me hs L1 M1 i v _ h1 hi hd hv0 hv1 hme hn).mono ?_
    rintro r w2 ⟨rfl, e2, e2h, e2c, h2, hF2⟩
    rw [hik] at h2 e2h
    rw [hset] at h2
    obtain ⟨L2, hL2⟩ : ∃ L2, L2 = L1.set i e2 := ⟨_, rfl⟩
    have hlen : L2.length = L1.length := by rw [hL2, List.length_set]
    have hi2 : i < L2.length := by omega
    have h2i : L2[i] = e2 := by simp [hL2]
    rw [← hL2, ← hlen] at h2
    rw [← hL2] at hF2
    have hFF := hF.trans hF2
    have hT3 := hT2.of hF2 (fun q hq hO => hap q hq (hF.sub q (hqlt q hq) hO))
    have hbx2 : ¬ Ow Bp BM (.slice (some ⟨G, 0, none⟩) L1.length cap) L1 w.heap.size := fun hO => hbx (hF1.sub _ (by simp) hO)
    have hw1 : w.heap.size < w1.heap.size := Nat.lt_of_lt_of_le (by simp) hF1.size
    have r0 : w2.cell? ⟨w.heap.size, 0, none⟩ = some (.int .i64 tf) := by rw [hF2.cell hw1 hbx2]; exact q0
    have r1 : w2.cell? ⟨w.heap.size, 1, none⟩ = some (.slice ta tbs.length tc) := by rw [hF2.cell hw1 hbx2]; exact q1
    clear x0 x1 x2 x3 q0 q1 d1
    have y1 := (h2.c.cellAt i hi2).2.1
    rw [h2i, e2c] at y1
    obtain ⟨bs2, K2, hM2, hS2, hN2, hb2, hl2⟩ := (h2.c.grow (Below.refl _ _).drew).hst i hi2
    have hne : (Value.slice ta tbs.length tc).ownBlock = none ∨ (Value.slice ta tbs.length tc).ownBlock ≠ L2[i].v.ownBlock := by
      by_cases e : (Value.slice ta tbs.length tc).ownBlock = none
      · exact .inl e
      · obtain ⟨q, hq⟩ := Option.ne_none_iff_exists'.1 e
        exact .inr fun e' => hap q hq (hFF.sub q (hqlt q hq) (.inr (.inr (.inr ⟨L2[i], List.getElem_mem hi2, e' ▸ hq⟩))))
    have hTd : Given w2.drew n tf (.slice ta tbs.length tc) tbs := hT3.of (FrO.of (Below.refl _ _).drew) (O := fun _ => False) (fun _ _ h => h)
    obtain ⟨lod, hTo⟩ := hTd.own
    have ld := load71V_at (w := w2) (g := w.heap.size) (o := 0) (x := .int .i64 tf) (y := .slice ta tbs.length tc) (fun j u hu => by
      match j, hu with
      | 0, hu => cases hu; exact r0
      | 1, hu => cases hu; exact r1
      | j + 2, hu => simp at hu)
    have ld' : (loadS 71 (.pointer (some ⟨w.heap.size, 0, none⟩))).run Try.prog w2.drew = .ok (.agg #[.int .i64 tf, .slice ta tbs.length tc]) w2.drew := load71V_at (w := w2.drew) (g := w.heap.size) (o := 0) (x := .int .i64 tf) (y := .slice ta tbs.length tc) (fun j u hu => by
      match j, hu with
      | 0, hu => cases hu; exact r0
      | 1, hu => cases hu; exact r1
      | j + 2, hu => simp at hu)
    go_upto_region 5 with fail
    have HA := addAll_any lo lod G L2.length cap (i * 4 + 2) (ents L2) L2[i].f L2[i].v bs2 tf _ tbs ((n + 7) / 8) _ hS2 hTo hTd.byt hne (by omega) hTd.fit hN2 (h2.c.grow (Below.refl _ _).drew).low
    have hfin : ∀ W3, Upd w2.drew W3 lo G L2.length cap (i * 4 + 2) (ents L2) L2[i].v (fun x => bitAt L2[i].f bs2 x || bitAt tf tbs x) ((n + 7) / 8) → Took w W3 lo n Bp Bw BM hv ev me hs L (setM M k (colF me v (bitAt tf tbs) (at' M k))) := fun W3 hup => by
      obtain ⟨e4, e4h, e4c, hR4, hF4⟩ := (h2.grow (Below.refl _ _).drew).upd i hi2 _ (fun l hl => by
        rw [hb2] at hl
        rcases Bool.or_eq_true _ _ ▸ hl with hl | hl
        · exact hl2 l hl
        · exact hTd.low l hl) hup
      refine ⟨_, _, ?_, (hFF.trans (FrO.of (Below.refl _ _).drew)).trans hF4⟩
      have e1 : L2[i].h = k := by rw [h2i]; exact e2h
      have e3 : L2[i].c = v := by rw [h2i]; exact e2c
      rw [e1, e3] at hM2 hR4
      have e5 : K2 = fun x => decide (x = me) := by
        unfold setM at hM2
        simp only [if_pos, Option.some.injEq, Prod.mk.injEq, true_and] at hM2
        exact hM2.symm
      have e6 : colF me v (bitAt tf tbs) (at' M k) = (v, fun x => bitAt L2[i].f bs2 x || bitAt tf tbs x) := by
        rw [hat]
        unfold colF
        rw [if_pos hc]
        congr 1
        funext l
        rw [hb2, e5]
      rw [e6, ← setM_set M k (v, fun x => decide (x = me))]
      exact hR4
    have HFIN : Hid _ := hfin
    clear hfin
    go_region_with (go_at_call 33; refine HA.mono ?_; rintro e W3 ⟨rfl, hup⟩)
    all_goals go_wp2
    all_goals exact bodyPost_end (results_none Try.results29 _ _ _) rfl ⟨rfl, HFIN.out _ hup⟩
  · have d1 : decide ((L1[i].c : Int) < (v : Int)) = false := by simpa using hc
    by_cases hce : L1[i].c = v
    · rw [hce] at x1 d1
      obtain ⟨bs2, K2, hM2, hS2, hN2, hb2, hl2⟩ := (h1.c.grow (Below.refl _ _).drew).hst i hi
      have hne : (Value.slice ta tbs.length tc).ownBlock = none ∨ (Value.slice ta tbs.length tc).ownBlock ≠ L1[i].v.ownBlock := by
        by_cases e : (Value.slice ta tbs.length tc).ownBlock = none
        · exact .inl e
        · obtain ⟨q, hq⟩ := Option.ne_none_iff_exists'.1 e
          exact .inr fun e' => hap q hq (hF.sub q (hqlt q hq) (.inr (.inr (.inr ⟨L1[i], List.getElem_mem hi, e' ▸ hq⟩))))
      have hTd : Given w1.drew n tf (.slice ta tbs.length tc) tbs := hT2.of (FrO.of (Below.refl _ _).drew) (O := fun _ => False) (fun _ _ h => h)
      obtain ⟨lod, hTo⟩ := hTd.own
      have ld := load71V_at (w := w1) (g := w.heap.size) (o := 0) (x := .int .i64 tf) (y := .slice ta tbs.length tc) (fun j u hu => by
        match j, hu with
        | 0, hu => cases hu; exact q0
        | 1, hu => cases hu; exact q1
        | j + 2, hu => simp at hu)
      have ld' : (loadS 71 (.pointer (some ⟨w.heap.size, 0, none⟩))).run Try.prog w1.drew = .ok (.agg #[.int .i64 tf, .slice ta tbs.length tc]) w1.drew := load71V_at (w := w1.drew) (g := w.heap.size) (o := 0) (x := .int .i64 tf) (y := .slice ta tbs.length tc) (fun j u hu => by
        match j, hu with
        | 0, hu => cases hu; exact q0
        | 1, hu => cases hu; exact q1
        | j + 2, hu => simp at hu)
      go_upto_region 5 with fail
      have HA := addAll_any lo lod G L1.length cap (i * 4 + 2) (ents L1) L1[i].f L1[i].v bs2 tf _ tbs ((n + 7) / 8) _ hS2 hTo hTd.byt hne (by omega) hTd.fit hN2 (h1.c.grow (Below.refl _ _).drew).low
      have hfin : ∀ W3, Upd w1.drew W3 lo G L1.length cap (i * 4 + 2) (ents L1) L1[i].v (fun x => bitAt L1[i].f bs2 x || bitAt tf tbs x) ((n + 7) / 8) → Took w W3 lo n Bp Bw BM hv ev me hs L (setM M k (colF me v (bitAt tf tbs) (at' M k))) := fun W3 hup => by
        obtain ⟨e4, e4h, e4c, hR4, hF4⟩ := (h1.grow (Below.refl _ _).drew).upd i hi _ (fun l hl => by
          rw [hb2] at hl
          rcases Bool.or_eq_true _ _ ▸ hl with hl | hl
          · exact hl2 l hl
          · exact hTd.low l hl) hup
        refine ⟨_, _, ?_, (hF.trans (FrO.of (Below.refl _ _).drew)).trans hF4⟩
        rw [hik] at hM2 hR4
        have e5 : K2 = K1 := by
          rw [hK1] at hM2
          simp only [Option.some.injEq, Prod.mk.injEq, true_and] at hM2
          exact hM2.symm
        have e6 : colF me v (bitAt tf tbs) (at' M k) = (L1[i].c, fun x => bitAt L1[i].f bs2 x || bitAt tf tbs x) := by
          rw [hat]
          unfold colF
          rw [if_neg hc, if_pos hce, hce]
          congr 1
          funext l
          rw [hb2, e5]
        rw [e6, ← hset]
        exact hR4
      have HFIN : Hid _ := hfin
      clear hfin
      go_region_with (go_at_call 33; refine HA.mono ?_; rintro e W3 ⟨rfl, hup⟩)
      all_goals go_wp2
      all_goals exact bodyPost_end (results_none Try.results29 _ _ _) rfl ⟨rfl, HFIN.out _ hup⟩
    · have hT9 : Took w w1 lo n Bp Bw BM hv ev me hs L (setM M k (colF me v (bitAt tf tbs) (at' M k))) := by
        have e6 : colF me v (bitAt tf tbs) (at' M k) = (L1[i].c, K1) := by
          rw [hat]
          unfold colF
          rw [if_neg hc, if_neg hce]
        rw [e6, ← hset, setM_same M1 k _ hK1]
        exact ⟨_, _, h1, hF⟩
      have d2 : ((L1[i].c : Int) == (v : Int)) = false := by simp; omega
      have HT : Hid _ := hT9
      clear hT9
      go_wp2
      exact bodyPost_end (results_none Try.results29 _ _ _) rfl ⟨rfl, HT.out⟩
end Go.Proofs.Qxb6614657a
