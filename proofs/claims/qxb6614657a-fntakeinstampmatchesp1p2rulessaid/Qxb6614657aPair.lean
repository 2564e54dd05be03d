import Derived.Test.Qxb6614657aTake
namespace Go.Proofs.Qxb6614657a
open Go.RowKit
attribute [local go_sem ↓] load71S store71S

/-- One host is added to the set of the entry at i: the call, and what is left. -/
theorem add_step (lo n Bp Bw BM : Nat) (hv ev : Value) (G cap me : Nat) (hs : List ByteArray) (L0 L : List En) (M : Hold) (i l : Nat) (w0 w : World) (h : Rep w lo n Bp Bw BM hv (.slice (some ⟨G, 0, none⟩) L.length cap) me hs L M) (hi : i < L.length) (hl : l < n) (hn : n ≤ 4096) {c : Nat} {K : Nat → Bool} (hM : M L[i].h = some (c, K))
    (hF : FrO w0 w (Ow Bp BM ev L0) (Ow Bp BM (.slice (some ⟨G, 0, none⟩) L.length cap) L)) :
    Calls Try.prog 35 #[.pointer (some ⟨G, i * 4 + 2, none⟩), .int .i64 l] w fun e w' => e = .returned (.tuple #[]) ∧ Mid w0 w' lo n Bp Bw BM hv ev me hs L0 (setM M L[i].h (c, fun x => K x || decide (x = l))) G i L[i].h c := by
  obtain ⟨bs, K', hM', hS, hN, hb, hlow⟩ := h.c.hst i hi
  rw [hM] at hM'
  simp only [Option.some.injEq, Prod.mk.injEq] at hM'
  obtain ⟨hc, hK⟩ := hM'
  subst hK
  refine (add_any lo G L.length cap (i * 4 + 2) (ents L) L[i].f L[i].v bs l n w hS hl hn hN h.c.low).mono ?_
  rintro e w' ⟨rfl, hup⟩
  obtain ⟨e4, e4h, e4c, hR4, hF4⟩ := h.upd i hi _ (fun x hx => by
    rw [hb] at hx
    rcases Bool.or_eq_true _ _ ▸ hx with hx | hx
    · exact hlow x hx
    · simp at hx; omega) hup
  have hf : (fun x => bitAt L[i].f bs x || decide (x = l)) = fun x => K x || decide (x = l) := by funext x; rw [hb]
  rw [hf, ← hc] at hR4
  refine ⟨rfl, cap, L.set i e4, by simpa using hi, by simp [e4h], by simp [e4c, hc], hR4, hF.trans hF4⟩

set_option maxRecDepth 100000 in
set_option maxHeartbeats 1000000 in
theorem pair_any (lo n Bp Bw BM : Nat) (hv ev : Value) (me : Nat) (hs : List ByteArray) (L : List En) (M : Hold) (frm k v : Nat) (w : World) (h : Rep w lo n Bp Bw BM hv ev me hs L M) (hd : Distinct hs) (hk : k < n) (hfr : frm < n) (hn : n ≤ 4096) (hme : me < n) (hv0 : v ≠ 0) (hv1 : v < 18446744073709551616) :
    Calls Try.prog 30 #[.pointer (some ⟨Bp, 0, none⟩), .int .i64 frm, .int .i64 k, .int .u64 v] w fun r w' => r = .returned (.tuple #[]) ∧ Took w w' lo n Bp Bw BM hv ev me hs L (setM M k (pairF me frm k v (at' M k))) := by
  go_enter Try.func30, Try.ntmps30
  go_wp2_with fail
  refine (entry_any lo n Bp Bw BM hv ev me hs L M k _ h hk hn).mono ?_
  rintro r w1 ⟨G, cap, i, L1, M1, hi, rfl, hik, h1, hF, hMM⟩
  obtain ⟨K1, hK1⟩ := h1.c.held i hi
  rw [hik] at hK1
  have hat : at' M k = (L1[i].c, K1) := by
    unfold at'
    rcases hMM with ⟨_, e⟩ | ⟨e, e'⟩
    · rw [← e, hK1]; rfl
    · rw [e]
      rw [e'] at hK1
      unfold setM at hK1
      simp only [if_pos, Option.some.injEq] at hK1
      exact hK1
  have hset : ∀ x, setM M1 k x = setM M k x := fun x => by
    rcases hMM with ⟨_, e⟩ | ⟨_, e'⟩
    · rw [e]
    · rw [e', setM_set]
  obtain ⟨x0, x1, x2, x3, xf⟩ := h1.c.cellAt i hi
  clear xf hMM
  by_cases hc : L1[i].c < v
  · have d1 : decide ((L1[i].c : Int) < (v : Int)) = true := by simpa using hc
    obtain ⟨bs, K', hM', hS, hN, hb, hlow⟩ := h1.c.hst i hi
    have hKK : K' = K1 := by
      rw [hik, hK1] at hM'
      simp only [Option.some.injEq, Prod.mk.injEq, true_and] at hM'
      exact hM'.symm
    subst hKK
    have ld := load71V_at (w := w1) (g := G) (o := i * 4 + 2) (x := .int .i64 L1[i].f) (y := L1[i].v) (fun j u hu => by
      match j, hu with
      | 0, hu => cases hu; exact x2
      | 1, hu => cases hu; exact x3
      | j + 2, hu => simp at hu)
    have hhas := has_any L1[i].f k L1[i].v bs w1 (by omega) (by omega) (by omega) (RB.own hS.own hS.byt)
    rw [hb] at hhas
    obtain ⟨own, hown⟩ : ∃ b : Bool, b = (decide (L1[i].c = 0) || K' k) := ⟨_, rfl⟩
    go_upto_region 2 with fail
    go_cut [9] (fun t wc => t = .bool own ∧ Below w1.heap.size w1 wc)
    case first => as_aux_lemma =>
      by_cases hz : L1[i].c = 0
      · have d2 : ((L1[i].c : Int) == 0) = true := by simp [hz]
        have e0 : own = true := by rw [hown]; simp [hz]
        go_wp2
        go_meet
        exact ⟨by rw [e0], Below.refl _ _⟩
      · have d2 : ((L1[i].c : Int) == 0) = false := by simp [hz]
        have e0 : own = K' k := by rw [hown]; simp [hz]
        go_wp2_with (go_at_call 34; refine hhas.mono ?_; rintro e w' ⟨rfl, hbw⟩)
        go_meet
        exact ⟨by rw [e0], hbw⟩
    case rest =>
    obtain ⟨rfl, hbw⟩ := hcut
    have h1w := h1.grow hbw
    have hFw := hF.trans (FrO.of hbw)
    have HOWN : Hid _ := hown
    clear hown hhas ld x0 x1 x2 x3 hS hbw h1 hF hM' hN hb hlow d1
    go_wp2_with fail
    refine (raise_any lo n Bp Bw BM hv G cap me hs L1 M1 i v _ h1w hi hd hv0 hv1 hme hn).mono ?_
    rintro r w2 ⟨rfl, e2, e2h, e2c, h2, hF2⟩
    rw [hik] at h2 e2h
    rw [hset] at h2
    obtain ⟨L2, hL2⟩ : ∃ L2, L2 = L1.set i e2 := ⟨_, rfl⟩
    have hlen : L2.length = L1.length := by rw [hL2, List.length_set]
    have hi2 : i < L2.length := by omega
    have h2i : L2[i] = e2 := by simp [hL2]
    rw [← hL2, ← hlen] at h2
    rw [← hL2] at hF2
    have hFF := hFw.trans hF2
    rw [← hlen] at hFF
    clear hF2 hFw h1w
    have e2k : L2[i].h = k := by rw [h2i]; exact e2h
    have hM2 : (setM M k (v, fun x => decide (x = me))) L2[i].h = some (v, fun x => decide (x = me)) := by rw [e2k]; unfold setM; exact if_pos rfl
    cases own
    · have y1 := (h2.c.cellAt i hi2).2.1
      rw [h2i, e2c] at y1
      go_wp2_with fail
      refine (add_step lo n Bp Bw BM hv ev G cap me hs L L2 _ i frm w w2 h2 hi2 hfr hn hM2 hFF).mono ?_
      rintro r w3 ⟨rfl, cap3, L3, hi3, _, _, h3, hF3⟩
      have hT : Took w w3 lo n Bp Bw BM hv ev me hs L (setM M k (pairF me frm k v (at' M k))) := by
        refine ⟨_, _, ?_, hF3⟩
        have e6 : pairF me frm k v (at' M k) = (v, fun x => decide (x = me) || decide (x = frm)) := by
          rw [hat]
          unfold pairF
          rw [if_pos hc]
          congr 1
          funext l
          have hown := HOWN.out
          simp only [← hown, Bool.false_and, Bool.or_false]
        rw [e2k] at h3
        rw [e6, ← setM_set M k (v, fun x => decide (x = me))]
        exact h3
      have HT : Hid _ := hT
      clear hT h3 hF3
      go_wp2
      exact bodyPost_end (results_none Try.results30 _ _ _) rfl ⟨rfl, HT.out⟩
    · go_wp2_with fail
      refine (add_step lo n Bp Bw BM hv ev G cap me hs L L2 _ i k w w2 h2 hi2 hk hn hM2 hFF).mono ?_
      rintro r w3 ⟨rfl, cap3, L3, hi3, e3h, e3c, h3, hF3⟩
      have y1 := (h3.c.cellAt i hi3).2.1
      rw [e3c] at y1
      have e3k : L3[i].h = k := by rw [e3h, e2k]
      rw [e2k, setM_set] at h3
      have hM3 : (setM M k (v, fun x => decide (x = me) || decide (x = k))) L3[i].h = some (v, fun x => decide (x = me) || decide (x = k)) := by rw [e3k]; unfold setM; exact if_pos rfl
      clear h2 hFF hM2
      go_wp2_with fail
      refine (add_step lo n Bp Bw BM hv ev G cap3 me hs L L3 _ i frm w w3 h3 hi3 hfr hn hM3 hF3).mono ?_
      rintro r w4 ⟨rfl, cap4, L4, hi4, _, _, h4, hF4⟩
      have hT : Took w w4 lo n Bp Bw BM hv ev me hs L (setM M k (pairF me frm k v (at' M k))) := by
        refine ⟨_, _, ?_, hF4⟩
        have e6 : pairF me frm k v (at' M k) = (v, fun x => (decide (x = me) || decide (x = k)) || decide (x = frm)) := by
          rw [hat]
          unfold pairF
          rw [if_pos hc]
          congr 1
          funext l
          have hown := HOWN.out
          simp only [← hown, Bool.true_and]
        rw [e3k] at h4
        rw [e6, ← setM_set M k (v, fun x => decide (x = me) || decide (x = k))]
        exact h4
      have HT : Hid _ := hT
      clear hT h4 hF4
      go_wp2
      exact bodyPost_end (results_none Try.results30 _ _ _) rfl ⟨rfl, HT.out⟩
  · have d1 : decide ((L1[i].c : Int) < (v : Int)) = false := by simpa using hc
    by_cases hce : L1[i].c = v
    · rw [hce] at x1 d1
      go_wp2_with fail
      refine (add_step lo n Bp Bw BM hv ev G cap me hs L L1 M1 i frm w w1 h1 hi hfr hn (by rw [hik]; exact hK1) hF).mono ?_
      rintro r w3 ⟨rfl, cap3, L3, hi3, _, _, h3, hF3⟩
      have hT : Took w w3 lo n Bp Bw BM hv ev me hs L (setM M k (pairF me frm k v (at' M k))) := by
        refine ⟨_, _, ?_, hF3⟩
        have e6 : pairF me frm k v (at' M k) = (L1[i].c, fun x => K1 x || decide (x = frm)) := by
          rw [hat]
          unfold pairF
          rw [if_neg hc, if_pos hce, hce]
        rw [e6, ← hset]
        rw [hik] at h3
        exact h3
      have HT : Hid _ := hT
      clear hT h3 hF3
      go_wp2
      exact bodyPost_end (results_none Try.results30 _ _ _) rfl ⟨rfl, HT.out⟩
    · have hT9 : Took w w1 lo n Bp Bw BM hv ev me hs L (setM M k (pairF me frm k v (at' M k))) := by
        have e6 : pairF me frm k v (at' M k) = (L1[i].c, K1) := by
          rw [hat]
          unfold pairF
          rw [if_neg hc, if_neg hce]
        rw [e6, ← hset, setM_same M1 k _ hK1]
        exact ⟨_, _, h1, hF⟩
      have d2 : ((L1[i].c : Int) == (v : Int)) = false := by simp; omega
      have HT : Hid _ := hT9
      clear hT9
      go_wp2
      exact bodyPost_end (results_none Try.results30 _ _ _) rfl ⟨rfl, HT.out⟩
end Go.Proofs.Qxb6614657a
