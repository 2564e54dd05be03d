import Derived.Test.Qxb6614657aRep2
namespace Go.Proofs.Qxb6614657a
open Go.RowKit

/-- The process with its vector. -/
structure Rep (w : World) (lo n Bp Bw BM : Nat) (hv ev : Value) (me : Nat) (hs : List ByteArray) (L : List En) (M : Hold) : Prop where
  c : RepC w lo n Bp Bw BM hv ev me hs L M
  m : ∃ D : DataW Unit, w.ownsMap Try.prog 9 (plainElem Try.prog 37) BM (Maps.size D) D ∧ Vec D hs (cntM M)
theorem wf_u64 (v : Nat) (hv : v < 18446744073709551616) : (Lit.int .u64 (v : Int)).wf = true := by
  simp [Lit.wf, IntKind.min, IntKind.max, IntKind.bits, IntKind.signed]
  omega
theorem law9 : Maps.Keyed Try.prog 9 := Maps.string_keyed Try.underlying9
theorem own_cut {w : World} {lo e n c : Nat} {a : Option Addr} {xs : List Value} (h : w.ownsRow lo e 1 (.slice a n c) n xs) : w.ownsRow lo e 1 (.slice a 0 c) 0 [] := by
  rcases h.2 with ⟨h', _⟩ | ⟨g, cap, cur, h', hb, hg, hnc, hcm, hcs, _⟩
  · simp only [Value.slice.injEq] at h'
    obtain ⟨rfl, _, rfl⟩ := h'
    exact World.ownsRow_nil w lo e 1
  · simp only [Value.slice.injEq, true_and] at h'
    obtain ⟨rfl, rfl⟩ := h'
    exact ⟨rfl, .inr ⟨g, c, cur, rfl, hb, hg, Nat.zero_le _, hcm, hcs, by simp⟩⟩
theorem cut_block (a : Option Addr) (n m c : Nat) : (Value.slice a n c).ownBlock = (Value.slice a m c).ownBlock := by cases a <;> rfl
theorem size71 : (Try.prog.info? 71).map (·.size) = some 2 := by kernel_rfl
theorem row71 : ((Try.prog.underlying 71).map TypeDesc.isRow) = some true := by kernel_rfl
theorem load71S (v : Value) : Instr.loadAt 71 v = loadS 71 v := rfl
theorem store71S (p v : Value) : Instr.storeAt 71 p v = storeS 71 p v := rfl
theorem load71V_at {w : World} {g o : Nat} {x y : Value} (h : w.rangeAt g o [x, y]) : (loadS 71 (.pointer (some ⟨g, o, none⟩))).run Try.prog w = .ok (.agg #[x, y]) w := by
  obtain ⟨d, hu, hd⟩ := isRow_of row71
  exact run_loadAt_mid (P := Try.prog) w g o 71 [x, y] d h hu hd size71
theorem store71V_at {w : World} {g o : Nat} (x : Int) (a : Option Addr) (n c : Nat) (h : w.there g o 2) : (storeS 71 (.pointer (some ⟨g, o, none⟩)) (.agg #[.int .i64 x, .slice a n c])).run Try.prog w = .ok () (w.setCells g o [.int .i64 x, .slice a n c]) :=
  run_storeAt_mid (P := Try.prog) w g o 71 #[.int .i64 x, .slice a n c] h size71 (by simp [Value.oneCell'])
attribute [local go_sem ↓] load71S store71S

/-- The cells of the entry at i. -/
theorem RepC.cellAt {w : World} {lo n Bp Bw BM : Nat} {hv : Value} {G cap : Nat} {me : Nat} {hs : List ByteArray} {L : List En} {M : Hold} (h : RepC w lo n Bp Bw BM hv (.slice (some ⟨G, 0, none⟩) L.length cap) me hs L M) (i : Nat) (hi : i < L.length) :
    w.cell? ⟨G, i * 4, none⟩ = some (.int .i64 L[i].h) ∧ w.cell? ⟨G, i * 4 + 1, none⟩ = some (.int .u64 L[i].c) ∧ w.cell? ⟨G, i * 4 + 2, none⟩ = some (.int .i64 L[i].f) ∧ w.cell? ⟨G, i * 4 + 3, none⟩ = some L[i].v ∧ (∀ j, w.frozen? ⟨G, j, none⟩ = false) := by
  have hr := ents_range h.row i hi
  exact ⟨hr 0 _ rfl, hr 1 _ rfl, hr 2 _ rfl, hr 3 _ rfl, fun j => h.row.frozenAt j⟩
theorem RepC.pcell {w : World} {lo n Bp Bw BM : Nat} {hv ev : Value} {me : Nat} {hs : List ByteArray} {L : List En} {M : Hold} (h : RepC w lo n Bp Bw BM hv ev me hs L M) :
    w.cell? ⟨Bp, 0, none⟩ = some (.pointer (some ⟨Bw, 0, none⟩)) ∧ w.cell? ⟨Bp, 2, none⟩ = some (.int .i64 me) ∧ w.cell? ⟨Bp, 3, none⟩ = some ev ∧ w.cell? ⟨Bp, 4, none⟩ = some (.map (some BM)) ∧ w.cell? ⟨Bw, 0, none⟩ = some hv ∧ w.frozen? ⟨Bp, 3, none⟩ = false := by
  refine ⟨?_, ?_, ?_, ?_, ?_, frozen_of_row w Bp 3 _ 69 h.p⟩
  · rw [cell_of_row w Bp 0 _ 69 (0, 0) h.p]; rfl
  · rw [cell_of_row w Bp 2 _ 69 (0, 0) h.p]; rfl
  · rw [cell_of_row w Bp 3 _ 69 (0, 0) h.p]; rfl
  · rw [cell_of_row w Bp 4 _ 69 (0, 0) h.p]; rfl
  · rw [cell_of_row w Bw 0 _ 66 (0, 0) h.wr]; rfl
/-- The count is written, the set made empty, its array kept. -/
theorem RepC.clear {w : World} {lo n Bp Bw BM : Nat} {hv : Value} {G cap : Nat} {me : Nat} {hs : List ByteArray} {L : List En} {M : Hold} (h : RepC w lo n Bp Bw BM hv (.slice (some ⟨G, 0, none⟩) L.length cap) me hs L M) (i : Nat) (hi : i < L.length) (v : Nat) (hv1 : v < 18446744073709551616) {a : Option Addr} {m c : Nat} (hv' : L[i].v = .slice a m c) :
    RepC ((w.setCell ⟨G, i * 4 + 1, none⟩ (.int .u64 v)).setCells G (i * 4 + 2) [.int .i64 0, .slice a 0 c]) lo n Bp Bw BM hv (.slice (some ⟨G, 0, none⟩) L.length cap) me hs (L.set i ⟨L[i].h, v, 0, .slice a 0 c⟩) (setM M L[i].h (v, fun _ => false)) ∧
      FrO w ((w.setCell ⟨G, i * 4 + 1, none⟩ (.int .u64 v)).setCells G (i * 4 + 2) [.int .i64 0, .slice a 0 c]) (Ow Bp BM (.slice (some ⟨G, 0, none⟩) L.length cap) L) (Ow Bp BM (.slice (some ⟨G, 0, none⟩) L.length cap) (L.set i ⟨L[i].h, v, 0, .slice a 0 c⟩)) ∧
      ((w.setCell ⟨G, i * 4 + 1, none⟩ (.int .u64 v)).there G (i * 4 + 2) 2) ∧ ((w.setCell ⟨G, i * 4 + 1, none⟩ (.int .u64 v)).setCells G (i * 4 + 2) [.int .i64 0, .slice a 0 c]).heap[BM]? = w.heap[BM]? := by
  have hst1 := h.row.stored (i * 4 + 1) (.int .u64 v)
  rw [ents_setc L i v hi] at hst1
  have hst := own_setCells [.int .i64 ((0 : Nat) : Int), .slice a 0 c] (i * 4 + 2) hst1.1
  have hi' : i < (L.set i ⟨L[i].h, v, L[i].f, L[i].v⟩).length := by simpa using hi
  have e : putAt (ents (L.set i ⟨L[i].h, v, L[i].f, L[i].v⟩)) (i * 4 + 2) [.int .i64 ((0 : Nat) : Int), .slice a 0 c] = ents (L.set i ⟨L[i].h, v, 0, .slice a 0 c⟩) := by
    refine (ents_set (L.set i ⟨L[i].h, v, L[i].f, L[i].v⟩) i 0 (.slice a 0 c) hi').trans ?_
    rw [List.set_set]
    simp
  rw [e] at hst
  obtain ⟨K, hM, bs, h1, h2, h3, h4, h5⟩ := h.col L[i] (List.getElem_mem hi)
  rw [hv'] at h1
  obtain ⟨a', c', e'⟩ := row_shape h1
  simp only [Value.slice.injEq] at e'
  obtain ⟨_, rfl, _⟩ := e'
  have h1' := own_cut h1
  have hap : (Value.slice a 0 c).ownBlock ≠ some G := by rw [cut_block a 0 bs.length c]; exact kinds_apart h.row h1 (by decide)
  obtain ⟨q1, q2, q3⟩ := h.turn i hi ⟨L[i].h, v, 0, .slice a 0 c⟩ (fun _ => false) rfl hv1 ((((Fr2.refl w G L[i].v.ownBlock).set (i * 4 + 1) (.int .u64 v)).set (i * 4 + 2) (.int .i64 ((0 : Nat) : Int))).set (i * 4 + 2 + 1) (.slice a 0 c)) (.inl (by rw [hv']; exact cut_block a 0 bs.length c)) hst.1 ⟨[], (h1'.kept hst1.2 (.inr hap)).kept hst.2 (.inr hap), by simp, by simp, fun l => bitAt_nil _ _, fun l hl => by cases hl⟩
  refine ⟨q1, q2, fun j hj => ?_, q3⟩
  rw [hst1.1.cellAt _ (by omega)]
  exact ⟨by rw [List.getElem?_eq_getElem (by rw [hst1.1.1]; omega)]; rfl, hst1.1.frozenAt _⟩
/-- The vector's map is written. -/
theorem RepC.mapped {w w' : World} {lo n Bp Bw BM : Nat} {hv ev : Value} {me : Nat} {hs : List ByteArray} {L : List En} {M : Hold} (h : RepC w lo n Bp Bw BM hv ev me hs L M) (hg : w.grownBy w' (some BM)) (hb : ∃ es c, w'.heap[BM]? = some (.map es c)) :
    RepC w' lo n Bp Bw BM hv ev me hs L M ∧ FrO w w' (Ow Bp BM ev L) (Ow Bp BM ev L) := by
  obtain ⟨es, c, hbm⟩ := h.bm
  have hq : ∀ (q : Nat) (o : Obj), w.heap[q]? = some o → (∀ es c, o ≠ .map es c) → w'.heap[q]? = some o := fun q o ho hne => by
    rw [hg.block q (Array.getElem?_eq_some_iff.1 ho).1 (fun e => by cases e; rw [hbm] at ho; cases ho; exact hne _ _ rfl)]; exact ho
  have hr : ∀ {e s m : Nat} {v : Value} {xs : List Value}, w.ownsRow lo e s v m xs → w'.ownsRow lo e s v m xs := fun ho => own_same ho fun q hq' => by
    obtain ⟨cc, hc⟩ := row_kind ho q hq'
    rw [hq q _ hc (fun _ _ h => by cases h), hc]
  refine ⟨⟨hq _ _ h.p (fun _ _ h => by cases h), hq _ _ h.wr (fun _ _ h => by cases h), h.hl, h.sz, hr h.hosts, hr h.row, h.ord, h.lt, h.cb, fun e he => ?_, h.non, h.apart, Nat.le_trans h.low hg.size, hb⟩, ⟨hg.os, hg.tape, hg.output, hg.size, fun q hq hn => hg.block q hq (fun e => hn (.inr (.inl (by cases e; rfl)))), fun _ _ h => h⟩⟩
  obtain ⟨K, h1, bs, h2, h3⟩ := h.col e he
  exact ⟨K, h1, bs, hr h2, h3⟩
theorem setM_set (M : Hold) (k : Nat) (x y : Nat × (Nat → Bool)) : setM (setM M k x) k y = setM M k y := by
  funext h
  unfold setM
  split <;> rfl
/-- What raise leaves. -/
def Raised (w w' : World) (lo n Bp Bw BM : Nat) (hv : Value) (G cap me : Nat) (hs : List ByteArray) (L : List En) (M : Hold) (i v : Nat) (hi : i < L.length) : Prop :=
  ∃ e : En, e.h = L[i].h ∧ e.c = v ∧ Rep w' lo n Bp Bw BM hv (.slice (some ⟨G, 0, none⟩) L.length cap) me hs (L.set i e) (setM M L[i].h (v, fun x => decide (x = me))) ∧
    FrO w w' (Ow Bp BM (.slice (some ⟨G, 0, none⟩) L.length cap) L) (Ow Bp BM (.slice (some ⟨G, 0, none⟩) L.length cap) (L.set i e))

set_option maxRecDepth 100000 in
set_option maxHeartbeats 1000000 in
theorem raise_any (lo n Bp Bw BM : Nat) (hv : Value) (G cap me : Nat) (hs : List ByteArray) (L : List En) (M : Hold) (i v : Nat) (w : World) (h : Rep w lo n Bp Bw BM hv (.slice (some ⟨G, 0, none⟩) L.length cap) me hs L M) (hi : i < L.length) (hd : Distinct hs) (hv0 : v ≠ 0) (hv1 : v < 18446744073709551616) (hme : me < n) (hn : n ≤ 4096) :
    Calls Try.prog 32 #[.pointer (some ⟨Bp, 0, none⟩), .pointer (some ⟨G, i * 4, none⟩), .int .u64 v] w fun e w' => e = .returned (.tuple #[]) ∧ Raised w w' lo n Bp Bw BM hv G cap me hs L M i v hi := by
  obtain ⟨bs, K, hM, hS, _⟩ := h.c.hst i hi
  obtain ⟨a, c, hvv⟩ := row_shape hS.own
  obtain ⟨c0, c1, c2, c3, fz⟩ := h.c.cellAt i hi
  rw [hvv] at c3
  have f1 := fz (i * 4 + 1)
  have f2 := fz (i * 4 + 2)
  have f3 := fz (i * 4 + 3)
  obtain ⟨hC1, hF1, hth, hbm1⟩ := h.c.clear i hi v hv1 hvv
  have sv := store71V_at 0 a 0 c hth
  obtain ⟨D, hm, hV⟩ := h.m
  obtain ⟨es, ck, hes, hm'⟩ := hm
  have HC : Hid _ := hC1
  have HF : Hid _ := hF1
  have HB : Hid _ := hbm1
  clear hC1 hF1 hth hbm1
  go_enter Try.func32, Try.ntmps32
  go_upto_region 2 with fail
  have hC2 := HC.out
  have hF2 := HF.out
  have hB2 := HB.out
  clear HC HF HB sv c0 c1 c2 c3 f1 f2 f3 fz hS hM
  generalize (w.setCell ⟨G, i * 4 + 1, none⟩ (.int .u64 v)).setCells G (i * 4 + 2) [.int .i64 0, .slice a 0 c] = W2 at *
  obtain ⟨L2, hL2⟩ : ∃ L2, L2 = L.set i ⟨L[i].h, v, 0, .slice a 0 c⟩ := ⟨_, rfl⟩
  have hlen : L2.length = L.length := by rw [hL2, List.length_set]
  have hi2 : i < L2.length := by omega
  have h2i : L2[i] = ⟨L[i].h, v, 0, .slice a 0 c⟩ := by simp [hL2]
  rw [← hL2, ← hlen] at hC2
  have hCd := hC2.grow (Below.refl _ _).drew
  obtain ⟨p0, p2, p3, p4, p5, p6⟩ := hC2.pcell
  obtain ⟨bs2, K2, hM2, hS2, hN2, hb2, _⟩ := hCd.hst i hi2
  have hK2 : ∀ l, bitAt L2[i].f bs2 l = false := fun l => by
    rw [hb2]
    have := hM2
    rw [h2i] at this
    unfold setM at this
    simp only [if_pos, Option.some.injEq, Prod.mk.injEq, true_and] at this
    rw [← this]
  go_cut [27] from 20 to 27 (fun _ wx => Upd W2.drew wx lo G L2.length cap (i * 4 + 2) (ents L2) L2[i].v (fun x => bitAt L2[i].f bs2 x || decide (x = me)) ((n + 7) / 8))
  case first => as_aux_lemma =>
    go_region_with (go_at_call 35; refine (add_any lo G L2.length cap (i * 4 + 2) (ents L2) L2[i].f L2[i].v bs2 me n _ hS2 hme hn hN2 hCd.low).mono ?_; rintro e W3 ⟨rfl, hup⟩)
    all_goals (go_wp2_with fail; go_meet; exact hup)
  case rest =>
  obtain ⟨e3, he3h, he3c, hC3, hF3, hB3⟩ := hCd.upd i hi2 _ (fun l hl => by rw [hK2] at hl; simp at hl; omega) hcut
  clear hcut
  have e2h : L2[i].h = L[i].h := by rw [h2i]
  have e2c : L2[i].c = v := by rw [h2i]
  have eL : L2.set i e3 = L.set i e3 := by rw [hL2, List.set_set]
  have eK : (fun x => bitAt L2[i].f bs2 x || decide (x = me)) = fun x => decide (x = me) := by funext x; rw [hK2]; rfl
  rw [eK, eL, e2h, e2c, setM_set, hlen] at hC3
  rw [eL, hlen] at hF3
  rw [e2h] at he3h
  rw [e2c] at he3c
  rw [← hL2] at hF2
  have hF := (hF2.trans (FrO.of (Below.refl _ _).drew)).trans hF3
  clear hF2 hF3 hCd hC2 hL2 h2i e2h e2c eL eK hb2 hK2
  have hl3 : (L.set i e3).length = L.length := List.length_set
  have hi3 : i < (L.set i e3).length := by omega
  have h3i : (L.set i e3)[i] = e3 := by simp
  have hkn := h.c.lt _ (List.getElem_mem hi)
  have hnl := h.c.hl
  have hmW : wc.drew.ownsMap Try.prog 9 (plainElem Try.prog 37) BM (Maps.size D) D := ⟨es, ck, by rw [← hes, ← hB2]; exact hB3, hm'⟩
  obtain ⟨w4, hrun, hm4, hg4⟩ := hmW.update law9 Try.underlying47 (by rw [hV.size]; have := many_le hs.length (cntM M); unfold maxLen; omega) (key := .string hs[L[i].h]) (val := .int .u64 (v : Int)) (WideMaps.keyOf_string_mk Try.underlying9 (h.c.sz _ (List.getElem_mem (by omega)))) (plainElem_int Try.underlying37 (wf_u64 v hv1))
  have hC3d : RepC wc.drew lo n Bp Bw BM hv (.slice (some ⟨G, 0, none⟩) L.length cap) me hs (L.set i e3) (setM M L[i].h (v, fun x => decide (x = me))) := hC3.grow (Below.refl _ _).drew
  obtain ⟨hC4, hF4⟩ := hC3d.mapped hg4 (by obtain ⟨es, c, h1, _⟩ := hm4; exact ⟨es, c, h1⟩)
  have hV4 := hV.put hd L[i].h v (by omega) hv0
  have hR : Raised w w4 lo n Bp Bw BM hv G cap me hs L M i v hi :=
    ⟨e3, he3h, he3c, ⟨hC4, _, own_tight hm4, hV4.congr fun x _ => by rw [cntM_set]⟩, (hF.trans (FrO.of (Below.refl _ _).drew)).trans hF4⟩
  have HR : Hid _ := hR
  clear hR hV4 hC4 hF4 hC3d hm4 hg4 hmW hF hB3 hB2 hm' hes hV
  obtain ⟨p0, p2, p3, p4, p5, p6⟩ := hC3.pcell
  rw [← hl3] at hC3
  have x0 := (hC3.cellAt i hi3).1
  rw [h3i, he3h] at x0
  obtain ⟨hb, hc, hhv⟩ : ∃ g c, hv = .slice (some ⟨g, 0, none⟩) n c := by
    rcases hC3.hosts.2 with ⟨_, e⟩ | ⟨g, cap, cur, e, _⟩
    · omega
    · exact ⟨_, _, e⟩
  subst hhv
  have x1 : wc.cell? ⟨hb, L[i].h, none⟩ = some (.string hs[L[i].h]) := by
    rw [hC3.hosts.cellAt _ (by omega)]
    unfold strs
    rw [List.getElem?_map, List.getElem?_eq_getElem (by omega)]; rfl
  clear hC3 h
  obtain ⟨sk, hsk⟩ : ∃ s, s = hs[L[i].h] := ⟨_, rfl⟩
  rw [← hsk] at hrun x1
  obtain ⟨k, hk⟩ : ∃ k, k = L[i].h := ⟨_, rfl⟩
  rw [← hk] at x0 x1 hkn
  clear hsk hk
  go_wp2
  go_region
  all_goals go_wp2
  all_goals exact bodyPost_end (results_none Try.results32 _ _ _) rfl ⟨rfl, HR.out⟩
end Go.Proofs.Qxb6614657a
