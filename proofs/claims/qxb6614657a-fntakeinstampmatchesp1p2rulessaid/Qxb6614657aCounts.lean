import Derived.Test.Qxb6614657aRead
import Derived.Test.Qxb6614657aBuildM
namespace Go.Proofs.Qxb6614657a
open Go.RowKit

theorem zero37 (w : World) : (zeroValue 37).run Try.prog w = .ok (.int .u64 0) w := by kernel_rfl
theorem drewN_bel (w : World) (n : Nat) : Below w.heap.size w (w.drewN n) := below_drewN (Below.refl _ _) n
theorem Rep.look {w : World} {lo n Bp Bw BM : Nat} {hv ev : Value} {me : Nat} {hs : List ByteArray} {L : List En} {M : Hold} (h : Rep w lo n Bp Bw BM hv ev me hs L M) (k : Nat) (hk : k < hs.length) :
    (Instr.lookup 47 (.map (some BM)) (.string hs[k]) false).run Try.prog w = .ok (.int .u64 (cntM M k)) w := by
  obtain ⟨D, hm, hV⟩ := h.m
  obtain ⟨c, hrun, hat, _⟩ := hm.lookup_int law9 Try.underlying47 Try.underlying37 (zero37 w) (key := .string hs[k]) (WideMaps.keyOf_string_mk Try.underlying9 (h.c.sz _ (List.getElem_mem hk)))
  have h2 := hV.look k hk
  unfold key at h2
  rw [h2] at hat
  cases hat
  exact hrun
theorem Rep.vlen {w : World} {lo n Bp Bw BM : Nat} {hv ev : Value} {me : Nat} {hs : List ByteArray} {L : List En} {M : Hold} (h : Rep w lo n Bp Bw BM hv ev me hs L M) (ty : TypeId) :
    (Builtin.len_ #[47] ty #[.map (some BM)]).run Try.prog w = .ok (.int .i64 (many hs.length (cntM M) : Nat)) w := by
  obtain ⟨D, hm, hV⟩ := h.m
  rw [hm.len Try.underlying47 ty, hV.size]
/-- A row of counts. -/
def cnts (n : Nat) (c : Nat → Nat) : List Value := (List.range n).map fun h => .int .u64 (c h : Int)
theorem cnts_length (n : Nat) (c : Nat → Nat) : (cnts n c).length = n := by simp [cnts]
theorem cnts_get (n : Nat) (c : Nat → Nat) (h : Nat) (hh : h < n) : (cnts n c)[h]? = some (.int .u64 (c h : Int)) := by simp [cnts, hh]
theorem many_L {w : World} {lo n Bp Bw BM : Nat} {hv ev : Value} {me : Nat} {hs : List ByteArray} {L : List En} {M : Hold} (h : RepC w lo n Bp Bw BM hv ev me hs L M) (hz : NZ M) : many n (cntM M) = L.length := by
  obtain ⟨idx, s⟩ := scan_ex h.ord (h.mem hz) n
  rw [s.cn, s.done h.lt]
theorem Rd.open {w : World} {v : Value} {cs : List Value} (h : Rd w v cs) (hn : 0 < cs.length) : ∃ g o c, v = .slice (some ⟨g, o, none⟩) cs.length c ∧ ∀ W, Below w.heap.size w W → ∀ j u, cs[j]? = some u → W.cell? ⟨g, o + j, none⟩ = some u := by
  obtain ⟨a', c', e, h2⟩ := h
  obtain ⟨g, o, e1, _⟩ := h2 0 _ (List.getElem?_eq_getElem hn)
  refine ⟨g, o, c', by rw [e, e1], fun W hW j u hu => ?_⟩
  obtain ⟨g', o', e', hc⟩ := h2 j u hu
  rw [e1] at e'
  simp only [Option.some.injEq, Addr.mk.injEq, and_true] at e'
  obtain ⟨rfl, rfl⟩ := e'
  rw [hW.cell (World.block_lt_of_cell? w _ hc)]
  exact hc

set_option maxRecDepth 100000 in
set_option maxHeartbeats 1000000 in
theorem counts_any (lo n Bp Bw BM : Nat) (hv ev : Value) (me : Nat) (hs : List ByteArray) (L : List En) (M : Hold) (hov wv : Value) (w : World) (h : Rep w lo n Bp Bw BM hv ev me hs L M) (hz : NZ M) (hn0 : 1 ≤ n) (hn : n ≤ 4096) (hH : Rd w hov (strs hs)) (hW : Rd w wv (cnts n (cntM M))) :
    Calls Try.prog 14 #[.pointer (some ⟨Bp, 0, none⟩), hov, wv] w fun e w' => e = .returned (.bool true) ∧ Below w.heap.size w w' := by
  have hl := h.c.hl
  subst hl
  obtain ⟨g1, o1, c1, rfl, r1⟩ := hH.open (by rw [strs_length]; omega)
  obtain ⟨g2, o2, c2, rfl, r2⟩ := hW.open (by rw [cnts_length]; omega)
  rw [strs_length, cnts_length]
  have hmem := h.c.mem hz
  have hml := many_L h.c hz
  have hLl := h.c.len
  have HR : Hid (∀ W, Below w.heap.size w W → Rep W lo hs.length Bp Bw BM hv ev me hs L M) := fun W hW => h.grow hW
  have R1 : Hid _ := r1
  have R2 : Hid _ := r2
  have HM : Hid _ := hmem
  have HL : Hid _ := hml
  clear hH hW r1 r2 hmem hml
  go_enter Try.func14, Try.ntmps14
  go_wp2_with fail
  refine (len_any lo hs.length Bp Bw BM hv ev me hs L M w h.c).mono ?_
  rintro e w' ⟨rfl, rfl⟩
  go_wp2_with fail
  refine (vector_any lo hs.length Bp Bw BM hv ev me hs L M w' h.c).mono ?_
  rintro e w ⟨rfl, rfl⟩
  clear h
  go_wp2_with fail
  go_loopw [10, 11] (fun i j wr => ∃ idx k : Nat, k ≤ hs.length ∧ i = .int .i64 idx ∧ j = .int .i64 k ∧ Below w.heap.size w wr ∧ Scan L (cntM M) k idx) (fun _ j _ => hs.length - (intOf j).toNat)
  case atStart => exact ⟨0, 0, Nat.zero_le _, rfl, rfl, Below.refl _ _, Scan.start _ _⟩
  case round =>
    obtain ⟨idx, k, hk, rfl, rfl, hbel, hsc⟩ := hrel
    by_cases hlt : k < hs.length
    · have x1 := R1.out wr hbel k _ (strs_get hs k hlt)
      have x2 := R2.out wr hbel k _ (cnts_get _ _ k hlt)
      by_cases h0 : cntM M k = 0
      · have hnx : Scan L (cntM M) (k + 1) idx := hsc.skip (fun e he => (HM.out e.h).2 ⟨e, he, rfl⟩) h0
        have HX : Hid _ := hnx
        rw [h0] at x2
        clear hnx hsc
        go_wp2
        go_roundw
        case rel => exact ⟨idx, k + 1, by omega, rfl, by go_num, hbel, HX.out⟩
        case measure => simp [intOf]; omega
      · obtain ⟨hix, hih, hnx⟩ := hsc.hit (HR.out wr hbel).c.ord ((HM.out k).1 h0) h0
        have hic : L[idx].c = cntM M k := by
          obtain ⟨K, hM, _⟩ := (HR.out wr hbel).c.col _ (List.getElem_mem hix)
          rw [hih] at hM
          unfold cntM; rw [hM]
        have HX : Hid _ := hnx
        have hent := entry28_any lo hs.length Bp Bw BM hv ev me hs L M idx wr (HR.out wr hbel).c hix
        obtain ⟨e, he⟩ : ∃ e, e = L[idx] := ⟨_, rfl⟩
        rw [← he] at hih hic hent
        obtain ⟨cv, hcv⟩ : ∃ c, c = cntM M k := ⟨_, rfl⟩
        have HC : Hid _ := hcv
        rw [← hcv] at x2 hic h0
        clear hnx hsc he hcv
        have d0 : ((cv : Int) == 0) = false := by simp; omega
        have d1 : decide ((L.length : Int) ≤ (idx : Int)) = false := by simp; omega
        go_wp2_with fail
        refine hent.mono ?_
        rintro r w2 ⟨rfl, hb2⟩
        clear hent x1 x2
        have hbel2 : Below w.heap.size w w2 := hbel.trans (hb2.mono hbel.size)
        have x1 := R1.out w2 hbel2 k _ (strs_get hs k hlt)
        have x2 := R2.out w2 hbel2 k _ (cnts_get _ _ k hlt)
        have hlk : ∀ m, (Instr.lookup 47 (.map (some BM)) (.string hs[k]) false).run Try.prog (w2.drewN m) = .ok (.int .u64 cv) (w2.drewN m) := fun m => by
          rw [HC.out]
          exact (HR.out _ (below_drewN hbel2 m)).look k hlt
        rw [← HC.out] at x2
        rw [hih, hic]
        obtain ⟨sk, hsk⟩ : ∃ s, s = hs[k] := ⟨_, rfl⟩
        rw [← hsk] at x1 hlk
        clear hih hic hsk
        have HB2 : Hid _ := hbel2
        clear hbel2 hb2
        go_wp2
        go_quiet (fail)
        go_wp2
        go_roundw
        case rel => exact ⟨idx + 1, k + 1, by omega, by go_num, by go_num, below_drewN HB2.out _, HX.out⟩
        case measure => simp [intOf]; omega
    · have : k = hs.length := by omega
      subst this
      have hend := hsc.done (HR.out wr hbel).c.lt
      have hvl := (HR.out wr hbel).vlen 3
      rw [HL.out] at hvl
      subst hend
      clear hsc
      go_wp2
      go_ret
      exact ⟨by simp, hbel⟩
end Go.Proofs.Qxb6614657a
