import Derived.Test.Qxb6614657aState
import Derived.Test.Qxb6614657aSame
namespace Go.Proofs.Qxb6614657a
open Go.RowKit

set_option maxRecDepth 100000 in
set_option maxHeartbeats 1000000 in
theorem agrees_any (lo n Bp Bw BM : Nat) (hv ev : Value) (me : Nat) (hs : List ByteArray) (L : List En) (M : Hold) (hov : Value) (lo2 ge gs : Nat) (X : Nat → Option Nat) (w : World) (h : Rep w lo n Bp Bw BM hv ev me hs L M) (hz : NZ M) (hn0 : 1 ≤ n) (hn : n ≤ 4096) (hH : Rd w hov (strs hs))
    (hE : w.ownsRow lo2 37 1 (.slice (some ⟨ge, 0, none⟩) n n) n (cnts n (cntM M))) (hT : Tab w lo2 n gs X M) :
    Calls Try.prog 12 #[.pointer (some ⟨Bp, 0, none⟩), hov, .slice (some ⟨ge, 0, none⟩) n n, .slice (some ⟨gs, 0, none⟩) n n] w fun e w' => e = .returned (.bool true) ∧ Below w.heap.size w w' := by
  have hl := h.c.hl
  subst hl
  obtain ⟨g1, o1, c1, rfl, r1⟩ := hH.open (by rw [strs_length]; omega)
  rw [strs_length]
  have r2 : ∀ W, Below w.heap.size w W → ∀ k, k < hs.length → W.cell? ⟨ge, k, none⟩ = some (.int .u64 (cntM M k : Int)) := fun W hW k hk => by
    rw [(own_grow hE hW).cellAt k (by omega), cnts_get _ _ k hk]
  have r3 : ∀ W, Below w.heap.size w W → ∀ k c K, k < hs.length → M k = some (c, K) → ∃ b, W.cell? ⟨gs, k, none⟩ = some (.slice (some ⟨b, 0, none⟩) hs.length hs.length) ∧ ∀ l, l < hs.length → W.cell? ⟨b, l, none⟩ = some (.bool (K l)) := fun W hW k c K hk e => by
    have t := hT.grow hW
    obtain ⟨b, hb, hr⟩ := t.row k c K hk e
    refine ⟨b, ?_, fun l hl => by rw [hr.cellAt l (by omega)]; exact rowOf_get _ _ l hl⟩
    rw [t.tab.cellAt k (by omega), slots_get _ _ k hk, hb]
    rfl
  have hmem := h.c.mem hz
  have hml := many_L h.c hz
  have hLl := h.c.len
  have HR : Hid (∀ W, Below w.heap.size w W → Rep W lo hs.length Bp Bw BM hv ev me hs L M) := fun W hW => h.grow hW
  have R1 : Hid _ := r1
  have R2 : Hid _ := r2
  have R3 : Hid _ := r3
  have HM : Hid _ := hmem
  have HL : Hid _ := hml
  clear hH hE hT r1 r2 r3 hmem hml
  go_enter Try.func12, Try.ntmps12
  go_wp2_with fail
  refine (len_any lo hs.length Bp Bw BM hv ev me hs L M w h.c).mono ?_
  rintro e w' ⟨rfl, rfl⟩
  go_wp2_with fail
  refine (vector_any lo hs.length Bp Bw BM hv ev me hs L M w' h.c).mono ?_
  rintro e w ⟨rfl, rfl⟩
  clear h
  go_wp2_with fail
  go_loopw [12, 13] (fun i j wr => ∃ idx k : Nat, k ≤ hs.length ∧ i = .int .i64 idx ∧ j = .int .i64 k ∧ Below w.heap.size w wr ∧ Scan L (cntM M) k idx) (fun _ j _ => hs.length - (intOf j).toNat)
  case atStart => exact ⟨0, 0, Nat.zero_le _, rfl, rfl, Below.refl _ _, Scan.start _ _⟩
  case round =>
    obtain ⟨idx, k, hk, rfl, rfl, hbel, hsc⟩ := hrel
    by_cases hlt : k < hs.length
    · have x2 := R2.out wr hbel k hlt
      by_cases h0 : cntM M k = 0
      · have hnx : Scan L (cntM M) (k + 1) idx := hsc.skip (fun e he => (HM.out e.h).2 ⟨e, he, rfl⟩) h0
        have HX : Hid _ := hnx
        rw [h0] at x2
        clear hnx hsc
        go_wp2
        go_roundw
        case rel => exact ⟨idx, k + 1, by omega, rfl, by go_num, hbel, HX.out⟩
        case measure => simp [intOf]; omega
      · obtain ⟨hix, hih, hnx⟩ := hsc.hit (HR.out wr hbel).c.ord ((HM.out k).1 h0) h0
        obtain ⟨K, hMk, _⟩ := (HR.out wr hbel).c.col _ (List.getElem_mem hix)
        rw [hih] at hMk
        have hic : L[idx].c = cntM M k := by unfold cntM; rw [hMk]
        have hcol : ∀ W, Below w.heap.size w W → Col W lo hs.length L[idx] K := fun W hW => by
          obtain ⟨K', hM', hc⟩ := (HR.out W hW).c.col _ (List.getElem_mem hix)
          rw [hih, hMk] at hM'
          simp only [Option.some.injEq, Prod.mk.injEq, true_and] at hM'
          subst hM'
          exact hc
        have HX : Hid _ := hnx
        have HK : Hid (M k = some (L[idx].c, K)) := hMk
        have hent := entry28_any lo hs.length Bp Bw BM hv ev me hs L M idx wr (HR.out wr hbel).c hix
        obtain ⟨e, he⟩ : ∃ e, e = L[idx] := ⟨_, rfl⟩
        rw [← he] at hih hic hent hcol HK
        obtain ⟨cv, hcv⟩ : ∃ c, c = cntM M k := ⟨_, rfl⟩
        have HC : Hid _ := hcv
        have HCol : Hid _ := hcol
        rw [← hcv] at x2 hic h0
        clear hnx hsc he hcv hcol hMk
        have d0 : ((cv : Int) == 0) = false := by simp; omega
        have d1 : decide ((L.length : Int) ≤ (idx : Int)) = false := by simp; omega
        go_wp2_with fail
        refine hent.mono ?_
        rintro r w2 ⟨rfl, hb2⟩
        clear hent x2
        have hbel2 : Below w.heap.size w w2 := hbel.trans (hb2.mono hbel.size)
        have x2 := R2.out w2 hbel2 k hlt
        rw [← HC.out] at x2
        rw [hih, hic]
        clear hih hb2 hbel
        have hrow := entRow_any hs.length lo e K w2 hn0 hn (HCol.out w2 hbel2)
        have HB2 : Hid _ := hbel2
        clear hbel2 HCol hic
        go_wp2_with fail
        refine hrow.mono ?_
        rintro r w3 ⟨rfl, hr3, hb3⟩
        have hbel3 : Below w.heap.size w w3 := HB2.out.trans (hb3.mono HB2.out.size)
        have HB3 : Hid _ := hbel3
        clear hrow x2 hb3
        generalize w2.heap.size = B1 at *
        obtain ⟨b, y1, y2⟩ := R3.out w3 hbel3 k e.c K hlt HK.out
        have Z1 : Hid (∀ l, l < hs.length → w3.cell? ⟨B1, l, none⟩ = some (.bool (K l))) := fun l hl => by rw [hr3.cellAt l (by omega)]; exact rowOf_get _ _ l hl
        have Z2 : Hid _ := y2
        have x1 := R1.out w3 hbel3 k _ (strs_get hs k hlt)
        have x2 := R2.out w3 hbel3 k hlt
        have hlk : ∀ m, (Instr.lookup 47 (.map (some BM)) (.string hs[k]) false).run Try.prog (w3.drewN m) = .ok (.int .u64 cv) (w3.drewN m) := fun m => by
          rw [HC.out]
          exact (HR.out _ (below_drewN hbel3 m)).look k hlt
        rw [← HC.out] at x2
        obtain ⟨sk, hsk⟩ : ∃ s, s = hs[k] := ⟨_, rfl⟩
        rw [← hsk] at x1 hlk
        have HLK : Hid _ := hlk
        have X1 : Hid _ := x1
        have X2 : Hid _ := x2
        clear hsk hr3 y2 hbel3 hlk x1 x2
        go_wp2_with fail
        go_loopw [20] (fun j wr => ∃ l m : Nat, l ≤ hs.length ∧ j = .int .i64 l ∧ w3.drewN m = wr) (fun j _ => hs.length - (intOf j).toNat)
        case atStart => exact ⟨0, 0, Nat.zero_le _, rfl, rfl⟩
        case round =>
          obtain ⟨l, m, hl, rfl, rfl⟩ := hrel
          by_cases hlt3 : l < hs.length
          · have z1 := Z1.out l hlt3
            have z2 := Z2.out l hlt3
            obtain ⟨kb, hkb⟩ : ∃ b, b = K l := ⟨_, rfl⟩
            rw [← hkb] at z1 z2
            clear hkb
            go_wp2
            go_quiet (fail)
            go_wp2
            go_roundw
            case rel => exact ⟨l + 1, m + nq, by omega, by go_num, by simp⟩
            case measure => simp [intOf]; omega
          · have : l = hs.length := by omega
            have hlk := HLK.out
            have x1 := X1.out
            have x2 := X2.out
            subst this
            go_wp2
            go_quiet (fail)
            go_wp2
            go_roundw
            case rel => exact ⟨idx + 1, k + 1, by omega, by go_num, by go_num, below_drewN HB3.out _, HX.out⟩
            case measure => simp [intOf]; omega
    · have : k = hs.length := by omega
      subst this
      have hend := hsc.done (HR.out wr hbel).c.lt
      have hvl := (HR.out wr hbel).vlen 3
      rw [HL.out] at hvl
      subst hend
      clear hsc
      go_wp2
      go_ret
      exact ⟨by simp, hbel⟩
end Go.Proofs.Qxb6614657a
