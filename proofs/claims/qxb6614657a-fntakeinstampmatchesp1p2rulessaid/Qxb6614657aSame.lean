import Derived.Test.Qxb6614657aCounts
namespace Go.Proofs.Qxb6614657a
open Go.RowKit

theorem Col.rb {w : World} {lo n : Nat} {e : En} {K : Nat → Bool} (h : Col w lo n e K) : ∃ bs, RB w e.v bs ∧ e.f + bs.length ≤ (n + 7) / 8 ∧ (∀ l, bitAt e.f bs l = K l) ∧ (∀ l, K l = true → l < n) := by
  obtain ⟨bs, h1, h2, h3, h4, h5⟩ := h
  exact ⟨bs, RB.own h1 h2, h3, h4, h5⟩
/-- The row of an entry. -/
theorem entRow_any (n : Nat) (lo : Nat) (e : En) (K : Nat → Bool) (w : World) (hn0 : 1 ≤ n) (hn : n ≤ 4096) (h : Col w lo n e K) :
    Calls Try.prog 18 #[.int .i64 e.f, e.v, .int .i64 n] w fun r w' => r = .returned (.tuple #[.slice (some ⟨w.heap.size, 0, none⟩) n n, .bool true]) ∧ w'.ownsRow w.heap.size 4 1 (.slice (some ⟨w.heap.size, 0, none⟩) n n) n (rowOf n K) ∧ Below w.heap.size w w' := by
  obtain ⟨bs, h1, h2, h3, h4⟩ := h.rb
  have := colRow_any n e.f e.v bs w hn0 hn (by omega) h1 (fun l hl => h4 l (by rw [← h3]; exact hl))
  rw [rowOf_congr (L := K) (fun l _ => h3 l)] at this
  exact this
theorem same_h {w w2 : World} {lo n Bp Bw BM lo2 Bp2 Bw2 BM2 : Nat} {hv ev hv2 ev2 : Value} {me me2 : Nat} {hs hs2 : List ByteArray} {L L2 : List En} {M : Hold} (h : RepC w lo n Bp Bw BM hv ev me hs L M) (h2 : RepC w2 lo2 n Bp2 Bw2 BM2 hv2 ev2 me2 hs2 L2 M) (hz : NZ M) :
    L2.length = L.length ∧ ∀ i (hi : i < L.length) (hi2 : i < L2.length), L2[i].h = L[i].h ∧ L2[i].c = L[i].c := by
  have e1 := scan_map h.ord (h.mem hz) h.lt
  have e2 := scan_map h2.ord (h2.mem hz) h2.lt
  rw [← e1] at e2
  have hl : L2.length = L.length := by have := congrArg List.length e2; simpa using this
  refine ⟨hl, fun i hi hi2 => ?_⟩
  have e3 : L2[i].h = L[i].h := by
    have := congrArg (fun x => x[i]?) e2
    simpa [List.getElem?_eq_getElem hi, List.getElem?_eq_getElem hi2] using this
  obtain ⟨K, a, _⟩ := h.col _ (List.getElem_mem hi)
  obtain ⟨K2, b, _⟩ := h2.col _ (List.getElem_mem hi2)
  rw [e3, a] at b
  simp only [Option.some.injEq, Prod.mk.injEq] at b
  exact ⟨e3, b.1.symm⟩

set_option maxRecDepth 100000 in
set_option maxHeartbeats 1000000 in
theorem same_any (n : Nat) (hs : List ByteArray) (M : Hold) (hov : Value) (w : World) (lo Bp Bw BM : Nat) (hv ev : Value) (me : Nat) (L : List En) (h : Rep w lo n Bp Bw BM hv ev me hs L M) (lo2 Bp2 Bw2 BM2 : Nat) (hv2 ev2 : Value) (me2 : Nat) (L2 : List En) (h2 : Rep w lo2 n Bp2 Bw2 BM2 hv2 ev2 me2 hs L2 M) (hz : NZ M) (hn0 : 1 ≤ n) (hn : n ≤ 4096) (hH : Rd w hov (strs hs)) :
    Calls Try.prog 15 #[.pointer (some ⟨Bp, 0, none⟩), .pointer (some ⟨Bp2, 0, none⟩), hov] w fun e w' => e = .returned (.bool true) ∧ Below w.heap.size w w' := by
  have hl := h.c.hl
  subst hl
  obtain ⟨g1, o1, c1, rfl, r1⟩ := hH.open (by rw [strs_length]; omega)
  rw [strs_length]
  obtain ⟨hLL, hsame⟩ := same_h h.c h2.c hz
  have hLl := h.c.len
  have HR : Hid (∀ W, Below w.heap.size w W → Rep W lo hs.length Bp Bw BM hv ev me hs L M) := fun W hW => h.grow hW
  have HR2 : Hid (∀ W, Below w.heap.size w W → Rep W lo2 hs.length Bp2 Bw2 BM2 hv2 ev2 me2 hs L2 M) := fun W hW => h2.grow hW
  have R1 : Hid _ := r1
  have HE : Hid _ := hsame
  have HLL : Hid _ := hLL
  have hlen1 := len_any lo hs.length Bp Bw BM hv ev me hs L M w h.c
  have hlen2 := len_any lo2 hs.length Bp2 Bw2 BM2 hv2 ev2 me2 hs L2 M w h2.c
  rw [hLL] at hlen2
  clear hH r1 hsame hLL h h2
  go_enter Try.func15, Try.ntmps15
  go_wp2_with fail
  refine hlen1.mono ?_
  rintro e w' ⟨rfl, hw⟩
  subst w'
  go_wp2_with fail
  refine hlen2.mono ?_
  rintro e w' ⟨rfl, hw⟩
  subst w'
  clear hlen1 hlen2
  go_wp2_with fail
  go_loopw [9] (fun j wr => ∃ k : Nat, k ≤ L.length ∧ j = .int .i64 k ∧ Below w.heap.size w wr) (fun j _ => L.length - (intOf j).toNat)
  case atStart => exact ⟨0, Nat.zero_le _, rfl, Below.refl _ _⟩
  case round =>
    obtain ⟨k, hk, rfl, hbel⟩ := hrel
    by_cases hlt : k < L.length
    · have hlt2 : k < L2.length := by rw [HLL.out]; exact hlt
      obtain ⟨q1, q2⟩ := HE.out k hlt hlt2
      obtain ⟨K, hM, hcol⟩ := (HR.out wr hbel).c.col _ (List.getElem_mem hlt)
      obtain ⟨K2, hM2, hcol2⟩ := (HR2.out wr hbel).c.col _ (List.getElem_mem hlt2)
      rw [q1, q2, hM] at hM2
      simp only [Option.some.injEq, Prod.mk.injEq, true_and] at hM2
      subst hM2
      have hc1 : ∀ W, Below w.heap.size w W → Col W lo hs.length L[k] K := fun W hW => by
        obtain ⟨K', hM', hc⟩ := (HR.out W hW).c.col _ (List.getElem_mem hlt)
        rw [hM] at hM'
        simp only [Option.some.injEq, Prod.mk.injEq, true_and] at hM'
        subst hM'
        exact hc
      have hc2 : ∀ W, Below w.heap.size w W → Col W lo2 hs.length L2[k] K := fun W hW => by
        obtain ⟨K', hM', hc⟩ := (HR2.out W hW).c.col _ (List.getElem_mem hlt2)
        rw [q1, q2, hM] at hM'
        simp only [Option.some.injEq, Prod.mk.injEq, true_and] at hM'
        subst hM'
        exact hc
      have ent1 := entry28_any lo hs.length Bp Bw BM hv ev me hs L M k wr (HR.out wr hbel).c hlt
      have E2 : Hid (∀ W, Below w.heap.size w W → Calls Try.prog 28 #[.pointer (some ⟨Bp2, 0, none⟩), .int .i64 k] W fun e w' => EntQ L2[k] W w' e) := fun W hW => entry28_any lo2 hs.length Bp2 Bw2 BM2 hv2 ev2 me2 hs L2 M k W (HR2.out W hW).c hlt2
      obtain ⟨x, hx⟩ : ∃ e, e = L[k] := ⟨_, rfl⟩
      obtain ⟨y, hy⟩ : ∃ e, e = L2[k] := ⟨_, rfl⟩
      rw [← hx] at hc1 ent1 q1 q2
      rw [← hy] at hc2 E2 q1 q2
      have C1 : Hid _ := hc1
      have C2 : Hid _ := hc2
      clear hc1 hc2 hcol hcol2 hM hx hy
      go_wp2_with fail
      refine ent1.mono ?_
      rintro r w2 ⟨rfl, hb2⟩
      have hbel2 : Below w.heap.size w w2 := hbel.trans (hb2.mono hbel.size)
      clear hbel hb2 ent1
      go_wp2_with fail
      refine (E2.out w2 hbel2).mono ?_
      rintro r w3 ⟨rfl, hb3⟩
      have hbel3 : Below w.heap.size w w3 := hbel2.trans (hb3.mono hbel2.size)
      clear hbel2 hb3 E2
      rw [q1, q2]
      clear q1 q2
      go_wp2_with fail
      refine (entRow_any hs.length lo x K w3 hn0 hn (C1.out w3 hbel3)).mono ?_
      rintro r w4 ⟨rfl, hr4, hb4⟩
      have hbel4 : Below w.heap.size w w4 := hbel3.trans (hb4.mono hbel3.size)
      clear hbel3 hb4
      generalize w3.heap.size = B1 at *
      go_wp2_with fail
      refine (entRow_any hs.length lo2 y K w4 hn0 hn (C2.out w4 hbel4)).mono ?_
      rintro r w5 ⟨rfl, hr5, hb5⟩
      have hbel5 : Below w.heap.size w w5 := hbel4.trans (hb5.mono hbel4.size)
      have hr4' := own_grow hr4 hb5
      clear hbel4 hb5 hr4
      generalize w4.heap.size = B2 at *
      have z1 : ∀ l, l < hs.length → w5.cell? ⟨B1, l, none⟩ = some (.bool (K l)) := fun l hl => by rw [hr4'.cellAt l (by omega)]; exact rowOf_get _ _ l hl
      have z2 : ∀ l, l < hs.length → w5.cell? ⟨B2, l, none⟩ = some (.bool (K l)) := fun l hl => by rw [hr5.cellAt l (by omega)]; exact rowOf_get _ _ l hl
      have Z1 : Hid _ := z1
      have Z2 : Hid _ := z2
      clear z1 z2 hr4' hr5 C1 C2
      go_wp2_with fail
      go_loopw [22] (fun j wr => ∃ l m : Nat, l ≤ hs.length ∧ j = .int .i64 l ∧ w5.drewN m = wr) (fun j _ => hs.length - (intOf j).toNat)
      case atStart => exact ⟨0, 0, Nat.zero_le _, rfl, rfl⟩
      case round =>
        obtain ⟨l, m, hl, rfl, rfl⟩ := hrel
        by_cases hlt3 : l < hs.length
        · have z1 := Z1.out l hlt3
          have z2 := Z2.out l hlt3
          obtain ⟨b, hb⟩ : ∃ b, b = K l := ⟨_, rfl⟩
          rw [← hb] at z1 z2
          clear hb
          go_wp2
          go_quiet (fail)
          go_wp2
          go_roundw
          case rel => exact ⟨l + 1, m + nq, by omega, by go_num, by simp⟩
          case measure => simp [intOf]; omega
        · have : l = hs.length := by omega
          subst this
          go_wp2
          go_roundw
          case rel => exact ⟨k + 1, by omega, by go_num, below_drewN hbel5 _⟩
          case measure => simp [intOf]; omega
    · have : k = L.length := by omega
      subst this
      have vec1 := vector_any lo hs.length Bp Bw BM hv ev me hs L M wr (HR.out wr hbel).c
      have vec2 := vector_any lo2 hs.length Bp2 Bw2 BM2 hv2 ev2 me2 hs L2 M wr (HR2.out wr hbel).c
      have vl1 := (HR.out wr hbel).vlen 3
      have vl2 := (HR2.out wr hbel).vlen 3
      clear HE HLL
      go_wp2_with fail
      refine vec1.mono ?_
      rintro r w2 ⟨rfl, hw⟩
      subst w2
      go_wp2_with fail
      refine vec2.mono ?_
      rintro r w2 ⟨rfl, hw⟩
      subst w2
      clear vec1 vec2
      go_wp2_with fail
      go_loopw [25] (fun j wz => ∃ l m : Nat, l ≤ hs.length ∧ j = .int .i64 l ∧ wr.drewN m = wz) (fun j _ => hs.length - (intOf j).toNat)
      case atStart => exact ⟨0, 0, Nat.zero_le _, rfl, rfl⟩
      case round =>
        obtain ⟨l, m, hl, rfl, rfl⟩ := hrel
        by_cases hlt3 : l < hs.length
        · have x1 := R1.out wr hbel l _ (strs_get hs l hlt3)
          have lk1 : ∀ m, (Instr.lookup 47 (.map (some BM)) (.string hs[l]) false).run Try.prog (wr.drewN m) = .ok (.int .u64 (cntM M l)) (wr.drewN m) := fun m => (HR.out _ (below_drewN hbel m)).look l hlt3
          have lk2 : ∀ m, (Instr.lookup 47 (.map (some BM2)) (.string hs[l]) false).run Try.prog (wr.drewN m) = .ok (.int .u64 (cntM M l)) (wr.drewN m) := fun m => (HR2.out _ (below_drewN hbel m)).look l hlt3
          obtain ⟨sk, hsk⟩ : ∃ s, s = hs[l] := ⟨_, rfl⟩
          rw [← hsk] at x1 lk1 lk2
          clear hsk
          generalize cntM M l = cv at lk1 lk2
          go_wp2
          go_quiet (fail)
          go_wp2
          go_roundw
          case rel => exact ⟨l + 1, m + nq, by omega, by go_num, by simp⟩
          case measure => simp [intOf]; omega
        · have : l = hs.length := by omega
          subst this
          go_wp2
          go_ret
          exact ⟨rfl, below_drewN hbel _⟩
end Go.Proofs.Qxb6614657a
