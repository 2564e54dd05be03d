import Derived.Test.Qxb6614657aArgs
import Derived.Deep.RegionHeld3
namespace Go.Proofs.Qxb6614657a
open Go.RowKit

/-- An entry that the law hands in. -/
structure PE where
  h : Nat
  c : Nat
  f : Nat
  bs : List Nat
def holdP (P : List PE) : Hold := P.foldl (fun M x => setM M x.h (x.c, bitAt x.f x.bs)) (fun _ => none)
theorem holdP_succ (P : List PE) (k : Nat) (hk : k < P.length) : holdP (P.take (k + 1)) = setM (holdP (P.take k)) P[k].h (P[k].c, bitAt P[k].f P[k].bs) := by
  unfold holdP
  rw [List.take_succ_eq_append_getElem hk, List.foldl_append]
  rfl
/-- The process's part of the input. -/
structure PIn (w : World) (n : Nat) (phv pcv pfv pbv : Value) (bvs : List Value) (P : List PE) : Prop where
  h : Rd w phv (P.map fun x => .int .i64 (x.h : Int))
  c : Rd w pcv (P.map fun x => .int .u64 (x.c : Int))
  f : Rd w pfv (P.map fun x => .int .i64 (x.f : Int))
  b : Rd w pbv bvs
  bl : bvs.length = P.length
  by_ : ∀ i (hi : i < P.length) (hi' : i < bvs.length), RB w bvs[i] P[i].bs
theorem PIn.grow {w w' : World} {n : Nat} {phv pcv pfv pbv : Value} {bvs : List Value} {P : List PE} (h : PIn w n phv pcv pfv pbv bvs P) (hb : Below w.heap.size w w') : PIn w' n phv pcv pfv pbv bvs P :=
  ⟨h.h.grow hb, h.c.grow hb, h.f.grow hb, h.b.grow hb, h.bl, fun i hi hi' => (h.by_ i hi hi').grow hb⟩
/-- What is asked of it. -/
structure POk (n : Nat) (P : List PE) : Prop where
  hn : ∀ x ∈ P, x.h < n
  ord : P.Pairwise (fun a b => a.h < b.h)
  c0 : ∀ x ∈ P, x.c ≠ 0
  c1 : ∀ x ∈ P, x.c < 18446744073709551616
  fit : ∀ x ∈ P, x.f + x.bs.length ≤ (n + 7) / 8
  low : ∀ x ∈ P, ∀ l, bitAt x.f x.bs l = true → l < n
  len : P.length ≤ 1048576
theorem Rd.at {w : World} {v : Value} {cs : List Value} (h : Rd w v cs) (j : Nat) (u : Value) (hu : cs[j]? = some u) : ∃ g off cap, v = .slice (some ⟨g, off, none⟩) cs.length cap ∧ w.cell? ⟨g, off + j, none⟩ = some u := by
  obtain ⟨ao, cap, e, h2⟩ := h
  obtain ⟨g, off, e2, hc⟩ := h2 j u hu
  exact ⟨g, off, cap, by rw [e, e2], hc⟩
theorem size9 : (Try.prog.info? 9).map (·.size) = some 1 := by kernel_rfl
theorem info9 : (Try.prog.info? 9).map (fun i => (i.zero, i.size, i.bytes)) = some (some (.string ⟨#[]⟩), 1, 16) := by kernel_rfl
theorem strs_one (fs : List ByteArray) : ∀ u ∈ strs fs, u.oneCell' = true := by
  intro u hu
  obtain ⟨s, _, rfl⟩ := List.mem_map.1 hu
  rfl
theorem strs_get (fs : List ByteArray) (j : Nat) (hj : j < fs.length) : (strs fs)[j]? = some (.string fs[j]) := by simp [strs, hj]
/-- While the vector is being filled. -/
structure BV (w wr : World) (hb BM : Nat) (hs : List ByteArray) (M : Hold) : Prop where
  bel : Below w.heap.size w wr
  row : wr.ownsRow w.heap.size 9 1 (.slice (some ⟨hb, 0, none⟩) hs.length hs.length) hs.length (strs hs)
  map : ∃ D : DataW Unit, wr.ownsMap Try.prog 9 (plainElem Try.prog 37) BM (Maps.size D) D ∧ Vec D hs (cntM M)

/-- What the law's builder leaves. -/
def Built (w w' : World) (n me : Nat) (hs : List ByteArray) (M : Hold) (e : Ending) : Prop :=
  ∃ Bp Bw BM hv ev L, e = .returned (.pointer (some ⟨Bp, 0, none⟩)) ∧ w.heap.size ≤ Bp ∧ w.heap.size ≤ BM ∧ Rep w' w.heap.size n Bp Bw BM hv ev me hs L M ∧ Below w.heap.size w w'
/-- While the entries are being added. -/
def BE (w w5 wr : World) (n Bp Bw BM : Nat) (hv : Value) (me : Nat) (hs : List ByteArray) (P : List PE) (k : Nat) : Prop :=
  ∃ ev L, RepC wr w.heap.size n Bp Bw BM hv ev me hs L (holdP (P.take k)) ∧ L.map (·.h) = (P.take k).map (·.h) ∧ wr.heap[BM]? = w5.heap[BM]? ∧ Below w.heap.size w wr

theorem add_clone {w w5 W W1 : World} {n Bp Bw BM : Nat} {hv ev : Value} {me : Nat} {hs : List ByteArray} {L : List En} (P : List PE) (k : Nat) (hlt : k < P.length) (u : Value) (hC : RepC W w.heap.size n Bp Bw BM hv ev me hs L (holdP (P.take k))) (hLm : L.map (·.h) = (P.take k).map (·.h)) (hbm : W.heap[BM]? = w5.heap[BM]?) (hbel : Below w.heap.size w W)
    (hlo : w.heap.size ≤ Bp) (ok : POk n P) (hn : n ≤ 4096) (ho : W1.ownsRow W.heap.size 5 1 u P[k].bs.length (u8s P[k].bs)) (hby : ∀ b ∈ P[k].bs, b < 256) (hb : Below W.heap.size W W1) :
    Calls Try.prog 21 #[.pointer (some ⟨Bp, 0, none⟩), .int .i64 P[k].h, .int .u64 P[k].c, .int .i64 P[k].f, u] W1 fun r w' => r = .returned (.tuple #[]) ∧ BE w w5 w' n Bp Bw BM hv me hs P (k + 1) := by
  have hm := List.getElem_mem hlt
  have hC1 := hC.grow hb
  have hcol : Col W1 w.heap.size n ⟨P[k].h, P[k].c, P[k].f, u⟩ (bitAt P[k].f P[k].bs) := by
    refine ⟨P[k].bs, ⟨ho.1, ?_⟩, hby, ok.fit _ hm, fun _ => rfl, ok.low _ hm⟩
    rcases ho.2 with e | ⟨g, cap, cur, e1, e2, e3⟩
    · exact .inl e
    · exact .inr ⟨g, cap, cur, e1, Nat.le_trans hC.low e2, e3⟩
  have hfresh : ∀ x ∈ L, x.v.ownBlock = none ∨ x.v.ownBlock ≠ u.ownBlock := fun x hx => by
    by_cases e : x.v.ownBlock = none
    · exact .inl e
    · obtain ⟨q, hq⟩ := Option.ne_none_iff_exists'.1 e
      obtain ⟨K, _, bs, h1, _⟩ := hC.col x hx
      exact .inr fun e' => by
        have := (h1.lt q hq).2
        have := (ho.lt q (e' ▸ hq)).1
        omega
  have hless : ∀ x ∈ L, x.h < P[k].h := fun x hx => by
    have : x.h ∈ L.map (·.h) := List.mem_map_of_mem hx
    rw [hLm] at this
    obtain ⟨y, hy, hyx⟩ := List.mem_map.1 this
    obtain ⟨j, hj, rfl⟩ := List.getElem_of_mem hy
    rw [List.getElem_take] at hyx
    rw [← hyx]
    simp only [List.length_take] at hj
    exact List.pairwise_iff_getElem.1 ok.ord j k (by omega) hlt (by omega)
  refine (addEntry_any w.heap.size n Bp Bw BM hv ev me hs L _ ⟨P[k].h, P[k].c, P[k].f, u⟩ (bitAt P[k].f P[k].bs) W1 hC1 hlo (ok.c1 _ hm) hcol hfresh (ok.hn _ hm) hn hless).mono ?_
  rintro r w' ⟨rfl, ev', hC2, hb2, hbl2⟩
  refine ⟨rfl, ev', L ++ [⟨P[k].h, P[k].c, P[k].f, u⟩], ?_, ?_, ?_, ?_⟩
  · rw [holdP_succ P k hlt]; exact hC2
  · rw [List.map_append, hLm, List.take_succ_eq_append_getElem hlt, List.map_append]; rfl
  · obtain ⟨es, ck, hes⟩ := hC.bm
    rw [hb2, hb.block BM (Array.getElem?_eq_some_iff.1 hes).1]; exact hbm
  · exact (hbel.trans (hb.mono hbel.size)).trans hbl2

set_option maxRecDepth 100000 in
set_option maxHeartbeats 1000000 in
theorem buildM_any (n me : Nat) (hov phv pcv pfv pbv : Value) (hs : List ByteArray) (bvs : List Value) (P : List PE) (w : World) (hn0 : 1 ≤ n) (hn : n ≤ 4096) (hme : me < n) (hl : hs.length = n) (hsz : ∀ s ∈ hs, s.size ≤ maxLen) (hd : Distinct hs) (hH : Rd w hov (strs hs)) (hP : PIn w n phv pcv pfv pbv bvs P) (ok : POk n P) :
    Calls Try.prog 9 #[hov, .int .i64 me, phv, pcv, pfv, pbv] w fun e w' => Built w w' n me hs (holdP P) e := by
  subst hl
  obtain ⟨i0, hi, hz0, hz1, hz2⟩ := info_parts info9
  obtain ⟨ha, hc, hhv, hH2⟩ := hH
  obtain ⟨g0, o0, hha, _⟩ := hH2 0 _ (strs_get hs 0 hn0)
  subst hha
  have hHc : ∀ j (hj : j < hs.length), w.cell? ⟨g0, o0 + j, none⟩ = some (.string hs[j]) := fun j hj => by
    obtain ⟨g, o, e, hc⟩ := hH2 j _ (strs_get hs j hj)
    simp only [Option.some.injEq, Addr.mk.injEq, and_true] at e
    obtain ⟨rfl, rfl⟩ := e
    exact hc
  clear hH2
  rw [strs_length] at hhv
  subst hhv
  obtain ⟨pa, pcap, hphv, hPh⟩ := hP.h
  rw [List.length_map] at hphv
  have hmm := @run_makeMap Try.prog
  have hPl := ok.len
  rw [hphv]
  go_enter Try.func9, Try.ntmps9
  go_wp2_with (at_make; go_must (refine wpList_make_full _ rfl _ _ 22 rfl w.heap.size 9 i0 (.string ⟨#[]⟩) 1 Try.underlying22 hi hz0 hz1 _ _ _ _ hs.length rfl rfl rfl rfl (by rw [hz2]; omega) (by unfold maxLen; omega) (by simp) ?_); intro w1 hown1 hg1)
  have hb1 : Below w.heap.size w w1 := (Below.refl _ _).grown hg1 (Nat.le_refl _) (fun _ h => by cases h)
  have hcp : (Builtin.copy_ #[22, 22] 3 #[.slice (some ⟨w.heap.size, 0, none⟩) hs.length hs.length, .slice (some ⟨g0, o0, none⟩) hs.length hc]).run Try.prog w1 = .ok (goInt (strs hs).length) (w1.setCells w.heap.size 0 (strs hs)) := by
    refine run_copy_cells w1 22 22 3 9 w.heap.size 0 hs.length hs.length ⟨g0, o0, none⟩ hs.length hc (strs hs) Try.underlying22 size9 (by simp [strs_length]) (fun j v hv => ?_) (fun j hj => ?_) (fun j hj => ?_) (strs_one hs)
    · have hj : j < hs.length := by rw [← strs_length hs]; exact (List.getElem?_eq_some_iff.1 hv).1
      rw [strs_get hs j hj] at hv
      cases hv
      rw [Addr.add_lit, hb1.cell (p := ⟨g0, o0 + j, none⟩) (World.block_lt_of_cell? w _ (hHc j hj))]; exact hHc j hj
    · rw [strs_length] at hj
      rw [Nat.zero_add, hown1.cellAt j (by omega), List.getElem?_eq_getElem (by rw [hown1.1]; omega)]; rfl
    · rw [Nat.zero_add]; exact hown1.frozenAt j
  have hst := own_setCells (strs hs) 0 hown1
  rw [putAt_all _ _ (by rw [strs_length, hown1.1]; omega)] at hst
  have hb2 := hb1.grown hst.2 hb1.size (fun k hk => by cases hk; exact Nat.le_refl _)
  rw [hcp]
  clear hcp hown1 hg1 hi hz0 hz1 hz2
  generalize w1.setCells w.heap.size 0 (strs hs) = w2 at *
  have hBV0 : BV w (w2.alloc (.map #[] 0)) w.heap.size w2.heap.size hs (holdP (P.take 0)) := by
    refine ⟨hb2.alloc (hb2.size) _, hst.1.alloc _, .map [], ?_, ?_⟩
    · exact World.ownsMap_made w2 Try.prog 9 (plainElem Try.prog 37)
    · exact (Vec.empty hs).congr fun x _ => rfl
  have hBMlo : w.heap.size ≤ w2.heap.size := hb2.size
  clear hst hb2 hb1
  go_wp2_with fail
  go_loopw [16] (fun i wr => ∃ k : Nat, k ≤ P.length ∧ i = .int .i64 k ∧ BV w wr w.heap.size w2.heap.size hs (holdP (P.take k))) (fun i _ => P.length - (intOf i).toNat)
  case atStart => exact ⟨0, Nat.zero_le _, rfl, hBV0⟩
  case round =>
    clear hBV0
    obtain ⟨k, hk, rfl, hB⟩ := hrel
    by_cases hlt : k < P.length
    · obtain ⟨g1, o1, e1, x1⟩ := hPh k (.int .i64 P[k].h) (by rw [List.getElem?_map, List.getElem?_eq_getElem hlt]; rfl)
      subst e1
      obtain ⟨g2, o2, c2, e2, x2⟩ := hP.c.at k (.int .u64 P[k].c) (by rw [List.getElem?_map, List.getElem?_eq_getElem hlt]; rfl)
      rw [List.length_map] at e2
      subst e2
      have hkn := ok.hn _ (List.getElem_mem hlt)
      have x3 := hHc P[k].h hkn
      have up : ∀ {a : Addr} {v : Value}, w.cell? a = some v → wr.cell? a = some v := fun {a v} h => by rw [hB.bel.cell (World.block_lt_of_cell? w _ h)]; exact h
      have y1 := up x1
      have y2 := up x2
      have y3 := up x3
      obtain ⟨D, hm, hV⟩ := hB.map
      obtain ⟨w4, hrun, hm4, hg4⟩ := hm.drew.update law9 Try.underlying47 (by rw [hV.size]; have := many_le hs.length (cntM (holdP (P.take k))); unfold maxLen; omega) (key := .string hs[P[k].h]) (val := .int .u64 (P[k].c : Int)) (WideMaps.keyOf_string_mk Try.underlying9 (hsz _ (List.getElem_mem hkn))) (plainElem_int Try.underlying37 (wf_u64 _ (ok.c1 _ (List.getElem_mem hlt))))
      have hnx : BV w w4 w.heap.size w2.heap.size hs (holdP (P.take (k + 1))) := by
        refine ⟨(hB.bel.drew).grown hg4 hB.bel.size (fun q hq => by cases hq; exact hBMlo), ?_, _, own_tight hm4, ?_⟩
        · exact hB.row.drew.kept hg4 (.inr (fun e => by
            obtain ⟨cc, hcc⟩ := row_kind hB.row _ e
            obtain ⟨es, ck, hes, _⟩ := hm
            rw [hes] at hcc; cases hcc))
        · rw [holdP_succ P k hlt, cntM_set]
          exact hV.put hd P[k].h P[k].c hkn (ok.c0 _ (List.getElem_mem hlt))
      have HX : Hid _ := hnx
      clear hnx hm4 hg4 hV hm hB x1 x2 x3
      have hphl : phv = .slice (some ⟨g1, o1, none⟩) P.length pcap := hphv
      obtain ⟨sk, hsk⟩ : ∃ s, s = hs[P[k].h] := ⟨_, rfl⟩
      rw [← hsk] at hrun y3
      obtain ⟨hh, hhh⟩ : ∃ x, x = P[k].h := ⟨_, rfl⟩
      obtain ⟨cc, hcc⟩ : ∃ x, x = P[k].c := ⟨_, rfl⟩
      rw [← hhh] at y1 y3 hkn
      rw [← hcc] at y2 hrun
      clear hsk hhh hcc up hHc hPh hmm
      go_wp2
      go_region
      all_goals
        go_wp2
        go_roundw
        case rel => exact ⟨k + 1, by omega, by go_num, HX.out⟩
        case measure => simp [intOf]; omega
    · have : k = P.length := by omega
      subst this
      rw [List.take_length] at hB
      clear hmm
      go_wp2_with fail
      refine (newMatrix_any _ me w2.heap.size _ ⟨_, _, _, rfl⟩).mono ?_
      rintro e w5 ⟨rfl, hw5⟩
      have b5 : Below wr.heap.size wr w5 := by
        rw [hw5]
        exact ((Below.refl _ _).alloc (Nat.le_refl _) _).alloc (by simp) _
      have hC0 : RepC w5 w.heap.size hs.length (wr.heap.size + 1) wr.heap.size w2.heap.size (.slice (some ⟨w.heap.size, 0, none⟩) hs.length hs.length) (.slice none 0 0) me hs [] (holdP (P.take 0)) := by
        refine ⟨?_, ?_, rfl, hsz, own_grow hB.row b5, World.ownsRow_nil _ _ _ _, List.Pairwise.nil, (fun e he => by cases he), (fun e he => by cases he), (fun e he => by cases he), fun _ _ => rfl, List.Pairwise.nil, Nat.le_trans hB.bel.size b5.size, ?_⟩
        · rw [hw5]
          have := heap_alloc_new (wr.alloc (.cells #[.slice (some ⟨w.heap.size, 0, none⟩) hs.length hs.length, .map none] 66)) (.cells (pcells wr.heap.size me (.slice none 0 0) w2.heap.size) 69)
          simpa using this
        · rw [hw5, heap_alloc_old _ _ (by simp)]
          exact heap_alloc_new wr _
        · obtain ⟨D, ⟨es, ck, hes, _⟩, _⟩ := hB.map
          exact ⟨es, ck, by rw [b5.block _ (Array.getElem?_eq_some_iff.1 hes).1]; exact hes⟩
      have hmap : ∃ D : DataW Unit, w5.ownsMap Try.prog 9 (plainElem Try.prog 37) w2.heap.size (Maps.size D) D ∧ Vec D hs (cntM (holdP P)) := by
        obtain ⟨D, hm, hV⟩ := hB.map
        exact ⟨D, own_map hm (b5.block _ hm.lt), hV⟩
      have hbel5 : Below w.heap.size w w5 := hB.bel.trans (b5.mono hB.bel.size)
      have hlo5 : w.heap.size ≤ wr.heap.size + 1 := Nat.le_trans hB.bel.size (by omega)
      clear hB b5 hw5
      generalize wr.heap.size + 1 = Bp at *
      generalize wr.heap.size = Bw at *
      go_wp2_with fail
      have hE0 : BE w w5 w5 hs.length Bp Bw w2.heap.size (.slice (some ⟨w.heap.size, 0, none⟩) hs.length hs.length) me hs P 0 := ⟨_, _, hC0, rfl, rfl, hbel5⟩
      clear hC0 hbel5 hHc hPh
      go_loopw [18] (fun i wr => ∃ k : Nat, k ≤ P.length ∧ i = .int .i64 k ∧ BE w w5 wr hs.length Bp Bw w2.heap.size (.slice (some ⟨w.heap.size, 0, none⟩) hs.length hs.length) me hs P k) (fun i _ => P.length - (intOf i).toNat)
      case atStart => exact ⟨0, Nat.zero_le _, rfl, hE0⟩
      case round =>
        clear hE0
        obtain ⟨k, hk, rfl, ev, L, hC, hLm, hbm, hbel⟩ := hrel
        by_cases hlt : k < P.length
        · have hP1 := hP.grow hbel
          have hmk : ∀ {α : Type} (f : PE → α), (P.map f)[k]? = some (f P[k]) := fun f => by rw [List.getElem?_map, List.getElem?_eq_getElem hlt]; rfl
          obtain ⟨g1, o1, c1, e1, x1⟩ := hP1.h.at k _ (hmk _)
          obtain ⟨g2, o2, c2, e2, x2⟩ := hP1.c.at k _ (hmk _)
          obtain ⟨g3, o3, c3, e3, x3⟩ := hP1.f.at k _ (hmk _)
          have hbk : k < bvs.length := by rw [hP.bl]; exact hlt
          obtain ⟨g4, o4, c4, e4, x4⟩ := hP1.b.at k _ (List.getElem?_eq_getElem hbk)
          have hrb := hP1.by_ k hlt hbk
          rw [List.length_map] at e1 e2 e3
          rw [hP.bl] at e4
          have hpae : pa = some ⟨g1, o1, none⟩ ∧ pcap = c1 := by
            rw [hphv] at e1
            simp only [Value.slice.injEq, true_and] at e1
            exact e1
          obtain ⟨rfl, rfl⟩ := hpae
          subst e2 e3 e4
          obtain ⟨bv, hbv⟩ : ∃ x, x = bvs[k] := ⟨_, rfl⟩
          rw [← hbv] at x4 hrb
          have hlen8 := ok.fit _ (List.getElem_mem hlt)
          have hcl := cloneBytes_any bv P[k].bs wr.drew (by omega) (hrb.grow (Below.refl _ _).drew)
          have hCd := hC.grow (Below.refl _ _).drew
          have hadd := fun (u : Value) (W1 : World) ho hb => add_clone (w := w) (w5 := w5) (W := wr.drew) (W1 := W1) P k hlt u hCd hLm hbm hbel.drew hlo5 ok hn ho hrb.choose_spec.choose_spec.2.1 hb
          have hS : ∀ (W1 : World), Below w.heap.size w W1 → W1.cell? ⟨g1, o1 + k, none⟩ = some (.int .i64 P[k].h) ∧ W1.cell? ⟨g2, o2 + k, none⟩ = some (.int .u64 P[k].c) ∧ W1.cell? ⟨g3, o3 + k, none⟩ = some (.int .i64 P[k].f) ∧ W1.cell? ⟨g4, o4 + k, none⟩ = some bv := fun W1 hb => by
            have hP2 := hP.grow hb
            obtain ⟨q1, r1, s1, t1, z1⟩ := hP2.h.at k _ (hmk _)
            obtain ⟨q2, r2, s2, t2, z2⟩ := hP2.c.at k _ (hmk _)
            obtain ⟨q3, r3, s3, t3, z3⟩ := hP2.f.at k _ (hmk _)
            obtain ⟨q4, r4, s4, t4, z4⟩ := hP2.b.at k _ (List.getElem?_eq_getElem hbk)
            rw [hphv] at t1
            simp only [Value.slice.injEq, Option.some.injEq, Addr.mk.injEq, and_true] at t1 t2 t3 t4
            obtain ⟨⟨rfl, rfl⟩, _⟩ := t1
            obtain ⟨⟨rfl, rfl⟩, _⟩ := t2
            obtain ⟨⟨rfl, rfl⟩, _⟩ := t3
            obtain ⟨⟨rfl, rfl⟩, _⟩ := t4
            exact ⟨z1, z2, z3, by rw [hbv]; exact z4⟩
          obtain ⟨d1, d2, d3, d4⟩ := hS wr.drew hbel.drew
          have HA : Hid _ := hadd
          have HS : Hid _ := hS
          have hbd : Below w.heap.size w wr.drew := hbel.drew
          have hszd : w.heap.size ≤ wr.drew.heap.size := hbel.size
          clear hadd hS hmk hCd hrb hP1 hlen8 hC hLm hbm e1 x1 x2 x3 x4 hbv
          generalize P[k].h = ph at *
          generalize P[k].c = pc at *
          generalize P[k].f = pf at *
          go_upto_region 13 with fail
          go_region_held3 (fun w' => w'.cell? ⟨g1, o1 + k, none⟩ = some (.int .i64 ph) ∧ w'.cell? ⟨g2, o2 + k, none⟩ = some (.int .u64 pc) ∧ w'.cell? ⟨g3, o3 + k, none⟩ = some (.int .i64 pf) ∧ w'.cell? ⟨g4, o4 + k, none⟩ = some bv)
            (first | with_reducible exact ⟨d1, d2, d3, d4⟩ | with_reducible exact HS1 | with_reducible exact HS2)
            (first
            | (go_at_call 22; refine hcl.mono ?_; rintro e W1 ⟨u, rfl, ho, hb1⟩; have HS1 := HS.out W1 (hbd.trans (hb1.mono hszd)))
            | (go_at_call 21; refine (HA.out u _ ho hb1).mono ?_; rintro e W2 ⟨rfl, hBE⟩; have HS2 := HS.out W2 hBE.choose_spec.choose_spec.2.2.2; have HB : Hid _ := hBE; clear hBE))
          all_goals
            go_wp2
            go_roundw
            case rel => exact ⟨k + 1, by omega, by go_num, HB.out⟩
            case measure => simp [intOf]; omega
        · have : k = P.length := by omega
          subst this
          rw [List.take_length] at hC
          obtain ⟨D, hm, hV⟩ := hmap
          have hR : Rep wr w.heap.size hs.length Bp Bw w2.heap.size (.slice (some ⟨w.heap.size, 0, none⟩) hs.length hs.length) ev me hs L (holdP P) := ⟨hC, D, own_map hm hbm, hV⟩
          have HR : Hid _ := hR
          clear hR hC hm hV hbm
          go_wp2
          go_ret
          exact ⟨Bp, Bw, _, _, ev, L, rfl, hlo5, hBMlo, HR.out, hbel⟩
end Go.Proofs.Qxb6614657a
