import Derived.Test.Qxb6614657aModelB
namespace Go.Proofs.Qxb6614657a
open Go.RowKit

/-- A row as the reading of a column leaves it. -/
def NewRow (W W1 : World) (n : Nat) (K : Nat → Bool) : Prop := W1.ownsRow W.heap.size 4 1 (.slice (some ⟨W.heap.size, 0, none⟩) n n) n (rowOf n K) ∧ Below W.heap.size W W1

set_option maxRecDepth 100000 in
set_option maxHeartbeats 2000000 in
theorem model_any (n me : Nat) (frm : Int) (fm : Nat) (phv pcv pfv pbv shv scv sfv sbv : Value) (pvs svs : List Value) (P : List PE) (S : List SI) (w : World) (n0 : 1 ≤ n) (n1 : n ≤ 4096) (hme : me < n)
    (hP : PIn w n phv pcv pfv pbv pvs P) (ok : POk n P) (hS : SIn w shv scv sfv sbv svs S) (hsr : ∀ x ∈ S, x.h < n) (hsf : fm = 4 → ∀ x ∈ S, InRange x.f x.bs n) (hfr : fm ≠ 4 → 0 ≤ frm ∧ frm < n) (hfm : fm < 256) :
    Calls Try.prog 8 #[.int .i64 n, .int .i64 me, phv, pcv, pfv, pbv, .int .u8 fm, .int .i64 frm, shv, scv, sfv, sbv] w fun e w' => ModQ w w' n (modT fm me frm.toNat (holdP P) S) e := by
  obtain ⟨i0, hi, hz0, hz1, hz2⟩ := info_parts info37
  obtain ⟨j0, gi, gz0, gz1, gz2⟩ := info_parts info42
  obtain ⟨a2, c2, e2⟩ := hP.h.shape
  obtain ⟨a8, c8, e8⟩ := hS.h.shape
  rw [List.length_map] at e2 e8
  subst e2 e8
  have HPI : Hid (∀ W, Below w.heap.size w W → PIn W n (.slice a2 P.length c2) pcv pfv pbv pvs P) := fun W hW => hP.grow hW
  have HSI : Hid (∀ W, Below w.heap.size w W → SIn W (.slice a8 S.length c8) scv sfv sbv svs S) := fun W hW => hS.grow hW
  have OK : Hid _ := ok
  have HSR : Hid _ := hsr
  have HSF : Hid _ := hsf
  have HFR : Hid _ := hfr
  have HFM : Hid _ := hfm
  have bP := ok.len
  have bS := hS.len
  clear hP hS ok hsr hsf hfr hfm
  go_enter Try.func8, Try.ntmps8
  go_wp2_with (first
    | (at_make; refine wpList_make_full _ rfl _ _ 24 rfl w.heap.size 37 i0 (.int .u64 0) 1 Try.underlying24 hi hz0 hz1 _ _ _ _ n rfl rfl rfl rfl (by rw [hz2]; omega) (by unfold maxLen; omega) (Nat.le_refl _) ?_; intro w1 hown1 hg1)
    | (at_make; refine wpList_make_full _ rfl _ _ 28 rfl w.heap.size 42 j0 (.slice none 0 0) 1 Try.underlying28 gi gz0 gz1 _ _ _ _ n rfl rfl rfl rfl (by rw [gz2]; omega) (by unfold maxLen; omega) hg1.size ?_; intro w2 hown2 hg2))
  have e0 : (madeCells (Value.int .u64 0).cells (n * 1)).toList = cnts n (fun _ => 0) := by
    rw [Nat.mul_one]
    exact (toList_madeCells_one (.int .u64 0) n).trans (cnts_zero _)
  have e1 : (madeCells (Value.slice none 0 0).cells (n * 1)).toList = slots n (fun _ => none) := by
    rw [Nat.mul_one]
    exact (toList_madeCells_one (.slice none 0 0) n).trans (slots_none _)
  rw [e0] at hown1
  rw [e1] at hown2
  have b1 : Below w.heap.size w w1 := (Below.refl _ _).grown hg1 (Nat.le_refl _) (fun _ h => by cases h)
  have b2 : Below w1.heap.size w1 w2 := (Below.refl _ _).grown hg2 (Nat.le_refl _) (fun _ h => by cases h)
  have hM0 : M1 w w2 n w.heap.size w1.heap.size (holdP (P.take 0)) :=
    ⟨b1.trans (b2.mono b1.size), ⟨fun _ => none, ⟨hown2, fun h c K hh e => (by cases e), fun h h' b e => (by cases e), fun h b e => by cases e⟩, fun _ _ => rfl⟩, own_grow hown1 b2⟩
  clear e0 e1 hown1 hown2 hg1 hg2 b1 b2
  obtain ⟨gc, hgc⟩ : ∃ g, g = w.heap.size := ⟨_, rfl⟩
  obtain ⟨gk, hgk⟩ : ∃ g, g = w1.heap.size := ⟨_, rfl⟩
  rw [← hgc, ← hgk]
  have hM0 : M1 w w2 n gc gk (holdP (P.take 0)) := by rw [hgc, hgk]; exact hM0
  clear hgc hgk
  go_loopw [28] (fun i wr => ∃ k : Nat, k ≤ P.length ∧ i = .int .i64 k ∧ M1 w wr n gc gk (holdP (P.take k))) (fun i _ => P.length - (intOf i).toNat)
  case atStart => exact ⟨0, Nat.zero_le _, rfl, hM0⟩
  case round =>
    clear hM0
    obtain ⟨k, hk, rfl, hM⟩ := hrel
    by_cases hlt : k < P.length
    · --[A
      clear hi hz0 hz1 hz2 gi gz0 gz1 gz2
      have hmk : ∀ {α : Type} (f : PE → α), (P.map f)[k]? = some (f P[k]) := fun f => by rw [List.getElem?_map, List.getElem?_eq_getElem hlt]; rfl
      have hPd := HPI.out wr hM.bel
      have hbk : k < pvs.length := by rw [hPd.bl]; exact hlt
      obtain ⟨g1, o1, d1, e1, r1⟩ := (HPI.out w (Below.refl _ _)).h.open (by rw [List.length_map]; omega)
      obtain ⟨g2, o2, d2, e2, r2⟩ := (HPI.out w (Below.refl _ _)).c.open (by rw [List.length_map]; omega)
      obtain ⟨g3, o3, d3, e3, x3⟩ := hPd.f.at k _ (hmk _)
      obtain ⟨g4, o4, d4, e4, x4⟩ := hPd.b.at k _ (List.getElem?_eq_getElem hbk)
      have hrb := hPd.by_ k hlt hbk
      rw [List.length_map] at e1 e2 e3
      rw [hPd.bl] at e4
      simp only [Value.slice.injEq, true_and] at e1
      obtain ⟨rfl, rfl⟩ := e1
      subst e2 e3 e4
      obtain ⟨bv, hbv⟩ : ∃ x, x = pvs[k] := ⟨_, rfl⟩
      rw [← hbv] at x4 hrb
      have hfit := OK.out.fit _ (List.getElem_mem hlt)
      have hhn := OK.out.hn _ (List.getElem_mem hlt)
      have hrow := colRow_any n P[k].f bv P[k].bs wr.drew n0 n1 (by omega) (hrb.grow (Below.refl _ _).drew) (OK.out.low _ (List.getElem_mem hlt))
      have y1 : ∀ W, Below w.heap.size w W → W.cell? ⟨g1, o1 + k, none⟩ = some (.int .i64 (P[k].h : Int)) := fun W hW => r1 W hW k _ (hmk _)
      have y2 : ∀ W, Below w.heap.size w W → W.cell? ⟨g2, o2 + k, none⟩ = some (.int .u64 (P[k].c : Int)) := fun W hW => r2 W hW k _ (hmk _)
      have Y1 : Hid _ := y1
      have Y2 : Hid _ := y2
      have HM : Hid _ := hM
      have hPs := holdP_succ P k hlt
      have HPS : Hid _ := hPs
      clear y1 y2 r1 r2 hmk hPd hrb hfit hM hPs hbv
      generalize bitAt P[k].f P[k].bs = K at *
      generalize P[k].f = pf at *
      generalize P[k].bs = pbs at *
      generalize P[k].h = ph at *
      generalize P[k].c = pc at *
      go_upto_region 6 with fail
      go_cut [29, 30] from 46 to 81 (fun r _ wx => r = .slice (some ⟨wr.heap.size, 0, none⟩) n n ∧ NewRow wr.drew wx n K)
      case first => as_aux_lemma =>
        have z3 : wr.drew.cell? ⟨g3, o3 + k, none⟩ = some (.int .i64 (pf : Int)) := by rw [(Below.refl wr.heap.size wr).drew.cell (World.block_lt_of_cell? _ _ x3)]; exact x3
        have z4 : wr.drew.cell? ⟨g4, o4 + k, none⟩ = some bv := by rw [(Below.refl wr.heap.size wr).drew.cell (World.block_lt_of_cell? _ _ x4)]; exact x4
        have HZ : Hid (∀ W, Below wr.drew.heap.size wr.drew W → W.cell? ⟨g3, o3 + k, none⟩ = some (.int .i64 (pf : Int)) ∧ W.cell? ⟨g4, o4 + k, none⟩ = some bv) := fun W hW => ⟨by rw [hW.cell (World.block_lt_of_cell? _ _ z3)]; exact z3, by rw [hW.cell (World.block_lt_of_cell? _ _ z4)]; exact z4⟩
        clear x3 x4 Y1 Y2 HPS HM OK HSI HPI HSR HSF HFR HFM
        go_region_held3 (fun w' => w'.cell? ⟨g3, o3 + k, none⟩ = some (.int .i64 (pf : Int)) ∧ w'.cell? ⟨g4, o4 + k, none⟩ = some bv)
          (first | with_reducible exact ⟨z3, z4⟩ | with_reducible exact HS1)
          (first | (go_at_call 18; refine hrow.mono ?_; rintro e W3 ⟨rfl, hup⟩; have HS1 := HZ.out W3 hup.2))
        all_goals (go_wp2_with fail; go_meet; exact ⟨rfl, hup⟩)
      case rest =>
      obtain ⟨rfl, hN⟩ := hcut
      have HN : Hid _ := hN
      have hb : Below wr.heap.size wr wc := (Below.refl wr.heap.size wr).drew.trans hN.2
      have hc0 := (own_grow HM.out.c0 hb).cellAt ph (by omega)
      rw [cnts_get _ _ ph hhn] at hc0
      have hf0 := (own_grow HM.out.c0 hb).frozenAt ph
      have hbw := HM.out.bel.trans (hb.mono HM.out.bel.size)
      have x1 := Y1.out wc hbw
      have x2 := Y2.out wc hbw
      have hmid := HM.out.mid hhn pc hb
      have HMD : Hid _ := hmid
      have hXX := (HM.out.grow (Below.refl _ _).drew).put hhn pc K hN.1 hN.2
      rw [← HPS.out] at hXX
      have HX : Hid _ := hXX
      clear hXX hN hmid hM0 hrow x3 x4 hb hbw HN HPI
      go_upto_region 7 with fail
      go_cut [74] from 46 to 81 (fun _ wx => wx = wc.drew.setCell ⟨gc, ph, none⟩ (.int .u64 (pc : Int)))
      case first => as_aux_lemma =>
        go_region
        all_goals (go_wp2_with fail; go_meet)
        all_goals rfl
      case rest =>
      obtain ⟨m1, m2, m3⟩ := HMD.out
      rw [← hcut] at m1 m2 m3
      obtain ⟨u2, m2⟩ := m2
      have y1 := Y1.out _ m1
      have HC : Hid _ := hcut
      clear hcut x1 x2 HMD
      go_wp2
      go_roundw
      case rel => exact ⟨k + 1, by omega, by go_num, by rw [HC.out]; exact HX.out⟩
      case measure => simp [intOf]; omega
    · have : k = P.length := by omega
      subst this
      rw [List.take_length] at hM
      obtain ⟨X0, hT0, hno⟩ := hM.tab
      obtain ⟨M0, hM0e⟩ : ∃ M, M = holdP P := ⟨_, rfl⟩
      rw [← hM0e] at hM hT0 hno
      have HM0 : Hid _ := hM0e
      have HNO : Hid _ := hno
      have hMb := hM.bel
      have hMc := hM.c0
      clear hM hno HPI OK hlt hk hM0e
      go_wp2_with (at_make; go_must (refine wpList_make_full _ rfl _ _ 24 rfl w.heap.size 37 i0 (.int .u64 0) 1 Try.underlying24 hi hz0 hz1 _ _ _ _ n rfl rfl rfl rfl (by rw [hz2]; omega) (by unfold maxLen; omega) hMb.size ?_); intro w3 hown3 hg3)
      have e0 : (madeCells (Value.int .u64 0).cells (n * 1)).toList = cnts n (fun _ => 0) := by
        rw [Nat.mul_one]
        exact (toList_madeCells_one (.int .u64 0) n).trans (cnts_zero _)
      rw [e0] at hown3
      have hS0 := MS.start hMb hT0 hMc hown3 hg3
      clear e0 hown3 hg3 hMb hMc hT0
      obtain ⟨gm, hgm⟩ : ∃ g, g = wr.heap.size := ⟨_, rfl⟩
      rw [← hgm] at hS0 ⊢
      clear hgm
      go_loopw [32] (fun i wr => ∃ k : Nat, k ≤ S.length ∧ i = .int .i64 k ∧ MS w wr n gc gk gm X0 M0 (mx0 (S.take k))) (fun i _ => S.length - (intOf i).toNat)
      case atStart => exact ⟨0, Nat.zero_le _, rfl, hS0⟩
      case round =>
        clear hS0
        obtain ⟨k, hk, rfl, hM⟩ := hrel
        by_cases hlt : k < S.length
        · --[B
          clear hi hz0 hz1 hz2 gi gz0 gz1 gz2
          have hmk : ∀ {α : Type} (f : SI → α), (S.map f)[k]? = some (f S[k]) := fun f => by rw [List.getElem?_map, List.getElem?_eq_getElem hlt]; rfl
          have hSd := HSI.out wr hM.bel
          obtain ⟨g2, o2, t2, e2, x2⟩ := hSd.h.at k _ (hmk _)
          obtain ⟨g3, o3, t3, e3, x3⟩ := hSd.c.at k _ (hmk _)
          rw [List.length_map] at e2 e3
          simp only [Value.slice.injEq, true_and] at e2
          obtain ⟨rfl, rfl⟩ := e2
          subst e3
          have hhn := HSR.out _ (List.getElem_mem hlt)
          have hmx : mx0 (S.take (k + 1)) = mxS (mx0 (S.take k)) (S[k].h, S[k].c) := by
            rw [List.take_succ_eq_append_getElem hlt]; exact mx0_succ _ _
          have HMX : Hid _ := hmx
          have hc0 := hM.mx.cellAt S[k].h (by omega)
          rw [cnts_get _ _ _ hhn] at hc0
          have hf0 := hM.mx.frozenAt S[k].h
          have HM : Hid _ := hM
          clear hM hmk hSd hmx HSI
          generalize S[k].h = hh at *
          generalize S[k].c = cc at *
          obtain ⟨cf, hcf⟩ : ∃ c, c = mx0 (S.take k) := ⟨_, rfl⟩
          rw [← hcf] at hc0 HMX HM
          clear hcf
          by_cases hgt : cf hh < cc
          · have d1 : decide ((cf hh : Int) < (cc : Int)) = true := by simp; omega
            have hX : Hid (∀ m, MS w (((wr.drewN m).drew).setCell ⟨gm, hh, none⟩ (.int .u64 (cc : Int))) n gc gk gm X0 M0 (mx0 (S.take (k + 1)))) := fun m => by
              have h1 := ((HM.out.grow (drewN_bel wr m)).grow (Below.refl _ _).drew).store hh cc
              rw [HMX.out]
              unfold mxS
              rw [if_pos hgt]
              exact h1
            obtain ⟨ch, hch⟩ : ∃ c, c = cf hh := ⟨_, rfl⟩
            rw [← hch] at hc0 d1 hgt
            clear hch
            go_wp2
            go_quiet (fail)
            go_wp2
            go_region
            all_goals
              go_wp2
              go_roundw
              case rel => exact ⟨k + 1, by omega, by go_num, hX.out _⟩
              case measure => simp [intOf]; omega
          · have d1 : decide ((cf hh : Int) < (cc : Int)) = false := by simp; omega
            have hX : Hid (∀ m, MS w (wr.drewN m) n gc gk gm X0 M0 (mx0 (S.take (k + 1)))) := fun m => by
              have h1 := HM.out.grow (drewN_bel wr m)
              rw [HMX.out]
              unfold mxS
              rw [if_neg hgt]
              exact h1
            obtain ⟨ch, hch⟩ : ∃ c, c = cf hh := ⟨_, rfl⟩
            rw [← hch] at hc0 d1 hgt
            clear hch
            go_wp2
            go_quiet (fail)
            go_wp2
            go_roundw
            case rel => exact ⟨k + 1, by omega, by go_num, hX.out _⟩
            case measure => simp [intOf]; omega
        · have : k = S.length := by omega
          subst this
          rw [List.take_length] at hM
          obtain ⟨p2, hp2⟩ : ∃ b, b = decide (fm = 4) := ⟨_, rfl⟩
          have d4 : ((fm : Int) == 4) = p2 := by rw [hp2]; by_cases h : fm = 4 <;> simp [h]; omega
          have HP2 : Hid _ := hp2
          have hMb := hM.bel.size
          clear hp2 hM0 hlt hk
          go_wp2_with (first
            | (at_make; refine wpList_make_full _ rfl _ _ 24 rfl w.heap.size 37 i0 (.int .u64 0) 1 Try.underlying24 hi hz0 hz1 _ _ _ _ n rfl rfl rfl rfl (by rw [hz2]; omega) (by unfold maxLen; omega) hMb ?_; intro w4 hown4 hg4)
            | (at_make; refine wpList_make_full _ rfl _ _ 28 rfl w.heap.size 42 j0 (.slice none 0 0) 1 Try.underlying28 gi gz0 gz1 _ _ _ _ n rfl rfl rfl rfl (by rw [gz2]; omega) (by unfold maxLen; omega) (Nat.le_trans hMb hg4.size) ?_; intro w5 hown5 hg5))
          have e0 : (madeCells (Value.int .u64 0).cells (n * 1)).toList = cnts n (fun _ => 0) := by
            rw [Nat.mul_one]
            exact (toList_madeCells_one (.int .u64 0) n).trans (cnts_zero _)
          have e1 : (madeCells (Value.slice none 0 0).cells (n * 1)).toList = slots n (fun _ => none) := by
            rw [Nat.mul_one]
            exact (toList_madeCells_one (.slice none 0 0) n).trans (slots_none _)
          rw [e0] at hown4
          rw [e1] at hown5
          obtain ⟨mx, hmx⟩ : ∃ m, m = mx0 S := ⟨_, rfl⟩
          rw [← hmx] at hM
          have HMX : Hid _ := hmx
          have hL0 := L3.start (N := md0 p2 me frm.toNat M0 mx) hM hown4 hg4 hown5 hg5
          clear e0 e1 hown4 hown5 hg4 hg5 hM hMb hmx hi hz0 hz1 hz2 gi gz0 gz1 gz2
          obtain ⟨ge, hge⟩ : ∃ g, g = wr.heap.size := ⟨_, rfl⟩
          obtain ⟨gs, hgs⟩ : ∃ g, g = w4.heap.size := ⟨_, rfl⟩
          rw [← hge, ← hgs] at hL0 ⊢
          clear hge hgs
          go_loopw [36] (fun i wr => ∃ k : Nat, k ≤ n ∧ i = .int .i64 k ∧ L3 w wr n gc gk gm ge gs ge X0 M0 mx (md0 p2 me frm.toNat M0 mx) k) (fun i _ => n - (intOf i).toNat)
          case atStart => exact ⟨0, Nat.zero_le _, rfl, hL0⟩
          case round =>
            clear hL0
            obtain ⟨k, hk, rfl, hL⟩ := hrel
            by_cases hlt : k < n
            · obtain ⟨c1, c2', c3, ⟨u, c4⟩, c5⟩ := hL.cells hlt
              have HL : Hid (L3 w wr n gc gk gm ge gs ge X0 M0 mx (md0 p2 me frm.toNat M0 mx) k) := hL
              clear hL
              obtain ⟨m, hm⟩ : ∃ m, m = mx k := ⟨_, rfl⟩
              obtain ⟨c, hc⟩ : ∃ c, c = cntM M0 k := ⟨_, rfl⟩
              have HMk : Hid _ := hm
              have HCk : Hid _ := hc
              rw [← hm] at c1
              rw [← hc] at c2'
              clear hm hc c3 c4 c5
              go_upto_region 21 with fail
              go_cut [138] from 118 to 223 (fun v wx => v = .bool (decide (m = 0 ∨ m < c)) ∧ Below wr.heap.size wr wx)
              case first => as_aux_lemma =>
                rcases Nat.eq_zero_or_pos m with hz | hz
                · have b0 : ((m : Int) == 0) = true := by simp [hz]
                  go_quiet (fail)
                  go_wp2_with fail
                  go_meet
                  exact ⟨by simp [hz], below_drewN (Below.refl _ _) _⟩
                · have b0 : ((m : Int) == 0) = false := by simp; omega
                  go_quiet (fail)
                  go_wp2_with fail
                  go_meet
                  exact ⟨by simp; omega, below_drewN (Below.refl _ _) _⟩
              case rest =>
              obtain ⟨rfl, hb⟩ := hcut
              have hL1 := HL.out.grow hb
              have HL1 : Hid (L3 w wc n gc gk gm ge gs ge X0 M0 mx (md0 p2 me frm.toNat M0 mx) k) := hL1
              clear c1 c2' hb HL
              obtain ⟨c1, c2', c3, ⟨u, c4⟩, c5⟩ := hL1.cells hlt
              rw [← HMk.out] at c1
              rw [← HCk.out] at c2'
              clear hL1
              by_cases hA : m = 0 ∨ m < c
              · --[D
                have dA : decide (m = 0 ∨ m < c) = true := by simp [hA]
                have hmid := HL1.out.mid hlt c
                have hX := HL1.out.keep HNO.out hlt (md0_keep (by rw [← HMk.out, ← HCk.out]; exact hA))
                rw [← HCk.out] at hX
                obtain ⟨sa, sl, sc, hsv⟩ : ∃ a l c, slotV n (X0 k) = .slice a l c := by
                  cases X0 k <;> exact ⟨_, _, _, rfl⟩
                rw [hsv] at c3 hmid hX
                have HX : Hid _ := hX
                have HMD : Hid _ := hmid
                clear hX hmid hsv hA
                rw [dA]
                go_upto_region 23 with fail
                obtain ⟨m1, ⟨u2, m2⟩, m3⟩ := HMD.out
                generalize wc.setCell ⟨ge, k, none⟩ (.int .u64 (c : Int)) = W2 at *
                clear HMD c1 c2' c3 c4 c5
                go_wp2
                go_roundw
                case rel => exact ⟨k + 1, by omega, by go_num, HX.out⟩
                case measure => simp [intOf]; omega
              · have dA : decide (m = 0 ∨ m < c) = false := by simp [hA]
                rw [dA]
                clear c3 c4 c5 u
                obtain ⟨l0, l1, l2, l3, l4⟩ := info_parts info4
                by_cases hB : c < m
                · --[E
                  have dB : decide ((c : Int) < (m : Int)) = true := by simp; omega
                  go_upto_region 24 with fail
                  go_quiet (fail)
                  obtain ⟨W, hW⟩ : ∃ W, W = wc.drewN nq := ⟨_, rfl⟩
                  rw [← hW]
                  have HL2 : Hid (L3 w W n gc gk gm ge gs ge X0 M0 mx (md0 p2 me frm.toNat M0 mx) k) := by rw [hW]; exact HL1.out.grow (drewN_bel wc nq)
                  clear hW HL1 c1 c2'
                  go_upto_region 26 with (at_make; go_must (refine wpList_make_full _ rfl _ _ 42 rfl W.heap.size 4 l0 (.bool false) 1 Try.underlying42 l1 l2 l3 _ _ _ _ n rfl rfl rfl rfl (by rw [l4]; omega) (by unfold maxLen; omega) (Nat.le_refl _) ?_); intro W1 hown hg)
                  rw [row_made] at hown
                  have hR := RowN.new hown hg
                  clear hown hg l1 l2 l3 l4 dA
                  obtain ⟨gr, hgr⟩ : ∃ g, g = W.heap.size := ⟨_, rfl⟩
                  rw [← hgr] at hR ⊢
                  clear hgr
                  obtain ⟨z1, z2⟩ := hR.cells me hme
                  have hR2 := hR.set me
                  have HR2 : Hid _ := hR2
                  clear hR hR2
                  go_upto_region 27 with fail
                  generalize W1.setCell ⟨gr, me, none⟩ (.bool true) = W2 at *
                  clear z1 z2
                  go_upto_if 168 with fail
                  go_cut [37] from 118 to 223 (fun r wx => r = .slice (some ⟨gr, 0, none⟩) n n ∧ RowN W wx n gr (baseK p2 me frm.toNat k (at' M0 k)))
                  case first => as_aux_lemma =>
                    clear d4 dB hA hB
                    cases p2
                    · have hf4 : fm ≠ 4 := fun e => by have := HP2.out; simp [e] at this
                      have hf := HFR.out hf4
                      obtain ⟨fr, rfl⟩ := Int.eq_ofNat_of_zero_le hf.1
                      have hfr : fr < n := by omega
                      have d5 : decide ((fr : Int) < (n : Int)) = true := by simp; omega
                      obtain ⟨z1, z2⟩ := HR2.out.cells fr hfr
                      have HR3 : Hid _ := HR2.out.set fr
                      clear hf hf4
                      go_upto_region 29 with fail
                      generalize W2.setCell ⟨gr, fr, none⟩ (.bool true) = W3 at *
                      clear z1 z2
                      have hL3 := HL2.out.grow HR3.out.bel
                      obtain ⟨c1, c2', c3, _⟩ := hL3.cells hlt
                      rw [← HCk.out] at c2'
                      obtain ⟨z1, z2⟩ := HR3.out.cells k hlt
                      rcases Nat.eq_zero_or_pos c with hz | hz
                      · have b0 : ((c : Int) == 0) = true := by simp [hz]
                        have hx0 : (at' M0 k).1 = 0 := by rw [← cntM_at, ← HCk.out]; exact hz
                        have HR4 : Hid _ := HR3.out.set k
                        have HX0 : Hid _ := hx0
                        clear hx0 hL3 c1 c3
                        go_wp2
                        go_meet
                        exact ⟨rfl, HR4.out.congr fun l => by simp [baseK, HX0.out, Bool.or_assoc]⟩
                      · have b0 : ((c : Int) == 0) = false := by simp; omega
                        have hne : (at' M0 k).1 ≠ 0 := by rw [← cntM_at, ← HCk.out]; omega
                        obtain ⟨b, hb1, hb2⟩ := hL3.held hlt (by rw [← HCk.out]; omega)
                        have y1 := hb2.cellAt k (by omega)
                        rw [rowOf_get n _ k hlt] at y1
                        rw [hb1, show slotV n (some b) = .slice (some ⟨b, 0, none⟩) n n from rfl] at c3
                        have HNE : Hid _ := hne
                        obtain ⟨kb, hkb⟩ : ∃ x, x = (at' M0 k).2 k := ⟨_, rfl⟩
                        rw [← hkb] at y1
                        have HKB : Hid _ := hkb
                        clear hne hkb hb1 hb2 hL3 c1
                        cases kb
                        · go_wp2
                          go_meet
                          exact ⟨rfl, HR3.out.congr fun l => by simp [baseK, show ¬ (at' M0 k).1 = 0 from HNE.out, ← HKB.out]⟩
                        · have HR4 : Hid _ := HR3.out.set k
                          go_wp2
                          go_meet
                          exact ⟨rfl, HR4.out.congr fun l => by simp [baseK, ← HKB.out, Bool.or_assoc]⟩
                    · go_wp2
                      go_meet
                      exact ⟨rfl, HR2.out.congr fun l => by simp [baseK]⟩
                  case rest =>
                  obtain ⟨rfl, hR⟩ := hcut
                  have hL3 := HL2.out.grow hR.bel
                  obtain ⟨c1, _, _, ⟨u, c4⟩, c5⟩ := hL3.cells hlt
                  rw [← HMk.out] at c1
                  have hmid := hL3.mid hlt m
                  have hX := HL2.out.put hlt hR m (by rw [md0_rise (by rw [← HMk.out, ← HCk.out]; exact hB), ← HMk.out])
                  have HX : Hid _ := hX
                  have HMD : Hid _ := hmid
                  clear hX hmid hL3 hR
                  go_upto_region 32 with fail
                  obtain ⟨m1, ⟨u2, m2⟩, m3⟩ := HMD.out
                  generalize wc.setCell ⟨ge, k, none⟩ (.int .u64 (m : Int)) = W4 at *
                  clear HMD c1 c4 c5
                  go_wp2
                  go_roundw
                  case rel => exact ⟨k + 1, by omega, by go_num, HX.out⟩
                  case measure => simp [intOf]; omega
                · --[F
                  have dB : decide ((c : Int) < (m : Int)) = false := by simp; omega
                  go_upto_region 24 with fail
                  go_quiet (fail)
                  obtain ⟨W, hW⟩ : ∃ W, W = wc.drewN nq := ⟨_, rfl⟩
                  rw [← hW]
                  have HL2 : Hid (L3 w W n gc gk gm ge gs ge X0 M0 mx (md0 p2 me frm.toNat M0 mx) k) := by rw [hW]; exact HL1.out.grow (drewN_bel wc nq)
                  clear hW HL1 c1 c2'
                  go_upto_region 34 with (at_make; go_must (refine wpList_make_full _ rfl _ _ 42 rfl W.heap.size 4 l0 (.bool false) 1 Try.underlying42 l1 l2 l3 _ _ _ _ n rfl rfl rfl rfl (by rw [l4]; omega) (by unfold maxLen; omega) (Nat.le_refl _) ?_); intro W1 hown hg)
                  rw [row_made] at hown
                  have hR := RowN.new hown hg
                  clear hown hg l1 l2 l3 l4 dA
                  obtain ⟨gr, hgr⟩ : ∃ g, g = W.heap.size := ⟨_, rfl⟩
                  rw [← hgr] at hR ⊢
                  clear hgr
                  have hL3 := HL2.out.grow hR.bel
                  obtain ⟨b, hb1, hb2⟩ := hL3.held hlt (by rw [← HCk.out]; omega)
                  obtain ⟨_, _, c3, _⟩ := hL3.cells hlt
                  rw [hb1, show slotV n (some b) = .slice (some ⟨b, 0, none⟩) n n from rfl] at c3
                  have hcp := copy_row hR hb2
                  have HR2 : Hid _ := hR.copied (at' M0 k).2
                  generalize W1.setCells gr 0 (rowOf n (at' M0 k).2) = W2 at *
                  clear hR hL3 hb1 hb2
                  go_upto_region 35 with fail
                  clear hcp c3
                  go_upto_if 209 with fail
                  go_cut [38] from 118 to 223 (fun r wx => r = .slice (some ⟨gr, 0, none⟩) n n ∧ RowN W wx n gr (fun l => (at' M0 k).2 l || (!p2 && decide (l = frm.toNat))))
                  case first => as_aux_lemma =>
                    clear d4 dB hA hB
                    cases p2
                    · have hf4 : fm ≠ 4 := fun e => by have := HP2.out; simp [e] at this
                      have hf := HFR.out hf4
                      obtain ⟨fr, rfl⟩ := Int.eq_ofNat_of_zero_le hf.1
                      have hfr : fr < n := by omega
                      obtain ⟨z1, z2⟩ := HR2.out.cells fr hfr
                      have HR3 : Hid _ := HR2.out.set fr
                      clear hf hf4
                      go_wp2
                      go_meet
                      exact ⟨rfl, HR3.out.congr fun l => by simp⟩
                    · go_wp2
                      go_meet
                      exact ⟨rfl, HR2.out.congr fun l => by simp⟩
                  case rest =>
                  obtain ⟨rfl, hR⟩ := hcut
                  have hL3 := HL2.out.grow hR.bel
                  obtain ⟨_, c1, _, ⟨u, c4⟩, c5⟩ := hL3.cells hlt
                  rw [← HCk.out] at c1
                  have hmid := hL3.mid hlt c
                  have hX := HL2.out.put hlt hR c (by rw [md0_same (by rw [← HMk.out]; omega) (by rw [← HMk.out, ← HCk.out]; omega), ← HCk.out])
                  have HX : Hid _ := hX
                  have HMD : Hid _ := hmid
                  clear hX hmid hL3 hR
                  go_upto_region 38 with fail
                  obtain ⟨m1, ⟨u2, m2⟩, m3⟩ := HMD.out
                  generalize wc.setCell ⟨ge, k, none⟩ (.int .u64 (c : Int)) = W4 at *
                  clear HMD c1 c4 c5
                  go_wp2
                  go_roundw
                  case rel => exact ⟨k + 1, by omega, by go_num, HX.out⟩
                  case measure => simp [intOf]; omega
            · have hkn : k = n := by omega
              subst hkn
              have hL4 := L4.of hL
              clear hL hlt hk HNO HFR
              have bk := n1
              cases p2
              · have hf4 : fm ≠ 4 := fun e => by have := HP2.out; simp [e] at this
                have hQ := hL4.done
                rw [HMX.out, HM0.out, ← modT_p1 hf4] at hQ
                have HQ : Hid _ := hQ
                clear hQ hL4 hf4
                go_wp2
                go_ret2
                exact HQ.out
              · have hf4 : fm = 4 := by have := HP2.out; simpa using this
                subst hf4
                rw [← mdU_nil] at hL4
                go_wp2_with fail
                go_loopw [39] (fun i wr => ∃ j : Nat, j ≤ S.length ∧ i = .int .i64 j ∧ L4 w wr k gc gm ge gs M0 mx (mdU me frm.toNat M0 mx (S.take j))) (fun i _ => S.length - (intOf i).toNat)
                case atStart => exact ⟨0, Nat.zero_le _, rfl, hL4⟩
                case round =>
                  clear hL4
                  obtain ⟨j, hj, rfl, hL⟩ := hrel
                  have HL : Hid (L4 w wr k gc gm ge gs M0 mx (mdU me frm.toNat M0 mx (S.take j))) := hL
                  clear hL d4 HP2
                  by_cases hlt : j < S.length
                  · --[G
                    have hmk : ∀ {α : Type} (f : SI → α), (S.map f)[j]? = some (f S[j]) := fun f => by rw [List.getElem?_map, List.getElem?_eq_getElem hlt]; rfl
                    have hSd := HSI.out w (Below.refl _ _)
                    have hbk : j < svs.length := by rw [hSd.bl]; exact hlt
                    obtain ⟨g1, o1, d1, e1, r1⟩ := hSd.h.open (by rw [List.length_map]; omega)
                    obtain ⟨g2, o2, d2, e2, r2⟩ := hSd.c.open (by rw [List.length_map]; omega)
                    obtain ⟨g3, o3, d3, e3, r3⟩ := hSd.f.open (by rw [List.length_map]; omega)
                    obtain ⟨g4, o4, d4, e4, r4⟩ := hSd.b.open (by omega)
                    have hrb := hSd.by_ j hlt hbk
                    rw [List.length_map] at e1 e2 e3
                    rw [hSd.bl] at e4
                    simp only [Value.slice.injEq, true_and] at e1
                    obtain ⟨rfl, rfl⟩ := e1
                    subst e2 e3 e4
                    have hhn := HSR.out _ (List.getElem_mem hlt)
                    obtain ⟨hf1, hf2, hf3⟩ := inR_f (HSF.out trivial _ (List.getElem_mem hlt))
                    obtain ⟨bv, hbv⟩ : ∃ x, x = svs[j] := ⟨_, rfl⟩
                    rw [← hbv] at hrb
                    have ha : S.take (j + 1) = S.take j ++ [S[j]] := List.take_succ_eq_append_getElem hlt
                    have HA : Hid _ := ha
                    obtain ⟨x, hx⟩ : ∃ x, x = S[j] := ⟨_, rfl⟩
                    have y1 : ∀ W, Below w.heap.size w W → W.cell? ⟨g1, o1 + j, none⟩ = some (.int .i64 (x.h : Int)) := fun W hW => by rw [hx]; exact r1 W hW j _ (hmk _)
                    have y2 : ∀ W, Below w.heap.size w W → W.cell? ⟨g2, o2 + j, none⟩ = some (.int .u64 (x.c : Int)) := fun W hW => by rw [hx]; exact r2 W hW j _ (hmk _)
                    have y3 : ∀ W, Below w.heap.size w W → W.cell? ⟨g3, o3 + j, none⟩ = some (.int .i64 (x.f.toNat : Int)) := fun W hW => by rw [hx, ← hf1]; exact r3 W hW j _ (hmk _)
                    have y4 : ∀ W, Below w.heap.size w W → W.cell? ⟨g4, o4 + j, none⟩ = some bv := fun W hW => by rw [hbv]; exact r4 W hW j _ (List.getElem?_eq_getElem hbk)
                    rw [← hx] at hhn hf2 hf3 hrb HA
                    have hbel := HL.out.bel
                    have x1 := y1 wr hbel
                    have x2 := y2 wr hbel
                    have Y3 : Hid _ := y3
                    have Y4 : Hid _ := y4
                    obtain ⟨q1, q2⟩ := HL.out.cells x.h hhn
                    clear y1 y2 y3 y4 r1 r2 r3 r4 hmk hSd hbv hx hf1 ha
                    obtain ⟨cm, hcm⟩ : ∃ c, c = mx x.h := ⟨_, rfl⟩
                    obtain ⟨cz, hcz⟩ : ∃ c, c = cntM M0 x.h := ⟨_, rfl⟩
                    rw [← hcm] at q1
                    rw [← hcz] at q2
                    have HCM : Hid _ := hcm
                    have HCZ : Hid _ := hcz
                    have HRB : Hid _ := hrb
                    have HF2 : Hid _ := hf2
                    have HF3 : Hid _ := hf3
                    have HBL : Hid _ := hbel
                    obtain ⟨xc, hxc⟩ : ∃ c, c = x.c := ⟨_, rfl⟩
                    obtain ⟨xh, hxh⟩ : ∃ c, c = x.h := ⟨_, rfl⟩
                    have HXC : Hid _ := hxc
                    have HXH : Hid _ := hxh
                    rw [← hxc] at x2
                    rw [← hxh] at q1 q2 x1 hhn
                    clear hcm hcz hxc hxh hrb hf2 hf3 hbel
                    go_upto_region 45 with fail
                    go_cut [256] from 225 to 269 (fun v wx => v = .bool (decide (xc ≠ 0 ∧ xc = cm ∧ cz ≤ xc)) ∧ wr = wx)
                    case first => as_aux_lemma =>
                      clear HCM HCZ HXC HXH HRB HF2 HF3 HBL Y3 Y4 HL HA
                      by_cases h1 : xc = 0
                      · subst h1
                        go_wp2
                        go_meet
                        exact ⟨by simp, rfl⟩
                      · by_cases h2 : xc = cm
                        · subst h2
                          go_wp2
                          go_meet
                          exact ⟨by simp [h1], rfl⟩
                        · go_wp2
                          go_meet
                          exact ⟨by simp [h2], rfl⟩
                    case rest =>
                    obtain ⟨rfl, hwc⟩ := hcut
                    subst wc
                    clear x1 x2 q1 q2
                    by_cases hq : xc ≠ 0 ∧ xc = cm ∧ cz ≤ xc
                    · have dq : decide (xc ≠ 0 ∧ xc = cm ∧ cz ≤ xc) = true := decide_eq_true hq
                      rw [dq]
                      rw [HXC.out, HCM.out, HCZ.out] at hq
                      obtain ⟨c, K, hE, hU⟩ := mdU_mark (me := me) (frm := frm.toNat) (M := M0) (mx := mx) (T := S.take j) hq.1 hq.2.1 hq.2.2
                      rw [← HXH.out] at hE hU
                      obtain ⟨b, s1, s2, s3⟩ := (HL.out.grow (Below.refl _ _).drew).mark xh c K hhn hE
                      have hbel := HBL.out
                      have hf2 := HF2.out
                      have hmark := colMark_any w.heap.size k x.f.toNat b k K bv x.bs w wr.drew n1 (by omega) hbel.drew (Nat.le_refl _) hbel.size HRB.out HF3.out s2
                      rw [← HA.out] at hU
                      have HS3 : Hid (∀ (W3 : World), W3.ownsRow w.heap.size 4 1 (.slice (some ⟨b, 0, none⟩) k k) k (rowOf k fun l => K l || bitAt x.f.toNat x.bs l) → wr.drew.grownBy W3 (some b) → L4 w W3 k gc gm ge gs M0 mx (mdU me frm.toNat M0 mx (S.take (j + 1))) ∧ W3.cell? ⟨gs, xh, none⟩ = some (.slice (some ⟨b, 0, none⟩) k k)) := fun W3 ho hg => by rw [hU]; exact s3 W3 _ ho hg
                      have z3 := Y3.out wr.drew hbel.drew
                      have z4 := Y4.out wr.drew hbel.drew
                      clear hU s3 hE s2 hf2 hq dq HRB HF2 HF3 HBL HCM HCZ HXC HXH hbel
                      generalize x.f.toNat = xf at *
                      generalize x.bs = xb at *
                      go_upto_region 46 with fail
                      go_region_held3 (fun w' => w'.cell? ⟨gs, xh, none⟩ = some (.slice (some ⟨b, 0, none⟩) k k) ∧ w'.cell? ⟨g3, o3 + j, none⟩ = some (.int .i64 (xf : Int)) ∧ w'.cell? ⟨g4, o4 + j, none⟩ = some bv)
                        (first | with_reducible exact ⟨s1, z3, z4⟩ | with_reducible exact HS1)
                        (first | (go_at_call 19; refine hmark.mono ?_; rintro e W3 ⟨rfl, ho, hg⟩; have hup := HS3.out W3 ho hg; have HS1 := And.intro hup.2 (And.intro (Y3.out W3 (L4.bel hup.1)) (Y4.out W3 (L4.bel hup.1))); have HX : Hid _ := hup.1; clear hup))
                      all_goals
                        go_wp2
                        go_roundw
                        case rel => exact ⟨j + 1, by omega, by go_num, HX.out⟩
                        case measure => simp [intOf]; omega
                    · have dq : decide (xc ≠ 0 ∧ xc = cm ∧ cz ≤ xc) = false := decide_eq_false hq
                      rw [dq]
                      rw [HXC.out, HCM.out, HCZ.out] at hq
                      have hU := mdU_skip (me := me) (frm := frm.toNat) (T := S.take j) hq
                      rw [← HA.out] at hU
                      have hX : L4 w wr k gc gm ge gs M0 mx (mdU me frm.toNat M0 mx (S.take (j + 1))) := by rw [hU]; exact HL.out
                      have HX : Hid _ := hX
                      clear hU hX HRB HF2 HF3 hq dq
                      go_wp2
                      go_roundw
                      case rel => exact ⟨j + 1, by omega, by go_num, HX.out⟩
                      case measure => simp [intOf]; omega
                  · have : j = S.length := by omega
                    subst this
                    rw [List.take_length] at HL
                    have hQ := HL.out.done
                    rw [HMX.out, HM0.out, ← modT_p2] at hQ
                    have HQ : Hid _ := hQ
                    clear hQ HL
                    go_wp2
                    go_ret2
                    exact HQ.out
end Go.Proofs.Qxb6614657a
