import Derived.Test.Qxb6614657aData
namespace Go.Proofs.Qxb6614657a
open Go.RowKit

theorem info37 : (Try.prog.info? 37).map (fun i => (i.zero, i.size, i.bytes)) = some (some (.int .u64 0), 1, 8) := by kernel_rfl
theorem AIn.grow {w w' : World} {v : Av} {d : Ad} (h : AIn w v d) (hb : Below w.heap.size w w') : AIn w' v d :=
  ⟨h.h.grow hb, h.ph.grow hb, h.pc.grow hb, h.pf.grow hb, h.pb.grow hb, h.pl, fun i a b => (h.py i a b).grow hb, h.sh.grow hb, h.sc.grow hb, h.sf.grow hb, h.sb.grow hb, h.sl, fun i a b => (h.sy i a b).grow hb⟩
theorem cnts_zero (n : Nat) : List.replicate n (Value.int .u64 0) = cnts n (fun _ => 0) := by
  unfold cnts
  refine List.ext_getElem (by simp) fun i a b => by simp
theorem cnts_set (n : Nat) (c : Nat → Nat) (k v : Nat) : (cnts n c).set k (.int .u64 (v : Int)) = cnts n (setC c k v) := by
  unfold cnts setC
  refine List.ext_getElem (by simp) fun i a b => ?_
  rw [List.getElem_set]
  simp only [List.getElem_map, List.getElem_range]
  split
  · next e => rw [if_pos e.symm]
  · next e => rw [if_neg (fun h => e h.symm)]
theorem Rd.own {w : World} {lo e : Nat} {v : Value} {xs : List Value} (h : w.ownsRow lo e 1 v xs.length xs) : Rd w v xs := by
  rcases h.2 with ⟨h0, hv⟩ | ⟨g, cap, cur, hv, _⟩
  · refine ⟨none, 0, by rw [hv, h0], fun j u hu => ?_⟩
    have := (List.getElem?_eq_some_iff.1 hu).1
    omega
  · refine ⟨_, cap, hv, fun j u hu => ⟨g, 0, rfl, ?_⟩⟩
    have hj := (List.getElem?_eq_some_iff.1 hu).1
    rw [hv] at h
    rw [Nat.zero_add, h.cellAt j (by omega)]
    exact hu
theorem mxF_succ (c : Nat → Nat) (S : List SI) (j : Nat) (hj : j < S.length) : mxF c ((S.take (j + 1)).map fun x => (x.h, x.c)) = mxS (mxF c ((S.take j).map fun x => (x.h, x.c))) (S[j].h, S[j].c) := by
  unfold mxF
  rw [List.take_succ_eq_append_getElem hj, List.map_append, List.foldl_append]
  rfl

/-- The counts that the law wants, as they lie in memory. -/
def Want (w wr : World) (g n : Nat) (c : Nat → Nat) : Prop := wr.ownsRow w.heap.size 37 1 (.slice (some ⟨g, 0, none⟩) n n) n (cnts n c) ∧ Below w.heap.size w wr

set_option maxRecDepth 100000 in
set_option maxHeartbeats 2000000 in
theorem idem_any (v : Av) (d : Ad) (me frm : Int) (fm : Nat) (w : World) (h : AIn w v d) (wd : Wide d) (hfm : fm < 256) :
    Calls Try.prog 4 #[v.h, .int .i64 me, v.ph, v.pc, v.pf, v.pb, .int .u8 fm, .int .i64 frm, v.sh, v.sc, v.sf, v.sb] w fun e w' => e = .returned (.bool true) ∧ Below w.heap.size w w' := by
  have HA : Hid (∀ W, Below w.heap.size w W → AIn W v d) := fun W hW => h.grow hW
  have c13 := bytes13_any v d me frm fm w h
  have c6 := tooBig_any v d w h
  have c7 : Hid (Short d → _) := fun s => premise_any v d me frm fm w h s ⟨wd.pf, wd.sf⟩ hfm
  obtain ⟨a1, c1, e1⟩ := h.h.shape
  obtain ⟨a2, c2, e2⟩ := h.ph.shape
  obtain ⟨a8, c8, e8⟩ := h.sh.shape
  rw [strs_length] at e1
  rw [show (ints d.ph).length = d.ph.length by simp [ints]] at e2
  rw [show (ints d.sh).length = d.sh.length by simp [ints]] at e8
  obtain ⟨vh, vph, vpc, vpf, vpb, vsh, vsc, vsf, vsb⟩ := v
  simp only at e1 e2 e8 c13 c6 c7 ⊢
  subst e1 e2 e8
  have HW : Hid _ := wd
  clear h wd
  obtain ⟨i0, hi, hz0, hz1, hz2⟩ := info_parts info37
  go_enter Try.func4, Try.ntmps4
  go_wp2_with fail
  refine c13.mono ?_
  rintro e w' ⟨⟨b, rfl, hb⟩, hw⟩
  subst w'
  clear c13
  cases b
  · clear c6 hb
    go_wp2
    go_ret
    exact ⟨rfl, Below.refl _ _⟩
  have hs := hb rfl
  clear hb
  go_wp2_with fail
  refine (c6 hs).mono ?_
  rintro e w' ⟨⟨b, rfl⟩, hw⟩
  subst w'
  clear c6
  cases b
  rotate_left
  · go_wp2
    go_ret
    exact ⟨rfl, Below.refl _ _⟩
  go_wp2_with fail
  refine (c7.out hs).mono ?_
  rintro e w1 ⟨⟨b, rfl, hp⟩, hbl⟩
  cases b
  · clear hp
    go_wp2
    go_ret
    exact ⟨rfl, hbl⟩
  have hp := hp rfl
  clear c7
  obtain ⟨me, rfl⟩ := Int.eq_ofNat_of_zero_le hp.me0
  have HP : Hid _ := hp
  have hS : Hid _ := hs
  have n0 := hp.n0
  have n1 := hp.n1
  clear hp hs
  go_wp2_with (at_make; go_must (refine wpList_make_full _ rfl _ _ 24 rfl w.heap.size 37 i0 (.int .u64 0) 1 Try.underlying24 hi hz0 hz1 _ _ _ _ d.hs.length rfl rfl rfl rfl (by rw [hz2]; omega) (by unfold maxLen; omega) hbl.size ?_); intro w2 hown1 hg1)
  have e0 : (madeCells (Value.int .u64 0).cells (d.hs.length * 1)).toList = cnts d.hs.length (fun _ => 0) := by
    rw [Nat.mul_one]
    exact (toList_madeCells_one (.int .u64 0) d.hs.length).trans (cnts_zero _)
  rw [e0] at hown1
  have hW0 : Want w w2 w1.heap.size d.hs.length (cntM (holdP (d.P.take 0))) := ⟨hown1, hbl.grown hg1 hbl.size (fun _ h => by cases h)⟩
  clear e0 hown1 hg1 hi hz0 hz1 hz2 hbl
  generalize w1.heap.size = gw at *
  have b2 := hS.out.ph
  have b8 := hS.out.sh
  go_loopw [27] (fun i wr => ∃ k : Nat, k ≤ d.ph.length ∧ i = .int .i64 k ∧ Want w wr gw d.hs.length (cntM (holdP (d.P.take k)))) (fun i _ => d.ph.length - (intOf i).toNat)
  case atStart => exact ⟨0, Nat.zero_le _, rfl, hW0⟩
  case round =>
    clear hW0 w2 hp
    obtain ⟨k, hk, rfl, hown, hbl⟩ := hrel
    by_cases hlt : k < d.ph.length
    · have q2 : k < d.pc.length := by rw [HP.out.lc]; exact hlt
      have q3 : k < d.pf.length := by rw [HP.out.lf]; exact hlt
      have q4 : k < d.pb.length := by rw [HP.out.lb]; exact hlt
      obtain ⟨g2, o2, t2, x2, x2'⟩ := (HA.out _ hbl).ph.at k _ (ints_get d.ph k hlt)
      obtain ⟨g3, o3, t3, x3, x3'⟩ := (HA.out _ hbl).pc.at k _ (u64s_get d.pc k q2)
      simp only [Value.slice.injEq] at x2 x3
      obtain ⟨rfl, _, rfl⟩ := x2
      have hpr := HP.out.pr k hlt q2 q3 q4
      obtain ⟨hh, hhe⟩ := Int.eq_ofNat_of_zero_le hpr.1
      have hhn : hh < d.hs.length := by omega
      rw [hhe] at x2'
      have hst := hown.drew.stored hh (.int .u64 (d.pc[k] : Int))
      have hc0 := hown.cellAt hh (by omega)
      rw [cnts_get _ _ hh hhn] at hc0
      have hf0 := hown.frozenAt hh
      have hnx : Want w (wr.drew.setCell ⟨gw, hh, none⟩ (.int .u64 (d.pc[k] : Int))) gw d.hs.length (cntM (holdP (d.P.take (k + 1)))) := by
        have hkP : k < d.P.length := by rw [d.P_length]; exact hlt
        rw [holdP_succ d.P k hkP, cntM_set, d.P_get k hkP hlt q2 q3 q4, hhe]
        simp only [Int.toNat_natCast]
        exact ⟨by rw [← cnts_set]; exact hst.1, hbl.drew.grown hst.2 hbl.size (fun q hq => by cases hq; exact (hown.lt _ rfl).1)⟩
      have HX : Hid _ := hnx
      have l3 : (u64s d.pc).length = d.ph.length := by rw [← HP.out.lc]; simp [u64s]
      rw [l3] at x3
      clear hnx hst hown hpr hhe l3
      obtain ⟨cc, hcc⟩ : ∃ c, c = d.pc[k] := ⟨_, rfl⟩
      rw [← hcc] at x3' HX
      subst x3
      clear hcc
      go_wp2
      go_region
      all_goals
        go_wp2
        go_roundw
        case rel => exact ⟨k + 1, by omega, by go_num, HX.out⟩
        case measure => simp [intOf]; omega
    · have : k = d.ph.length := by omega
      subst this
      rw [← d.P_length, List.take_length] at hown
      have hW1 : Want w wr gw d.hs.length (mxF (cntM (holdP d.P)) ((d.S.take 0).map fun x => (x.h, x.c))) := ⟨hown, hbl⟩
      clear hown hbl
      go_wp2_with fail
      go_loopw [28] (fun i wr => ∃ k : Nat, k ≤ d.sh.length ∧ i = .int .i64 k ∧ Want w wr gw d.hs.length (mxF (cntM (holdP d.P)) ((d.S.take k).map fun x => (x.h, x.c)))) (fun i _ => d.sh.length - (intOf i).toNat)
      case atStart => exact ⟨0, Nat.zero_le _, rfl, hW1⟩
      case round =>
        clear hW1
        obtain ⟨k, hk, rfl, hown, hbl⟩ := hrel
        by_cases hlt2 : k < d.sh.length
        · have q2 : k < d.sc.length := by rw [HP.out.sc]; exact hlt2
          have q3 : k < d.sf.length := by rw [HP.out.sf]; exact hlt2
          have q4 : k < d.sb.length := by rw [HP.out.sb]; exact hlt2
          obtain ⟨g2, o2, t2, x2, x2'⟩ := (HA.out _ hbl).sh.at k _ (ints_get d.sh k hlt2)
          obtain ⟨g3, o3, t3, x3, x3'⟩ := (HA.out _ hbl).sc.at k _ (u64s_get d.sc k q2)
          simp only [Value.slice.injEq] at x2 x3
          obtain ⟨rfl, _, rfl⟩ := x2
          have hpr := HP.out.sr k hlt2
          obtain ⟨hh, hhe⟩ := Int.eq_ofNat_of_zero_le hpr.1
          have hhn : hh < d.hs.length := by omega
          rw [hhe] at x2'
          have hc0 := hown.cellAt hh (by omega)
          rw [cnts_get _ _ hh hhn] at hc0
          have hkS : k < d.S.length := by rw [d.S_length]; exact hlt2
          have hmx := mxF_succ (cntM (holdP d.P)) d.S k hkS
          rw [d.S_get k hkS hlt2 q2 q3 q4, hhe] at hmx
          simp only [Int.toNat_natCast] at hmx
          have l3 : (u64s d.sc).length = d.sh.length := by rw [← HP.out.sc]; simp [u64s]
          rw [l3] at x3
          generalize (mxF (cntM (holdP d.P)) ((d.S.take k).map fun x => (x.h, x.c))) = cf at *
          by_cases hgt : cf hh < d.sc[k]
          · have d1 : decide ((cf hh : Int) < (d.sc[k] : Int)) = true := by simp; omega
            have hX : Hid (∀ m, Want w (((wr.drewN m).drew).setCell ⟨gw, hh, none⟩ (.int .u64 (d.sc[k] : Int))) gw d.hs.length (mxF (cntM (holdP d.P)) ((d.S.take (k + 1)).map fun x => (x.h, x.c)))) := fun m => by
              have ho := own_grow hown (drewN_bel wr m)
              have hst := ho.drew.stored hh (.int .u64 (d.sc[k] : Int))
              rw [hmx]
              unfold mxS
              rw [if_pos hgt]
              exact ⟨by rw [← cnts_set]; exact hst.1, (below_drewN hbl m).drew.grown hst.2 (below_drewN hbl m).size (fun q hq => by cases hq; exact (hown.lt _ rfl).1)⟩
            have hf0 := hown.frozenAt hh
            clear hown hpr hhe l3 hmx
            obtain ⟨cc, hcc⟩ : ∃ c, c = d.sc[k] := ⟨_, rfl⟩
            rw [← hcc] at x3' hX d1 hgt
            obtain ⟨ch, hch⟩ : ∃ c, c = cf hh := ⟨_, rfl⟩
            rw [← hch] at hc0 d1 hgt
            subst x3
            clear hcc hch
            go_wp2
            go_quiet (fail)
            go_wp2
            go_region
            all_goals
              go_wp2
              go_roundw
              case rel => exact ⟨k + 1, by omega, by go_num, hX.out _⟩
              case measure => simp [intOf]; omega
          · have d1 : decide ((cf hh : Int) < (d.sc[k] : Int)) = false := by simp; omega
            have hX : Hid (∀ m, Want w (wr.drewN m) gw d.hs.length (mxF (cntM (holdP d.P)) ((d.S.take (k + 1)).map fun x => (x.h, x.c)))) := fun m => by
              rw [hmx]
              unfold mxS
              rw [if_neg hgt]
              exact ⟨own_grow hown (drewN_bel wr m), below_drewN hbl m⟩
            clear hown hpr hhe l3 hmx
            obtain ⟨cc, hcc⟩ : ∃ c, c = d.sc[k] := ⟨_, rfl⟩
            rw [← hcc] at x3' d1 hgt
            obtain ⟨ch, hch⟩ : ∃ c, c = cf hh := ⟨_, rfl⟩
            rw [← hch] at hc0 d1 hgt
            subst x3
            clear hcc hch
            go_wp2
            go_quiet (fail)
            go_wp2
            go_roundw
            case rel => exact ⟨k + 1, by omega, by go_num, hX.out _⟩
            case measure => simp [intOf]; omega
        · have : k = d.sh.length := by omega
          subst this
          rw [← d.S_length, List.take_length] at hown
          have hme := HP.out.me1
          have hfr : fm ≠ 4 → frm = (frm.toNat : Int) ∧ frm.toNat < d.hs.length := fun e => by have := HP.out.p1 e; omega
          have ok := pok HP.out hS.out HW.out
          have RW : Hid (∀ W, Below wr.heap.size wr W → Rd W (.slice (some ⟨gw, 0, none⟩) d.hs.length d.hs.length) (cnts d.hs.length (mxF (cntM (holdP d.P)) (d.S.map fun x => (x.h, x.c))))) := fun W hW => by
            have := own_grow hown hW
            refine Rd.own (lo := w.heap.size) (e := 37) ?_
            rw [cnts_length]; exact this
          have hM9 : Hid (∀ W, Below w.heap.size w W → Calls Try.prog 9 #[.slice a1 d.hs.length c1, .int .i64 me, .slice a2 d.ph.length c2, vpc, vpf, vpb] W fun e w' => Built W w' d.hs.length me d.hs (holdP d.P) e) := fun W hW =>
            buildM_any d.hs.length me _ _ _ _ _ d.hs d.pv d.P W n0 n1 (by omega) rfl HW.out.hs HP.out.dis (HA.out W hW).h (pin (HA.out W hW) HP.out) ok
          have hS10 : Hid (∀ W, Below w.heap.size w W → Calls Try.prog 10 #[.int .u8 fm, .int .i64 frm, .slice a8 d.sh.length c8, vsc, vsf, vsb] W fun e w' => SBuilt W w' fm frm d.S e) := fun W hW =>
            buildS_any fm frm _ _ _ _ d.sv d.S W (sin (HA.out W hW) HP.out hS.out)
          have hNZ : Hid (NZ (holdP d.P)) := NZ.hold ok
          have RH : Hid (∀ W, Below w.heap.size w W → Rd W (.slice a1 d.hs.length c1) (strs d.hs)) := fun W hW => (HA.out W hW).h
          have HFR : Hid _ := hfr
          clear hown ok HA hfr
          go_wp2_with fail
          refine (hM9.out wr hbl).mono ?_
          rintro e wa ⟨Bp, Bw, BM, hv, ev, L, rfl, hBp, hBM, hRep, hba⟩
          have HRa : Hid _ := hRep
          clear hRep
          go_wp2_with fail
          refine (hS10.out wa (hbl.trans (hba.mono hbl.size))).mono ?_
          rintro e wb ⟨Bs, rfl, hBs, sv, T, hSR, hTm, hbb⟩
          rw [List.take_length] at hTm
          have hTl : T.length ≤ 1048576 := by
            have := congrArg List.length hTm
            rw [List.length_map, d.S_length] at this
            omega
          have hRb := HRa.out.grow hbb
          have tk := zzTake_any wr.heap.size d.hs.length Bp Bw BM Bs hv ev me d.hs L (holdP d.P) fm frm sv T wb hRb HP.out.dis n1 (by omega) HFR.out hTl (stm hSR hTm HP.out HW.out (fun q hq => HRa.out.c.owlt hq)) hSR.s
          have HTm : Hid _ := hTm
          have HRb : Hid _ := hRb
          clear hSR hTm hRb hTl
          go_wp2_with fail
          refine tk.mono ?_
          rintro e wc ⟨rfl, ev1, L1, hR1, hF1⟩
          have hbc : Below wr.heap.size wr wc := (hba.trans (hbb.mono hba.size)).trans (hF1.below HRb.out.c.low (fun q hq => Ow.ge HRb.out.c hBp hBM hq))
          have HR1 : Hid _ := hR1
          clear tk hR1 hF1 HRb HRa hba hbb hBs
          have hbwc : Below w.heap.size w wc := hbl.trans (hbc.mono hbl.size)
          clear hBp hBM
          go_wp2_with fail
          refine (hM9.out wc hbwc).mono ?_
          rintro e wd ⟨Bp2, Bw2, BM2, hv2, ev2, L2, rfl, hBp2, hBM2, hRep2, hbd⟩
          have HRd : Hid _ := hRep2
          clear hRep2
          go_wp2_with fail
          refine (hS10.out wd (hbwc.trans (hbd.mono hbwc.size))).mono ?_
          rintro e we ⟨Bs2, rfl, hBs2, sv2, T2, hSR2, hTm2, hbe⟩
          rw [List.take_length] at hTm2
          have hTl2 : T2.length ≤ 1048576 := by
            have := congrArg List.length hTm2
            rw [List.length_map, d.S_length] at this
            omega
          have hRe := HRd.out.grow hbe
          have hSt2 := stm hSR2 hTm2 HP.out HW.out (O := Ow Bp2 BM2 ev2 L2) (fun q hq => HRd.out.c.owlt hq)
          have hs57 := hSR2.s
          have hnO : ¬ Ow Bp2 BM2 ev2 L2 Bs2 := fun hq => by have := HRd.out.c.owlt hq; omega
          have tk := zzTake_any wc.heap.size d.hs.length Bp2 Bw2 BM2 Bs2 hv2 ev2 me d.hs L2 (holdP d.P) fm frm sv2 T2 we hRe HP.out.dis n1 (by omega) HFR.out hTl2 hSt2 hs57
          have HTm2 : Hid _ := hTm2
          have HRe : Hid _ := hRe
          have HSt2 : Hid _ := hSt2
          have HS57 : Hid _ := hs57
          clear hSR2 hTm2 hRe hSt2 hs57 HRd
          go_wp2_with fail
          refine tk.mono ?_
          rintro e wf ⟨rfl, ev3, L3, hR3, hF3⟩
          have hbf : Below wc.heap.size wc wf := (hbd.trans (hbe.mono hbd.size)).trans (hF3.below HRe.out.c.low (fun q hq => Ow.ge HRe.out.c hBp2 hBM2 hq))
          have tk2 := zzTake_any wc.heap.size d.hs.length Bp2 Bw2 BM2 Bs2 hv2 ev3 me d.hs L3 (takeS me frm.toNat fm (holdP d.P) T2) fm frm sv2 T2 wf hR3 HP.out.dis n1 (by omega) HFR.out hTl2 (HSt2.out.of hF3) (by rw [hF3.block Bs2 (Array.getElem?_eq_some_iff.1 HS57.out).1 hnO]; exact HS57.out)
          rw [take_twice] at tk2
          have HR3 : Hid _ := hR3
          clear tk hR3 hF3 HRe hbd hbe hnO HSt2 HS57 hBs2 hTl2
          go_wp2_with fail
          refine tk2.mono ?_
          rintro e wg ⟨rfl, ev4, L4, hR4, hF4⟩
          have hbg : Below wc.heap.size wc wg := hbf.trans (hF4.below HR3.out.c.low (fun q hq => Ow.ge HR3.out.c hBp2 hBM2 hq))
          have hTT : takeS me frm.toNat fm (holdP d.P) T2 = takeS me frm.toNat fm (holdP d.P) T := by
            refine takeS_in me frm.toNat fm (holdP d.P) T2 T ?_
            have := congrArg (List.map fun s : SI => (s.h, s.c, s.f, s.bs)) (HTm2.out.trans HTm.out.symm)
            rw [List.map_map, List.map_map] at this
            exact this
          rw [hTT] at hR4
          have hcn : mxF (cntM (holdP d.P)) (d.S.map fun x => (x.h, x.c)) = cntM (takeS me frm.toNat fm (holdP d.P) T) := by
            rw [cnt_take, ← HTm.out, List.map_map]
            rfl
          rw [hcn] at RW
          have hnz : NZ (takeS me frm.toNat fm (holdP d.P) T) := hNZ.out.take me frm.toNat fm T
          have hR1g := HR1.out.grow hbg
          have hbrg : Below wr.heap.size wr wg := hbc.trans (hbg.mono hbc.size)
          have hbwg : Below w.heap.size w wg := hbl.trans (hbrg.mono hbl.size)
          have k14 := counts_any _ _ _ _ _ _ _ _ _ _ _ (.slice a1 d.hs.length c1) _ wg hR1g hnz n0 n1 (RH.out wg hbwg) (RW.out wg hbrg)
          have K15 : Hid (∀ W, Below wg.heap.size wg W → Calls Try.prog 15 #[.pointer (some ⟨Bp, 0, none⟩), .pointer (some ⟨Bp2, 0, none⟩), .slice a1 d.hs.length c1] W fun e w' => e = .returned (.bool true) ∧ Below W.heap.size W w') := fun W hW =>
            same_any d.hs.length d.hs _ _ W _ _ _ _ _ _ _ _ (hR1g.grow hW) _ _ _ _ _ _ _ _ (hR4.grow hW) hnz n0 n1 ((RH.out wg hbwg).grow hW)
          clear tk2 hR4 hF4 HR3 hBp2 hBM2 hbf hTT hcn hnz hR1g RW RH HR1 hM9 hS10 HP HW hS hNZ HTm HTm2 HFR
          go_wp2_with fail
          refine k14.mono ?_
          rintro e wh ⟨rfl, hbh⟩
          clear k14
          go_wp2_with fail
          refine (K15.out wh hbh).mono ?_
          rintro e wi ⟨rfl, hbi⟩
          clear K15
          go_wp2
          go_ret
          have hbh' := hbwg.trans (hbh.mono hbwg.size)
          exact ⟨rfl, hbh'.trans (hbi.mono hbh'.size)⟩
end Go.Proofs.Qxb6614657a
