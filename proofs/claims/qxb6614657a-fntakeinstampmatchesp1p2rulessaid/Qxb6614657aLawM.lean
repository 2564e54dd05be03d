import Derived.Test.Qxb6614657aModelW
import Derived.Test.Qxb6614657aAgrees
namespace Go.Proofs.Qxb6614657a
open Go.RowKit

set_option maxRecDepth 100000 in
set_option maxHeartbeats 2000000 in
theorem match_any (v : Av) (d : Ad) (me frm : Int) (fm : Nat) (w : World) (h : AIn w v d) (wd : Wide d) (hfm : fm < 256) :
    Calls Try.prog 3 #[v.h, .int .i64 me, v.ph, v.pc, v.pf, v.pb, .int .u8 fm, .int .i64 frm, v.sh, v.sc, v.sf, v.sb] w fun e w' => e = .returned (.bool true) ∧ Below w.heap.size w w' := by
  have HA : Hid (∀ W, Below w.heap.size w W → AIn W v d) := fun W hW => h.grow hW
  have c13 := bytes5_any v d me frm fm w h
  have c6 := tooBig_any v d w h
  have c7 : Hid (Short d → _) := fun s => premise_any v d me frm fm w h s ⟨wd.pf, wd.sf⟩ hfm
  obtain ⟨a1, c1, e1⟩ := h.h.shape
  obtain ⟨a2, c2, e2⟩ := h.ph.shape
  obtain ⟨a8, c8, e8⟩ := h.sh.shape
  rw [strs_length] at e1
  rw [show (ints d.ph).length = d.ph.length by simp [ints]] at e2
  rw [show (ints d.sh).length = d.sh.length by simp [ints]] at e8
  obtain ⟨vh, vph, vpc, vpf, vpb, vsh, vsc, vsf, vsb⟩ := v
  simp only at e1 e2 e8 c13 c6 c7 ⊢
  subst e1 e2 e8
  have HW : Hid _ := wd
  clear h wd
  go_enter Try.func3, Try.ntmps3
  go_wp2_with fail
  refine c13.mono ?_
  rintro e w' ⟨⟨b, rfl, hb⟩, hw⟩
  subst w'
  clear c13
  cases b
  · clear c6 hb
    go_wp2
    go_ret
    exact ⟨rfl, Below.refl _ _⟩
  have hs := hb rfl
  clear hb
  go_wp2_with fail
  refine (c6 hs).mono ?_
  rintro e w' ⟨⟨b, rfl⟩, hw⟩
  subst w'
  clear c6
  cases b
  rotate_left
  · go_wp2
    go_ret
    exact ⟨rfl, Below.refl _ _⟩
  go_wp2_with fail
  refine (c7.out hs).mono ?_
  rintro e w1 ⟨⟨b, rfl, hp⟩, hbl⟩
  cases b
  · clear hp
    go_wp2
    go_ret
    exact ⟨rfl, hbl⟩
  have hp := hp rfl
  clear c7
  obtain ⟨me, rfl⟩ := Int.eq_ofNat_of_zero_le hp.me0
  have HP : Hid _ := hp
  have hS : Hid _ := hs
  have n0 := hp.n0
  have n1 := hp.n1
  clear hp hs
  have hme := HP.out.me1
  have hfr : fm ≠ 4 → frm = (frm.toNat : Int) ∧ frm.toNat < d.hs.length := fun e => by have := HP.out.p1 e; omega
  have ok := pok HP.out hS.out HW.out
  have k8 := model_any d.hs.length me frm fm _ _ _ _ _ _ _ _ d.pv d.sv d.P d.S w1 n0 n1 (by omega) (pin (HA.out w1 hbl) HP.out) ok (sin (HA.out w1 hbl) HP.out hS.out)
    (fun x hx => by
      obtain ⟨i, h1, h2, h3, h4, rfl⟩ := S_all HP.out hx
      have := HP.out.sr i h1
      show d.sh[i].toNat < _
      omega)
    (fun e x hx => by
      obtain ⟨i, h1, h2, h3, h4, rfl⟩ := S_all HP.out hx
      exact HP.out.p2 e i h3 h4)
    (fun e => by have := HP.out.p1 e; omega) hfm
  go_wp2_with fail
  refine k8.mono ?_
  rintro e wr ⟨ge, gs, X, rfl, hec, htab, hbm⟩
  have hbl := hbl.trans (hbm.mono hbl.size)
  have RW : Hid (∀ W, Below wr.heap.size wr W → W.ownsRow w1.heap.size 37 1 (.slice (some ⟨ge, 0, none⟩) d.hs.length d.hs.length) d.hs.length (cnts d.hs.length (cntM (modT fm me frm.toNat (holdP d.P) d.S))) ∧ Tab W w1.heap.size d.hs.length gs X (modT fm me frm.toNat (holdP d.P) d.S)) := fun W hW => ⟨own_grow hec hW, htab.grow hW⟩
  have hM9 : Hid (∀ W, Below w.heap.size w W → Calls Try.prog 9 #[.slice a1 d.hs.length c1, .int .i64 me, .slice a2 d.ph.length c2, vpc, vpf, vpb] W fun e w' => Built W w' d.hs.length me d.hs (holdP d.P) e) := fun W hW =>
    buildM_any d.hs.length me _ _ _ _ _ d.hs d.pv d.P W n0 n1 (by omega) rfl HW.out.hs HP.out.dis (HA.out W hW).h (pin (HA.out W hW) HP.out) ok
  have hS10 : Hid (∀ W, Below w.heap.size w W → Calls Try.prog 10 #[.int .u8 fm, .int .i64 frm, .slice a8 d.sh.length c8, vsc, vsf, vsb] W fun e w' => SBuilt W w' fm frm d.S e) := fun W hW =>
    buildS_any fm frm _ _ _ _ d.sv d.S W (sin (HA.out W hW) HP.out hS.out)
  have hNZ : Hid (NZ (holdP d.P)) := NZ.hold ok
  have RH : Hid (∀ W, Below w.heap.size w W → Rd W (.slice a1 d.hs.length c1) (strs d.hs)) := fun W hW => (HA.out W hW).h
  have HFR : Hid _ := hfr
  clear hec htab ok HA hfr k8 hbm
  go_wp2_with fail
  refine (hM9.out wr hbl).mono ?_
  rintro e wa ⟨Bp, Bw, BM, hv, ev, L, rfl, hBp, hBM, hRep, hba⟩
  have HRa : Hid _ := hRep
  clear hRep
  go_wp2_with fail
  refine (hS10.out wa (hbl.trans (hba.mono hbl.size))).mono ?_
  rintro e wb ⟨Bs, rfl, hBs, sv, T, hSR, hTm, hbb⟩
  rw [List.take_length] at hTm
  have hTl : T.length ≤ 1048576 := by
    have := congrArg List.length hTm
    rw [List.length_map, d.S_length] at this
    have := hS.out.sh
    omega
  have hRb := HRa.out.grow hbb
  have tk := zzTake_any wr.heap.size d.hs.length Bp Bw BM Bs hv ev me d.hs L (holdP d.P) fm frm sv T wb hRb HP.out.dis n1 (by omega) HFR.out hTl (stm hSR hTm HP.out HW.out (fun q hq => HRa.out.c.owlt hq)) hSR.s
  have HTm : Hid _ := hTm
  have HRb : Hid _ := hRb
  clear hSR hTm hRb hTl
  go_wp2_with fail
  refine tk.mono ?_
  rintro e wc ⟨rfl, ev1, L1, hR1, hF1⟩
  have hbc : Below wr.heap.size wr wc := (hba.trans (hbb.mono hba.size)).trans (hF1.below HRb.out.c.low (fun q hq => Ow.ge HRb.out.c hBp hBM hq))
  have hbwc : Below w.heap.size w wc := hbl.trans (hbc.mono hbl.size)
  have hnz : NZ (takeS me frm.toNat fm (holdP d.P) T) := hNZ.out.take me frm.toNat fm T
  have hTT : takeS me frm.toNat fm (holdP d.P) T = modT fm me frm.toNat (holdP d.P) d.S := by rw [take_model, HTm.out]
  rw [hTT] at hR1 hnz
  obtain ⟨q1, q2⟩ := RW.out wc hbc
  have k12 := agrees_any _ _ _ _ _ _ _ _ _ _ _ (.slice a1 d.hs.length c1) w1.heap.size ge gs X wc hR1 hnz n0 n1 (RH.out wc hbwc) q1 q2
  clear tk hR1 hF1 HRb HRa hba hbb hBs hBp hBM hTT hnz q1 q2 RW RH hM9 hS10 HP HW hS hNZ HTm HFR
  go_wp2_with fail
  refine k12.mono ?_
  rintro e wi ⟨rfl, hbi⟩
  go_wp2
  go_ret
  exact ⟨rfl, hbwc.trans (hbi.mono hbwc.size)⟩
end Go.Proofs.Qxb6614657a
