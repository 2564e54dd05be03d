import Derived.Test.Qxb6614903aStand
namespace Go.Proofs.Qxb6614903a
open Go.RowKit
attribute [local go_sem ↓] Go.wp_at_zero Go.wp_at_succ load94S load99S store99S load62S store62S

set_option maxHeartbeats 1000000 in
set_option maxRecDepth 100000 in
theorem stand_walk (z : Zr) (f : Option (List ByteArray)) (ow le : Option ByteArray) (w : World) (hm : z.fl ≤ maxLen) (h : ZC w z f ow le) :
    Calls Try.prog 9 #[.agg z.cells] w fun e w' => e = .returned (.bool true) ∧ Below w.heap.size w w' := by
  have D0 := DD.start w z
  have ld := load94V_at D0.box
  go_enter Try.func9, Try.ntmps9
  go_wp2_with fail
  refine (bytesR_any z f ow le _ hm (D0.zc h)).mono ?_
  rintro e w1 ⟨⟨b, rfl, hb⟩, hb1⟩
  have D1 := D0.grow hb1
  clear ld hb1 D0
  cases b
  · go_wp2
    go_ret
    exact ⟨rfl, D1.bel⟩
  have hl := hb rfl
  clear hb
  have ld := load94V_at D1.box
  go_wp2_with fail
  refine (over_any z f ow le _ hl (D1.zc h)).mono ?_
  rintro e w2 ⟨⟨b, rfl⟩, hb2⟩
  have D2 := D1.grow hb2
  clear ld hb2 D1
  cases b
  · have ld := load94V_at D2.box
    go_wp2_with fail
    refine (build_any z f ow le _ hl (D2.zc h)).mono ?_
    rintro e w3 ⟨t, rfl, ht, T, hb3⟩
    have D3 := (D2.grow hb3).grow (putT_below w3 t)
    have sh := shape_of T ((D2.grow hb3).zc h)
    have T3 := T.up (putT_below w3 t) (Nat.le_refl _) (Nat.le_refl _) (Nat.le_refl _)
    have lv3 := putT_size w3 t
    have v3 := putT_at w3 t
    have sv := putT_run w3 t
    have le1 := D2.lt
    have le2 := hb3.size
    have lr := load99V_at v3
    clear ld D2 hb3 T
    go_wp2_with fail
    clear sv lr
    generalize putT w3 t = w4 at *
    generalize w3.heap.size = Br at *
    refine (clone_any t _ _ _ _ (by omega) T3).mono ?_
    rintro e w5 ⟨m1, rfl, hm1, T5, hb5⟩
    have D5 := (D3.grow hb5).grow (putT_below w5 m1)
    have q1 := T3.up (hb5.trans ((putT_below w5 m1).mono hb5.size)) (by omega) (Nat.le_refl _) (Nat.le_refl _)
    have r1 := rangeAt_below (hb5.trans ((putT_below w5 m1).mono hb5.size)) (by omega) v3
    have q2 := T5.up (putT_below w5 m1) (Nat.le_refl _) (Nat.le_refl _) (Nat.le_refl _)
    have lv5 := putT_size w5 m1
    have v5 := putT_at w5 m1
    have sv := putT_run w5 m1
    have le3 := hb5.size
    have lr := load99V_at v5
    clear D3 hb5 T3 T5 v3
    go_wp2_with fail
    clear sv lr
    generalize putT w5 m1 = w6 at *
    generalize w5.heap.size = B1 at *
    refine (clone_any m1 _ _ _ _ (by omega) q2).mono ?_
    rintro e w7 ⟨m2, rfl, hm2, T7, hb7⟩
    have LA0 : LA w (putT w7 m2) z t m1 m2 ⟨f, ⟨ow, t0 z.hx, t0 z.hn, le⟩⟩ w2.heap.size Br B1 w7.heap.size := by
      have hb := hb7.trans ((putT_below w7 m2).mono hb7.size)
      have l7 := hb7.size
      have l8 := putT_size w7 m2
      refine ⟨(D5.grow hb7).grow (putT_below w7 m2), by omega, by omega, by omega, by omega, by omega, rangeAt_below hb (by omega) r1, rangeAt_below hb (by omega) v5, putT_at w7 m2, q1.up hb (by omega) (Nat.le_refl _) (Nat.le_refl _), ?_, ?_⟩
      · exact q2.up hb (by omega) (by omega) (by omega)
      · exact T7.up (putT_below w7 m2) (Nat.le_refl _) (by omega) (by omega)
    have sv := putT_run w7 m2
    have hm3 : m2.of z := by
      obtain ⟨a1, a2, a3, a4, a5, a6, a7, a8, a9⟩ := ht
      obtain ⟨b1, b2, b3, b4, b5, b6, b7, b8, b9⟩ := hm1
      obtain ⟨d1, d2, d3, d4, d5, d6, d7, d8, d9⟩ := hm2
      exact ⟨(d1.trans b1).trans a1, (d2.trans b2).trans a2, (d3.trans b3).trans a3, (d4.trans b4).trans a4, (d5.trans b5).trans a5, (d6.trans b6).trans a6, (d7.trans b7).trans a7, (d8.trans b8).trans a8, (d9.trans b9).trans a9⟩
    clear D5 hb7 T7 q1 q2 r1 v5 ht hm1 hm2 lv3 lv5 le1 le2 le3
    go_wp2_with fail
    clear sv
    generalize putT w7 m2 = w8 at *
    generalize w7.heap.size = B2 at *
    have sh1 := shape_of LA0.c1 (LA0.d.zc h)
    refine (addT 1 (.inl rfl) _).mono ?_
    rintro e w9 ⟨rfl, hb9⟩
    have LA1 := (LA0.grow hb9).grow (putU_below w9 (1, 0))
    have x1 := putU_at w9 (1, 0)
    have sv := putU_run w9 (1, 0)
    have le1 := hb9.size
    have le2 := LA0.l4
    have le3 := putU_size w9 (1, 0)
    clear hb9 LA0
    go_wp2_with fail
    clear sv
    generalize putU w9 (1, 0) = w10 at *
    have le4 : B2 < w9.heap.size := by omega
    generalize w9.heap.size = X1 at *
    refine (addT 2 (.inr rfl) _).mono ?_
    rintro e w11 ⟨rfl, hb11⟩
    have LA2 := (LA1.grow hb11).grow (putU_below w11 (2, 0))
    have x1' := rangeAt_below (hb11.trans ((putU_below w11 (2, 0)).mono hb11.size)) (by omega) x1
    have x2 := putU_at w11 (2, 0)
    have sv := putU_run w11 (2, 0)
    have le5 := hb11.size
    have le6 := putU_size w11 (2, 0)
    have lu := load62V_at x1'
    clear hb11 LA1 x1
    go_wp2_with fail
    clear sv lu
    generalize putU w11 (2, 0) = w12 at *
    have le7 : X1 < w11.heap.size := by omega
    have le8 : w11.heap.size < w12.heap.size := by omega
    generalize w11.heap.size = X2 at *
    clear le1 le2 le3 le5 le6
    refine (scribble_any Br w2.heap.size Br t _ (1, 0) ⟨#[122, 122, 45, 111, 114, 105, 103, 105, 110, 97, 108]⟩ _ (Nat.le_refl _) (by have := LA2.l2; have := LA2.l3; have := LA2.l4; omega) LA2.cr.f.few LA2.vr LA2.cr).mono ?_
    rintro e w13 ⟨rfl, s1⟩
    have q1 := LA2.c1.keep s1.kp (.inr (by omega)) (by have := LA2.l3; have := LA2.l4; omega)
    have v1 := s1.kp.range (by have := LA2.l3; have := LA2.l4; omega) (.inr (by have := LA2.l2; omega)) LA2.v1
    have y2 := s1.kp.range (by omega) (.inr (by have := LA2.l2; have := LA2.l3; omega)) x2
    have hs := s1.kp.size
    have lu := load62V_at y2
    clear y2
    go_wp2_with fail
    clear lu
    refine (scribble_any B1 (Br + 1) B1 m1 _ (2, 0) ⟨#[122, 122, 45, 99, 108, 111, 110, 101]⟩ _ (Nat.le_refl _) (by have := LA2.l3; have := LA2.l4; omega) LA2.c1.f.few v1 q1).mono ?_
    rintro e w14 ⟨rfl, s2⟩
    have L := lb_of LA2 le4 le7 le8 x1' x2 s1 s2
    clear s1 s2 q1 v1 hs LA2 x1' x2 le4 le7 le8
    have ld := load94V_at L.d.box
    have lr := load99V_at L.v2
    go_wp2_with fail
    refine (reads_any _ _ m2 z f ow le _ (by omega) hm3 L.c2 (L.d.zc h)).mono ?_
    rintro e w15 ⟨rfl, hb15⟩
    have L1 := L.grow hb15
    clear ld lr L hb15
    have ld := load94V_at L1.d.box
    have lr := load99V_at L1.vr
    have lu := load62V_at L1.x1
    go_wp2_with fail
    refine (scribbled_any _ _ t z (1, 0) _ _ (by have := sh.fl; omega) sh L1.kr.f L1.kr.ow L1.kr.le L1.kr.ex L1.kr.nt).mono ?_
    rintro e w16 ⟨rfl, hb16⟩
    have L2 := L1.grow hb16
    clear ld lr lu L1 hb16
    have ld := load94V_at L2.d.box
    have lr := load99V_at L2.v1
    have lu := load62V_at L2.x2
    go_wp2_with fail
    refine (scribbled_any _ _ m1 z (2, 0) _ _ (by have := sh1.fl; omega) sh1 L2.k1.f L2.k1.ow L2.k1.le L2.k1.ex L2.k1.nt).mono ?_
    rintro e w17 ⟨rfl, hb17⟩
    have L3 := L2.grow hb17
    clear ld lr lu L2 hb17
    go_wp2
    go_ret
    exact ⟨rfl, L3.d.bel⟩
  · go_wp2
    go_ret
    exact ⟨rfl, D2.bel⟩
end Go.Proofs.Qxb6614903a
