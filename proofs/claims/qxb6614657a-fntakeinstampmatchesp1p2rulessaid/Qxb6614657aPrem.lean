import Derived.Test.Qxb6614657aInR
namespace Go.Proofs.Qxb6614657a
open Go.RowKit

/-- What the law asks of its input. -/
structure Prem (d : Ad) (me frm : Int) (fm : Nat) : Prop where
  n0 : 1 ≤ d.hs.length
  n1 : d.hs.length ≤ 4096
  dis : Distinct d.hs
  me0 : 0 ≤ me
  me1 : me < d.hs.length
  lc : d.pc.length = d.ph.length
  lf : d.pf.length = d.ph.length
  lb : d.pb.length = d.ph.length
  pr : ∀ i (h1 : i < d.ph.length) (h2 : i < d.pc.length) (h3 : i < d.pf.length) (h4 : i < d.pb.length), 0 ≤ d.ph[i] ∧ d.ph[i] < d.hs.length ∧ d.pc[i] ≠ 0 ∧ InRange d.pf[i] d.pb[i] d.hs.length ∧ bitAt d.pf[i].toNat d.pb[i] me.toNat = true
  ord : ∀ i (h1 : i < d.ph.length) (h2 : i + 1 < d.ph.length), d.ph[i] < d.ph[i + 1]
  sc : d.sc.length = d.sh.length
  sf : d.sf.length = d.sh.length
  sb : d.sb.length = d.sh.length
  sr : ∀ i (h1 : i < d.sh.length), 0 ≤ d.sh[i] ∧ d.sh[i] < d.hs.length
  p2 : fm = 4 → ∀ i (h3 : i < d.sf.length) (h4 : i < d.sb.length), InRange d.sf[i] d.sb[i] d.hs.length
  p1 : fm ≠ 4 → 0 ≤ frm ∧ frm < d.hs.length
def POkE (d : Ad) (me frm : Int) (fm : Nat) (e : Ending) : Prop := ∃ b, e = .returned (.bool b) ∧ (b = true → Prem d me frm fm)
theorem pok_false (d : Ad) (me frm : Int) (fm : Nat) : POkE d me frm fm (.returned (.bool false)) := ⟨_, rfl, fun h => by cases h⟩
/-- The names ahead of k differ. -/
def Apt (hs : List ByteArray) (k : Nat) : Prop := ∀ p q (hp : p < hs.length) (hq : q < hs.length), p < q → q < k → hs[p] ≠ hs[q]
theorem Apt.all {hs : List ByteArray} (h : Apt hs hs.length) : Distinct hs := fun i j hi hj e => by
  by_cases h1 : i < j
  · exact absurd e (h i j hi hj h1 hj)
  · by_cases h2 : j < i
    · exact absurd e.symm (h j i hj hi h2 hi)
    · omega
theorem Rd.all {w : World} {a : Option Addr} {n c : Nat} {cs : List Value} (h : Rd w (.slice a n c) cs) (hn : 0 < cs.length) : ∃ g o, a = some ⟨g, o, none⟩ ∧ ∀ j u, cs[j]? = some u → w.cell? ⟨g, o + j, none⟩ = some u := by
  obtain ⟨a', c', e, h2⟩ := h
  simp only [Value.slice.injEq] at e
  obtain ⟨rfl, _, rfl⟩ := e
  obtain ⟨g, o, e, _⟩ := h2 0 _ (List.getElem?_eq_getElem hn)
  refine ⟨g, o, e, fun j u hu => ?_⟩
  obtain ⟨g', o', e', hc⟩ := h2 j u hu
  rw [e] at e'
  simp only [Option.some.injEq, Addr.mk.injEq, and_true] at e'
  obtain ⟨rfl, rfl⟩ := e'
  exact hc

/-- The entries ahead of k are as the law asks. -/
def PrT (d : Ad) (me : Nat) (k : Nat) : Prop :=
  (∀ i (h1 : i < d.ph.length) (h2 : i < d.pc.length) (h3 : i < d.pf.length) (h4 : i < d.pb.length), i < k → 0 ≤ d.ph[i] ∧ d.ph[i] < d.hs.length ∧ d.pc[i] ≠ 0 ∧ InRange d.pf[i] d.pb[i] d.hs.length ∧ bitAt d.pf[i].toNat d.pb[i] me = true) ∧
  (∀ i (h1 : i < d.ph.length) (h2 : i + 1 < d.ph.length), i + 1 < k → d.ph[i] < d.ph[i + 1])
def SrT (d : Ad) (k : Nat) : Prop := ∀ i (h1 : i < d.sh.length), i < k → 0 ≤ d.sh[i] ∧ d.sh[i] < d.hs.length
def SfT (d : Ad) (k : Nat) : Prop := ∀ i (h3 : i < d.sf.length) (h4 : i < d.sb.length), i < k → InRange d.sf[i] d.sb[i] d.hs.length
theorem ints_get (xs : List Int) (j : Nat) (hj : j < xs.length) : (ints xs)[j]? = some (.int .i64 xs[j]) := by simp [ints, hj]
theorem u64s_get (xs : List Nat) (j : Nat) (hj : j < xs.length) : (u64s xs)[j]? = some (.int .u64 (xs[j] : Int)) := by simp [u64s, hj]
theorem drewN_below (w : World) (n : Nat) : Below w.heap.size w (w.drewN n) := below_drewN (Below.refl _ _) n

theorem inRT (first : Int) (n : Nat) (v : Value) (bs : List Nat) (w : World) (hi : InRange first bs n) (h64 : -9223372036854775808 ≤ first ∧ first ≤ 9223372036854775807) (hn : n ≤ 4096) (hlen : bs.length ≤ 1048576) (hr : RB w v bs) :
    Calls Try.prog 16 #[.int .i64 first, v, .int .i64 n] w fun e w' => e = .returned (.bool true) ∧ w' = w := by
  refine (inRange_iff first n v bs w h64 hn hlen hr).mono ?_
  rintro e w' ⟨⟨b, rfl, hb⟩, rfl⟩
  exact ⟨by rw [hb.2 hi], rfl⟩
theorem inRF (first : Int) (n : Nat) (v : Value) (bs : List Nat) (w : World) (hi : ¬ InRange first bs n) (h64 : -9223372036854775808 ≤ first ∧ first ≤ 9223372036854775807) (hn : n ≤ 4096) (hlen : bs.length ≤ 1048576) (hr : RB w v bs) :
    Calls Try.prog 16 #[.int .i64 first, v, .int .i64 n] w fun e w' => e = .returned (.bool false) ∧ w' = w := by
  refine (inRange_iff first n v bs w h64 hn hlen hr).mono ?_
  rintro e w' ⟨⟨b, rfl, hb⟩, rfl⟩
  refine ⟨?_, rfl⟩
  cases b
  · rfl
  · exact absurd (hb.1 rfl) hi
theorem quiet_at {P : Program} {f : Nat} {args : Array Value} {w : World} {n m : Nat} {x : Value} (h : Calls P f args (w.drewN (n + m)) fun e w' => e = .returned x ∧ w' = w.drewN (n + m)) :
    Calls P f args (w.drewN (n + m)) fun e w'' => e = .returned x ∧ ∃ k, w'' = w.drewN (n + k) := h.mono fun _ _ h => ⟨h.1, m, h.2⟩
theorem colHas_is (f l : Nat) (b : Bool) (v : Value) (bs : List Nat) (w : World) (hb : bitAt f bs l = b) (hf : f ≤ 4096) (hl : l ≤ 65536) (hlen : bs.length ≤ 4096) (hr : RB w v bs) :
    Calls Try.prog 17 #[.int .i64 f, v, .int .i64 l] w fun e w' => e = .returned (.bool b) ∧ w' = w := hb ▸ colHas_any f l v bs w hf hl hlen hr

set_option maxRecDepth 100000 in
set_option maxHeartbeats 4000000 in
theorem premise_any (v : Av) (d : Ad) (me frm : Int) (fm : Nat) (w : World) (h : AIn w v d) (hs : Short d) (w64 : (∀ x ∈ d.pf, -9223372036854775808 ≤ x ∧ x ≤ 9223372036854775807) ∧ (∀ x ∈ d.sf, -9223372036854775808 ≤ x ∧ x ≤ 9223372036854775807)) (hfm : fm < 256) :
    Calls Try.prog 7 #[v.h, .int .i64 me, v.ph, v.pc, v.pf, v.pb, .int .u8 fm, .int .i64 frm, v.sh, v.sc, v.sf, v.sb] w fun e w' => POkE d me frm fm e ∧ Below w.heap.size w w' := by
  obtain ⟨h1, h2, h3, h4, h5, h6, h7, h8, h9, h10, h11, h12, h13⟩ := h
  obtain ⟨b1, b2, b3, b4, b5, b6, b7, b8, b9, b10, b11⟩ := hs
  obtain ⟨vh, vph, vpc, vpf, vpb, vsh, vsc, vsf, vsb⟩ := v
  simp only at h1 h2 h3 h4 h5 h8 h9 h10 h11 ⊢
  obtain ⟨a1, c1, e1⟩ := h1.shape
  obtain ⟨a2, c2, e2⟩ := h2.shape
  obtain ⟨a3, c3, e3⟩ := h3.shape
  obtain ⟨a4, c4, e4⟩ := h4.shape
  obtain ⟨a5, c5, e5⟩ := h5.shape
  obtain ⟨a8, c8, e8⟩ := h8.shape
  obtain ⟨a9, c9, e9⟩ := h9.shape
  obtain ⟨a10, c10, e10⟩ := h10.shape
  obtain ⟨a11, c11, e11⟩ := h11.shape
  subst e1 e2 e3 e4 e5 e8 e9 e10 e11
  have l1 : (strs d.hs).length = d.hs.length := strs_length _
  have l2 : (ints d.ph).length = d.ph.length := by simp [ints]
  have l3 : (u64s d.pc).length = d.pc.length := by simp [u64s]
  have l4 : (ints d.pf).length = d.pf.length := by simp [ints]
  have l8 : (ints d.sh).length = d.sh.length := by simp [ints]
  have l9 : (u64s d.sc).length = d.sc.length := by simp [u64s]
  have l10 : (ints d.sf).length = d.sf.length := by simp [ints]
  have A1 : Hid _ := h1
  have A2 : Hid _ := h2
  have A3 : Hid _ := h3
  have A4 : Hid _ := h4
  have A5 : Hid _ := h5
  have A7 : Hid _ := h7
  have A8 : Hid _ := h8
  have A9 : Hid _ := h9
  have A10 : Hid _ := h10
  have A11 : Hid _ := h11
  have A13 : Hid _ := h13
  have W64 : Hid _ := w64
  have P6 : Hid _ := b6
  have P11 : Hid _ := b11
  clear h1 h2 h3 h4 h5 h7 h8 h9 h10 h11 h13 w64 b6 b11
  by_cases hn0 : d.hs.length < 1
  · have d1 : decide ((d.hs.length : Int) < 1) = true := by simp; omega
    go_enter Try.func7, Try.ntmps7
    go_wp2
    go_ret
    exact ⟨pok_false _ _ _ _, Below.refl _ _⟩
  by_cases hn1 : 4096 < d.hs.length
  · have d1 : decide ((d.hs.length : Int) < 1) = false := by simp; omega
    have d2 : decide ((4096 : Int) < (d.hs.length : Int)) = true := by simp; omega
    go_enter Try.func7, Try.ntmps7
    go_wp2
    go_ret
    exact ⟨pok_false _ _ _ _, Below.refl _ _⟩
  have hn0' : 1 ≤ d.hs.length := by omega
  have hn1' : d.hs.length ≤ 4096 := by omega
  clear hn0 hn1
  obtain ⟨g1, o1, rfl, hc1⟩ := Rd.all (w := w) (cs := strs d.hs) A1.out (by rw [l1]; omega)
  have C1 : Hid _ := hc1
  clear hc1
  go_enter Try.func7, Try.ntmps7
  go_wp2_with fail
  go_loopw [26] (fun i wr => ∃ k n : Nat, 1 ≤ k ∧ k ≤ d.hs.length ∧ i = .int .i64 k ∧ w.drewN n = wr ∧ Apt d.hs k) (fun i _ => d.hs.length - (intOf i).toNat)
  case atStart => exact ⟨1, 0, Nat.le_refl _, hn0', rfl, rfl, fun p q _ _ h1 h2 => by omega⟩
  case round =>
    obtain ⟨k, nn, hk0, hk, rfl, rfl, hapt⟩ := hrel
    by_cases hlt : k < d.hs.length
    · go_wp2_with fail
      go_loopw [27] (fun i wr => ∃ j n : Nat, j ≤ k ∧ i = .int .i64 j ∧ w.drewN n = wr ∧ ∀ p (hp : p < d.hs.length), p < j → d.hs[p] ≠ d.hs[k]) (fun i _ => k - (intOf i).toNat)
      case atStart => exact ⟨0, nn, Nat.zero_le _, rfl, rfl, fun p _ h => absurd h (Nat.not_lt_zero _)⟩
      case round =>
        obtain ⟨j, n2, hj, rfl, rfl, hne⟩ := hrel
        by_cases hjk : j < k
        · have x1 := C1.out k _ (strs_get d.hs k hlt)
          have x2 := C1.out j _ (strs_get d.hs j (by omega))
          cases hb : (d.hs[k].toList == d.hs[j].toList)
          · have HX : Hid (∀ p (hp : p < d.hs.length), p < j + 1 → d.hs[p] ≠ d.hs[k]) := fun p hp h => by
              by_cases e : p = j
              · subst e
                intro e'
                rw [e'] at hb
                simp at hb
              · exact hne p hp (by omega)
            clear hne
            obtain ⟨s1, hs1⟩ : ∃ s, s = d.hs[k] := ⟨_, rfl⟩
            obtain ⟨s2, hs2⟩ : ∃ s, s = d.hs[j] := ⟨_, rfl⟩
            rw [← hs1] at x1 hb
            rw [← hs2] at x2 hb
            clear hs1 hs2
            go_wp2
            go_quiet (fail)
            go_wp2
            go_roundw
            case rel => exact ⟨j + 1, n2 + nq, by omega, by go_num, by simp, HX.out⟩
            case measure => simp [intOf]; omega
          · clear hne
            obtain ⟨s1, hs1⟩ : ∃ s, s = d.hs[k] := ⟨_, rfl⟩
            obtain ⟨s2, hs2⟩ : ∃ s, s = d.hs[j] := ⟨_, rfl⟩
            rw [← hs1] at x1 hb
            rw [← hs2] at x2 hb
            clear hs1 hs2
            go_wp2
            go_quiet (fail)
            go_wp2
            go_ret
            exact ⟨pok_false _ _ _ _, below_drewN (below_drewN (Below.refl _ _) _) _⟩
        · have : j = k := by omega
          subst this
          have HX : Hid (Apt d.hs (j + 1)) := fun p q hp hq hpq hqk => by
            by_cases e : q = j
            · subst e; exact hne p hp hpq
            · exact hapt p q hp hq hpq (by omega)
          clear hne hapt
          go_wp2
          go_roundw
          case rel => exact ⟨j + 1, n2, by omega, by omega, by go_num, rfl, HX.out⟩
          case measure => simp [intOf]; omega
    · have : k = d.hs.length := by omega
      subst this
      have HD : Hid (Distinct d.hs) := hapt.all
      clear hapt C1
      by_cases hm0 : me < 0
      · have d1 : decide (me < 0) = true := by simpa using hm0
        go_wp2
        go_ret
        exact ⟨pok_false _ _ _ _, below_drewN (Below.refl _ _) _⟩
      have d1 : decide (me < 0) = false := by simpa using hm0
      by_cases hm1 : (d.hs.length : Int) ≤ me
      · have d2 : decide ((d.hs.length : Int) ≤ me) = true := by simpa using hm1
        go_wp2
        go_ret
        exact ⟨pok_false _ _ _ _, below_drewN (Below.refl _ _) _⟩
      have d2 : decide ((d.hs.length : Int) ≤ me) = false := by simpa using hm1
      obtain ⟨me, rfl⟩ := Int.eq_ofNat_of_zero_le (show 0 ≤ me by omega)
      by_cases hlc : ¬ d.pc.length = d.ph.length
      · have d3 : ((d.pc.length : Int) != (d.ph.length : Int)) = true := by simp; omega
        go_wp2
        go_ret
        exact ⟨pok_false _ _ _ _, below_drewN (Below.refl _ _) _⟩
      by_cases hlf : ¬ d.pf.length = d.ph.length
      · have d3 : ((d.pc.length : Int) != (d.ph.length : Int)) = false := by simp; omega
        have d4 : ((d.pf.length : Int) != (d.ph.length : Int)) = true := by simp; omega
        go_wp2
        go_ret
        exact ⟨pok_false _ _ _ _, below_drewN (Below.refl _ _) _⟩
      by_cases hlb : ¬ d.pb.length = d.ph.length
      · have d3 : ((d.pc.length : Int) != (d.ph.length : Int)) = false := by simp; omega
        have d4 : ((d.pf.length : Int) != (d.ph.length : Int)) = false := by simp; omega
        have d5 : ((d.pv.length : Int) != (d.ph.length : Int)) = true := by simp; omega
        go_wp2
        go_ret
        exact ⟨pok_false _ _ _ _, below_drewN (Below.refl _ _) _⟩
      have hlc := Decidable.not_not.1 hlc
      have hlf := Decidable.not_not.1 hlf
      have hlb := Decidable.not_not.1 hlb
      have d3 : ((d.pc.length : Int) != (d.ph.length : Int)) = false := by simp; omega
      have d4 : ((d.pf.length : Int) != (d.ph.length : Int)) = false := by simp; omega
      have d5 : ((d.pv.length : Int) != (d.ph.length : Int)) = false := by simp; omega
      go_wp2_with fail
      clear d1 d2 d3 d4 d5
      go_loopw [29] (fun i wr => ∃ k n : Nat, k ≤ d.ph.length ∧ i = .int .i64 k ∧ w.drewN n = wr ∧ PrT d me k) (fun i _ => d.ph.length - (intOf i).toNat)
      case atStart => exact ⟨0, nn, Nat.zero_le _, rfl, rfl, fun i _ _ _ _ h => absurd h (Nat.not_lt_zero _), fun i _ _ h => absurd h (Nat.not_lt_zero _)⟩
      case round =>
        obtain ⟨k, n2, hk3, rfl, rfl, hprt⟩ := hrel
        by_cases hlt3 : k < d.ph.length
        · obtain ⟨g2, o2, rfl, z2⟩ := Rd.all (w := w) (cs := ints d.ph) A2.out (by omega)
          obtain ⟨g3, o3, rfl, z3⟩ := Rd.all (w := w) (cs := u64s d.pc) A3.out (by omega)
          obtain ⟨g4, o4, rfl, z4⟩ := Rd.all (w := w) (cs := ints d.pf) A4.out (by omega)
          obtain ⟨g5, o5, rfl, z5⟩ := Rd.all (w := w) (cs := d.pv) A5.out (by omega)
          have x2 := z2 k _ (ints_get d.ph k hlt3)
          have x3 := z3 k _ (u64s_get d.pc k (by omega))
          have x4 := z4 k _ (ints_get d.pf k (by omega))
          have x5 := z5 k _ (List.getElem?_eq_getElem (by omega))
          have hrb : RB (w.drewN n2) d.pv[k] d.pb[k] := RB.grow (A7.out k (by omega) (by omega)) (drewN_below w n2)
          have h64 := W64.out.1 d.pf[k] (List.getElem_mem (by omega))
          have hsm := P6.out k (by omega)
          have Z2 : Hid _ := z2
          clear z2 z3 z4 z5
          by_cases q0 : d.ph[k] < 0
          · have d1 : decide (d.ph[k] < 0) = true := by simpa using q0
            clear hprt hrb
            go_wp2
            go_ret
            exact ⟨pok_false _ _ _ _, below_drewN (Below.refl _ _) _⟩
          have d1 : decide (d.ph[k] < 0) = false := by simpa using q0
          by_cases q1 : (d.hs.length : Int) ≤ d.ph[k]
          · have d2 : decide ((d.hs.length : Int) ≤ d.ph[k]) = true := by simpa using q1
            clear hprt hrb
            go_wp2
            go_ret
            exact ⟨pok_false _ _ _ _, below_drewN (Below.refl _ _) _⟩
          have d2 : decide ((d.hs.length : Int) ≤ d.ph[k]) = false := by simpa using q1
          by_cases hbad : ∃ (i : Nat) (h1 : i < d.ph.length), i + 1 = k ∧ d.ph[k] ≤ d.ph[i]
          · obtain ⟨kp, hkp, rfl, hle⟩ := hbad
            have x2' := Z2.out kp _ (ints_get d.ph kp hkp)
            have d3 : decide (d.ph[kp + 1] ≤ d.ph[kp]) = true := by simpa using hle
            have e1 : (((kp + 1 : Nat)) : Int) - 1 = (kp : Int) := by omega
            clear hprt hrb
            go_wp2
            go_ret
            exact ⟨pok_false _ _ _ _, below_drewN (Below.refl _ _) _⟩
          have hordk : ∀ (i : Nat) (h1 : i < d.ph.length), i + 1 = k → d.ph[i] < d.ph[k] := fun i h1 e => by
            by_cases h : d.ph[k] ≤ d.ph[i]
            · exact absurd ⟨i, h1, e, h⟩ hbad
            · omega
          clear hbad
          go_upto_region 23 with fail
          go_cut [112] from 102 to 112 (fun v wx => v = .bool false ∧ w.drewN n2 = wx)
          case first => as_aux_lemma =>
            rcases Nat.eq_zero_or_pos k with hz | hz
            · subst hz
              go_wp2
              go_meet
              exact ⟨rfl, rfl⟩
            · obtain ⟨kp, rfl⟩ : ∃ kp, k = kp + 1 := ⟨k - 1, by omega⟩
              have x2' := Z2.out kp _ (ints_get d.ph kp (by omega))
              have hl := hordk kp (by omega) rfl
              have d3 : decide (d.ph[kp + 1] ≤ d.ph[kp]) = false := by simp; omega
              have e1 : (((kp + 1 : Nat)) : Int) - 1 = (kp : Int) := by omega
              go_wp2
              go_meet
              exact ⟨rfl, rfl⟩
          case rest =>
          obtain ⟨rfl, rfl⟩ := hcut
          have HR : Hid (∀ W, Below w.heap.size w W → RB W d.pv[k] d.pb[k]) := fun W hW => RB.grow (A7.out k (by omega) (by omega)) hW
          have HP : Hid _ := hprt
          have HO : Hid _ := hordk
          clear hprt hordk hrb d1 d2
          by_cases q2 : d.pc[k] = 0
          · have d4 : ((d.pc[k] : Int) == 0) = true := by simp; omega
            go_wp2
            go_ret
            exact ⟨pok_false _ _ _ _, below_drewN (Below.refl _ _) _⟩
          have d4 : ((d.pc[k] : Int) == 0) = false := by simp; omega
          by_cases q3 : ¬ InRange d.pf[k] d.pb[k] d.hs.length
          · have HQ : Hid _ := q3
            clear q3
            go_wp2
            go_quiet (first | (go_at_call 16; exact quiet_at (inRF _ _ _ _ _ HQ.out h64 hn1' hsm (HR.out _ (drewN_below _ _)))))
            go_wp2
            go_ret
            exact ⟨pok_false _ _ _ _, below_drewN (below_drewN (Below.refl _ _) _) _⟩
          have q3 := Classical.not_not.1 q3
          obtain ⟨f, hf, hfl, hfb⟩ := q3
          have HQ : Hid (InRange d.pf[k] d.pb[k] d.hs.length) := ⟨f, hf, hfl, hfb⟩
          have hf4 : f ≤ 4096 := by omega
          have hl4 : d.pb[k].length ≤ 4096 := by omega
          have hft : d.pf[k].toNat = f := by omega
          rw [hf] at x4 HQ h64
          clear hfb hfl
          by_cases q4 : bitAt f d.pb[k] me = true
          · have HX : Hid (PrT d me (k + 1)) := by
              refine ⟨fun i h1 h2 h3 h4 hi => ?_, fun i h1 h2 hi => ?_⟩
              · by_cases e : i = k
                · subst e
                  refine ⟨by omega, by omega, q2, hf ▸ HQ.out, by rw [hft]; exact q4⟩
                · exact HP.out.1 i h1 h2 h3 h4 (by omega)
              · by_cases e : i + 1 = k
                · subst e; exact HO.out i h1 rfl
                · exact HP.out.2 i h1 h2 (by omega)
            have H4 : Hid _ := q4
            clear q4 hf hft HP HO Z2
            go_wp2
            go_quiet (first | (go_at_call 16; exact quiet_at (inRT _ _ _ _ _ HQ.out h64 hn1' hsm (HR.out _ (drewN_below _ _)))) | (go_at_call 17; exact quiet_at (colHas_is _ _ true _ _ _ H4.out hf4 (by omega) hl4 (HR.out _ (drewN_below _ _)))))
            go_wp2
            go_roundw
            case rel => exact ⟨k + 1, n2 + nq, by omega, by go_num, by simp, HX.out⟩
            case measure => simp [intOf]; omega
          · have q4' : bitAt f d.pb[k] me = false := by simpa using q4
            have H4 : Hid _ := q4'
            clear q4 q4' hf hft HP HO Z2
            go_wp2
            go_quiet (first | (go_at_call 16; exact quiet_at (inRT _ _ _ _ _ HQ.out h64 hn1' hsm (HR.out _ (drewN_below _ _)))) | (go_at_call 17; exact quiet_at (colHas_is _ _ false _ _ _ H4.out hf4 (by omega) hl4 (HR.out _ (drewN_below _ _)))))
            go_wp2
            go_ret
            exact ⟨pok_false _ _ _ _, below_drewN (below_drewN (Below.refl _ _) _) _⟩
        · have : k = d.ph.length := by omega
          subst this
          have HP : Hid _ := hprt
          clear hprt
          by_cases hlc2 : ¬ d.sc.length = d.sh.length
          · have d3 : ((d.sc.length : Int) != (d.sh.length : Int)) = true := by simp; omega
            go_wp2
            go_ret
            exact ⟨pok_false _ _ _ _, below_drewN (Below.refl _ _) _⟩
          by_cases hlf2 : ¬ d.sf.length = d.sh.length
          · have d3 : ((d.sc.length : Int) != (d.sh.length : Int)) = false := by simp; omega
            have d4 : ((d.sf.length : Int) != (d.sh.length : Int)) = true := by simp; omega
            go_wp2
            go_ret
            exact ⟨pok_false _ _ _ _, below_drewN (Below.refl _ _) _⟩
          by_cases hlb2 : ¬ d.sb.length = d.sh.length
          · have d3 : ((d.sc.length : Int) != (d.sh.length : Int)) = false := by simp; omega
            have d4 : ((d.sf.length : Int) != (d.sh.length : Int)) = false := by simp; omega
            have d5 : ((d.sv.length : Int) != (d.sh.length : Int)) = true := by simp; omega
            go_wp2
            go_ret
            exact ⟨pok_false _ _ _ _, below_drewN (Below.refl _ _) _⟩
          have hlc2 := Decidable.not_not.1 hlc2
          have hlf2 := Decidable.not_not.1 hlf2
          have hlb2 := Decidable.not_not.1 hlb2
          have d3 : ((d.sc.length : Int) != (d.sh.length : Int)) = false := by simp; omega
          have d4 : ((d.sf.length : Int) != (d.sh.length : Int)) = false := by simp; omega
          have d5 : ((d.sv.length : Int) != (d.sh.length : Int)) = false := by simp; omega
          go_wp2_with fail
          clear d3 d4 d5
          go_loopw [32] (fun i wr => ∃ k n : Nat, k ≤ d.sh.length ∧ i = .int .i64 k ∧ w.drewN n = wr ∧ SrT d k) (fun i _ => d.sh.length - (intOf i).toNat)
          case atStart => exact ⟨0, n2, Nat.zero_le _, rfl, rfl, fun i _ h => absurd h (Nat.not_lt_zero _)⟩
          case round =>
            obtain ⟨k, n3, hk4, rfl, rfl, hsrt⟩ := hrel
            have HS : Hid _ := hsrt
            clear hsrt
            by_cases hlt4 : k < d.sh.length
            · obtain ⟨g8, o8, rfl, z8⟩ := Rd.all (w := w) (cs := ints d.sh) A8.out (by omega)
              have x8 := z8 k _ (ints_get d.sh k hlt4)
              clear z8
              by_cases q0 : d.sh[k] < 0
              · have d1 : decide (d.sh[k] < 0) = true := by simpa using q0
                go_wp2
                go_ret
                exact ⟨pok_false _ _ _ _, below_drewN (Below.refl _ _) _⟩
              have d1 : decide (d.sh[k] < 0) = false := by simpa using q0
              by_cases q1 : (d.hs.length : Int) ≤ d.sh[k]
              · have d2 : decide ((d.hs.length : Int) ≤ d.sh[k]) = true := by simpa using q1
                go_wp2
                go_ret
                exact ⟨pok_false _ _ _ _, below_drewN (Below.refl _ _) _⟩
              have d2 : decide ((d.hs.length : Int) ≤ d.sh[k]) = false := by simpa using q1
              have HX : Hid (SrT d (k + 1)) := fun i h1 hi => by
                by_cases e : i = k
                · subst e; exact ⟨by omega, by omega⟩
                · exact HS.out i h1 (by omega)
              go_wp2
              go_roundw
              case rel => exact ⟨k + 1, n3, by omega, by go_num, rfl, HX.out⟩
              case measure => simp [intOf]; omega
            · have : k = d.sh.length := by omega
              subst this
              by_cases hfour : fm = 4
              · subst hfour
                go_wp2_with fail
                go_loopw [33] (fun i wr => ∃ k n : Nat, k ≤ d.sh.length ∧ i = .int .i64 k ∧ w.drewN n = wr ∧ SfT d k) (fun i _ => d.sh.length - (intOf i).toNat)
                case atStart => exact ⟨0, n3, Nat.zero_le _, rfl, rfl, fun i _ _ h => absurd h (Nat.not_lt_zero _)⟩
                case round =>
                  obtain ⟨k, n4, hk5, rfl, rfl, hsft⟩ := hrel
                  have HF : Hid _ := hsft
                  clear hsft
                  by_cases hlt5 : k < d.sh.length
                  · obtain ⟨g10, o10, rfl, z10⟩ := Rd.all (w := w) (cs := ints d.sf) A10.out (by omega)
                    obtain ⟨g11, o11, rfl, z11⟩ := Rd.all (w := w) (cs := d.sv) A11.out (by omega)
                    have x10 := z10 k _ (ints_get d.sf k (by omega))
                    have x11 := z11 k _ (List.getElem?_eq_getElem (by omega))
                    have HR : Hid (∀ W, Below w.heap.size w W → RB W d.sv[k] d.sb[k]) := fun W hW => RB.grow (A13.out k (by omega) (by omega)) hW
                    have h64 := W64.out.2 d.sf[k] (List.getElem_mem (by omega))
                    have hsm := P11.out k (by omega)
                    clear z10 z11
                    by_cases q3 : InRange d.sf[k] d.sb[k] d.hs.length
                    · have HQ : Hid _ := q3
                      have HX : Hid (SfT d (k + 1)) := fun i h1 h2 hi => by
                        by_cases e : i = k
                        · subst e; exact q3
                        · exact HF.out i h1 h2 (by omega)
                      clear q3
                      go_wp2
                      go_quiet (first | (go_at_call 16; exact quiet_at (inRT _ _ _ _ _ HQ.out h64 hn1' hsm (HR.out _ (drewN_below _ _)))))
                      go_wp2
                      go_roundw
                      case rel => exact ⟨k + 1, n4 + nq, by omega, by go_num, by simp, HX.out⟩
                      case measure => simp [intOf]; omega
                    · have HQ : Hid _ := q3
                      clear q3
                      go_wp2
                      go_quiet (first | (go_at_call 16; exact quiet_at (inRF _ _ _ _ _ HQ.out h64 hn1' hsm (HR.out _ (drewN_below _ _)))))
                      go_wp2
                      go_ret
                      exact ⟨pok_false _ _ _ _, below_drewN (below_drewN (Below.refl _ _) _) _⟩
                  · have : k = d.sh.length := by omega
                    subst this
                    go_wp2
                    go_ret
                    refine ⟨⟨_, rfl, fun _ => ⟨hn0', hn1', HD.out, by omega, by omega, hlc, hlf, hlb, fun i h1 h2 h3 h4 => HP.out.1 i h1 h2 h3 h4 h1, fun i h1 h2 => HP.out.2 i h1 h2 h2, hlc2, hlf2, hlb2, fun i h1 => HS.out i h1 h1, fun _ i h3 h4 => HF.out i h3 h4 (by omega), fun h => absurd rfl h⟩⟩, below_drewN (Below.refl _ _) _⟩
              · have d1 : ((fm : Int) == 4) = false := by simp; omega
                by_cases q0 : frm < 0
                · have d2 : decide (frm < 0) = true := by simpa using q0
                  go_wp2
                  go_ret
                  exact ⟨pok_false _ _ _ _, below_drewN (Below.refl _ _) _⟩
                have d2 : decide (frm < 0) = false := by simpa using q0
                by_cases q1 : (d.hs.length : Int) ≤ frm
                · have d3 : decide ((d.hs.length : Int) ≤ frm) = true := by simpa using q1
                  go_wp2
                  go_ret
                  exact ⟨pok_false _ _ _ _, below_drewN (Below.refl _ _) _⟩
                have d3 : decide ((d.hs.length : Int) ≤ frm) = false := by simpa using q1
                go_wp2
                go_ret
                refine ⟨⟨_, rfl, fun _ => ⟨hn0', hn1', HD.out, by omega, by omega, hlc, hlf, hlb, fun i h1 h2 h3 h4 => HP.out.1 i h1 h2 h3 h4 h1, fun i h1 h2 => HP.out.2 i h1 h2 h2, hlc2, hlf2, hlb2, fun i h1 => HS.out i h1 h1, fun h => absurd h hfour, fun _ => ⟨by omega, by omega⟩⟩⟩, below_drewN (Below.refl _ _) _⟩
end Go.Proofs.Qxb6614657a
