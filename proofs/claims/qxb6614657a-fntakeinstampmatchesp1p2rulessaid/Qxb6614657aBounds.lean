import Derived.Test.Qxb6614657aBuildS
namespace Go.Proofs.Qxb6614657a
open Go.RowKit

def ints (xs : List Int) : List Value := xs.map (.int .i64)
def u64s (xs : List Nat) : List Value := xs.map fun (x : Nat) => Value.int .u64 (x : Int)
/-- The law's arguments as data. -/
structure Ad where
  hs : List ByteArray
  ph : List Int
  pc : List Nat
  pf : List Int
  pv : List Value
  pb : List (List Nat)
  sh : List Int
  sc : List Nat
  sf : List Int
  sv : List Value
  sb : List (List Nat)
/-- .. and as values. -/
structure Av where
  h : Value
  ph : Value
  pc : Value
  pf : Value
  pb : Value
  sh : Value
  sc : Value
  sf : Value
  sb : Value
structure AIn (w : World) (v : Av) (d : Ad) : Prop where
  h : Rd w v.h (strs d.hs)
  ph : Rd w v.ph (ints d.ph)
  pc : Rd w v.pc (u64s d.pc)
  pf : Rd w v.pf (ints d.pf)
  pb : Rd w v.pb d.pv
  pl : d.pv.length = d.pb.length
  py : ∀ i (hi : i < d.pb.length) (hi' : i < d.pv.length), RB w d.pv[i] d.pb[i]
  sh : Rd w v.sh (ints d.sh)
  sc : Rd w v.sc (u64s d.sc)
  sf : Rd w v.sf (ints d.sf)
  sb : Rd w v.sb d.sv
  sl : d.sv.length = d.sb.length
  sy : ∀ i (hi : i < d.sb.length) (hi' : i < d.sv.length), RB w d.sv[i] d.sb[i]
theorem Rd.shape {w : World} {v : Value} {cs : List Value} (h : Rd w v cs) : ∃ a c, v = .slice a cs.length c := by
  obtain ⟨a, c, e, _⟩ := h
  exact ⟨a, c, e⟩
/-- The answer of zzBytes: where it is true all is short. -/
structure Short (d : Ad) : Prop where
  h : d.hs.length ≤ 1048576
  ph : d.ph.length ≤ 1048576
  pc : d.pc.length ≤ 1048576
  pf : d.pf.length ≤ 1048576
  pb : d.pb.length ≤ 1048576
  px : ∀ i (hi : i < d.pb.length), d.pb[i].length ≤ 1048576
  sh : d.sh.length ≤ 1048576
  sc : d.sc.length ≤ 1048576
  sf : d.sf.length ≤ 1048576
  sb : d.sb.length ≤ 1048576
  sx : ∀ i (hi : i < d.sb.length), d.sb[i].length ≤ 1048576
def BOk (d : Ad) (e : Ending) : Prop := ∃ b, e = .returned (.bool b) ∧ (b = true → Short d)
theorem bok_false (d : Ad) : BOk d (.returned (.bool false)) := ⟨_, rfl, fun h => by cases h⟩
/-- Of the byte slice at k: its value. -/
theorem bytes_at {w : World} {v : Value} {vs : List Value} {bs : List (List Nat)} (h : Rd w v vs) (hl : vs.length = bs.length) (hy : ∀ i (hi : i < bs.length) (hi' : i < vs.length), RB w vs[i] bs[i]) (k : Nat) (hk : k < bs.length) :
    ∃ g o c a c', v = .slice (some ⟨g, o, none⟩) bs.length c ∧ w.cell? ⟨g, o + k, none⟩ = some (.slice a bs[k].length c') := by
  have hk' : k < vs.length := by omega
  obtain ⟨g, o, c, e, hc⟩ := h.at k _ (List.getElem?_eq_getElem hk')
  obtain ⟨a, c', e', _⟩ := hy k hk hk'
  exact ⟨g, o, c, a, c', by rw [e, hl], by rw [hc, e']⟩

set_option maxRecDepth 100000 in
set_option maxHeartbeats 4000000 in
theorem bytes5_any (v : Av) (d : Ad) (me frm : Int) (fm : Nat) (w : World) (h : AIn w v d) :
    Calls Try.prog 5 #[v.h, .int .i64 me, v.ph, v.pc, v.pf, v.pb, .int .u8 fm, .int .i64 frm, v.sh, v.sc, v.sf, v.sb] w fun e w' => BOk d e ∧ w' = w := by
  obtain ⟨h1, h2, h3, h4, h5, h6, h7, h8, h9, h10, h11, h12, h13⟩ := h
  obtain ⟨vh, vph, vpc, vpf, vpb, vsh, vsc, vsf, vsb⟩ := v
  simp only at h1 h2 h3 h4 h5 h8 h9 h10 h11 ⊢
  obtain ⟨a1, c1, e1⟩ := h1.shape
  obtain ⟨a2, c2, e2⟩ := h2.shape
  obtain ⟨a3, c3, e3⟩ := h3.shape
  obtain ⟨a4, c4, e4⟩ := h4.shape
  obtain ⟨a5, c5, e5⟩ := h5.shape
  obtain ⟨a8, c8, e8⟩ := h8.shape
  obtain ⟨a9, c9, e9⟩ := h9.shape
  obtain ⟨a10, c10, e10⟩ := h10.shape
  obtain ⟨a11, c11, e11⟩ := h11.shape
  rw [strs_length] at e1
  unfold ints at e2 e4 e8 e10
  unfold u64s at e3 e9
  rw [List.length_map] at e2 e3 e4 e8 e9 e10
  rw [h6] at e5
  rw [h12] at e11
  subst e1 e2 e3 e4 e5 e8 e9 e10 e11
  clear h2 h3 h4 h8 h9 h10
  have B5 : Hid _ := fun k hk => bytes_at h5 h6 h7 k hk
  have B11 : Hid _ := fun k hk => bytes_at h11 h12 h13 k hk
  clear h5 h6 h7 h11 h12 h13
  obtain ⟨hs, ph, pc, pf, pv, pb, sh, sc, sf, sv, sb⟩ := d
  simp only at *
  go_enter Try.func5, Try.ntmps5
  go_wp2_with fail
  all_goals first | (go_ret; exact ⟨bok_false _, rfl⟩) | skip
  go_loop [25, 26] (fun tot i => ∃ (k : Nat) (t : Int), k ≤ hs.length ∧ i = .int .i64 k ∧ tot = .int .i64 t) (fun _ i => hs.length - (intOf i).toNat)
  case atStart => exact ⟨0, _, Nat.zero_le _, rfl, rfl⟩
  case round =>
    obtain ⟨k, t, hk, rfl, rfl⟩ := hrel
    by_cases hlt : k < hs.length
    · obtain ⟨g, o, c, e, hc⟩ := h1.at k _ (strs_get hs k hlt)
      rw [strs_length] at e
      simp only [Value.slice.injEq, true_and] at e
      obtain ⟨rfl, rfl⟩ := e
      generalize hs[k] = s at hc
      go_wp2
      all_goals first
        | (go_ret; exact ⟨bok_false _, rfl⟩)
        | (go_round
           case rel => exact ⟨k + 1, _, by omega, by go_num, rfl⟩
           case measure => simp [intOf]; omega)
    · clear h1
      go_wp2_with fail
      all_goals first | (go_ret; exact ⟨bok_false _, rfl⟩) | skip
      go_loop [25, 27] (fun tot i => ∃ (k : Nat) (t : Int), k ≤ pb.length ∧ i = .int .i64 k ∧ tot = .int .i64 t ∧ ∀ i (hi : i < pb.length), i < k → pb[i].length ≤ 1048576) (fun _ i => pb.length - (intOf i).toNat)
      case atStart => exact ⟨0, _, Nat.zero_le _, rfl, rfl, fun i _ h => absurd h (Nat.not_lt_zero _)⟩
      case round =>
        obtain ⟨k2, t2, hk2, rfl, rfl, hsm⟩ := hrel
        by_cases hlt2 : k2 < pb.length
        · obtain ⟨g, o, c, a, c', e, hc⟩ := B5.out k2 hlt2
          simp only [Value.slice.injEq, true_and] at e
          obtain ⟨rfl, rfl⟩ := e
          by_cases hbig : pb[k2].length ≤ 1048576
          · have HX : Hid (∀ i (hi : i < pb.length), i < k2 + 1 → pb[i].length ≤ 1048576) := fun i hi h => by
              by_cases e : i = k2
              · subst e; exact hbig
              · exact hsm i hi (by omega)
            clear hsm
            generalize pb[k2].length = m at hc hbig
            go_wp2
            all_goals first
              | (go_ret; exact ⟨bok_false _, rfl⟩)
              | (go_round
                 case rel => exact ⟨k2 + 1, _, by omega, by go_num, rfl, HX.out⟩
                 case measure => simp [intOf]; omega)
          · clear hsm
            have hbig' : 1048576 < pb[k2].length := by omega
            generalize pb[k2].length = m at hc hbig'
            clear hbig
            go_wp2
            go_ret
            exact ⟨bok_false _, rfl⟩
        · have HP : Hid (∀ i (hi : i < pb.length), pb[i].length ≤ 1048576) := fun i hi => hsm i hi (by omega)
          clear hsm B5
          go_wp2_with fail
          all_goals first | (go_ret; exact ⟨bok_false _, rfl⟩) | skip
          go_loop [25, 28] (fun tot i => ∃ (k : Nat) (t : Int), k ≤ sb.length ∧ i = .int .i64 k ∧ tot = .int .i64 t ∧ ∀ i (hi : i < sb.length), i < k → sb[i].length ≤ 1048576) (fun _ i => sb.length - (intOf i).toNat)
          case atStart => exact ⟨0, _, Nat.zero_le _, rfl, rfl, fun i _ h => absurd h (Nat.not_lt_zero _)⟩
          case round =>
            obtain ⟨k3, t3, hk3, rfl, rfl, hsm⟩ := hrel
            by_cases hlt3 : k3 < sb.length
            · obtain ⟨g, o, c, a, c', e, hc⟩ := B11.out k3 hlt3
              simp only [Value.slice.injEq, true_and] at e
              obtain ⟨rfl, rfl⟩ := e
              by_cases hbig : sb[k3].length ≤ 1048576
              · have HX : Hid (∀ i (hi : i < sb.length), i < k3 + 1 → sb[i].length ≤ 1048576) := fun i hi h => by
                  by_cases e : i = k3
                  · subst e; exact hbig
                  · exact hsm i hi (by omega)
                clear hsm
                generalize sb[k3].length = m at hc hbig
                go_wp2
                all_goals first
                  | (go_ret; exact ⟨bok_false _, rfl⟩)
                  | (go_round
                     case rel => exact ⟨k3 + 1, _, by omega, by go_num, rfl, HX.out⟩
                     case measure => simp [intOf]; omega)
              · clear hsm
                have hbig' : 1048576 < sb[k3].length := by omega
                generalize sb[k3].length = m at hc hbig'
                clear hbig
                go_wp2
                go_ret
                exact ⟨bok_false _, rfl⟩
            · have HS : Hid (∀ i (hi : i < sb.length), sb[i].length ≤ 1048576) := fun i hi => hsm i hi (by omega)
              clear hsm B11
              go_wp2
              go_ret
              exact ⟨⟨_, rfl, fun _ => ⟨by simp only; omega, by simp only; omega, by simp only; omega, by simp only; omega, by simp only; omega, HP.out, by simp only; omega, by simp only; omega, by simp only; omega, by simp only; omega, HS.out⟩⟩, rfl⟩

set_option maxRecDepth 100000 in
set_option maxHeartbeats 4000000 in
theorem bytes13_any (v : Av) (d : Ad) (me frm : Int) (fm : Nat) (w : World) (h : AIn w v d) :
    Calls Try.prog 13 #[v.h, .int .i64 me, v.ph, v.pc, v.pf, v.pb, .int .u8 fm, .int .i64 frm, v.sh, v.sc, v.sf, v.sb] w fun e w' => BOk d e ∧ w' = w := by
  obtain ⟨h1, h2, h3, h4, h5, h6, h7, h8, h9, h10, h11, h12, h13⟩ := h
  obtain ⟨vh, vph, vpc, vpf, vpb, vsh, vsc, vsf, vsb⟩ := v
  simp only at h1 h2 h3 h4 h5 h8 h9 h10 h11 ⊢
  obtain ⟨a1, c1, e1⟩ := h1.shape
  obtain ⟨a2, c2, e2⟩ := h2.shape
  obtain ⟨a3, c3, e3⟩ := h3.shape
  obtain ⟨a4, c4, e4⟩ := h4.shape
  obtain ⟨a5, c5, e5⟩ := h5.shape
  obtain ⟨a8, c8, e8⟩ := h8.shape
  obtain ⟨a9, c9, e9⟩ := h9.shape
  obtain ⟨a10, c10, e10⟩ := h10.shape
  obtain ⟨a11, c11, e11⟩ := h11.shape
  rw [strs_length] at e1
  unfold ints at e2 e4 e8 e10
  unfold u64s at e3 e9
  rw [List.length_map] at e2 e3 e4 e8 e9 e10
  rw [h6] at e5
  rw [h12] at e11
  subst e1 e2 e3 e4 e5 e8 e9 e10 e11
  clear h2 h3 h4 h8 h9 h10
  have B5 : Hid _ := fun k hk => bytes_at h5 h6 h7 k hk
  have B11 : Hid _ := fun k hk => bytes_at h11 h12 h13 k hk
  clear h5 h6 h7 h11 h12 h13
  obtain ⟨hs, ph, pc, pf, pv, pb, sh, sc, sf, sv, sb⟩ := d
  simp only at *
  go_enter Try.func13, Try.ntmps13
  go_wp2_with fail
  all_goals first | (go_ret; exact ⟨bok_false _, rfl⟩) | skip
  go_loop [25, 26] (fun tot i => ∃ (k : Nat) (t : Int), k ≤ hs.length ∧ i = .int .i64 k ∧ tot = .int .i64 t) (fun _ i => hs.length - (intOf i).toNat)
  case atStart => exact ⟨0, _, Nat.zero_le _, rfl, rfl⟩
  case round =>
    obtain ⟨k, t, hk, rfl, rfl⟩ := hrel
    by_cases hlt : k < hs.length
    · obtain ⟨g, o, c, e, hc⟩ := h1.at k _ (strs_get hs k hlt)
      rw [strs_length] at e
      simp only [Value.slice.injEq, true_and] at e
      obtain ⟨rfl, rfl⟩ := e
      generalize hs[k] = s at hc
      go_wp2
      all_goals first
        | (go_ret; exact ⟨bok_false _, rfl⟩)
        | (go_round
           case rel => exact ⟨k + 1, _, by omega, by go_num, rfl⟩
           case measure => simp [intOf]; omega)
    · clear h1
      go_wp2_with fail
      all_goals first | (go_ret; exact ⟨bok_false _, rfl⟩) | skip
      go_loop [25, 27] (fun tot i => ∃ (k : Nat) (t : Int), k ≤ pb.length ∧ i = .int .i64 k ∧ tot = .int .i64 t ∧ ∀ i (hi : i < pb.length), i < k → pb[i].length ≤ 1048576) (fun _ i => pb.length - (intOf i).toNat)
      case atStart => exact ⟨0, _, Nat.zero_le _, rfl, rfl, fun i _ h => absurd h (Nat.not_lt_zero _)⟩
      case round =>
        obtain ⟨k2, t2, hk2, rfl, rfl, hsm⟩ := hrel
        by_cases hlt2 : k2 < pb.length
        · obtain ⟨g, o, c, a, c', e, hc⟩ := B5.out k2 hlt2
          simp only [Value.slice.injEq, true_and] at e
          obtain ⟨rfl, rfl⟩ := e
          by_cases hbig : pb[k2].length ≤ 1048576
          · have HX : Hid (∀ i (hi : i < pb.length), i < k2 + 1 → pb[i].length ≤ 1048576) := fun i hi h => by
              by_cases e : i = k2
              · subst e; exact hbig
              · exact hsm i hi (by omega)
            clear hsm
            generalize pb[k2].length = m at hc hbig
            go_wp2
            all_goals first
              | (go_ret; exact ⟨bok_false _, rfl⟩)
              | (go_round
                 case rel => exact ⟨k2 + 1, _, by omega, by go_num, rfl, HX.out⟩
                 case measure => simp [intOf]; omega)
          · clear hsm
            have hbig' : 1048576 < pb[k2].length := by omega
            generalize pb[k2].length = m at hc hbig'
            clear hbig
            go_wp2
            go_ret
            exact ⟨bok_false _, rfl⟩
        · have HP : Hid (∀ i (hi : i < pb.length), pb[i].length ≤ 1048576) := fun i hi => hsm i hi (by omega)
          clear hsm B5
          go_wp2_with fail
          all_goals first | (go_ret; exact ⟨bok_false _, rfl⟩) | skip
          go_loop [25, 28] (fun tot i => ∃ (k : Nat) (t : Int), k ≤ sb.length ∧ i = .int .i64 k ∧ tot = .int .i64 t ∧ ∀ i (hi : i < sb.length), i < k → sb[i].length ≤ 1048576) (fun _ i => sb.length - (intOf i).toNat)
          case atStart => exact ⟨0, _, Nat.zero_le _, rfl, rfl, fun i _ h => absurd h (Nat.not_lt_zero _)⟩
          case round =>
            obtain ⟨k3, t3, hk3, rfl, rfl, hsm⟩ := hrel
            by_cases hlt3 : k3 < sb.length
            · obtain ⟨g, o, c, a, c', e, hc⟩ := B11.out k3 hlt3
              simp only [Value.slice.injEq, true_and] at e
              obtain ⟨rfl, rfl⟩ := e
              by_cases hbig : sb[k3].length ≤ 1048576
              · have HX : Hid (∀ i (hi : i < sb.length), i < k3 + 1 → sb[i].length ≤ 1048576) := fun i hi h => by
                  by_cases e : i = k3
                  · subst e; exact hbig
                  · exact hsm i hi (by omega)
                clear hsm
                generalize sb[k3].length = m at hc hbig
                go_wp2
                all_goals first
                  | (go_ret; exact ⟨bok_false _, rfl⟩)
                  | (go_round
                     case rel => exact ⟨k3 + 1, _, by omega, by go_num, rfl, HX.out⟩
                     case measure => simp [intOf]; omega)
              · clear hsm
                have hbig' : 1048576 < sb[k3].length := by omega
                generalize sb[k3].length = m at hc hbig'
                clear hbig
                go_wp2
                go_ret
                exact ⟨bok_false _, rfl⟩
            · have HS : Hid (∀ i (hi : i < sb.length), sb[i].length ≤ 1048576) := fun i hi => hsm i hi (by omega)
              clear hsm B11
              go_wp2
              go_ret
              exact ⟨⟨_, rfl, fun _ => ⟨by simp only; omega, by simp only; omega, by simp only; omega, by simp only; omega, by simp only; omega, HP.out, by simp only; omega, by simp only; omega, by simp only; omega, by simp only; omega, HS.out⟩⟩, rfl⟩
end Go.Proofs.Qxb6614657a
