import Derived.Test.Qxb6614657aBounds
namespace Go.Proofs.Qxb6614657a
open Go.RowKit

/-- The answer is a bool. -/
def AnyB (e : Ending) : Prop := ∃ b, e = .returned (.bool b)

set_option maxRecDepth 100000 in
set_option maxHeartbeats 4000000 in
theorem tooBig_any (v : Av) (d : Ad) (w : World) (h : AIn w v d) (hs : Short d) :
    Calls Try.prog 6 #[v.h, v.ph, v.pc, v.pf, v.pb, v.sh, v.sc, v.sf, v.sb] w fun e w' => AnyB e ∧ w' = w := by
  obtain ⟨h1, h2, h3, h4, h5, h6, h7, h8, h9, h10, h11, h12, h13⟩ := h
  obtain ⟨b1, b2, b3, b4, b5, b6, b7, b8, b9, b10, b11⟩ := hs
  obtain ⟨vh, vph, vpc, vpf, vpb, vsh, vsc, vsf, vsb⟩ := v
  simp only at h1 h2 h3 h4 h5 h8 h9 h10 h11 ⊢
  obtain ⟨a1, c1, e1⟩ := h1.shape
  obtain ⟨a2, c2, e2⟩ := h2.shape
  obtain ⟨a3, c3, e3⟩ := h3.shape
  obtain ⟨a4, c4, e4⟩ := h4.shape
  obtain ⟨a5, c5, e5⟩ := h5.shape
  obtain ⟨a8, c8, e8⟩ := h8.shape
  obtain ⟨a9, c9, e9⟩ := h9.shape
  obtain ⟨a10, c10, e10⟩ := h10.shape
  obtain ⟨a11, c11, e11⟩ := h11.shape
  rw [strs_length] at e1
  unfold ints at e2 e4 e8 e10
  unfold u64s at e3 e9
  rw [List.length_map] at e2 e3 e4 e8 e9 e10
  rw [h6] at e5
  rw [h12] at e11
  subst e1 e2 e3 e4 e5 e8 e9 e10 e11
  clear h2 h3 h4 h8 h9 h10
  have B5 : Hid _ := fun k hk => bytes_at h5 h6 h7 k hk
  have B11 : Hid _ := fun k hk => bytes_at h11 h12 h13 k hk
  clear h5 h6 h7 h11 h12 h13 b6 b11
  obtain ⟨hs, ph, pc, pf, pv, pb, sh, sc, sf, sv, sb⟩ := d
  simp only at *
  go_enter Try.func6, Try.ntmps6
  go_wp2_with fail
  all_goals first | (go_ret; exact ⟨⟨_, rfl⟩, rfl⟩) | skip
  go_loop [19, 20] (fun tot i => ∃ (k : Nat) (t : Int), k ≤ hs.length ∧ i = .int .i64 k ∧ tot = .int .i64 t) (fun _ i => hs.length - (intOf i).toNat)
  case atStart => exact ⟨0, _, Nat.zero_le _, rfl, rfl⟩
  case round =>
    obtain ⟨k, t, hk, rfl, rfl⟩ := hrel
    by_cases hlt : k < hs.length
    · obtain ⟨g, o, c, e, hc⟩ := h1.at k _ (strs_get hs k hlt)
      rw [strs_length] at e
      simp only [Value.slice.injEq, true_and] at e
      obtain ⟨rfl, rfl⟩ := e
      generalize hs[k] = s at hc
      go_wp2
      all_goals first
        | (go_ret; exact ⟨⟨_, rfl⟩, rfl⟩)
        | (go_round
           case rel => exact ⟨k + 1, _, by omega, by go_num, rfl⟩
           case measure => simp [intOf]; omega)
    · clear h1
      go_wp2_with fail
      go_loop [19, 21] (fun tot i => ∃ (k : Nat) (t : Int), k ≤ pb.length ∧ i = .int .i64 k ∧ tot = .int .i64 t) (fun _ i => pb.length - (intOf i).toNat)
      case atStart => exact ⟨0, _, Nat.zero_le _, rfl, rfl⟩
      case round =>
        obtain ⟨k2, t2, hk2, rfl, rfl⟩ := hrel
        by_cases hlt2 : k2 < pb.length
        · obtain ⟨g, o, c, a, c', e, hc⟩ := B5.out k2 hlt2
          simp only [Value.slice.injEq, true_and] at e
          obtain ⟨rfl, rfl⟩ := e
          generalize pb[k2].length = m at hc
          go_wp2
          all_goals first
            | (go_ret; exact ⟨⟨_, rfl⟩, rfl⟩)
            | (go_round
               case rel => exact ⟨k2 + 1, _, by omega, by go_num, rfl⟩
               case measure => simp [intOf]; omega)
        · clear B5
          go_wp2_with fail
          go_loop [19, 22] (fun tot i => ∃ (k : Nat) (t : Int), k ≤ sb.length ∧ i = .int .i64 k ∧ tot = .int .i64 t) (fun _ i => sb.length - (intOf i).toNat)
          case atStart => exact ⟨0, _, Nat.zero_le _, rfl, rfl⟩
          case round =>
            obtain ⟨k3, t3, hk3, rfl, rfl⟩ := hrel
            by_cases hlt3 : k3 < sb.length
            · obtain ⟨g, o, c, a, c', e, hc⟩ := B11.out k3 hlt3
              simp only [Value.slice.injEq, true_and] at e
              obtain ⟨rfl, rfl⟩ := e
              generalize sb[k3].length = m at hc
              go_wp2
              all_goals first
                | (go_ret; exact ⟨⟨_, rfl⟩, rfl⟩)
                | (go_round
                   case rel => exact ⟨k3 + 1, _, by omega, by go_num, rfl⟩
                   case measure => simp [intOf]; omega)
            · clear B11
              go_wp2
              go_ret
              exact ⟨⟨_, rfl⟩, rfl⟩
end Go.Proofs.Qxb6614657a
