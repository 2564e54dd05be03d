import Derived.Test.Qxb6614657aBig
namespace Go.Proofs.Qxb6614657a
open Go.RowKit

/-- The piece lies within the column of n hosts and names no host at or past n. -/
def InRange (first : Int) (bs : List Nat) (n : Nat) : Prop := ∃ f : Nat, first = f ∧ f + bs.length ≤ (n + 7) / 8 ∧ ∀ l, bitAt f bs l = true → l < n
def InQ (first : Int) (bs : List Nat) (n : Nat) (e : Ending) : Prop := ∃ b, e = .returned (.bool b) ∧ (b = true ↔ InRange first bs n)
theorem inQ_false {first : Int} {bs : List Nat} {n : Nat} (h : ¬ InRange first bs n) : InQ first bs n (.returned (.bool false)) := ⟨_, rfl, ⟨fun h => by (cases h), fun h' => absurd h' h⟩⟩

set_option maxRecDepth 100000 in
set_option maxHeartbeats 1000000 in
theorem inRange_iff (first : Int) (n : Nat) (v : Value) (bs : List Nat) (w : World) (h64 : -9223372036854775808 ≤ first ∧ first ≤ 9223372036854775807) (hn : n ≤ 4096) (hlen : bs.length ≤ 1048576) (hr : RB w v bs) :
    Calls Try.prog 16 #[.int .i64 first, v, .int .i64 n] w fun e w' => InQ first bs n e ∧ w' = w := by
  obtain ⟨ao, cap, rfl, h1, h2⟩ := hr
  by_cases h3 : first < 0
  · have d1 : decide (first < 0) = true := by simpa using h3
    go_enter Try.func16, Try.ntmps16
    go_wp2
    go_ret
    exact ⟨inQ_false (fun ⟨f, e, _⟩ => by omega), rfl⟩
  obtain ⟨f, rfl⟩ := Int.eq_ofNat_of_zero_le (show 0 ≤ first by omega)
  have d1 : decide ((f : Int) < 0) = false := by simp
  by_cases h4 : (n + 7) / 8 < bs.length
  · have d2 : decide (((n : Int) + 7) / 8 < (bs.length : Int)) = true := by simp; omega
    go_enter Try.func16, Try.ntmps16
    go_wp2
    go_ret
    exact ⟨inQ_false (fun ⟨f', e, h, _⟩ => by omega), rfl⟩
  have d2 : decide (((n : Int) + 7) / 8 < (bs.length : Int)) = false := by simp; omega
  by_cases h5 : (n + 7) / 8 < f + bs.length
  · have d3 : decide (((n : Int) + 7) / 8 - (bs.length : Int) < (f : Int)) = true := by simp; omega
    go_enter Try.func16, Try.ntmps16
    go_wp2
    go_ret
    exact ⟨inQ_false (fun ⟨f', e, h, _⟩ => by omega), rfl⟩
  have d3 : decide (((n : Int) + 7) / 8 - (bs.length : Int) < (f : Int)) = false := by simp; omega
  go_enter Try.func16, Try.ntmps16
  go_wp2_with fail
  go_loop [8] (fun i => ∃ k : Nat, k ≤ bs.length ∧ i = .int .i64 k ∧ Low f n bs k) (fun i => bs.length - (intOf i).toNat)
  case atStart => exact ⟨0, Nat.zero_le _, rfl, fun i _ h => absurd h (Nat.not_lt_zero _)⟩
  case round =>
    obtain ⟨k, hk, rfl, hlow⟩ := hrel
    by_cases hlt : k < bs.length
    · obtain ⟨g, off, rfl, hc⟩ := h2 k hlt
      have hb := h1 _ (List.getElem_mem hlt)
      clear h2 h1 d1 d2 d3
      go_wp2_with fail
      go_loop [9] (fun q => ∃ c : Nat, c ≤ 8 ∧ q = .int .i64 c ∧ ∀ q, q < c → bs[k].testBit q = true → (f + k) * 8 + q < n) (fun q => 8 - (intOf q).toNat)
      case atStart => exact ⟨0, Nat.zero_le _, rfl, fun i h => absurd h (Nat.not_lt_zero _)⟩
      case round =>
        obtain ⟨c, hc8, rfl, hlo⟩ := hrel
        by_cases hc9 : c < 8
        · have hS := shr_bit bs[k] c hb hc9
          cases ht : bs[k].testBit c
          · rw [ht] at hS
            have hnx : ∀ q, q < c + 1 → bs[k].testBit q = true → (f + k) * 8 + q < n := fun q hq h => by
              by_cases e : q = c
              · subst e; rw [ht] at h; cases h
              · exact hlo q (by omega) h
            have HX : Hid _ := hnx
            clear hnx hlo hlow ht
            generalize bs[k] = b at *
            go_wp2
            go_round
            case rel => exact ⟨c + 1, by omega, by go_num, HX.out⟩
            case measure => simp [intOf]; omega
          · rw [ht] at hS
            by_cases hin : (f + k) * 8 + c < n
            · have d4 : decide ((n : Int) ≤ ((f : Int) + (k : Int)) * 8 + (c : Int)) = false := by simp; omega
              have hnx : ∀ q, q < c + 1 → bs[k].testBit q = true → (f + k) * 8 + q < n := fun q hq h => by
                by_cases e : q = c
                · subst e; exact hin
                · exact hlo q (by omega) h
              have HX : Hid _ := hnx
              clear hnx hlo hlow ht
              generalize bs[k] = b at *
              go_wp2
              go_round
              case rel => exact ⟨c + 1, by omega, by go_num, HX.out⟩
              case measure => simp [intOf]; omega
            · have d4 : decide ((n : Int) ≤ ((f : Int) + (k : Int)) * 8 + (c : Int)) = true := by simp; omega
              have HN : Hid (¬ InRange (f : Int) bs n) := fun ⟨f', e, _, hall⟩ => by
                have e' : f' = f := by omega
                subst e'
                exact hin (hall _ (by rw [bitAt_at f' bs k c hlt hc9]; exact ht))
              clear hlo hlow ht
              generalize bs[k] = b at *
              go_wp2
              go_ret
              exact ⟨inQ_false HN.out, rfl⟩
        · have hlow' : Low f n bs (k + 1) := fun i hi hik q hq h => by
            by_cases e : i = k
            · subst e; exact hlo q (by omega) h
            · exact hlow i hi (by omega) q hq h
          have HL : Hid _ := hlow'
          clear hlow' hlo hlow
          go_wp2
          go_round
          case rel => exact ⟨k + 1, by omega, by go_num, HL.out⟩
          case measure => simp [intOf]; omega
    · clear h2 h1 d1 d2 d3
      have : k = bs.length := by omega
      subst this
      go_wp2
      go_ret
      exact ⟨⟨_, rfl, iff_of_true rfl ⟨f, rfl, by omega, hlow.all⟩⟩, rfl⟩

open Classical in
theorem inRange_eq (first : Int) (n : Nat) (v : Value) (bs : List Nat) (w : World) (h64 : -9223372036854775808 ≤ first ∧ first ≤ 9223372036854775807) (hn : n ≤ 4096) (hlen : bs.length ≤ 1048576) (hr : RB w v bs) :
    Calls Try.prog 16 #[.int .i64 first, v, .int .i64 n] w fun e w' => e = .returned (.bool (decide (InRange first bs n))) ∧ w' = w := by
  refine (inRange_iff first n v bs w h64 hn hlen hr).mono ?_
  rintro e w' ⟨⟨b, rfl, hb⟩, rfl⟩
  refine ⟨?_, rfl⟩
  congr 2
  by_cases h : InRange first bs n
  · rw [hb.2 h]; simp [h]
  · cases b
    · simp [h]
    · exact absurd (hb.1 rfl) h
end Go.Proofs.Qxb6614657a
