import Derived.Test.Qxb6614657aBits
import Derived.WalkLawsBesides
import Derived.Deep.QuietTactic
import Derived.BigQuiet
import Derived.Deep.DeepCutAuto
namespace Go.Proofs.Qxb6614657a
open Go.RowKit


theorem pow_mod (k : Nat) (hk : k < 8) : (2 : Int) ^ k % 256 = ((2 ^ k : Nat) : Int) := by
  have := pow_byte k hk
  have e : ((2 ^ k : Nat) : Int) = (2 : Int) ^ k := by simp
  rw [← e]; exact Int.emod_eq_of_lt (Int.natCast_nonneg _) (Int.ofNat_lt.2 this)
theorem has_bit (b k : Nat) (hb : b < 256) (hk : k < 8) : (bits .and .u8 (b : Int) ((2 : Int) ^ k % 256) != 0) = b.testBit k := by
  rw [pow_mod k hk, bits_and8 b _ hb (pow_byte k hk)]
  have := and_pow b hb k hk
  cases ht : b.testBit k
  · rw [this.2 ht]; rfl
  · have h0 : b &&& 2 ^ k ≠ 0 := fun h => by rw [this.1 h] at ht; cases ht
    simp only [bne_iff_ne, ne_eq]
    omega
theorem shr_bit (b k : Nat) (hb : b < 256) (hk : k < 8) : (bits .and .u8 ((b : Int) / 2 ^ k) 1 == 1) = b.testBit k := by
  have e0 : (b : Int) / 2 ^ k = ((b / 2 ^ k : Nat) : Int) := by rw [Int.natCast_ediv]; simp
  rw [e0]
  have h1 : b / 2 ^ k < 256 := Nat.lt_of_le_of_lt (Nat.div_le_self _ _) hb
  have e : bits .and .u8 (((b / 2 ^ k : Nat)) : Int) 1 = ((b / 2 ^ k &&& 1 : Nat) : Int) := bits_and8 _ 1 h1 (by decide)
  rw [e]
  have := shr_one b hb k hk
  cases ht : b.testBit k
  · have h0 : b / 2 ^ k &&& 1 ≠ 1 := fun h => by rw [this.1 h] at ht; cases ht
    simp only [beq_eq_false_iff_ne, ne_eq]
    omega
  · rw [this.2 ht]; rfl

set_option maxRecDepth 100000 in
set_option maxHeartbeats 1000000 in
theorem has_any (f l : Nat) (v : Value) (bs : List Nat) (w : World) (hf : f ≤ 4096) (hl : l ≤ 65536) (hlen : bs.length ≤ 4096) (hr : RB w v bs) :
    Calls Try.prog 34 #[.agg #[.int .i64 f, v], .int .i64 l] w fun e w' => e = .returned (.bool (bitAt f bs l)) ∧ Below w.heap.size w w' := by
  have b0 : Below w.heap.size w (w.alloc (.cells #[.int .i64 f, v] 71)) := (Below.refl _ _).alloc (Nat.le_refl _) _
  have hr0 := hr.grow b0
  obtain ⟨ao, cap, rfl, h1, h2⟩ := hr0
  have B0 : Hid _ := b0
  have q := quo8 l
  have r := rem8 l
  clear b0 hr
  by_cases h3 : f ≤ l / 8
  · by_cases h4 : l / 8 - f < bs.length
    · obtain ⟨j, hj⟩ : ∃ j, j = l / 8 - f := ⟨_, rfl⟩
      have hi : (l : Int) / 8 - (f : Int) = (j : Int) := by omega
      rw [← hj] at h4
      obtain ⟨g, off, rfl, hc⟩ := h2 j h4
      have e : bitAt f bs l = bs[j].testBit (l % 8) := by
        unfold bitAt
        rw [← hj, List.getElem?_eq_getElem h4]; simp [h3]
      rw [e]
      have hb := h1 _ (List.getElem_mem h4)
      generalize bs[j] = b at *
      clear h2 h1 hj h3 q r e
      have d1 : decide ((0 : Int) ≤ (j : Int)) = true := by simp
      have d2 : decide ((j : Int) < (bs.length : Int)) = true := by simp; omega
      go_enter Try.func34, Try.ntmps34
      go_wp2
      go_quiet (fail)
      go_wp2
      go_ret
      exact ⟨by rw [has_bit b _ hb (Nat.mod_lt _ (by decide))]; rfl, below_drewN B0.out _⟩
    · obtain ⟨j, hj⟩ : ∃ j, j = l / 8 - f := ⟨_, rfl⟩
      have hi : (l : Int) / 8 - (f : Int) = (j : Int) := by omega
      rw [← hj] at h4
      have e : bitAt f bs l = false := by
        unfold bitAt
        rw [← hj, List.getElem?_eq_none (by omega)]; simp
      rw [e]
      clear h2 h1 hj h3 q r e
      have d1 : decide ((0 : Int) ≤ (j : Int)) = true := by simp
      have d2 : decide ((j : Int) < (bs.length : Int)) = false := by simp; omega
      go_enter Try.func34, Try.ntmps34
      go_wp2
      go_quiet (fail)
      go_wp2
      go_ret
      exact ⟨rfl, below_drewN B0.out _⟩
  · have e : bitAt f bs l = false := by
      unfold bitAt
      simp [h3]
    rw [e]
    have d1 : decide ((f : Int) ≤ (l : Int) / 8) = false := by simp; omega
    clear h2 h1 h3 q r e
    go_enter Try.func34, Try.ntmps34
    go_wp2
    go_quiet (fail)
    go_wp2
    go_ret
    exact ⟨rfl, below_drewN B0.out _⟩

set_option maxRecDepth 100000 in
set_option maxHeartbeats 1000000 in
theorem colHas_any (f l : Nat) (v : Value) (bs : List Nat) (w : World) (hf : f ≤ 4096) (hl : l ≤ 65536) (hlen : bs.length ≤ 4096) (hr : RB w v bs) :
    Calls Try.prog 17 #[.int .i64 f, v, .int .i64 l] w fun e w' => e = .returned (.bool (bitAt f bs l)) ∧ w' = w := by
  obtain ⟨ao, cap, rfl, h1, h2⟩ := hr
  by_cases h3 : f ≤ l / 8
  · by_cases h4 : l / 8 - f < bs.length
    · obtain ⟨j, hj⟩ : ∃ j, j = l / 8 - f := ⟨_, rfl⟩
      have hi : (l : Int) / 8 - (f : Int) = (j : Int) := by omega
      rw [← hj] at h4
      obtain ⟨g, off, rfl, hc⟩ := h2 j h4
      have e : bitAt f bs l = bs[j].testBit (l % 8) := by
        unfold bitAt
        rw [← hj, List.getElem?_eq_getElem h4]; simp [h3]
      rw [e]
      have hb := h1 _ (List.getElem_mem h4)
      generalize bs[j] = b at *
      clear h2 h1 hj h3 e
      have d1 : decide ((0 : Int) ≤ (j : Int)) = true := by simp
      have d2 : decide ((j : Int) < (bs.length : Int)) = true := by simp; omega
      go_enter Try.func17, Try.ntmps17
      go_wp2
      go_ret
      exact ⟨by rw [shr_bit b _ hb (Nat.mod_lt _ (by decide))]; rfl, rfl⟩
    · obtain ⟨j, hj⟩ : ∃ j, j = l / 8 - f := ⟨_, rfl⟩
      have hi : (l : Int) / 8 - (f : Int) = (j : Int) := by omega
      rw [← hj] at h4
      have e : bitAt f bs l = false := by
        unfold bitAt
        rw [← hj, List.getElem?_eq_none (by omega)]; simp
      rw [e]
      clear h2 h1 hj h3 e
      have d1 : decide ((0 : Int) ≤ (j : Int)) = true := by simp
      have d2 : decide ((j : Int) < (bs.length : Int)) = false := by simp; omega
      go_enter Try.func17, Try.ntmps17
      go_wp2
      go_ret
      exact ⟨rfl, rfl⟩
  · have e : bitAt f bs l = false := by
      unfold bitAt
      simp [h3]
    rw [e]
    have d1 : decide ((f : Int) ≤ (l : Int) / 8) = false := by simp; omega
    clear h2 h1 h3 e
    go_enter Try.func17, Try.ntmps17
    go_wp2
    go_ret
    exact ⟨rfl, rfl⟩
end Go.Proofs.Qxb6614657a
