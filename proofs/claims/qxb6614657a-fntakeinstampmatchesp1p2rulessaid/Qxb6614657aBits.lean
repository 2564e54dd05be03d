import Derived.Test.Qxb6614657aRows
import Derived.WalkKit
import Derived.WalkSpells
import Derived.Laws.BitsLemmas
namespace Go.Proofs.Qxb6614657a
open Go.RowKit

/-! The set of hosts that a piece of a column holds: byte 'f' of the column is the piece's first. -/
def bitAt (f : Nat) (bs : List Nat) (l : Nat) : Bool := decide (f ≤ l / 8) && ((bs[l / 8 - f]?).getD 0).testBit (l % 8)
theorem bitAt_nil (f l : Nat) : bitAt f [] l = false := by simp [bitAt]
theorem bitAt_zeros (f : Nat) (bs : List Nat) (m l : Nat) : bitAt f (bs ++ List.replicate m 0) l = bitAt f bs l := by
  unfold bitAt
  congr 2
  by_cases h : l / 8 - f < bs.length
  · rw [List.getElem?_append_left h]
  · rw [List.getElem?_append_right (by omega), List.getElem?_eq_none (l := bs) (by omega), List.getElem?_replicate]
    split <;> rfl
theorem bitAt_lead (f k : Nat) (bs : List Nat) (l : Nat) (h : k ≤ f) : bitAt (f - k) (List.replicate k 0 ++ bs) l = bitAt f bs l := by
  unfold bitAt
  by_cases h1 : f ≤ l / 8
  · have h2 : f - k ≤ l / 8 := by omega
    rw [List.getElem?_append_right (by simp; omega), List.length_replicate, show l / 8 - (f - k) - k = l / 8 - f by omega]
    simp [h1, h2]
  · simp only [h1, decide_false, Bool.false_and]
    by_cases h2 : f - k ≤ l / 8
    · rw [List.getElem?_append_left (by simp; omega), List.getElem?_replicate]
      split <;> simp
    · simp [h2]
theorem bitAt_replicate (f m l : Nat) : bitAt f (List.replicate m 0) l = false := by
  have := bitAt_zeros f [] m l
  rw [List.nil_append, bitAt_nil] at this; exact this
theorem bitAt_or (f : Nat) (bs : List Nat) (j c l : Nat) (hj : j < bs.length) : bitAt f (bs.set j (bs[j] ||| c)) l = (bitAt f bs l || (decide (l / 8 = f + j) && c.testBit (l % 8))) := by
  unfold bitAt
  by_cases h : l / 8 = f + j
  · have e : l / 8 - f = j := by omega
    have h1 : f ≤ l / 8 := by omega
    rw [e, List.getElem?_set_self hj, List.getElem?_eq_getElem hj]
    simp [h, Nat.testBit_or]
  · by_cases h1 : f ≤ l / 8
    · rw [List.getElem?_set_ne (by omega)]
      simp [h]
    · simp [h1, h]
theorem pow_bit : ∀ k, k < 8 → ∀ j, j < 8 → (2 ^ k).testBit j = decide (k = j) := by decide
/-- One host more. -/
theorem bitAt_add (f : Nat) (bs : List Nat) (x l : Nat) (hf : f ≤ x / 8) (hj : x / 8 - f < bs.length) : bitAt f (bs.set (x / 8 - f) (bs[x / 8 - f] ||| 2 ^ (x % 8))) l = (bitAt f bs l || decide (l = x)) := by
  rw [bitAt_or f bs _ _ l hj, pow_bit (x % 8) (Nat.mod_lt _ (by decide)) (l % 8) (Nat.mod_lt _ (by decide))]
  congr 1
  by_cases h : l = x
  · subst h; simp; omega
  · simp only [h, decide_false, Bool.and_eq_false_iff, decide_eq_false_iff_not]
    omega
/-! What the model reckons on bytes. -/
theorem and_pow : ∀ b, b < 256 → ∀ k, k < 8 → (b &&& 2 ^ k = 0 ↔ b.testBit k = false) := by decide +kernel
theorem shr_one : ∀ b, b < 256 → ∀ k, k < 8 → ((b / 2 ^ k) &&& 1 = 1 ↔ b.testBit k = true) := by decide +kernel
theorem or_byte (b c : Nat) (hb : b < 256) (hc : c < 256) : b ||| c < 256 := Nat.or_lt_two_pow (n := 8) hb hc
theorem pow_byte (k : Nat) (hk : k < 8) : 2 ^ k < 256 := by
  have : 2 ^ k ≤ 2 ^ 7 := Nat.pow_le_pow_right (by decide) (by omega)
  omega
theorem bits_and8 (a b : Nat) (ha : a < 256) (hb : b < 256) : bits .and .u8 (a : Int) (b : Int) = ((a &&& b : Nat) : Int) := (bits_nat .u8 8 (by decide) wraps_u8 a b ha hb).1
theorem bits_or8 (a b : Nat) (ha : a < 256) (hb : b < 256) : bits .or .u8 (a : Int) (b : Int) = ((a ||| b : Nat) : Int) := (bits_nat .u8 8 (by decide) wraps_u8 a b ha hb).2
theorem quo8 (l : Nat) : (l : Int).tdiv 8 = ((l / 8 : Nat) : Int) := rfl
theorem rem8 (l : Nat) : (l : Int).tmod 8 = ((l % 8 : Nat) : Int) := rfl

/-- Bytes that can be read behind a slice. -/
def RB (w : World) (v : Value) (bs : List Nat) : Prop :=
  ∃ ao cap, v = .slice ao bs.length cap ∧ (∀ b ∈ bs, b < 256) ∧ ∀ j (hj : j < bs.length), ∃ g off, ao = some ⟨g, off, none⟩ ∧ w.cell? ⟨g, off + j, none⟩ = some (.int .u8 (bs[j] : Int))
theorem RB.grow {w w' : World} {v : Value} {bs : List Nat} (h : RB w v bs) (hb : Below w.heap.size w w') : RB w' v bs := by
  obtain ⟨ao, cap, e, h1, h2⟩ := h
  refine ⟨ao, cap, e, h1, fun j hj => ?_⟩
  obtain ⟨g, off, e2, hc⟩ := h2 j hj
  exact ⟨g, off, e2, by rw [hb.cell (p := ⟨g, off + j, none⟩) (World.block_lt_of_cell? w _ hc)]; exact hc⟩
end Go.Proofs.Qxb6614657a
