import Derived.Test.Qxb6614903aBuild
namespace Go.Proofs.Qxb6614903a
open Go.RowKit
attribute [local go_sem ↓] Go.wp_at_zero Go.wp_at_succ

/-! What a task result leads to, while it is being scribbled over: each pointer nil or the address of a cell of its kind in a block of lo .. hi; where the flag stands the cell holds the mark. Two pointers of a kind may share a cell: a mark is a mark. -/
def MS (w : World) (lo hi : Nat) (p : Option Addr) (m : Bool) (mark : ByteArray) : Prop :=
  p = none ∨ ∃ b s, p = some ⟨b, 0, none⟩ ∧ lo ≤ b ∧ b < hi ∧ w.cell? ⟨b, 0, none⟩ = some (.string s) ∧ w.frozen? ⟨b, 0, none⟩ = false ∧ (m = true → s = mark)
def MT (w : World) (lo hi : Nat) (p : Option Addr) (m : Bool) (t : Int × Int) : Prop :=
  p = none ∨ ∃ b u, p = some ⟨b, 0, none⟩ ∧ lo ≤ b ∧ b < hi ∧ w.rangeAt b 0 (tcells u).toList ∧ w.there b 0 3 ∧ (m = true → u = t)
def MF (w : World) (lo hi : Nat) (fa : Option Addr) (fl : Nat) (k : Nat) (mark : ByteArray) : Prop :=
  fl = 0 ∨ ∃ g, fa = some ⟨g, 0, none⟩ ∧ lo ≤ g ∧ g < hi ∧ ∀ i, i < fl → ∃ s, w.cell? ⟨g, i, none⟩ = some (.string s) ∧ w.frozen? ⟨g, i, none⟩ = false ∧ (i < k → s = mark)

theorem MS.of {w : World} {lo hi : Nat} {p : Option Addr} {o : Option ByteArray} (h : PS w lo hi p o) (mark : ByteArray) : MS w lo hi p false mark := by
  rcases h with ⟨h, _⟩ | ⟨b, s, e, _, a1, a2, _, a4, a5⟩
  · exact .inl h
  · exact .inr ⟨b, s, e, a1, a2, a4, a5, fun h => by cases h⟩
theorem MT.of {w : World} {lo hi : Nat} {p : Option Addr} {o : Option (Int × Int)} (h : PT w lo hi p o) (t : Int × Int) : MT w lo hi p false t := by
  rcases h with ⟨h, _⟩ | ⟨b, s, e, _, a1, a2, a3, a4⟩
  · exact .inl h
  · exact .inr ⟨b, s, e, a1, a2, a3, a4, fun h => by cases h⟩
theorem MF.of {w : World} {lo hi : Nat} {fa : Option Addr} {fl fc : Nat} {o : Option (List ByteArray)} (h : FL w lo hi (.slice fa fl fc) o) (mark : ByteArray) : MF w lo hi fa fl 0 mark := by
  rcases h with ⟨h, _⟩ | ⟨g, cap, fs, e, _, a1, a2, _, a4, a5⟩
  · cases h; exact .inl rfl
  · cases e
    refine .inr ⟨g, rfl, a1, a2, fun i hi => ⟨fs[i], ?_, ?_, fun h => by omega⟩⟩
    · have := a4 i (.string fs[i]) (by unfold strs; rw [List.getElem?_map, List.getElem?_eq_getElem hi]; rfl)
      simpa using this
    · simpa using (a5 i hi).2

/-- A string cell is written with the mark. -/
theorem MS.str {w : World} {lo hi : Nat} {p : Option Addr} {m : Bool} {mark : ByteArray} (h : MS w lo hi p m mark) (a : Addr) {s0 : ByteArray} (ha : w.cell? a = some (.string s0)) : MS (w.setCell a (.string mark)) lo hi p m mark := by
  rcases h with h | ⟨b, s, e, a1, a2, a4, a5, a6⟩
  · exact .inl h
  · by_cases hab : a = ⟨b, 0, none⟩
    · exact .inr ⟨b, mark, e, a1, a2, by rw [← hab]; exact World.cell?_setCell_same _ _ _ ha, by rw [World.frozen?_setCell]; exact a5, fun _ => rfl⟩
    · exact .inr ⟨b, s, e, a1, a2, by rw [World.cell?_setCell_other w a ⟨b, 0, none⟩ _ hab]; exact a4, by rw [World.frozen?_setCell]; exact a5, a6⟩
theorem MF.str {w : World} {lo hi : Nat} {fa : Option Addr} {fl k : Nat} {mark : ByteArray} (h : MF w lo hi fa fl k mark) (a : Addr) {s0 : ByteArray} (ha : w.cell? a = some (.string s0)) : MF (w.setCell a (.string mark)) lo hi fa fl k mark := by
  rcases h with h | ⟨g, e, a1, a2, hr⟩
  · exact .inl h
  · refine .inr ⟨g, e, a1, a2, fun i hi => ?_⟩
    obtain ⟨s, a4, a5, a6⟩ := hr i hi
    by_cases hab : a = ⟨g, i, none⟩
    · exact ⟨mark, by rw [← hab]; exact World.cell?_setCell_same _ _ _ ha, by rw [World.frozen?_setCell]; exact a5, fun _ => rfl⟩
    · exact ⟨s, by rw [World.cell?_setCell_other w a ⟨g, i, none⟩ _ hab]; exact a4, by rw [World.frozen?_setCell]; exact a5, a6⟩
theorem MT.str {w : World} {lo hi : Nat} {p : Option Addr} {m : Bool} {t : Int × Int} (h : MT w lo hi p m t) (a : Addr) {s0 mark : ByteArray} (ha : w.cell? a = some (.string s0)) : MT (w.setCell a (.string mark)) lo hi p m t := by
  rcases h with h | ⟨b, u, e, a1, a2, a3, a4, a5⟩
  · exact .inl h
  · refine .inr ⟨b, u, e, a1, a2, fun j v hv => ?_, there_setCell a4 _ _, a5⟩
    have h0 := a3 j v hv
    rw [World.cell?_setCell_other w a ⟨b, 0 + j, none⟩ _ ?_]
    · exact h0
    · intro e
      rw [← e] at h0
      rw [ha] at h0
      match j, hv with
      | 0, hv => cases hv; cases h0
      | 1, hv => cases hv; cases h0
      | 2, hv => cases hv; cases h0
      | j + 3, hv => simp [tcells] at hv
/-- A time's cells are written. -/
theorem rangeAt_far {w : World} {g o : Nat} {cs : List Value} (h : w.rangeAt g o cs) {b j : Nat} (vs : List Value) (hne : b ≠ g) : (w.setCells b j vs).rangeAt g o cs := World.rangeAt_setCells_apart h b j vs (.inl (by omega))
theorem cell_far {w : World} {b j g i : Nat} (vs : List Value) (hne : b ≠ g) : (w.setCells b j vs).cell? ⟨g, i, none⟩ = w.cell? ⟨g, i, none⟩ := by
  induction vs generalizing w j with
  | nil => rfl
  | cons v vs ih => exact (ih (w := w.setCell ⟨b, j, none⟩ v)).trans (World.cell?_setCell_other w ⟨b, j, none⟩ ⟨g, i, none⟩ v (fun e => hne (by cases e; rfl)))
theorem frozen_sets {w : World} {b j : Nat} (vs : List Value) (a : Addr) : (w.setCells b j vs).frozen? a = w.frozen? a := by
  induction vs generalizing w j with
  | nil => rfl
  | cons v vs ih => exact (ih (w := w.setCell ⟨b, j, none⟩ v)).trans (World.frozen?_setCell _ _ _ _)
theorem MS.tim {w : World} {lo hi : Nat} {p : Option Addr} {m : Bool} {mark : ByteArray} (h : MS w lo hi p m mark) (b0 : Nat) {u : Int × Int} (hb : w.rangeAt b0 0 (tcells u).toList) (vs : List Value) : MS (w.setCells b0 0 vs) lo hi p m mark := by
  rcases h with h | ⟨b, s, e, a1, a2, a4, a5, a6⟩
  · exact .inl h
  · have hne : b0 ≠ b := fun e => by
      have h0 := hb 0 _ rfl
      rw [e, Nat.zero_add, a4] at h0
      cases h0
    exact .inr ⟨b, s, e, a1, a2, by rw [cell_far vs hne]; exact a4, by rw [frozen_sets]; exact a5, a6⟩
theorem MF.tim {w : World} {lo hi : Nat} {fa : Option Addr} {fl k : Nat} {mark : ByteArray} (h : MF w lo hi fa fl k mark) (b0 : Nat) {u : Int × Int} (hb : w.rangeAt b0 0 (tcells u).toList) (vs : List Value) : MF (w.setCells b0 0 vs) lo hi fa fl k mark := by
  rcases h with h | ⟨g, e, a1, a2, hr⟩
  · exact .inl h
  · refine .inr ⟨g, e, a1, a2, fun i hi => ?_⟩
    obtain ⟨s, a4, a5, a6⟩ := hr i hi
    have hne : b0 ≠ g := fun e => by
      obtain ⟨s', b4, _⟩ := hr 0 (by omega)
      have h0 := hb 0 _ rfl
      rw [e, Nat.zero_add, b4] at h0
      cases h0
    exact ⟨s, by rw [cell_far vs hne]; exact a4, by rw [frozen_sets]; exact a5, a6⟩
theorem MT.tim {w : World} {lo hi : Nat} {p : Option Addr} {m : Bool} {t : Int × Int} (h : MT w lo hi p m t) (b0 : Nat) (ht : w.there b0 0 3) : MT (w.setCells b0 0 (tcells t).toList) lo hi p m t := by
  rcases h with h | ⟨b, u, e, a1, a2, a3, a4, a5⟩
  · exact .inl h
  · by_cases hne : b0 = b
    · subst hne
      exact .inr ⟨b0, t, e, a1, a2, World.rangeAt_setCells_same _ _ _ _ ht, World.there_setCells a4 _ _ _, fun _ => rfl⟩
    · exact .inr ⟨b, u, e, a1, a2, rangeAt_far a3 _ hne, World.there_setCells a4 _ _ _, a5⟩
end Go.Proofs.Qxb6614903a
