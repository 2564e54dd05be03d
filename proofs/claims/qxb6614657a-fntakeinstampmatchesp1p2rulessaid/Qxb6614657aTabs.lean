import Derived.Test.Qxb6614657aData
namespace Go.Proofs.Qxb6614657a
open Go.RowKit

/-! The model's tables: a row of rows. -/
def slotV (n : Nat) : Option Nat → Value
  | none => .slice none 0 0
  | some b => .slice (some ⟨b, 0, none⟩) n n
def slots (n : Nat) (X : Nat → Option Nat) : List Value := (List.range n).map fun h => slotV n (X h)
def setX (X : Nat → Option Nat) (k : Nat) (b : Option Nat) (h : Nat) : Option Nat := if h = k then b else X h
theorem slots_length (n : Nat) (X : Nat → Option Nat) : (slots n X).length = n := by simp [slots]
theorem slots_get (n : Nat) (X : Nat → Option Nat) (h : Nat) (hh : h < n) : (slots n X)[h]? = some (slotV n (X h)) := by simp [slots, hh]
theorem slots_set (n : Nat) (X : Nat → Option Nat) (k : Nat) (b : Option Nat) : (slots n X).set k (slotV n b) = slots n (setX X k b) := by
  unfold slots setX
  refine List.ext_getElem (by simp) fun i a c => ?_
  rw [List.getElem_set]
  simp only [List.getElem_map, List.getElem_range]
  split
  · next e => rw [if_pos e.symm]
  · next e => rw [if_neg (fun h => e h.symm)]
theorem slots_none (n : Nat) : List.replicate n (Value.slice none 0 0) = slots n (fun _ => none) := by
  unfold slots
  refine List.ext_getElem (by simp) fun i a b => by simp [slotV]
/-- A table of rows: what lies in memory where E says that a host is held. -/
structure Tab (w : World) (lo n g : Nat) (X : Nat → Option Nat) (E : Hold) : Prop where
  tab : w.ownsRow lo 42 1 (.slice (some ⟨g, 0, none⟩) n n) n (slots n X)
  row : ∀ h c K, h < n → E h = some (c, K) → ∃ b, X h = some b ∧ w.ownsRow lo 4 1 (.slice (some ⟨b, 0, none⟩) n n) n (rowOf n K)
  inj : ∀ h h' b, X h = some b → X h' = some b → h = h'
  own : ∀ h b, X h = some b → h < n ∧ ∃ xs, w.ownsRow lo 4 1 (.slice (some ⟨b, 0, none⟩) n n) n xs
theorem Tab.grow {w w' : World} {lo n g : Nat} {X : Nat → Option Nat} {E : Hold} (t : Tab w lo n g X E) (hb : Below w.heap.size w w') : Tab w' lo n g X E :=
  ⟨own_grow t.tab hb, fun h c K hh e => by obtain ⟨b, h1, h2⟩ := t.row h c K hh e; exact ⟨b, h1, own_grow h2 hb⟩, t.inj, fun h b e => by obtain ⟨h1, xs, h2⟩ := t.own h b e; exact ⟨h1, xs, own_grow h2 hb⟩⟩
/-- A write to a block that is none of hers. -/
theorem Tab.kept {w w' : World} {lo n g q : Nat} {X : Nat → Option Nat} {E : Hold} (t : Tab w lo n g X E) (hg : w.grownBy w' (some q)) (h1 : g ≠ q) (h2 : ∀ h b, X h = some b → b ≠ q) : Tab w' lo n g X E :=
  ⟨t.tab.kept hg (.inr (by simpa [Value.ownBlock] using h1)), fun h c K hh e => by obtain ⟨b, e1, e2⟩ := t.row h c K hh e; exact ⟨b, e1, e2.kept hg (.inr (by simpa [Value.ownBlock] using h2 h b e1))⟩, t.inj, fun h b e => by obtain ⟨e1, xs, e2⟩ := t.own h b e; exact ⟨e1, xs, e2.kept hg (.inr (by simpa [Value.ownBlock] using h2 h b e))⟩⟩
/-- .. to a row of another kind. -/
theorem Tab.other {w w' : World} {lo n g q lo' e' m cap : Nat} {ys : List Value} {X : Nat → Option Nat} {E : Hold} (t : Tab w lo n g X E) (ho : w.ownsRow lo' e' 1 (.slice (some ⟨q, 0, none⟩) m cap) m ys) (hg : w.grownBy w' (some q)) (h4 : e' ≠ 4) (h42 : e' ≠ 42) : Tab w' lo n g X E := by
  refine t.kept hg (fun e => ?_) (fun h b e e2 => ?_)
  · exact kinds_apart ho t.tab h42 (by rw [e]; rfl)
  · obtain ⟨_, xs, h2⟩ := t.own h b e
    exact kinds_apart ho h2 h4 (by rw [e2]; rfl)
/-- A row is set. -/
theorem Tab.put {w : World} {lo n g b : Nat} {X : Nat → Option Nat} {E : Hold} (t : Tab w lo n g X E) (k c : Nat) (K : Nat → Bool) (hk : k < n) (hr : w.ownsRow lo 4 1 (.slice (some ⟨b, 0, none⟩) n n) n (rowOf n K)) (hnew : ∀ h, X h = some b → h = k) :
    Tab (w.setCell ⟨g, k, none⟩ (.slice (some ⟨b, 0, none⟩) n n)) lo n g (setX X k (some b)) (setM E k (c, K)) ∧ w.grownBy (w.setCell ⟨g, k, none⟩ (.slice (some ⟨b, 0, none⟩) n n)) (some g) := by
  have hst := t.tab.stored k (.slice (some ⟨b, 0, none⟩) n n)
  have e1 : (slots n X).set k (.slice (some ⟨b, 0, none⟩) n n) = slots n (setX X k (some b)) := slots_set n X k (some b)
  rw [e1] at hst
  have hk4 : ∀ {b' : Nat} {xs : List Value}, w.ownsRow lo 4 1 (.slice (some ⟨b', 0, none⟩) n n) n xs → (w.setCell ⟨g, k, none⟩ (.slice (some ⟨b, 0, none⟩) n n)).ownsRow lo 4 1 (.slice (some ⟨b', 0, none⟩) n n) n xs := fun ho => ho.kept hst.2 (.inr (by
    intro e
    exact kinds_apart t.tab ho (by decide) e))
  refine ⟨⟨hst.1, fun h c' K' hh e => ?_, fun h h' b' e e' => ?_, fun h b' e => ?_⟩, hst.2⟩
  · unfold setM at e
    unfold setX
    split at e
    · next he =>
      cases e
      exact ⟨b, by rw [if_pos he], hk4 hr⟩
    · next he =>
      obtain ⟨b', h1, h2⟩ := t.row h c' K' hh e
      exact ⟨b', by rw [if_neg he]; exact h1, hk4 h2⟩
  · unfold setX at e e'
    split at e
    · next he =>
      split at e'
      · next he' => rw [he, he']
      · next he' =>
        cases e
        exact absurd (hnew h' e') he'
    · next he =>
      split at e'
      · next he' =>
        cases e'
        exact absurd (hnew h e) he
      · exact t.inj h h' b' e e'
  · unfold setX at e
    split at e
    · next he =>
      cases e
      exact ⟨by omega, _, hk4 hr⟩
    · obtain ⟨h1, xs, h2⟩ := t.own h b' e
      exact ⟨h1, xs, hk4 h2⟩
/-- The slot is set to what another table holds. -/
theorem Tab.marked {w w' : World} {lo n g b k c : Nat} {X : Nat → Option Nat} {E : Hold} {K' : Nat → Bool} (t : Tab w lo n g X E) (hX : X k = some b) (hr : w'.ownsRow lo 4 1 (.slice (some ⟨b, 0, none⟩) n n) n (rowOf n K')) (hg : w.grownBy w' (some b)) : Tab w' lo n g X (setM E k (c, K')) := by
  obtain ⟨_, xs0, h0⟩ := t.own k b hX
  refine ⟨t.tab.kept hg (.inr (by intro e; exact kinds_apart h0 t.tab (by decide) e)), fun h c' K hh e => ?_, t.inj, fun h b' e => ?_⟩
  · unfold setM at e
    split at e
    · next he =>
      cases e
      exact ⟨b, by rw [he]; exact hX, hr⟩
    · next he =>
      obtain ⟨b', h1, h2⟩ := t.row h c' K hh e
      exact ⟨b', h1, h2.kept hg (.inr (by simp [Value.ownBlock]; intro e2; subst e2; exact he (t.inj h k b' h1 hX)))⟩
  · obtain ⟨h1, xs, h2⟩ := t.own h b' e
    refine ⟨h1, ?_⟩
    by_cases e2 : b' = b
    · subst e2; exact ⟨_, hr⟩
    · exact ⟨xs, h2.kept hg (.inr (by simpa [Value.ownBlock] using e2))⟩
theorem Tab.congr {w : World} {lo n g : Nat} {X : Nat → Option Nat} {E E' : Hold} (t : Tab w lo n g X E) (h : ∀ k, k < n → E' k = E k) : Tab w lo n g X E' :=
  ⟨t.tab, fun k c K hk e => t.row k c K hk (by rw [← h k hk]; exact e), t.inj, t.own⟩
end Go.Proofs.Qxb6614657a
