import Derived.Test.Qxb6614657aTabs
import Derived.Test.Qxb6614657aModel
namespace Go.Proofs.Qxb6614657a
open Go.RowKit

/-- The state of the model's walk while the stamp's counts are read. -/
structure MS (w wr : World) (n gc gk gm : Nat) (X0 : Nat → Option Nat) (M0 : Hold) (mx : Nat → Nat) : Prop where
  bel : Below w.heap.size w wr
  tab : Tab wr w.heap.size n gk X0 M0
  c0 : wr.ownsRow w.heap.size 37 1 (.slice (some ⟨gc, 0, none⟩) n n) n (cnts n (cntM M0))
  mx : wr.ownsRow w.heap.size 37 1 (.slice (some ⟨gm, 0, none⟩) n n) n (cnts n mx)
  ne : gc ≠ gm
theorem MS.grow {w wr w' : World} {n gc gk gm : Nat} {X0 : Nat → Option Nat} {M0 : Hold} {mx : Nat → Nat} (h : MS w wr n gc gk gm X0 M0 mx) (hb : Below wr.heap.size wr w') : MS w w' n gc gk gm X0 M0 mx :=
  ⟨h.bel.trans (hb.mono h.bel.size), h.tab.grow hb, own_grow h.c0 hb, own_grow h.mx hb, h.ne⟩
theorem cnts_set' (n : Nat) (c : Nat → Nat) (k v : Nat) : (cnts n c).set k (.int .u64 (v : Int)) = cnts n (setC c k v) := by
  unfold cnts setC
  refine List.ext_getElem (by simp) fun i a b => ?_
  rw [List.getElem_set]
  simp only [List.getElem_map, List.getElem_range]
  split
  · next e => rw [if_pos e.symm]
  · next e => rw [if_neg (fun h => e h.symm)]
theorem cnts_congr {n : Nat} {c d : Nat → Nat} (h : ∀ x, x < n → c x = d x) : cnts n c = cnts n d := by
  unfold cnts
  exact List.map_congr_left fun x hx => by rw [h x (by simpa using hx)]
theorem MS.store {w wr : World} {n gc gk gm : Nat} {X0 : Nat → Option Nat} {M0 : Hold} {mx : Nat → Nat} (h : MS w wr n gc gk gm X0 M0 mx) (k v : Nat) : MS w (wr.setCell ⟨gm, k, none⟩ (.int .u64 (v : Int))) n gc gk gm X0 M0 (setC mx k v) := by
  have hst := h.mx.stored k (.int .u64 (v : Int))
  rw [cnts_set'] at hst
  exact ⟨h.bel.grown hst.2 h.bel.size (fun q hq => by cases hq; exact (h.mx.lt _ rfl).1), h.tab.other h.mx hst.2 (by decide) (by decide), h.c0.kept hst.2 (.inr (by simpa [Value.ownBlock] using h.ne)), hst.1, h.ne⟩
/-- .. while the answer is being built. -/
structure ME (w wr : World) (n gc gk gm ge gs gR : Nat) (X0 : Nat → Option Nat) (M0 : Hold) (mx : Nat → Nat) (k : Nat) (X : Nat → Option Nat) (E : Hold) : Prop where
  ms : MS w wr n gc gk gm X0 M0 mx
  ec : wr.ownsRow w.heap.size 37 1 (.slice (some ⟨ge, 0, none⟩) n n) n (cnts n (cntM E))
  es : Tab wr w.heap.size n gs X E
  n1 : gc ≠ ge
  n2 : gm ≠ ge
  n3 : gk ≠ gs
  x0 : ∀ h b, X0 h = some b → b < gR
  old : ∀ h b, X h = some b → X0 h = some b ∨ gR ≤ b
  fut : ∀ h, k ≤ h → X h = none
  futE : ∀ h, k ≤ h → E h = none
  gR : gR ≤ wr.heap.size
theorem ME.grow {w wr w' : World} {n gc gk gm ge gs gR k : Nat} {X0 X : Nat → Option Nat} {M0 E : Hold} {mx : Nat → Nat} (h : ME w wr n gc gk gm ge gs gR X0 M0 mx k X E) (hb : Below wr.heap.size wr w') : ME w w' n gc gk gm ge gs gR X0 M0 mx k X E :=
  ⟨h.ms.grow hb, own_grow h.ec hb, h.es.grow hb, h.n1, h.n2, h.n3, h.x0, h.old, h.fut, h.futE, Nat.le_trans h.gR hb.size⟩
theorem cnt_set (E : Hold) (k c : Nat) (K : Nat → Bool) : cntM (setM E k (c, K)) = setC (cntM E) k c := cntM_set E k (c, K)
/-- A host's answer is stored. -/
theorem ME.put {w wr : World} {n gc gk gm ge gs gR k : Nat} {X0 X : Nat → Option Nat} {M0 E : Hold} {mx : Nat → Nat} (h : ME w wr n gc gk gm ge gs gR X0 M0 mx k X E) (hk : k < n) (c : Nat) (K : Nat → Bool) (b : Nat) (hr : wr.ownsRow w.heap.size 4 1 (.slice (some ⟨b, 0, none⟩) n n) n (rowOf n K)) (hb : X0 k = some b ∨ (gR ≤ b ∧ ∀ h, X h ≠ some b)) :
    ME w ((wr.setCell ⟨ge, k, none⟩ (.int .u64 (c : Int))).setCell ⟨gs, k, none⟩ (.slice (some ⟨b, 0, none⟩) n n)) n gc gk gm ge gs gR X0 M0 mx (k + 1) (setX X k (some b)) (setM E k (c, K)) := by
  have s1 := h.ec.stored k (.int .u64 (c : Int))
  rw [cnts_set', ← cnt_set E k c K] at s1
  have ms1 : MS w (wr.setCell ⟨ge, k, none⟩ (.int .u64 (c : Int))) n gc gk gm X0 M0 mx := ⟨h.ms.bel.grown s1.2 h.ms.bel.size (fun q hq => by cases hq; exact (h.ec.lt _ rfl).1), h.ms.tab.other h.ec s1.2 (by decide) (by decide), h.ms.c0.kept s1.2 (.inr (by simpa [Value.ownBlock] using h.n1)), h.ms.mx.kept s1.2 (.inr (by simpa [Value.ownBlock] using h.n2)), h.ms.ne⟩
  have es1 := h.es.other h.ec s1.2 (by decide) (by decide)
  have hr1 := hr.kept s1.2 (.inr (by intro e; exact kinds_apart h.ec hr (by decide) e))
  have hnew : ∀ h', X h' = some b → h' = k := fun h' e => by
    rcases hb with hb | ⟨_, hb⟩
    · rcases h.old h' b e with h1 | h1
      · exact h.ms.tab.inj h' k b h1 hb
      · have := h.x0 k b hb; omega
    · exact absurd e (hb h')
  obtain ⟨t2, g2⟩ := es1.put k c K hk hr1 hnew
  have ms2 : MS w ((wr.setCell ⟨ge, k, none⟩ (.int .u64 (c : Int))).setCell ⟨gs, k, none⟩ (.slice (some ⟨b, 0, none⟩) n n)) n gc gk gm X0 M0 mx :=
    ⟨ms1.bel.grown g2 ms1.bel.size (fun q hq => by cases hq; exact (es1.tab.lt _ rfl).1), ms1.tab.kept g2 h.n3 (fun h' b' e e2 => by
      obtain ⟨_, xs, h2⟩ := ms1.tab.own h' b' e
      exact kinds_apart es1.tab h2 (by decide) (by rw [e2]; rfl)),
    ms1.c0.kept g2 (.inr (by intro e; exact kinds_apart es1.tab ms1.c0 (by decide) e)), ms1.mx.kept g2 (.inr (by intro e; exact kinds_apart es1.tab ms1.mx (by decide) e)), h.ms.ne⟩
  refine ⟨ms2, s1.1.kept g2 (.inr (by intro e; exact kinds_apart es1.tab s1.1 (by decide) e)), t2, h.n1, h.n2, h.n3, h.x0, fun h' b' e => ?_, fun h' hh => ?_, fun h' hh => ?_, ?_⟩
  · unfold setX at e
    split at e
    · next he =>
      cases e
      rcases hb with hb | ⟨hb, _⟩
      · left; rw [he]; exact hb
      · exact .inr hb
    · exact h.old h' b' e
  · unfold setX; rw [if_neg (by omega)]; exact h.fut h' (by omega)
  · unfold setM; rw [if_neg (by omega)]; exact h.futE h' (by omega)
  · have := h.gR; have e1 := s1.2.size; have e2 := g2.size; omega
/-- A host that is not held. -/
theorem ME.unheld {w wr : World} {n gc gk gm ge gs gR k : Nat} {X0 X : Nat → Option Nat} {M0 E : Hold} {mx : Nat → Nat} (h : ME w wr n gc gk gm ge gs gR X0 M0 mx k X E) :
    ME w ((wr.setCell ⟨ge, k, none⟩ (.int .u64 ((0 : Nat) : Int))).setCell ⟨gs, k, none⟩ (.slice none 0 0)) n gc gk gm ge gs gR X0 M0 mx (k + 1) X E := by
  have s1 := h.ec.stored k (.int .u64 ((0 : Nat) : Int))
  have e1 : setC (cntM E) k 0 = cntM E := by
    have : cntM E k = 0 := by unfold cntM; rw [h.futE k (Nat.le_refl _)]
    rw [← this]; exact setC_self _ _
  rw [cnts_set', e1] at s1
  have ms1 : MS w (wr.setCell ⟨ge, k, none⟩ (.int .u64 ((0 : Nat) : Int))) n gc gk gm X0 M0 mx := ⟨h.ms.bel.grown s1.2 h.ms.bel.size (fun q hq => by cases hq; exact (h.ec.lt _ rfl).1), h.ms.tab.other h.ec s1.2 (by decide) (by decide), h.ms.c0.kept s1.2 (.inr (by simpa [Value.ownBlock] using h.n1)), h.ms.mx.kept s1.2 (.inr (by simpa [Value.ownBlock] using h.n2)), h.ms.ne⟩
  have es1 := h.es.other h.ec s1.2 (by decide) (by decide)
  have s2 := es1.tab.stored k (.slice none 0 0)
  have e2 : (slots n X).set k (.slice none 0 0) = slots n X := by
    have h0 : (slots n X).set k (slotV n none) = slots n (setX X k none) := slots_set n X k none
    have h1 : setX X k none = X := by
      funext x
      unfold setX
      split
      · next e => rw [e]; exact (h.fut k (Nat.le_refl _)).symm
      · rfl
    rw [h1] at h0
    exact h0
  rw [e2] at s2
  have hk4 : ∀ {b' : Nat} {xs : List Value}, (wr.setCell ⟨ge, k, none⟩ (.int .u64 ((0 : Nat) : Int))).ownsRow w.heap.size 4 1 (.slice (some ⟨b', 0, none⟩) n n) n xs → ((wr.setCell ⟨ge, k, none⟩ (.int .u64 ((0 : Nat) : Int))).setCell ⟨gs, k, none⟩ (.slice none 0 0)).ownsRow w.heap.size 4 1 (.slice (some ⟨b', 0, none⟩) n n) n xs := fun ho => ho.kept s2.2 (.inr (by
    intro e
    exact kinds_apart es1.tab ho (by decide) e))
  refine ⟨⟨ms1.bel.grown s2.2 ms1.bel.size (fun q hq => by cases hq; exact (es1.tab.lt _ rfl).1), ms1.tab.kept s2.2 h.n3 (fun h' b' e e2 => by
      obtain ⟨_, xs, h2⟩ := ms1.tab.own h' b' e
      exact kinds_apart es1.tab h2 (by decide) (by rw [e2]; rfl)),
    ms1.c0.kept s2.2 (.inr (by intro e; exact kinds_apart es1.tab ms1.c0 (by decide) e)), ms1.mx.kept s2.2 (.inr (by intro e; exact kinds_apart es1.tab ms1.mx (by decide) e)), h.ms.ne⟩, s1.1.kept s2.2 (.inr (by intro e; exact kinds_apart es1.tab s1.1 (by decide) e)), ⟨s2.1, fun h' c K hh e => by obtain ⟨b', a1, a2⟩ := es1.row h' c K hh e; exact ⟨b', a1, hk4 a2⟩, es1.inj, fun h' b' e => by obtain ⟨a1, xs, a2⟩ := es1.own h' b' e; exact ⟨a1, xs, hk4 a2⟩⟩, h.n1, h.n2, h.n3, h.x0, h.old, fun h' hh => h.fut h' (by omega), fun h' hh => h.futE h' (by omega), ?_⟩
  have := h.gR; have e1 := s1.2.size; have e2 := s2.2.size; omega
/-- .. and while the columns are being marked. -/
structure MF (w wr : World) (n gc gm ge gs : Nat) (M0 : Hold) (mx : Nat → Nat) (X : Nat → Option Nat) (E : Hold) : Prop where
  bel : Below w.heap.size w wr
  c0 : wr.ownsRow w.heap.size 37 1 (.slice (some ⟨gc, 0, none⟩) n n) n (cnts n (cntM M0))
  mx : wr.ownsRow w.heap.size 37 1 (.slice (some ⟨gm, 0, none⟩) n n) n (cnts n mx)
  ec : wr.ownsRow w.heap.size 37 1 (.slice (some ⟨ge, 0, none⟩) n n) n (cnts n (cntM E))
  es : Tab wr w.heap.size n gs X E
theorem MF.grow {w wr w' : World} {n gc gm ge gs : Nat} {X : Nat → Option Nat} {M0 E : Hold} {mx : Nat → Nat} (h : MF w wr n gc gm ge gs M0 mx X E) (hb : Below wr.heap.size wr w') : MF w w' n gc gm ge gs M0 mx X E :=
  ⟨h.bel.trans (hb.mono h.bel.size), own_grow h.c0 hb, own_grow h.mx hb, own_grow h.ec hb, h.es.grow hb⟩
theorem MF.mark {w wr w' : World} {n gc gm ge gs b k c : Nat} {X : Nat → Option Nat} {M0 E : Hold} {mx : Nat → Nat} {K' : Nat → Bool} (h : MF w wr n gc gm ge gs M0 mx X E) (hX : X k = some b) (hc : cntM E k = c) (hr : w'.ownsRow w.heap.size 4 1 (.slice (some ⟨b, 0, none⟩) n n) n (rowOf n K')) (hg : wr.grownBy w' (some b)) : MF w w' n gc gm ge gs M0 mx X (setM E k (c, K')) := by
  obtain ⟨_, xs0, h0⟩ := h.es.own k b hX
  have e1 : cntM (setM E k (c, K')) = cntM E := by rw [cnt_set, ← hc]; exact setC_self _ _
  refine ⟨h.bel.grown hg h.bel.size (fun q hq => by cases hq; exact (h0.lt _ rfl).1), h.c0.kept hg (.inr (by intro e; exact kinds_apart h0 h.c0 (by decide) e)), h.mx.kept hg (.inr (by intro e; exact kinds_apart h0 h.mx (by decide) e)), ?_, h.es.marked hX hr hg⟩
  rw [e1]
  exact h.ec.kept hg (.inr (by intro e; exact kinds_apart h0 h.ec (by decide) e))
theorem MF.congr {w wr : World} {n gc gm ge gs : Nat} {X : Nat → Option Nat} {M0 E E' : Hold} {mx : Nat → Nat} (h : MF w wr n gc gm ge gs M0 mx X E) (he : ∀ k, k < n → E' k = E k) : MF w wr n gc gm ge gs M0 mx X E' := by
  refine ⟨h.bel, h.c0, h.mx, ?_, h.es.congr he⟩
  rw [cnts_congr (d := cntM E) (fun x hx => by unfold cntM; rw [he x hx])]
  exact h.ec
end Go.Proofs.Qxb6614657a
