import Derived.Test.Qxb6614657aModelP
import Derived.Test.Qxb6614657aLawI
namespace Go.Proofs.Qxb6614657a
open Go.RowKit

theorem info42 : (Try.prog.info? 42).map (fun i => (i.zero, i.size, i.bytes)) = some (some (.slice none 0 0), 1, 24) := by kernel_rfl
theorem own_lower {w : World} {lo lo' e n : Nat} {v : Value} {xs : List Value} (h : w.ownsRow lo' e 1 v n xs) (hl : lo ≤ lo') : w.ownsRow lo e 1 v n xs := by
  refine ⟨h.1, ?_⟩
  rcases h.2 with e | ⟨g, cap, cur, e1, e2, e3⟩
  · exact .inl e
  · exact .inr ⟨g, cap, cur, e1, Nat.le_trans hl e2, e3⟩
/-- The state while the process's columns are read. -/
structure M1 (w wr : World) (n gc gk : Nat) (M : Hold) : Prop where
  bel : Below w.heap.size w wr
  tab : ∃ X, Tab wr w.heap.size n gk X M ∧ ∀ h, M h = none → X h = none
  c0 : wr.ownsRow w.heap.size 37 1 (.slice (some ⟨gc, 0, none⟩) n n) n (cnts n (cntM M))
theorem M1.grow {w wr w' : World} {n gc gk : Nat} {M : Hold} (h : M1 w wr n gc gk M) (hb : Below wr.heap.size wr w') : M1 w w' n gc gk M :=
  ⟨h.bel.trans (hb.mono h.bel.size), by obtain ⟨X, t, no⟩ := h.tab; exact ⟨X, t.grow hb, no⟩, own_grow h.c0 hb⟩
theorem M1.put {w W W1 : World} {n gc gk k : Nat} {M : Hold} (h : M1 w W n gc gk M) (hk : k < n) (c : Nat) (K : Nat → Bool) (ho : W1.ownsRow W.heap.size 4 1 (.slice (some ⟨W.heap.size, 0, none⟩) n n) n (rowOf n K)) (hb : Below W.heap.size W W1) :
    M1 w ((W1.drew.setCell ⟨gc, k, none⟩ (.int .u64 (c : Int))).setCell ⟨gk, k, none⟩ (.slice (some ⟨W.heap.size, 0, none⟩) n n)) n gc gk (setM M k (c, K)) := by
  have h1 := h.grow hb.drew
  have ho1 := (own_lower ho h.bel.size).drew
  have s1 := h1.c0.stored k (.int .u64 (c : Int))
  rw [cnts_set', ← cnt_set M k c K] at s1
  obtain ⟨X, t, no⟩ := h.tab
  have hnew : ∀ h', X h' = some W.heap.size → h' = k := fun h' e => by
    obtain ⟨_, xs, hx⟩ := t.own h' _ e
    have : W.heap.size < W.heap.size := (hx.lt _ rfl).2
    omega
  have t1 := (t.grow hb.drew).other h1.c0 s1.2 (by decide) (by decide)
  have hr1 := ho1.kept s1.2 (.inr (by intro e; exact kinds_apart h1.c0 ho1 (by decide) e))
  obtain ⟨t2, g2⟩ := t1.put k c K hk hr1 hnew
  have b1 := h1.bel.grown s1.2 h1.bel.size (fun q hq => by cases hq; exact (h1.c0.lt _ rfl).1)
  refine ⟨b1.grown g2 b1.size (fun q hq => by cases hq; exact (t1.tab.lt _ rfl).1), ⟨_, t2, fun h' e => ?_⟩, s1.1.kept g2 (.inr (by intro e; exact kinds_apart t1.tab s1.1 (by decide) e))⟩
  unfold setM at e
  unfold setX
  split at e
  · cases e
  · next he => rw [if_neg he]; exact no h' e
theorem M1.mid {w W W1 : World} {n gc gk k : Nat} {M : Hold} (h : M1 w W n gc gk M) (hk : k < n) (c : Nat) (hb : Below W.heap.size W W1) :
    Below w.heap.size w (W1.drew.setCell ⟨gc, k, none⟩ (.int .u64 (c : Int))) ∧ (∃ u, (W1.drew.setCell ⟨gc, k, none⟩ (.int .u64 (c : Int))).cell? ⟨gk, k, none⟩ = some u) ∧ (W1.drew.setCell ⟨gc, k, none⟩ (.int .u64 (c : Int))).frozen? ⟨gk, k, none⟩ = false := by
  have h1 := h.grow hb.drew
  have s1 := h1.c0.stored k (.int .u64 (c : Int))
  obtain ⟨X, t, no⟩ := h1.tab
  have t1 := t.other h1.c0 s1.2 (by decide) (by decide)
  exact ⟨h1.bel.grown s1.2 h1.bel.size (fun q hq => by cases hq; exact (h1.c0.lt _ rfl).1), ⟨_, by rw [t1.tab.cellAt k (by omega)]; exact slots_get n X k hk⟩, t1.tab.frozenAt k⟩
/-- What the model leaves. -/
def ModQ (w w' : World) (n : Nat) (E : Hold) (e : Ending) : Prop :=
  ∃ ge gs X, e = .returned (.tuple #[.slice (some ⟨ge, 0, none⟩) n n, .slice (some ⟨gs, 0, none⟩) n n]) ∧ w'.ownsRow w.heap.size 37 1 (.slice (some ⟨ge, 0, none⟩) n n) n (cnts n (cntM E)) ∧ Tab w' w.heap.size n gs X E ∧ Below w.heap.size w w'
theorem MF.of {w wr : World} {n gc gk gm ge gs gR k : Nat} {X0 X : Nat → Option Nat} {M0 E : Hold} {mx : Nat → Nat} (h : ME w wr n gc gk gm ge gs gR X0 M0 mx k X E) : MF w wr n gc gm ge gs M0 mx X E :=
  ⟨h.ms.bel, h.ms.c0, h.ms.mx, h.ec, h.es⟩
end Go.Proofs.Qxb6614657a
