import Derived.Test.Qxb6614657aModelA
namespace Go.Proofs.Qxb6614657a
open Go.RowKit

/-- A row that the model makes. -/
structure RowN (wr W : World) (n gr : Nat) (K : Nat → Bool) : Prop where
  bel : Below wr.heap.size wr W
  ge : wr.heap.size ≤ gr
  own : W.ownsRow wr.heap.size 4 1 (.slice (some ⟨gr, 0, none⟩) n n) n (rowOf n K)
theorem RowN.set {wr W : World} {n gr : Nat} {K : Nat → Bool} (h : RowN wr W n gr K) (x : Nat) : RowN wr (W.setCell ⟨gr, x, none⟩ (.bool true)) n gr (fun l => K l || decide (l = x)) := by
  have st := h.own.stored x (.bool true)
  rw [rowOf_set] at st
  exact ⟨h.bel.grown st.2 h.bel.size (fun q hq => by cases hq; exact h.ge), h.ge, st.1⟩
theorem RowN.congr {wr W : World} {n gr : Nat} {K K' : Nat → Bool} (h : RowN wr W n gr K) (e : ∀ l, K l = K' l) : RowN wr W n gr K' := by
  rw [show K' = K from funext fun l => (e l).symm]; exact h
theorem RowN.cells {wr W : World} {n gr : Nat} {K : Nat → Bool} (h : RowN wr W n gr K) (x : Nat) (hx : x < n) : W.cell? ⟨gr, x, none⟩ = some (.bool (K x)) ∧ W.frozen? ⟨gr, x, none⟩ = false :=
  ⟨by rw [h.own.cellAt x (by omega)]; exact rowOf_get n K x hx, h.own.frozenAt x⟩
/-- The third loop's state. -/
def L3 (w wr : World) (n gc gk gm ge gs gR : Nat) (X0 : Nat → Option Nat) (M0 : Hold) (mx : Nat → Nat) (N : Hold) (k : Nat) : Prop := ∃ X, ME w wr n gc gk gm ge gs gR X0 M0 mx k X (upE k N)
theorem L3.grow {w wr w' : World} {n gc gk gm ge gs gR k : Nat} {X0 : Nat → Option Nat} {M0 N : Hold} {mx : Nat → Nat} (h : L3 w wr n gc gk gm ge gs gR X0 M0 mx N k) (hb : Below wr.heap.size wr w') : L3 w w' n gc gk gm ge gs gR X0 M0 mx N k := by
  obtain ⟨X, h⟩ := h
  exact ⟨X, h.grow hb⟩
theorem L3.cells {w wr : World} {n gc gk gm ge gs gR k : Nat} {X0 : Nat → Option Nat} {M0 N : Hold} {mx : Nat → Nat} (h : L3 w wr n gc gk gm ge gs gR X0 M0 mx N k) (hk : k < n) :
    wr.cell? ⟨gm, k, none⟩ = some (.int .u64 (mx k : Int)) ∧ wr.cell? ⟨gc, k, none⟩ = some (.int .u64 (cntM M0 k : Int)) ∧ wr.cell? ⟨gk, k, none⟩ = some (slotV n (X0 k)) ∧ (∃ u, wr.cell? ⟨ge, k, none⟩ = some u) ∧ wr.frozen? ⟨ge, k, none⟩ = false := by
  obtain ⟨X, h⟩ := h
  refine ⟨?_, ?_, ?_, ⟨.int .u64 (cntM (upE k N) k : Int), ?_⟩, h.ec.frozenAt k⟩
  · rw [h.ms.mx.cellAt k (by omega)]; exact cnts_get n _ k hk
  · rw [h.ms.c0.cellAt k (by omega)]; exact cnts_get n _ k hk
  · rw [h.ms.tab.tab.cellAt k (by omega)]; exact slots_get n _ k hk
  · rw [h.ec.cellAt k (by omega)]; exact cnts_get n _ k hk
theorem L3.mid {w wr : World} {n gc gk gm ge gs gR k : Nat} {X0 : Nat → Option Nat} {M0 N : Hold} {mx : Nat → Nat} (h : L3 w wr n gc gk gm ge gs gR X0 M0 mx N k) (hk : k < n) (c : Nat) :
    (wr.setCell ⟨ge, k, none⟩ (.int .u64 (c : Int))).cell? ⟨gk, k, none⟩ = some (slotV n (X0 k)) ∧ (∃ u, (wr.setCell ⟨ge, k, none⟩ (.int .u64 (c : Int))).cell? ⟨gs, k, none⟩ = some u) ∧ (wr.setCell ⟨ge, k, none⟩ (.int .u64 (c : Int))).frozen? ⟨gs, k, none⟩ = false := by
  obtain ⟨X, h⟩ := h
  have s1 := h.ec.stored k (.int .u64 (c : Int))
  have t1 := h.ms.tab.other h.ec s1.2 (by decide) (by decide)
  have t2 := h.es.other h.ec s1.2 (by decide) (by decide)
  refine ⟨?_, ⟨slotV n (X k), ?_⟩, t2.tab.frozenAt k⟩
  · rw [t1.tab.cellAt k (by omega)]; exact slots_get n _ k hk
  · rw [t2.tab.cellAt k (by omega)]; exact slots_get n _ k hk
/-- The row that the process holds of a host. -/
theorem L3.held {w wr : World} {n gc gk gm ge gs gR k : Nat} {X0 : Nat → Option Nat} {M0 N : Hold} {mx : Nat → Nat} (h : L3 w wr n gc gk gm ge gs gR X0 M0 mx N k) (hk : k < n) (h0 : cntM M0 k ≠ 0) :
    ∃ b, X0 k = some b ∧ wr.ownsRow w.heap.size 4 1 (.slice (some ⟨b, 0, none⟩) n n) n (rowOf n (at' M0 k).2) := by
  obtain ⟨X, h⟩ := h
  cases e : M0 k with
  | none => unfold cntM at h0; rw [e] at h0; exact absurd rfl h0
  | some y =>
    obtain ⟨b, h1, h2⟩ := h.ms.tab.row k y.1 y.2 hk e
    exact ⟨b, h1, by rw [at_some e]; exact h2⟩
theorem L3.keep {w wr : World} {n gc gk gm ge gs gR k : Nat} {X0 : Nat → Option Nat} {M0 N : Hold} {mx : Nat → Nat} (h : L3 w wr n gc gk gm ge gs gR X0 M0 mx N k) (hno : ∀ h, M0 h = none → X0 h = none) (hk : k < n) (hN : N k = M0 k) :
    L3 w ((wr.setCell ⟨ge, k, none⟩ (.int .u64 (cntM M0 k : Int))).setCell ⟨gs, k, none⟩ (slotV n (X0 k))) n gc gk gm ge gs gR X0 M0 mx N (k + 1) := by
  obtain ⟨X, h⟩ := h
  cases e : M0 k with
  | none =>
    have e1 : cntM M0 k = 0 := by unfold cntM; rw [e]
    rw [hno k e, e1]
    have := h.unheld
    refine ⟨X, ?_⟩
    rw [upE_none (by rw [hN]; exact e)]
    exact this
  | some y =>
    obtain ⟨b, h1, h2⟩ := h.ms.tab.row k y.1 y.2 hk e
    have e1 : cntM M0 k = y.1 := by unfold cntM; rw [e]
    rw [h1, e1]
    refine ⟨setX X k (some b), ?_⟩
    rw [upE_put (y := y) (by rw [hN]; exact e)]
    exact h.put hk y.1 y.2 b h2 (.inl h1)
theorem L3.put {w wr W : World} {n gc gk gm ge gs gR gr k : Nat} {X0 : Nat → Option Nat} {M0 N : Hold} {mx : Nat → Nat} {K : Nat → Bool} (h : L3 w wr n gc gk gm ge gs gR X0 M0 mx N k) (hk : k < n) (hr : RowN wr W n gr K) (c : Nat) (hN : N k = some (c, K)) :
    L3 w ((W.setCell ⟨ge, k, none⟩ (.int .u64 (c : Int))).setCell ⟨gs, k, none⟩ (.slice (some ⟨gr, 0, none⟩) n n)) n gc gk gm ge gs gR X0 M0 mx N (k + 1) := by
  obtain ⟨X, h⟩ := h
  refine ⟨setX X k (some gr), ?_⟩
  rw [upE_put hN]
  refine (h.grow hr.bel).put hk c K gr (own_lower hr.own h.ms.bel.size) (.inr ⟨Nat.le_trans h.gR hr.ge, fun h' e => ?_⟩)
  obtain ⟨_, xs, hx⟩ := h.es.own h' _ e
  have : gr < wr.heap.size := (hx.lt _ rfl).2
  have := hr.ge
  omega
/-- The row that a make leaves. -/
theorem RowN.new {wr W : World} {lo n : Nat} (hown : W.ownsRow lo 4 1 (.slice (some ⟨wr.heap.size, 0, none⟩) n n) n (rowOf n (fun _ => false))) (hg : wr.grownBy W none) : RowN wr W n wr.heap.size (fun _ => false) := by
  have hb : Below wr.heap.size wr W := (Below.refl _ _).grown hg (Nat.le_refl _) (fun _ h => by cases h)
  refine ⟨hb, Nat.le_refl _, hown.1, ?_⟩
  rcases hown.2 with e | ⟨g, cap, cur, e1, e2, e3⟩
  · exact .inl e
  · refine .inr ⟨g, cap, cur, e1, ?_, e3⟩
    simp only [Value.slice.injEq, Option.some.injEq, Addr.mk.injEq] at e1
    omega
theorem size4 : (Try.prog.info? 4).map (·.size) = some 1 := by kernel_rfl
theorem rowOf_one (n : Nat) (K : Nat → Bool) : ∀ u ∈ rowOf n K, u.oneCell' = true := by
  intro u hu
  obtain ⟨l, _, rfl⟩ := List.mem_map.1 hu
  rfl
theorem row_made (n : Nat) : (madeCells (Value.bool false).cells (n * 1)).toList = rowOf n (fun _ => false) := by
  rw [Nat.mul_one]
  exact (toList_madeCells_one (.bool false) n).trans (by unfold rowOf; refine List.ext_getElem (by simp) fun i a b => by simp)
theorem copy_row {wr W : World} {n gr b lo : Nat} {K K' : Nat → Bool} (h : RowN wr W n gr K) (hb : W.ownsRow lo 4 1 (.slice (some ⟨b, 0, none⟩) n n) n (rowOf n K')) :
    (Builtin.copy_ #[42, 42] 3 #[.slice (some ⟨gr, 0, none⟩) n n, .slice (some ⟨b, 0, none⟩) n n]).run Try.prog W = .ok (goInt (rowOf n K').length) (W.setCells gr 0 (rowOf n K')) := by
  refine run_copy_cells W 42 42 3 4 gr 0 n n ⟨b, 0, none⟩ n n (rowOf n K') Try.underlying42 size4 (by simp [rowOf_length]) (fun j v hv => ?_) (fun j hj => ?_) (fun j hj => ?_) (rowOf_one n K')
  · have hj : j < n := by rw [← rowOf_length n K']; exact (List.getElem?_eq_some_iff.1 hv).1
    rw [Addr.add_lit, Nat.zero_add, hb.cellAt j (by omega)]; exact hv
  · rw [rowOf_length] at hj
    rw [Nat.zero_add, (h.cells j hj).1]; rfl
  · rw [Nat.zero_add]; exact h.own.frozenAt j
/-- .. and what a copy leaves of another's. -/
theorem RowN.copied {wr W : World} {n gr : Nat} {K : Nat → Bool} (h : RowN wr W n gr K) (K' : Nat → Bool) : RowN wr (W.setCells gr 0 (rowOf n K')) n gr K' := by
  have st := own_setCells (rowOf n K') 0 h.own
  rw [putAt_all _ _ (by rw [rowOf_length, rowOf_length])] at st
  exact ⟨h.bel.grown st.2 h.bel.size (fun q hq => by cases hq; exact h.ge), h.ge, st.1⟩
theorem MS.start {w W W1 : World} {n gc gk : Nat} {X0 : Nat → Option Nat} {M0 : Hold} (hb : Below w.heap.size w W) (ht : Tab W w.heap.size n gk X0 M0) (hc : W.ownsRow w.heap.size 37 1 (.slice (some ⟨gc, 0, none⟩) n n) n (cnts n (cntM M0))) (h1 : W1.ownsRow w.heap.size 37 1 (.slice (some ⟨W.heap.size, 0, none⟩) n n) n (cnts n fun _ => 0)) (g1 : W.grownBy W1 none) : MS w W1 n gc gk W.heap.size X0 M0 (mx0 []) := by
  have b1 : Below W.heap.size W W1 := (Below.refl _ _).grown g1 (Nat.le_refl _) (fun _ h => by cases h)
  refine ⟨hb.trans (b1.mono hb.size), ht.grow b1, own_grow hc b1, h1, ?_⟩
  have : gc < W.heap.size := (hc.lt _ rfl).2
  omega
theorem L3.start {w W W1 W2 : World} {n gc gk gm : Nat} {X0 : Nat → Option Nat} {M0 N : Hold} {mx : Nat → Nat} (h : MS w W n gc gk gm X0 M0 mx) (h1 : W1.ownsRow w.heap.size 37 1 (.slice (some ⟨W.heap.size, 0, none⟩) n n) n (cnts n fun _ => 0)) (g1 : W.grownBy W1 none)
    (h2 : W2.ownsRow w.heap.size 42 1 (.slice (some ⟨W1.heap.size, 0, none⟩) n n) n (slots n fun _ => none)) (g2 : W1.grownBy W2 none) : L3 w W2 n gc gk gm W.heap.size W1.heap.size W.heap.size X0 M0 mx N 0 := by
  have b1 : Below W.heap.size W W1 := (Below.refl _ _).grown g1 (Nat.le_refl _) (fun _ h => by cases h)
  have b2 : Below W1.heap.size W1 W2 := (Below.refl _ _).grown g2 (Nat.le_refl _) (fun _ h => by cases h)
  have b3 : Below W.heap.size W W2 := b1.trans (b2.mono b1.size)
  have l1 : gc < W.heap.size := (h.c0.lt _ rfl).2
  have l2 : gm < W.heap.size := (h.mx.lt _ rfl).2
  have l3 : gk < W.heap.size := (h.tab.tab.lt _ rfl).2
  have l4 := b1.size
  refine ⟨fun _ => none, h.grow b3, ?_, ⟨h2, fun k c K hk e => ?_, fun _ _ _ e => (by cases e), fun _ _ e => by cases e⟩, by omega, by omega, by omega, fun k b e => ?_, fun _ _ e => (by cases e), fun _ _ => rfl, fun k _ => (by rw [upE_zero]), b3.size⟩
  · have e : cntM (upE 0 N) = fun _ => 0 := by rw [upE_zero]; rfl
    rw [e]
    exact own_grow h1 b2
  · rw [upE_zero] at e; cases e
  · obtain ⟨_, xs, hx⟩ := h.tab.own k b e
    exact (hx.lt _ rfl).2
/-- The fourth loop's state. -/
def L4 (w wr : World) (n gc gm ge gs : Nat) (M0 : Hold) (mx : Nat → Nat) (E : Hold) : Prop := ∃ X, MF w wr n gc gm ge gs M0 mx X E
theorem L4.grow {w wr w' : World} {n gc gm ge gs : Nat} {M0 E : Hold} {mx : Nat → Nat} (h : L4 w wr n gc gm ge gs M0 mx E) (hb : Below wr.heap.size wr w') : L4 w w' n gc gm ge gs M0 mx E := by
  obtain ⟨X, h⟩ := h
  exact ⟨X, h.grow hb⟩
theorem L4.bel {w wr : World} {n gc gm ge gs : Nat} {M0 E : Hold} {mx : Nat → Nat} (h : L4 w wr n gc gm ge gs M0 mx E) : Below w.heap.size w wr := by
  obtain ⟨X, h⟩ := h
  exact h.bel
theorem L4.of {w wr : World} {n gc gk gm ge gs gR : Nat} {X0 : Nat → Option Nat} {M0 N : Hold} {mx : Nat → Nat} (h : L3 w wr n gc gk gm ge gs gR X0 M0 mx N n) : L4 w wr n gc gm ge gs M0 mx N := by
  obtain ⟨X, h⟩ := h
  exact ⟨X, (MF.of h).congr fun k hk => by unfold upE; rw [if_pos hk]⟩
theorem L4.cells {w wr : World} {n gc gm ge gs : Nat} {M0 E : Hold} {mx : Nat → Nat} (h : L4 w wr n gc gm ge gs M0 mx E) (k : Nat) (hk : k < n) :
    wr.cell? ⟨gm, k, none⟩ = some (.int .u64 (mx k : Int)) ∧ wr.cell? ⟨gc, k, none⟩ = some (.int .u64 (cntM M0 k : Int)) := by
  obtain ⟨X, h⟩ := h
  exact ⟨by rw [h.mx.cellAt k (by omega)]; exact cnts_get n _ k hk, by rw [h.c0.cellAt k (by omega)]; exact cnts_get n _ k hk⟩
theorem L4.mark {w wr : World} {n gc gm ge gs : Nat} {M0 E : Hold} {mx : Nat → Nat} (h : L4 w wr n gc gm ge gs M0 mx E) (k c : Nat) (K : Nat → Bool) (hk : k < n) (hE : E k = some (c, K)) :
    ∃ b, wr.cell? ⟨gs, k, none⟩ = some (.slice (some ⟨b, 0, none⟩) n n) ∧ wr.ownsRow w.heap.size 4 1 (.slice (some ⟨b, 0, none⟩) n n) n (rowOf n K) ∧
      ∀ (w' : World) (K' : Nat → Bool), w'.ownsRow w.heap.size 4 1 (.slice (some ⟨b, 0, none⟩) n n) n (rowOf n K') → wr.grownBy w' (some b) → L4 w w' n gc gm ge gs M0 mx (setM E k (c, K')) ∧ w'.cell? ⟨gs, k, none⟩ = some (.slice (some ⟨b, 0, none⟩) n n) := by
  obtain ⟨X, h⟩ := h
  obtain ⟨b, h1, h2⟩ := h.es.row k c K hk hE
  have key : ∀ {w' : World} {E' : Hold}, MF w w' n gc gm ge gs M0 mx X E' → w'.cell? ⟨gs, k, none⟩ = some (.slice (some ⟨b, 0, none⟩) n n) := fun h' => by
    rw [h'.es.tab.cellAt k (by omega), slots_get n X k hk, h1]
    rfl
  exact ⟨b, key h, h2, fun w' K' ho hg => ⟨⟨X, h.mark h1 (by unfold cntM; rw [hE]) ho hg⟩, key (h.mark h1 (by unfold cntM; rw [hE]) ho hg)⟩⟩
theorem L4.done {w wr : World} {n gc gm ge gs : Nat} {M0 E : Hold} {mx : Nat → Nat} (h : L4 w wr n gc gm ge gs M0 mx E) : ModQ w wr n E (.returned (.tuple #[.slice (some ⟨ge, 0, none⟩) n n, .slice (some ⟨gs, 0, none⟩) n n])) := by
  obtain ⟨X, h⟩ := h
  exact ⟨ge, gs, X, rfl, h.ec, h.es, h.bel⟩
end Go.Proofs.Qxb6614657a
