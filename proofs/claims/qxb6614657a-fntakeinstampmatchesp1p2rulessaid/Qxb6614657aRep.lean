import Derived.Test.Qxb6614657aVec
namespace Go.Proofs.Qxb6614657a
open Go.RowKit

/-! What a process holds: for each host none, or its count and the hosts that are known to hold it. -/
abbrev Hold := Nat → Option (Nat × (Nat → Bool))
def setM (M : Hold) (k : Nat) (x : Nat × (Nat → Bool)) : Hold := fun h => if h = k then some x else M h
def cntM (M : Hold) (h : Nat) : Nat := match M h with | none => 0 | some x => x.1
theorem cntM_set (M : Hold) (k : Nat) (x : Nat × (Nat → Bool)) : cntM (setM M k x) = setC (cntM M) k x.1 := by
  funext h
  unfold cntM setM setC
  by_cases e : h = k <;> simp [e]
def Col (w : World) (lo n : Nat) (e : En) (K : Nat → Bool) : Prop :=
  ∃ bs, w.ownsRow lo 5 1 e.v bs.length (u8s bs) ∧ (∀ b ∈ bs, b < 256) ∧ e.f + bs.length ≤ (n + 7) / 8 ∧ (∀ l, bitAt e.f bs l = K l) ∧ (∀ l, K l = true → l < n)
def strs (fs : List ByteArray) : List Value := fs.map .string
theorem strs_length (fs : List ByteArray) : (strs fs).length = fs.length := by simp [strs]
def pcells (Bw : Nat) (me : Nat) (ev : Value) (BM : Nat) : Array Value := #[.pointer (some ⟨Bw, 0, none⟩), .slice none 0 0, .int .i64 me, ev, .map (some BM), .slice none 0 0]
structure RepC (w : World) (lo n Bp Bw BM : Nat) (hv ev : Value) (me : Nat) (hs : List ByteArray) (L : List En) (M : Hold) : Prop where
  p : w.heap[Bp]? = some (.cells (pcells Bw me ev BM) 69 (0, 0))
  wr : w.heap[Bw]? = some (.cells #[hv, .map none] 66 (0, 0))
  hl : hs.length = n
  sz : ∀ s ∈ hs, s.size ≤ maxLen
  hosts : w.ownsRow lo 9 1 hv n (strs hs)
  row : w.ownsRow lo 73 4 ev L.length (ents L)
  ord : L.Pairwise (fun a b => a.h < b.h)
  lt : ∀ e ∈ L, e.h < n
  cb : ∀ e ∈ L, e.c < 18446744073709551616
  col : ∀ e ∈ L, ∃ K, M e.h = some (e.c, K) ∧ Col w lo n e K
  non : ∀ h, (∀ e ∈ L, e.h ≠ h) → M h = none
  apart : L.Pairwise (fun a b => a.v.ownBlock = none ∨ a.v.ownBlock ≠ b.v.ownBlock)
  low : lo ≤ w.heap.size
  bm : ∃ es c, w.heap[BM]? = some (.map es c)

/-- The blocks that the process may turn. -/
def Ow (Bp BM : Nat) (ev : Value) (L : List En) (q : Nat) : Prop := q = Bp ∨ q = BM ∨ ev.ownBlock = some q ∨ ∃ e ∈ L, e.v.ownBlock = some q
structure FrO (w w' : World) (O O' : Nat → Prop) : Prop where
  os : w'.os = w.os
  tape : w'.tape = w.tape
  output : w'.output = w.output
  size : w.heap.size ≤ w'.heap.size
  block : ∀ q, q < w.heap.size → ¬ O q → w'.heap[q]? = w.heap[q]?
  sub : ∀ q, q < w.heap.size → O' q → O q
theorem FrO.refl (w : World) (O : Nat → Prop) : FrO w w O O := ⟨rfl, rfl, rfl, Nat.le_refl _, fun _ _ _ => rfl, fun _ _ h => h⟩
theorem FrO.trans {a b c : World} {O O' O'' : Nat → Prop} (h : FrO a b O O') (k : FrO b c O' O'') : FrO a c O O'' :=
  ⟨k.os.trans h.os, k.tape.trans h.tape, k.output.trans h.output, Nat.le_trans h.size k.size, fun q hq hn => (k.block q (Nat.lt_of_lt_of_le hq h.size) (fun h' => hn (h.sub q hq h'))).trans (h.block q hq hn), fun q hq h' => h.sub q hq (k.sub q (Nat.lt_of_lt_of_le hq h.size) h')⟩
theorem FrO.of {w w' : World} {O : Nat → Prop} (h : Below w.heap.size w w') : FrO w w' O O := ⟨h.os, h.tape, h.output, h.size, fun q hq _ => h.block q hq, fun _ _ h => h⟩

theorem ents_set (L : List En) : ∀ (i : Nat) (f : Nat) (v : Value) (hi : i < L.length), ((ents L).set (i * 4 + 2) (.int .i64 f)).set (i * 4 + 2 + 1) v = ents (L.set i ⟨L[i].h, L[i].c, f, v⟩) := by
  induction L with
  | nil => intro i f v hi; simp at hi
  | cons e L ih =>
    intro i f v hi
    match i, hi with
    | 0, _ => rw [List.set_cons_zero, ents_cons, ents_cons]; rfl
    | i + 1, hi =>
      have hi' : i < L.length := by simpa using hi
      rw [List.set_cons_succ, ents_cons, ents_cons, List.set_append_right _ _ (by rw [cells_len]; omega), List.set_append_right _ _ (by rw [cells_len]; omega), cells_len, show (i + 1) * 4 + 2 - 4 = i * 4 + 2 by omega, show (i + 1) * 4 + 2 + 1 - 4 = i * 4 + 2 + 1 by omega, ih i f v hi']
      rfl
theorem ents_setc (L : List En) : ∀ (i : Nat) (c : Nat) (hi : i < L.length), (ents L).set (i * 4 + 1) (.int .u64 c) = ents (L.set i ⟨L[i].h, c, L[i].f, L[i].v⟩) := by
  induction L with
  | nil => intro i c hi; simp at hi
  | cons e L ih =>
    intro i c hi
    match i, hi with
    | 0, _ => rw [List.set_cons_zero, ents_cons, ents_cons]; rfl
    | i + 1, hi =>
      have hi' : i < L.length := by simpa using hi
      rw [List.set_cons_succ, ents_cons, ents_cons, List.set_append_right _ _ (by rw [cells_len]; omega), cells_len, show (i + 1) * 4 + 1 - 4 = i * 4 + 1 by omega, ih i c hi']
      rfl
/-- A strictly rising list below n is no longer than n. -/
theorem rising_le : ∀ (L : List En) (a n : Nat), L.Pairwise (fun a b => a.h < b.h) → (∀ e ∈ L, a ≤ e.h ∧ e.h < n) → L.length ≤ n - a := by
  intro L
  induction L with
  | nil => intro a n _ _; simp
  | cons e L ih =>
    intro a n hp hb
    have hp' := List.pairwise_cons.1 hp
    have h1 := hb e (by simp)
    have := ih (e.h + 1) n hp'.2 (fun x hx => ⟨hp'.1 x hx, (hb x (by simp [hx])).2⟩)
    simp only [List.length_cons]
    omega
theorem RepC.len {w : World} {lo n Bp Bw BM : Nat} {hv ev : Value} {me : Nat} {hs : List ByteArray} {L : List En} {M : Hold} (h : RepC w lo n Bp Bw BM hv ev me hs L M) : L.length ≤ n := by
  have := rising_le L 0 n h.ord (fun e he => ⟨Nat.zero_le _, h.lt e he⟩)
  omega

theorem Col.kept {w w' : World} {lo n : Nat} {e : En} {K : Nat → Bool} (h : Col w lo n e K) (hk : ∀ q, e.v.ownBlock = some q → w'.heap[q]? = w.heap[q]?) : Col w' lo n e K := by
  obtain ⟨bs, h1, h2⟩ := h
  refine ⟨bs, ⟨h1.1, ?_⟩, h2⟩
  rcases h1.2 with hn | ⟨g, cap, cur, hv, hb, hg, rest⟩
  · exact .inl hn
  · exact .inr ⟨g, cap, cur, hv, hb, by rw [hk g (by rw [hv]; rfl)]; exact hg, rest⟩
theorem own_same {w w' : World} {lo e s n : Nat} {v : Value} {xs : List Value} (h : w.ownsRow lo e s v n xs) (hk : ∀ q, v.ownBlock = some q → w'.heap[q]? = w.heap[q]?) : w'.ownsRow lo e s v n xs := by
  refine ⟨h.1, ?_⟩
  rcases h.2 with hn | ⟨g, cap, cur, hv, hb, hg, rest⟩
  · exact .inl hn
  · exact .inr ⟨g, cap, cur, hv, hb, by rw [hk g (by rw [hv]; rfl)]; exact hg, rest⟩
theorem Col.plain {w : World} {lo n : Nat} {e : En} {K : Nat → Bool} (h : Col w lo n e K) : e.plain := by
  obtain ⟨bs, h1, _⟩ := h
  obtain ⟨a, c, e⟩ := row_shape h1
  exact ⟨a, _, c, e⟩
theorem RepC.plain {w : World} {lo n Bp Bw BM : Nat} {hv ev : Value} {me : Nat} {hs : List ByteArray} {L : List En} {M : Hold} (h : RepC w lo n Bp Bw BM hv ev me hs L M) : ∀ e ∈ L, e.plain := fun e he => by
  obtain ⟨K, _, hc⟩ := h.col e he
  exact hc.plain
/-- All that is not in the list stands. -/
theorem RepC.grow {w w' : World} {lo n Bp Bw BM : Nat} {hv ev : Value} {me : Nat} {hs : List ByteArray} {L : List En} {M : Hold} (h : RepC w lo n Bp Bw BM hv ev me hs L M) (hb : Below w.heap.size w w') : RepC w' lo n Bp Bw BM hv ev me hs L M := by
  have hq : ∀ q o, w.heap[q]? = some o → w'.heap[q]? = some o := fun q o ho => by rw [hb.block q (Array.getElem?_eq_some_iff.1 ho).1]; exact ho
  have hr : ∀ {e s m : Nat} {v : Value} {xs : List Value}, w.ownsRow lo e s v m xs → w'.ownsRow lo e s v m xs := fun ho => own_grow ho hb
  exact ⟨hq _ _ h.p, hq _ _ h.wr, h.hl, h.sz, hr h.hosts, hr h.row, h.ord, h.lt, h.cb, fun e he => by
    obtain ⟨K, h1, bs, h2, h3⟩ := h.col e he
    exact ⟨K, h1, bs, hr h2, h3⟩, h.non, h.apart, Nat.le_trans h.low hb.size, by obtain ⟨es, c, h1⟩ := h.bm; exact ⟨es, c, hq _ _ h1⟩⟩
end Go.Proofs.Qxb6614657a
