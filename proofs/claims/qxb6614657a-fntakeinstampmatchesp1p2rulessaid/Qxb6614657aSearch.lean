import Derived.Test.Qxb6614657aAddAll
import Derived.Deep.MidRow
namespace Go.Proofs.Qxb6614657a
open Go.RowKit

theorem isRow_of {ty : TypeId} (h : ((Try.prog.underlying ty).map TypeDesc.isRow) = some true) : ∃ d, Try.prog.underlying ty = some d ∧ d.isRow = true := by
  cases hu : Try.prog.underlying ty with
  | none => rw [hu] at h; cases h
  | some d => rw [hu] at h; exact ⟨d, rfl, by simpa using h⟩
def loadS (t : TypeId) (v : Value) : Sem Value := Instr.loadAt t v
def storeS (t : TypeId) (p v : Value) : Sem Unit := Instr.storeAt t p v
/-- An entry: its four cells. -/
structure En where
  h : Nat
  c : Nat
  f : Nat
  v : Value
def En.cells (e : En) : Array Value := #[.int .i64 e.h, .int .u64 e.c, .int .i64 e.f, e.v]
def ents (L : List En) : List Value := L.flatMap fun e => e.cells.toList
theorem ents_cons (e : En) (L : List En) : ents (e :: L) = e.cells.toList ++ ents L := by simp [ents]
theorem ents_append (L M : List En) : ents (L ++ M) = ents L ++ ents M := by simp [ents]
theorem cells_len (e : En) : e.cells.toList.length = 4 := rfl
theorem ents_length (L : List En) : (ents L).length = L.length * 4 := by
  induction L with
  | nil => rfl
  | cons e L ih => rw [ents_cons, List.length_append, ih, cells_len, List.length_cons]; omega
theorem ents_get (L : List En) : ∀ (i j : Nat) (hi : i < L.length), j < 4 → (ents L)[i * 4 + j]? = L[i].cells.toList[j]? := by
  induction L with
  | nil => intro i j hi; simp at hi
  | cons e L ih =>
    intro i j hi hj
    rw [ents_cons]
    match i, hi with
    | 0, _ => rw [List.getElem?_append_left (by rw [cells_len]; omega)]; simp
    | i + 1, hi =>
      rw [List.getElem?_append_right (by rw [cells_len]; omega), cells_len, show (i + 1) * 4 + j - 4 = i * 4 + j by omega]
      exact ih i j (by simpa using hi) hj
/-- The row of entries: the entry at i. -/
theorem ents_range {w : World} {lo G m cap : Nat} {L : List En} (h : w.ownsRow lo 73 4 (.slice (some ⟨G, 0, none⟩) m cap) m (ents L)) (i : Nat) (hi : i < L.length) : w.rangeAt G (i * 4) L[i].cells.toList := by
  intro j v hv
  have hj : j < 4 := by have := (List.getElem?_eq_some_iff.1 hv).1; rwa [cells_len] at this
  have hm := h.1
  rw [ents_length] at hm
  rw [h.cellAt (i * 4 + j) (by omega), ents_get L i j hi hj]; exact hv
theorem size73 : (Try.prog.info? 73).map (·.size) = some 4 := by kernel_rfl
theorem row73 : ((Try.prog.underlying 73).map TypeDesc.isRow) = some true := by kernel_rfl
theorem load73S (v : Value) : Instr.loadAt 73 v = loadS 73 v := rfl
theorem store73S (p v : Value) : Instr.storeAt 73 p v = storeS 73 p v := rfl
theorem load73V_at {w : World} {g o : Nat} {e : En} (h : w.rangeAt g o e.cells.toList) : (loadS 73 (.pointer (some ⟨g, o, none⟩))).run Try.prog w = .ok (.agg e.cells) w := by
  obtain ⟨d, hu, hd⟩ := isRow_of row73
  exact run_loadAt_mid (P := Try.prog) w g o 73 e.cells.toList d h hu hd size73

def cmpI (a b : Nat) : Int := if a < b then -1 else if b < a then 1 else 0
set_option maxRecDepth 100000 in
theorem compare_any (a b : Nat) (w : World) :
    Calls Try.prog 40 #[.int .i64 a, .int .i64 b] w fun e w' => e = .returned (.int .i64 (cmpI a b)) ∧ w' = w := by
  unfold cmpI
  by_cases h1 : a < b
  · rw [if_pos h1]
    have d1 : decide ((a : Int) < (b : Int)) = true := by simpa using h1
    go_enter Try.func40, Try.ntmps40
    go_wp2
    go_ret
    exact ⟨rfl, rfl⟩
  · rw [if_neg h1]
    have d1 : decide ((a : Int) < (b : Int)) = false := by simpa using h1
    by_cases h2 : b < a
    · rw [if_pos h2]
      have d2 : decide ((b : Int) < (a : Int)) = true := by simpa using h2
      go_enter Try.func40, Try.ntmps40
      go_wp2
      go_ret
      exact ⟨rfl, rfl⟩
    · rw [if_neg h2]
      have d2 : decide ((b : Int) < (a : Int)) = false := by simpa using h2
      go_enter Try.func40, Try.ntmps40
      go_wp2
      go_ret
      exact ⟨rfl, rfl⟩
set_option maxRecDepth 100000 in
theorem compareHost_any (e : En) (k : Nat) (w : World) :
    Calls Try.prog 37 #[.agg e.cells, .int .i64 k] w fun r w' => r = .returned (.int .i64 (cmpI e.h k)) ∧ Below w.heap.size w w' := by
  have b0 : Below w.heap.size w (w.alloc (.cells e.cells 73)) := (Below.refl _ _).alloc (Nat.le_refl _) _
  have B0 : Hid _ := b0
  clear b0
  have q0 : e.cells[0]? = some (.int .i64 e.h) := rfl
  go_enter Try.func37, Try.ntmps37
  go_wp2_with (go_at_call 40; refine (compare_any _ _ _).mono ?_; rintro r w' ⟨rfl, rfl⟩)
  go_ret
  exact ⟨rfl, B0.out⟩

/-- What the search answers: the first entry whose host is not below k, and whether it is k's. -/
def Found (L : List En) (k : Nat) (e : Ending) : Prop :=
  ∃ (i : Nat) (b : Bool), e = .returned (.tuple #[.int .i64 (i : Int), .bool b]) ∧ i ≤ L.length ∧ (∀ j (hj : j < L.length), j < i → L[j].h < k) ∧ (∀ j (hj : j < L.length), i ≤ j → k ≤ L[j].h) ∧ (b = true ↔ ∃ hi : i < L.length, L[i].h = k)
attribute [local go_sem ↓] load73S store73S

set_option maxRecDepth 100000 in
set_option maxHeartbeats 1000000 in
theorem search_any (L : List En) (k : Nat) (lo : Nat) (ev : Value) (w : World) (hL : L.length ≤ 1048576) (hs : L.Pairwise (fun a b => a.h < b.h)) (hrow : w.ownsRow lo 73 4 ev L.length (ents L)) :
    Calls Try.prog 36 #[ev, .int .i64 k, .func (.func 37) #[] #[]] w fun e w' => Found L k e ∧ Below w.heap.size w w' := by
  obtain ⟨a, c, rfl⟩ := row_shape hrow
  go_enter Try.func36, Try.ntmps36
  go_wp2_with fail
  go_loopw [9, 10] (fun vi vj wr => ∃ i j : Nat, i ≤ j ∧ j ≤ L.length ∧ vi = .int .i64 i ∧ vj = .int .i64 j ∧ (∀ q (hq : q < L.length), q < i → L[q].h < k) ∧ (∀ q (hq : q < L.length), j ≤ q → k ≤ L[q].h) ∧ Below w.heap.size w wr) (fun vi vj _ => (intOf vj).toNat - (intOf vi).toNat)
  case atStart => exact ⟨0, L.length, Nat.zero_le _, Nat.le_refl _, rfl, rfl, fun q _ h => absurd h (Nat.not_lt_zero _), fun q hq h => by omega, Below.refl _ _⟩
  case round =>
    obtain ⟨i, j, hij, hj, rfl, rfl, hlo, hhi, hb⟩ := hrel
    have hrow' := own_grow hrow hb
    by_cases hlt : i < j
    · obtain ⟨d, hd, hd1, hd2⟩ : ∃ d : Nat, ((i : Int) + (j : Int)) / 2 = (d : Int) ∧ i ≤ d ∧ d < j := ⟨(i + j) / 2, by omega, by omega, by omega⟩
      have hdl : d < L.length := by omega
      obtain ⟨g, cp, e⟩ : ∃ g c', (Value.slice a L.length c) = .slice (some ⟨g, 0, none⟩) L.length c' := by
        rcases hrow'.2 with ⟨_, e⟩ | ⟨g, cap, cur, e, _⟩
        · omega
        · exact ⟨_, _, e⟩
      simp only [Value.slice.injEq, true_and] at e
      obtain ⟨rfl, rfl⟩ := e
      have hld := load73V_at (ents_range hrow' d hdl)
      have hcm := compareHost_any L[d] k wr
      clear hrow'
      have hord : ∀ p q (hp : p < L.length) (hq : q < L.length), p < q → L[p].h < L[q].h := fun p q hp hq hpq => List.pairwise_iff_getElem.1 hs p q hp hq hpq
      go_wp2_with fail
      refine hcm.mono ?_
      clear hcm hld
      rintro e w1 ⟨rfl, hb1⟩
      have hb2 := hb.trans (hb1.mono hb.size)
      by_cases hc : L[d].h < k
      · have e1 : cmpI L[d].h k = -1 := by unfold cmpI; rw [if_pos hc]
        have hnx : (∀ q (hq : q < L.length), q < d + 1 → L[q].h < k) := fun q hq h => by
          by_cases e : q = d
          · subst e; exact hc
          · exact Nat.lt_trans (hord q d hq hdl (by omega)) hc
        have HX : Hid _ := hnx
        have HH : Hid _ := hhi
        have HB : Hid _ := hb2
        rw [e1]
        clear hnx hlo hhi hord hb hb1 hb2 e1
        go_wp2
        go_roundw
        case rel => exact ⟨d + 1, j, by omega, hj, by go_num, rfl, HX.out, HH.out, HB.out⟩
        case measure => simp [intOf]; omega
      · have e1 : decide (cmpI L[d].h k < 0) = false := by
          unfold cmpI
          rw [if_neg hc]
          split <;> simp
        have hnx : (∀ q (hq : q < L.length), d ≤ q → k ≤ L[q].h) := fun q hq h => by
          by_cases e : q = d
          · subst e; omega
          · have := hord d q hdl hq (by omega)
            omega
        have HX : Hid _ := hnx
        have HH : Hid _ := hlo
        have HB : Hid _ := hb2
        clear hnx hlo hhi hord hb hb1 hb2
        go_wp2
        go_roundw
        case rel => exact ⟨i, d, by omega, by omega, rfl, by go_num, HH.out, HX.out, HB.out⟩
        case measure => simp [intOf]; omega
    · have hji : i = j := by omega
      subst hji
      by_cases hin : i < L.length
      · obtain ⟨g, cp, e⟩ : ∃ g c', (Value.slice a L.length c) = .slice (some ⟨g, 0, none⟩) L.length c' := by
          rcases hrow'.2 with ⟨_, e⟩ | ⟨g, cap, cur, e, _⟩
          · omega
          · exact ⟨_, _, e⟩
        simp only [Value.slice.injEq, true_and] at e
        obtain ⟨rfl, rfl⟩ := e
        have hld := load73V_at (ents_range hrow' i hin)
        have hcm := compareHost_any L[i] k wr
        have HL : Hid _ := hlo
        have HH : Hid _ := hhi
        have d1 : decide ((i : Int) < (L.length : Int)) = true := by simpa using hin
        clear hrow' hlo hhi hrow
        go_wp2_with fail
        refine hcm.mono ?_
        clear hcm hld
        rintro e w1 ⟨rfl, hb1⟩
        have hb2 := hb.trans (hb1.mono hb.size)
        clear hb hb1
        by_cases hc : L[i].h = k
        · have e1 : cmpI L[i].h k = 0 := by unfold cmpI; rw [hc]; simp
          rw [e1]
          go_wp2
          go_ret2
          exact ⟨⟨i, true, rfl, Nat.le_of_lt hin, HL.out, HH.out, by simp [hin, hc]⟩, hb2⟩
        · have e1 : (cmpI L[i].h k == 0) = false := by
            unfold cmpI
            split
            · rfl
            · split
              · rfl
              · omega
          generalize cmpI L[i].h k = z at *
          go_wp2
          go_ret2
          exact ⟨⟨i, false, rfl, Nat.le_of_lt hin, HL.out, HH.out, by simp [hc]⟩, hb2⟩
      · have d1 : decide ((i : Int) < (L.length : Int)) = false := by simpa using hin
        have HL : Hid _ := hlo
        have HH : Hid _ := hhi
        clear hrow' hlo hhi hrow
        go_wp2
        go_ret2
        exact ⟨⟨i, false, rfl, hj, HL.out, HH.out, by simp [hin]⟩, hb⟩
end Go.Proofs.Qxb6614657a
