import Derived.Test.Qxb6614657aData
import Derived.ProofKit
import Derived.OpenShut
import Derived.ShutString
import Derived.ChangeOld
import Derived.Deep.Slices
namespace Go.Proofs.Qxb6614657a
open Go.ChangeShapes Go.WideShapes Go.ChangeAt Go.RowKit

section
variable {H : Type} {enc : TypeId × Value → H} {w : World} {base : Nat} {spare : Nat → Bool} {held : Bool}

theorem cells9 : Try.prog.cellsOf 9 = 1 := by kernel_rfl
theorem cells3 : Try.prog.cellsOf 3 = 1 := by kernel_rfl
theorem cells37 : Try.prog.cellsOf 37 = 1 := by kernel_rfl
theorem cells40 : Try.prog.cellsOf 40 = 1 := by kernel_rfl
theorem cells5 : Try.prog.cellsOf 5 = 1 := by kernel_rfl

theorem rd_of {t e : TypeId} (ht : Try.prog.underlying t = some (.slice e)) (hc : Try.prog.cellsOf e = 1) {n : Nat} {v : Value} {x : DataW H × List MemPlace} (h : DataW.trod enc Try.prog w base spare held n t [v] = some x) :
    ∃ V : List Value, Rd w v V ∧ ∀ i (hi : i < V.length), ∃ m y, DataW.trod enc Try.prog w base spare held m e [V[i]] = some y := by
  rcases Go.Deep.open_slice1 ht hc h with ⟨e, _⟩ | ⟨a, len, cap, m, k, V, D, Pl, e, _, hle, hm, hmm, _, hel⟩
  · simp only [List.cons.injEq, and_true] at e
    subst e
    exact ⟨[], ⟨none, 0, rfl, fun j u hu => by simp at hu⟩, fun i hi => by simp at hi⟩
  · simp only [List.cons.injEq, and_true] at e
    subst e
    have hlm : len ≤ m := by rw [hmm]; split <;> omega
    refine ⟨(List.range len).map V, ⟨some a, cap, by simp, fun j u hu => ?_⟩, fun i hi => ?_⟩
    · have hj : j < len := by have := (List.getElem?_eq_some_iff.1 hu).1; simpa using this
      have hu' : V j = u := by simpa [hj] using hu
      subst hu'
      have hc0 := (hel j (by omega)).1
      have hc1 := (hel 0 (by omega)).1
      have e0 : a.add 0 = a := by simp [Addr.add]
      rw [e0] at hc1
      have hs := World.cell?_spot hc1
      obtain ⟨b, off, spot⟩ := a
      simp at hs
      subst hs
      rw [Addr.add_mid] at hc0
      exact ⟨b, off, rfl, hc0⟩
    · have hi' : i < len := by simpa using hi
      obtain ⟨_, h2⟩ := hel i (by omega)
      exact ⟨k, _, by simpa using h2⟩
theorem list_of {α : Type} {f : α → Value} {p : α → Prop} : ∀ (V : List Value), (∀ i (hi : i < V.length), ∃ a, V[i] = f a ∧ p a) → ∃ xs : List α, V = xs.map f ∧ ∀ a ∈ xs, p a := by
  intro V
  induction V with
  | nil => intro _; exact ⟨[], rfl, fun _ h => by cases h⟩
  | cons v V ih =>
    intro h
    obtain ⟨a, h1, h2⟩ := h 0 (by simp)
    obtain ⟨xs, h3, h4⟩ := ih (fun i hi => h (i + 1) (by simpa using hi))
    refine ⟨a :: xs, ?_, fun b hb => ?_⟩
    · rw [List.map_cons, ← h1, h3]; rfl
    · rcases List.mem_cons.1 hb with rfl | hb
      · exact h2
      · exact h4 b hb
theorem list_rel {α : Type} {p : Value → α → Prop} : ∀ (V : List Value), (∀ i (hi : i < V.length), ∃ a, p V[i] a) → ∃ xs : List α, V.length = xs.length ∧ ∀ i (hi : i < xs.length) (hi' : i < V.length), p V[i] xs[i] := by
  intro V
  induction V with
  | nil => intro _; exact ⟨[], rfl, fun _ h => by simp at h⟩
  | cons v V ih =>
    intro h
    obtain ⟨a, h1⟩ := h 0 (by simp)
    obtain ⟨xs, h3, h4⟩ := ih (fun i hi => h (i + 1) (by simpa using hi))
    refine ⟨a :: xs, by simp [h3], fun i hi hi' => ?_⟩
    match i, hi, hi' with
    | 0, _, _ => exact h1
    | i + 1, hi, hi' => exact h4 i (by simpa using hi) (by simpa using hi')
theorem strs_of {n : Nat} {v : Value} {x : DataW H × List MemPlace} (h : DataW.trod enc Try.prog w base spare held n 22 [v] = some x) : ∃ hs : List ByteArray, Rd w v (strs hs) ∧ ∀ s ∈ hs, s.size ≤ maxLen := by
  obtain ⟨V, h1, h2⟩ := rd_of Try.underlying22 cells9 h
  obtain ⟨xs, rfl, h3⟩ := list_of (f := Value.string) (p := fun s => s.size ≤ maxLen) V (fun i hi => by
    obtain ⟨m, y, hy⟩ := h2 i hi
    obtain ⟨s, e, _, hs⟩ := DataW.trod_string Try.underlying9 hy
    simp only [List.cons.injEq, and_true] at e
    exact ⟨s, e, hs⟩)
  exact ⟨xs, h1, h3⟩
theorem ints_of {n : Nat} {v : Value} {x : DataW H × List MemPlace} (h : DataW.trod enc Try.prog w base spare held n 23 [v] = some x) : ∃ xs : List Int, Rd w v (ints xs) ∧ ∀ x ∈ xs, -9223372036854775808 ≤ x ∧ x ≤ 9223372036854775807 := by
  obtain ⟨V, h1, h2⟩ := rd_of Try.underlying23 cells3 h
  obtain ⟨xs, rfl, h3⟩ := list_of (f := Value.int .i64) (p := fun x => -9223372036854775808 ≤ x ∧ x ≤ 9223372036854775807) V (fun i hi => by
    obtain ⟨m, y, hy⟩ := h2 i hi
    obtain ⟨k, e, _, hw⟩ := DataW.trod_int Try.underlying3 hy
    simp only [List.cons.injEq, and_true] at e
    refine ⟨k, e, ?_⟩
    simp [Lit.wf, IntKind.min, IntKind.max, IntKind.bits, IntKind.signed] at hw
    omega)
  exact ⟨xs, h1, h3⟩
theorem u64s_of {n : Nat} {v : Value} {x : DataW H × List MemPlace} (h : DataW.trod enc Try.prog w base spare held n 24 [v] = some x) : ∃ xs : List Nat, Rd w v (u64s xs) ∧ ∀ x ∈ xs, x < 18446744073709551616 := by
  obtain ⟨V, h1, h2⟩ := rd_of Try.underlying24 cells37 h
  obtain ⟨xs, rfl, h3⟩ := list_of (f := fun x : Nat => Value.int .u64 (x : Int)) (p := fun x => x < 18446744073709551616) V (fun i hi => by
    obtain ⟨m, y, hy⟩ := h2 i hi
    obtain ⟨k, e, _, hw⟩ := DataW.trod_int Try.underlying37 hy
    simp only [List.cons.injEq, and_true] at e
    simp [Lit.wf, IntKind.min, IntKind.max, IntKind.bits, IntKind.signed] at hw
    refine ⟨k.toNat, ?_, by omega⟩
    rw [e]; congr 1; omega)
  exact ⟨xs, h1, h3⟩
theorem rb_of {n : Nat} {v : Value} {x : DataW H × List MemPlace} (h : DataW.trod enc Try.prog w base spare held n 40 [v] = some x) : ∃ bs : List Nat, RB w v bs := by
  obtain ⟨V, h1, h2⟩ := rd_of Try.underlying40 cells5 h
  obtain ⟨xs, rfl, h3⟩ := list_of (f := fun x : Nat => Value.int .u8 (x : Int)) (p := fun x => x < 256) V (fun i hi => by
    obtain ⟨m, y, hy⟩ := h2 i hi
    obtain ⟨k, e, _, hw⟩ := DataW.trod_int Try.underlying5 hy
    simp only [List.cons.injEq, and_true] at e
    simp [Lit.wf, IntKind.min, IntKind.max, IntKind.bits, IntKind.signed] at hw
    refine ⟨k.toNat, ?_, by omega⟩
    rw [e]; congr 1; omega)
  obtain ⟨ao, cap, e, hc⟩ := h1
  refine ⟨xs, ao, cap, by rw [e]; simp, h3, fun j hj => ?_⟩
  exact hc j _ (by simp [hj])
theorem bss_of {n : Nat} {v : Value} {x : DataW H × List MemPlace} (h : DataW.trod enc Try.prog w base spare held n 25 [v] = some x) : ∃ (vs : List Value) (bs : List (List Nat)), Rd w v vs ∧ vs.length = bs.length ∧ ∀ i (hi : i < bs.length) (hi' : i < vs.length), RB w vs[i] bs[i] := by
  obtain ⟨V, h1, h2⟩ := rd_of Try.underlying25 cells40 h
  obtain ⟨xs, h3, h4⟩ := list_rel (p := RB w) V (fun i hi => by
    obtain ⟨m, y, hy⟩ := h2 i hi
    exact rb_of hy)
  exact ⟨V, xs, h1, h3, h4⟩
end
end Go.Proofs.Qxb6614657a
