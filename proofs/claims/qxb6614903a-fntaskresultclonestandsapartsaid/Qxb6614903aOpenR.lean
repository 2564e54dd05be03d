import Derived.Test.Qxb6614903aOpen
import Derived.Test.Qxb6614903aBuild
namespace Go.Proofs.Qxb6614903a
open Go.ChangeShapes Go.WideShapes Go.ChangeAt Go.RowKit

section
variable {H : Type} {enc : TypeId × Value → H} {w : World} {base : Nat} {spare : Nat → Bool} {held : Bool}

theorem cells94 : Try.prog.cellsOf 94 = 14 := by kernel_rfl
theorem cells70 : Try.prog.cellsOf 70 = 1 := by kernel_rfl
theorem cells4 : Try.prog.cellsOf 4 = 1 := by kernel_rfl

theorem names_of {n : Nat} {cs : List Value} {x : DataW H × List MemPlace} (h : DataW.trod enc Try.prog w base spare held n 70 cs = some x) :
    ∃ fa fl fc f, cs = [.slice fa fl fc] ∧ fl ≤ maxLen ∧ SL w fa fl fc f := by
  rcases Go.Deep.open_slice Try.underlying70 h with ⟨e, _⟩ | ⟨a, len, cap, m, k, D, Pl, e, _, hle, hm, hmm, _, hel⟩
  · exact ⟨none, 0, 0, none, e, Nat.zero_le _, .inl ⟨rfl, rfl, rfl, rfl⟩⟩
  · have hlm : len ≤ m := by rw [hmm]; split <;> omega
    rw [cells9] at hel
    have hall : ∀ i, i < len → ∃ s : ByteArray, w.cell? (a.add (i * 1)) = some (.string s) := by
      intro i hi
      obtain ⟨cs', hc, hy⟩ := hel i (by omega)
      obtain ⟨b, off, v, e1, rfl, hv⟩ := cells_one_at hc
      obtain ⟨s, e2, _, _⟩ := DataW.trod_string Try.underlying9 hy
      cases e2
      exact ⟨s, by rw [e1]; exact hv⟩
    obtain ⟨f, hf⟩ := Go.Deep.choose_lt hall
    refine ⟨some a, len, cap, some ((List.range len).map f), e, Nat.le_trans hle hm, .inr ⟨a, (List.range len).map f, rfl, by simp, rfl, fun i hi => ?_⟩⟩
    have hi' : i < len := by simpa using hi
    have h0 := hf 0 (by omega)
    have e0 : a.add (0 * 1) = a := by simp [Addr.add]
    rw [e0] at h0
    have hs := World.cell?_spot h0
    obtain ⟨b, off, spot⟩ := a
    simp at hs
    subst hs
    have hc := hf i hi'
    rw [Addr.add_mid, Nat.mul_one] at hc
    exact ⟨b, off, rfl, World.block_lt_of_cell? w _ hc, by simpa using hc⟩

set_option maxRecDepth 100000 in
theorem res_of {n : Nat} {cs : List Value} {x : DataW H × List MemPlace} (h : DataW.trod enc Try.prog w base spare held n 94 cs = some x) : ∃ (z : Zr) (f : Option (List ByteArray)) (ow le : Option ByteArray), cs = z.cells.toList ∧ z.fl ≤ maxLen ∧ ZC w z f ow le := by
  obtain ⟨xs, m, _, _, hl, hlen, hf⟩ := DataW.trod_struct Try.underlying94 h
  rw [cells94] at hl
  match cs, hl with
  | [c0, c1, c2, c3, c4, c5, c6, c7, c8, c9, c10, c11, c12, c13], _ =>
    match xs, hlen with
    | [y0, y1, y2, y3, y4, y5, y6, y7, y8, y9, y10, y11, y12, y13], _ =>
      have f0 := hf 0 _ rfl
      have f1 := hf 1 _ rfl
      have f2 := hf 2 _ rfl
      have f3 := hf 3 _ rfl
      have f4 := hf 4 _ rfl
      have f5 := hf 5 _ rfl
      have f6 := hf 6 _ rfl
      have f7 := hf 7 _ rfl
      have f8 := hf 8 _ rfl
      have f9 := hf 9 _ rfl
      have f10 := hf 10 _ rfl
      have f11 := hf 11 _ rfl
      have f12 := hf 12 _ rfl
      have f13 := hf 13 _ rfl
      simp [cells9, cells3, cells49, cells70, cells4] at f0 f1 f2 f3 f4 f5 f6 f7 f8 f9 f10 f11 f12 f13
      obtain ⟨id, e0, _, _⟩ := DataW.trod_string Try.underlying9 f0
      obtain ⟨tk, e1, _, _⟩ := DataW.trod_string Try.underlying9 f1
      obtain ⟨cm, e2, _, _⟩ := DataW.trod_string Try.underlying9 f2
      obtain ⟨st, e3, _, _⟩ := DataW.trod_int Try.underlying3 f3
      obtain ⟨sm, e4, _, _⟩ := DataW.trod_string Try.underlying9 f4
      obtain ⟨fa, fl, fc, fo, e5, p5, p5'⟩ := names_of f5
      obtain ⟨pc, e6, _⟩ := DataW.trod_bool Try.underlying4 f6
      obtain ⟨rs, e7, _⟩ := DataW.trod_bool Try.underlying4 f7
      obtain ⟨nf, e8, _⟩ := DataW.trod_bool Try.underlying4 f8
      obtain ⟨na, e9, _, _⟩ := DataW.trod_int Try.underlying3 f9
      obtain ⟨ow, owo, e10, p10⟩ := ptrS_of f10
      obtain ⟨le, leo, e11, p11⟩ := ptrS_of f11
      obtain ⟨hx, e12, _⟩ := DataW.trod_bool Try.underlying4 f12
      obtain ⟨hn, e13, _⟩ := DataW.trod_bool Try.underlying4 f13
      simp at e0 e1 e2 e3 e4 e5 e6 e7 e8 e9 e10 e11 e12 e13
      subst e0 e1 e2 e3 e4 e5 e6 e7 e8 e9 e10 e11 e12 e13
      exact ⟨⟨id, tk, cm, st, sm, fa, fl, fc, pc, rs, nf, na, ow, le, hx, hn⟩, fo, owo, leo, rfl, p5, ⟨p5', p10, p11⟩⟩
end
end Go.Proofs.Qxb6614903a
