import Derived.Test.Qxb6614903aQueueAll
import Derived.ProofKit
import Derived.OpenShut
import Derived.ShutString
import Derived.ChangeOld
import Derived.Deep.Slices
namespace Go.Proofs.Qxb6614903a
open Go.ChangeShapes Go.WideShapes Go.ChangeAt Go.RowKit

section
variable {H : Type} {enc : TypeId × Value → H} {w : World} {base : Nat} {spare : Nat → Bool} {held : Bool}

theorem cells9 : Try.prog.cellsOf 9 = 1 := by kernel_rfl
theorem cells3 : Try.prog.cellsOf 3 = 1 := by kernel_rfl
theorem cells49 : Try.prog.cellsOf 49 = 1 := by kernel_rfl
theorem cells76 : Try.prog.cellsOf 76 = 1 := by kernel_rfl
theorem cells78 : Try.prog.cellsOf 78 = 12 := by kernel_rfl

theorem cells_one_at {a : Addr} {cs : List Value} (h : w.cells? base a 1 = some cs) : ∃ b off v, a = ⟨b, off, none⟩ ∧ cs = [v] ∧ w.cell? ⟨b, off, none⟩ = some v := by
  unfold World.cells? at h
  split at h
  · simp only [List.range_succ, List.range_zero, List.nil_append, List.mapM_cons, List.mapM_nil, Option.bind_eq_bind, Option.pure_def] at h
    cases hc : w.cell? (a.add 0) with
    | none => simp [hc] at h
    | some v =>
      simp [hc] at h
      have e : a.add 0 = a := by simp [Addr.add]
      rw [e] at hc
      have hs := World.cell?_spot hc
      obtain ⟨b, off, spot⟩ := a
      simp at hs
      subst hs
      exact ⟨b, off, v, rfl, h.symm, hc⟩
  · cases h

theorem ptrS_of {n : Nat} {cs : List Value} {x : DataW H × List MemPlace} (h : DataW.trod enc Try.prog w base spare held n 49 cs = some x) : ∃ p o, cs = [.pointer p] ∧ PtrS w 0 p o := by
  rcases DataW.trod_pointer Try.underlying49 h with ⟨rfl, _⟩ | ⟨a, cs', y, m, _, rfl, _, hc, hy⟩
  · exact ⟨none, none, rfl, .inl ⟨rfl, rfl⟩⟩
  · rw [cells9] at hc
    obtain ⟨b, off, v, rfl, rfl, hv⟩ := cells_one_at hc
    obtain ⟨s, e, _, hs⟩ := DataW.trod_string Try.underlying9 hy
    cases e
    exact ⟨_, _, rfl, .inr ⟨b, off, s, rfl, rfl, Nat.zero_le _, hs, hv⟩⟩
theorem ptrI_of {n : Nat} {cs : List Value} {x : DataW H × List MemPlace} (h : DataW.trod enc Try.prog w base spare held n 76 cs = some x) : ∃ p o, cs = [.pointer p] ∧ PtrI w 0 p o := by
  rcases DataW.trod_pointer Try.underlying76 h with ⟨rfl, _⟩ | ⟨a, cs', y, m, _, rfl, _, hc, hy⟩
  · exact ⟨none, none, rfl, .inl ⟨rfl, rfl⟩⟩
  · rw [cells3] at hc
    obtain ⟨b, off, v, rfl, rfl, hv⟩ := cells_one_at hc
    obtain ⟨s, e, _, hs⟩ := DataW.trod_int Try.underlying3 hy
    cases e
    exact ⟨_, _, rfl, .inr ⟨b, off, s, rfl, rfl, Nat.zero_le _, hv⟩⟩

set_option maxRecDepth 100000 in
theorem note_of {n : Nat} {cs : List Value} {x : DataW H × List MemPlace} (h : DataW.trod enc Try.prog w base spare held n 78 cs = some x) : ∃ z : Note, cs = z.z.zcells.toList ∧ NtTo w 0 z.z z.d ∧ PtrS w 0 z.z.src z.so := by
  obtain ⟨xs, m, _, _, hl, hlen, hf⟩ := DataW.trod_struct Try.underlying78 h
  rw [cells78] at hl
  match cs, hl with
  | [c0, c1, c2, c3, c4, c5, c6, c7, c8, c9, c10, c11], _ =>
    match xs, hlen with
    | [y0, y1, y2, y3, y4, y5, y6, y7, y8, y9, y10, y11], _ =>
      have f0 := hf 0 _ rfl
      have f1 := hf 1 _ rfl
      have f2 := hf 2 _ rfl
      have f3 := hf 3 _ rfl
      have f4 := hf 4 _ rfl
      have f5 := hf 5 _ rfl
      have f6 := hf 6 _ rfl
      have f7 := hf 7 _ rfl
      have f8 := hf 8 _ rfl
      have f9 := hf 9 _ rfl
      have f10 := hf 10 _ rfl
      have f11 := hf 11 _ rfl
      simp [cells9, cells3, cells49, cells76] at f0 f1 f2 f3 f4 f5 f6 f7 f8 f9 f10 f11
      obtain ⟨id, e0, _, _⟩ := DataW.trod_string Try.underlying9 f0
      obtain ⟨cmd, e1, _, _⟩ := DataW.trod_string Try.underlying9 f1
      obtain ⟨typ, e2, _, _⟩ := DataW.trod_int Try.underlying3 f2
      obtain ⟨src, so, e3, p3⟩ := ptrS_of f3
      obtain ⟨content, e4, _, _⟩ := DataW.trod_string Try.underlying9 f4
      obtain ⟨pr, pro, e5, p5⟩ := ptrI_of f5
      obtain ⟨st, e6, _, _⟩ := DataW.trod_int Try.underlying3 f6
      obtain ⟨att, e7, _, _⟩ := DataW.trod_int Try.underlying3 f7
      obtain ⟨le, leo, e8, p8⟩ := ptrS_of f8
      obtain ⟨de, deo, e9, p9⟩ := ptrS_of f9
      obtain ⟨ow, owo, e10, p10⟩ := ptrS_of f10
      obtain ⟨ep, e11, _, _⟩ := DataW.trod_int Try.underlying3 f11
      simp at e0 e1 e2 e3 e4 e5 e6 e7 e8 e9 e10 e11
      subst e0 e1 e2 e3 e4 e5 e6 e7 e8 e9 e10 e11
      exact ⟨⟨⟨id, cmd, typ, src, content, pr, st, att, le, de, ow, ep⟩, ⟨pro, leo, deo, owo⟩, so⟩, rfl, ⟨p5, p8, p9, p10⟩, p3⟩

theorem notes_of {n : Nat} {ao : Option Addr} {len cap : Nat} {x : DataW H × List MemPlace} (h : DataW.trod enc Try.prog w base spare held n 73 [.slice ao len cap] = some x) :
    ∃ zs : List Note, zs.length = len ∧ len ≤ cap ∧ cap ≤ maxLen ∧ (ao = none → zs.length = 0) ∧ NotesAt w ao zs := by
  rcases Go.Deep.open_slice Try.underlying73 h with ⟨e, _⟩ | ⟨a, len', cap', m, k, D, Pl, e, _, hle, hm, hmm, _, hel⟩
  · simp at e
    obtain ⟨rfl, rfl, rfl⟩ := e
    exact ⟨[], rfl, Nat.le_refl _, Nat.zero_le _, fun _ => rfl, fun i hi => absurd hi (by simp)⟩
  · simp at e
    obtain ⟨rfl, rfl, rfl⟩ := e
    have hlm : len ≤ m := by rw [hmm]; split <;> omega
    rw [cells78] at hel
    have hall : ∀ i, i < len → ∃ z : Note, (∀ j, j < 12 → w.cell? ((a.add (i * 12)).add j) = z.z.zcells.toList[j]?) ∧ NtTo w 0 z.z z.d ∧ PtrS w 0 z.z.src z.so := by
      intro i hi
      obtain ⟨cs', hc, hy⟩ := hel i (by omega)
      obtain ⟨z, rfl, h1, h2⟩ := note_of hy
      exact ⟨z, (World.cells?_some hc).2.2, h1, h2⟩
    have inh : Inhabited Note := ⟨⟨Nt.zero, ⟨none, none, none, none⟩, none⟩⟩
    obtain ⟨f, hf⟩ := Go.Deep.choose_lt hall
    refine ⟨(List.range len).map f, by simp, hle, hm, fun e => (by cases e), fun i hi => ?_⟩
    have hi' : i < len := by simpa using hi
    have h0 := (hf 0 (by omega)).1 0 (by decide)
    have e0 : (a.add (0 * 12)).add 0 = a := by simp [Addr.add]
    rw [e0] at h0
    have hs := World.cell?_spot (v := .string (f 0).z.id) h0
    obtain ⟨b, off, spot⟩ := a
    simp at hs
    subst hs
    have eg : ((List.range len).map f)[i] = f i := by simp
    rw [eg]
    obtain ⟨hc, hn, hp⟩ := hf i hi'
    have hr : w.rangeAt b (off + i * 12) (f i).z.zcells.toList := fun j v hv => by
      have hj : j < 12 := by
        have := (List.getElem?_eq_some_iff.1 hv).1
        simpa [Nt.zcells] using this
      have := hc j hj
      rw [Addr.add_mid, Addr.add_mid] at this
      rw [this]; exact hv
    exact ⟨b, off, rfl, World.block_lt_of_cell? w _ (hr 0 (.string (f i).z.id) rfl), hr, hn, hp⟩
end
end Go.Proofs.Qxb6614903a
