import Derived.Test.Qxb6614903aAnswer
import Derived.Test.Qxb6614903aOver
namespace Go.Proofs.Qxb6614903a
open Go.RowKit

/-- The first note in progress. -/
def found (zs : List Note) : Option Note := zs.find? fun z => z.z.st == 2
def okB (zs : List Note) : Bool := (found zs).isSome

theorem found_append (l r : List Note) : found (l ++ r) = (found l).or (found r) := by unfold found; rw [List.find?_append]
theorem found_none {zs : List Note} (h : ∀ j, (h : j < zs.length) → zs[j].z.st ≠ 2) : found zs = none := by
  unfold found
  rw [List.find?_eq_none]
  intro z hz
  obtain ⟨j, hj, rfl⟩ := List.mem_iff_getElem.1 hz
  simpa using h j hj
theorem found_some {zs : List Note} {k : Nat} (hk : k < zs.length) (h1 : zs[k].z.st = 2) (h2 : ∀ j, (h : j < k) → zs[j].z.st ≠ 2) : found zs = some zs[k] := by
  unfold found
  rw [List.find?_eq_some_iff_getElem]
  refine ⟨by simpa using h1, k, hk, rfl, fun j hj => ?_⟩
  simpa using h2 j hj

/-- The flight n is that of the first note in progress, or the zero flight. -/
def Got (w : World) (zs : List Note) (n : Nt) : Prop := (found zs = none ∧ n = Nt.zero) ∨ ∃ z, found zs = some z ∧ Tell w 0 n z
theorem Got.grow {w w' : World} {zs : List Note} {n : Nt} (h : Got w zs n) (hb : Below w.heap.size w w') : Got w' zs n := by
  rcases h with h | ⟨z, h1, h2⟩
  · exact .inl h
  · exact .inr ⟨z, h1, h2.grow hb⟩

/-- A queue of the notes zs. -/
def QS (w : World) (zs : List Note) (q : Nat) : Prop :=
  ∃ (cap' : Nat) (ao' : Option Addr) (ns : List Nt), ns.length = zs.length ∧ w.cell? ⟨q, 2, none⟩ = some (.slice ao' ns.length cap') ∧ NtsAt w ao' ns ∧ (∀ i, (h : i < ns.length) → (h2 : i < zs.length) → Tell w 0 ns[i] zs[i])
theorem NtsAt.grow {w w' : World} {ao : Option Addr} {ns : List Nt} (h : NtsAt w ao ns) (hb : Below w.heap.size w w') : NtsAt w' ao ns := fun i hi => by
  obtain ⟨g, e, hg, hr⟩ := h i hi
  exact ⟨g, e, Nat.lt_of_lt_of_le hg hb.size, rangeAt_below hb hg hr⟩
theorem QS.grow {w w' : World} {zs : List Note} {q : Nat} (h : QS w zs q) (hb : Below w.heap.size w w') : QS w' zs q := by
  obtain ⟨cap', ao', ns, h1, h2, h3, h4⟩ := h
  exact ⟨cap', ao', ns, h1, by rw [hb.cell (p := ⟨q, 2, none⟩) (World.block_lt_of_cell? w _ h2)]; exact h2, h3.grow hb, fun i hi hi2 => (h4 i hi hi2).grow hb⟩

theorem queue_qs (ao : Option Addr) (cap : Nat) (zs : List Note) (w : World) (hnil : ao = none → zs.length = 0) (hl : zs.length ≤ 1048576) (h : NotesAt w ao zs) (len : Nat) (hlen : zs.length = len) :
    Calls Try.prog 28 #[.slice ao len cap] w fun e w' => ∃ q, e = .returned (.pointer (some ⟨q, 0, none⟩)) ∧ QS w' zs q ∧ Below w.heap.size w w' := by
  subst hlen
  refine (queue_any ao cap zs w hnil hl h).mono ?_
  rintro e w' ⟨q, rfl, cap', ao', ns, h1, h2, h3, h4, h5⟩
  exact ⟨q, rfl, ⟨cap', ao', ns, h1, h2, h3, h4⟩, h5⟩

theorem inFlight_qs (q : Nat) (zs : List Note) (w : World) (hl : zs.length ≤ 1048576) (h : QS w zs q) :
    Calls Try.prog 29 #[.pointer (some ⟨q, 0, none⟩)] w fun e w' => ∃ n : Nt, e = .returned (.tuple #[.agg n.flight, .bool (okB zs)]) ∧ Got w' zs n ∧ Below w.heap.size w w' := by
  obtain ⟨cap', ao', ns, h1, h2, h3, h4⟩ := h
  refine (inFlight_any q ao' cap' ns w (by omega) h3 h2).mono ?_
  rintro e w' ⟨hf, hb⟩
  rcases hf with ⟨rfl, hno⟩ | ⟨k, hk, rfl, hst, hno⟩
  · have hz : found zs = none := found_none fun j hj => by rw [← (h4 j (by omega) hj).2.2.1]; exact hno j (by omega)
    exact ⟨Nt.zero, by unfold okB; rw [hz]; rfl, .inl ⟨hz, rfl⟩, hb⟩
  · have hkz : k < zs.length := by omega
    have hz : found zs = some zs[k] := found_some hkz (by rw [← (h4 k hk hkz).2.2.1]; exact hst) fun j hj => by rw [← (h4 j (by omega) (by omega)).2.2.1]; exact hno j hj
    exact ⟨ns[k], by unfold okB; rw [hz]; rfl, .inr ⟨_, hz, (h4 k hk hkz).grow hb⟩, hb⟩

theorem answer_any (ao : Option Addr) (cap len : Nat) (zs : List Note) (n : Nt) (i : Int) (w : World) (h : NotesAt w ao zs) (hg : Got w zs n) (hi : FirstIn zs i) (hlen : zs.length = len) :
    Calls Try.prog 30 #[.agg n.flight, .bool (okB zs), .slice ao len cap, .int .i64 i] w fun e w' => e = .returned (.bool true) ∧ Below w.heap.size w w' := by
  subst hlen
  rcases hi with ⟨rfl, hno⟩ | ⟨k, rfl, hk, hst, hno⟩
  · have hz := found_none hno
    rcases hg with ⟨_, rfl⟩ | ⟨z, h1, _⟩
    · unfold okB; rw [hz]; exact answer_none ao zs.length cap w
    · rw [hz] at h1; cases h1
  · have hz := found_some hk hst hno
    rcases hg with ⟨h0, _⟩ | ⟨z, h1, h2⟩
    · rw [hz] at h0; cases h0
    · rw [hz] at h1; cases h1
      unfold okB; rw [hz]; exact answer_some ao cap k zs n w h hk h2
theorem firstIn_len (ao : Option Addr) (cap len : Nat) (zs : List Note) (w : World) (hl : zs.length ≤ 1048576) (h : NotesAt w ao zs) (hlen : zs.length = len) :
    Calls Try.prog 31 #[.slice ao len cap] w fun e w' => (∃ i, e = .returned (.int .i64 i) ∧ FirstIn zs i) ∧ w' = w := by
  subst hlen; exact firstIn_any ao cap zs w hl h

/-- Two flights of one and the same note. -/
theorem same_got (n m : Nt) (z : Note) (w : World) (h1 : Tell w 0 n z) (h2 : Tell w 0 m z) :
    Calls Try.prog 32 #[.agg n.flight, .agg m.flight] w fun e w' => e = .returned (.bool true) ∧ Below w.heap.size w w' :=
  sameFlight_any n m z.d 0 0 w h1.1 h2.1 (h1.2.1.trans h2.2.1.symm) (h1.2.2.1.trans h2.2.2.1.symm) (h1.2.2.2.1.trans h2.2.2.2.1.symm) (h1.2.2.2.2.trans h2.2.2.2.2.symm)
end Go.Proofs.Qxb6614903a
