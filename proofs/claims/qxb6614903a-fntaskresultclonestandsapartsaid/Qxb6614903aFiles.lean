import Derived.Test.Qxb6614903aApart
import Derived.Test.Qxb6614903aQueueAll
namespace Go.Proofs.Qxb6614903a
open Go.RowKit
attribute [local go_sem ↓] Go.wp_at_zero Go.wp_at_succ

theorem add_off (g j : Nat) : (⟨g, 0, none⟩ : Addr).add j = ⟨g, j, none⟩ := by cases j <;> simp [Addr.add]
def strs (fs : List ByteArray) : List Value := fs.map .string
theorem strs_length (fs : List ByteArray) : (strs fs).length = fs.length := by simp [strs]
theorem strs_one (fs : List ByteArray) : ∀ u ∈ strs fs, u.oneCell' = true := by
  intro u hu
  obtain ⟨s, _, rfl⟩ := List.mem_map.1 hu
  rfl
/-- A list of names behind a slice: nil, or a block of its own in lo .. hi, which can be written. -/
def FL (w : World) (lo hi : Nat) (v : Value) (o : Option (List ByteArray)) : Prop :=
  (v = .slice none 0 0 ∧ o = none) ∨ ∃ g cap fs, v = .slice (some ⟨g, 0, none⟩) fs.length cap ∧ o = some fs ∧ lo ≤ g ∧ g < hi ∧ fs.length ≤ 1048576 ∧ w.rangeAt g 0 (strs fs) ∧ w.there g 0 fs.length

theorem info9 : (Try.prog.info? 9).map (fun i => (i.zero, i.size, i.bytes)) = some (some (.string ⟨#[]⟩), 1, 16) := by kernel_rfl

/-- What lies in a row of its own. -/
theorem FL.of {w : World} {base hi : Nat} {v : Value} {fs : List ByteArray} (h : w.ownsRow base 9 1 v fs.length (strs fs)) (hne : v ≠ .slice none 0 0) (hl : fs.length ≤ 1048576) (hh : w.heap.size ≤ hi) : FL w base hi v (some fs) := by
  have h0 := h
  rcases h.2 with ⟨rfl, _⟩ | ⟨g, cap, cur, rfl, hb, hg, _⟩
  · exact absurd rfl hne
  · have ht := there_of_row h
    rw [Nat.mul_one] at ht
    exact .inr ⟨g, cap, fs, rfl, rfl, hb, Nat.lt_of_lt_of_le (h0.lt g rfl).2 hh, hl, fun j u hu => by have := h0.cells (g := g) rfl j u hu; rw [add_off] at this; simpa using this, ht⟩

set_option maxRecDepth 100000 in
theorem cloneF (v : Value) (o : Option (List ByteArray)) (lo hi : Nat) (w : World) (h : FL w lo hi v o) :
    Calls Try.prog 68 #[v] w fun e w' => ∃ u, e = .returned u ∧ FL w' w.heap.size w'.heap.size u o ∧ Below w.heap.size w w' := by
  have hnl := fun w ao n c => Lib.run_eql_slice_nil (P := Try.prog) w 70 9 ao n c 0 0 Try.underlying70
  obtain ⟨i0, hi, hz0, hz1, hz2⟩ := info_parts info9
  rcases h with ⟨rfl, rfl⟩ | ⟨g, cap, fs, rfl, rfl, _, _, _, hr, _⟩
  · go_enter Try.func68, Try.ntmps68
    go_wp2
    go_ret
    exact ⟨_, rfl, .inl ⟨rfl, rfl⟩, Below.refl _ _⟩
  · have hown : (w.alloc (.cells #[] 9)).ownsRow w.heap.size 9 1 (.slice (some ⟨w.heap.size, 0, none⟩) 0 0) 0 [] := World.ownsRow_made w #[] 0 (Nat.le_refl _) (Nat.zero_le _) (by simp)
    have hnews : ∀ j u, (strs fs)[j]? = some u → (w.alloc (.cells #[] 9)).cell? ((⟨g, 0, none⟩ : Addr).add j) = some u := fun j u hu => by
      have h1 := hr j u hu
      have h2 := ((Below.refl w.heap.size w).alloc (Nat.le_refl _) (.cells #[] 9)).cell (p := ⟨g, 0 + j, none⟩) (World.block_lt_of_cell? w _ h1)
      rw [← h2] at h1
      rw [add_off]; simpa using h1
    go_enter Try.func68, Try.ntmps68
    go_wp2_with (at_builtin; refine wpList_append_own _ rfl (.tmp 5) (.tmp 6) 70 rfl w.heap.size 9 i0 (.string ⟨#[]⟩) 1 16 Try.underlying70 hi hz0 hz1 hz2 rfl (by decide) (.slice (some ⟨w.heap.size, 0, none⟩) 0 0) 0 [] rfl hown ⟨g, 0, none⟩ fs.length cap (strs fs) rfl (by rw [strs_length, Nat.mul_one]) hnews (strs_one fs) (by unfold maxLen; omega) (by omega) (by simp) ?_; intro v' w' ho hg hn)
    go_ret
    rw [Nat.zero_add, List.nil_append] at ho
    exact ⟨_, rfl, FL.of ho (fun e => by cases (hn.1 e).1) (by assumption) (Nat.le_refl _), ((Below.refl _ _).alloc (Nat.le_refl _) _).grown hg (by simp) (by simp [Value.ownBlock])⟩
end Go.Proofs.Qxb6614903a
