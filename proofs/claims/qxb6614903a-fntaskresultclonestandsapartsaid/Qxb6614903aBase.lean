import Derived.Test.Qxb6614903aRows
import Derived.WalkKit
import Derived.WalkSpells
import Derived.WalkLawsBesides
import Derived.Deep.QuietTactic
import Derived.BigQuiet
import Derived.Deep.MidRow
import Derived.Deep.RegionHeld3
namespace Go.Proofs.Qxb6614903a
open Go.RowKit

/-- A pointer to a string: nil, or the address of a cell that holds the string o; the cell's block is at least B. -/
def PtrS (w : World) (B : Nat) (p : Option Addr) (o : Option ByteArray) : Prop :=
  (p = none ∧ o = none) ∨ ∃ b off s, p = some ⟨b, off, none⟩ ∧ o = some s ∧ B ≤ b ∧ s.size ≤ maxLen ∧ w.cell? ⟨b, off, none⟩ = some (.string s)
def PtrI (w : World) (B : Nat) (p : Option Addr) (o : Option Int) : Prop :=
  (p = none ∧ o = none) ∨ ∃ b off n, p = some ⟨b, off, none⟩ ∧ o = some n ∧ B ≤ b ∧ w.cell? ⟨b, off, none⟩ = some (.int .i64 n)

theorem strLen_any (p : Option Addr) (o : Option ByteArray) (B : Nat) (w : World) (h : PtrS w B p o) :
    Calls Try.prog 55 #[.pointer p] w fun e w' => (∃ n : Int, e = .returned (.int .i64 n)) ∧ w' = w := by
  rcases h with ⟨rfl, rfl⟩ | ⟨b, off, s, rfl, rfl, _, _, hc⟩
  · go_enter Try.func55, Try.ntmps55
    go_wp2
    go_ret
    exact ⟨⟨_, rfl⟩, rfl⟩
  · go_enter Try.func55, Try.ntmps55
    go_wp2
    go_ret
    exact ⟨⟨_, rfl⟩, rfl⟩

theorem strPtr_any (p : Option Addr) (o : Option ByteArray) (B : Nat) (w : World) (h : PtrS w B p o) :
    Calls Try.prog 56 #[.pointer p] w fun e w' => ∃ q, e = .returned (.pointer q) ∧ PtrS w' w.heap.size q o ∧ Below w.heap.size w w' := by
  rcases h with ⟨rfl, rfl⟩ | ⟨b, off, s, rfl, rfl, _, hs, hc⟩
  · go_enter Try.func56, Try.ntmps56
    go_wp2
    go_ret
    exact ⟨none, rfl, .inl ⟨rfl, rfl⟩, Below.refl _ _⟩
  · go_enter Try.func56, Try.ntmps56
    go_wp2
    go_ret
    exact ⟨_, rfl, .inr ⟨_, _, s, rfl, rfl, Nat.le_refl _, hs, by simp⟩, (Below.refl _ _).alloc (Nat.le_refl _) _⟩

theorem intPtr_any (p : Option Addr) (o : Option Int) (B : Nat) (w : World) (h : PtrI w B p o) :
    Calls Try.prog 65 #[.pointer p] w fun e w' => ∃ q, e = .returned (.pointer q) ∧ PtrI w' w.heap.size q o ∧ Below w.heap.size w w' := by
  rcases h with ⟨rfl, rfl⟩ | ⟨b, off, s, rfl, rfl, _, hc⟩
  · go_enter Try.func65, Try.ntmps65
    go_wp2
    go_ret
    exact ⟨none, rfl, .inl ⟨rfl, rfl⟩, Below.refl _ _⟩
  · go_enter Try.func65, Try.ntmps65
    go_wp2
    go_ret
    exact ⟨_, rfl, .inr ⟨_, _, s, rfl, rfl, Nat.le_refl _, by simp⟩, (Below.refl _ _).alloc (Nat.le_refl _) _⟩

theorem strSame_any (p q : Option Addr) (o : Option ByteArray) (B C : Nat) (w : World) (h : PtrS w B p o) (k : PtrS w C q o) :
    Calls Try.prog 53 #[.pointer p, .pointer q] w fun e w' => e = .returned (.bool true) ∧ ∃ n, w' = w.drewN n := by
  rcases h with ⟨rfl, rfl⟩ | ⟨b, off, s, rfl, rfl, _, _, hc⟩
  · rcases k with ⟨rfl, _⟩ | ⟨b, off, s, _, h0, _⟩
    · go_enter Try.func53, Try.ntmps53
      go_wp2
      go_quiet (fail)
      go_wp2
      go_ret
      exact ⟨rfl, _, rfl⟩
    · cases h0
  · rcases k with ⟨_, h0⟩ | ⟨b2, off2, s2, rfl, h0, _, _, hc2⟩
    · cases h0
    · cases h0
      go_enter Try.func53, Try.ntmps53
      go_wp2
      go_quiet (fail)
      go_wp2
      go_ret
      exact ⟨rfl, _, rfl⟩

theorem intSame_any (p q : Option Addr) (o : Option Int) (B C : Nat) (w : World) (h : PtrI w B p o) (k : PtrI w C q o) :
    Calls Try.prog 52 #[.pointer p, .pointer q] w fun e w' => e = .returned (.bool true) ∧ ∃ n, w' = w.drewN n := by
  rcases h with ⟨rfl, rfl⟩ | ⟨b, off, s, rfl, rfl, _, hc⟩
  · rcases k with ⟨rfl, _⟩ | ⟨b, off, s, _, h0, _⟩
    · go_enter Try.func52, Try.ntmps52
      go_wp2
      go_quiet (fail)
      go_wp2
      go_ret
      exact ⟨rfl, _, rfl⟩
    · cases h0
  · rcases k with ⟨_, h0⟩ | ⟨b2, off2, s2, rfl, h0, _, hc2⟩
    · cases h0
    · cases h0
      go_enter Try.func52, Try.ntmps52
      go_wp2
      go_quiet (fail)
      go_wp2
      go_ret
      exact ⟨rfl, _, rfl⟩

theorem timeSame_nil (w : World) :
    Calls Try.prog 54 #[.pointer none, .pointer none] w fun e w' => e = .returned (.bool true) ∧ ∃ n, w' = w.drewN n := by
  go_enter Try.func54, Try.ntmps54
  go_wp2
  go_quiet (fail)
  go_wp2
  go_ret
  exact ⟨rfl, _, rfl⟩
end Go.Proofs.Qxb6614903a
