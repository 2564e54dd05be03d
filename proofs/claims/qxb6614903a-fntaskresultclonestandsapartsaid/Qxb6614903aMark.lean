import Derived.Test.Qxb6614903aClone
namespace Go.Proofs.Qxb6614903a
open Go.RowKit
attribute [local go_sem ↓] Go.wp_at_zero Go.wp_at_succ

set_option maxRecDepth 100000 in
theorem nsec0 (b : Nat) (w : World) (h : w.cell? ⟨b, 0, none⟩ = some (.int .u64 0)) :
    Calls Try.prog 59 #[.pointer (some ⟨b, 0, none⟩)] w fun e w' => e = .returned (.int .i32 0) ∧ w' = w := by
  have e0 : bits .and .u64 0 1073741823 = 0 := by kernel_rfl
  go_enter Try.func59, Try.ntmps59
  go_wp2
  go_ret
  exact ⟨rfl, rfl⟩

set_option maxRecDepth 100000 in
theorem addSec0 (b : Nat) (d : Int) (hd : d = 1 ∨ d = 2) (w : World) (h : w.cell? ⟨b, 0, none⟩ = some (.int .u64 d)) (h1 : w.cell? ⟨b, 1, none⟩ = some (.int .i64 0)) (h2 : w.frozen? ⟨b, 1, none⟩ = false) :
    Calls Try.prog 60 #[.pointer (some ⟨b, 0, none⟩), .int .i64 0] w fun e w' => e = .returned (.tuple #[]) ∧ w' = w.setCell ⟨b, 1, none⟩ (.int .i64 0) := by
  rcases hd with rfl | rfl
  all_goals
    have e1 : bits .and .u64 1 9223372036854775808 = 0 := by kernel_rfl
    have e2 : bits .and .u64 2 9223372036854775808 = 0 := by kernel_rfl
    go_enter Try.func60, Try.ntmps60
    go_wp2
    exact bodyPost_end (results_none Try.results60 _ _ _) rfl ⟨rfl, rfl⟩
set_option maxRecDepth 100000 in
set_option maxHeartbeats 1000000 in
theorem addT (d : Int) (hd : d = 1 ∨ d = 2) (w : World) :
    Calls Try.prog 39 #[.agg (tcells (0, 0)), .int .i64 d] w fun e w' => e = .returned (.agg (tcells (d, 0))) ∧ Below w.heap.size w w' := by
  have e1 : bits .and .u64 1 9223372036854775808 = 0 := by kernel_rfl
  have e2 : bits .and .u64 2 9223372036854775808 = 0 := by kernel_rfl
  have e3 : bits .andNot .u64 0 1073741823 = 0 := by kernel_rfl
  have e4 : bits .or .u64 0 1 = 1 := by kernel_rfl
  have e5 : bits .or .u64 0 2 = 2 := by kernel_rfl
  rcases hd with rfl | rfl
  · unfold tcells
    go_enter Try.func39, Try.ntmps39
    go_wp2_with (first
      | (go_at_call 59; refine (nsec0 _ _ (by simp)).mono ?_; rintro e w1 ⟨rfl, rfl⟩)
      | (go_at_call 60; refine (addSec0 _ 1 (.inl rfl) _ (by simp) (by simp) (by simp)).mono ?_; rintro e w1 ⟨rfl, rfl⟩))
    exact bodyPost_ret (v := .agg #[.int .u64 1, .int .i64 0, .pointer none]) (by simp [results, Try.results39, go_sem]) rfl ⟨rfl, ((Below.refl _ _).alloc (Nat.le_refl _) _).alloc (by simp) _⟩
  · unfold tcells
    go_enter Try.func39, Try.ntmps39
    go_wp2_with (first
      | (go_at_call 59; refine (nsec0 _ _ (by simp)).mono ?_; rintro e w1 ⟨rfl, rfl⟩)
      | (go_at_call 60; refine (addSec0 _ 2 (.inr rfl) _ (by simp) (by simp) (by simp)).mono ?_; rintro e w1 ⟨rfl, rfl⟩))
    exact bodyPost_ret (v := .agg #[.int .u64 2, .int .i64 0, .pointer none]) (by simp [results, Try.results39, go_sem]) rfl ⟨rfl, ((Below.refl _ _).alloc (Nat.le_refl _) _).alloc (by simp) _⟩
end Go.Proofs.Qxb6614903a
