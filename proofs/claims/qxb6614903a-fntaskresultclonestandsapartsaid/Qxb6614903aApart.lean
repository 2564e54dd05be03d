import Derived.Test.Qxb6614903aQueue
namespace Go.Proofs.Qxb6614903a
open Go.RowKit
attribute [local go_sem ↓] Go.wp_at_zero Go.wp_at_succ

/-! What a task result leads to: each pointer is nil or leads to a cell of its own in a block of lo .. hi, which can be written. -/
def PS (w : World) (lo hi : Nat) (p : Option Addr) (o : Option ByteArray) : Prop :=
  (p = none ∧ o = none) ∨ ∃ b s, p = some ⟨b, 0, none⟩ ∧ o = some s ∧ lo ≤ b ∧ b < hi ∧ s.size ≤ maxLen ∧ w.cell? ⟨b, 0, none⟩ = some (.string s) ∧ w.frozen? ⟨b, 0, none⟩ = false
def tcells (t : Int × Int) : Array Value := #[.int .u64 t.1, .int .i64 t.2, .pointer none]
def PT (w : World) (lo hi : Nat) (p : Option Addr) (o : Option (Int × Int)) : Prop :=
  (p = none ∧ o = none) ∨ ∃ b t, p = some ⟨b, 0, none⟩ ∧ o = some t ∧ lo ≤ b ∧ b < hi ∧ w.rangeAt b 0 (tcells t).toList ∧ w.there b 0 3

theorem clonePtrS (p : Option Addr) (o : Option ByteArray) (lo hi : Nat) (w : World) (h : PS w lo hi p o) :
    Calls Try.prog 72 #[.pointer p] w fun e w' => ∃ q, e = .returned (.pointer q) ∧ PS w' w.heap.size w'.heap.size q o ∧ Below w.heap.size w w' := by
  rcases h with ⟨rfl, rfl⟩ | ⟨b, s, rfl, rfl, _, _, hs, hc, _⟩
  · go_enter Try.func72, Try.ntmps72
    go_wp2
    go_ret
    exact ⟨none, rfl, .inl ⟨rfl, rfl⟩, Below.refl _ _⟩
  · go_enter Try.func72, Try.ntmps72
    go_wp2
    go_ret
    exact ⟨_, rfl, .inr ⟨_, s, rfl, rfl, Nat.le_refl _, by simp, hs, by simp, by simp⟩, (Below.refl _ _).alloc (Nat.le_refl _) _⟩

theorem size62 : (Try.prog.info? 62).map (·.size) = some 3 := by kernel_rfl
theorem row62 : ((Try.prog.underlying 62).map TypeDesc.isRow) = some true := by kernel_rfl
theorem load62S (v : Value) : Instr.loadAt 62 v = loadS 62 v := rfl
theorem store62S (p v : Value) : Instr.storeAt 62 p v = storeS 62 p v := rfl
theorem load62V_at {w : World} {g o : Nat} {t : Int × Int} (h : w.rangeAt g o (tcells t).toList) : (loadS 62 (.pointer (some ⟨g, o, none⟩))).run Try.prog w = .ok (.agg (tcells t)) w := by
  obtain ⟨d, hu, hd⟩ := isRow_of row62
  exact run_loadAt_mid (P := Try.prog) w g o 62 (tcells t).toList d h hu hd size62
theorem tcells_one (t : Int × Int) : (tcells t).all (·.oneCell') = true := all_oneCell_toArray (cs := (tcells t).toList) (by unfold tcells; simp [Value.oneCell'])
theorem store62V_at {w : World} {g o : Nat} (t : Int × Int) (h : w.there g o 3) : (storeS 62 (.pointer (some ⟨g, o, none⟩)) (.agg (tcells t))).run Try.prog w = .ok () (w.setCells g o (tcells t).toList) :=
  run_storeAt_mid (P := Try.prog) w g o 62 (tcells t) h size62 (tcells_one t)

theorem clonePtrT (p : Option Addr) (o : Option (Int × Int)) (lo hi : Nat) (w : World) (h : PT w lo hi p o) :
    Calls Try.prog 73 #[.pointer p] w fun e w' => ∃ q, e = .returned (.pointer q) ∧ PT w' w.heap.size w'.heap.size q o ∧ Below w.heap.size w w' := by
  rcases h with ⟨rfl, rfl⟩ | ⟨b, t, rfl, rfl, _, _, hr, ht⟩
  · go_enter Try.func73, Try.ntmps73
    go_wp2
    go_ret
    exact ⟨none, rfl, .inl ⟨rfl, rfl⟩, Below.refl _ _⟩
  · have h0 := hr 0 _ rfl
    have h1 := hr 1 _ rfl
    have h2 := hr 2 _ rfl
    go_enter Try.func73, Try.ntmps73
    go_wp2
    go_ret
    exact ⟨_, rfl, .inr ⟨_, t, rfl, rfl, Nat.le_refl _, by simp, rangeAt_new w (tcells t) 62, there_new w (tcells t) 62⟩, (Below.refl _ _).alloc (Nat.le_refl _) _⟩
end Go.Proofs.Qxb6614903a
