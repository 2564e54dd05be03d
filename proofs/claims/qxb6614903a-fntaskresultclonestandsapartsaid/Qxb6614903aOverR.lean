import Derived.Test.Qxb6614903aBuild
import Derived.Test.Qxb6614903aOver
namespace Go.Proofs.Qxb6614903a
open Go.RowKit
attribute [local go_sem ↓] Go.wp_at_zero Go.wp_at_succ

/-- The names behind the argument's slice, as a loop reads them. -/
def OneF (w : World) (fa : Option Addr) (n : Nat) : Prop := ∀ i, i < n → ∃ g o s, fa = some ⟨g, o, none⟩ ∧ w.cell? ⟨g, o + i, none⟩ = some (.string s)
theorem OneF.of {w : World} {fa : Option Addr} {fl fc : Nat} {o : Option (List ByteArray)} (h : SL w fa fl fc o) : OneF w fa fl := by
  rcases h with ⟨_, e, _⟩ | ⟨a, fs, e1, e2, e3, a0⟩
  · exact fun i hi => by omega
  · intro i hi
    obtain ⟨g, off, e4, a1, a2⟩ := a0 i (by omega)
    exact ⟨g, off, _, by rw [e1, e4], a2⟩

/-- The answer is a bool. -/
def AnyB (e : Ending) : Prop := ∃ b, e = .returned (.bool b)

set_option maxHeartbeats 1000000 in
set_option maxRecDepth 100000 in
theorem over_any (z : Zr) (f : Option (List ByteArray)) (ow le : Option ByteArray) (w : World) (hl : z.fl ≤ 1048576) (h : ZC w z f ow le) :
    Calls Try.prog 36 #[.agg z.cells] w fun e w' => AnyB e ∧ Below w.heap.size w w' := by
  have b0 : Below w.heap.size w (w.alloc (.cells z.cells 94)) := (Below.refl _ _).alloc (Nat.le_refl _) _
  have hz := h.grow b0 (Nat.le_refl _)
  have F := OneF.of hz.f
  have c1 := hz.ow
  have c2 := hz.le
  have y0 : z.cells[0]? = some (.string z.id) := rfl
  have y1 : z.cells[1]? = some (.string z.tk) := rfl
  have y2 : z.cells[2]? = some (.string z.cm) := rfl
  have y4 : z.cells[4]? = some (.string z.sm) := rfl
  have y5 : z.cells[5]? = some (.slice z.fa z.fl z.fc) := rfl
  have y10 : z.cells[10]? = some (.pointer z.ow) := rfl
  have y11 : z.cells[11]? = some (.pointer z.le) := rfl
  have B0 : Hid _ := b0
  clear b0 hz h
  go_enter Try.func36, Try.ntmps36
  go_upto_region 3 with (first
    | (go_at_call_of 55 (Value.pointer z.ow); refine (strLen_eq _ _ _ _ c1).mono ?_; rintro e w' ⟨rfl, rfl⟩)
    | (go_at_call_of 55 (Value.pointer z.le); refine (strLen_eq _ _ _ _ c2).mono ?_; rintro e w' ⟨rfl, rfl⟩))
  all_goals first | (go_ret; exact ⟨⟨_, rfl⟩, B0.out⟩) | skip
  go_quiet ((first
        | (go_at_call_of 55 (Value.pointer z.ow); exact Calls.quiet_of_same (strLen_eq _ _ _ _ c1))
        | (go_at_call_of 55 (Value.pointer z.le); exact Calls.quiet_of_same (strLen_eq _ _ _ _ c2))))
  go_wp2_with fail
  · go_ret
    exact ⟨⟨_, rfl⟩, below_drewN B0.out _⟩
  · go_loopw [3, 4] (fun tot i wr => ∃ (k : Nat) (t : Int), k ≤ z.fl ∧ i = .int .i64 k ∧ tot = .int .i64 t ∧ (w.alloc (.cells z.cells 94)).drewN nq = wr) (fun _ i _ => z.fl - (intOf i).toNat)
    case atStart => exact ⟨0, _, Nat.zero_le _, rfl, rfl, rfl⟩
    case round =>
      obtain ⟨k, t2, hk, rfl, rfl, rfl⟩ := hrel
      by_cases hlt : k < z.fl
      · obtain ⟨g, off, s, e, d1⟩ := F k hlt
        rw [e] at y5
        clear c1 c2
        go_wp2
        all_goals first
          | (go_ret; exact ⟨⟨_, rfl⟩, below_drewN B0.out _⟩)
          | (go_roundw
             case rel => exact ⟨k + 1, _, by omega, by go_num, rfl, by first | trivial | rfl⟩
             case measure => simp [intOf]; omega)
      · go_wp2
        go_ret
        exact ⟨⟨_, rfl⟩, below_drewN B0.out _⟩
end Go.Proofs.Qxb6614903a
