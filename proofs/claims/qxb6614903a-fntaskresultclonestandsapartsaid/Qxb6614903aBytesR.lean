import Derived.Test.Qxb6614903aOverR
import Derived.Deep.DeepCutAuto
namespace Go.Proofs.Qxb6614903a
open Go.RowKit
attribute [local go_sem ↓] Go.wp_at_zero Go.wp_at_succ

/-- The answer of zzBytes: a bool; where it is true the names are few. -/
def Few (n : Nat) (e : Ending) : Prop := ∃ b, e = .returned (.bool b) ∧ (b = true → n ≤ 1048576)
theorem few_false (n : Nat) : Few n (.returned (.bool false)) := ⟨_, rfl, fun h => by cases h⟩

set_option maxHeartbeats 1000000 in
set_option maxRecDepth 100000 in
theorem bytesR_any (z : Zr) (f : Option (List ByteArray)) (ow le : Option ByteArray) (w : World) (hm : z.fl ≤ maxLen) (h : ZC w z f ow le) :
    Calls Try.prog 35 #[.agg z.cells] w fun e w' => Few z.fl e ∧ Below w.heap.size w w' := by
  have b0 : Below w.heap.size w (w.alloc (.cells z.cells 94)) := (Below.refl _ _).alloc (Nat.le_refl _) _
  have hz := h.grow b0 (Nat.le_refl _)
  have F := OneF.of hz.f
  have c1 := hz.ow
  have c2 := hz.le
  have y0 : z.cells[0]? = some (.string z.id) := rfl
  have y1 : z.cells[1]? = some (.string z.tk) := rfl
  have y2 : z.cells[2]? = some (.string z.cm) := rfl
  have y4 : z.cells[4]? = some (.string z.sm) := rfl
  have y5 : z.cells[5]? = some (.slice z.fa z.fl z.fc) := rfl
  have y10 : z.cells[10]? = some (.pointer z.ow) := rfl
  have y11 : z.cells[11]? = some (.pointer z.le) := rfl
  have B0 : Hid _ := b0
  unfold maxLen at hm
  clear b0 hz h
  by_cases h1 : 1048576 < z.fl
  · have h1' : (1048576 : Int) < (z.fl : Int) := by omega
    go_enter Try.func35, Try.ntmps35
    go_wp2_with fail
    all_goals (go_ret; exact ⟨few_false _, B0.out⟩)
  · have h1' : z.fl ≤ 1048576 := by omega
    clear h1 hm
    go_enter Try.func35, Try.ntmps35
    go_wp2_with fail
    all_goals first | (go_ret; exact ⟨few_false _, B0.out⟩) | skip
    go_loopw [3, 4] (fun tot i wr => ∃ (k : Nat) (t : Int), k ≤ z.fl ∧ i = .int .i64 k ∧ tot = .int .i64 t ∧ (w.alloc (.cells z.cells 94)) = wr) (fun _ i _ => z.fl - (intOf i).toNat)
    case atStart => exact ⟨0, _, Nat.zero_le _, rfl, rfl, rfl⟩
    case round =>
      obtain ⟨k, t2, hk, rfl, rfl, rfl⟩ := hrel
      by_cases hlt : k < z.fl
      · obtain ⟨g, off, s, e, d1⟩ := F k hlt
        rw [e] at y5
        clear c1 c2
        go_wp2
        all_goals first
          | (go_ret; exact ⟨few_false _, B0.out⟩)
          | (go_roundw
             case rel => exact ⟨k + 1, _, by omega, by go_num, rfl, by first | trivial | rfl⟩
             case measure => simp [intOf]; omega)
      · clear F
        have fewT : Few z.fl (.returned (.bool true)) := ⟨_, rfl, fun _ => h1'⟩
        have FT : Hid _ := fewT
        clear fewT
        go_upto_if 86 with fail
        go_cut [3] (fun tt wc => (w.alloc (.cells z.cells 94)) = wc ∧ ∃ t' : Int, tt = .int .i64 t')
        case first =>
          rcases c1 with ⟨e1, _⟩ | ⟨b1, o1, s1, e1, _, _, _, m1⟩
          · rw [e1] at y10
            simp only [e1]
            go_wp2
            go_meet
            exact ⟨rfl, _, rfl⟩
          · rw [e1] at y10
            simp only [e1]
            go_wp2
            all_goals first | (go_ret; exact ⟨few_false _, B0.out⟩) | (go_meet; exact ⟨rfl, _, rfl⟩)
        obtain ⟨hwc, t', rfl⟩ := hcut
        subst hwc
        go_upto_if 104 with fail
        rcases c2 with ⟨e1, _⟩ | ⟨b1, o1, s1, e1, _, _, _, m1⟩
        all_goals
          rw [e1] at y11
          simp only [e1]
          go_wp2
          all_goals (go_ret; first | exact ⟨FT.out, B0.out⟩ | exact ⟨few_false _, B0.out⟩)
end Go.Proofs.Qxb6614903a
