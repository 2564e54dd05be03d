import Derived.Test.Qxb6614903aQueueAll
import Derived.Deep.DeepCutAuto
namespace Go.Proofs.Qxb6614903a
open Go.RowKit

theorem zcellsAll {w : World} {b o : Nat} {z : Nt} (h : w.rangeAt b o z.zcells.toList) :
    w.cell? ⟨b, o, none⟩ = some (.string z.id) ∧ w.cell? ⟨b, o + 1, none⟩ = some (.string z.cmd) ∧ w.cell? ⟨b, o + 3, none⟩ = some (.pointer z.src) ∧ w.cell? ⟨b, o + 4, none⟩ = some (.string z.content) ∧
    w.cell? ⟨b, o + 8, none⟩ = some (.pointer z.le) ∧ w.cell? ⟨b, o + 9, none⟩ = some (.pointer z.de) ∧ w.cell? ⟨b, o + 10, none⟩ = some (.pointer z.ow) :=
  ⟨h 0 _ rfl, h 1 _ rfl, h 3 _ rfl, h 4 _ rfl, h 8 _ rfl, h 9 _ rfl, h 10 _ rfl⟩

/-- The answer of zzBytes: a bool; where it is true the notes are few. -/
def Short (zs : List Note) (e : Ending) : Prop := ∃ b, e = .returned (.bool b) ∧ (b = true → zs.length ≤ 1048576)

set_option maxHeartbeats 4000000 in
set_option maxRecDepth 100000 in
theorem bytes_any (ao : Option Addr) (cap : Nat) (zs : List Note) (cut : Int) (w : World) (hm : zs.length ≤ maxLen) (h : NotesAt w ao zs) :
    Calls Try.prog 26 #[.slice ao zs.length cap, .int .i64 cut] w fun e w' => Short zs e ∧ w' = w := by
  unfold maxLen at hm
  by_cases h1 : 1048576 < zs.length
  · go_enter Try.func26, Try.ntmps26
    go_wp2
    go_ret
    exact ⟨⟨_, rfl, fun h => by cases h⟩, rfl⟩
  · have h1' : zs.length ≤ 1048576 := by omega
    clear h1 hm
    go_enter Try.func26, Try.ntmps26
    go_wp2
    go_loop [5, 6] (fun tot i => ∃ (k : Nat) (t : Int), k ≤ zs.length ∧ i = .int .i64 k ∧ tot = .int .i64 t) (fun _ i => zs.length - (intOf i).toNat)
    case atStart => exact ⟨0, _, Nat.zero_le _, rfl, rfl⟩
    case round =>
      obtain ⟨k, t, hk, rfl, rfl⟩ := hrel
      by_cases hlt : k < zs.length
      · obtain ⟨b, off, e, _, hr, ⟨_, p2, p3, p4⟩, p1⟩ := h k hlt
        subst e
        obtain ⟨c0, c1, c3, c4, c8, c9, c10⟩ := zcellsAll hr
        clear hr h
        generalize hz : zs[k] = zk at *
        clear hz
        go_upto_if 61 with fail
        all_goals first | (go_ret; exact ⟨⟨_, rfl, fun _ => h1'⟩, rfl⟩) | skip
        go_cut [5] (fun tt wc => w = wc ∧ ∃ t' : Int, tt = .int .i64 t')
        case first =>
          rcases p1 with ⟨e1, _⟩ | ⟨b1, o1, s1, e1, _, _, _, m1⟩
          · simp only [e1]
            go_wp2
            go_meet
            exact ⟨rfl, _, rfl⟩
          · simp only [e1]
            go_wp2
            all_goals first | (go_ret; exact ⟨⟨_, rfl, fun _ => h1'⟩, rfl⟩) | (go_meet; exact ⟨rfl, _, rfl⟩)
        obtain ⟨hwc, t', rfl⟩ := hcut
        subst hwc
        go_upto_if 105 with fail
        all_goals first | (go_ret; exact ⟨⟨_, rfl, fun _ => h1'⟩, rfl⟩) | skip
        go_cut [5] (fun tt wc => w = wc ∧ ∃ t' : Int, tt = .int .i64 t')
        case first =>
          rcases p2 with ⟨e1, _⟩ | ⟨b1, o1, s1, e1, _, _, _, m1⟩
          · simp only [e1]
            go_wp2
            go_meet
            exact ⟨rfl, _, rfl⟩
          · simp only [e1]
            go_wp2
            all_goals first | (go_ret; exact ⟨⟨_, rfl, fun _ => h1'⟩, rfl⟩) | (go_meet; exact ⟨rfl, _, rfl⟩)
        obtain ⟨hwc, t', rfl⟩ := hcut
        subst hwc
        go_upto_if 132 with fail
        all_goals first | (go_ret; exact ⟨⟨_, rfl, fun _ => h1'⟩, rfl⟩) | skip
        go_cut [5] (fun tt wc => w = wc ∧ ∃ t' : Int, tt = .int .i64 t')
        case first =>
          rcases p3 with ⟨e1, _⟩ | ⟨b1, o1, s1, e1, _, _, _, m1⟩
          · simp only [e1]
            go_wp2
            go_meet
            exact ⟨rfl, _, rfl⟩
          · simp only [e1]
            go_wp2
            all_goals first | (go_ret; exact ⟨⟨_, rfl, fun _ => h1'⟩, rfl⟩) | (go_meet; exact ⟨rfl, _, rfl⟩)
        obtain ⟨hwc, t', rfl⟩ := hcut
        subst hwc
        go_upto_if 159 with fail
        all_goals first | (go_ret; exact ⟨⟨_, rfl, fun _ => h1'⟩, rfl⟩) | skip
        rcases p4 with ⟨e1, _⟩ | ⟨b1, o1, s1, e1, _, _, _, m1⟩
        all_goals
          simp only [e1]
          go_wp2
          all_goals first
            | (go_ret; exact ⟨⟨_, rfl, fun _ => h1'⟩, rfl⟩)
            | (go_round
               case rel => first | exact ⟨k + 1, _, by omega, by go_num, rfl⟩ | ((repeat apply Exists.intro); exact ⟨⟨k + 1, _, by omega, by go_num, rfl⟩, rfl⟩)
               case measure => simp [intOf]; omega)
      · go_wp2
        go_ret
        exact ⟨⟨_, rfl, fun _ => h1'⟩, rfl⟩
end Go.Proofs.Qxb6614903a
