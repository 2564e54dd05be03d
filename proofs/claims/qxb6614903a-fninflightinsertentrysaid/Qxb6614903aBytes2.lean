import Derived.Test.Qxb6614903aBytes
namespace Go.Proofs.Qxb6614903a
open Go.RowKit

theorem zget (z : Nt) : z.zcells[0]? = some (.string z.id) ∧ z.zcells[1]? = some (.string z.cmd) ∧ z.zcells[3]? = some (.pointer z.src) ∧ z.zcells[4]? = some (.string z.content) ∧ z.zcells[8]? = some (.pointer z.le) ∧ z.zcells[9]? = some (.pointer z.de) ∧ z.zcells[10]? = some (.pointer z.ow) :=
  ⟨rfl, rfl, rfl, rfl, rfl, rfl, rfl⟩

set_option maxHeartbeats 8000000 in
set_option maxRecDepth 100000 in
theorem bytes33 (ao : Option Addr) (cap : Nat) (zs : List Note) (cut : Int) (x : Note) (w : World) (hm : zs.length ≤ maxLen) (h : NotesAt w ao zs) (hx : NtTo w 0 x.z x.d) (hxs : PtrS w 0 x.z.src x.so) :
    Calls Try.prog 33 #[.slice ao zs.length cap, .int .i64 cut, .agg x.z.zcells] w fun e w' => Short zs e ∧ Below w.heap.size w w' := by
  have b0 : Below w.heap.size w (w.alloc (.cells x.z.zcells 78)) := (Below.refl _ _).alloc (Nat.le_refl _) _
  have B0 : Hid (Below w.heap.size w (w.alloc (.cells x.z.zcells 78))) := b0
  unfold maxLen at hm
  by_cases h1 : 1048576 < zs.length
  · clear b0
    go_enter Try.func33, Try.ntmps33
    go_wp2
    go_ret
    exact ⟨⟨_, rfl, fun h => by cases h⟩, B0.out⟩
  · have h1' : zs.length ≤ 1048576 := by omega
    have h' := h.grow b0
    obtain ⟨_, c2, c3, c4⟩ := hx.grow b0
    have c1 := hxs.grow b0
    obtain ⟨g0, g1, g3, g4, g8, g9, g10⟩ := zget x.z
    clear h1 hm b0 h hx hxs
    go_enter Try.func33, Try.ntmps33
    go_wp2
    go_loop [7, 8] (fun tot i => ∃ (k : Nat) (t : Int), k ≤ zs.length ∧ i = .int .i64 k ∧ tot = .int .i64 t) (fun _ i => zs.length - (intOf i).toNat)
    case atStart => exact ⟨0, _, Nat.zero_le _, rfl, rfl⟩
    case round =>
      obtain ⟨k, t, hk, rfl, rfl⟩ := hrel
      by_cases hlt : k < zs.length
      · as_aux_lemma =>
        obtain ⟨b, off, e, _, hr, ⟨_, p2, p3, p4⟩, p1⟩ := h' k hlt
        subst e
        obtain ⟨c0', c1', c3', c4', c8', c9', c10'⟩ := zcellsAll hr
        clear hr h' c1 c2 c3 c4 g0 g1 g3 g4 g8 g9 g10
        generalize hz : zs[k] = zk at *
        clear hz
        go_upto_if 63 with fail
        all_goals first | (go_ret; exact ⟨⟨_, rfl, fun _ => h1'⟩, B0.out⟩) | skip
        go_cut [7] (fun tt wc => w.alloc (.cells x.z.zcells 78) = wc ∧ ∃ t' : Int, tt = .int .i64 t')
        case first => as_aux_lemma =>
          rcases p1 with ⟨e1, _⟩ | ⟨b1, o1, s1, e1, _, _, _, m1⟩
          · simp only [e1]
            go_wp2
            go_meet
            exact ⟨rfl, _, rfl⟩
          · simp only [e1]
            go_wp2
            all_goals first | (go_ret; exact ⟨⟨_, rfl, fun _ => h1'⟩, B0.out⟩) | (go_meet; exact ⟨rfl, _, rfl⟩)
        obtain ⟨hwc, t', rfl⟩ := hcut
        subst hwc
        go_upto_if 107 with fail
        all_goals first | (go_ret; exact ⟨⟨_, rfl, fun _ => h1'⟩, B0.out⟩) | skip
        go_cut [7] (fun tt wc => w.alloc (.cells x.z.zcells 78) = wc ∧ ∃ t' : Int, tt = .int .i64 t')
        case first => as_aux_lemma =>
          rcases p2 with ⟨e1, _⟩ | ⟨b1, o1, s1, e1, _, _, _, m1⟩
          · simp only [e1]
            go_wp2
            go_meet
            exact ⟨rfl, _, rfl⟩
          · simp only [e1]
            go_wp2
            all_goals first | (go_ret; exact ⟨⟨_, rfl, fun _ => h1'⟩, B0.out⟩) | (go_meet; exact ⟨rfl, _, rfl⟩)
        obtain ⟨hwc, t', rfl⟩ := hcut
        subst hwc
        go_upto_if 134 with fail
        all_goals first | (go_ret; exact ⟨⟨_, rfl, fun _ => h1'⟩, B0.out⟩) | skip
        go_cut [7] (fun tt wc => w.alloc (.cells x.z.zcells 78) = wc ∧ ∃ t' : Int, tt = .int .i64 t')
        case first => as_aux_lemma =>
          rcases p3 with ⟨e1, _⟩ | ⟨b1, o1, s1, e1, _, _, _, m1⟩
          · simp only [e1]
            go_wp2
            go_meet
            exact ⟨rfl, _, rfl⟩
          · simp only [e1]
            go_wp2
            all_goals first | (go_ret; exact ⟨⟨_, rfl, fun _ => h1'⟩, B0.out⟩) | (go_meet; exact ⟨rfl, _, rfl⟩)
        obtain ⟨hwc, t', rfl⟩ := hcut
        subst hwc
        go_upto_if 161 with fail
        all_goals first | (go_ret; exact ⟨⟨_, rfl, fun _ => h1'⟩, B0.out⟩) | skip
        rcases p4 with ⟨e1, _⟩ | ⟨b1, o1, s1, e1, _, _, _, m1⟩
        all_goals
          simp only [e1]
          go_wp2
          all_goals first
            | (go_ret; exact ⟨⟨_, rfl, fun _ => h1'⟩, B0.out⟩)
            | (go_round
               case rel => first | exact ⟨k + 1, _, by omega, by go_num, rfl⟩ | ((repeat apply Exists.intro); exact ⟨⟨k + 1, _, by omega, by go_num, rfl⟩, rfl⟩)
               case measure => simp [intOf]; omega)
      · as_aux_lemma =>
        clear h'
        go_upto_if 207 with fail
        all_goals first | (go_ret; exact ⟨⟨_, rfl, fun _ => h1'⟩, B0.out⟩) | skip
        go_cut [7] (fun tt wc => w.alloc (.cells x.z.zcells 78) = wc ∧ ∃ t' : Int, tt = .int .i64 t')
        case first => as_aux_lemma =>
          rcases c1 with ⟨e1, _⟩ | ⟨b1, o1, s1, e1, _, _, _, m1⟩
          · simp only [e1]
            go_wp2
            go_meet
            exact ⟨rfl, _, rfl⟩
          · simp only [e1]
            go_wp2
            all_goals first | (go_ret; exact ⟨⟨_, rfl, fun _ => h1'⟩, B0.out⟩) | (go_meet; exact ⟨rfl, _, rfl⟩)
        obtain ⟨hwc, t', rfl⟩ := hcut
        subst hwc
        go_upto_if 236 with fail
        all_goals first | (go_ret; exact ⟨⟨_, rfl, fun _ => h1'⟩, B0.out⟩) | skip
        go_cut [7] (fun tt wc => w.alloc (.cells x.z.zcells 78) = wc ∧ ∃ t' : Int, tt = .int .i64 t')
        case first => as_aux_lemma =>
          rcases c2 with ⟨e1, _⟩ | ⟨b1, o1, s1, e1, _, _, _, m1⟩
          · simp only [e1]
            go_wp2
            go_meet
            exact ⟨rfl, _, rfl⟩
          · simp only [e1]
            go_wp2
            all_goals first | (go_ret; exact ⟨⟨_, rfl, fun _ => h1'⟩, B0.out⟩) | (go_meet; exact ⟨rfl, _, rfl⟩)
        obtain ⟨hwc, t', rfl⟩ := hcut
        subst hwc
        go_upto_if 254 with fail
        all_goals first | (go_ret; exact ⟨⟨_, rfl, fun _ => h1'⟩, B0.out⟩) | skip
        go_cut [7] (fun tt wc => w.alloc (.cells x.z.zcells 78) = wc ∧ ∃ t' : Int, tt = .int .i64 t')
        case first => as_aux_lemma =>
          rcases c3 with ⟨e1, _⟩ | ⟨b1, o1, s1, e1, _, _, _, m1⟩
          · simp only [e1]
            go_wp2
            go_meet
            exact ⟨rfl, _, rfl⟩
          · simp only [e1]
            go_wp2
            all_goals first | (go_ret; exact ⟨⟨_, rfl, fun _ => h1'⟩, B0.out⟩) | (go_meet; exact ⟨rfl, _, rfl⟩)
        obtain ⟨hwc, t', rfl⟩ := hcut
        subst hwc
        go_upto_if 272 with fail
        all_goals first | (go_ret; exact ⟨⟨_, rfl, fun _ => h1'⟩, B0.out⟩) | skip
        go_cut [7] (fun tt wc => w.alloc (.cells x.z.zcells 78) = wc ∧ ∃ t' : Int, tt = .int .i64 t')
        case first => as_aux_lemma =>
          rcases c4 with ⟨e1, _⟩ | ⟨b1, o1, s1, e1, _, _, _, m1⟩
          · simp only [e1]
            go_wp2
            go_meet
            exact ⟨rfl, _, rfl⟩
          · simp only [e1]
            go_wp2
            all_goals first | (go_ret; exact ⟨⟨_, rfl, fun _ => h1'⟩, B0.out⟩) | (go_meet; exact ⟨rfl, _, rfl⟩)
        obtain ⟨hwc, t', rfl⟩ := hcut
        subst hwc
        go_wp2
        all_goals (go_ret; exact ⟨⟨_, rfl, fun _ => h1'⟩, B0.out⟩)
end Go.Proofs.Qxb6614903a
