import Derived.Test.Qxb6614903aQueueAll
namespace Go.Proofs.Qxb6614903a
open Go.RowKit

def lenO : Option ByteArray → Int
  | none => 0
  | some s => s.size
theorem strLen_eq (p : Option Addr) (o : Option ByteArray) (B : Nat) (w : World) (h : PtrS w B p o) :
    Calls Try.prog 55 #[.pointer p] w fun e w' => e = .returned (.int .i64 (lenO o)) ∧ w' = w := by
  rcases h with ⟨rfl, rfl⟩ | ⟨b, off, s, rfl, rfl, _, _, hc⟩
  · go_enter Try.func55, Try.ntmps55
    go_wp2
    go_ret
    exact ⟨rfl, rfl⟩
  · go_enter Try.func55, Try.ntmps55
    go_wp2
    go_ret
    exact ⟨rfl, rfl⟩

set_option maxHeartbeats 4000000 in
theorem noteBytes_any (z : Note) (w : World) (hz : NtTo w 0 z.z z.d) (hs : PtrS w 0 z.z.src z.so) :
    Calls Try.prog 49 #[.agg z.z.zcells] w fun e w' => (∃ n : Int, e = .returned (.int .i64 n)) ∧ Below w.heap.size w w' := by
  obtain ⟨_, a2, a3, a4⟩ := hz
  have bW : Below w.heap.size w (w.alloc (.cells z.z.zcells 78)) := (Below.refl _ _).alloc (Nat.le_refl _) _
  have c1 := hs.grow bW
  have c2 := a2.grow bW
  have c3 := a3.grow bW
  have c4 := a4.grow bW
  have bW' : Hid _ := bW
  clear bW hs a2 a3 a4
  unfold Nt.zcells at *
  go_enter Try.func49, Try.ntmps49
  go_wp2_with (first
    | (go_at_call_of 55 (Value.pointer z.z.src); refine (strLen_eq _ _ _ _ c1).mono ?_; rintro e w' ⟨rfl, rfl⟩)
    | (go_at_call_of 55 (Value.pointer z.z.le); refine (strLen_eq _ _ _ _ c2).mono ?_; rintro e w' ⟨rfl, rfl⟩)
    | (go_at_call_of 55 (Value.pointer z.z.de); refine (strLen_eq _ _ _ _ c3).mono ?_; rintro e w' ⟨rfl, rfl⟩)
    | (go_at_call_of 55 (Value.pointer z.z.ow); refine (strLen_eq _ _ _ _ c4).mono ?_; rintro e w' ⟨rfl, rfl⟩))
  all_goals first
    | (go_ret; exact ⟨⟨_, rfl⟩, bW'.out⟩)
    | (go_quiet ((first
        | (go_at_call_of 55 (Value.pointer z.z.src); exact Calls.quiet_of_same (strLen_eq _ _ _ _ c1))
        | (go_at_call_of 55 (Value.pointer z.z.le); exact Calls.quiet_of_same (strLen_eq _ _ _ _ c2))
        | (go_at_call_of 55 (Value.pointer z.z.de); exact Calls.quiet_of_same (strLen_eq _ _ _ _ c3))
        | (go_at_call_of 55 (Value.pointer z.z.ow); exact Calls.quiet_of_same (strLen_eq _ _ _ _ c4))))
       go_wp2
       go_ret
       exact ⟨⟨_, rfl⟩, below_drewN bW'.out _⟩)
attribute [local go_sem ↓] load78S

set_option maxHeartbeats 1000000 in
set_option maxRecDepth 100000 in
theorem notesOver_any (ao : Option Addr) (cap : Nat) (zs : List Note) (x : Note) (w : World) (hm : zs.length ≤ maxLen) (h : NotesAt w ao zs) (hx : NtTo w 0 x.z x.d) (hxs : PtrS w 0 x.z.src x.so) :
    Calls Try.prog 27 #[.slice ao zs.length cap, .agg x.z.zcells] w fun e w' => (∃ b, e = .returned (.bool b)) ∧ Below w.heap.size w w' := by
  have b0 : Below w.heap.size w (w.alloc (.cells x.z.zcells 78)) := (Below.refl _ _).alloc (Nat.le_refl _) _
  unfold maxLen at hm
  by_cases h1 : 65536 < zs.length
  · have B0 : Hid _ := b0
    clear b0
    go_enter Try.func27, Try.ntmps27
    go_wp2
    go_ret
    exact ⟨⟨_, rfl⟩, B0.out⟩
  · have h1' : zs.length ≤ 65536 := by omega
    clear h1 hm
    have hld := load78V_at (rangeAt_new w x.z.zcells 78)
    have hx' := hx.grow b0
    have hxs' := hxs.grow b0
    have h' := h.grow b0
    generalize hW : w.alloc (.cells x.z.zcells 78) = W at b0 hx' hxs' h' hld
    have HW : Hid (W = w.alloc (.cells x.z.zcells 78)) := hW.symm
    subst hW
    clear HW
    go_enter Try.func27, Try.ntmps27
    go_wp2_with (go_at_call 49; refine (noteBytes_any x _ hx' hxs').mono ?_; rintro e w1 ⟨⟨t, rfl⟩, hb1⟩)
    · go_ret
      exact ⟨⟨_, rfl⟩, b0.trans (hb1.mono b0.size)⟩
    · have bw1 := b0.trans (hb1.mono b0.size)
      clear hb1 hld hx' hxs' h' b0
      go_loopw [5, 6] (fun tot i wr => ∃ (k : Nat) (t : Int), k ≤ zs.length ∧ i = .int .i64 k ∧ tot = .int .i64 t ∧ Below w.heap.size w wr) (fun _ i _ => zs.length - (intOf i).toNat)
      case atStart => exact ⟨0, _, Nat.zero_le _, rfl, rfl, bw1⟩
      case round =>
        obtain ⟨k, t2, hk, rfl, rfl, bwr⟩ := hrel
        by_cases hlt : k < zs.length
        · obtain ⟨b, off, e, _, hr, hn, hs⟩ := (h.grow bwr) k hlt
          subst e
          have hld := load78V_at hr
          clear hr
          go_wp2_with (go_at_call 49; refine (noteBytes_any _ _ hn hs).mono ?_; rintro e w2 ⟨⟨t3, rfl⟩, hb2⟩)
          · go_ret
            exact ⟨⟨_, rfl⟩, bwr.trans (hb2.mono bwr.size)⟩
          · go_roundw
            case rel => exact ⟨k + 1, _, by omega, by go_num, rfl, bwr.trans (hb2.mono bwr.size)⟩
            case measure => simp [intOf]; omega
        · go_wp2
          go_ret
          exact ⟨⟨_, rfl⟩, bwr⟩
end Go.Proofs.Qxb6614903a
