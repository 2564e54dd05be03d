import Derived.Test.Qxb6614903aQueueAll
namespace Go.Proofs.Qxb6614903a
open Go.RowKit

/-- i is the place of the first note in progress, or -1. -/
def FirstIn (zs : List Note) (i : Int) : Prop :=
  (i = -1 ∧ ∀ j, (h : j < zs.length) → zs[j].z.st ≠ 2) ∨ ∃ k : Nat, i = k ∧ ∃ hk : k < zs.length, zs[k].z.st = 2 ∧ ∀ j, (h : j < k) → zs[j].z.st ≠ 2

theorem zfacts {w : World} {b o : Nat} {z : Nt} (h : w.rangeAt b o z.zcells.toList) : w.cell? ⟨b, o + 6, none⟩ = some (.int .i64 z.st) := h 6 _ rfl

theorem firstIn_any (ao : Option Addr) (cap : Nat) (zs : List Note) (w : World) (hl : zs.length ≤ 1048576) (h : NotesAt w ao zs) :
    Calls Try.prog 31 #[.slice ao zs.length cap] w fun e w' => (∃ i, e = .returned (.int .i64 i) ∧ FirstIn zs i) ∧ w' = w := by
  go_enter Try.func31, Try.ntmps31
  go_wp2
  go_loop [3] (fun i => ∃ k : Nat, k ≤ zs.length ∧ i = .int .i64 k ∧ (∀ j, (h : j < zs.length) → j < k → zs[j].z.st ≠ 2)) (fun i => zs.length - (intOf i).toNat)
  case atStart => exact ⟨0, Nat.zero_le _, rfl, fun j h h0 => absurd h0 (Nat.not_lt_zero _)⟩
  case round =>
    obtain ⟨k, hk, rfl, hno⟩ := hrel
    by_cases hlt : k < zs.length
    · obtain ⟨b, off, e, _, hr, _⟩ := h k hlt
      subst e
      have hc := zfacts hr
      have HO : Hid (∀ j, (h : j < zs.length) → j < k → zs[j].z.st ≠ 2) := hno
      clear hno hr
      by_cases hst : zs[k].z.st = 2
      · have HT : Hid (zs[k].z.st = 2) := hst
        have hst' : (zs[k].z.st == 2) = true := by simp [hst]
        clear hst
        go_wp2
        go_ret
        exact ⟨⟨_, rfl, .inr ⟨k, rfl, hlt, HT.out, fun j hj => HO.out j (by omega) hj⟩⟩, rfl⟩
      · have HT : Hid (¬ zs[k].z.st = 2) := hst
        have hst' : (zs[k].z.st == 2) = false := by simp [hst]
        clear hst
        go_wp2
        go_round
        case rel => exact ⟨k + 1, by omega, by go_num, fun j hj hjk => by
          rcases Nat.lt_succ_iff_lt_or_eq.1 hjk with h1 | rfl
          · exact HO.out j hj h1
          · exact HT.out⟩
        case measure => simp [intOf]; omega
    · have HO : Hid (∀ j, (h : j < zs.length) → j < k → zs[j].z.st ≠ 2) := hno
      clear hno
      go_wp2
      go_ret
      exact ⟨⟨_, rfl, .inl ⟨rfl, fun j hj => HO.out j hj (by omega)⟩⟩, rfl⟩

theorem zeroTo (w : World) : NtTo w 0 Nt.zero ⟨none, none, none, none⟩ := ⟨.inl ⟨rfl, rfl⟩, .inl ⟨rfl, rfl⟩, .inl ⟨rfl, rfl⟩, .inl ⟨rfl, rfl⟩⟩
theorem load85S (v : Value) : Instr.loadAt 85 v = loadS 85 v := rfl
theorem load85V_at {w : World} {g o : Nat} {n : Nt} (h : w.rangeAt g o n.flight.toList) : (loadS 85 (.pointer (some ⟨g, o, none⟩))).run Try.prog w = .ok (.agg n.flight) w := by
  obtain ⟨d, hu, hd⟩ := isRow_of row85
  exact run_loadAt_mid (P := Try.prog) w g o 85 n.flight.toList d h hu hd size85
attribute [local go_sem ↓] load85S load78S build85S

theorem answer_none (ao : Option Addr) (len cap : Nat) (w : World) :
    Calls Try.prog 30 #[.agg Nt.zero.flight, .bool false, .slice ao len cap, .int .i64 (-1)] w fun e w' => e = .returned (.bool true) ∧ Below w.heap.size w w' := by
  have hld := load85V_at (rangeAt_new w Nt.zero.flight 85)
  have hbz := build85V_zero
  go_enter Try.func30, Try.ntmps30
  go_wp2_with (go_at_call 32; refine (sameFlight_any Nt.zero Nt.zero ⟨none, none, none, none⟩ 0 0 _ (zeroTo _) (zeroTo _) rfl rfl rfl rfl).mono ?_; rintro e w1 ⟨rfl, hb⟩)
  go_ret
  exact ⟨rfl, ((Below.refl _ _).alloc (Nat.le_refl _) _).trans (hb.mono (by simp))⟩

/-- What the last statement of 'zzStFlightAnswer' keeps. -/
structure KA (w0 : World) (R b o : Nat) (n : Nt) (zk : Note) (w' : World) : Prop where
  r1 : w'.rangeAt R 0 n.flight.toList
  r2 : w'.rangeAt b o zk.z.zcells.toList
  t1 : NtTo w' 0 n zk.d
  t2 : NtTo w' 0 zk.z zk.d
  bel : Below R w0 w'
  l1 : R < w'.heap.size
  l2 : b < w'.heap.size
theorem KA.grow {w0 : World} {R b o : Nat} {n : Nt} {zk : Note} {w' w1 : World} (h : KA w0 R b o n zk w') (hb : Below w'.heap.size w' w1) : KA w0 R b o n zk w1 :=
  ⟨rangeAt_below hb h.l1 h.r1, rangeAt_below hb h.l2 h.r2, h.t1.grow hb, h.t2.grow hb, h.bel.trans (hb.mono (Nat.le_of_lt h.l1)), Nat.lt_of_lt_of_le h.l1 hb.size, Nat.lt_of_lt_of_le h.l2 hb.size⟩
theorem KA.gives {w0 : World} {R b o : Nat} {n : Nt} {zk : Note} {w' : World} (h : KA w0 R b o n zk w') :
    (loadS 85 (.pointer (some ⟨R, 0, none⟩))).run Try.prog w' = .ok (.agg n.flight) w' ∧ (loadS 78 (.pointer (some ⟨b, o, none⟩))).run Try.prog w' = .ok (.agg zk.z.zcells) w' ∧ KA w0 R b o n zk w' :=
  ⟨load85V_at h.r1, load78V_at h.r2, h⟩

set_option maxRecDepth 100000 in
set_option maxHeartbeats 1000000 in
theorem answer_some (ao : Option Addr) (cap k : Nat) (zs : List Note) (n : Nt) (w : World) (h : NotesAt w ao zs) (hk : k < zs.length) (ht : Tell w 0 n zs[k]) :
    Calls Try.prog 30 #[.agg n.flight, .bool true, .slice ao zs.length cap, .int .i64 k] w fun e w' => e = .returned (.bool true) ∧ Below w.heap.size w w' := by
  have b0 : Below w.heap.size w (w.alloc (.cells n.flight 85)) := (Below.refl _ _).alloc (Nat.le_refl _) _
  obtain ⟨b, off, e, hbw, hr, hn, _⟩ := (h.grow b0) k hk
  subst e
  have ht' := ht.grow b0
  have k0 : KA w w.heap.size b (off + k * 12) n zs[k] (w.alloc (.cells n.flight 85)) := ⟨rangeAt_new w n.flight 85, hr, ht'.1, hn, b0, by simp, hbw⟩
  have k1 := k0.grow (below_drewN (Below.refl _ _) 1)
  generalize hz : zs[k] = zk at k0 k1 ht'
  have hk0 : (0 : Int) ≤ (k : Int) := Int.natCast_nonneg _
  have hk1 : (k : Int) < (zs.length : Int) := by omega
  obtain ⟨_, e1, e2, e3, e4⟩ := ht'
  have EE : Hid (n.id = zk.z.id ∧ n.st = zk.z.st ∧ n.att = zk.z.att ∧ n.ep = zk.z.ep) := ⟨e1, e2, e3, e4⟩
  clear e1 e2 e3 e4 hz ht h hr b0 k0 hbw hn
  go_enter Try.func30, Try.ntmps30
  go_wp2_with fail
  go_region_held3 (fun w' => (loadS 85 (.pointer (some ⟨w.heap.size, 0, none⟩))).run Try.prog w' = .ok (.agg n.flight) w' ∧ (loadS 78 (.pointer (some ⟨b, off + k * 12, none⟩))).run Try.prog w' = .ok (.agg zk.z.zcells) w' ∧ KA w w.heap.size b (off + k * 12) n zk w')
    (first | with_reducible exact k1.gives | with_reducible exact k2.gives | exact k1.gives)
    (first | (go_at_call 34; refine (tells_any n zk.z zk.d 0 0 _ k1.t1 k1.t2 EE.out.1 EE.out.2.1 EE.out.2.2.1 EE.out.2.2.2).mono ?_; rintro e w2 ⟨rfl, hb2⟩; have k2 := k1.grow hb2))
  go_wp2
  go_ret
  exact ⟨rfl, k2.bel⟩
end Go.Proofs.Qxb6614903a
