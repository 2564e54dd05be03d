/-
  The proof of 'Rows.FnInFlightSplitAnywhereSaid'. The frame follows the guide's own shell for a law over slices.
-/
import Derived.Test.Qxb6614903aOpen
import Derived.Test.Qxb6614903aSplit
namespace Go.Proofs.Qxb6614903a.fnInFlightSplitAnywhere
open Go.ChangeShapes Go.WideShapes Go.ChangeAt Go.RowKit
open Go.ChangeMaps (open_string shut_string)

theorem own : ownKnob Try.prog.godebug = none := by kernel_rfl
theorem laidOut : laidOutB Try.prog = true := by kernel_rfl

set_option maxHeartbeats 1000000 in
set_option maxRecDepth 100000 in
/-- The cut lies outside: the law answers true. -/
theorem walk_out (ao : Option Addr) (cap : Nat) (zs : List Note) (cut : Int) (w : World) (hm : zs.length ≤ maxLen) (h : NotesAt w ao zs) (hc : ¬ (0 ≤ cut ∧ cut ≤ (zs.length : Int))) :
    Calls Try.prog 7 #[.slice ao zs.length cap, .int .i64 cut] w fun e w' => e = .returned (.bool true) ∧ Below w.heap.size w w' := by
  rcases Int.lt_or_le cut 0 with h0 | h0
  · clear hc
    go_enter Try.func7, Try.ntmps7
    go_wp2_with fail
    refine (bytes_any _ cap zs _ w hm h).mono ?_
    rintro e w1 ⟨⟨b, rfl, hb⟩, hw⟩
    subst hw
    cases b
    · go_wp2
      go_ret
      exact ⟨rfl, Below.refl _ _⟩
    clear hb
    go_wp2_with fail
    refine (notesOver_any _ cap zs zeroNote _ hm h (zeroTo _) (.inl ⟨rfl, rfl⟩)).mono ?_
    rintro e w2 ⟨⟨b, rfl⟩, hb2⟩
    cases b
    · go_wp2
      go_ret
      exact ⟨rfl, hb2⟩
    · go_wp2
      go_ret
      exact ⟨rfl, hb2⟩
  · have h1 : (zs.length : Int) < cut := by omega
    clear hc
    go_enter Try.func7, Try.ntmps7
    go_wp2_with fail
    refine (bytes_any _ cap zs _ w hm h).mono ?_
    rintro e w1 ⟨⟨b, rfl, hb⟩, hw⟩
    subst hw
    cases b
    · go_wp2
      go_ret
      exact ⟨rfl, Below.refl _ _⟩
    clear hb
    go_wp2_with fail
    refine (notesOver_any _ cap zs zeroNote _ hm h (zeroTo _) (.inl ⟨rfl, rfl⟩)).mono ?_
    rintro e w2 ⟨⟨b, rfl⟩, hb2⟩
    cases b
    · go_wp2
      go_ret
      exact ⟨rfl, hb2⟩
    · go_wp2
      go_ret
      exact ⟨rfl, hb2⟩

theorem walk (ao : Option Addr) (len cap : Nat) (zs : List Note) (cut : Int) (w : World) (hlen : zs.length = len) (hcap : len ≤ cap) (hcm : cap ≤ maxLen) (hnil : ao = none → zs.length = 0) (h : NotesAt w ao zs) :
    Calls Try.prog 7 #[.slice ao len cap, .int .i64 cut] w fun e w' => e = .returned (.bool true) ∧ Below w.heap.size w w' := by
  subst hlen
  have hm : zs.length ≤ maxLen := Nat.le_trans hcap hcm
  by_cases hc : 0 ≤ cut ∧ cut ≤ (zs.length : Int)
  · obtain ⟨h0, h1⟩ := hc
    obtain ⟨c, rfl⟩ := Int.eq_ofNat_of_zero_le h0
    exact split_walk ao cap zs c w hm hcap hnil h (by omega)
  · exact walk_out ao cap zs cut w hm h hc

set_option maxRecDepth 100000 in
theorem lifted (os : Os) (started : os.Started) (H : Type) (enc : TypeId × Value → H) :
    ReturnsInHanded {} Try.checked os 7 .any (Rows.fnInFlightSplitAnywhereSpec.pre6 enc Try.prog Try.f7 Rows.fnInFlightSplitAnywhereRow.domain false) (Rows.fnInFlightSplitAnywhereSpec.post enc Try.prog Try.f7 false true false false) := by
  refine returnsInHanded_of_change (C := Try.checked) own started (by kernel_rfl) Try.func7
    (ChangeSpec.witness6 (enc := enc) (C := Try.checked) false ⟨#[], #[.slice none 0 0, .int .i64 0], []⟩ 8 (by kernel_rfl) (by kernel_rfl) (by kernel_rfl) (by kernel_rfl)) ?_
  intro W base args ds gs before hval0 hW hcnd _
  have hval : ∀ (j : Nat) t v, Try.f7.params[j]? = some t → args[j]? = some v → Value.okWide Try.prog W .any base t v := hval0
  have hW' := hW
  obtain ⟨p, q, hA0, hV, rfl, hfz, hnd⟩ := hW
  have hA : DataW.TrodAll enc Try.prog W 0 (fun _ => true) true Try.f7.params.toList args.toList ds p := hA0
  rw [Try.params7] at hA hval
  obtain ⟨v0, vs0, d0, ds0, p0, q0, hargs, rfl, rfl, h0, r0⟩ := trodAll_cons hA
  obtain ⟨v1, vs1, d1, ds1, p1, q1, rfl, rfl, rfl, h1, r1⟩ := trodAll_cons r0
  obtain ⟨rfl, rfl, rfl⟩ := trodAll_nil r1
  obtain rfl : args = #[v0, v1] := by cases args; simp_all
  obtain ⟨rfl, rfl⟩ := trodVars_none hV
  obtain ⟨a0, len0, cap0, rfl⟩ := okWide_slice Try.underlying73 (hval 0 73 v0 rfl rfl)
  have k0 := h0
  have lt0 : ∀ x ∈ p0, x.block < W.heap.size := by obtain ⟨m, hm⟩ := k0; exact DataW.trod_lt m _ _ _ hm
  obtain ⟨zs, hlen, hcap, hcm, hnil, hn⟩ : ∃ zs : List Note, zs.length = len0 ∧ len0 ≤ cap0 ∧ cap0 ≤ maxLen ∧ (a0 = none → zs.length = 0) ∧ NotesAt W a0 zs := by
    obtain ⟨fuel, hf⟩ := h0
    exact notes_of (by simpa [Value.cells] using hf)
  obtain ⟨a1, rfl, rfl, rfl, w1⟩ := open_int Try.underlying3 (hval 1 3 v1 rfl rfl) h1
  clear hA0 hval0
  refine (walk a0 len0 cap0 zs a1 W hlen hcap hcm hnil hn).mono fun e W' ⟨he, bel⟩ => ?_
  subst he
  exact ⟨_, rfl, _, _, _, [], _, [], hW', trodAll_mk1 (shut_bool Try.underlying4 _), (trodAll_cons_mk (Below.trod laidOut (by kernel_rfl) (of_decide_eq_true (by kernel_rfl)) k0 bel lt0) (trodAll_cons_mk (shut_int Try.underlying3 w1) trodAll_mk0)), rfl, bel.frame _, fun h => by cases h⟩

theorem over : Rows.fnInFlightSplitAnywhereRow.holds Try.pinned (OpenSpec.ofChange Rows.fnInFlightSplitAnywhereSpec) :=
  OpenClaim.holds_of_wide 7 Try.f7 rfl rfl rfl rfl rfl rfl rfl ⟨rfl, rfl, rfl, rfl, rfl⟩ rfl rfl rfl rfl rfl (by kernel_rfl) Try.func7 (by kernel_rfl)
    (of_decide_eq_true (by kernel_rfl)) (by unfold Func.isWrapper; first | (rw [if_pos (by decide +kernel)]; kernel_rfl) | (rw [if_neg (by decide +kernel)]; exact ⟨rfl, rfl⟩))
    (fun os started H enc _ => lifted os started H enc)
end Go.Proofs.Qxb6614903a.fnInFlightSplitAnywhere
namespace Go.Proofs.Qxb6614903a
/-- The statement. -/
theorem fnInFlightSplitAnywhereProved : Rows.FnInFlightSplitAnywhereSaid := fnInFlightSplitAnywhere.over
#print axioms fnInFlightSplitAnywhereProved
end Go.Proofs.Qxb6614903a
