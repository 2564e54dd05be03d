/-
  The proof of 'Rows.FnTakeInStampMatchesP1P2RulesSaid'. The frame follows the guide's own shell for a law over slices.
-/
import Derived.Test.Qxb6614657aOpenT
import Derived.Test.Qxb6614657aLawM
import Derived.Lib.SmallJoins
namespace Go.Proofs.Qxb6614657a.fnTakeInStampMatchesP1P2Rules
open Go.ChangeShapes Go.WideShapes Go.ChangeAt Go.RowKit
open Go.Joins

theorem own : ownKnob Try.prog.godebug = none := by kernel_rfl
theorem laidOut : laidOutB Try.prog = true := by kernel_rfl

set_option maxRecDepth 100000 in
theorem lifted (os : Os) (started : os.Started) (H : Type) (enc : TypeId × Value → H) :
    ReturnsInHanded {} Try.checked os 3 .any (Rows.fnTakeInStampMatchesP1P2RulesSpec.pre6 enc Try.prog Try.f3 Rows.fnTakeInStampMatchesP1P2RulesRow.domain false) (Rows.fnTakeInStampMatchesP1P2RulesSpec.post enc Try.prog Try.f3 false true false false) := by
  refine returnsInHanded_of_change (C := Try.checked) own started (by kernel_rfl) Try.func3
    (ChangeSpec.witness6 (enc := enc) (C := Try.checked) false ⟨#[], #[.slice none 0 0, .int .i64 0, .slice none 0 0, .slice none 0 0, .slice none 0 0, .slice none 0 0, .int .u8 0, .int .i64 0, .slice none 0 0, .slice none 0 0, .slice none 0 0, .slice none 0 0], []⟩ 8 (by kernel_rfl) (by kernel_rfl) (by kernel_rfl) (by kernel_rfl)) ?_
  intro W base args ds gs before hval0 hW hcnd _
  have hval : ∀ (j : Nat) t v, Try.f3.params[j]? = some t → args[j]? = some v → Value.okWide Try.prog W .any base t v := hval0
  have hW' := hW
  obtain ⟨p, q, hA0, hV, rfl, hfz, hnd⟩ := hW
  have hA : DataW.TrodAll enc Try.prog W 0 (fun _ => true) true Try.f3.params.toList args.toList ds p := hA0
  rw [Try.params3] at hA hval
  obtain ⟨v0, vs0, d0, ds0, p0, q0, hargs, rfl, rfl, h0, r0⟩ := trodAll_cons hA
  obtain ⟨v1, vs1, d1, ds1, p1, q1, rfl, rfl, rfl, h1, r1⟩ := trodAll_cons r0
  obtain ⟨v2, vs2, d2, ds2, p2, q2, rfl, rfl, rfl, h2, r2⟩ := trodAll_cons r1
  obtain ⟨v3, vs3, d3, ds3, p3, q3, rfl, rfl, rfl, h3, r3⟩ := trodAll_cons r2
  obtain ⟨v4, vs4, d4, ds4, p4, q4, rfl, rfl, rfl, h4, r4⟩ := trodAll_cons r3
  obtain ⟨v5, vs5, d5, ds5, p5, q5, rfl, rfl, rfl, h5, r5⟩ := trodAll_cons r4
  obtain ⟨v6, vs6, d6, ds6, p6, q6, rfl, rfl, rfl, h6, r6⟩ := trodAll_cons r5
  obtain ⟨v7, vs7, d7, ds7, p7, q7, rfl, rfl, rfl, h7, r7⟩ := trodAll_cons r6
  obtain ⟨v8, vs8, d8, ds8, p8, q8, rfl, rfl, rfl, h8, r8⟩ := trodAll_cons r7
  obtain ⟨v9, vs9, d9, ds9, p9, q9, rfl, rfl, rfl, h9, r9⟩ := trodAll_cons r8
  obtain ⟨v10, vs10, d10, ds10, p10, q10, rfl, rfl, rfl, h10, r10⟩ := trodAll_cons r9
  obtain ⟨v11, vs11, d11, ds11, p11, q11, rfl, rfl, rfl, h11, r11⟩ := trodAll_cons r10
  obtain ⟨rfl, rfl, rfl⟩ := trodAll_nil r11
  obtain rfl : args = #[v0, v1, v2, v3, v4, v5, v6, v7, v8, v9, v10, v11] := by cases args; simp_all
  obtain ⟨rfl, rfl⟩ := trodVars_none hV
  have k0 := h0
  have lt0 : ∀ x ∈ p0, x.block < W.heap.size := by obtain ⟨m, hm⟩ := k0; exact DataW.trod_lt m _ _ _ hm
  obtain ⟨x0, len0, cap0, rfl⟩ := okWide_slice Try.underlying22 (hval 0 22 v0 rfl rfl)
  obtain ⟨s0, y0, z0⟩ : ∃ xs : List ByteArray, Rd W (.slice x0 len0 cap0) (strs xs) ∧ ∀ s ∈ xs, s.size ≤ maxLen := by
    obtain ⟨fuel, hf⟩ := h0
    exact strs_of (by simpa [Value.cells] using hf)
  obtain ⟨a1, rfl, rfl, rfl, w1⟩ := open_int Try.underlying3 (hval 1 3 v1 rfl rfl) h1
  have k2 := h2
  have lt2 : ∀ x ∈ p2, x.block < W.heap.size := by obtain ⟨m, hm⟩ := k2; exact DataW.trod_lt m _ _ _ hm
  obtain ⟨x2, len2, cap2, rfl⟩ := okWide_slice Try.underlying23 (hval 2 23 v2 rfl rfl)
  obtain ⟨s2, y2, z2⟩ : ∃ xs : List Int, Rd W (.slice x2 len2 cap2) (ints xs) ∧ ∀ x ∈ xs, -9223372036854775808 ≤ x ∧ x ≤ 9223372036854775807 := by
    obtain ⟨fuel, hf⟩ := h2
    exact ints_of (by simpa [Value.cells] using hf)
  have k3 := h3
  have lt3 : ∀ x ∈ p3, x.block < W.heap.size := by obtain ⟨m, hm⟩ := k3; exact DataW.trod_lt m _ _ _ hm
  obtain ⟨x3, len3, cap3, rfl⟩ := okWide_slice Try.underlying24 (hval 3 24 v3 rfl rfl)
  obtain ⟨s3, y3, z3⟩ : ∃ xs : List Nat, Rd W (.slice x3 len3 cap3) (u64s xs) ∧ ∀ x ∈ xs, x < 18446744073709551616 := by
    obtain ⟨fuel, hf⟩ := h3
    exact u64s_of (by simpa [Value.cells] using hf)
  have k4 := h4
  have lt4 : ∀ x ∈ p4, x.block < W.heap.size := by obtain ⟨m, hm⟩ := k4; exact DataW.trod_lt m _ _ _ hm
  obtain ⟨x4, len4, cap4, rfl⟩ := okWide_slice Try.underlying23 (hval 4 23 v4 rfl rfl)
  obtain ⟨s4, y4, z4⟩ : ∃ xs : List Int, Rd W (.slice x4 len4 cap4) (ints xs) ∧ ∀ x ∈ xs, -9223372036854775808 ≤ x ∧ x ≤ 9223372036854775807 := by
    obtain ⟨fuel, hf⟩ := h4
    exact ints_of (by simpa [Value.cells] using hf)
  have k5 := h5
  have lt5 : ∀ x ∈ p5, x.block < W.heap.size := by obtain ⟨m, hm⟩ := k5; exact DataW.trod_lt m _ _ _ hm
  obtain ⟨x5, len5, cap5, rfl⟩ := okWide_slice Try.underlying25 (hval 5 25 v5 rfl rfl)
  obtain ⟨vs5, s5, y5, z5, u5⟩ : ∃ (vs : List Value) (bs : List (List Nat)), Rd W (.slice x5 len5 cap5) vs ∧ vs.length = bs.length ∧ ∀ i (hi : i < bs.length) (hi' : i < vs.length), RB W vs[i] bs[i] := by
    obtain ⟨fuel, hf⟩ := h5
    exact bss_of (by simpa [Value.cells] using hf)
  obtain ⟨a6, rfl, rfl, rfl, w6⟩ := open_int Try.underlying5 (hval 6 5 v6 rfl rfl) h6
  obtain ⟨a7, rfl, rfl, rfl, w7⟩ := open_int Try.underlying3 (hval 7 3 v7 rfl rfl) h7
  have k8 := h8
  have lt8 : ∀ x ∈ p8, x.block < W.heap.size := by obtain ⟨m, hm⟩ := k8; exact DataW.trod_lt m _ _ _ hm
  obtain ⟨x8, len8, cap8, rfl⟩ := okWide_slice Try.underlying23 (hval 8 23 v8 rfl rfl)
  obtain ⟨s8, y8, z8⟩ : ∃ xs : List Int, Rd W (.slice x8 len8 cap8) (ints xs) ∧ ∀ x ∈ xs, -9223372036854775808 ≤ x ∧ x ≤ 9223372036854775807 := by
    obtain ⟨fuel, hf⟩ := h8
    exact ints_of (by simpa [Value.cells] using hf)
  have k9 := h9
  have lt9 : ∀ x ∈ p9, x.block < W.heap.size := by obtain ⟨m, hm⟩ := k9; exact DataW.trod_lt m _ _ _ hm
  obtain ⟨x9, len9, cap9, rfl⟩ := okWide_slice Try.underlying24 (hval 9 24 v9 rfl rfl)
  obtain ⟨s9, y9, z9⟩ : ∃ xs : List Nat, Rd W (.slice x9 len9 cap9) (u64s xs) ∧ ∀ x ∈ xs, x < 18446744073709551616 := by
    obtain ⟨fuel, hf⟩ := h9
    exact u64s_of (by simpa [Value.cells] using hf)
  have k10 := h10
  have lt10 : ∀ x ∈ p10, x.block < W.heap.size := by obtain ⟨m, hm⟩ := k10; exact DataW.trod_lt m _ _ _ hm
  obtain ⟨x10, len10, cap10, rfl⟩ := okWide_slice Try.underlying23 (hval 10 23 v10 rfl rfl)
  obtain ⟨s10, y10, z10⟩ : ∃ xs : List Int, Rd W (.slice x10 len10 cap10) (ints xs) ∧ ∀ x ∈ xs, -9223372036854775808 ≤ x ∧ x ≤ 9223372036854775807 := by
    obtain ⟨fuel, hf⟩ := h10
    exact ints_of (by simpa [Value.cells] using hf)
  have k11 := h11
  have lt11 : ∀ x ∈ p11, x.block < W.heap.size := by obtain ⟨m, hm⟩ := k11; exact DataW.trod_lt m _ _ _ hm
  obtain ⟨x11, len11, cap11, rfl⟩ := okWide_slice Try.underlying25 (hval 11 25 v11 rfl rfl)
  obtain ⟨vs11, s11, y11, z11, u11⟩ : ∃ (vs : List Value) (bs : List (List Nat)), Rd W (.slice x11 len11 cap11) vs ∧ vs.length = bs.length ∧ ∀ i (hi : i < bs.length) (hi' : i < vs.length), RB W vs[i] bs[i] := by
    obtain ⟨fuel, hf⟩ := h11
    exact bss_of (by simpa [Value.cells] using hf)
  clear hA0 hval0
  have w6' := w6
  simp [Lit.wf, IntKind.min, IntKind.max, IntKind.bits, IntKind.signed] at w6'
  obtain ⟨fm, rfl⟩ := Int.eq_ofNat_of_zero_le (show 0 ≤ a6 by omega)
  refine (match_any ⟨.slice x0 len0 cap0, .slice x2 len2 cap2, .slice x3 len3 cap3, .slice x4 len4 cap4, .slice x5 len5 cap5, .slice x8 len8 cap8, .slice x9 len9 cap9, .slice x10 len10 cap10, .slice x11 len11 cap11⟩ ⟨s0, s2, s3, s4, vs5, s5, s8, s9, s10, vs11, s11⟩ a1 a7 fm W
    ⟨y0, y2, y3, y4, y5, z5, u5, y8, y9, y10, y11, z11, u11⟩ ⟨z0, z3, z9, z4, z10⟩ (by omega)).mono fun e W' ⟨he, bel⟩ => ?_
  subst he
  exact ⟨_, rfl, _, _, _, [], _, [], hW', trodAll_mk1 (shut_bool Try.underlying4 _), (trodAll_cons_mk (Below.trod laidOut (by kernel_rfl) (of_decide_eq_true (by kernel_rfl)) k0 bel lt0) (trodAll_cons_mk (shut_int Try.underlying3 w1) (trodAll_cons_mk (Below.trod laidOut (by kernel_rfl) (of_decide_eq_true (by kernel_rfl)) k2 bel lt2) (trodAll_cons_mk (Below.trod laidOut (by kernel_rfl) (of_decide_eq_true (by kernel_rfl)) k3 bel lt3) (trodAll_cons_mk (Below.trod laidOut (by kernel_rfl) (of_decide_eq_true (by kernel_rfl)) k4 bel lt4) (trodAll_cons_mk (Below.trod laidOut (by kernel_rfl) (of_decide_eq_true (by kernel_rfl)) k5 bel lt5) (trodAll_cons_mk (shut_int Try.underlying5 w6) (trodAll_cons_mk (shut_int Try.underlying3 w7) (trodAll_cons_mk (Below.trod laidOut (by kernel_rfl) (of_decide_eq_true (by kernel_rfl)) k8 bel lt8) (trodAll_cons_mk (Below.trod laidOut (by kernel_rfl) (of_decide_eq_true (by kernel_rfl)) k9 bel lt9) (trodAll_cons_mk (Below.trod laidOut (by kernel_rfl) (of_decide_eq_true (by kernel_rfl)) k10 bel lt10) (trodAll_cons_mk (Below.trod laidOut (by kernel_rfl) (of_decide_eq_true (by kernel_rfl)) k11 bel lt11) trodAll_mk0)))))))))))), rfl, bel.frame _, fun h => by cases h⟩

theorem over : Rows.fnTakeInStampMatchesP1P2RulesRow.holds Try.pinned (OpenSpec.ofChange Rows.fnTakeInStampMatchesP1P2RulesSpec) :=
  OpenClaim.holds_of_wide 3 Try.f3 rfl rfl rfl rfl rfl rfl rfl ⟨rfl, rfl, rfl, rfl, rfl⟩ rfl rfl rfl rfl rfl (by kernel_rfl) Try.func3 (by kernel_rfl)
    (of_decide_eq_true (by kernel_rfl)) (by unfold Func.isWrapper; first | (rw [if_pos (by decide +kernel)]; kernel_rfl) | (rw [if_neg (by decide +kernel)]; exact ⟨rfl, rfl⟩))
    (fun os started H enc _ => lifted os started H enc)
end Go.Proofs.Qxb6614657a.fnTakeInStampMatchesP1P2Rules
namespace Go.Proofs.Qxb6614657a
/-- The statement. -/
theorem fnTakeInStampMatchesP1P2RulesProved : Rows.FnTakeInStampMatchesP1P2RulesSaid := fnTakeInStampMatchesP1P2Rules.over
#print axioms fnTakeInStampMatchesP1P2RulesProved
end Go.Proofs.Qxb6614657a
