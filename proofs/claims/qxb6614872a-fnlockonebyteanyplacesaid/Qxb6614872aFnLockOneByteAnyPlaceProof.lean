/-
  The proof of 'Rows.FnLockOneByteAnyPlaceSaid'. The frame is the guide's own shell at this function's number and types, turned at one place: the world behind the call is said by 'Below' (new blocks alone), for a conversion's row bears a mark that 'Grown' does not let by.
-/
import Derived.Test.Qxb6614872aWalkC
import Derived.Test.Qxb6614872aPlain
import Derived.WalkKit
import Derived.ProofKit
import Derived.OpenShut
import Derived.ShutString
namespace Go.Proofs.Qxb6614872a.fnLockOneByteAnyPlace
open Go.ChangeShapes Go.WideShapes Go.ChangeAt Go.RowKit
open Go.ChangeMaps (open_string shut_string)
set_option linter.unusedVariables false

theorem own : ownKnob Try.prog.godebug = none := by kernel_rfl

/-! ### STEP 1: THE WALK: the Go text returns true; nothing that was there has turned ('Below'). -/
theorem and63 (c : UInt8) : bits .and .u8 (c.toNat : Int) 63 = ((c.toNat % 64 : Nat) : Int) := by
  have h := u8_and_nat c.toNat 63 c.toNat_lt (by decide)
  rw [nat_mask6] at h
  exact h

theorem eql_ptr (g x y : Nat) (w : World) : (binOp .eql 25 (.pointer (some ⟨g, x, none⟩)) (.pointer (some ⟨g, y, none⟩))).run Try.prog w = .ok (.bool (x == y)) w := by
  obtain ⟨i, hi, hsz⟩ : ∃ i, Try.prog.info? 42 = some i ∧ i.size = 6 := by
    have h : (Try.prog.info? 42).map (·.size) = some 6 := by kernel_rfl
    obtain ⟨i, hi, e⟩ := Option.map_eq_some_iff.1 h
    exact ⟨i, hi, e⟩
  have h : ∀ d : Nat, (Op.equalIn (d + 1) 25 (.pointer (some ⟨g, x, none⟩)) (.pointer (some ⟨g, y, none⟩))).run Try.prog w = .ok (x == y) w := fun d => by
    have e : ((⟨g, x, none⟩ : Addr) == ⟨g, y, none⟩) = (x == y) := by
      rw [Bool.eq_iff_iff]; simp
    simp [Op.equalIn, run_underlying Try.underlying25, sizeOf, typeInfo, hi, hsz, samePointer, sameAddr, e]
  simp only [binOp]
  simp [Op.equal, Op.maxDepth, h 9999]

theorem ret_true {b : Bool} (h : b = true) : Ending.returned (.bool b) = .returned (.bool true) := by rw [h]

theorem ends (H1 H2 : Int) (c1 c2 : Nat) (b1 : 0 ≤ H1 ∧ H1 < 4294967296) (b2 : 0 ≤ H2 ∧ H2 < 4294967296) (h : H1 % 64 = H2 % 64 ↔ c1 % 64 = c2 % 64) :
    ((3 + (H1 % 64).toNat * 6 == 3 + (H2 % 64).toNat * 6) == ((c1 : Int) % 64 == (c2 : Int) % 64)) = true := by
  by_cases hc : c1 % 64 = c2 % 64
  · have := h.2 hc
    have e : (c1 : Int) % 64 = (c2 : Int) % 64 := by omega
    rw [this, e]
    simp
  · have hn : ¬ H1 % 64 = H2 % 64 := fun e => hc (h.1 e)
    have e1 : (3 + (H1 % 64).toNat * 6 == 3 + (H2 % 64).toNat * 6) = false := by
      rw [beq_eq_false_iff_ne]; omega
    have e2 : ((c1 : Int) % 64 == (c2 : Int) % 64) = false := by
      rw [beq_eq_false_iff_ne]; omega
    rw [e1, e2]; rfl

theorem ins_size (l : List UInt8) (k : Nat) (c : UInt8) : (ByteArray.mk (ins l k c).toArray).size = l.length + 1 := by
  have h : (ins l k c).length = l.length + 1 := by unfold ins; rw [List.length_append, List.length_cons, List.length_take, List.length_drop]; omega
  rw [← h]; rfl

theorem walk_in (s : ByteArray) (k : Nat) (c1 c2 : UInt8) (hs : s.size ≤ 65536) (hk : k ≤ s.size) (w : World) :
    Calls Try.prog 3 #[.string s, .int .i64 k, .int .u8 c1.toNat, .int .u8 c2.toNat] w fun e w' => e = .returned (.bool true) ∧ Below w.heap.size w w' := by
  have hls : s.data.toList.length = s.size := by simp
  have hfin := ends _ _ _ _ (hashTo_bd (ins s.data.toList k c1) 2166136261 (by omega)) (hashTo_bd (ins s.data.toList k c2) 2166136261 (by omega)) (plain_law (s.data.toList.take k) (s.data.toList.drop k) c1 c2)
  have l1 : (ByteArray.mk (ins s.data.toList k c1).toArray).size ≤ 100000 := by rw [ins_size]; omega
  have l2 : (ByteArray.mk (ins s.data.toList k c2).toArray).size ≤ 100000 := by rw [ins_size]; omega
  have HF : Hid (((3 + (hashTo (ins s.data.toList k c1) 2166136261 % 64).toNat * 6 == 3 + (hashTo (ins s.data.toList k c2) 2166136261 % 64).toNat * 6) == ((c1.toNat : Int) % 64 == (c2.toNat : Int) % 64)) = true) := hfin
  have hptr := eql_ptr
  have e1 := and63 c1
  have e2 := and63 c2
  clear hls hfin
  go_enter Try.func3, Try.ntmps3
  go_wp2_with (first
    | (go_at_call 4; refine (bytes_yes _ _ _ _ _ (by omega)).mono ?_; rintro e w' ⟨rfl, hw⟩; subst hw)
    | (go_at_call 5; refine (store_any _).mono ?_; rintro e w1 ⟨rfl, hb1⟩))
  refine (insert_any s k c1 _ hs hk).mono ?_
  rintro e w2 ⟨rfl, hb2⟩
  go_wp2_with fail
  refine (zzlock_any _ _ _ l1).mono ?_
  rintro e w3 ⟨rfl, hb3⟩
  go_wp2_with fail
  refine (insert_any s k c2 _ hs hk).mono ?_
  rintro e w4 ⟨rfl, hb4⟩
  go_wp2_with fail
  refine (zzlock_any _ _ _ l2).mono ?_
  rintro e w5 ⟨rfl, hb5⟩
  generalize (hashTo (ins s.data.toList k c1) 2166136261 % 64).toNat = A at HF ⊢
  generalize (hashTo (ins s.data.toList k c2) 2166136261 % 64).toNat = B at HF ⊢
  go_wp2
  go_ret
  refine ⟨ret_true HF.out, ?_⟩
  have s1 := hb1.size
  have s2 := hb2.size
  have s3 := hb3.size
  have s4 := hb4.size
  exact (((hb1.trans (hb2.mono s1)).trans (hb3.mono (by omega))).trans (hb4.mono (by omega))).trans (hb5.mono (by omega))

theorem byte_of {n : Int} (h : (Lit.int .u8 n).wf = true) : ∃ c : UInt8, n = (c.toNat : Int) := by
  simp [Lit.wf, IntKind.min, IntKind.max, IntKind.signed, IntKind.bits] at h
  refine ⟨UInt8.ofNat n.toNat, ?_⟩
  have e : (UInt8.ofNat n.toNat).toNat = n.toNat := by rw [UInt8.toNat_ofNat']; omega
  rw [e]; omega

theorem walk (a0 : ByteArray) (a1 : Int) (a2 : Int) (a3 : Int) (w0 : a0.size ≤ maxLen) (w1 : (Lit.int .i64 a1).wf = true) (w2 : (Lit.int .u8 a2).wf = true) (w3 : (Lit.int .u8 a3).wf = true) (w : World) :
    Calls Try.prog 3 #[.string a0, .int .i64 a1, .int .u8 a2, .int .u8 a3] w fun e w' => e = .returned (.bool true) ∧ Below w.heap.size w w' := by
  by_cases h1 : 1048576 < a0.size
  · go_enter Try.func3, Try.ntmps3
    go_wp2_with (go_at_call 4; refine (bytes_no _ _ _ _ _ h1 w0).mono ?_; rintro e w' ⟨rfl, hw⟩; subst hw)
    go_ret
    exact ⟨rfl, Below.refl _ _⟩
  · have h1' : a0.size ≤ 1048576 := by omega
    clear h1 w0
    by_cases h2 : 65536 < a0.size
    · go_enter Try.func3, Try.ntmps3
      go_wp2_with (go_at_call 4; refine (bytes_yes _ _ _ _ _ h1').mono ?_; rintro e w' ⟨rfl, hw⟩; subst hw)
      go_ret
      exact ⟨rfl, Below.refl _ _⟩
    · have h2' : a0.size ≤ 65536 := by omega
      clear h2
      by_cases h3 : a1 < 0
      · go_enter Try.func3, Try.ntmps3
        go_wp2_with (go_at_call 4; refine (bytes_yes _ _ _ _ _ h1').mono ?_; rintro e w' ⟨rfl, hw⟩; subst hw)
        go_ret
        exact ⟨rfl, Below.refl _ _⟩
      · have h3' : 0 ≤ a1 := by omega
        clear h3
        by_cases h4 : (a0.size : Int) < a1
        · go_enter Try.func3, Try.ntmps3
          go_wp2_with (go_at_call 4; refine (bytes_yes _ _ _ _ _ h1').mono ?_; rintro e w' ⟨rfl, hw⟩; subst hw)
          go_ret
          exact ⟨rfl, Below.refl _ _⟩
        · obtain ⟨k, rfl⟩ := Int.eq_ofNat_of_zero_le h3'
          obtain ⟨c1, rfl⟩ := byte_of w2
          obtain ⟨c2, rfl⟩ := byte_of w3
          exact walk_in a0 k c1 c2 h2' (by omega) w

/-! ### THE ROW's STEP: WRITTEN OUT: LEAVE IT -/
set_option maxRecDepth 100000 in
theorem lifted (os : Os) (started : os.Started) (H : Type) (enc : TypeId × Value → H) :
    ReturnsInHanded {} Try.checked os 3 .any (Rows.fnLockOneByteAnyPlaceSpec.pre6 enc Try.prog Try.f3 Rows.fnLockOneByteAnyPlaceRow.domain false) (Rows.fnLockOneByteAnyPlaceSpec.post enc Try.prog Try.f3 false true false false) := by
  refine returnsInHanded_of_change (C := Try.checked) own started (by kernel_rfl) Try.func3
    (ChangeSpec.witness6 (enc := enc) (C := Try.checked) false ⟨#[], #[.string ByteArray.empty, .int .i64 0, .int .u8 0, .int .u8 0], []⟩ 8 (by kernel_rfl) (by kernel_rfl) (by kernel_rfl) (by kernel_rfl)) ?_
  intro W base args ds gs before hval0 hW hcnd _
  have hval : ∀ (j : Nat) t v, Try.f3.params[j]? = some t → args[j]? = some v → Value.okWide Try.prog W .any base t v := hval0
  have hW' := hW
  obtain ⟨p, q, hA0, hV, rfl, hfz, hnd⟩ := hW
  have hA : DataW.TrodAll enc Try.prog W 0 (fun _ => true) true Try.f3.params.toList args.toList ds p := hA0
  rw [Try.params3] at hA hval
  obtain ⟨v0, vs0, d0, ds0, p0, q0, hargs, rfl, rfl, h0, r0⟩ := trodAll_cons hA
  obtain ⟨v1, vs1, d1, ds1, p1, q1, rfl, rfl, rfl, h1, r1⟩ := trodAll_cons r0
  obtain ⟨v2, vs2, d2, ds2, p2, q2, rfl, rfl, rfl, h2, r2⟩ := trodAll_cons r1
  obtain ⟨v3, vs3, d3, ds3, p3, q3, rfl, rfl, rfl, h3, r3⟩ := trodAll_cons r2
  obtain ⟨rfl, rfl, rfl⟩ := trodAll_nil r3
  obtain rfl : args = #[v0, v1, v2, v3] := by cases args; simp_all
  obtain ⟨rfl, rfl⟩ := trodVars_none hV
  obtain ⟨a0, rfl, rfl, rfl, w0⟩ := open_string Try.underlying9 (hval 0 9 v0 rfl rfl) h0
  obtain ⟨a1, rfl, rfl, rfl, w1⟩ := open_int Try.underlying3 (hval 1 3 v1 rfl rfl) h1
  obtain ⟨a2, rfl, rfl, rfl, w2⟩ := open_int Try.underlying5 (hval 2 5 v2 rfl rfl) h2
  obtain ⟨a3, rfl, rfl, rfl, w3⟩ := open_int Try.underlying5 (hval 3 5 v3 rfl rfl) h3
  clear hA0 hval0
  simp only [List.append_nil] at hW'
  refine (walk a0 a1 a2 a3 w0 w1 w2 w3 W).mono fun e W' ⟨he, bel⟩ => ?_
  subst he
  exact ⟨_, rfl, _, _, _, [], [], [], hW', trodAll_mk1 (shut_bool Try.underlying4 _), (trodAll_cons_mk (shut_string Try.underlying9 w0) (trodAll_cons_mk (shut_int Try.underlying3 w1) (trodAll_cons_mk (shut_int Try.underlying5 w2) (trodAll_cons_mk (shut_int Try.underlying5 w3) trodAll_mk0)))), rfl, bel.frame _, fun h => by cases h⟩

theorem over : Rows.fnLockOneByteAnyPlaceRow.holds Try.pinned (OpenSpec.ofChange Rows.fnLockOneByteAnyPlaceSpec) :=
  OpenClaim.holds_of_wide 3 Try.f3 rfl rfl rfl rfl rfl rfl rfl ⟨rfl, rfl, rfl, rfl, rfl⟩ rfl rfl rfl rfl rfl (by kernel_rfl) Try.func3 (by kernel_rfl)
    (of_decide_eq_true (by kernel_rfl)) (by unfold Func.isWrapper; first | (rw [if_pos (by decide +kernel)]; kernel_rfl) | (rw [if_neg (by decide +kernel)]; exact ⟨rfl, rfl⟩))
    (fun os started H enc _ => lifted os started H enc)

/-- The statement. -/
theorem proved : Rows.FnLockOneByteAnyPlaceSaid :=
  over
end Go.Proofs.Qxb6614872a.fnLockOneByteAnyPlace
namespace Go.Proofs.Qxb6614872a
theorem fnLockOneByteAnyPlaceProved : Rows.FnLockOneByteAnyPlaceSaid := fnLockOneByteAnyPlace.proved
#print axioms fnLockOneByteAnyPlaceProved
end Go.Proofs.Qxb6614872a
