/-
  The proof of 'Rows.FnInFlightInsertEntrySaid'. The frame follows the guide's own shell for a law over slices.
-/
import Derived.Test.Qxb6614903aOpen
import Derived.Test.Qxb6614903aInsert
import Derived.Lib.SmallJoins
namespace Go.Proofs.Qxb6614903a.fnInFlightInsertEntry
open Go.ChangeShapes Go.WideShapes Go.ChangeAt Go.RowKit
open Go.ChangeMaps (open_string shut_string)
open Go.Joins

theorem own : ownKnob Try.prog.godebug = none := by kernel_rfl
theorem laidOut : laidOutB Try.prog = true := by kernel_rfl

attribute [local go_sem ↓] Go.wp_at_zero Go.wp_at_succ slice73S load85S store85S load78S bsl73S build85S
set_option maxHeartbeats 1000000 in
set_option maxRecDepth 100000 in
/-- The place lies outside: the law answers true. -/
theorem walk_out (ao : Option Addr) (cap : Nat) (zs : List Note) (cut : Int) (x : Note) (w : World) (hm : zs.length ≤ maxLen) (h : NotesAt w ao zs) (hx : NtTo w 0 x.z x.d) (hxs : PtrS w 0 x.z.src x.so) (hc : cut < 0 ∨ (zs.length : Int) < cut) :
    Calls Try.prog 8 #[.slice ao zs.length cap, .int .i64 cut, .agg x.z.zcells] w fun e w' => e = .returned (.bool true) ∧ Below w.heap.size w w' := by
  have b0 : Below w.heap.size w (w.alloc (.cells x.z.zcells 78)) := (Below.refl _ _).alloc (Nat.le_refl _) _
  have S0 : XS w (w.alloc (.cells x.z.zcells 78)) ao zs x w.heap.size := ⟨b0, h.grow b0, rangeAt_new w x.z.zcells 78, by simp, hx.grow b0, hxs.grow b0⟩
  have ld0 := load78V_at S0.bx
  clear b0
  rcases hc with h0 | h0
  all_goals
    go_enter Try.func8, Try.ntmps8
    go_wp2_with fail
    refine (bytes33 _ cap zs _ x _ hm S0.n S0.tx S0.sx).mono ?_
    rintro e w1 ⟨⟨b, rfl, hb⟩, hb1⟩
    have S1 := S0.grow hb1
    clear hb1 S0 ld0
    cases b
    · go_wp2
      go_ret
      exact ⟨rfl, S1.bel⟩
    clear hb
    have ld1 := load78V_at S1.bx
    go_wp2_with fail
    refine (notesOver_any _ cap zs x _ hm S1.n S1.tx S1.sx).mono ?_
    rintro e w2 ⟨⟨b, rfl⟩, hb2⟩
    have S2 := S1.grow hb2
    clear hb2 S1 ld1
    cases b
    · go_wp2
      go_ret
      exact ⟨rfl, S2.bel⟩
    · go_wp2
      go_ret
      exact ⟨rfl, S2.bel⟩

theorem walk (ao : Option Addr) (len cap : Nat) (zs : List Note) (cut : Int) (x : Note) (w : World) (hlen : zs.length = len) (hcap : len ≤ cap) (hcm : cap ≤ maxLen) (hnil : ao = none → zs.length = 0 ∧ cap = 0) (h : NotesAt w ao zs) (hx : NtTo w 0 x.z x.d) (hxs : PtrS w 0 x.z.src x.so) :
    Calls Try.prog 8 #[.slice ao len cap, .int .i64 cut, .agg x.z.zcells] w fun e w' => e = .returned (.bool true) ∧ Below w.heap.size w w' := by
  subst hlen
  have hm : zs.length ≤ maxLen := Nat.le_trans hcap hcm
  by_cases hc : 0 ≤ cut ∧ cut ≤ (zs.length : Int)
  · obtain ⟨h0, h1⟩ := hc
    obtain ⟨c, rfl⟩ := Int.eq_ofNat_of_zero_le h0
    exact insert_walk ao cap zs c x w hm hcap hnil h hx hxs (by omega)
  · exact walk_out ao cap zs cut x w hm h hx hxs (by omega)

theorem nil_cap {H : Type} {enc : TypeId × Value → H} {w : World} {base : Nat} {spare : Nat → Bool} {held : Bool} {n : Nat} {len cap : Nat} {x : DataW H × List MemPlace} (h : DataW.trod enc Try.prog w base spare held n 73 [.slice none len cap] = some x) : cap = 0 := by
  rcases Go.Deep.open_slice Try.underlying73 h with ⟨e, _⟩ | ⟨a, len', cap', m, k, D, Pl, e, _⟩
  · simp at e; exact e.2
  · simp at e

set_option maxRecDepth 100000 in
theorem lifted (os : Os) (started : os.Started) (H : Type) (enc : TypeId × Value → H) :
    ReturnsInHanded {} Try.checked os 8 .any (Rows.fnInFlightInsertEntrySpec.pre6 enc Try.prog Try.f8 Rows.fnInFlightInsertEntryRow.domain false) (Rows.fnInFlightInsertEntrySpec.post enc Try.prog Try.f8 false true false false) := by
  refine returnsInHanded_of_change (C := Try.checked) own started (by kernel_rfl) Try.func8
    (ChangeSpec.witness6 (enc := enc) (C := Try.checked) false ⟨#[], #[.slice none 0 0, .int .i64 0, .agg #[.string ByteArray.empty, .string ByteArray.empty, .int .i64 0, .pointer none, .string ByteArray.empty, .pointer none, .int .i64 0, .int .i64 0, .pointer none, .pointer none, .pointer none, .int .i64 0]], []⟩ 8 (by kernel_rfl) (by kernel_rfl) (by kernel_rfl) (by kernel_rfl)) ?_
  intro W base args ds gs before hval0 hW hcnd _
  have hval : ∀ (j : Nat) t v, Try.f8.params[j]? = some t → args[j]? = some v → Value.okWide Try.prog W .any base t v := hval0
  have hW' := hW
  obtain ⟨p, q, hA0, hV, rfl, hfz, hnd⟩ := hW
  have hA : DataW.TrodAll enc Try.prog W 0 (fun _ => true) true Try.f8.params.toList args.toList ds p := hA0
  rw [Try.params8] at hA hval
  obtain ⟨v0, vs0, d0, ds0, p0, q0, hargs, rfl, rfl, h0, r0⟩ := trodAll_cons hA
  obtain ⟨v1, vs1, d1, ds1, p1, q1, rfl, rfl, rfl, h1, r1⟩ := trodAll_cons r0
  obtain ⟨v2, vs2, d2, ds2, p2, q2, rfl, rfl, rfl, h2, r2⟩ := trodAll_cons r1
  obtain ⟨rfl, rfl, rfl⟩ := trodAll_nil r2
  obtain rfl : args = #[v0, v1, v2] := by cases args; simp_all
  obtain ⟨rfl, rfl⟩ := trodVars_none hV
  obtain ⟨a0, len0, cap0, rfl⟩ := okWide_slice Try.underlying73 (hval 0 73 v0 rfl rfl)
  have k0 := h0
  have lt0 : ∀ x ∈ p0, x.block < W.heap.size := by obtain ⟨m, hm⟩ := k0; exact DataW.trod_lt m _ _ _ hm
  obtain ⟨zs, hlen, hcap, hcm, hnil, hn⟩ : ∃ zs : List Note, zs.length = len0 ∧ len0 ≤ cap0 ∧ cap0 ≤ maxLen ∧ (a0 = none → zs.length = 0 ∧ cap0 = 0) ∧ NotesAt W a0 zs := by
    obtain ⟨fuel, hf⟩ := h0
    have hf' : DataW.trod enc Try.prog W 0 (fun _ => true) true fuel 73 [.slice a0 len0 cap0] = some (d0, p0) := by simpa [Value.cells] using hf
    obtain ⟨zs, e1, e2, e3, e4, e5⟩ := notes_of hf'
    exact ⟨zs, e1, e2, e3, fun e => ⟨e4 e, by subst e; exact nil_cap hf'⟩, e5⟩
  obtain ⟨a1, rfl, rfl, rfl, w1⟩ := open_int Try.underlying3 (hval 1 3 v1 rfl rfl) h1
  obtain ⟨cs2, rfl, _⟩ := okWide_struct Try.underlying78 (hval 2 78 v2 rfl rfl)
  have k2 := h2
  have lt2 : ∀ x ∈ p2, x.block < W.heap.size := by obtain ⟨m, hm⟩ := k2; exact DataW.trod_lt m _ _ _ hm
  obtain ⟨x, rfl, hx, hxs⟩ : ∃ x : Note, cs2 = x.z.zcells ∧ NtTo W 0 x.z x.d ∧ PtrS W 0 x.z.src x.so := by
    obtain ⟨fuel, hf⟩ := h2
    obtain ⟨x, e, hx, hxs⟩ := note_of (cs := cs2.toList) (by simpa [Value.cells] using hf)
    exact ⟨x, Array.toList_inj.1 e, hx, hxs⟩
  clear hA0 hval0
  refine (walk a0 len0 cap0 zs a1 x W hlen hcap hcm hnil hn hx hxs).mono fun e W' ⟨he, bel⟩ => ?_
  subst he
  exact ⟨_, rfl, _, _, _, [], _, [], hW', trodAll_mk1 (shut_bool Try.underlying4 _), (trodAll_cons_mk (Below.trod laidOut (by kernel_rfl) (of_decide_eq_true (by kernel_rfl)) k0 bel lt0) (trodAll_cons_mk (shut_int Try.underlying3 w1) (trodAll_cons_mk (Below.trod laidOut (by kernel_rfl) (of_decide_eq_true (by kernel_rfl)) k2 bel lt2) trodAll_mk0))), rfl, bel.frame _, fun h => by cases h⟩

theorem over : Rows.fnInFlightInsertEntryRow.holds Try.pinned (OpenSpec.ofChange Rows.fnInFlightInsertEntrySpec) :=
  OpenClaim.holds_of_wide 8 Try.f8 rfl rfl rfl rfl rfl rfl rfl ⟨rfl, rfl, rfl, rfl, rfl⟩ rfl rfl rfl rfl rfl (by kernel_rfl) Try.func8 (by kernel_rfl)
    (of_decide_eq_true (by kernel_rfl)) (by unfold Func.isWrapper; first | (rw [if_pos (by decide +kernel)]; kernel_rfl) | (rw [if_neg (by decide +kernel)]; exact ⟨rfl, rfl⟩))
    (fun os started H enc _ => lifted os started H enc)
end Go.Proofs.Qxb6614903a.fnInFlightInsertEntry
namespace Go.Proofs.Qxb6614903a
/-- The statement. -/
theorem fnInFlightInsertEntryProved : Rows.FnInFlightInsertEntrySaid := fnInFlightInsertEntry.over
#print axioms fnInFlightInsertEntryProved
end Go.Proofs.Qxb6614903a
