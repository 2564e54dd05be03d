import Derived.Test.Qxb6614657aRange
import Derived.Laws.OwnMore
namespace Go.Proofs.Qxb6614657a
open Go.RowKit

/-- A row of bools: one a host. -/
def rowOf (n : Nat) (K : Nat → Bool) : List Value := (List.range n).map fun l => .bool (K l)
theorem rowOf_length (n : Nat) (K : Nat → Bool) : (rowOf n K).length = n := by simp [rowOf]
theorem rowOf_get (n : Nat) (K : Nat → Bool) (l : Nat) (hl : l < n) : (rowOf n K)[l]? = some (.bool (K l)) := by simp [rowOf, hl]
theorem rowOf_congr {n : Nat} {K L : Nat → Bool} (h : ∀ l, l < n → K l = L l) : rowOf n K = rowOf n L := by
  unfold rowOf
  exact List.map_congr_left fun l hl => by rw [h l (List.mem_range.1 hl)]
theorem rowOf_set (n : Nat) (K : Nat → Bool) (x : Nat) : (rowOf n K).set x (.bool true) = rowOf n (fun l => K l || decide (l = x)) := by
  apply List.ext_getElem?
  intro j
  by_cases hj : j < n
  · rw [rowOf_get n _ j hj, List.getElem?_set]
    by_cases e : x = j
    · subst e; simp [rowOf_length, hj]
    · rw [if_neg e, rowOf_get n K j hj]
      simp [Ne.symm e]
  · rw [List.getElem?_eq_none (by simp [rowOf_length]; omega), List.getElem?_eq_none (by simp [rowOf_length]; omega)]

/-- The hosts of a piece that lie ahead of host x. -/
def upTo (f : Nat) (bs : List Nat) (K : Nat → Bool) (x l : Nat) : Bool := K l || (bitAt f bs l && decide (l < x))
theorem upTo_skip {f : Nat} {bs : List Nat} {K : Nat → Bool} {x : Nat} (h : bitAt f bs x = false) : upTo f bs K (x + 1) = upTo f bs K x := by
  funext l
  unfold upTo
  by_cases e : l = x
  · subst e; simp [h]
  · congr 2; simp; omega
theorem upTo_mark {f : Nat} {bs : List Nat} {K : Nat → Bool} {x : Nat} (h : bitAt f bs x = true) : upTo f bs K (x + 1) = fun l => upTo f bs K x l || decide (l = x) := by
  funext l
  unfold upTo
  by_cases e : l = x
  · subst e; simp [h]
  · have : decide (l < x + 1) = decide (l < x) := by simp; omega
    simp [e, this]
theorem bitAt_at (f : Nat) (bs : List Nat) (k c : Nat) (hk : k < bs.length) (hc : c < 8) : bitAt f bs ((f + k) * 8 + c) = bs[k].testBit c := by
  unfold bitAt
  rw [show ((f + k) * 8 + c) / 8 = f + k by omega, show ((f + k) * 8 + c) % 8 = c by omega, show f + k - f = k by omega, List.getElem?_eq_getElem hk]
  simp
theorem bitAt_past (f : Nat) (bs : List Nat) (l : Nat) (h : bitAt f bs l = true) : f * 8 ≤ l ∧ l < (f + bs.length) * 8 := by
  unfold bitAt at h
  simp only [Bool.and_eq_true, decide_eq_true_eq] at h
  by_cases h1 : l / 8 - f < bs.length
  · omega
  · rw [List.getElem?_eq_none (by omega)] at h
    simp at h
theorem upTo_start (f : Nat) (bs : List Nat) (K : Nat → Bool) : upTo f bs K (f * 8) = K := by
  funext l
  unfold upTo
  cases hb : bitAt f bs l
  · simp
  · have := (bitAt_past f bs l hb).1
    simp; omega
theorem upTo_end (f : Nat) (bs : List Nat) (K : Nat → Bool) : upTo f bs K ((f + bs.length) * 8) = fun l => K l || bitAt f bs l := by
  funext l
  unfold upTo
  cases hb : bitAt f bs l
  · simp
  · have := (bitAt_past f bs l hb).2
    simp [this]

set_option maxRecDepth 100000 in
set_option maxHeartbeats 1000000 in
theorem colMark_any (B n f gr cap : Nat) (K : Nat → Bool) (v : Value) (bs : List Nat) (w0 w : World) (hn : n ≤ 4096) (hf : f + bs.length ≤ 4096) (hb : Below B w0 w) (hB : w0.heap.size ≤ B) (hBw : B ≤ w.heap.size) (hr : RB w0 v bs) (hin : ∀ l, bitAt f bs l = true → l < n)
    (hown : w.ownsRow B 4 1 (.slice (some ⟨gr, 0, none⟩) n cap) n (rowOf n K)) :
    Calls Try.prog 19 #[.slice (some ⟨gr, 0, none⟩) n cap, .int .i64 f, v] w fun e w' => e = .returned (.bool true) ∧ w'.ownsRow B 4 1 (.slice (some ⟨gr, 0, none⟩) n cap) n (rowOf n (fun l => K l || bitAt f bs l)) ∧ w.grownBy w' (some gr) := by
  have hgr := (hown.lt gr rfl).1
  have hr' := hr
  obtain ⟨ao, cp, rfl, h1, _⟩ := hr'
  go_enter Try.func19, Try.ntmps19
  go_wp2_with fail
  go_loopw [8] (fun i wr => ∃ k : Nat, k ≤ bs.length ∧ i = .int .i64 k ∧ wr.ownsRow B 4 1 (.slice (some ⟨gr, 0, none⟩) n cap) n (rowOf n (upTo f bs K ((f + k) * 8))) ∧ w.grownBy wr (some gr)) (fun i _ => bs.length - (intOf i).toNat)
  case atStart => exact ⟨0, Nat.zero_le _, rfl, by rw [Nat.add_zero, upTo_start]; exact hown, ⟨rfl, rfl, rfl, Nat.le_refl _, fun _ _ _ => rfl⟩⟩
  case round =>
    clear hown
    obtain ⟨k, hk, rfl, hown, hg⟩ := hrel
    by_cases hlt : k < bs.length
    · have hbb := h1 _ (List.getElem_mem hlt)
      go_wp2_with fail
      go_loopw [9] (fun q wq => ∃ c : Nat, c ≤ 8 ∧ q = .int .i64 c ∧ wq.ownsRow B 4 1 (.slice (some ⟨gr, 0, none⟩) n cap) n (rowOf n (upTo f bs K ((f + k) * 8 + c))) ∧ w.grownBy wq (some gr)) (fun q _ => 8 - (intOf q).toNat)
      case atStart => exact ⟨0, Nat.zero_le _, rfl, hown, hg⟩
      case round =>
        clear hown hg
        obtain ⟨c, hc, rfl, hown, hg⟩ := hrel
        by_cases hc9 : c < 8
        · obtain ⟨ao', cp', e, _, h2⟩ := hr.grow ((hb.grown hg hBw (fun k hk => by cases hk; exact hgr)).mono hB)
          simp only [Value.slice.injEq, true_and] at e
          obtain ⟨rfl, rfl⟩ := e
          obtain ⟨g, off, rfl, hcc⟩ := h2 k hlt
          clear h2
          have hat := bitAt_at f bs k c hlt hc9
          have hS := shr_bit bs[k] c hbb hc9
          rw [← hat] at hS
          cases ht : bitAt f bs ((f + k) * 8 + c)
          · rw [ht] at hS
            rw [← upTo_skip ht, Nat.add_assoc] at hown
            have HO : Hid _ := hown
            have HG : Hid _ := hg
            clear hown hg hat ht hr hb hin
            generalize bs[k] = b at *
            go_wp2
            go_roundw
            case rel => exact ⟨c + 1, by omega, by go_num, HO.out, HG.out⟩
            case measure => simp [intOf]; omega
          · rw [ht] at hS
            have hxn := hin _ ht
            have hst := hown.stored ((f + k) * 8 + c) (.bool true)
            have hc0 := hown.cellAt ((f + k) * 8 + c) (by omega)
            rw [rowOf_get n _ _ hxn] at hc0
            have hf0 := hown.frozenAt ((f + k) * 8 + c)
            rw [rowOf_set, ← upTo_mark ht, Nat.add_assoc] at hst
            have hg2 := hg.trans hst.2
            obtain ⟨x, hx⟩ : ∃ x, x = (f + k) * 8 + c := ⟨_, rfl⟩
            have hxi : ((f : Int) + (k : Int)) * 8 + (c : Int) = (x : Int) := by omega
            have HO : Hid _ := hst.1
            have HG : Hid _ := hg2
            clear hown hg hst hg2 hat ht hr hb hin
            rw [← hx] at hc0 hf0 hxn HO HG
            have hwx : IntKind.i64.wrap (((f : Int) + (k : Int)) * 8 + (c : Int)) = (x : Int) := by rw [hxi, IntKind.wrap_i64]; omega
            clear hx hxi
            generalize bs[k] = b at *
            go_wp2
            go_roundw
            case rel => exact ⟨c + 1, by omega, by go_num, HO.out, HG.out⟩
            case measure => simp [intOf]; omega
        · have : c = 8 := by omega
          subst this
          rw [show (f + k) * 8 + 8 = (f + (k + 1)) * 8 by omega] at hown
          have HO : Hid _ := hown
          have HG : Hid _ := hg
          clear hown hg hr hb hin
          go_wp2
          go_roundw
          case rel => exact ⟨k + 1, by omega, by go_num, HO.out, HG.out⟩
          case measure => simp [intOf]; omega
    · have : k = bs.length := by omega
      subst this
      rw [upTo_end] at hown
      have HO : Hid _ := hown
      have HG : Hid _ := hg
      clear hown hg hr hb
      go_wp2
      go_ret
      exact ⟨rfl, HO.out, HG.out⟩

theorem info4 : (Try.prog.info? 4).map (fun i => (i.zero, i.size, i.bytes)) = some (some (.bool false), 1, 1) := by kernel_rfl
theorem rowOf_false (n : Nat) : List.replicate n (Value.bool false) = rowOf n (fun _ => false) := by
  apply List.ext_getElem?
  intro j
  by_cases hj : j < n
  · rw [rowOf_get n _ j hj, List.getElem?_replicate, if_pos hj]
  · rw [List.getElem?_eq_none (by simp; omega), List.getElem?_eq_none (by simp [rowOf_length]; omega)]

set_option maxRecDepth 100000 in
set_option maxHeartbeats 1000000 in
theorem colRow_any (n f : Nat) (v : Value) (bs : List Nat) (w : World) (hn0 : 1 ≤ n) (hn : n ≤ 4096) (hf : f + bs.length ≤ 4096) (hr : RB w v bs) (hin : ∀ l, bitAt f bs l = true → l < n) :
    Calls Try.prog 18 #[.int .i64 f, v, .int .i64 n] w fun e w' => e = .returned (.tuple #[.slice (some ⟨w.heap.size, 0, none⟩) n n, .bool true]) ∧ w'.ownsRow w.heap.size 4 1 (.slice (some ⟨w.heap.size, 0, none⟩) n n) n (rowOf n (bitAt f bs)) ∧ Below w.heap.size w w' := by
  obtain ⟨i0, hi, hz0, hz1, hz2⟩ := info_parts info4
  go_enter Try.func18, Try.ntmps18
  go_wp2_with (at_make; go_must (refine wpList_make_full _ rfl _ _ 42 rfl w.heap.size 4 i0 (.bool false) 1 Try.underlying42 hi hz0 hz1 _ _ _ _ n rfl rfl rfl rfl (by rw [hz2]; omega) (by unfold maxLen; omega) (by simp) ?_); intro w1 hown1 hg1)
  have e0 : (madeCells (Value.bool false).cells (n * 1)).toList = rowOf n (fun _ => false) := by
    rw [Nat.mul_one]
    exact (toList_madeCells_one (.bool false) n).trans (rowOf_false n)
  rw [e0] at hown1
  have hb1 : Below w.heap.size w w1 := (Below.refl _ _).grown hg1 (Nat.le_refl _) (fun _ h => by cases h)
  refine (colMark_any w.heap.size n f w.heap.size n (fun _ => false) v bs w w1 hn hf hb1 (Nat.le_refl _) hb1.size hr hin hown1).mono ?_
  rintro e w2 ⟨rfl, ho, hg⟩
  have HO : Hid _ := ho
  have hb2 := hb1.grown hg hb1.size (fun k hk => by cases hk; exact Nat.le_refl _)
  clear ho hg hown1 hg1 hr hi hz0 hz1 hz2
  go_wp2
  go_ret2
  exact ⟨rfl, by have h := HO.out; rw [rowOf_congr (L := bitAt f bs) (fun l _ => Bool.false_or _)] at h; exact h, hb2⟩
end Go.Proofs.Qxb6614657a
