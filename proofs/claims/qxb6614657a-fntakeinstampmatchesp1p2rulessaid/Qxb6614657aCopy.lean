import Derived.Test.Qxb6614657aMark
import Derived.Test.Qxb6614657aZeros
namespace Go.Proofs.Qxb6614657a
open Go.RowKit

/-- Cells written into a row from place o on. -/
def putAt (xs : List Value) (o : Nat) : List Value → List Value
  | [] => xs
  | c :: cs => putAt (xs.set o c) (o + 1) cs
theorem putAt_get (cs : List Value) : ∀ (xs : List Value) (o j : Nat), j < xs.length → (putAt xs o cs)[j]? = if o ≤ j ∧ j < o + cs.length then cs[j - o]? else xs[j]? := by
  induction cs with
  | nil => intro xs o j hj; rw [if_neg (by simp)]; rfl
  | cons c cs ih =>
    intro xs o j hj
    rw [putAt, ih _ _ _ (by simpa using hj)]
    by_cases h1 : o + 1 ≤ j ∧ j < o + 1 + cs.length
    · rw [if_pos h1, if_pos (by simp; omega), show j - o = (j - (o + 1)) + 1 by omega]; simp
    · rw [if_neg h1]
      by_cases h2 : j = o
      · subst h2
        rw [if_pos (by simp), Nat.sub_self, List.getElem?_set_self hj]; rfl
      · rw [if_neg (by simp at h1 ⊢; omega), List.getElem?_set_ne (by omega)]
theorem putAt_length (cs : List Value) : ∀ (xs : List Value) (o : Nat), (putAt xs o cs).length = xs.length := by
  induction cs with
  | nil => intro xs o; rfl
  | cons c cs ih => intro xs o; rw [putAt, ih]; simp
theorem putAt_all (xs cs : List Value) (h : cs.length = xs.length) : putAt xs 0 cs = cs := by
  apply List.ext_getElem?
  intro j
  by_cases hj : j < xs.length
  · rw [putAt_get cs xs 0 j hj, if_pos (by omega), Nat.sub_zero]
  · rw [List.getElem?_eq_none (by rw [putAt_length]; omega), List.getElem?_eq_none (by omega)]
theorem own_setCells {base e size g n cap : Nat} (cs : List Value) : ∀ {w : World} {xs : List Value} (o : Nat), w.ownsRow base e size (.slice (some ⟨g, 0, none⟩) n cap) n xs →
    (w.setCells g o cs).ownsRow base e size (.slice (some ⟨g, 0, none⟩) n cap) n (putAt xs o cs) ∧ w.grownBy (w.setCells g o cs) (some g) := by
  induction cs with
  | nil => intro w xs o h; exact ⟨h, ⟨rfl, rfl, rfl, Nat.le_refl _, fun _ _ _ => rfl⟩⟩
  | cons c cs ih =>
    intro w xs o h
    have h1 := h.stored o c
    have h2 := ih (o + 1) h1.1
    exact ⟨h2.1, h1.2.trans h2.2⟩

def u8s (bs : List Nat) : List Value := bs.map fun (b : Nat) => Value.int .u8 (b : Int)
theorem u8s_length (bs : List Nat) : (u8s bs).length = bs.length := by simp [u8s]
theorem u8s_one (bs : List Nat) : ∀ u ∈ u8s bs, u.oneCell' = true := by
  intro u hu
  obtain ⟨b, _, rfl⟩ := List.mem_map.1 hu
  rfl
theorem u8s_get (bs : List Nat) (j : Nat) (hj : j < bs.length) : (u8s bs)[j]? = some (.int .u8 (bs[j] : Int)) := by simp [u8s, hj]
theorem info5 : (Try.prog.info? 5).map (fun i => (i.zero, i.size, i.bytes)) = some (some (.int .u8 0), 1, 1) := by kernel_rfl
theorem size5 : (Try.prog.info? 5).map (·.size) = some 1 := by kernel_rfl
/-- Bytes in a row of one's own can be read. -/
theorem RB.own {w : World} {lo : Nat} {v : Value} {bs : List Nat} (h : w.ownsRow lo 5 1 v bs.length (u8s bs)) (hb : ∀ b ∈ bs, b < 256) : RB w v bs := by
  have h0 := h
  rcases h.2 with ⟨rfl, e⟩ | ⟨g, cap, cur, rfl, _⟩
  · refine ⟨none, 0, by rw [e], hb, fun j hj => by omega⟩
  · refine ⟨_, cap, rfl, hb, fun j hj => ⟨g, 0, rfl, ?_⟩⟩
    rw [Nat.zero_add, h0.cellAt j (by omega)]; exact u8s_get bs j hj

set_option maxRecDepth 100000 in
set_option maxHeartbeats 1000000 in
theorem cloneBytes_any (v : Value) (bs : List Nat) (w : World) (hlen : bs.length ≤ 1048576) (hr : RB w v bs) :
    Calls Try.prog 22 #[v] w fun e w' => ∃ u, e = .returned u ∧ w'.ownsRow w.heap.size 5 1 u bs.length (u8s bs) ∧ Below w.heap.size w w' := by
  obtain ⟨ao, cap, rfl, h1, h2⟩ := hr
  have hnl := fun w ao n c => Lib.run_eql_slice_nil (P := Try.prog) w 40 5 ao n c 0 0 Try.underlying40
  obtain ⟨i0, hi, hz0, hz1, hz2⟩ := info_parts info5
  cases ao with
  | none =>
    have hl : bs.length = 0 := by
      by_cases h : 0 < bs.length
      · obtain ⟨g, off, e, _⟩ := h2 0 h
        cases e
      · omega
    have hb : bs = [] := List.eq_nil_of_length_eq_zero hl
    subst hb
    go_enter Try.func22, Try.ntmps22
    go_wp2
    go_ret
    exact ⟨.slice none 0 0, rfl, World.ownsRow_nil w w.heap.size 5 1, Below.refl _ _⟩
  | some a =>
    go_enter Try.func22, Try.ntmps22
    go_wp2_with (at_make; go_must (refine wpList_make_full _ rfl _ _ 40 rfl w.heap.size 5 i0 (.int .u8 0) 1 Try.underlying40 hi hz0 hz1 _ _ _ _ bs.length rfl rfl rfl rfl (by rw [hz2]; omega) (by unfold maxLen; omega) (by simp) ?_); intro w1 hown1 hg1)
    have hb1 : Below w.heap.size w w1 := (Below.refl _ _).grown hg1 (Nat.le_refl _) (fun _ h => by cases h)
    have hcp : ∀ ty, (Builtin.copy_ #[40, 40] ty #[.slice (some ⟨w.heap.size, 0, none⟩) bs.length bs.length, .slice (some a) bs.length cap]).run Try.prog w1 = .ok (goInt (u8s bs).length) (w1.setCells w.heap.size 0 (u8s bs)) := fun ty => by
      refine run_copy_cells w1 40 40 ty 5 w.heap.size 0 bs.length bs.length a bs.length cap (u8s bs) Try.underlying40 size5 (by simp [u8s_length]) (fun j v hv => ?_) (fun j hj => ?_) (fun j hj => ?_) (u8s_one bs)
      · have hj : j < bs.length := by rw [← u8s_length bs]; exact (List.getElem?_eq_some_iff.1 hv).1
        rw [u8s_get bs j hj] at hv
        cases hv
        obtain ⟨g, off, e, hc⟩ := h2 j hj
        cases e
        rw [Addr.add_lit, hb1.cell (p := ⟨g, off + j, none⟩) (World.block_lt_of_cell? w _ hc)]; exact hc
      · rw [u8s_length] at hj
        rw [Nat.zero_add, hown1.cellAt j (by omega), List.getElem?_eq_getElem (by rw [hown1.1]; omega)]; rfl
      · rw [Nat.zero_add]; exact hown1.frozenAt j
    have hst := own_setCells (u8s bs) 0 hown1
    rw [putAt_all _ _ (by rw [u8s_length, hown1.1]; omega)] at hst
    have hb2 := hb1.grown hst.2 hb1.size (fun k hk => by cases hk; exact Nat.le_refl _)
    have HO : Hid _ := hst.1
    have HB : Hid _ := hb2
    clear hst hb2 hb1 hown1 hg1 h2 h1 hi hz0 hz1 hz2
    go_wp2
    rw [hcp]
    go_wp2
    go_ret
    exact ⟨_, rfl, HO.out, HB.out⟩
end Go.Proofs.Qxb6614657a
