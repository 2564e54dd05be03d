import Derived.Test.Qxb6614903aLaw
import Derived.Test.Qxb6614903aBytes
namespace Go.Proofs.Qxb6614903a
open Go.RowKit

theorem NotesAt.take {w : World} {ao : Option Addr} {zs : List Note} (h : NotesAt w ao zs) (c : Nat) : NotesAt w ao (zs.take c) := fun i hi => by
  have hi' : i < zs.length := by simp at hi; omega
  obtain ⟨b, off, e, h1, h2, h3, h4⟩ := h i hi'
  have eg : (zs.take c)[i] = zs[i] := by simp
  rw [eg]
  exact ⟨b, off, e, h1, h2, h3, h4⟩
/-- The address of 'notes[c:]'. -/
def cutAt (ao : Option Addr) (c cap : Nat) : Option Addr := if cap = c then ao else ao.map (·.add (c * 12))
theorem NotesAt.drop {w : World} {ao : Option Addr} {zs : List Note} (h : NotesAt w ao zs) (c cap : Nat) (hcap : zs.length ≤ cap) : NotesAt w (cutAt ao c cap) (zs.drop c) := fun i hi => by
  have hi' : c + i < zs.length := by simp at hi; omega
  obtain ⟨b, off, e, h1, h2, h3, h4⟩ := h (c + i) hi'
  have eg : (zs.drop c)[i] = zs[c + i] := by simp
  unfold cutAt
  rw [eg, if_neg (by omega)]
  cases e
  refine ⟨b, off + c * 12, by rw [Option.map_some, Addr.add_mid], h1, ?_, h3, h4⟩
  have : off + c * 12 + i * 12 = off + (c + i) * 12 := by omega
  rw [this]; exact h2
theorem cutAt_none {ao : Option Addr} {c cap : Nat} (h : cutAt ao c cap = none) : ao = none := by
  unfold cutAt at h
  split at h
  · exact h
  · simpa using h

def sliceS (t : TypeId) (x : Value) (lo hi mx : Option Value) : Sem Value := Instr.sliceAt t x lo hi mx
theorem slice73S (x : Value) (lo hi mx : Option Value) : Instr.sliceAt 73 x lo hi mx = sliceS 73 x lo hi mx := rfl
theorem elem73 : Try.prog.underlying 73 = some (.slice (Try.prog.elem 73)) := by kernel_rfl
theorem size73 : ∃ i, Try.prog.info? (Try.prog.elem 73) = some i ∧ i.size = 12 := by
  have h : (Try.prog.info? (Try.prog.elem 73)).map (·.size) = some 12 := by kernel_rfl
  obtain ⟨i, hi, e⟩ := Option.map_eq_some_iff.1 h
  exact ⟨i, hi, e⟩
theorem slice_upto (ao : Option Addr) (len cap c : Nat) (h : c ≤ cap) (w : World) : (sliceS 73 (.slice ao len cap) none (some (.int .i64 c)) none).run Try.prog w = .ok (.slice ao c cap) w := by
  obtain ⟨i, hi, hs⟩ := size73
  unfold sliceS
  rw [run_sliceAt_slice w 73 _ _ _ _ elem73, run_slice_h w 73 ao len cap elem73 .i64 c (by omega) (by omega)]
  have e : Option.map (fun x : Addr => x.add 0) ao = ao := by cases ao <;> simp [Addr.add]
  simp [sizeOf, typeInfo, hi, hs, sliced, e]
theorem slice_from (ao : Option Addr) (len cap c : Nat) (h : c ≤ len) (w : World) : (sliceS 73 (.slice ao len cap) (some (.int .i64 c)) none none).run Try.prog w = .ok (.slice (cutAt ao c cap) (len - c) (cap - c)) w := by
  obtain ⟨i, hi, hs⟩ := size73
  unfold sliceS cutAt
  rw [run_sliceAt_slice w 73 _ _ _ _ elem73, run_slice_l w 73 ao len cap elem73 .i64 c (by omega) (by omega)]
  simp [sizeOf, typeInfo, hi, hs, sliced]

def zeroNote : Note := ⟨Nt.zero, ⟨none, none, none, none⟩, none⟩

attribute [local go_sem ↓] slice73S load85S store85S

theorem Got.tell {w : World} {zs : List Note} {n : Nt} (h : Got w zs n) {z : Note} (hz : found zs = some z) : Tell w 0 n z := by
  rcases h with ⟨h0, _⟩ | ⟨z', h1, h2⟩
  · rw [hz] at h0; cases h0
  · rw [hz] at h1; cases h1; exact h2

/-- What holds once the three flights lie in their variables. -/
structure LS (w0 w' : World) (ao : Option Addr) (cap c : Nat) (zs : List Note) (B1 B2 B3 : Nat) (n1 n2 n3 : Nt) : Prop where
  bel : Below w0.heap.size w0 w'
  n : NotesAt w' ao zs
  g1 : Got w' zs n1
  g2 : Got w' (zs.take c) n2
  g3 : Got w' (zs.drop c) n3
  f1 : w'.rangeAt B1 0 n1.flight.toList
  f2 : w'.rangeAt B2 0 n2.flight.toList
  f3 : w'.rangeAt B3 0 n3.flight.toList
  l1 : B1 < w'.heap.size
  l2 : B2 < w'.heap.size
  l3 : B3 < w'.heap.size
theorem LS.grow {w0 w' w1 : World} {ao : Option Addr} {cap c : Nat} {zs : List Note} {B1 B2 B3 : Nat} {n1 n2 n3 : Nt} (h : LS w0 w' ao cap c zs B1 B2 B3 n1 n2 n3) (hb : Below w'.heap.size w' w1) : LS w0 w1 ao cap c zs B1 B2 B3 n1 n2 n3 :=
  ⟨h.bel.trans (hb.mono h.bel.size), h.n.grow hb, h.g1.grow hb, h.g2.grow hb, h.g3.grow hb, rangeAt_below hb h.l1 h.f1, rangeAt_below hb h.l2 h.f2, rangeAt_below hb h.l3 h.f3,
    Nat.lt_of_lt_of_le h.l1 hb.size, Nat.lt_of_lt_of_le h.l2 hb.size, Nat.lt_of_lt_of_le h.l3 hb.size⟩

/-- The world behind a flight's being stored into a new variable. -/
def putF (w : World) (n : Nt) : World := (w.alloc (.cells Nt.zero.flight 85)).setCells w.heap.size 0 n.flight.toList
theorem putF_run (w : World) (n : Nt) : (storeS 85 (.pointer (some ⟨w.heap.size, 0, none⟩)) (.agg n.flight)).run Try.prog (w.alloc (.cells #[.string ⟨#[]⟩, .pointer none, .int .i64 0, .int .i64 0, .pointer none, .pointer none, .pointer none, .pointer none, .pointer none, .pointer none, .int .i64 0] 85)) = .ok () (putF w n) :=
  store85V_at n (there_new w Nt.zero.flight 85)
theorem putF_at (w : World) (n : Nt) : (putF w n).rangeAt w.heap.size 0 n.flight.toList :=
  World.rangeAt_setCells_same _ _ _ _ (there_new w Nt.zero.flight 85)
theorem putF_below (w : World) (n : Nt) : Below w.heap.size w (putF w n) :=
  below_setCells ((Below.refl _ _).alloc (Nat.le_refl _) _) (Nat.le_refl _) _ _
theorem putF_size (w : World) (n : Nt) : w.heap.size < (putF w n).heap.size := by unfold putF; rw [size_setCells]; simp

set_option maxHeartbeats 1000000 in
set_option maxRecDepth 100000 in
theorem split_walk (ao : Option Addr) (cap : Nat) (zs : List Note) (c : Nat) (w : World) (hm : zs.length ≤ maxLen) (hcap : zs.length ≤ cap) (hnil : ao = none → zs.length = 0) (h : NotesAt w ao zs) (hc : c ≤ zs.length) :
    Calls Try.prog 7 #[.slice ao zs.length cap, .int .i64 c] w fun e w' => e = .returned (.bool true) ∧ Below w.heap.size w w' := by
  have hu := fun w => slice_upto ao zs.length cap c (by omega) w
  have hf := fun w => slice_from ao zs.length cap c (by omega) w
  go_enter Try.func7, Try.ntmps7
  go_wp2_with fail
  refine (bytes_any _ cap zs _ w hm h).mono ?_
  rintro e w1 ⟨⟨b, rfl, hb⟩, hw⟩
  subst hw
  cases b
  · go_wp2
    go_ret
    exact ⟨rfl, Below.refl _ _⟩
  have hl := hb rfl
  clear hb
  go_wp2_with fail
  refine (notesOver_any _ cap zs zeroNote _ hm h (zeroTo _) (.inl ⟨rfl, rfl⟩)).mono ?_
  rintro e w2 ⟨⟨b, rfl⟩, hb2⟩
  cases b
  · go_wp2_with fail
    refine (queue_qs _ cap zs _ hnil hl (h.grow hb2) _ rfl).mono ?_
    rintro e w3 ⟨q1, rfl, hq1, hb3⟩
    have b3 : Below w1.heap.size w1 w3 := hb2.trans (hb3.mono hb2.size)
    clear hb3 hb2
    go_wp2_with fail
    refine (queue_qs _ cap (zs.take c) _ (by intro e; simp [hnil e]) (by simp; omega) ((h.grow b3).take c) c (by simp; omega)).mono ?_
    rintro e w4 ⟨q2, rfl, hq2, hb4⟩
    have b4 : Below w1.heap.size w1 w4 := b3.trans (hb4.mono b3.size)
    have hq1 := hq1.grow hb4
    clear hb4 b3
    go_wp2_with fail
    refine (queue_qs _ _ (zs.drop c) _ (by intro e; simp [hnil (cutAt_none e)]) (by simp; omega) ((h.grow b4).drop c cap hcap) (zs.length - c) (by simp)).mono ?_
    rintro e w5 ⟨q3, rfl, hq3, hb5⟩
    have b5 : Below w1.heap.size w1 w5 := b4.trans (hb5.mono b4.size)
    have hq1 := hq1.grow hb5
    have hq2 := hq2.grow hb5
    clear hb5 b4
    go_wp2_with fail
    refine (inFlight_qs q1 zs _ hl hq1).mono ?_
    rintro e w6 ⟨n1, rfl, g1, hb6⟩
    have sf1 := putF_run w6 n1
    have b6 : Below w1.heap.size w1 (putF w6 n1) := (b5.trans (hb6.mono b5.size)).trans ((putF_below w6 n1).mono (by have := b5.size; have := hb6.size; omega))
    have hq2 := (hq2.grow hb6).grow (putF_below w6 n1)
    have hq3 := (hq3.grow hb6).grow (putF_below w6 n1)
    have g1 := g1.grow (putF_below w6 n1)
    have f1 := putF_at w6 n1
    have l1 := putF_size w6 n1
    clear hb6 b5 hq1
    go_wp2_with fail
    clear sf1
    generalize putF w6 n1 = w7 at *
    generalize w6.heap.size = B1 at *
    refine (inFlight_qs q2 (zs.take c) _ (by simp; omega) hq2).mono ?_
    rintro e w8 ⟨n2, rfl, g2, hb8⟩
    have sf2 := putF_run w8 n2
    have b8 : Below w1.heap.size w1 (putF w8 n2) := (b6.trans (hb8.mono b6.size)).trans ((putF_below w8 n2).mono (by have := b6.size; have := hb8.size; omega))
    have hq3 := (hq3.grow hb8).grow (putF_below w8 n2)
    have g1 := (g1.grow hb8).grow (putF_below w8 n2)
    have g2 := g2.grow (putF_below w8 n2)
    have f1 := rangeAt_below (putF_below w8 n2) (by have := hb8.size; omega) (rangeAt_below hb8 l1 f1)
    have l1 : B1 < (putF w8 n2).heap.size := by have := hb8.size; have := putF_size w8 n2; omega
    have f2 := putF_at w8 n2
    have l2 := putF_size w8 n2
    clear hb8 b6 hq2
    go_wp2_with fail
    clear sf2
    generalize putF w8 n2 = w9 at *
    generalize w8.heap.size = B2 at *
    refine (inFlight_qs q3 (zs.drop c) _ (by simp; omega) hq3).mono ?_
    rintro e w10 ⟨n3, rfl, g3, hb10⟩
    have sf3 := putF_run w10 n3
    have b10 : Below w1.heap.size w1 (putF w10 n3) := (b8.trans (hb10.mono b8.size)).trans ((putF_below w10 n3).mono (by have := b8.size; have := hb10.size; omega))
    have LS0 : LS w1 (putF w10 n3) ao cap c zs B1 B2 w10.heap.size n1 n2 n3 := ⟨b10, h.grow b10, (g1.grow hb10).grow (putF_below w10 n3), (g2.grow hb10).grow (putF_below w10 n3), g3.grow (putF_below w10 n3),
      rangeAt_below (putF_below w10 n3) (by have := hb10.size; omega) (rangeAt_below hb10 l1 f1), rangeAt_below (putF_below w10 n3) (by have := hb10.size; omega) (rangeAt_below hb10 l2 f2), putF_at w10 n3,
      by have := hb10.size; have := putF_size w10 n3; omega, by have := hb10.size; have := putF_size w10 n3; omega, putF_size w10 n3⟩
    clear hb10 b8 hq3 g1 g2 g3 f1 f2 l1 l2 b10
    go_wp2_with fail
    clear sf3
    generalize putF w10 n3 = w11 at *
    generalize w10.heap.size = B3 at *
    have LS1 : LS w1 w11.drew ao cap c zs B1 B2 B3 n1 n2 n3 := LS0.grow (Below.refl _ _).drew
    go_region_held3 (fun w' => (loadS 85 (.pointer (some ⟨B1, 0, none⟩))).run Try.prog w' = .ok (.agg n1.flight) w' ∧ LS w1 w' ao cap c zs B1 B2 B3 n1 n2 n3)
      (first | with_reducible exact ⟨load85V_at LS1.f1, LS1⟩ | with_reducible exact ⟨load85V_at LS1x.f1, LS1x⟩)
      (first | (go_at_call 31; refine (firstIn_len _ _ _ zs _ hl LS1.n rfl).mono ?_; rintro e w' ⟨⟨i, rfl, hi⟩, rfl⟩) | (go_at_call 30; refine (answer_any _ _ _ zs n1 i _ LS1.n LS1.g1 hi rfl).mono ?_; rintro e w1x ⟨rfl, hbx⟩; have LS1x := LS1.grow hbx))
    clear LS1 LS0 hi hbx
    go_wp2_with fail
    have LS2 : LS w1 w1x.drew ao cap c zs B1 B2 B3 n1 n2 n3 := LS1x.grow (Below.refl _ _).drew
    go_region_held3 (fun w' => (loadS 85 (.pointer (some ⟨B2, 0, none⟩))).run Try.prog w' = .ok (.agg n2.flight) w' ∧ LS w1 w' ao cap c zs B1 B2 B3 n1 n2 n3)
      (first | with_reducible exact ⟨load85V_at LS2.f2, LS2⟩ | with_reducible exact ⟨load85V_at LS2x.f2, LS2x⟩)
      (first | (go_at_call 31; refine (firstIn_len _ _ _ (zs.take c) _ (by simp; omega) (LS2.n.take c) (by simp; omega)).mono ?_; rintro e w' ⟨⟨i, rfl, hi⟩, rfl⟩) | (go_at_call 30; refine (answer_any _ _ _ (zs.take c) n2 i _ (LS2.n.take c) LS2.g2 hi (by simp; omega)).mono ?_; rintro e w2x ⟨rfl, hbx⟩; have LS2x := LS2.grow hbx))
    clear LS2 LS1x hi hbx
    go_wp2_with fail
    have LS3 : LS w1 w2x.drew ao cap c zs B1 B2 B3 n1 n2 n3 := LS2x.grow (Below.refl _ _).drew
    go_region_held3 (fun w' => (loadS 85 (.pointer (some ⟨B3, 0, none⟩))).run Try.prog w' = .ok (.agg n3.flight) w' ∧ LS w1 w' ao cap c zs B1 B2 B3 n1 n2 n3)
      (first | with_reducible exact ⟨load85V_at LS3.f3, LS3⟩ | with_reducible exact ⟨load85V_at LS3x.f3, LS3x⟩)
      (first | (go_at_call 31; refine (firstIn_len _ _ _ (zs.drop c) _ (by simp; omega) (LS3.n.drop c cap hcap) (by simp)).mono ?_; rintro e w' ⟨⟨i, rfl, hi⟩, rfl⟩) | (go_at_call 30; refine (answer_any _ _ _ (zs.drop c) n3 i _ (LS3.n.drop c cap hcap) LS3.g3 hi (by simp)).mono ?_; rintro e w3x ⟨rfl, hbx⟩; have LS3x := LS3.grow hbx))
    clear LS3 LS2x hi hbx
    have hz : found zs = (found (zs.take c)).or (found (zs.drop c)) := by rw [← found_append, List.take_append_drop]
    have ld1 := load85V_at LS3x.f1
    have ld2 := load85V_at LS3x.f2
    have ld3 := load85V_at LS3x.f3
    cases hA : found (zs.take c) with
    | some z =>
      rw [hA, Option.some_or] at hz
      have o1 : okB zs = true := by unfold okB; rw [hz]; rfl
      have o2 : okB (zs.take c) = true := by unfold okB; rw [hA]; rfl
      have t1 : Tell w3x 0 n1 z := LS3x.g1.tell hz
      have t2 : Tell w3x 0 n2 z := LS3x.g2.tell hA
      rw [o1, o2]
      clear hz hA o1 o2
      go_wp2_with (go_at_call 32; refine (same_got n1 n2 z _ t1 t2).mono ?_; rintro e w4x ⟨rfl, hb4x⟩)
      go_ret
      exact ⟨rfl, (LS3x.grow hb4x).bel⟩
    | none =>
      rw [hA, Option.none_or] at hz
      have o2 : okB (zs.take c) = false := by unfold okB; rw [hA]; rfl
      cases hB : found (zs.drop c) with
      | some z =>
        rw [hB] at hz
        have o1 : okB zs = true := by unfold okB; rw [hz]; rfl
        have o3 : okB (zs.drop c) = true := by unfold okB; rw [hB]; rfl
        have t1 : Tell w3x 0 n1 z := LS3x.g1.tell hz
        have t2 : Tell w3x 0 n3 z := LS3x.g3.tell hB
        rw [o1, o2, o3]
        clear hz hA hB o1 o2 o3
        go_wp2_with (go_at_call 32; refine (same_got n1 n3 z _ t1 t2).mono ?_; rintro e w4x ⟨rfl, hb4x⟩)
        go_ret
        exact ⟨rfl, (LS3x.grow hb4x).bel⟩
      | none =>
        rw [hB] at hz
        have o1 : okB zs = false := by unfold okB; rw [hz]; rfl
        have o3 : okB (zs.drop c) = false := by unfold okB; rw [hB]; rfl
        rw [o1, o2, o3]
        clear hz hA hB o1 o2 o3
        go_wp2
        go_ret
        exact ⟨rfl, LS3x.bel⟩
  · go_wp2
    go_ret
    exact ⟨rfl, hb2⟩
end Go.Proofs.Qxb6614903a
