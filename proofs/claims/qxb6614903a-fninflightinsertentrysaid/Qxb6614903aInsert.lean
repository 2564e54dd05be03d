import Derived.Test.Qxb6614903aSplit
import Derived.Test.Qxb6614903aBytes2
namespace Go.Proofs.Qxb6614903a
open Go.RowKit

/-- The cells of a row of notes. -/
def rowOf (zs : List Note) : List Value := zs.flatMap fun z => z.z.zcells.toList
theorem rowOf_append (l r : List Note) : rowOf (l ++ r) = rowOf l ++ rowOf r := by unfold rowOf; rw [List.flatMap_append]
theorem rowOf_length (zs : List Note) : (rowOf zs).length = zs.length * 12 := by
  induction zs with
  | nil => rfl
  | cons z zs ih => unfold rowOf at *; rw [List.flatMap_cons, List.length_append, ih, zlen]; simp; omega
theorem rowOf_get (zs : List Note) (i j : Nat) (hi : i < zs.length) (hj : j < 12) : (rowOf zs)[i * 12 + j]? = zs[i].z.zcells.toList[j]? := by
  induction zs generalizing i with
  | nil => simp at hi
  | cons z zs ih =>
    unfold rowOf
    rw [List.flatMap_cons]
    cases i with
    | zero => rw [List.getElem?_append_left (by rw [zlen]; omega)]; simp
    | succ i =>
      rw [List.getElem?_append_right (by rw [zlen]; omega), zlen]
      have e : (i + 1) * 12 + j - 12 = i * 12 + j := by omega
      rw [e]
      exact ih i (by simpa using hi)
theorem rowOf_one (zs : List Note) : ∀ u ∈ rowOf zs, u.oneCell' = true := by
  intro u hu
  unfold rowOf at hu
  obtain ⟨z, _, hz⟩ := List.mem_flatMap.1 hu
  revert hz
  unfold Nt.zcells
  simp only [List.mem_cons, List.not_mem_nil, or_false]
  rintro (rfl | rfl | rfl | rfl | rfl | rfl | rfl | rfl | rfl | rfl | rfl | rfl) <;> rfl

/-- Notes that lie in a row. -/
theorem NotesAt.cells {w : World} {ao : Option Addr} {zs : List Note} (h : NotesAt w ao zs) {a : Addr} (ha : ao = some a) : ∀ j u, (rowOf zs)[j]? = some u → w.cell? (a.add j) = some u := by
  intro j u hu
  have hj : j < zs.length * 12 := by rw [← rowOf_length]; exact (List.getElem?_eq_some_iff.1 hu).1
  have e : j = j / 12 * 12 + j % 12 := by omega
  have hi : j / 12 < zs.length := by omega
  obtain ⟨b, off, e1, _, hr, _⟩ := h (j / 12) hi
  rw [ha] at e1
  cases e1
  rw [e, rowOf_get zs _ _ hi (by omega)] at hu
  have := hr _ _ hu
  rw [Addr.add_mid, e]
  have e2 : off + (j / 12 * 12 + j % 12) = off + j / 12 * 12 + j % 12 := by omega
  rw [e2]
  have e3 : (j / 12 * 12 + j % 12) / 12 = j / 12 := by omega
  have e4 : (j / 12 * 12 + j % 12) % 12 = j % 12 := by omega
  first | exact this | (simpa [e3, e4] using this)

/-- A row of the call's own that holds notes. -/
theorem NotesAt.own {w : World} {base g n cap : Nat} {zs : List Note} (h : w.ownsRow base 78 12 (.slice (some ⟨g, 0, none⟩) n cap) n (rowOf zs)) (hn : zs.length = n) (ht : ∀ i, (hi : i < zs.length) → NtTo w 0 zs[i].z zs[i].d ∧ PtrS w 0 zs[i].z.src zs[i].so) : NotesAt w (some ⟨g, 0, none⟩) zs := by
  intro i hi
  have hr : w.rangeAt g (0 + i * 12) zs[i].z.zcells.toList := fun j v hv => by
    have hj : j < 12 := by
      have := (List.getElem?_eq_some_iff.1 hv).1
      rwa [zlen] at this
    have e : 0 + i * 12 + j = i * 12 + j := by omega
    rw [e, h.cellAt (i * 12 + j) (by omega), rowOf_get zs i j hi hj]
    exact hv
  exact ⟨g, 0, rfl, (h.lt g rfl).2, hr, ht i hi⟩

def bslS (t : TypeId) (n : Nat) (ps : Array (Nat × Value)) : Sem Value := Instr.buildSlice t n ps
theorem bsl73S (n : Nat) (ps : Array (Nat × Value)) : Instr.buildSlice 73 n ps = bslS 73 n ps := rfl
theorem bsl_run (z : Nt) (w : World) : (bslS 73 1 #[(0, .agg z.zcells)]).run Try.prog w = .ok (.slice (some ⟨w.heap.size, 0, none⟩) 1 1) (w.alloc (.cells z.zcells 78)) := by kernel_rfl
theorem info78 : (Try.prog.info? 78).map (fun i => (i.zero, i.size, i.bytes)) = some (some (.agg Nt.zero.zcells), 12, 120) := by kernel_rfl
attribute [local go_sem ↓] slice73S load85S store85S load78S bsl73S build85S

/-- What 'x' in its box, and the notes, keep. -/
structure XS (w0 w' : World) (ao : Option Addr) (zs : List Note) (x : Note) (X : Nat) : Prop where
  bel : Below w0.heap.size w0 w'
  n : NotesAt w' ao zs
  bx : w'.rangeAt X 0 x.z.zcells.toList
  lx : X < w'.heap.size
  tx : NtTo w' 0 x.z x.d
  sx : PtrS w' 0 x.z.src x.so
theorem XS.grow {w0 w' w1 : World} {ao : Option Addr} {zs : List Note} {x : Note} {X : Nat} (h : XS w0 w' ao zs x X) (hb : Below w'.heap.size w' w1) : XS w0 w1 ao zs x X :=
  ⟨h.bel.trans (hb.mono h.bel.size), h.n.grow hb, rangeAt_below hb h.lx h.bx, Nat.lt_of_lt_of_le h.lx hb.size, h.tx.grow hb, h.sx.grow hb⟩

theorem Got.zero {w : World} {zs : List Note} {n : Nt} (h : Got w zs n) (hz : found zs = none) : n = Nt.zero := by
  rcases h with ⟨_, h0⟩ | ⟨z', h1, _⟩
  · exact h0
  · rw [hz] at h1; cases h1
theorem found_insert (l r : List Note) (x : Note) : found (l ++ x :: r) = (found l).or (if x.z.st = 2 then some x else found r) := by
  rw [found_append]
  congr 1
  unfold found
  by_cases h : x.z.st = 2
  · rw [if_pos h, List.find?_cons_of_pos (by simpa using h)]
  · rw [if_neg h, List.find?_cons_of_neg (by simpa using h)]
theorem rowOf_insert (l r : List Note) (x : Note) : rowOf (l ++ x :: r) = rowOf l ++ x.z.zcells.toList ++ rowOf r := by
  rw [rowOf_append]
  have e : rowOf (x :: r) = x.z.zcells.toList ++ rowOf r := by unfold rowOf; rw [List.flatMap_cons]
  rw [e, List.append_assoc]
theorem tied_insert {w : World} {ao : Option Addr} {zs : List Note} {x : Note} (h : NotesAt w ao zs) (hx : NtTo w 0 x.z x.d) (hs : PtrS w 0 x.z.src x.so) (c : Nat) (z : Note) (hz : z ∈ zs.take c ++ x :: zs.drop c) : NtTo w 0 z.z z.d ∧ PtrS w 0 z.z.src z.so := by
  have key : ∀ y ∈ zs, NtTo w 0 y.z y.d ∧ PtrS w 0 y.z.src y.so := by
    intro y hy
    obtain ⟨i, hi, rfl⟩ := List.mem_iff_getElem.1 hy
    obtain ⟨_, _, _, _, _, h1, h2⟩ := h i hi
    exact ⟨h1, h2⟩
  rcases List.mem_append.1 hz with h1 | h1
  · exact key z (List.mem_of_mem_take h1)
  · rcases List.mem_cons.1 h1 with rfl | h2
    · exact ⟨hx, hs⟩
    · exact key z (List.mem_of_mem_drop h2)
theorem first_in_take {zs : List Note} {c : Nat} {i : Int} (hi : FirstIn zs i) {z : Note} (h : found (zs.take c) = some z) : i < (c : Int) := by
  unfold found at h
  obtain ⟨hp, j, hj, _, _⟩ := List.find?_eq_some_iff_getElem.1 h
  rename_i e _
  have hj' : j < c ∧ j < zs.length := by simp at hj; omega
  have hst : zs[j].z.st = 2 := by
    have e2 : (zs.take c)[j] = zs[j] := by simp
    rw [e2] at e
    rw [e]; simpa using hp
  rcases hi with ⟨_, hno⟩ | ⟨k, rfl, hk, _, hno⟩
  · exact absurd hst (hno j hj'.2)
  · by_cases hjk : j < k
    · exact absurd hst (hno j hjk)
    · omega
theorem first_not_take {zs : List Note} {c : Nat} {i : Int} (hi : FirstIn zs i) (h : found (zs.take c) = none) (ho : okB zs = true) : (c : Int) ≤ i := by
  rcases hi with ⟨_, hno⟩ | ⟨k, rfl, hk, hst, _⟩
  · unfold okB at ho; rw [found_none hno] at ho; cases ho
  · by_cases hkc : k < c
    · unfold found at h
      have hm : zs[k] ∈ zs.take c := by
        have e : (zs.take c)[k]'(by simp; omega) = zs[k] := by simp
        rw [← e]; exact List.getElem_mem _
      have := List.find?_eq_none.1 h _ hm
      simp at this
      exact absurd hst this
    · omega
theorem zfresh (w : World) (z : Nt) : ∀ j u, z.zcells.toList[j]? = some u → (w.alloc (.cells z.zcells 78)).cell? ((⟨w.heap.size, 0, none⟩ : Addr).add j) = some u := fun j u hu => by
  rw [Addr.add_mid]; exact rangeAt_new w z.zcells 78 j u hu
theorem zone (z : Nt) : ∀ u ∈ z.zcells.toList, u.oneCell' = true := by
  unfold Nt.zcells; simp [Value.oneCell']

theorem notesOver_long (ao : Option Addr) (cap : Nat) (zs : List Note) (x : Note) (w : World) (hl : zs.length ≤ 1048576) (h : 65536 < zs.length) :
    Calls Try.prog 27 #[.slice ao zs.length cap, .agg x.z.zcells] w fun e w' => e = .returned (.bool true) ∧ Below w.heap.size w w' := by
  go_enter Try.func27, Try.ntmps27
  go_wp2
  go_ret
  exact ⟨rfl, (Below.refl _ _).alloc (Nat.le_refl _) _⟩

set_option maxHeartbeats 1000000 in
set_option maxRecDepth 100000 in
theorem insert_walk (ao : Option Addr) (cap : Nat) (zs : List Note) (c : Nat) (x : Note) (w : World) (hm : zs.length ≤ maxLen) (hcap : zs.length ≤ cap) (hnil : ao = none → zs.length = 0 ∧ cap = 0) (h : NotesAt w ao zs) (hx : NtTo w 0 x.z x.d) (hxs : PtrS w 0 x.z.src x.so) (hc : c ≤ zs.length) :
    Calls Try.prog 8 #[.slice ao zs.length cap, .int .i64 c, .agg x.z.zcells] w fun e w' => e = .returned (.bool true) ∧ Below w.heap.size w w' := by
  have HN : Hid (ao = none → zs.length = 0 ∧ cap = 0) := hnil
  clear hnil
  have hu := fun w => slice_upto ao zs.length cap c (by omega) w
  have hf := fun w => slice_from ao zs.length cap c (by omega) w
  have hbs := bsl_run x.z
  obtain ⟨i0, hi, hz0, hz1, hz2⟩ := info_parts info78
  have b0 : Below w.heap.size w (w.alloc (.cells x.z.zcells 78)) := (Below.refl _ _).alloc (Nat.le_refl _) _
  have S0 : XS w (w.alloc (.cells x.z.zcells 78)) ao zs x w.heap.size := ⟨b0, h.grow b0, rangeAt_new w x.z.zcells 78, by simp, hx.grow b0, hxs.grow b0⟩
  have ld0 := load78V_at S0.bx
  clear b0
  go_enter Try.func8, Try.ntmps8
  go_wp2_with fail
  refine (bytes33 _ cap zs _ x _ hm S0.n S0.tx S0.sx).mono ?_
  rintro e w1 ⟨⟨b, rfl, hb⟩, hb1⟩
  have S1 := S0.grow hb1
  clear hb1 S0 ld0
  cases b
  · go_wp2
    go_ret
    exact ⟨rfl, S1.bel⟩
  have hl := hb rfl
  clear hb
  have ld1 := load78V_at S1.bx
  go_wp2_with fail
  by_cases h6 : 65536 < zs.length
  · refine (notesOver_long _ cap zs x _ hl h6).mono ?_
    rintro e w2 ⟨rfl, hb2⟩
    go_wp2
    go_ret
    exact ⟨rfl, (S1.grow hb2).bel⟩
  have h6' : zs.length ≤ 65536 := by omega
  clear h6
  refine (notesOver_any _ cap zs x _ hm S1.n S1.tx S1.sx).mono ?_
  rintro e w2 ⟨⟨b, rfl⟩, hb2⟩
  have S2 := S1.grow hb2
  clear hb2 S1 ld1
  cases b
  · have ld2 := load78V_at S2.bx
    go_wp2_with (first
      | (at_make; refine wpList_make_own _ rfl _ _ 73 rfl w.heap.size 78 i0 (.agg Nt.zero.zcells) 12 Try.underlying73 hi hz0 hz1 _ _ _ (zs.length + 1) rfl rfl (by omega) (by rw [hz2]; omega) (by unfold maxLen; omega) S2.bel.size ?_; intro w3 hown3 hg3; have b3 : Below w2.heap.size w2 w3 := (Below.refl _ _).grown hg3 (Nat.le_refl _) (by simp); have S3 := S2.grow b3)
      | (at_builtin; refine wpList_append_fits_any _ rfl (.tmp 35) (.tmp 38) 73 rfl w.heap.size 78 i0 12 Try.underlying73 hi hz1 w2.heap.size 0 (zs.length + 1) [] rfl hown3 ao c cap (rowOf (zs.take c)) rfl (by rw [rowOf_length]; simp; omega) (fun e => by have := HN.out e; omega) (fun ad e => (S3.n.take c).cells e) (rowOf_one _) (by omega) ?_; intro w4 hown4 hg4; simp only [Nat.zero_add, List.nil_append] at hown4 ⊢; have b4 := b3.grown hg4 b3.size (by simp); have S4 := S2.grow b4; have ld4 := load78V_at S4.bx)
      | (at_builtin; refine wpList_append_fits _ rfl (.tmp 40) (.tmp 42) 73 rfl w.heap.size 78 i0 12 Try.underlying73 hi hz1 w2.heap.size c (zs.length + 1) _ rfl (hown4.alloc _) ⟨w4.heap.size, 0, none⟩ 1 1 x.z.zcells.toList rfl (by rw [zlen]) (zfresh w4 x.z) (zone x.z) (by omega) ?_; intro w5 hown5 hg5; have b5 := (b4.alloc b4.size (.cells x.z.zcells 78)).grown hg5 (by have := b4.size; simp; omega) (by simp); have S5 := S2.grow b5)
      | (at_builtin; refine wpList_append_fits_any _ rfl (.tmp 44) (.tmp 47) 73 rfl w.heap.size 78 i0 12 Try.underlying73 hi hz1 w2.heap.size (c + 1) (zs.length + 1) _ rfl hown5 (cutAt ao c cap) (zs.length - c) (cap - c) (rowOf (zs.drop c)) rfl (by rw [rowOf_length]; simp) (fun e => by have := HN.out (cutAt_none e); omega) (fun ad e => (S5.n.drop c cap hcap).cells e) (rowOf_one _) (by omega) ?_; intro w6 hown6 hg6; have b6 := b5.grown hg6 b5.size (by simp); have S6 := S2.grow b6))
    obtain ⟨zs2, hzs2⟩ : ∃ l, l = zs.take c ++ x :: zs.drop c := ⟨_, rfl⟩
    have N6 : NotesAt w6 (some ⟨w2.heap.size, 0, none⟩) zs2 := by
      refine NotesAt.own (base := w.heap.size) (n := c + 1 + (zs.length - c)) (cap := zs.length + 1) ?_ (by rw [hzs2]; simp; omega) ?_
      · rw [hzs2, rowOf_insert]; exact hown6
      · intro i hi
        have hmem : zs2[i] ∈ zs.take c ++ x :: zs.drop c := by rw [← hzs2]; exact List.getElem_mem hi
        exact tied_insert S6.n S6.tx S6.sx c _ hmem
    have hl2 : zs2.length = c + 1 + (zs.length - c) := by rw [hzs2]; simp; omega
    have HZ : Hid (zs2 = zs.take c ++ x :: zs.drop c) := hzs2
    clear hzs2 hown3 hown4 hown5 hown6 hg3 hg4 hg5 hg6 b3 b4 b5 b6 S2 S3 S4 S5 ld2 ld4 hbs hi hz0 hz1 hz2 hu hf h hx hxs
    generalize w2.heap.size = G at *
    refine (queue_qs _ cap zs _ (fun e => (HN.out e).1) hl S6.n _ rfl).mono ?_
    rintro e w7 ⟨q1, rfl, hq1, hb7⟩
    have S7 := S6.grow hb7
    have N7 := N6.grow hb7
    clear S6 N6 hb7
    go_wp2_with fail
    refine (queue_qs _ _ zs2 _ (by intro e; cases e) (by omega) N7 _ hl2).mono ?_
    rintro e w8 ⟨q2, rfl, hq2, hb8⟩
    have S8 := S7.grow hb8
    have hq1 := hq1.grow hb8
    clear S7 N7 hb8
    go_wp2_with fail
    refine (inFlight_qs q1 zs _ hl hq1).mono ?_
    rintro e w9 ⟨n1, rfl, g1, hb9⟩
    have sf1 := putF_run w9 n1
    have S9 := (S8.grow hb9).grow (putF_below w9 n1)
    have hq2 := (hq2.grow hb9).grow (putF_below w9 n1)
    have g1 := g1.grow (putF_below w9 n1)
    have f1 := putF_at w9 n1
    have l1 := putF_size w9 n1
    clear hb9 S8 hq1
    go_wp2_with fail
    clear sf1
    generalize putF w9 n1 = w10 at *
    generalize w9.heap.size = B1 at *
    refine (inFlight_qs q2 zs2 _ (by omega) hq2).mono ?_
    rintro e w11 ⟨n2, rfl, g2, hb11⟩
    have sf2 := putF_run w11 n2
    have S12 := (S9.grow hb11).grow (putF_below w11 n2)
    have g1 := (g1.grow hb11).grow (putF_below w11 n2)
    have g2 := g2.grow (putF_below w11 n2)
    have f1 := rangeAt_below (putF_below w11 n2) (by have := hb11.size; omega) (rangeAt_below hb11 l1 f1)
    have l1 : B1 < (putF w11 n2).heap.size := by have := hb11.size; have := putF_size w11 n2; omega
    have f2 := putF_at w11 n2
    have l2 := putF_size w11 n2
    clear hb11 S9 hq2
    go_wp2_with fail
    clear sf2
    generalize putF w11 n2 = w12 at *
    generalize w11.heap.size = B2 at *
    refine (firstIn_len _ _ _ zs _ hl S12.n rfl).mono ?_
    rintro e w13 ⟨⟨i, rfl, hi⟩, hw⟩
    subst hw
    have ld1 := load85V_at f1
    go_wp2_with fail
    refine (answer_any _ _ _ zs n1 i _ S12.n g1 hi rfl).mono ?_
    rintro e w14 ⟨rfl, hb14⟩
    have S14 := S12.grow hb14
    have g1 := g1.grow hb14
    have g2 := g2.grow hb14
    have f1 := rangeAt_below hb14 l1 f1
    have f2 := rangeAt_below hb14 l2 f2
    clear S12 hb14 l1 l2 ld1
    have ld1 := load85V_at f1
    have ld2 := load85V_at f2
    have ldx := load78V_at S14.bx
    have hbz := build85V_zero
    have hst : w14.cell? ⟨w.heap.size, 6, none⟩ = some (.int .i64 x.z.st) := by simpa using S14.bx 6 _ rfl
    have hf2 : found zs2 = (found (zs.take c)).or (if x.z.st = 2 then some x else found (zs.drop c)) := by rw [HZ.out]; exact found_insert _ _ _
    have hf1 : found zs = (found (zs.take c)).or (found (zs.drop c)) := by rw [← found_append, List.take_append_drop]
    clear HZ
    cases hA : found (zs.take c) with
    | some z =>
      rw [hA, Option.some_or] at hf1 hf2
      have o1 : okB zs = true := by unfold okB; rw [hf1]; rfl
      have o2 : okB zs2 = true := by unfold okB; rw [hf2]; rfl
      have t1 := g1.tell hf1
      have t2 := g2.tell hf2
      have hic : decide (i < (c : Int)) = true := by simpa using first_in_take hi hA
      rw [o1, o2]
      clear hf1 hf2 hA o1 o2 hi
      go_wp2_with (go_at_call 32; refine (same_got n2 n1 z _ t2 t1).mono ?_; rintro e w15 ⟨rfl, hb15⟩)
      go_ret
      exact ⟨rfl, (S14.grow hb15).bel⟩
    | none =>
      rw [hA, Option.none_or] at hf1 hf2
      have hic : okB zs = true → decide (i < (c : Int)) = false := fun ho => by simpa using first_not_take hi hA ho
      by_cases hx2 : x.z.st = 2
      · rw [if_pos hx2] at hf2
        have o2 : okB zs2 = true := by unfold okB; rw [hf2]; rfl
        have t2 := g2.tell hf2
        have hx2' : (x.z.st == 2) = true := by simp [hx2]
        rw [o2]
        clear hf1 hf2 hA o2 hi hx2
        cases ho : okB zs
        · go_wp2_with (go_at_call 34; refine (tells_any n2 x.z x.d 0 0 _ t2.1 S14.tx t2.2.1 t2.2.2.1 t2.2.2.2.1 t2.2.2.2.2).mono ?_; rintro e w15 ⟨rfl, hb15⟩)
          go_ret
          exact ⟨rfl, (S14.grow hb15).bel⟩
        · have hic' := hic ho
          clear hic
          go_wp2_with (go_at_call 34; refine (tells_any n2 x.z x.d 0 0 _ t2.1 S14.tx t2.2.1 t2.2.2.1 t2.2.2.2.1 t2.2.2.2.2).mono ?_; rintro e w15 ⟨rfl, hb15⟩)
          go_ret
          exact ⟨rfl, (S14.grow hb15).bel⟩
      · rw [if_neg hx2] at hf2
        have hx2' : (x.z.st == 2) = false := by simp [hx2]
        clear hx2
        cases hB : found (zs.drop c) with
        | some z =>
          rw [hB] at hf1 hf2
          have o1 : okB zs = true := by unfold okB; rw [hf1]; rfl
          have o2 : okB zs2 = true := by unfold okB; rw [hf2]; rfl
          have t1 := g1.tell hf1
          have t2 := g2.tell hf2
          have hic' := hic o1
          rw [o1, o2]
          clear hf1 hf2 hA hB o1 o2 hi hic
          go_wp2_with (go_at_call 32; refine (same_got n2 n1 z _ t2 t1).mono ?_; rintro e w15 ⟨rfl, hb15⟩)
          go_ret
          exact ⟨rfl, (S14.grow hb15).bel⟩
        | none =>
          rw [hB] at hf1 hf2
          have o1 : okB zs = false := by unfold okB; rw [hf1]; rfl
          have o2 : okB zs2 = false := by unfold okB; rw [hf2]; rfl
          have hn2 := g2.zero hf2
          subst hn2
          rw [o1, o2]
          clear hf1 hf2 hA hB o1 o2 hi hic
          go_wp2_with (go_at_call 32; refine (sameFlight_any Nt.zero Nt.zero ⟨none, none, none, none⟩ 0 0 _ (zeroTo _) (zeroTo _) rfl rfl rfl rfl).mono ?_; rintro e w15 ⟨rfl, hb15⟩)
          go_ret
          exact ⟨rfl, (S14.grow hb15).bel⟩
  · go_wp2
    go_ret
    exact ⟨rfl, S2.bel⟩
end Go.Proofs.Qxb6614903a
