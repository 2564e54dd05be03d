import Derived.Test.Qxb6614657aPair
namespace Go.Proofs.Qxb6614657a
open Go.RowKit

/-- An entry of a stamp. -/
structure SE where
  h : Nat
  c : Nat
  f : Int
  v : Value
  bs : List Nat
def SE.cells (e : SE) : Array Value := #[.int .i64 e.h, .int .u64 e.c, .int .i64 e.f, e.v]
def sents (T : List SE) : List Value := T.flatMap fun e => e.cells.toList
theorem sents_cons (e : SE) (L : List SE) : sents (e :: L) = e.cells.toList ++ sents L := by simp [sents]
theorem sents_append (L M : List SE) : sents (L ++ M) = sents L ++ sents M := by simp [sents]
theorem scells_len (e : SE) : e.cells.toList.length = 4 := rfl
theorem sents_length (L : List SE) : (sents L).length = L.length * 4 := by
  induction L with
  | nil => rfl
  | cons e L ih => rw [sents_cons, List.length_append, ih, scells_len, List.length_cons]; omega
theorem sents_get (L : List SE) : ∀ (i j : Nat) (hi : i < L.length), j < 4 → (sents L)[i * 4 + j]? = L[i].cells.toList[j]? := by
  induction L with
  | nil => intro i j hi; simp at hi
  | cons e L ih =>
    intro i j hi hj
    rw [sents_cons]
    match i, hi with
    | 0, _ => rw [List.getElem?_append_left (by rw [scells_len]; omega)]; simp
    | i + 1, hi =>
      rw [List.getElem?_append_right (by rw [scells_len]; omega), scells_len, show (i + 1) * 4 + j - 4 = i * 4 + j by omega]
      exact ih i j (by simpa using hi) hj
/-- What an entry of a stamp does. -/
def stepS (me frm fm : Nat) (M : Hold) (x : SE) : Hold :=
  if x.c = 0 then M else if fm = 4 then setM M x.h (colF me x.c (bitAt x.f.toNat x.bs) (at' M x.h)) else setM M x.h (pairF me frm x.h x.c (at' M x.h))
def takeS (me frm fm : Nat) (M : Hold) (T : List SE) : Hold := T.foldl (stepS me frm fm) M
/-- The entries of a stamp as they lie in memory. -/
structure Stm (w : World) (n fm : Nat) (sv : Value) (T : List SE) (O : Nat → Prop) : Prop where
  row : ∃ lo', w.ownsRow lo' 73 4 sv T.length (sents T)
  hn : ∀ x ∈ T, x.h < n
  hc : ∀ x ∈ T, x.c < 18446744073709551616
  pl : ∀ x ∈ T, ∃ a m c, x.v = .slice a m c
  giv : fm = 4 → ∀ x ∈ T, x.f = (x.f.toNat : Int) ∧ Given w n x.f.toNat x.v x.bs ∧ ∀ q, x.v.ownBlock = some q → ¬ O q
  ap : ∀ q, sv.ownBlock = some q → ¬ O q
theorem Stm.of {w w' : World} {n fm : Nat} {sv : Value} {T : List SE} {O O' : Nat → Prop} (h : Stm w n fm sv T O) (hF : FrO w w' O O') : Stm w' n fm sv T O' := by
  obtain ⟨⟨lo', h1⟩, h2, h3, h4, h5, h6⟩ := h
  refine ⟨⟨lo', hF.row h1 h6⟩, h2, h3, h4, fun e x hx => ?_, fun q hq hO => h6 q hq (hF.sub q (h1.lt q hq).2 hO)⟩
  obtain ⟨g1, g2, g3⟩ := h5 e x hx
  obtain ⟨lo2, g4⟩ := g2.own
  exact ⟨g1, g2.of hF g3, fun q hq hO => g3 q hq (hF.sub q (g4.lt q hq).2 hO)⟩
theorem store73V_at {w : World} {g o : Nat} (e : SE) (hp : ∃ a m c, e.v = .slice a m c) (h : w.there g o 4) : (storeS 73 (.pointer (some ⟨g, o, none⟩)) (.agg e.cells)).run Try.prog w = .ok () (w.setCells g o e.cells.toList) := by
  obtain ⟨a, m, c, hv⟩ := hp
  exact run_storeAt_mid (P := Try.prog) w g o 73 e.cells h size73 (by unfold SE.cells; rw [hv]; simp [Value.oneCell'])
theorem sload73V_at {w : World} {g o : Nat} {e : SE} (h : w.rangeAt g o e.cells.toList) : (loadS 73 (.pointer (some ⟨g, o, none⟩))).run Try.prog w = .ok (.agg e.cells) w := by
  obtain ⟨d, hu, hd⟩ := isRow_of row73
  exact run_loadAt_mid (P := Try.prog) w g o 73 e.cells.toList d h hu hd size73

theorem rangeAt_new (w : World) (cs : Array Value) (t : TypeId) : (w.alloc (.cells cs t)).rangeAt w.heap.size 0 cs.toList := by
  have := World.rangeAt_of_block (heap_alloc_new w (.cells cs t)) 0 cs.size
  simpa using this
theorem there_new (w : World) (cs : Array Value) (t : TypeId) : (w.alloc (.cells cs t)).there w.heap.size 0 cs.size := fun j hj => by
  rw [Nat.zero_add, cell_of_row _ w.heap.size j cs t (0, 0) (heap_alloc_new w _)]
  exact ⟨by simp [hj], frozen_of_row _ w.heap.size j cs t (heap_alloc_new w _)⟩
theorem size_setCells (w : World) (b o : Nat) (vs : List Value) : (w.setCells b o vs).heap.size = w.heap.size := by
  induction vs generalizing w o with
  | nil => rfl
  | cons v vs ih => exact (ih _ _).trans (by simp [World.setCell])
theorem below_setCells {B : Nat} {a w : World} (h : Below B a w) {g : Nat} (hg : B ≤ g) (o : Nat) (vs : List Value) : Below B a (w.setCells g o vs) := by
  induction vs generalizing w o with
  | nil => exact h
  | cons v vs ih => exact ih (h.setCell (p := ⟨g, o, none⟩) hg v) _
/-- The round's own variable. -/
def putE (w : World) (e : SE) : World := (w.alloc (.cells (En.new 0).cells 73)).setCells w.heap.size 0 e.cells.toList
theorem putE_run (w : World) (e : SE) (hp : ∃ a m c, e.v = .slice a m c) : (storeS 73 (.pointer (some ⟨w.heap.size, 0, none⟩)) (.agg e.cells)).run Try.prog (w.alloc (.cells #[.int .i64 0, .int .u64 0, .int .i64 0, .slice none 0 0] 73)) = .ok () (putE w e) :=
  store73V_at e hp (there_new w (En.new 0).cells 73)
theorem putE_at (w : World) (e : SE) : (putE w e).rangeAt w.heap.size 0 e.cells.toList := World.rangeAt_setCells_same _ _ _ _ (there_new w (En.new 0).cells 73)
theorem putE_below (w : World) (e : SE) : Below w.heap.size w (putE w e) := below_setCells ((Below.refl _ _).alloc (Nat.le_refl _) _) (Nat.le_refl _) _ _
theorem putE_size (w : World) (e : SE) : w.heap.size < (putE w e).heap.size := by unfold putE; rw [size_setCells]; simp
theorem takeS_succ (me frm fm : Nat) (M : Hold) (T : List SE) (j : Nat) (hj : j < T.length) : takeS me frm fm M (T.take (j + 1)) = stepS me frm fm (takeS me frm fm M (T.take j)) T[j] := by
  unfold takeS
  rw [List.take_succ_eq_append_getElem hj, List.foldl_append]
  rfl
attribute [local go_sem ↓] load73S store73S load71S store71S

set_option maxRecDepth 100000 in
set_option maxHeartbeats 1000000 in
theorem takeStamp_any (lo n Bp Bw BM : Nat) (hv ev : Value) (me : Nat) (hs : List ByteArray) (L : List En) (M : Hold) (fm : Nat) (frm : Int) (sv : Value) (T : List SE) (w : World) (h : Rep w lo n Bp Bw BM hv ev me hs L M) (hd : Distinct hs) (hn : n ≤ 4096) (hme : me < n) (hfr : fm ≠ 4 → frm = (frm.toNat : Int) ∧ frm.toNat < n) (hTl : T.length ≤ 1048576)
    (hT : Stm w n fm sv T (Ow Bp BM ev L)) :
    Calls Try.prog 25 #[.pointer (some ⟨Bp, 0, none⟩), .agg #[.int .u8 fm, .int .i64 frm, sv]] w fun r w' => r = .returned (.tuple #[]) ∧ Took w w' lo n Bp Bw BM hv ev me hs L (takeS me frm.toNat fm M T) := by
  have b0 : Below w.heap.size w (w.alloc (.cells #[.int .u8 fm, .int .i64 frm, sv] 57)) := (Below.refl _ _).alloc (Nat.le_refl _) _
  have h0 := h.grow b0
  have hF0 : FrO w (w.alloc (.cells #[.int .u8 fm, .int .i64 frm, sv] 57)) (Ow Bp BM ev L) (Ow Bp BM ev L) := FrO.of b0
  have hT0 := hT.of hF0
  have hbx : ¬ Ow Bp BM ev L w.heap.size := fun hq => by have := h.c.owlt hq; omega
  have hbl : w.heap.size < (w.alloc (.cells #[.int .u8 fm, .int .i64 frm, sv] 57)).heap.size := by simp
  have z0 : ∀ j, (w.alloc (.cells #[.int .u8 fm, .int .i64 frm, sv] 57)).cell? ⟨w.heap.size, j, none⟩ = (#[.int .u8 fm, .int .i64 frm, sv] : Array Value)[j]? := fun j => cell_of_row _ w.heap.size j _ 57 (0, 0) (heap_alloc_new w _)
  obtain ⟨lo', hrow⟩ := hT.row
  obtain ⟨sa, sc, rfl⟩ := row_shape hrow
  go_enter Try.func25, Try.ntmps25
  go_wp2_with fail
  generalize (w.alloc (.cells #[.int .u8 fm, .int .i64 frm, .slice sa T.length sc] 57)) = w0 at *
  go_loopw [9] (fun i wr => ∃ j : Nat, j ≤ T.length ∧ i = .int .i64 j ∧ Took w0 wr lo n Bp Bw BM hv ev me hs L (takeS me frm.toNat fm M (T.take j))) (fun i _ => T.length - (intOf i).toNat)
  case atStart => exact ⟨0, Nat.zero_le _, rfl, ⟨_, _, h0, FrO.refl _ _⟩⟩
  case round =>
    obtain ⟨j, hj, rfl, ev1, L1, h1, hF1⟩ := hrel
    have hT1 := hT0.of hF1
    by_cases hlt : j < T.length
    · obtain ⟨lo1, hr1⟩ := hT1.row
      obtain ⟨Gs, cs, e⟩ : ∃ g cc, Value.slice sa T.length sc = .slice (some ⟨g, 0, none⟩) T.length cc := by
        rcases hr1.2 with ⟨_, e⟩ | ⟨g, cap, cur, e, _⟩
        · omega
        · exact ⟨_, _, e⟩
      simp only [Value.slice.injEq, true_and] at e
      obtain ⟨rfl, rfl⟩ := e
      have hld := sload73V_at (w := wr) (g := Gs) (o := j * 4) (e := T[j]) (fun q u hu => by
        have hq : q < 4 := by have := (List.getElem?_eq_some_iff.1 hu).1; rwa [scells_len] at this
        rw [hr1.cellAt (j * 4 + q) (by omega), sents_get T j q hlt hq]; exact hu)
      have hsv := putE_run wr T[j] (hT1.pl _ (List.getElem_mem hlt))
      have hFb : FrO wr (putE wr T[j]) (Ow Bp BM ev1 L1) (Ow Bp BM ev1 L1) := FrO.of (putE_below wr T[j])
      have h2 := h1.grow (putE_below wr T[j])
      have hT2 := hT1.of hFb
      have hF2 := hF1.trans hFb
      have hsz2 := putE_size wr T[j]
      have y0 : (putE wr T[j]).cell? ⟨wr.heap.size, 0, none⟩ = some (.int .i64 T[j].h) := by have := putE_at wr T[j] 0 _ rfl; simpa using this
      have y1 : (putE wr T[j]).cell? ⟨wr.heap.size, 1, none⟩ = some (.int .u64 T[j].c) := by have := putE_at wr T[j] 1 _ rfl; simpa using this
      have y2 := load71V_at (w := putE wr T[j]) (g := wr.heap.size) (o := 2) (x := .int .i64 T[j].f) (y := T[j].v) (fun q u hu => by
        have hp := putE_at wr T[j]
        match q, hu with
        | 0, hu => cases hu; have := hp 2 _ rfl; simpa using this
        | 1, hu => cases hu; have := hp 3 _ rfl; simpa using this
        | q + 2, hu => simp at hu)
      have u0 : (putE wr T[j]).cell? ⟨w.heap.size, 0, none⟩ = some (.int .u8 fm) := by rw [hF2.cell hbl hbx, z0]; rfl
      have u1 : (putE wr T[j]).cell? ⟨w.heap.size, 1, none⟩ = some (.int .i64 frm) := by rw [hF2.cell hbl hbx, z0]; rfl
      have hstep := takeS_succ me frm.toNat fm M T j hlt
      have hxh := hT2.hn _ (List.getElem_mem hlt)
      have hxc := hT2.hc _ (List.getElem_mem hlt)
      have hgiv := hT2.giv
      clear hT1 h1 hF1 hFb hr1 hT0 h0
      generalize putE wr T[j] = w2 at *
      obtain ⟨x, hx⟩ : ∃ x, x = T[j] := ⟨_, rfl⟩
      have hxm : x ∈ T := by rw [hx]; exact List.getElem_mem hlt
      rw [← hx] at hld hstep hxh hxc hsv y0 y1 y2
      clear hrow hT h hT2 hx
      by_cases hz : x.c = 0
      · have e0 : stepS me frm.toNat fm (takeS me frm.toNat fm M (T.take j)) x = takeS me frm.toNat fm M (T.take j) := by unfold stepS; rw [if_pos hz]
        rw [e0] at hstep
        have HN : Hid (Took w0 w2 lo n Bp Bw BM hv ev me hs L (takeS me frm.toNat fm M (T.take (j + 1)))) := by rw [hstep]; exact ⟨_, _, h2, hF2⟩
        rw [hz] at y1
        clear h2 hF2 hgiv hstep e0
        go_wp2
        go_roundw
        case rel => exact ⟨j + 1, by omega, by go_num, HN.out⟩
        case measure => simp [intOf]; omega
      · have d1 : ((x.c : Int) == 0) = false := by simp; omega
        by_cases hf4 : fm = 4
        · obtain ⟨g1, g2, g3⟩ := hgiv hf4 x hxm
          have e0 : stepS me frm.toNat fm (takeS me frm.toNat fm M (T.take j)) x = setM (takeS me frm.toNat fm M (T.take j)) x.h (colF me x.c (bitAt x.f.toNat x.bs) (at' (takeS me frm.toNat fm M (T.take j)) x.h)) := by unfold stepS; rw [if_neg hz, if_pos hf4]
          obtain ⟨tf, htf⟩ : ∃ tf, tf = x.f.toNat := ⟨_, rfl⟩
          rw [← htf] at g1 g2 e0
          rw [g1] at y2
          have hcol := column_any lo n Bp Bw BM hv ev1 me hs L1 _ x.h x.c tf x.v x.bs w2 h2 hd hxh hn hme hz hxc g2 g3
          have HS : Hid _ := hstep
          have d2 : ((fm : Int) == 4) = true := by simp; omega
          clear h2 hgiv hstep g1 htf hfr hf4
          go_wp2_with fail
          refine hcol.mono ?_
          clear hcol
          rintro r w3 ⟨rfl, ev3, L3, h3, hF3⟩
          have HN : Hid (Took w0 w3 lo n Bp Bw BM hv ev me hs L (takeS me frm.toNat fm M (T.take (j + 1)))) := by rw [HS.out, e0]; exact ⟨_, _, h3, hF2.trans hF3⟩
          clear h3 hF3 hF2 HS e0 y2 g2 g3
          go_wp2
          go_roundw
          case rel => first | exact ⟨j + 1, by omega, by go_num, HN.out⟩ | ((repeat apply Exists.intro); exact ⟨⟨j + 1, by omega, by go_num, HN.out⟩, rfl⟩)
          case measure => simp [intOf]; omega
        · obtain ⟨g1, g2⟩ := hfr hf4
          have e0 : stepS me frm.toNat fm (takeS me frm.toNat fm M (T.take j)) x = setM (takeS me frm.toNat fm M (T.take j)) x.h (pairF me frm.toNat x.h x.c (at' (takeS me frm.toNat fm M (T.take j)) x.h)) := by unfold stepS; rw [if_neg hz, if_neg hf4]
          have hpr := pair_any lo n Bp Bw BM hv ev1 me hs L1 _ frm.toNat x.h x.c w2 h2 hd hxh g2 hn hme hz hxc
          rw [← g1] at hpr
          clear g1 g2
          have d2 : ((fm : Int) == 4) = false := by simp; omega
          have HS : Hid _ := hstep
          clear h2 hgiv hstep hfr hf4
          go_wp2_with fail
          refine hpr.mono ?_
          clear hpr
          rintro r w3 ⟨rfl, ev3, L3, h3, hF3⟩
          have HN : Hid (Took w0 w3 lo n Bp Bw BM hv ev me hs L (takeS me frm.toNat fm M (T.take (j + 1)))) := by rw [HS.out, e0]; exact ⟨_, _, h3, hF2.trans hF3⟩
          clear h3 hF3 hF2 HS e0 y2
          go_wp2
          go_roundw
          case rel => first | exact ⟨j + 1, by omega, by go_num, HN.out⟩ | ((repeat apply Exists.intro); exact ⟨⟨j + 1, by omega, by go_num, HN.out⟩, rfl⟩)
          case measure => simp [intOf]; omega
    · have : j = T.length := by omega
      subst this
      rw [List.take_length] at h1
      have HN : Hid (Took w wr lo n Bp Bw BM hv ev me hs L (takeS me frm.toNat fm M T)) := ⟨_, _, h1, hF0.trans hF1⟩
      clear h1 hF1 hT1
      go_wp2
      exact bodyPost_end (results_none Try.results25 _ _ _) rfl ⟨rfl, HN.out⟩

theorem size57 : (Try.prog.info? 57).map (·.size) = some 3 := by kernel_rfl
theorem row57 : ((Try.prog.underlying 57).map TypeDesc.isRow) = some true := by kernel_rfl
theorem load57S (v : Value) : Instr.loadAt 57 v = loadS 57 v := rfl
theorem load57V_at {w : World} {g o : Nat} {x y z : Value} (h : w.rangeAt g o [x, y, z]) : (loadS 57 (.pointer (some ⟨g, o, none⟩))).run Try.prog w = .ok (.agg #[x, y, z]) w := by
  obtain ⟨d, hu, hd⟩ := isRow_of row57
  exact run_loadAt_mid (P := Try.prog) w g o 57 [x, y, z] d h hu hd size57
attribute [local go_sem ↓] load57S

set_option maxRecDepth 100000 in
theorem zzTake_any (lo n Bp Bw BM Bs : Nat) (hv ev : Value) (me : Nat) (hs : List ByteArray) (L : List En) (M : Hold) (fm : Nat) (frm : Int) (sv : Value) (T : List SE) (w : World) (h : Rep w lo n Bp Bw BM hv ev me hs L M) (hd : Distinct hs) (hn : n ≤ 4096) (hme : me < n) (hfr : fm ≠ 4 → frm = (frm.toNat : Int) ∧ frm.toNat < n) (hTl : T.length ≤ 1048576)
    (hT : Stm w n fm sv T (Ow Bp BM ev L)) (hB : w.heap[Bs]? = some (.cells #[.int .u8 fm, .int .i64 frm, sv] 57 (0, 0))) :
    Calls Try.prog 11 #[.pointer (some ⟨Bp, 0, none⟩), .pointer (some ⟨Bs, 0, none⟩)] w fun r w' => r = .returned (.tuple #[]) ∧ Took w w' lo n Bp Bw BM hv ev me hs L (takeS me frm.toNat fm M T) := by
  have hcell : ∀ j, w.cell? ⟨Bs, j, none⟩ = (#[.int .u8 fm, .int .i64 frm, sv] : Array Value)[j]? := fun j => cell_of_row w Bs j _ 57 (0, 0) hB
  have hld := load57V_at (w := w) (g := Bs) (o := 0) (x := .int .u8 fm) (y := .int .i64 frm) (z := sv) (fun q u hu => by
    match q, hu with
    | 0, hu => cases hu; rw [hcell]; rfl
    | 1, hu => cases hu; rw [hcell]; rfl
    | 2, hu => cases hu; rw [hcell]; rfl
    | q + 3, hu => simp at hu)
  have hx := takeStamp_any lo n Bp Bw BM hv ev me hs L M fm frm sv T w h hd hn hme hfr hTl hT
  clear hcell hB h hT hfr
  go_enter Try.func11, Try.ntmps11
  go_wp2_with fail
  refine hx.mono ?_
  clear hx hld
  rintro r w1 ⟨rfl, hT⟩
  have HT : Hid _ := hT
  clear hT
  go_wp2
  exact bodyPost_end (results_none Try.results11 _ _ _) rfl ⟨rfl, HT.out⟩
end Go.Proofs.Qxb6614657a
