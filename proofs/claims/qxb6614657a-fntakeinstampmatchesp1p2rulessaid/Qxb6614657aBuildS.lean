import Derived.Test.Qxb6614657aBuildM
namespace Go.Proofs.Qxb6614657a
open Go.RowKit

/-- A stamp while it is being built. -/
structure SRep (w : World) (lo Bs fm : Nat) (frm : Int) (sv : Value) (T : List SE) : Prop where
  s : w.heap[Bs]? = some (.cells #[.int .u8 fm, .int .i64 frm, sv] 57 (0, 0))
  row : w.ownsRow lo 73 4 sv T.length (sents T)
  col : ∀ x ∈ T, w.ownsRow lo 5 1 x.v x.bs.length (u8s x.bs) ∧ ∀ b ∈ x.bs, b < 256
  low : lo ≤ w.heap.size
theorem SRep.grow {w w' : World} {lo Bs fm : Nat} {frm : Int} {sv : Value} {T : List SE} (h : SRep w lo Bs fm frm sv T) (hb : Below w.heap.size w w') : SRep w' lo Bs fm frm sv T :=
  ⟨by rw [hb.block Bs (Array.getElem?_eq_some_iff.1 h.s).1]; exact h.s, own_grow h.row hb, fun x hx => ⟨own_grow (h.col x hx).1 hb, (h.col x hx).2⟩, Nat.le_trans h.low hb.size⟩

set_option maxRecDepth 100000 in
theorem newStamp_any (fm : Nat) (frm : Int) (w : World) :
    Calls Try.prog 23 #[.int .u8 fm, .int .i64 frm] w fun e w' => e = .returned (.pointer (some ⟨w.heap.size, 0, none⟩)) ∧ w' = w.alloc (.cells #[.int .u8 fm, .int .i64 frm, .slice none 0 0] 57) := by
  go_enter Try.func23, Try.ntmps23
  go_wp2
  go_ret
  exact ⟨rfl, rfl⟩

theorem scells_one (e : SE) (h : ∃ a m c, e.v = .slice a m c) : ∀ u ∈ e.cells.toList, u.oneCell' = true := by
  obtain ⟨a, n, c, hv⟩ := h
  intro u hu
  simp only [SE.cells, hv, List.mem_cons, List.not_mem_nil, or_false] at hu
  rcases hu with rfl | rfl | rfl | rfl <;> rfl
/-- The stamp's entries behind one more. -/
theorem SRep.put {w w' : World} {lo Bs fm : Nat} {frm : Int} {sv v' : Value} {T : List SE} (h : SRep w lo Bs fm frm sv T) (e : SE) (he : w.ownsRow lo 5 1 e.v e.bs.length (u8s e.bs)) (heb : ∀ b ∈ e.bs, b < 256) (hlo : lo ≤ Bs)
    (ho : w'.ownsRow lo 73 4 v' (T.length + 1) (sents T ++ e.cells.toList)) (hg : (w.alloc (.cells e.cells 73)).grownBy w' sv.ownBlock) :
    SRep (w'.setCell ⟨Bs, 2, none⟩ v') lo Bs fm frm v' (T ++ [e]) ∧ Below lo w (w'.setCell ⟨Bs, 2, none⟩ v') ∧ w'.cell? ⟨Bs, 2, none⟩ = some sv ∧ w'.frozen? ⟨Bs, 2, none⟩ = false := by
  have ba : Below w.heap.size w (w.alloc (.cells e.cells 73)) := (Below.refl _ _).alloc (Nat.le_refl _) _
  have keep : ∀ (q : Nat) (o : Obj), w.heap[q]? = some o → (∀ c, o ≠ .cells c 73 (0, 0)) → w'.heap[q]? = some o := fun q o hq hne => by
    have hlt := (Array.getElem?_eq_some_iff.1 hq).1
    rw [hg.block q (Nat.lt_of_lt_of_le hlt ba.size) (fun e => ?_), ba.block q hlt]
    · exact hq
    · obtain ⟨c, hc⟩ := row_kind h.row q e.symm
      rw [hc] at hq; cases hq; exact hne _ rfl
  have hs' := keep _ _ h.s (fun _ h => by cases h)
  have keep2 : ∀ (q : Nat) (o : Obj), w'.heap[q]? = some o → (∀ c, o ≠ .cells c 57 (0, 0)) → (w'.setCell ⟨Bs, 2, none⟩ v').heap[q]? = some o := fun q o hq hne => by
    rw [Below.heap_setCell w' ⟨Bs, 2, none⟩ v' q (fun e => ?_)]
    · exact hq
    · simp only at e; subst e; rw [hs'] at hq; cases hq; exact hne _ rfl
  have hown : ∀ {m : Nat} {v : Value} {xs : List Value}, w.ownsRow lo 5 1 v m xs → (w'.setCell ⟨Bs, 2, none⟩ v').ownsRow lo 5 1 v m xs := fun hq => own_same hq fun q hq' => by
    obtain ⟨c, hc⟩ := row_kind hq q hq'
    rw [keep2 q _ (keep q _ hc (fun _ h => by cases h)) (fun _ h => by cases h), hc]
  have hbel : Below lo w (w'.setCell ⟨Bs, 2, none⟩ v') := ((ba.mono h.low).grown hg (Nat.le_trans h.low ba.size) (fun q hq => (h.row.lt q hq).1)).setCell (p := ⟨Bs, 2, none⟩) hlo v'
  refine ⟨⟨?_, ?_, fun x hx => ?_, Nat.le_trans h.low hbel.size⟩, hbel, ?_, frozen_of_row w' Bs 2 _ 57 hs'⟩
  · rw [heap_setCell_same w' Bs 2 _ 57 v' hs']; rfl
  · have e1 : sents T ++ e.cells.toList = sents (T ++ [e]) := by rw [sents_append]; simp [sents]
    rw [List.length_append, ← e1]
    exact own_same ho fun q hq' => by
      obtain ⟨c, hc⟩ := row_kind ho q hq'
      rw [keep2 q _ hc (fun _ h => by cases h), hc]
  · rcases List.mem_append.1 hx with hx | hx
    · exact ⟨hown (h.col x hx).1, (h.col x hx).2⟩
    · rw [List.mem_singleton] at hx
      subst hx
      exact ⟨hown he, heb⟩
  · rw [cell_of_row w' Bs 2 _ 57 (0, 0) hs']; rfl
attribute [local go_sem ↓] load73S store73S load71S store71S

/-- What the builder of a stamp leaves after an entry. -/
def SAdd (w w' : World) (lo Bs fm : Nat) (frm : Int) (T : List SE) : Prop := ∃ sv, SRep w' lo Bs fm frm sv T ∧ Below lo w w'
set_option maxRecDepth 100000 in
set_option maxHeartbeats 1000000 in
theorem addStamp_any (lo Bs fm : Nat) (frm : Int) (sv : Value) (T : List SE) (e : SE) (w : World) (h : SRep w lo Bs fm frm sv T) (hT : T.length ≤ 1048576) (hlo : lo ≤ Bs) (he : w.ownsRow lo 5 1 e.v e.bs.length (u8s e.bs)) (heb : ∀ b ∈ e.bs, b < 256) :
    Calls Try.prog 24 #[.pointer (some ⟨Bs, 0, none⟩), .int .i64 e.h, .int .u64 e.c, .int .i64 e.f, e.v] w fun r w' => r = .returned (.tuple #[]) ∧ SAdd w w' lo Bs fm frm (T ++ [e]) := by
  obtain ⟨i0, hi, hz0, hz1, hz2⟩ := info_parts info73
  obtain ⟨a, c, rfl⟩ := row_shape h.row
  obtain ⟨eh, ec, ef, ev0, ebs⟩ := e
  obtain ⟨av, cv, hev⟩ := row_shape he
  simp only at hev
  subst hev
  have ba : Below w.heap.size w (w.alloc (.cells (SE.mk eh ec ef (.slice av ebs.length cv) ebs).cells 73)) := (Below.refl _ _).alloc (Nat.le_refl _) _
  have hrow := own_grow h.row ba
  have hlow := Nat.le_trans h.low ba.size
  have hnews : ∀ j u, (SE.mk eh ec ef (.slice av ebs.length cv) ebs).cells.toList[j]? = some u → (w.alloc (.cells (SE.mk eh ec ef (.slice av ebs.length cv) ebs).cells 73)).cell? ((⟨w.heap.size, 0, none⟩ : Addr).add j) = some u := fun j u hu => by
    rw [Addr.add_lit, Nat.zero_add, cell_of_row _ w.heap.size j _ 73 (0, 0) (heap_alloc_new w _)]
    simpa using hu
  have h1c := scells_one (SE.mk eh ec ef (.slice av ebs.length cv) ebs) ⟨_, _, _, rfl⟩
  have hlen : (SE.mk eh ec ef (.slice av ebs.length cv) ebs).cells.toList.length = 1 * 4 := rfl
  have p2 : w.cell? ⟨Bs, 2, none⟩ = some (.slice a T.length c) := by rw [cell_of_row w Bs 2 _ 57 (0, 0) h.s]; rfl
  have HF : Hid (∀ v' w', w'.ownsRow lo 73 4 v' (T.length + 1) (sents T ++ (SE.mk eh ec ef (.slice av ebs.length cv) ebs).cells.toList) → (w.alloc (.cells (SE.mk eh ec ef (.slice av ebs.length cv) ebs).cells 73)).grownBy w' (Value.slice a T.length c).ownBlock → SAdd w (w'.setCell ⟨Bs, 2, none⟩ v') lo Bs fm frm (T ++ [SE.mk eh ec ef (.slice av ebs.length cv) ebs]) ∧ w'.cell? ⟨Bs, 2, none⟩ = some (.slice a T.length c) ∧ w'.frozen? ⟨Bs, 2, none⟩ = false) := fun v' w' ho hg => by
    obtain ⟨q1, q2, q3, q4⟩ := h.put (v' := v') _ he heb hlo ho hg
    exact ⟨⟨_, q1, q2⟩, q3, q4⟩
  unfold SE.cells at hnews hrow h1c hlen hlow HF
  clear ba h he heb
  go_enter Try.func24, Try.ntmps24
  go_wp2_with (at_builtin; go_must (refine wpList_append_own_at _ rfl (.tmp 14) (.tmp 21) 55 rfl lo 73 i0 (.agg #[.int .i64 0, .int .u64 0, .int .i64 0, .slice none 0 0]) 4 48 Try.underlying55 hi hz0 hz1 hz2 rfl (by decide) (.slice a T.length c) T.length (sents T) rfl hrow ⟨w.heap.size, 0, none⟩ 1 1 _ rfl hlen hnews h1c (by unfold maxLen; omega) (by omega) hlow ?_); intro v' w' ho hg hn2 hloc; obtain ⟨hR, y0, y1⟩ := HF.out v' w' ho hg; obtain ⟨a', c', rfl⟩ := row_shape ho; have HR : Hid _ := hR; clear hR HF hn2)
  exact bodyPost_end (results_none Try.results24 _ _ _) rfl ⟨rfl, HR.out⟩

/-- An entry of the stamp that the law hands in. -/
structure SI where
  h : Nat
  c : Nat
  f : Int
  bs : List Nat
def SE.in (x : SE) : SI := ⟨x.h, x.c, x.f, x.bs⟩
structure SIn (w : World) (phv pcv pfv pbv : Value) (bvs : List Value) (S : List SI) : Prop where
  h : Rd w phv (S.map fun x => .int .i64 (x.h : Int))
  c : Rd w pcv (S.map fun x => .int .u64 (x.c : Int))
  f : Rd w pfv (S.map fun x => .int .i64 x.f)
  b : Rd w pbv bvs
  bl : bvs.length = S.length
  by_ : ∀ i (hi : i < S.length) (hi' : i < bvs.length), RB w bvs[i] S[i].bs
  len : S.length ≤ 1048576
  sml : ∀ x ∈ S, x.bs.length ≤ 1048576
theorem SIn.grow {w w' : World} {phv pcv pfv pbv : Value} {bvs : List Value} {S : List SI} (h : SIn w phv pcv pfv pbv bvs S) (hb : Below w.heap.size w w') : SIn w' phv pcv pfv pbv bvs S :=
  ⟨h.h.grow hb, h.c.grow hb, h.f.grow hb, h.b.grow hb, h.bl, fun i hi hi' => (h.by_ i hi hi').grow hb, h.len, h.sml⟩
/-- While the entries are being added. -/
def SB (w wr : World) (Bs fm : Nat) (frm : Int) (S : List SI) (k : Nat) : Prop := ∃ sv T, SRep wr w.heap.size Bs fm frm sv T ∧ T.map SE.in = S.take k ∧ Below w.heap.size w wr
def SBuilt (w w' : World) (fm : Nat) (frm : Int) (S : List SI) (e : Ending) : Prop := ∃ Bs, e = .returned (.pointer (some ⟨Bs, 0, none⟩)) ∧ w.heap.size ≤ Bs ∧ SB w w' Bs fm frm S S.length
theorem sadd_clone {w W W1 : World} {Bs fm : Nat} {frm : Int} {sv : Value} {T : List SE} (S : List SI) (k : Nat) (hlt : k < S.length) (u : Value) (h : SRep W w.heap.size Bs fm frm sv T) (hTm : T.map SE.in = S.take k) (hbel : Below w.heap.size w W) (hlo : w.heap.size ≤ Bs) (hl : S.length ≤ 1048576)
    (ho : W1.ownsRow W.heap.size 5 1 u S[k].bs.length (u8s S[k].bs)) (hby : ∀ b ∈ S[k].bs, b < 256) (hb : Below W.heap.size W W1) :
    Calls Try.prog 24 #[.pointer (some ⟨Bs, 0, none⟩), .int .i64 S[k].h, .int .u64 S[k].c, .int .i64 S[k].f, u] W1 fun r w' => r = .returned (.tuple #[]) ∧ SB w w' Bs fm frm S (k + 1) := by
  have hTl : T.length ≤ 1048576 := by
    have := congrArg List.length hTm
    simp only [List.length_map, List.length_take] at this
    omega
  have ho' : W1.ownsRow w.heap.size 5 1 u S[k].bs.length (u8s S[k].bs) := by
    refine ⟨ho.1, ?_⟩
    rcases ho.2 with e | ⟨g, cap, cur, e1, e2, e3⟩
    · exact .inl e
    · exact .inr ⟨g, cap, cur, e1, Nat.le_trans h.low e2, e3⟩
  refine (addStamp_any w.heap.size Bs fm frm sv T ⟨S[k].h, S[k].c, S[k].f, u, S[k].bs⟩ W1 (h.grow hb) hTl hlo ho' hby).mono ?_
  rintro r w' ⟨rfl, sv', h', hb'⟩
  refine ⟨rfl, sv', T ++ [⟨S[k].h, S[k].c, S[k].f, u, S[k].bs⟩], h', ?_, (hbel.trans (hb.mono hbel.size)).trans hb'⟩
  rw [List.map_append, hTm, List.take_succ_eq_append_getElem hlt]; rfl

set_option maxRecDepth 100000 in
set_option maxHeartbeats 1000000 in
theorem buildS_any (fm : Nat) (frm : Int) (phv pcv pfv pbv : Value) (bvs : List Value) (S : List SI) (w : World) (hP : SIn w phv pcv pfv pbv bvs S) :
    Calls Try.prog 10 #[.int .u8 fm, .int .i64 frm, phv, pcv, pfv, pbv] w fun e w' => SBuilt w w' fm frm S e := by
  obtain ⟨pa, pcap, hphv, _⟩ := hP.h
  rw [List.length_map] at hphv
  have hPl := hP.len
  have hsm := hP.sml
  rw [hphv]
  go_enter Try.func10, Try.ntmps10
  go_wp2_with fail
  refine (newStamp_any fm frm w).mono ?_
  rintro e w5 ⟨rfl, hw5⟩
  have hE0 : SB w w5 w.heap.size fm frm S 0 := by
    have b5 : Below w.heap.size w w5 := by rw [hw5]; exact (Below.refl _ _).alloc (Nat.le_refl _) _
    refine ⟨.slice none 0 0, [], ⟨?_, World.ownsRow_nil _ _ _ _, (fun x hx => by cases hx), b5.size⟩, rfl, b5⟩
    rw [hw5]; exact heap_alloc_new w _
  clear hw5
  generalize hBs : w.heap.size = Bs at hE0
  have hlo5 : w.heap.size ≤ Bs := by omega
  clear hBs
  go_wp2_with fail
  go_loopw [14] (fun i wr => ∃ k : Nat, k ≤ S.length ∧ i = .int .i64 k ∧ SB w wr Bs fm frm S k) (fun i _ => S.length - (intOf i).toNat)
  case atStart => exact ⟨0, Nat.zero_le _, rfl, hE0⟩
  case round =>
    clear hE0
    obtain ⟨k, hk, rfl, hSB⟩ := hrel
    by_cases hlt : k < S.length
    · obtain ⟨sv, T, hC, hTm, hbel⟩ := hSB
      have hP1 := hP.grow hbel
      have hmk : ∀ {α : Type} (f : SI → α), (S.map f)[k]? = some (f S[k]) := fun f => by rw [List.getElem?_map, List.getElem?_eq_getElem hlt]; rfl
      obtain ⟨g1, o1, c1, e1, x1⟩ := hP1.h.at k _ (hmk _)
      obtain ⟨g2, o2, c2, e2, x2⟩ := hP1.c.at k _ (hmk _)
      obtain ⟨g3, o3, c3, e3, x3⟩ := hP1.f.at k _ (hmk _)
      have hbk : k < bvs.length := by rw [hP.bl]; exact hlt
      obtain ⟨g4, o4, c4, e4, x4⟩ := hP1.b.at k _ (List.getElem?_eq_getElem hbk)
      have hrb := hP1.by_ k hlt hbk
      rw [List.length_map] at e1 e2 e3
      rw [hP.bl] at e4
      have hpae : pa = some ⟨g1, o1, none⟩ ∧ pcap = c1 := by
        rw [hphv] at e1
        simp only [Value.slice.injEq, true_and] at e1
        exact e1
      obtain ⟨rfl, rfl⟩ := hpae
      subst e2 e3 e4
      obtain ⟨bv, hbv⟩ : ∃ x, x = bvs[k] := ⟨_, rfl⟩
      rw [← hbv] at x4 hrb
      have hcl := cloneBytes_any bv S[k].bs wr.drew (hsm _ (List.getElem_mem hlt)) (hrb.grow (Below.refl _ _).drew)
      have hadd := fun (u : Value) (W1 : World) ho hb => sadd_clone (w := w) (W := wr.drew) (W1 := W1) S k hlt u (hC.grow (Below.refl _ _).drew) hTm hbel.drew hlo5 hPl ho hrb.choose_spec.choose_spec.2.1 hb
      have hS : ∀ (W1 : World), Below w.heap.size w W1 → W1.cell? ⟨g1, o1 + k, none⟩ = some (.int .i64 S[k].h) ∧ W1.cell? ⟨g2, o2 + k, none⟩ = some (.int .u64 S[k].c) ∧ W1.cell? ⟨g3, o3 + k, none⟩ = some (.int .i64 S[k].f) ∧ W1.cell? ⟨g4, o4 + k, none⟩ = some bv := fun W1 hb => by
        have hP2 := hP.grow hb
        obtain ⟨q1, r1, s1, t1, z1⟩ := hP2.h.at k _ (hmk _)
        obtain ⟨q2, r2, s2, t2, z2⟩ := hP2.c.at k _ (hmk _)
        obtain ⟨q3, r3, s3, t3, z3⟩ := hP2.f.at k _ (hmk _)
        obtain ⟨q4, r4, s4, t4, z4⟩ := hP2.b.at k _ (List.getElem?_eq_getElem hbk)
        rw [hphv] at t1
        simp only [Value.slice.injEq, Option.some.injEq, Addr.mk.injEq, and_true] at t1 t2 t3 t4
        obtain ⟨⟨rfl, rfl⟩, _⟩ := t1
        obtain ⟨⟨rfl, rfl⟩, _⟩ := t2
        obtain ⟨⟨rfl, rfl⟩, _⟩ := t3
        obtain ⟨⟨rfl, rfl⟩, _⟩ := t4
        exact ⟨z1, z2, z3, by rw [hbv]; exact z4⟩
      obtain ⟨d1, d2, d3, d4⟩ := hS wr.drew hbel.drew
      have HA : Hid _ := hadd
      have HS : Hid _ := hS
      have hbd : Below w.heap.size w wr.drew := hbel.drew
      have hszd : w.heap.size ≤ wr.drew.heap.size := hbel.size
      clear hadd hS hmk hrb hP1 hC hTm e1 x1 x2 x3 x4 hbv hP hsm
      generalize S[k].h = ph at *
      generalize S[k].c = pc at *
      generalize S[k].f = pf at *
      go_upto_region 5 with fail
      go_region_held3 (fun w' => w'.cell? ⟨g1, o1 + k, none⟩ = some (.int .i64 ph) ∧ w'.cell? ⟨g2, o2 + k, none⟩ = some (.int .u64 pc) ∧ w'.cell? ⟨g3, o3 + k, none⟩ = some (.int .i64 pf) ∧ w'.cell? ⟨g4, o4 + k, none⟩ = some bv)
        (first | with_reducible exact ⟨d1, d2, d3, d4⟩ | with_reducible exact HS1 | with_reducible exact HS2)
        (first
        | (go_at_call 22; refine hcl.mono ?_; rintro e W1 ⟨u, rfl, ho, hb1⟩; have HS1 := HS.out W1 (hbd.trans (hb1.mono hszd)))
        | (go_at_call 24; refine (HA.out u _ ho hb1).mono ?_; rintro e W2 ⟨rfl, hBE⟩; have HS2 := HS.out W2 hBE.choose_spec.choose_spec.2.2; have HB : Hid _ := hBE; clear hBE))
      all_goals
        go_wp2
        go_roundw
        case rel => exact ⟨k + 1, by omega, by go_num, HB.out⟩
        case measure => simp [intOf]; omega
    · have : k = S.length := by omega
      subst this
      have HB : Hid _ := hSB
      clear hSB
      go_wp2
      go_ret
      exact ⟨Bs, rfl, hlo5, HB.out⟩
end Go.Proofs.Qxb6614657a
