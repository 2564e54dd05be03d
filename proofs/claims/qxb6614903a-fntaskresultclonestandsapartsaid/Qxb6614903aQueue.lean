import Derived.Test.Qxb6614903aTells
namespace Go.Proofs.Qxb6614903a
open Go.RowKit

theorem bcell {W w1 : World} (hb : Below W.heap.size W w1) : (∀ b o, b < W.heap.size → w1.cell? ⟨b, o, none⟩ = W.cell? ⟨b, o, none⟩) ∧ (∀ b o, b < W.heap.size → w1.frozen? ⟨b, o, none⟩ = W.frozen? ⟨b, o, none⟩) :=
  ⟨fun b o h => hb.cell (p := ⟨b, o, none⟩) h, fun b o h => hb.frozen (p := ⟨b, o, none⟩) h⟩

theorem rangeAt_set {w : World} {g o : Nat} {cs : List Value} (h : w.rangeAt g o cs) (j : Nat) (v : Value) : (w.setCell ⟨g, o + j, none⟩ v).rangeAt g o (cs.set j v) := by
  intro i u hu
  by_cases hij : j = i
  · subst hij
    by_cases hj : j < cs.length
    · have e : (cs.set j v)[j]? = some v := by simp [hj]
      rw [e] at hu; cases hu
      exact World.cell?_setCell_same _ _ _ (h j _ (List.getElem?_eq_getElem hj))
    · rw [List.getElem?_eq_none (by simp; omega)] at hu; cases hu
  · have e : (cs.set j v)[i]? = cs[i]? := by simp [hij]
    rw [e] at hu
    rw [World.cell?_setCell_other w ⟨g, o + j, none⟩ ⟨g, o + i, none⟩ v (by simp; try omega)]
    exact h i u hu

theorem store128S (p v : Value) : Instr.storeAt 128 p v = storeS 128 p v := rfl
theorem cells_one (n : Nt) : n.cells.all (·.oneCell') = true := all_oneCell_toArray (cs := n.cells.toList) (by unfold Nt.cells; simp [Value.oneCell'])
theorem store128V_at {w : World} {g o : Nat} (n : Nt) (h : w.there g o 21) : (storeS 128 (.pointer (some ⟨g, o, none⟩)) (.agg n.cells)).run Try.prog w = .ok () (w.setCells g o n.cells.toList) :=
  run_storeAt_mid (P := Try.prog) w g o 128 n.cells h size128 (cells_one n)
attribute [local go_sem ↓] load128S store128S

/-- The state of 'zzStNotification' between two calls: the note in its box b, the notification in M, the result's variable R. -/
structure St (w : World) (b M R : Nat) (z n : Nt) : Prop where
  box : w.rangeAt b 0 z.zcells.toList
  m : w.rangeAt M 0 n.cells.toList
  tm : w.there M 0 21
  tr : w.there R 0 21
  bR : b < R
  RM : R < M
  lt : M < w.heap.size

theorem St.grow {w w' : World} {b M R : Nat} {z n : Nt} (h : St w b M R z n) (hb : Below w.heap.size w w') : St w' b M R z n :=
  ⟨rangeAt_below hb (by have := h.bR; have := h.RM; have := h.lt; omega) h.box, rangeAt_below hb h.lt h.m, there_below hb h.lt h.tm, there_below hb (by have := h.RM; have := h.lt; omega) h.tr, h.bR, h.RM, Nat.lt_of_lt_of_le h.lt hb.size⟩
theorem there_setCell {w : World} {g o n : Nat} (h : w.there g o n) (a : Addr) (v : Value) : (w.setCell a v).there g o n := fun j hj => by
  have h0 := h j hj
  refine ⟨?_, by rw [World.frozen?_setCell]; exact h0.2⟩
  obtain ⟨u, hu⟩ := Option.isSome_iff_exists.1 h0.1
  obtain ⟨v', hv⟩ := cell?_setCell_some (w := w) (p := a) (x := v) hu
  rw [hv]; rfl
theorem rangeAt_setCell_far {w : World} {g o : Nat} {cs : List Value} (h : w.rangeAt g o cs) (a : Addr) (ha : g ≠ a.block) (v : Value) : (w.setCell a v).rangeAt g o cs := fun j u hu => by
  rw [World.cell?_setCell_other _ _ _ _ (by intro e; apply ha; have := congrArg Addr.block e; simpa using this.symm)]
  exact h j u hu
theorem St.set {w : World} {b M R : Nat} {z n n' : Nt} (h : St w b M R z n) (j : Nat) (v : Value) (hn : n'.cells.toList = n.cells.toList.set j v) : St (w.setCell ⟨M, j, none⟩ v) b M R z n' := by
  have hm := rangeAt_set h.m j v
  rw [Nat.zero_add, ← hn] at hm
  exact ⟨rangeAt_setCell_far h.box _ (by have := h.bR; have := h.RM; simp; omega) v, hm, there_setCell h.tm _ v, there_setCell h.tr _ v, h.bR, h.RM, by have := h.lt; simpa [World.setCell] using this⟩
theorem St.facts1 {w : World} {b M R : Nat} {z n : Nt} (h : St w b M R z n) :
    w.cell? ⟨M, 5, none⟩ = some (.pointer n.pr) ∧ w.cell? ⟨M, 6, none⟩ = some (.int .i64 n.st) ∧ w.cell? ⟨M, 7, none⟩ = some (.int .i64 n.att) ∧ w.frozen? ⟨M, 5, none⟩ = false ∧ w.frozen? ⟨M, 6, none⟩ = false ∧ w.frozen? ⟨M, 7, none⟩ = false :=
  ⟨by simpa using h.m 5 _ rfl, by simpa using h.m 6 _ rfl, by simpa using h.m 7 _ rfl, by simpa using (h.tm 5 (by decide)).2, by simpa using (h.tm 6 (by decide)).2, by simpa using (h.tm 7 (by decide)).2⟩
theorem St.facts2 {w : World} {b M R : Nat} {z n : Nt} (h : St w b M R z n) :
    w.cell? ⟨M, 9, none⟩ = some (.pointer n.le) ∧ w.cell? ⟨M, 11, none⟩ = some (.pointer n.de) ∧ w.cell? ⟨M, 12, none⟩ = some (.pointer n.ow) ∧ w.cell? ⟨M, 14, none⟩ = some (.int .i64 n.ep) ∧ w.frozen? ⟨M, 9, none⟩ = false ∧ w.frozen? ⟨M, 11, none⟩ = false ∧ w.frozen? ⟨M, 12, none⟩ = false ∧ w.frozen? ⟨M, 14, none⟩ = false :=
  ⟨by simpa using h.m 9 _ rfl, by simpa using h.m 11 _ rfl, by simpa using h.m 12 _ rfl, by simpa using h.m 14 _ rfl, by simpa using (h.tm 9 (by decide)).2, by simpa using (h.tm 11 (by decide)).2, by simpa using (h.tm 12 (by decide)).2, by simpa using (h.tm 14 (by decide)).2⟩
theorem St.boxed {w : World} {b M R : Nat} {z n : Nt} (h : St w b M R z n) :
    w.cell? ⟨b, 6, none⟩ = some (.int .i64 z.st) ∧ w.cell? ⟨b, 7, none⟩ = some (.int .i64 z.att) ∧ w.cell? ⟨b, 8, none⟩ = some (.pointer z.le) ∧ w.cell? ⟨b, 9, none⟩ = some (.pointer z.de) ∧ w.cell? ⟨b, 10, none⟩ = some (.pointer z.ow) ∧ w.cell? ⟨b, 11, none⟩ = some (.int .i64 z.ep) :=
  ⟨by simpa using h.box 6 _ rfl, by simpa using h.box 7 _ rfl, by simpa using h.box 8 _ rfl, by simpa using h.box 9 _ rfl, by simpa using h.box 10 _ rfl, by simpa using h.box 11 _ rfl⟩
theorem St.start (w : World) (z n : Nt) : St (((w.alloc (.cells z.zcells 78)).alloc (.cells Nt.zero.cells 128)).alloc (.cells n.cells 128)) w.heap.size (w.heap.size + 1 + 1) (w.heap.size + 1) z n := by
  have h1 := rangeAt_new w z.zcells 78
  have h2 := there_new (w.alloc (.cells z.zcells 78)) Nt.zero.cells 128
  have h3 := there_new ((w.alloc (.cells z.zcells 78)).alloc (.cells Nt.zero.cells 128)) n.cells 128
  have h4 := rangeAt_new ((w.alloc (.cells z.zcells 78)).alloc (.cells Nt.zero.cells 128)) n.cells 128
  simp only [World.size_alloc] at h2 h3 h4
  exact ⟨World.rangeAt_alloc (World.rangeAt_alloc h1 _) _, h4, h3, World.there_alloc h2 _, by omega, by omega, by simp⟩
theorem PtrI.low {w : World} {B C : Nat} {p : Option Addr} {o : Option Int} (h : PtrI w B p o) (hC : C ≤ B) : PtrI w C p o := by
  rcases h with h | ⟨b, off, s, rfl, ho, h1, h3⟩
  · exact .inl h
  · exact .inr ⟨b, off, s, rfl, ho, by omega, h3⟩
theorem PtrS.low {w : World} {B C : Nat} {p : Option Addr} {o : Option ByteArray} (h : PtrS w B p o) (hC : C ≤ B) : PtrS w C p o := by
  rcases h with h | ⟨b, off, s, rfl, ho, h1, h2, h3⟩
  · exact .inl h
  · exact .inr ⟨b, off, s, rfl, ho, by omega, h2, h3⟩

theorem PtrI.far {w : World} {B : Nat} {p : Option Addr} {o : Option Int} (h : PtrI w B p o) {a : Addr} (ha : a.block < B) (v : Value) : PtrI (w.setCell a v) B p o := by
  rcases h with h | ⟨b, off, s, rfl, ho, h1, h3⟩
  · exact .inl h
  · exact .inr ⟨b, off, s, rfl, ho, h1, by rw [World.cell?_setCell_other w a ⟨b, off, none⟩ v (by intro e; subst e; simp at ha; omega)]; exact h3⟩
theorem PtrS.far {w : World} {B : Nat} {p : Option Addr} {o : Option ByteArray} (h : PtrS w B p o) {a : Addr} (ha : a.block < B) (v : Value) : PtrS (w.setCell a v) B p o := by
  rcases h with h | ⟨b, off, s, rfl, ho, h1, h2, h3⟩
  · exact .inl h
  · exact .inr ⟨b, off, s, rfl, ho, h1, h2, by rw [World.cell?_setCell_other w a ⟨b, off, none⟩ v (by intro e; subst e; simp at ha; omega)]; exact h3⟩

theorem PtrI.fars {w : World} {B : Nat} {p : Option Addr} {o : Option Int} (h : PtrI w B p o) {g : Nat} (hg : g < B) (vs : List Value) (j : Nat) : PtrI (w.setCells g j vs) B p o := by
  induction vs generalizing w j with
  | nil => exact h
  | cons v vs ih => exact ih (h.far (a := ⟨g, j, none⟩) hg v) _
theorem PtrS.fars {w : World} {B : Nat} {p : Option Addr} {o : Option ByteArray} (h : PtrS w B p o) {g : Nat} (hg : g < B) (vs : List Value) (j : Nat) : PtrS (w.setCells g j vs) B p o := by
  induction vs generalizing w j with
  | nil => exact h
  | cons v vs ih => exact ih (h.far (a := ⟨g, j, none⟩) hg v) _

/-- The notification that is made of z, so far. -/
def Nt.full (z : Nt) (src pr : Option Addr) (st att : Int) (le de ow : Option Addr) (ep : Int) : Nt :=
  { id := z.id, cmd := z.cmd, typ := z.typ, src := src, content := z.content, pr := pr, st := st, att := att, le := le, de := de, ow := ow, ep := ep }

/-- From the first call on: what each of the four calls and the stores between them come to, as one chain of worlds. -/
theorem chain1 {w w0 w1 : World} {z : Nt} {src q1 : Option Addr} {b M R : Nat} {o1 : Option Int} (k0 : St w0 b M R z (z.full src none 0 0 none none none 0)) (bW : Below w.heap.size w w0) (hM : w.heap.size ≤ M)
    (hb1 : Below w0.heap.size w0 w1) (p1 : PtrI w1 w0.heap.size q1 o1) :
    St (((w1.setCell ⟨M, 5, none⟩ (.pointer q1)).setCell ⟨M, 6, none⟩ (.int .i64 z.st)).setCell ⟨M, 7, none⟩ (.int .i64 z.att)) b M R z (z.full src q1 z.st z.att none none none 0) ∧
    Below w.heap.size w (((w1.setCell ⟨M, 5, none⟩ (.pointer q1)).setCell ⟨M, 6, none⟩ (.int .i64 z.st)).setCell ⟨M, 7, none⟩ (.int .i64 z.att)) ∧
    PtrI (((w1.setCell ⟨M, 5, none⟩ (.pointer q1)).setCell ⟨M, 6, none⟩ (.int .i64 z.st)).setCell ⟨M, 7, none⟩ (.int .i64 z.att)) (M + 1) q1 o1 := by
  have k1 := k0.grow hb1
  have hlt := k0.lt
  refine ⟨((k1.set (n' := z.full src q1 0 0 none none none 0) 5 (.pointer q1) rfl).set (n' := z.full src q1 z.st 0 none none none 0) 6 (.int .i64 z.st) rfl).set 7 (.int .i64 z.att) rfl, ?_, ?_⟩
  · exact (((bW.trans (hb1.mono bW.size)).setCell (p := ⟨M, 5, none⟩) hM _).setCell (p := ⟨M, 6, none⟩) hM _).setCell (p := ⟨M, 7, none⟩) hM _
  · exact (((p1.low (C := M + 1) (by omega)).far (a := ⟨M, 5, none⟩) (by simp) _).far (a := ⟨M, 6, none⟩) (by simp) _).far (a := ⟨M, 7, none⟩) (by simp) _

theorem chain2 {w w0 w1 : World} {z n n' : Nt} {q : Option Addr} {b M R j : Nat} {o : Option ByteArray} (k0 : St w0 b M R z n) (bW : Below w.heap.size w w0) (hM : w.heap.size ≤ M)
    (hb1 : Below w0.heap.size w0 w1) (p1 : PtrS w1 w0.heap.size q o) (hn : n'.cells.toList = n.cells.toList.set j (.pointer q)) :
    St (w1.setCell ⟨M, j, none⟩ (.pointer q)) b M R z n' ∧ Below w.heap.size w (w1.setCell ⟨M, j, none⟩ (.pointer q)) ∧ PtrS (w1.setCell ⟨M, j, none⟩ (.pointer q)) (M + 1) q o := by
  have k1 := k0.grow hb1
  have hlt := k0.lt
  refine ⟨k1.set j (.pointer q) hn, (bW.trans (hb1.mono bW.size)).setCell (p := ⟨M, j, none⟩) hM _, (p1.low (C := M + 1) (by omega)).far (a := ⟨M, j, none⟩) (by simp) _⟩

set_option maxRecDepth 100000 in
set_option maxHeartbeats 4000000 in
theorem notification_nil (z : Nt) (d : Dv) (B : Nat) (w : World) (hz : NtTo w B z d) :
    Calls Try.prog 50 #[.agg { z with src := none : Nt }.zcells] w fun e w' => ∃ n : Nt, e = .returned (.agg n.cells) ∧ NtTo w' w.heap.size n d ∧ n.id = z.id ∧ n.st = z.st ∧ n.att = z.att ∧ n.ep = z.ep ∧ Below w.heap.size w w' := by
  obtain ⟨a1, a2, a3, a4⟩ := hz
  have k0 : St _ _ _ _ { z with src := none } _ := St.start w { z with src := none } (z.full none none 0 0 none none none 0)
  have bW := (((Below.refl w.heap.size w).alloc (Nat.le_refl _) (.cells { z with src := none : Nt }.zcells 78)).alloc (by simp) (.cells Nt.zero.cells 128)).alloc (by simp; omega) (.cells (z.full none none 0 0 none none none 0).cells 128)
  have k0' : Hid _ := k0
  have bW' : Hid _ := bW
  clear k0 bW
  unfold Nt.zcells
  dsimp only
  go_enter Try.func50, Try.ntmps50
  go_wp2_with fail
  have k0 := k0'.out
  have bW := bW'.out
  clear k0' bW'
  refine (intPtr_any _ d.pr B _ (a1.grow bW)).mono ?_
  rintro e w1 ⟨q1, rfl, p1, hb1⟩
  obtain ⟨k1, b1, P1⟩ := chain1 (z := { z with src := none }) k0 bW (by omega) hb1 p1
  obtain ⟨c5, c6, c7, f5, f6, f7⟩ := (k0.grow hb1).facts1
  obtain ⟨x6, x7, x8, x9, x10, x11⟩ := (k0.grow hb1).boxed
  clear hb1 k0 p1 bW
  go_wp2_with fail
  clear c5 c6 c7 f5 f6 f7 x6 x7 x8 x9 x10 x11
  refine (strPtr_any _ d.le B _ (a2.grow b1)).mono ?_
  rintro e w2 ⟨q2, rfl, p2, hb2⟩
  obtain ⟨k2, b2, P2⟩ := chain2 (n' := z.full none q1 z.st z.att q2 none none 0) (j := 9) k1 b1 (by omega) hb2 p2 rfl
  obtain ⟨c9, c11, c12, c14, f9, f11, f12, f14⟩ := (k1.grow hb2).facts2
  obtain ⟨x6, x7, x8, x9, x10, x11⟩ := (k1.grow hb2).boxed
  have P12 := (P1.grow hb2).far (a := ⟨w.heap.size + 1 + 1, 9, none⟩) (by simp) (.pointer q2)
  clear hb2 k1 p2 b1 P1
  go_wp2_with fail
  clear c9 c11 c12 c14 f9 f11 f12 f14 x6 x7 x8 x9 x10 x11
  refine (strPtr_any _ d.de B _ (a3.grow b2)).mono ?_
  rintro e w3 ⟨q3, rfl, p3, hb3⟩
  obtain ⟨k3, b3, P3⟩ := chain2 (n' := z.full none q1 z.st z.att q2 q3 none 0) (j := 11) k2 b2 (by omega) hb3 p3 rfl
  obtain ⟨c9, c11, c12, c14, f9, f11, f12, f14⟩ := (k2.grow hb3).facts2
  obtain ⟨x6, x7, x8, x9, x10, x11⟩ := (k2.grow hb3).boxed
  have P13 := (P12.grow hb3).far (a := ⟨w.heap.size + 1 + 1, 11, none⟩) (by simp) (.pointer q3)
  have P23 := (P2.grow hb3).far (a := ⟨w.heap.size + 1 + 1, 11, none⟩) (by simp) (.pointer q3)
  clear hb3 k2 p3 b2 P12 P2
  go_wp2_with fail
  clear c9 c11 c12 c14 f9 f11 f12 f14 x6 x7 x8 x9 x10 x11
  refine (strPtr_any _ d.ow B _ (a4.grow b3)).mono ?_
  rintro e w4 ⟨q4, rfl, p4, hb4⟩
  obtain ⟨k4, b4, P4⟩ := chain2 (n' := z.full none q1 z.st z.att q2 q3 q4 0) (j := 12) k3 b3 (by omega) hb4 p4 rfl
  obtain ⟨c9, c11, c12, c14, f9, f11, f12, f14⟩ := (k3.grow hb4).facts2
  obtain ⟨x6, x7, x8, x9, x10, x11⟩ := (k3.grow hb4).boxed
  have P14 := ((P13.grow hb4).far (a := ⟨w.heap.size + 1 + 1, 12, none⟩) (by simp) (.pointer q4)).far (a := ⟨w.heap.size + 1 + 1, 14, none⟩) (by simp) (.int .i64 z.ep)
  have P24 := ((P23.grow hb4).far (a := ⟨w.heap.size + 1 + 1, 12, none⟩) (by simp) (.pointer q4)).far (a := ⟨w.heap.size + 1 + 1, 14, none⟩) (by simp) (.int .i64 z.ep)
  have P34 := ((P3.grow hb4).far (a := ⟨w.heap.size + 1 + 1, 12, none⟩) (by simp) (.pointer q4)).far (a := ⟨w.heap.size + 1 + 1, 14, none⟩) (by simp) (.int .i64 z.ep)
  have P44 := P4.far (a := ⟨w.heap.size + 1 + 1, 14, none⟩) (by simp) (.int .i64 z.ep)
  have k5 := k4.set (n' := z.full none q1 z.st z.att q2 q3 q4 z.ep) 14 (.int .i64 z.ep) rfl
  have b5 := b4.setCell (p := ⟨w.heap.size + 1 + 1, 14, none⟩) (by simp; omega) (.int .i64 z.ep)
  clear hb4 k3 p4 b3 P13 P23 P3 k4 b4 P4
  have hld := load128V_at k5.m
  have hsv := store128V_at (z.full none q1 z.st z.att q2 q3 q4 z.ep) k5.tr
  go_wp2
  refine bodyPost_ret (v := .agg (z.full none q1 z.st z.att q2 q3 q4 z.ep).cells) ?_ rfl ⟨_, rfl, ⟨?_, ?_, ?_, ?_⟩, rfl, rfl, rfl, rfl, below_setCells b5 (by omega) _ _⟩
  · exact results_cell1 (cs := (z.full none q1 z.st z.att q2 q3 q4 z.ep).cells) Try.results50 row128 size128 rfl (World.rangeAt_setCells_same _ _ _ _ k5.tr)
  · exact (P14.fars (by omega) _ _).low (by omega)
  · exact (P24.fars (by omega) _ _).low (by omega)
  · exact (P34.fars (by omega) _ _).low (by omega)
  · exact (P44.fars (by omega) _ _).low (by omega)

set_option maxRecDepth 100000 in
set_option maxHeartbeats 4000000 in
theorem notification_src (z : Nt) (d : Dv) (B : Nat) (w : World) (hz : NtTo w B z d) (sb so : Nat) (s : ByteArray) (hsc : w.cell? ⟨sb, so, none⟩ = some (.string s)) :
    Calls Try.prog 50 #[.agg { z with src := some ⟨sb, so, none⟩ : Nt }.zcells] w fun e w' => ∃ n : Nt, e = .returned (.agg n.cells) ∧ NtTo w' w.heap.size n d ∧ n.id = z.id ∧ n.st = z.st ∧ n.att = z.att ∧ n.ep = z.ep ∧ Below w.heap.size w w' := by
  obtain ⟨a1, a2, a3, a4⟩ := hz
  have k00 := St.start w { z with src := some ⟨sb, so, none⟩ } (z.full (some ⟨w.heap.size + 1 + 1 + 1, 0, none⟩) none 0 0 none none none 0)
  have bW0 := (((Below.refl w.heap.size w).alloc (Nat.le_refl _) (.cells { z with src := some ⟨sb, so, none⟩ : Nt }.zcells 78)).alloc (by simp) (.cells Nt.zero.cells 128)).alloc (by simp; omega) (.cells (z.full (some ⟨w.heap.size + 1 + 1 + 1, 0, none⟩) none 0 0 none none none 0).cells 128)
  have k0 := k00.grow ((Below.refl _ _).alloc (Nat.le_refl _) (.cells #[.string s] 44))
  have bW := bW0.alloc bW0.size (.cells #[.string s] 44)
  have hsc3 : ∀ o1 o2 o3 : Obj, (((w.alloc o1).alloc o2).alloc o3).cell? ⟨sb, so, none⟩ = some (.string s) := fun o1 o2 o3 => by
    rw [((((Below.refl w.heap.size w).alloc (Nat.le_refl _) o1).alloc (by simp) o2).alloc (by simp; omega) o3).cell (p := ⟨sb, so, none⟩) (World.block_lt_of_cell? w _ hsc)]
    exact hsc
  have k0' : Hid _ := k0
  have bW' : Hid _ := bW
  clear k0 bW k00 bW0
  unfold Nt.zcells
  dsimp only
  go_enter Try.func50, Try.ntmps50
  go_wp2_with fail
  have k0 := k0'.out
  have bW := bW'.out
  clear k0' bW'
  refine (intPtr_any _ d.pr B _ (a1.grow bW)).mono ?_
  rintro e w1 ⟨q1, rfl, p1, hb1⟩
  obtain ⟨k1, b1, P1⟩ := chain1 (z := { z with src := some ⟨sb, so, none⟩ }) k0 bW (by omega) hb1 p1
  obtain ⟨c5, c6, c7, f5, f6, f7⟩ := (k0.grow hb1).facts1
  obtain ⟨x6, x7, x8, x9, x10, x11⟩ := (k0.grow hb1).boxed
  clear hb1 k0 p1 bW
  go_wp2_with fail
  clear c5 c6 c7 f5 f6 f7 x6 x7 x8 x9 x10 x11
  refine (strPtr_any _ d.le B _ (a2.grow b1)).mono ?_
  rintro e w2 ⟨q2, rfl, p2, hb2⟩
  obtain ⟨k2, b2, P2⟩ := chain2 (n' := z.full (some ⟨w.heap.size + 1 + 1 + 1, 0, none⟩) q1 z.st z.att q2 none none 0) (j := 9) k1 b1 (by omega) hb2 p2 rfl
  obtain ⟨c9, c11, c12, c14, f9, f11, f12, f14⟩ := (k1.grow hb2).facts2
  obtain ⟨x6, x7, x8, x9, x10, x11⟩ := (k1.grow hb2).boxed
  have P12 := (P1.grow hb2).far (a := ⟨w.heap.size + 1 + 1, 9, none⟩) (by simp) (.pointer q2)
  clear hb2 k1 p2 b1 P1
  go_wp2_with fail
  clear c9 c11 c12 c14 f9 f11 f12 f14 x6 x7 x8 x9 x10 x11
  refine (strPtr_any _ d.de B _ (a3.grow b2)).mono ?_
  rintro e w3 ⟨q3, rfl, p3, hb3⟩
  obtain ⟨k3, b3, P3⟩ := chain2 (n' := z.full (some ⟨w.heap.size + 1 + 1 + 1, 0, none⟩) q1 z.st z.att q2 q3 none 0) (j := 11) k2 b2 (by omega) hb3 p3 rfl
  obtain ⟨c9, c11, c12, c14, f9, f11, f12, f14⟩ := (k2.grow hb3).facts2
  obtain ⟨x6, x7, x8, x9, x10, x11⟩ := (k2.grow hb3).boxed
  have P13 := (P12.grow hb3).far (a := ⟨w.heap.size + 1 + 1, 11, none⟩) (by simp) (.pointer q3)
  have P23 := (P2.grow hb3).far (a := ⟨w.heap.size + 1 + 1, 11, none⟩) (by simp) (.pointer q3)
  clear hb3 k2 p3 b2 P12 P2
  go_wp2_with fail
  clear c9 c11 c12 c14 f9 f11 f12 f14 x6 x7 x8 x9 x10 x11
  refine (strPtr_any _ d.ow B _ (a4.grow b3)).mono ?_
  rintro e w4 ⟨q4, rfl, p4, hb4⟩
  obtain ⟨k4, b4, P4⟩ := chain2 (n' := z.full (some ⟨w.heap.size + 1 + 1 + 1, 0, none⟩) q1 z.st z.att q2 q3 q4 0) (j := 12) k3 b3 (by omega) hb4 p4 rfl
  obtain ⟨c9, c11, c12, c14, f9, f11, f12, f14⟩ := (k3.grow hb4).facts2
  obtain ⟨x6, x7, x8, x9, x10, x11⟩ := (k3.grow hb4).boxed
  have P14 := ((P13.grow hb4).far (a := ⟨w.heap.size + 1 + 1, 12, none⟩) (by simp) (.pointer q4)).far (a := ⟨w.heap.size + 1 + 1, 14, none⟩) (by simp) (.int .i64 z.ep)
  have P24 := ((P23.grow hb4).far (a := ⟨w.heap.size + 1 + 1, 12, none⟩) (by simp) (.pointer q4)).far (a := ⟨w.heap.size + 1 + 1, 14, none⟩) (by simp) (.int .i64 z.ep)
  have P34 := ((P3.grow hb4).far (a := ⟨w.heap.size + 1 + 1, 12, none⟩) (by simp) (.pointer q4)).far (a := ⟨w.heap.size + 1 + 1, 14, none⟩) (by simp) (.int .i64 z.ep)
  have P44 := P4.far (a := ⟨w.heap.size + 1 + 1, 14, none⟩) (by simp) (.int .i64 z.ep)
  have k5 := k4.set (n' := z.full (some ⟨w.heap.size + 1 + 1 + 1, 0, none⟩) q1 z.st z.att q2 q3 q4 z.ep) 14 (.int .i64 z.ep) rfl
  have b5 := b4.setCell (p := ⟨w.heap.size + 1 + 1, 14, none⟩) (by simp; omega) (.int .i64 z.ep)
  clear hb4 k3 p4 b3 P13 P23 P3 k4 b4 P4
  have hld := load128V_at k5.m
  have hsv := store128V_at (z.full (some ⟨w.heap.size + 1 + 1 + 1, 0, none⟩) q1 z.st z.att q2 q3 q4 z.ep) k5.tr
  go_wp2
  refine bodyPost_ret (v := .agg (z.full (some ⟨w.heap.size + 1 + 1 + 1, 0, none⟩) q1 z.st z.att q2 q3 q4 z.ep).cells) ?_ rfl ⟨_, rfl, ⟨?_, ?_, ?_, ?_⟩, rfl, rfl, rfl, rfl, below_setCells b5 (by omega) _ _⟩
  · exact results_cell1 (cs := (z.full (some ⟨w.heap.size + 1 + 1 + 1, 0, none⟩) q1 z.st z.att q2 q3 q4 z.ep).cells) Try.results50 row128 size128 rfl (World.rangeAt_setCells_same _ _ _ _ k5.tr)
  · exact (P14.fars (by omega) _ _).low (by omega)
  · exact (P24.fars (by omega) _ _).low (by omega)
  · exact (P34.fars (by omega) _ _).low (by omega)
  · exact (P44.fars (by omega) _ _).low (by omega)

/-- zzStNotification: a notification whose pointers are new and lead to what the note's lead to. -/
theorem notification_any (z : Nt) (d : Dv) (so : Option ByteArray) (B : Nat) (w : World) (hz : NtTo w B z d) (hs : PtrS w B z.src so) :
    Calls Try.prog 50 #[.agg z.zcells] w fun e w' => ∃ n : Nt, e = .returned (.agg n.cells) ∧ NtTo w' w.heap.size n d ∧ n.id = z.id ∧ n.st = z.st ∧ n.att = z.att ∧ n.ep = z.ep ∧ Below w.heap.size w w' := by
  rcases hs with ⟨hs0, rfl⟩ | ⟨b, off, s, hs0, rfl, _, hsl, hsc⟩
  · have e : z = { z with src := none } := by cases z; simp at hs0; simp [hs0]
    have h := notification_nil z d B w hz
    rw [← e] at h
    exact h
  · have e : z = { z with src := some ⟨b, off, none⟩ } := by cases z; simp at hs0; simp [hs0]
    have h := notification_src z d B w hz b off s hsc
    rw [← e] at h
    exact h
end Go.Proofs.Qxb6614903a
