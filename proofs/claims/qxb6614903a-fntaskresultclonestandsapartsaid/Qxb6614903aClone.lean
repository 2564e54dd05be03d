import Derived.Test.Qxb6614903aNotice
namespace Go.Proofs.Qxb6614903a
open Go.RowKit
attribute [local go_sem ↓] Go.wp_at_zero Go.wp_at_succ

/-- A task result: its cells (the time of making is zero). -/
structure Tr where
  id : ByteArray
  tk : ByteArray
  cm : ByteArray
  st : Int
  sm : ByteArray
  fa : Option Addr
  fl : Nat
  fc : Nat
  pc : Bool
  rs : Bool
  n : Ns
def Tr.cells (t : Tr) : Array Value := #[.string t.id, .string t.tk, .string t.cm, .int .i64 t.st, .string t.sm, .slice t.fa t.fl t.fc, .bool t.pc, .bool t.rs,
  .bool t.n.nf, .int .i64 t.n.na, .pointer t.n.ow, .pointer t.n.ex, .pointer t.n.nt, .pointer t.n.le, .int .u64 0, .int .i64 0, .pointer none]
def Tr.z : Tr := ⟨⟨#[]⟩, ⟨#[]⟩, ⟨#[]⟩, 0, ⟨#[]⟩, none, 0, 0, false, false, Ns.z⟩
structure Rc where
  f : Option (List ByteArray)
  n : Nc
structure TC (w : World) (lo hi : Nat) (t : Tr) (c : Rc) : Prop where
  f : FL w lo hi (.slice t.fa t.fl t.fc) c.f
  n : NT w lo hi t.n c.n
/-- The same plain fields. -/
def Tr.same (a b : Tr) : Prop := a.id = b.id ∧ a.tk = b.tk ∧ a.cm = b.cm ∧ a.st = b.st ∧ a.sm = b.sm ∧ a.pc = b.pc ∧ a.rs = b.rs ∧ a.n.nf = b.n.nf ∧ a.n.na = b.n.na

theorem FL.slice {w : World} {lo hi : Nat} {v : Value} {o : Option (List ByteArray)} (h : FL w lo hi v o) : ∃ a l c, v = .slice a l c := by
  rcases h with ⟨rfl, _⟩ | ⟨g, cap, fs, rfl, _⟩
  · exact ⟨_, _, _, rfl⟩
  · exact ⟨_, _, _, rfl⟩
theorem FL.set {w : World} {lo hi : Nat} {v : Value} {o : Option (List ByteArray)} (h : FL w lo hi v o) {b j : Nat} (ha : b < lo) (u : Value) : FL (w.setCell ⟨b, j, none⟩ u) lo hi v o := by
  rcases h with h | ⟨g, cap, fs, e1, e2, a1, a2, a3, a4, a5⟩
  · exact .inl h
  · exact .inr ⟨g, cap, fs, e1, e2, a1, a2, a3, World.rangeAt_setCells_apart a4 b j [u] (.inl (by omega)), World.there_setCells a5 b j [u]⟩
theorem FL.sets {w : World} {lo hi : Nat} {v : Value} {o : Option (List ByteArray)} (h : FL w lo hi v o) {g : Nat} (hg : g < lo) (vs : List Value) (j : Nat) : FL (w.setCells g j vs) lo hi v o := by
  induction vs generalizing w j with
  | nil => exact h
  | cons u vs ih => exact ih (h.set (b := g) (j := j) hg u) _
theorem NT.set {w : World} {lo hi : Nat} {n : Ns} {c : Nc} (h : NT w lo hi n c) {g j : Nat} (hg : g < lo) (v : Value) : NT (w.setCell ⟨g, j, none⟩ v) lo hi n c := h.sets hg [v] j

/-- The task result in its box B, and the result's variable R. -/
structure TB (w0 w : World) (B : Nat) (t : Tr) : Prop where
  bel : Below B w0 w
  m : w.rangeAt B 0 t.cells.toList
  tm : w.there B 0 17
  tr : w.there (B + 1) 0 17
  lt : B + 1 < w.heap.size
theorem TB.grow {w0 w w' : World} {B : Nat} {t : Tr} (h : TB w0 w B t) (hb : Below w.heap.size w w') : TB w0 w' B t :=
  ⟨h.bel.trans (hb.mono (by have := h.lt; omega)), rangeAt_below hb (by have := h.lt; omega) h.m, there_below hb (by have := h.lt; omega) h.tm, there_below hb h.lt h.tr, Nat.lt_of_lt_of_le h.lt hb.size⟩
theorem TB.drew {w0 w : World} {B : Nat} {t : Tr} (h : TB w0 w B t) : TB w0 w.drew B t := h.grow ((Below.refl _ _).drew)
theorem TB.start (w : World) (t : Tr) : TB w ((w.alloc (.cells t.cells 99)).alloc (.cells Tr.z.cells 99)) w.heap.size t := by
  have b0 := (Below.refl (w.heap.size + 1) (w.alloc (.cells t.cells 99))).alloc (by simp) (.cells Tr.z.cells 99)
  refine ⟨((Below.refl w.heap.size w).alloc (Nat.le_refl _) _).alloc (by simp) _, rangeAt_below b0 (by omega) (rangeAt_new w t.cells 99), there_below b0 (by omega) (there_new w t.cells 99), ?_, by simp⟩
  have := there_new (w.alloc (.cells t.cells 99)) Tr.z.cells 99
  exact (by simpa using this : World.there _ (w.heap.size + 1) 0 Tr.z.cells.size)
theorem Tr.notice (t : Tr) (w : World) (B : Nat) (h : w.rangeAt B 0 t.cells.toList) : w.rangeAt B 8 t.n.cells.toList := by
  intro j v hv
  match j, hv with
  | 0, hv => exact (by simpa using h 8 v hv)
  | 1, hv => exact (by simpa using h 9 v hv)
  | 2, hv => exact (by simpa using h 10 v hv)
  | 3, hv => exact (by simpa using h 11 v hv)
  | 4, hv => exact (by simpa using h 12 v hv)
  | 5, hv => exact (by simpa using h 13 v hv)
  | j + 6, hv => simp [Ns.cells] at hv
theorem there_part {w : World} {B n j k : Nat} (h : w.there B 0 n) (hjk : j + k ≤ n) : w.there B j k := fun i hi => by simpa using h (j + i) (by omega)
/-- What the walk reads. -/
theorem TB.facts {w0 w : World} {B : Nat} {t : Tr} (h : TB w0 w B t) :
    w.cell? ⟨B, 5, none⟩ = some (.slice t.fa t.fl t.fc) ∧ w.frozen? ⟨B, 5, none⟩ = false ∧ (loadS 97 (.pointer (some ⟨B, 8, none⟩))).run Try.prog w = .ok (.agg t.n.cells) w :=
  ⟨by simpa using h.m 5 _ rfl, by simpa using (h.tm 5 (by decide)).2, load97V_at (t.notice w B h.m)⟩
attribute [local go_sem ↓] load97S store97S

theorem TB.set {w0 w : World} {B : Nat} {t t' : Tr} (h : TB w0 w B t) (j : Nat) (v : Value) (e : t'.cells.toList = t.cells.toList.set j v) : TB w0 (w.setCell ⟨B, j, none⟩ v) B t' := by
  have hr := rangeAt_set h.m j v
  rw [← e, Nat.zero_add] at hr
  exact ⟨h.bel.setCell (p := ⟨B, j, none⟩) (Nat.le_refl _) v, hr, there_setCell h.tm _ _, there_setCell h.tr _ _, by simpa [World.setCell] using h.lt⟩
theorem TB.setN {w0 w : World} {B : Nat} {t : Tr} (h : TB w0 w B t) (m : Ns) : TB w0 (w.setCells B 8 m.cells.toList) B { t with n := m } :=
  (((((h.set (t' := { t with n := { t.n with nf := m.nf } }) 8 _ rfl).set (t' := { t with n := { t.n with nf := m.nf, na := m.na } }) 9 _ rfl).set (t' := { t with n := { t.n with nf := m.nf, na := m.na, ow := m.ow } }) 10 _ rfl).set
    (t' := { t with n := { t.n with nf := m.nf, na := m.na, ow := m.ow, ex := m.ex } }) 11 _ rfl).set (t' := { t with n := { t.n with nf := m.nf, na := m.na, ow := m.ow, ex := m.ex, nt := m.nt } }) 12 _ rfl).set (t' := { t with n := m }) 13 _ rfl
theorem TC.up {w w' : World} {lo hi B lo' hi' : Nat} {t : Tr} {c : Rc} (h : TC w lo hi t c) (hb : Below B w w') (hB : hi ≤ B) (h1 : lo' ≤ lo) (h2 : hi ≤ hi') : TC w' lo' hi' t c :=
  ⟨h.f.up hb hB h1 h2, h.n.up hb hB h1 h2⟩
theorem TC.sets {w : World} {lo hi : Nat} {t : Tr} {c : Rc} (h : TC w lo hi t c) {g : Nat} (hg : g < lo) (vs : List Value) (j : Nat) : TC (w.setCells g j vs) lo hi t c :=
  ⟨h.f.sets hg vs j, h.n.sets hg vs j⟩

/-- Behind the assignment. -/
def HalfT (w wx : World) (t : Tr) (c : Rc) : Prop := ∃ m : Tr, m.same t ∧ TB w wx w.heap.size m ∧ TC wx (w.heap.size + 2) wx.heap.size m c
theorem halfT_of {w a w1 w2 : World} {t : Tr} {c : Rc} {fa : Option Addr} {fl fc : Nat} {m : Ns} (k0 : TB w a w.heap.size t) (hb1 : Below a.heap.size a w1) (p1 : FL w1 a.heap.size w1.heap.size (.slice fa fl fc) c.f)
    (e1 : m.nf = t.n.nf) (e2 : m.na = t.n.na) (hb2 : Below w1.heap.size w1 w2) (p2 : NT w2 w1.heap.size w2.heap.size m c.n) :
    HalfT w ((w2.setCell ⟨w.heap.size, 5, none⟩ (.slice fa fl fc)).setCells w.heap.size 8 m.cells.toList) t c := by
  have l0 := k0.lt
  have l1 := hb1.size
  have l2 := hb2.size
  refine ⟨{ t with fa := fa, fl := fl, fc := fc, n := m }, ⟨rfl, rfl, rfl, rfl, rfl, rfl, rfl, e1, e2⟩, (((k0.grow hb1).grow hb2).set (t' := { t with fa := fa, fl := fl, fc := fc }) 5 _ rfl).setN m, ?_, ?_⟩
  · have := ((p1.up hb2 (Nat.le_refl _) (Nat.le_refl _) hb2.size).set (b := w.heap.size) (j := 5) (by omega) (.slice fa fl fc)).sets (g := w.heap.size) (by omega) m.cells.toList 8
    exact this.up (Below.refl _ _) (Nat.le_refl _) (by omega) (by rw [size_setCells]; simp [World.setCell])
  · have := (p2.set (g := w.heap.size) (j := 5) (by omega) (.slice fa fl fc)).sets (g := w.heap.size) (by omega) m.cells.toList 8
    exact this.up (Below.refl _ _) (Nat.le_refl _) (by omega) (by rw [size_setCells]; simp [World.setCell])

theorem size99 : (Try.prog.info? 99).map (·.size) = some 17 := by kernel_rfl
theorem row99 : ((Try.prog.underlying 99).map TypeDesc.isRow) = some true := by kernel_rfl
theorem load99S (v : Value) : Instr.loadAt 99 v = loadS 99 v := rfl
theorem store99S (p v : Value) : Instr.storeAt 99 p v = storeS 99 p v := rfl
theorem load99V_at {w : World} {g o : Nat} {t : Tr} (h : w.rangeAt g o t.cells.toList) : (loadS 99 (.pointer (some ⟨g, o, none⟩))).run Try.prog w = .ok (.agg t.cells) w := by
  obtain ⟨d, hu, hd⟩ := isRow_of row99
  exact run_loadAt_mid (P := Try.prog) w g o 99 t.cells.toList d h hu hd size99
theorem trcells_one (t : Tr) : t.cells.all (·.oneCell') = true := all_oneCell_toArray (cs := t.cells.toList) (by unfold Tr.cells; simp [Value.oneCell'])
theorem store99V_at {w : World} {g o : Nat} (t : Tr) (h : w.there g o 17) : (storeS 99 (.pointer (some ⟨g, o, none⟩)) (.agg t.cells)).run Try.prog w = .ok () (w.setCells g o t.cells.toList) :=
  run_storeAt_mid (P := Try.prog) w g o 99 t.cells h size99 (trcells_one t)
attribute [local go_sem ↓] load99S store99S

set_option maxRecDepth 100000 in
set_option maxHeartbeats 1000000 in
theorem resultClone (t : Tr) (c : Rc) (lo hi : Nat) (w : World) (hh : hi ≤ w.heap.size) (h : TC w lo hi t c) :
    Calls Try.prog 57 #[.agg t.cells] w fun e w' => ∃ m : Tr, e = .returned (.agg m.cells) ∧ m.same t ∧ TC w' w.heap.size w'.heap.size m c ∧ Below w.heap.size w w' := by
  have k0 := (TB.start w t).drew
  have k0' : Hid _ := k0
  clear k0
  unfold Tr.cells
  go_enter Try.func57, Try.ntmps57
  go_upto_region 1 with fail
  have k0 := k0'.out
  clear k0'
  simp only [Tr.cells, Tr.z, Ns.z] at k0
  obtain ⟨c5, f5, l97⟩ := k0.facts
  go_cut [8] from 3 to 10 (fun _ wx => HalfT w wx t c)
  case first => as_aux_lemma =>
    go_region_with (first
        | (go_at_call 68; refine (cloneF _ c.f lo hi _ (h.f.up k0.bel hh (Nat.le_refl _) (Nat.le_refl _))).mono ?_; rintro e w1 ⟨u, rfl, p1, hb1⟩; obtain ⟨fa, fl, fc, rfl⟩ := p1.slice; have k1 := k0.grow hb1; clear c5 f5 l97; obtain ⟨c5, f5, l97⟩ := k1.facts)
        | (go_at_call 69; refine (noticeClone t.n c.n lo hi _ (Nat.le_trans hh k1.bel.size) (h.n.up k1.bel hh (Nat.le_refl _) (Nat.le_refl _))).mono ?_; rintro e w2 ⟨m, rfl, e1, e2, p2, hb2⟩; have k2 := k1.grow hb2; clear c5 f5 l97; obtain ⟨c5, f5, l97⟩ := k2.facts; have s97 := store97V_at m (there_setCell (there_part (j := 8) (k := 6) k2.tm (by decide)) ⟨w.heap.size, 5, none⟩ (.slice fa fl fc))))
    all_goals (go_wp2_with fail; go_meet; exact halfT_of k0 hb1 p1 e1 e2 hb2 p2)
  case rest =>
  obtain ⟨m, hs, k4, hN⟩ := hcut
  clear k0 c5 f5 l97
  have hld := load99V_at k4.m
  have hsv := store99V_at m k4.tr
  go_wp2
  refine bodyPost_ret (v := .agg m.cells) (results_cell1 (cs := m.cells) Try.results57 row99 size99 rfl (World.rangeAt_setCells_same _ _ _ _ k4.tr)) rfl ⟨m, rfl, hs, ?_, below_setCells k4.bel (by omega) _ _⟩
  exact (hN.sets (by omega) _ _).up (Below.refl _ _) (Nat.le_refl _) (by omega) (by rw [size_setCells]; exact Nat.le_refl _)

theorem zcells99 : Tr.z.cells = #[.string ⟨#[]⟩, .string ⟨#[]⟩, .string ⟨#[]⟩, .int .i64 0, .string ⟨#[]⟩, .slice none 0 0, .bool false, .bool false, .bool false, .int .i64 0, .pointer none, .pointer none, .pointer none, .pointer none, .int .u64 0, .int .i64 0, .pointer none] := rfl
set_option maxRecDepth 100000 in
set_option maxHeartbeats 1000000 in
/-- The clone of a task result: the same plain fields; what it leads to is new, and reads the same. -/
theorem clone_any (t : Tr) (c : Rc) (lo hi : Nat) (w : World) (hh : hi ≤ w.heap.size) (h : TC w lo hi t c) :
    Calls Try.prog 38 #[.agg t.cells] w fun e w' => ∃ m : Tr, e = .returned (.agg m.cells) ∧ m.same t ∧ TC w' w.heap.size w'.heap.size m c ∧ Below w.heap.size w w' := by
  have k0 := TB.start w t
  have hx := resultClone t c lo hi _ (Nat.le_trans hh k0.bel.size) (h.up k0.bel hh (Nat.le_refl _) (Nat.le_refl _))
  have hld := load99V_at k0.m
  rw [zcells99] at hld hx
  have k0' : Hid _ := k0
  clear k0
  go_enter Try.func38, Try.ntmps38
  go_wp2_with fail
  refine hx.mono ?_
  have k0 := k0'.out
  clear k0' hx hld
  rintro e w1 ⟨m, rfl, hs, p1, hb1⟩
  have k1 := k0.grow hb1
  have l0 := k0.lt
  have hsv := store99V_at m k1.tr
  clear k0 hb1
  go_wp2
  refine bodyPost_ret (v := .agg m.cells) (results_cell1 (cs := m.cells) Try.results38 row99 size99 rfl (World.rangeAt_setCells_same _ _ _ _ k1.tr)) rfl ⟨m, rfl, hs, ?_, below_setCells k1.bel (by omega) _ _⟩
  exact (p1.sets (by exact l0) _ _).up (Below.refl _ _) (Nat.le_refl _) (by simp; omega) (by rw [size_setCells]; exact Nat.le_refl _)
end Go.Proofs.Qxb6614903a
