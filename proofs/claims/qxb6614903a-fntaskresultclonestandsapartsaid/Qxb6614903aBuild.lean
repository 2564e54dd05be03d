import Derived.Test.Qxb6614903aMark
namespace Go.Proofs.Qxb6614903a
open Go.RowKit
attribute [local go_sem ↓] Go.wp_at_zero Go.wp_at_succ

/-- The law's argument: its cells. -/
structure Zr where
  id : ByteArray
  tk : ByteArray
  cm : ByteArray
  st : Int
  sm : ByteArray
  fa : Option Addr
  fl : Nat
  fc : Nat
  pc : Bool
  rs : Bool
  nf : Bool
  na : Int
  ow : Option Addr
  le : Option Addr
  hx : Bool
  hn : Bool
def Zr.cells (z : Zr) : Array Value := #[.string z.id, .string z.tk, .string z.cm, .int .i64 z.st, .string z.sm, .slice z.fa z.fl z.fc, .bool z.pc, .bool z.rs, .bool z.nf, .int .i64 z.na, .pointer z.ow, .pointer z.le, .bool z.hx, .bool z.hn]
/-- The names behind the argument's slice. -/
def SL (w : World) (fa : Option Addr) (fl fc : Nat) (o : Option (List ByteArray)) : Prop :=
  (fa = none ∧ fl = 0 ∧ fc = 0 ∧ o = none) ∨ ∃ a fs, fa = some a ∧ fl = fs.length ∧ o = some fs ∧ ∀ i (hi : i < fs.length), ∃ g off, a = ⟨g, off, none⟩ ∧ g < w.heap.size ∧ w.cell? ⟨g, off + i, none⟩ = some (.string fs[i])
theorem SL.grow {w w' : World} {fa : Option Addr} {fl fc : Nat} {o : Option (List ByteArray)} (h : SL w fa fl fc o) {B : Nat} (hb : Below B w w') (hB : w.heap.size ≤ B) : SL w' fa fl fc o := by
  rcases h with h | ⟨a, fs, e1, e2, e3, a0⟩
  · exact .inl h
  · refine .inr ⟨a, fs, e1, e2, e3, fun i hi => ?_⟩
    obtain ⟨g, off, e4, a1, a2⟩ := a0 i hi
    exact ⟨g, off, e4, Nat.lt_of_lt_of_le a1 hb.size, by rw [hb.cell (p := ⟨g, off + i, none⟩) (by simp; omega)]; exact a2⟩
/-- What the argument leads to. -/
structure ZC (w : World) (z : Zr) (f : Option (List ByteArray)) (ow le : Option ByteArray) : Prop where
  f : SL w z.fa z.fl z.fc f
  ow : PtrS w 0 z.ow ow
  le : PtrS w 0 z.le le
theorem ZC.grow {w w' : World} {z : Zr} {f : Option (List ByteArray)} {ow le : Option ByteArray} (h : ZC w z f ow le) {B : Nat} (hb : Below B w w') (hB : w.heap.size ≤ B) : ZC w' z f ow le :=
  ⟨h.f.grow hb hB, h.ow.grow (hb.mono hB), h.le.grow (hb.mono hB)⟩

theorem strPtrS (p : Option Addr) (o : Option ByteArray) (B : Nat) (w : World) (h : PtrS w B p o) :
    Calls Try.prog 56 #[.pointer p] w fun e w' => ∃ q, e = .returned (.pointer q) ∧ PS w' w.heap.size w'.heap.size q o ∧ Below w.heap.size w w' := by
  rcases h with ⟨rfl, rfl⟩ | ⟨b, off, s, rfl, rfl, _, hs, hc⟩
  · go_enter Try.func56, Try.ntmps56
    go_wp2
    go_ret
    exact ⟨none, rfl, .inl ⟨rfl, rfl⟩, Below.refl _ _⟩
  · go_enter Try.func56, Try.ntmps56
    go_wp2
    go_ret
    exact ⟨_, rfl, .inr ⟨_, s, rfl, rfl, Nat.le_refl _, by simp, hs, by simp, by simp⟩, (Below.refl _ _).alloc (Nat.le_refl _) _⟩

/-- The argument in its box B, the result's variable B + 1, the task result B + 2. -/
structure BT (w0 w : World) (B : Nat) (z : Zr) (t : Tr) : Prop where
  bel : Below B w0 w
  box : w.rangeAt B 0 z.cells.toList
  m : w.rangeAt (B + 2) 0 t.cells.toList
  tm : w.there (B + 2) 0 17
  tr : w.there (B + 1) 0 17
  lt : B + 2 < w.heap.size
theorem BT.grow {w0 w w' : World} {B : Nat} {z : Zr} {t : Tr} (h : BT w0 w B z t) (hb : Below w.heap.size w w') : BT w0 w' B z t :=
  ⟨h.bel.trans (hb.mono (by have := h.lt; omega)), rangeAt_below hb (by have := h.lt; omega) h.box, rangeAt_below hb h.lt h.m, there_below hb h.lt h.tm, there_below hb (by have := h.lt; omega) h.tr, Nat.lt_of_lt_of_le h.lt hb.size⟩
theorem BT.set {w0 w : World} {B : Nat} {z : Zr} {t t' : Tr} (h : BT w0 w B z t) (j : Nat) (v : Value) (e : t'.cells.toList = t.cells.toList.set j v) : BT w0 (w.setCell ⟨B + 2, j, none⟩ v) B z t' := by
  have hr := rangeAt_set h.m j v
  rw [← e, Nat.zero_add] at hr
  exact ⟨h.bel.setCell (p := ⟨B + 2, j, none⟩) (by simp) v, World.rangeAt_setCells_apart h.box (B + 2) j [v] (.inl (by omega)), hr, there_setCell h.tm _ _, there_setCell h.tr _ _, by simpa [World.setCell] using h.lt⟩
theorem BT.start (w : World) (z : Zr) (t : Tr) : BT w (((w.alloc (.cells z.cells 94)).alloc (.cells Tr.z.cells 99)).alloc (.cells t.cells 99)) w.heap.size z t := by
  have b1 := (Below.refl (w.heap.size + 1) (w.alloc (.cells z.cells 94))).alloc (by simp) (.cells Tr.z.cells 99)
  have b2 := b1.alloc (by simp) (.cells t.cells 99)
  have b3 := (Below.refl (w.heap.size + 2) ((w.alloc (.cells z.cells 94)).alloc (.cells Tr.z.cells 99))).alloc (by simp) (.cells t.cells 99)
  refine ⟨(((Below.refl w.heap.size w).alloc (Nat.le_refl _) _).alloc (by simp) _).alloc (by simp; omega) _, rangeAt_below b2 (by omega) (rangeAt_new w z.cells 94), ?_, ?_, ?_, by simp⟩
  · have := rangeAt_new ((w.alloc (.cells z.cells 94)).alloc (.cells Tr.z.cells 99)) t.cells 99
    simpa using this
  · have := there_new ((w.alloc (.cells z.cells 94)).alloc (.cells Tr.z.cells 99)) t.cells 99
    exact (by simpa using this : World.there _ (w.heap.size + 2) 0 t.cells.size)
  · have := there_new (w.alloc (.cells z.cells 94)) Tr.z.cells 99
    exact there_below b3 (by omega) (by simpa using this : World.there _ (w.heap.size + 1) 0 Tr.z.cells.size)
/-- What the walk reads behind the files. -/
theorem BT.facts {w0 w : World} {B : Nat} {z : Zr} {t : Tr} (h : BT w0 w B z t) :
    (w.cell? ⟨B, 5, none⟩ = some (.slice z.fa z.fl z.fc) ∧ w.cell? ⟨B, 6, none⟩ = some (.bool z.pc) ∧ w.cell? ⟨B, 7, none⟩ = some (.bool z.rs) ∧ w.cell? ⟨B, 8, none⟩ = some (.bool z.nf) ∧ w.cell? ⟨B, 9, none⟩ = some (.int .i64 z.na) ∧
     w.cell? ⟨B, 10, none⟩ = some (.pointer z.ow) ∧ w.cell? ⟨B, 11, none⟩ = some (.pointer z.le) ∧ w.cell? ⟨B, 12, none⟩ = some (.bool z.hx) ∧ w.cell? ⟨B, 13, none⟩ = some (.bool z.hn)) :=
  ⟨by simpa using h.box 5 _ rfl, by simpa using h.box 6 _ rfl, by simpa using h.box 7 _ rfl, by simpa using h.box 8 _ rfl, by simpa using h.box 9 _ rfl, by simpa using h.box 10 _ rfl, by simpa using h.box 11 _ rfl, by simpa using h.box 12 _ rfl, by simpa using h.box 13 _ rfl⟩
theorem BT.cell {w0 w : World} {B : Nat} {z : Zr} {t : Tr} (h : BT w0 w B z t) (j : Nat) (hj : j < 17) : (∃ v, w.cell? ⟨B + 2, j, none⟩ = some v) ∧ w.frozen? ⟨B + 2, j, none⟩ = false := by
  have := h.tm j hj
  rw [Nat.zero_add] at this
  exact ⟨Option.isSome_iff_exists.1 this.1, this.2⟩
/-- The fields ahead of the files, then the files. -/
def Zr.half (z : Zr) (fa : Option Addr) (fl fc : Nat) : Tr := ⟨z.id, z.tk, z.cm, z.st, z.sm, fa, fl, fc, false, false, Ns.z⟩
/-- Behind the files. -/
def Filed (w wc : World) (z : Zr) (f : Option (List ByteArray)) : Prop :=
  ∃ fa fl fc, BT w wc w.heap.size z (z.half fa fl fc) ∧ FL wc (w.heap.size + 3) wc.heap.size (.slice fa fl fc) f

/-- The loop that copies the names: k of them lie in the new row. -/
structure CR (w wr : World) (z : Zr) (fs : List ByteArray) (k : Nat) : Prop where
  bt : BT w wr w.heap.size z (z.half none 0 0)
  row : wr.rangeAt (w.heap.size + 3) 0 (strs (fs.take k))
  th : wr.there (w.heap.size + 3) 0 fs.length
  lt : w.heap.size + 3 < wr.heap.size
theorem rangeAt_snoc {w : World} {g : Nat} {cs : List Value} {v : Value} (h : w.rangeAt g 0 cs) (hv : w.cell? ⟨g, cs.length, none⟩ = some v) : w.rangeAt g 0 (cs ++ [v]) := by
  intro j u hu
  by_cases hj : j < cs.length
  · rw [List.getElem?_append_left hj] at hu
    exact h j u hu
  · rw [List.getElem?_append_right (by omega)] at hu
    by_cases h0 : j - cs.length = 0
    · rw [h0] at hu
      simp at hu
      subst hu
      rw [Nat.zero_add, show j = cs.length by omega]; exact hv
    · obtain ⟨m, hm⟩ : ∃ m, j - cs.length = m + 1 := ⟨j - cs.length - 1, by omega⟩
      rw [hm] at hu; simp at hu
theorem CR.step {w wr : World} {z : Zr} {fs : List ByteArray} {k : Nat} (h : CR w wr z fs k) (hk : k < fs.length) : CR w (wr.setCell ⟨w.heap.size + 3, k, none⟩ (.string fs[k])) z fs (k + 1) := by
  have hb : BT w (wr.setCell ⟨w.heap.size + 3, k, none⟩ (.string fs[k])) w.heap.size z (z.half none 0 0) :=
    ⟨h.bt.bel.setCell (p := ⟨w.heap.size + 3, k, none⟩) (by simp) _, World.rangeAt_setCells_apart h.bt.box (w.heap.size + 3) k [_] (.inl (by omega)), World.rangeAt_setCells_apart h.bt.m (w.heap.size + 3) k [_] (.inl (by omega)), there_setCell h.bt.tm _ _, there_setCell h.bt.tr _ _, by simpa [World.setCell] using h.bt.lt⟩
  refine ⟨hb, ?_, there_setCell h.th _ _, by simpa [World.setCell] using h.lt⟩
  have hlen : (strs (fs.take k)).length = k := by rw [strs_length, List.length_take]; omega
  have e : strs (fs.take (k + 1)) = strs (fs.take k) ++ [.string fs[k]] := by
    unfold strs
    rw [List.take_succ_eq_append_getElem hk, List.map_append]; rfl
  rw [e]
  refine rangeAt_snoc ?_ ?_
  · exact fun j u hu => by
      have hj : j < k := by have := (List.getElem?_eq_some_iff.1 hu).1; omega
      rw [World.cell?_setCell_other wr ⟨w.heap.size + 3, k, none⟩ ⟨w.heap.size + 3, 0 + j, none⟩ _ (by simp; try omega)]
      exact h.row j u hu
  · rw [hlen]
    have := (h.th k hk).1
    rw [Nat.zero_add] at this
    obtain ⟨v, hv⟩ := Option.isSome_iff_exists.1 this
    exact World.cell?_setCell_same _ _ _ hv
theorem CR.slot {w wr : World} {z : Zr} {fs : List ByteArray} {k : Nat} (h : CR w wr z fs k) (hk : k < fs.length) : (∃ v, wr.cell? ⟨w.heap.size + 3, k, none⟩ = some v) ∧ wr.frozen? ⟨w.heap.size + 3, k, none⟩ = false := by
  have := h.th k hk
  rw [Nat.zero_add] at this
  exact ⟨Option.isSome_iff_exists.1 this.1, this.2⟩

/-- The frozen bits and the old values in the task result, behind the files. -/
theorem BT.old {w0 w : World} {B : Nat} {z z' : Zr} {fa : Option Addr} {fl fc : Nat} (h : BT w0 w B z (z'.half fa fl fc)) :
    (w.cell? ⟨B + 2, 6, none⟩ = some (.bool false) ∧ w.cell? ⟨B + 2, 7, none⟩ = some (.bool false) ∧ w.cell? ⟨B + 2, 8, none⟩ = some (.bool false) ∧ w.cell? ⟨B + 2, 9, none⟩ = some (.int .i64 0)) ∧
    (w.frozen? ⟨B + 2, 6, none⟩ = false ∧ w.frozen? ⟨B + 2, 7, none⟩ = false ∧ w.frozen? ⟨B + 2, 8, none⟩ = false ∧ w.frozen? ⟨B + 2, 9, none⟩ = false) :=
  ⟨⟨(by have := h.m 6 (.bool false) rfl; simpa using this), (by have := h.m 7 (.bool false) rfl; simpa using this), (by have := h.m 8 (.bool false) rfl; simpa using this), (by have := h.m 9 (.int .i64 0) rfl; simpa using this)⟩, (h.cell 6 (by decide)).2, (h.cell 7 (by decide)).2, (h.cell 8 (by decide)).2, (h.cell 9 (by decide)).2⟩

/-- The task result, and what it leads to, while it is being built. -/
structure BS (w wc : World) (z : Zr) (t : Tr) (c : Rc) : Prop where
  b : BT w wc w.heap.size z t
  c : TC wc (w.heap.size + 3) wc.heap.size t c
theorem TC.set {w : World} {lo hi : Nat} {t : Tr} {c : Rc} (h : TC w lo hi t c) {g j : Nat} (hg : g < lo) (v : Value) : TC (w.setCell ⟨g, j, none⟩ v) lo hi t c := h.sets hg [v] j
theorem PS.nil (w : World) (lo hi : Nat) : PS w lo hi none none := .inl ⟨rfl, rfl⟩
theorem PT.nil (w : World) (lo hi : Nat) : PT w lo hi none none := .inl ⟨rfl, rfl⟩
/-- A plain field, or a pointer whose cell lies there already. -/
theorem BS.plain {w wc : World} {z : Zr} {t t' : Tr} {c c' : Rc} (h : BS w wc z t c) (j : Nat) (v : Value) (e : t'.cells.toList = t.cells.toList.set j v) (hc : TC wc (w.heap.size + 3) wc.heap.size t' c') : BS w (wc.setCell ⟨w.heap.size + 2, j, none⟩ v) z t' c' :=
  ⟨h.b.set j v e, (hc.set (by omega) v).up (Below.refl _ _) (Nat.le_refl _) (Nat.le_refl _) (by simp [World.setCell])⟩
/-- A plain field. -/
theorem BS.plain2 {w wc : World} {z : Zr} {t t' : Tr} {c : Rc} (h : BS w wc z t c) (j : Nat) (v : Value) (e : t'.cells.toList = t.cells.toList.set j v) (hf : (t'.fa, t'.fl, t'.fc) = (t.fa, t.fl, t.fc)) (hn : (t'.n.ow, t'.n.ex, t'.n.nt, t'.n.le) = (t.n.ow, t.n.ex, t.n.nt, t.n.le)) : BS w (wc.setCell ⟨w.heap.size + 2, j, none⟩ v) z t' c := by
  simp only [Prod.mk.injEq] at hf hn
  obtain ⟨f1, f2, f3⟩ := hf
  obtain ⟨n1, n2, n3, n4⟩ := hn
  exact h.plain j v e ⟨by rw [f1, f2, f3]; exact h.c.f, by rw [n1]; exact h.c.n.ow, by rw [n2]; exact h.c.n.ex, by rw [n3]; exact h.c.n.nt, by rw [n4]; exact h.c.n.le⟩
theorem BS.grow {w wc w' : World} {z : Zr} {t : Tr} {c : Rc} (h : BS w wc z t c) (hb : Below wc.heap.size wc w') : BS w w' z t c :=
  ⟨h.b.grow hb, h.c.up hb (Nat.le_refl _) (Nat.le_refl _) hb.size⟩
theorem PT.fresh (w : World) (lo : Nat) (hlo : lo ≤ w.heap.size) : PT (w.alloc (.cells (tcells (0, 0)) 62)) lo (w.alloc (.cells (tcells (0, 0)) 62)).heap.size (some ⟨w.heap.size, 0, none⟩) (some (0, 0)) :=
  .inr ⟨w.heap.size, (0, 0), rfl, rfl, hlo, by simp, rangeAt_new w (tcells (0, 0)) 62, there_new w (tcells (0, 0)) 62⟩
theorem BS.setEx {w wc : World} {z : Zr} {t : Tr} {c : Rc} (h : BS w wc z t c) (n : Nat) (hn : wc.heap.size = n) :
    BS w ((wc.alloc (.cells (tcells (0, 0)) 62)).setCell ⟨w.heap.size + 2, 11, none⟩ (.pointer (some ⟨n, 0, none⟩))) z { t with n := { t.n with ex := some ⟨n, 0, none⟩ } } { c with n := { c.n with ex := some (0, 0) } } := by
  subst hn
  have g := h.grow ((Below.refl _ _).alloc (Nat.le_refl _) (.cells (tcells (0, 0)) 62))
  exact g.plain 11 _ rfl ⟨g.c.f, g.c.n.ow, PT.fresh wc _ (by have := h.b.lt; omega), g.c.n.nt, g.c.n.le⟩
theorem BS.setNt {w wc : World} {z : Zr} {t : Tr} {c : Rc} (h : BS w wc z t c) (n : Nat) (hn : wc.heap.size = n) :
    BS w ((wc.alloc (.cells (tcells (0, 0)) 62)).setCell ⟨w.heap.size + 2, 12, none⟩ (.pointer (some ⟨n, 0, none⟩))) z { t with n := { t.n with nt := some ⟨n, 0, none⟩ } } { c with n := { c.n with nt := some (0, 0) } } := by
  subst hn
  have g := h.grow ((Below.refl _ _).alloc (Nat.le_refl _) (.cells (tcells (0, 0)) 62))
  exact g.plain 12 _ rfl ⟨g.c.f, g.c.n.ow, g.c.n.ex, PT.fresh wc _ (by have := h.b.lt; omega), g.c.n.le⟩
def t0 (c : Bool) : Option (Int × Int) := if c then some (0, 0) else none
def Tr.of (t : Tr) (z : Zr) : Prop := t.id = z.id ∧ t.tk = z.tk ∧ t.cm = z.cm ∧ t.st = z.st ∧ t.sm = z.sm ∧ t.pc = z.pc ∧ t.rs = z.rs ∧ t.n.nf = z.nf ∧ t.n.na = z.na
/-- What the walk writes: the slots lie there. -/
theorem BT.room {w0 w : World} {B : Nat} {z : Zr} {t : Tr} (h : BT w0 w B z t) : (w.cell? ⟨B + 2, 10, none⟩ = some (.pointer t.n.ow) ∧ w.cell? ⟨B + 2, 11, none⟩ = some (.pointer t.n.ex) ∧ w.cell? ⟨B + 2, 12, none⟩ = some (.pointer t.n.nt) ∧ w.cell? ⟨B + 2, 13, none⟩ = some (.pointer t.n.le)) ∧
    w.frozen? ⟨B + 2, 10, none⟩ = false ∧ w.frozen? ⟨B + 2, 11, none⟩ = false ∧ w.frozen? ⟨B + 2, 12, none⟩ = false ∧ w.frozen? ⟨B + 2, 13, none⟩ = false :=
  ⟨⟨by simpa using h.m 10 _ rfl, by simpa using h.m 11 _ rfl, by simpa using h.m 12 _ rfl, by simpa using h.m 13 _ rfl⟩, (h.cell 10 (by decide)).2, (h.cell 11 (by decide)).2, (h.cell 12 (by decide)).2, (h.cell 13 (by decide)).2⟩
attribute [local go_sem ↓] load99S store99S

/-- The return. -/
theorem build_end {w wc : World} {z : Zr} {t : Tr} {c : Rc} {tmps : Array Value} (h : BS w wc z t c) (ht : tmps.getD 2 undef = .pointer (some ⟨w.heap.size + 1, 0, none⟩)) {R : Ending → World → Prop}
    (hR : TC (wc.setCells (w.heap.size + 1) 0 t.cells.toList) w.heap.size (wc.setCells (w.heap.size + 1) 0 t.cells.toList).heap.size t c → Below w.heap.size w (wc.setCells (w.heap.size + 1) 0 t.cells.toList) → R (.returned (.agg t.cells)) (wc.setCells (w.heap.size + 1) 0 t.cells.toList)) :
    bodyPost Try.prog Try.f37 R .ret { tmps := tmps, defers := [] } (wc.setCells (w.heap.size + 1) 0 t.cells.toList) := by
  refine bodyPost_ret (v := .agg t.cells) (results_cell1 (cs := t.cells) Try.results37 row99 size99 ht (World.rangeAt_setCells_same _ _ _ _ h.b.tr)) rfl (hR ?_ (below_setCells h.b.bel (by omega) _ _))
  exact (h.c.sets (by omega) _ _).up (Below.refl _ _) (Nat.le_refl _) (by omega) (by rw [size_setCells]; exact Nat.le_refl _)

set_option maxRecDepth 100000 in
set_option maxHeartbeats 1000000 in
theorem build_any (z : Zr) (f : Option (List ByteArray)) (ow le : Option ByteArray) (w : World) (hl : z.fl ≤ 1048576) (h : ZC w z f ow le) :
    Calls Try.prog 37 #[.agg z.cells] w fun e w' => ∃ t : Tr, e = .returned (.agg t.cells) ∧ t.of z ∧ TC w' w.heap.size w'.heap.size t ⟨f, ⟨ow, t0 z.hx, t0 z.hn, le⟩⟩ ∧ Below w.heap.size w w' := by
  obtain ⟨zid, ztk, zcm, zst, zsm, zfa, zfl, zfc, zpc, zrs, znf, zna, zow, zle, zhx, zhn⟩ := z
  obtain ⟨hf, how, hle⟩ := h
  simp only at hf how hle hl
  rcases hf with ⟨rfl, rfl, rfl, rfl⟩ | ⟨a, fs, rfl, rfl, rfl, hr⟩
  · have k0 := BT.start w ⟨zid, ztk, zcm, zst, zsm, none, 0, 0, zpc, zrs, znf, zna, zow, zle, zhx, zhn⟩ (Zr.half ⟨zid, ztk, zcm, zst, zsm, none, 0, 0, zpc, zrs, znf, zna, zow, zle, zhx, zhn⟩ none 0 0)
    simp only [Zr.cells, Tr.cells, Tr.z, Ns.z, Zr.half] at k0
    have k0' : Hid _ := k0
    clear k0
    unfold Zr.cells
    go_enter Try.func37, Try.ntmps37
    go_upto_if 23 with fail
    go_cut [5] (fun _ wc => Filed w wc ⟨zid, ztk, zcm, zst, zsm, none, 0, 0, zpc, zrs, znf, zna, zow, zle, zhx, zhn⟩ none)
    case first => as_aux_lemma =>
      go_wp2
      go_meet
      exact ⟨none, 0, 0, k0'.out, .inl ⟨rfl, rfl⟩⟩
    clear k0'
    obtain ⟨fa, fl, fc, k1, p1⟩ := hcut
    obtain ⟨x5, x6, x7, x8, x9, x10, x11, x12, x13⟩ := k1.facts
    obtain ⟨⟨c6, c7, c8, c9⟩, f6, f7, f8, f9⟩ := k1.old
    go_wp2_with fail
    clear x5 x6 x7 x8 x9 x10 x11 x12 x13 c6 c7 c8 c9 f6 f7 f8 f9
    have s1 : BS w wc ⟨zid, ztk, zcm, zst, zsm, none, 0, 0, zpc, zrs, znf, zna, zow, zle, zhx, zhn⟩ (Zr.half ⟨zid, ztk, zcm, zst, zsm, none, 0, 0, zpc, zrs, znf, zna, zow, zle, zhx, zhn⟩ fa fl fc) ⟨none, ⟨none, none, none, none⟩⟩ := ⟨k1, p1, PS.nil _ _ _, PT.nil _ _ _, PT.nil _ _ _, PS.nil _ _ _⟩
    have s2 := (((s1.plain2 (t' := { Zr.half ⟨zid, ztk, zcm, zst, zsm, none, 0, 0, zpc, zrs, znf, zna, zow, zle, zhx, zhn⟩ fa fl fc with pc := zpc }) 6 (.bool zpc) rfl rfl rfl).plain2 (t' := { Zr.half ⟨zid, ztk, zcm, zst, zsm, none, 0, 0, zpc, zrs, znf, zna, zow, zle, zhx, zhn⟩ fa fl fc with pc := zpc, rs := zrs }) 7 (.bool zrs) rfl rfl rfl).plain2
      (t' := { Zr.half ⟨zid, ztk, zcm, zst, zsm, none, 0, 0, zpc, zrs, znf, zna, zow, zle, zhx, zhn⟩ fa fl fc with pc := zpc, rs := zrs, n := ⟨znf, 0, none, none, none, none⟩ }) 8 (.bool znf) rfl rfl rfl).plain2 (t' := { Zr.half ⟨zid, ztk, zcm, zst, zsm, none, 0, 0, zpc, zrs, znf, zna, zow, zle, zhx, zhn⟩ fa fl fc with pc := zpc, rs := zrs, n := ⟨znf, zna, none, none, none, none⟩ }) 9 (.int .i64 zna) rfl rfl rfl
    clear k1 p1 s1
    refine (strPtrS _ ow 0 _ (how.grow s2.b.bel)).mono ?_
    rintro e w1 ⟨q1, rfl, p1, hb1⟩
    have s3 := s2.grow hb1
    have P1 : PS w1 (w.heap.size + 3) w1.heap.size q1 ow := p1.up (Below.refl _ _) (Nat.le_refl _) (by have := s2.b.lt; omega) (Nat.le_refl _)
    clear p1 hb1 s2
    obtain ⟨x5, x6, x7, x8, x9, x10, x11, x12, x13⟩ := s3.b.facts
    obtain ⟨⟨c10, c11, c12, c13⟩, f10, f11, f12, f13⟩ := s3.b.room
    go_wp2_with fail
    clear x5 x6 x7 x8 x9 x10 x11 x12 x13 c10 c11 c12 c13 f10 f11 f12 f13
    have s4 := s3.plain (t' := ⟨zid, ztk, zcm, zst, zsm, fa, fl, fc, zpc, zrs, ⟨znf, zna, q1, none, none, none⟩⟩) (c' := ⟨none, ⟨ow, none, none, none⟩⟩) 10 (.pointer q1) rfl ⟨s3.c.f, P1, PT.nil _ _ _, PT.nil _ _ _, PS.nil _ _ _⟩
    refine (strPtrS _ le 0 _ (hle.grow s4.b.bel)).mono ?_
    rintro e w2 ⟨q2, rfl, p2, hb2⟩
    have s5 := s4.grow hb2
    have P2 : PS w2 (w.heap.size + 3) w2.heap.size q2 le := p2.up (Below.refl _ _) (Nat.le_refl _) (by have := s4.b.lt; omega) (Nat.le_refl _)
    clear p2 hb2 s4 s3 P1
    obtain ⟨x5, x6, x7, x8, x9, x10, x11, x12, x13⟩ := s5.b.facts
    obtain ⟨⟨c10, c11, c12, c13⟩, f10, f11, f12, f13⟩ := s5.b.room
    have s6 := s5.plain (t' := ⟨zid, ztk, zcm, zst, zsm, fa, fl, fc, zpc, zrs, ⟨znf, zna, q1, none, none, q2⟩⟩) (c' := ⟨none, ⟨ow, none, none, le⟩⟩) 13 (.pointer q2) rfl ⟨s5.c.f, s5.c.n.ow, PT.nil _ _ _, PT.nil _ _ _, P2⟩
    clear s5 P2
    cases zhx <;> cases zhn
    · have hld := load99V_at s6.b.m
      have hsv := store99V_at ⟨zid, ztk, zcm, zst, zsm, fa, fl, fc, zpc, zrs, ⟨znf, zna, q1, none, none, q2⟩⟩ s6.b.tr
      have S7 : Hid _ := s6
      clear s6
      go_wp2
      exact build_end S7.out rfl fun p b => ⟨_, rfl, ⟨rfl, rfl, rfl, rfl, rfl, rfl, rfl, rfl, rfl⟩, p, b⟩
    · have s7 := s6.setNt w2.heap.size (by simp [World.setCell])
      have hld := load99V_at s7.b.m
      have hsv := store99V_at ⟨zid, ztk, zcm, zst, zsm, fa, fl, fc, zpc, zrs, ⟨znf, zna, q1, none, some ⟨w2.heap.size, 0, none⟩, q2⟩⟩ s7.b.tr
      have S7 : Hid _ := s7
      obtain ⟨⟨_, d11, d12, _⟩, _, g11, g12, _⟩ := (s6.grow ((Below.refl _ _).alloc (Nat.le_refl _) (.cells #[.int .u64 0, .int .i64 0, .pointer none] 62))).b.room
      obtain ⟨_, _, _, _, _, _, _, _, y13⟩ := (s6.grow ((Below.refl _ _).alloc (Nat.le_refl _) (.cells #[.int .u64 0, .int .i64 0, .pointer none] 62))).b.facts
      clear s6 s7
      simp only [tcells] at hld hsv
      go_wp2
      exact build_end S7.out rfl fun p b => ⟨_, rfl, ⟨rfl, rfl, rfl, rfl, rfl, rfl, rfl, rfl, rfl⟩, p, b⟩
    · have s7 := s6.setEx w2.heap.size (by simp [World.setCell])
      have hld := load99V_at s7.b.m
      have hsv := store99V_at ⟨zid, ztk, zcm, zst, zsm, fa, fl, fc, zpc, zrs, ⟨znf, zna, q1, some ⟨w2.heap.size, 0, none⟩, none, q2⟩⟩ s7.b.tr
      have S7 : Hid _ := s7
      obtain ⟨⟨_, d11, d12, _⟩, _, g11, g12, _⟩ := (s6.grow ((Below.refl _ _).alloc (Nat.le_refl _) (.cells #[.int .u64 0, .int .i64 0, .pointer none] 62))).b.room
      obtain ⟨_, _, _, _, _, _, _, _, y13⟩ := (s6.grow ((Below.refl _ _).alloc (Nat.le_refl _) (.cells #[.int .u64 0, .int .i64 0, .pointer none] 62))).b.facts
      clear s6 s7
      simp only [tcells] at hld hsv
      go_wp2
      exact build_end S7.out rfl fun p b => ⟨_, rfl, ⟨rfl, rfl, rfl, rfl, rfl, rfl, rfl, rfl, rfl⟩, p, b⟩
    · obtain ⟨⟨_, _, m12, _⟩, _, _, n12, _⟩ := ((s6.setEx w2.heap.size (by simp [World.setCell])).grow ((Below.refl _ _).alloc (Nat.le_refl _) (.cells #[.int .u64 0, .int .i64 0, .pointer none] 62))).b.room
      simp only [tcells] at m12 n12
      have s7 := (s6.setEx w2.heap.size (by simp [World.setCell])).setNt (w2.heap.size + 1) (by simp [World.setCell])
      have hld := load99V_at s7.b.m
      have hsv := store99V_at ⟨zid, ztk, zcm, zst, zsm, fa, fl, fc, zpc, zrs, ⟨znf, zna, q1, some ⟨w2.heap.size, 0, none⟩, some ⟨w2.heap.size + 1, 0, none⟩, q2⟩⟩ s7.b.tr
      have S7 : Hid _ := s7
      obtain ⟨⟨_, d11, d12, _⟩, _, g11, g12, _⟩ := (s6.grow ((Below.refl _ _).alloc (Nat.le_refl _) (.cells #[.int .u64 0, .int .i64 0, .pointer none] 62))).b.room
      obtain ⟨_, _, _, _, _, _, _, _, y13⟩ := (s6.grow ((Below.refl _ _).alloc (Nat.le_refl _) (.cells #[.int .u64 0, .int .i64 0, .pointer none] 62))).b.facts
      clear s6 s7
      simp only [tcells] at hld hsv
      go_wp2
      exact build_end S7.out rfl fun p b => ⟨_, rfl, ⟨rfl, rfl, rfl, rfl, rfl, rfl, rfl, rfl, rfl⟩, p, b⟩
  · have k0 := BT.start w ⟨zid, ztk, zcm, zst, zsm, some a, fs.length, zfc, zpc, zrs, znf, zna, zow, zle, zhx, zhn⟩ (Zr.half ⟨zid, ztk, zcm, zst, zsm, some a, fs.length, zfc, zpc, zrs, znf, zna, zow, zle, zhx, zhn⟩ none 0 0)
    simp only [Zr.cells, Tr.cells, Tr.z, Ns.z, Zr.half] at k0
    have k0' : Hid _ := k0
    obtain ⟨i0, hi, hz0, hz1, hz2⟩ := info_parts info9
    clear k0
    unfold Zr.cells
    go_enter Try.func37, Try.ntmps37
    go_upto_if 23 with fail
    go_cut [5] (fun _ wc => Filed w wc ⟨zid, ztk, zcm, zst, zsm, some a, fs.length, zfc, zpc, zrs, znf, zna, zow, zle, zhx, zhn⟩ (some fs))
    case first => as_aux_lemma =>
      go_wp2_with (at_make; go_must (refine wpList_make_full _ rfl _ _ 70 rfl w.heap.size 9 i0 (.string ⟨#[]⟩) 1 Try.underlying70 hi hz0 hz1 _ _ _ _ fs.length rfl rfl rfl rfl (by rw [hz2]; omega) (by unfold maxLen; omega) (by simp; omega) ?_); intro w1 hown1 hg1)
      have k0 := k0'.out
      have q0 : CR w w1 ⟨zid, ztk, zcm, zst, zsm, some a, fs.length, zfc, zpc, zrs, znf, zna, zow, zle, zhx, zhn⟩ fs 0 := by
        have t1 : w1.there (w.heap.size + 3) 0 fs.length := by simpa using there_of_row hown1
        have l1 := (hown1.lt (w.heap.size + 3) (by simp [Value.ownBlock])).2
        exact ⟨k0.grow ((Below.refl _ _).grown hg1 (Nat.le_refl _) (by simp)), fun j u hu => by simp [strs] at hu, t1, l1⟩
      clear hown1 hg1 k0 k0' hi hz0 hz1 hz2
      go_loopw [5] (fun i wr => ∃ (k : Nat), k ≤ fs.length ∧ i = .int .i64 k ∧ CR w wr ⟨zid, ztk, zcm, zst, zsm, some a, fs.length, zfc, zpc, zrs, znf, zna, zow, zle, zhx, zhn⟩ fs k) (fun i _ => fs.length - (intOf i).toNat)
      case atStart => exact ⟨0, Nat.zero_le _, rfl, q0⟩
      case round =>
        clear q0
        obtain ⟨k, hk, rfl, hq⟩ := hrel
        obtain ⟨x5, x6, x7, x8, x9, x10, x11, x12, x13⟩ := hq.bt.facts
        clear x6 x7 x8 x9 x10 x11 x12 x13
        by_cases hlt : k < fs.length
        · obtain ⟨⟨v0, hv0⟩, hf0⟩ := hq.slot hlt
          obtain ⟨g, off, ha, hgw, hr0⟩ := hr k hlt
          subst ha
          have hsrc : wr.cell? ⟨g, off + k, none⟩ = some (.string fs[k]) := by
            rw [hq.bt.bel.cell (p := ⟨g, off + k, none⟩) hgw]; exact hr0
          clear hr0 hr
          have hst := hq.step hlt
          generalize fs[k] = sk at hsrc hst
          have HST : Hid _ := hst
          clear hst
          go_wp2
          go_roundw
          case rel => exact ⟨k + 1, by omega, by go_num, HST.out⟩
          case measure => simp [intOf]; omega
        · obtain ⟨⟨v0, hv0⟩, hf0⟩ := hq.bt.cell 5 (by decide)
          go_wp2
          go_meet
          have hkk : k = fs.length := by omega
          subst hkk
          refine ⟨some ⟨w.heap.size + 3, 0, none⟩, fs.length, fs.length, hq.bt.set 5 _ rfl, .inr ⟨w.heap.size + 3, fs.length, fs, rfl, rfl, Nat.le_refl _, by simpa [World.setCell] using hq.lt, hl, ?_, there_setCell hq.th _ _⟩⟩
          have := hq.row
          rw [List.take_length] at this
          exact World.rangeAt_setCells_apart this (w.heap.size + 2) 5 [_] (.inl (by omega))
    clear k0' hi hz0 hz1 hz2 hr
    obtain ⟨fa, fl, fc, k1, p1⟩ := hcut
    obtain ⟨x5, x6, x7, x8, x9, x10, x11, x12, x13⟩ := k1.facts
    obtain ⟨⟨c6, c7, c8, c9⟩, f6, f7, f8, f9⟩ := k1.old
    go_wp2_with fail
    clear x5 x6 x7 x8 x9 x10 x11 x12 x13 c6 c7 c8 c9 f6 f7 f8 f9
    have s1 : BS w wc ⟨zid, ztk, zcm, zst, zsm, some a, fs.length, zfc, zpc, zrs, znf, zna, zow, zle, zhx, zhn⟩ (Zr.half ⟨zid, ztk, zcm, zst, zsm, some a, fs.length, zfc, zpc, zrs, znf, zna, zow, zle, zhx, zhn⟩ fa fl fc) ⟨some fs, ⟨none, none, none, none⟩⟩ := ⟨k1, p1, PS.nil _ _ _, PT.nil _ _ _, PT.nil _ _ _, PS.nil _ _ _⟩
    have s2 := (((s1.plain2 (t' := { Zr.half ⟨zid, ztk, zcm, zst, zsm, some a, fs.length, zfc, zpc, zrs, znf, zna, zow, zle, zhx, zhn⟩ fa fl fc with pc := zpc }) 6 (.bool zpc) rfl rfl rfl).plain2 (t' := { Zr.half ⟨zid, ztk, zcm, zst, zsm, some a, fs.length, zfc, zpc, zrs, znf, zna, zow, zle, zhx, zhn⟩ fa fl fc with pc := zpc, rs := zrs }) 7 (.bool zrs) rfl rfl rfl).plain2
      (t' := { Zr.half ⟨zid, ztk, zcm, zst, zsm, some a, fs.length, zfc, zpc, zrs, znf, zna, zow, zle, zhx, zhn⟩ fa fl fc with pc := zpc, rs := zrs, n := ⟨znf, 0, none, none, none, none⟩ }) 8 (.bool znf) rfl rfl rfl).plain2 (t' := { Zr.half ⟨zid, ztk, zcm, zst, zsm, some a, fs.length, zfc, zpc, zrs, znf, zna, zow, zle, zhx, zhn⟩ fa fl fc with pc := zpc, rs := zrs, n := ⟨znf, zna, none, none, none, none⟩ }) 9 (.int .i64 zna) rfl rfl rfl
    clear k1 p1 s1
    refine (strPtrS _ ow 0 _ (how.grow s2.b.bel)).mono ?_
    rintro e w1 ⟨q1, rfl, p1, hb1⟩
    have s3 := s2.grow hb1
    have P1 : PS w1 (w.heap.size + 3) w1.heap.size q1 ow := p1.up (Below.refl _ _) (Nat.le_refl _) (by have := s2.b.lt; omega) (Nat.le_refl _)
    clear p1 hb1 s2
    obtain ⟨x5, x6, x7, x8, x9, x10, x11, x12, x13⟩ := s3.b.facts
    obtain ⟨⟨c10, c11, c12, c13⟩, f10, f11, f12, f13⟩ := s3.b.room
    go_wp2_with fail
    clear x5 x6 x7 x8 x9 x10 x11 x12 x13 c10 c11 c12 c13 f10 f11 f12 f13
    have s4 := s3.plain (t' := ⟨zid, ztk, zcm, zst, zsm, fa, fl, fc, zpc, zrs, ⟨znf, zna, q1, none, none, none⟩⟩) (c' := ⟨some fs, ⟨ow, none, none, none⟩⟩) 10 (.pointer q1) rfl ⟨s3.c.f, P1, PT.nil _ _ _, PT.nil _ _ _, PS.nil _ _ _⟩
    refine (strPtrS _ le 0 _ (hle.grow s4.b.bel)).mono ?_
    rintro e w2 ⟨q2, rfl, p2, hb2⟩
    have s5 := s4.grow hb2
    have P2 : PS w2 (w.heap.size + 3) w2.heap.size q2 le := p2.up (Below.refl _ _) (Nat.le_refl _) (by have := s4.b.lt; omega) (Nat.le_refl _)
    clear p2 hb2 s4 s3 P1
    obtain ⟨x5, x6, x7, x8, x9, x10, x11, x12, x13⟩ := s5.b.facts
    obtain ⟨⟨c10, c11, c12, c13⟩, f10, f11, f12, f13⟩ := s5.b.room
    have s6 := s5.plain (t' := ⟨zid, ztk, zcm, zst, zsm, fa, fl, fc, zpc, zrs, ⟨znf, zna, q1, none, none, q2⟩⟩) (c' := ⟨some fs, ⟨ow, none, none, le⟩⟩) 13 (.pointer q2) rfl ⟨s5.c.f, s5.c.n.ow, PT.nil _ _ _, PT.nil _ _ _, P2⟩
    clear s5 P2
    cases zhx <;> cases zhn
    · have hld := load99V_at s6.b.m
      have hsv := store99V_at ⟨zid, ztk, zcm, zst, zsm, fa, fl, fc, zpc, zrs, ⟨znf, zna, q1, none, none, q2⟩⟩ s6.b.tr
      have S7 : Hid _ := s6
      clear s6
      go_wp2
      exact build_end S7.out rfl fun p b => ⟨_, rfl, ⟨rfl, rfl, rfl, rfl, rfl, rfl, rfl, rfl, rfl⟩, p, b⟩
    · have s7 := s6.setNt w2.heap.size (by simp [World.setCell])
      have hld := load99V_at s7.b.m
      have hsv := store99V_at ⟨zid, ztk, zcm, zst, zsm, fa, fl, fc, zpc, zrs, ⟨znf, zna, q1, none, some ⟨w2.heap.size, 0, none⟩, q2⟩⟩ s7.b.tr
      have S7 : Hid _ := s7
      obtain ⟨⟨_, d11, d12, _⟩, _, g11, g12, _⟩ := (s6.grow ((Below.refl _ _).alloc (Nat.le_refl _) (.cells #[.int .u64 0, .int .i64 0, .pointer none] 62))).b.room
      obtain ⟨_, _, _, _, _, _, _, _, y13⟩ := (s6.grow ((Below.refl _ _).alloc (Nat.le_refl _) (.cells #[.int .u64 0, .int .i64 0, .pointer none] 62))).b.facts
      clear s6 s7
      simp only [tcells] at hld hsv
      go_wp2
      exact build_end S7.out rfl fun p b => ⟨_, rfl, ⟨rfl, rfl, rfl, rfl, rfl, rfl, rfl, rfl, rfl⟩, p, b⟩
    · have s7 := s6.setEx w2.heap.size (by simp [World.setCell])
      have hld := load99V_at s7.b.m
      have hsv := store99V_at ⟨zid, ztk, zcm, zst, zsm, fa, fl, fc, zpc, zrs, ⟨znf, zna, q1, some ⟨w2.heap.size, 0, none⟩, none, q2⟩⟩ s7.b.tr
      have S7 : Hid _ := s7
      obtain ⟨⟨_, d11, d12, _⟩, _, g11, g12, _⟩ := (s6.grow ((Below.refl _ _).alloc (Nat.le_refl _) (.cells #[.int .u64 0, .int .i64 0, .pointer none] 62))).b.room
      obtain ⟨_, _, _, _, _, _, _, _, y13⟩ := (s6.grow ((Below.refl _ _).alloc (Nat.le_refl _) (.cells #[.int .u64 0, .int .i64 0, .pointer none] 62))).b.facts
      clear s6 s7
      simp only [tcells] at hld hsv
      go_wp2
      exact build_end S7.out rfl fun p b => ⟨_, rfl, ⟨rfl, rfl, rfl, rfl, rfl, rfl, rfl, rfl, rfl⟩, p, b⟩
    · obtain ⟨⟨_, _, m12, _⟩, _, _, n12, _⟩ := ((s6.setEx w2.heap.size (by simp [World.setCell])).grow ((Below.refl _ _).alloc (Nat.le_refl _) (.cells #[.int .u64 0, .int .i64 0, .pointer none] 62))).b.room
      simp only [tcells] at m12 n12
      have s7 := (s6.setEx w2.heap.size (by simp [World.setCell])).setNt (w2.heap.size + 1) (by simp [World.setCell])
      have hld := load99V_at s7.b.m
      have hsv := store99V_at ⟨zid, ztk, zcm, zst, zsm, fa, fl, fc, zpc, zrs, ⟨znf, zna, q1, some ⟨w2.heap.size, 0, none⟩, some ⟨w2.heap.size + 1, 0, none⟩, q2⟩⟩ s7.b.tr
      have S7 : Hid _ := s7
      obtain ⟨⟨_, d11, d12, _⟩, _, g11, g12, _⟩ := (s6.grow ((Below.refl _ _).alloc (Nat.le_refl _) (.cells #[.int .u64 0, .int .i64 0, .pointer none] 62))).b.room
      obtain ⟨_, _, _, _, _, _, _, _, y13⟩ := (s6.grow ((Below.refl _ _).alloc (Nat.le_refl _) (.cells #[.int .u64 0, .int .i64 0, .pointer none] 62))).b.facts
      clear s6 s7
      simp only [tcells] at hld hsv
      go_wp2
      exact build_end S7.out rfl fun p b => ⟨_, rfl, ⟨rfl, rfl, rfl, rfl, rfl, rfl, rfl, rfl, rfl⟩, p, b⟩
end Go.Proofs.Qxb6614903a
