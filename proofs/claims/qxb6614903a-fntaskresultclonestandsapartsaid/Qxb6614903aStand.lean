import Derived.Test.Qxb6614903aReads
import Derived.Test.Qxb6614903aBytesR
namespace Go.Proofs.Qxb6614903a
open Go.RowKit

theorem PS.nilness {w : World} {lo hi : Nat} {p : Option Addr} {o : Option ByteArray} (h : PS w lo hi p o) : p.isNone = o.isNone := by
  rcases h with ⟨rfl, rfl⟩ | ⟨b, s, rfl, rfl, _⟩ <;> rfl
theorem PtrS.nilness {w : World} {B : Nat} {p : Option Addr} {o : Option ByteArray} (h : PtrS w B p o) : p.isNone = o.isNone := by
  rcases h with ⟨rfl, rfl⟩ | ⟨b, off, s, rfl, rfl, _⟩ <;> rfl
theorem TZ.someness {w : World} {p : Option Addr} {c : Bool} (h : TZ w p c) : p.isSome = c := by
  rcases h with ⟨rfl, rfl⟩ | ⟨b, rfl, rfl, _⟩ <;> rfl
theorem shape_of {w : World} {lo hi : Nat} {t : Tr} {z : Zr} {f : Option (List ByteArray)} {ow le : Option ByteArray} (hT : TC w lo hi t ⟨f, ⟨ow, t0 z.hx, t0 z.hn, le⟩⟩) (hZ : ZC w z f ow le) : Shape t z := by
  obtain ⟨s1, s2, _⟩ := two_of hT.f hZ.f
  exact ⟨s1, s2, hT.n.ow.nilness.trans hZ.ow.nilness.symm, hT.n.le.nilness.trans hZ.le.nilness.symm, (TZ.of hT.n.ex).someness, (TZ.of hT.n.nt).someness⟩
theorem FL.few {w : World} {lo hi : Nat} {fa : Option Addr} {fl fc : Nat} {o : Option (List ByteArray)} (h : FL w lo hi (.slice fa fl fc) o) : fl ≤ 1048576 := by
  rcases h with ⟨e, _⟩ | ⟨g, cap, fs, e, _, _, _, a, _⟩
  · cases e; omega
  · cases e; exact a

theorem PS.keep {w w' : World} {lo hi a b : Nat} {p : Option Addr} {o : Option ByteArray} (h : PS w a b p o) (hk : Keep lo hi w w') (hd : b ≤ lo ∨ hi ≤ a) (hb : b ≤ w.heap.size) : PS w' a b p o := by
  rcases h with h | ⟨g, s, e1, e2, a1, a2, a3, a4, a5⟩
  · exact .inl h
  · have hB := hk.block g (by omega) (by omega)
    exact .inr ⟨g, s, e1, e2, a1, a2, a3, by rw [World.cell?_of_block (a := ⟨g, 0, none⟩) hB]; exact a4, by rw [World.frozen?_of_block (a := ⟨g, 0, none⟩) hB]; exact a5⟩
theorem PT.keep {w w' : World} {lo hi a b : Nat} {p : Option Addr} {o : Option (Int × Int)} (h : PT w a b p o) (hk : Keep lo hi w w') (hd : b ≤ lo ∨ hi ≤ a) (hb : b ≤ w.heap.size) : PT w' a b p o := by
  rcases h with h | ⟨g, s, e1, e2, a1, a2, a3, a4⟩
  · exact .inl h
  · exact .inr ⟨g, s, e1, e2, a1, a2, hk.range (by omega) (by omega) a3, hk.there (by omega) (by omega) a4⟩
theorem FL.keep {w w' : World} {lo hi a b : Nat} {v : Value} {o : Option (List ByteArray)} (h : FL w a b v o) (hk : Keep lo hi w w') (hd : b ≤ lo ∨ hi ≤ a) (hb : b ≤ w.heap.size) : FL w' a b v o := by
  rcases h with h | ⟨g, cap, fs, e1, e2, a1, a2, a3, a4, a5⟩
  · exact .inl h
  · exact .inr ⟨g, cap, fs, e1, e2, a1, a2, a3, hk.range (by omega) (by omega) a4, hk.there (by omega) (by omega) a5⟩
theorem TC.keep {w w' : World} {lo hi a b : Nat} {t : Tr} {c : Rc} (h : TC w a b t c) (hk : Keep lo hi w w') (hd : b ≤ lo ∨ hi ≤ a) (hb : b ≤ w.heap.size) : TC w' a b t c :=
  ⟨h.f.keep hk hd hb, h.n.ow.keep hk hd hb, h.n.ex.keep hk hd hb, h.n.nt.keep hk hd hb, h.n.le.keep hk hd hb⟩

/-- A task result that was scribbled over. -/
structure MK (w : World) (lo hi : Nat) (t : Tr) (u : Int × Int) (mark : ByteArray) : Prop where
  f : MF w lo hi t.fa t.fl t.fl mark
  ow : MS w lo hi t.n.ow true mark
  le : MS w lo hi t.n.le true mark
  ex : MT w lo hi t.n.ex true u
  nt : MT w lo hi t.n.nt true u
theorem MK.up {w w' : World} {lo hi : Nat} {t : Tr} {u : Int × Int} {mark : ByteArray} (h : MK w lo hi t u mark) (hb : Below w.heap.size w w') : MK w' lo hi t u mark :=
  ⟨h.f.up hb, h.ow.up hb, h.le.up hb, h.ex.up hb, h.nt.up hb⟩
theorem MS.keep {w w' : World} {lo hi a b : Nat} {p : Option Addr} {m : Bool} {mark : ByteArray} (h : MS w a b p m mark) (hk : Keep lo hi w w') (hd : b ≤ lo ∨ hi ≤ a) (hb : b ≤ w.heap.size) : MS w' a b p m mark := by
  rcases h with h | ⟨g, s, e, a1, a2, a4, a5, a6⟩
  · exact .inl h
  · have hB := hk.block g (by omega) (by omega)
    exact .inr ⟨g, s, e, a1, a2, by rw [World.cell?_of_block (a := ⟨g, 0, none⟩) hB]; exact a4, by rw [World.frozen?_of_block (a := ⟨g, 0, none⟩) hB]; exact a5, a6⟩
theorem MT.keep {w w' : World} {lo hi a b : Nat} {p : Option Addr} {m : Bool} {t : Int × Int} (h : MT w a b p m t) (hk : Keep lo hi w w') (hd : b ≤ lo ∨ hi ≤ a) (hb : b ≤ w.heap.size) : MT w' a b p m t := by
  rcases h with h | ⟨g, u, e, a1, a2, a3, a4, a5⟩
  · exact .inl h
  · exact .inr ⟨g, u, e, a1, a2, hk.range (by omega) (by omega) a3, hk.there (by omega) (by omega) a4, a5⟩
theorem MF.keep {w w' : World} {lo hi a b : Nat} {fa : Option Addr} {fl k : Nat} {mark : ByteArray} (h : MF w a b fa fl k mark) (hk : Keep lo hi w w') (hd : b ≤ lo ∨ hi ≤ a) (hb : b ≤ w.heap.size) : MF w' a b fa fl k mark := by
  rcases h with h | ⟨g, e, a1, a2, hr⟩
  · exact .inl h
  · refine .inr ⟨g, e, a1, a2, fun i hi => ?_⟩
    obtain ⟨s, a4, a5, a6⟩ := hr i hi
    have hB := hk.block g (by omega) (by omega)
    exact ⟨s, by rw [World.cell?_of_block (a := ⟨g, i, none⟩) hB]; exact a4, by rw [World.frozen?_of_block (a := ⟨g, i, none⟩) hB]; exact a5, a6⟩
theorem MK.keep {w w' : World} {lo hi a b : Nat} {t : Tr} {u : Int × Int} {mark : ByteArray} (h : MK w a b t u mark) (hk : Keep lo hi w w') (hd : b ≤ lo ∨ hi ≤ a) (hb : b ≤ w.heap.size) : MK w' a b t u mark :=
  ⟨h.f.keep hk hd hb, h.ow.keep hk hd hb, h.le.keep hk hd hb, h.ex.keep hk hd hb, h.nt.keep hk hd hb⟩
theorem MK.of {w0 w : World} {lo hi b X : Nat} {t : Tr} {u : Int × Int} {mark : ByteArray} (h : SW w0 w lo hi b X t u mark t.fl true true true true) : MK w lo hi t u mark := ⟨h.f, h.ow, h.le, h.ex, h.nt⟩

/-- The argument in its box, and what it leads to, stand. -/
structure DD (w W : World) (z : Zr) : Prop where
  b : Below (w.heap.size + 1) (w.alloc (.cells z.cells 94)) W
theorem DD.start (w : World) (z : Zr) : DD w (w.alloc (.cells z.cells 94)) z := ⟨Below.refl _ _⟩
theorem DD.lt {w W : World} {z : Zr} (h : DD w W z) : w.heap.size + 1 ≤ W.heap.size := by have := h.b.size; simpa using this
theorem DD.bel {w W : World} {z : Zr} (h : DD w W z) : Below w.heap.size w W := ((Below.refl w.heap.size w).alloc (Nat.le_refl _) _).trans (h.b.mono (by omega))
theorem DD.box {w W : World} {z : Zr} (h : DD w W z) : W.rangeAt w.heap.size 0 z.cells.toList := rangeAt_below h.b (by omega) (rangeAt_new w z.cells 94)
theorem DD.zc {w W : World} {z : Zr} (h : DD w W z) {f : Option (List ByteArray)} {ow le : Option ByteArray} (hz : ZC w z f ow le) : ZC W z f ow le := hz.grow h.bel (Nat.le_refl _)
theorem DD.grow {w W W' : World} {z : Zr} (h : DD w W z) (hb : Below W.heap.size W W') : DD w W' z := ⟨h.b.trans (hb.mono h.lt)⟩
theorem DD.keep {w W W' : World} {z : Zr} {lo hi : Nat} (h : DD w W z) (hk : Keep lo hi W W') (h1 : w.heap.size + 1 ≤ lo) (h2 : lo ≤ W.heap.size) : DD w W' z := ⟨h.b.trans ((hk.below h2).mono h1)⟩

theorem size94 : (Try.prog.info? 94).map (·.size) = some 14 := by kernel_rfl
theorem row94 : ((Try.prog.underlying 94).map TypeDesc.isRow) = some true := by kernel_rfl
theorem load94S (v : Value) : Instr.loadAt 94 v = loadS 94 v := rfl
theorem load94V_at {w : World} {g o : Nat} {z : Zr} (h : w.rangeAt g o z.cells.toList) : (loadS 94 (.pointer (some ⟨g, o, none⟩))).run Try.prog w = .ok (.agg z.cells) w := by
  obtain ⟨d, hu, hd⟩ := isRow_of row94
  exact run_loadAt_mid (P := Try.prog) w g o 94 z.cells.toList d h hu hd size94

/-- A variable for a task result. -/
def putT (w : World) (t : Tr) : World := (w.alloc (.cells Tr.z.cells 99)).setCells w.heap.size 0 t.cells.toList
theorem putT_run (w : World) (t : Tr) : (storeS 99 (.pointer (some ⟨w.heap.size, 0, none⟩)) (.agg t.cells)).run Try.prog (w.alloc (.cells #[.string ⟨#[]⟩, .string ⟨#[]⟩, .string ⟨#[]⟩, .int .i64 0, .string ⟨#[]⟩, .slice none 0 0, .bool false, .bool false, .bool false, .int .i64 0, .pointer none, .pointer none, .pointer none, .pointer none, .int .u64 0, .int .i64 0, .pointer none] 99)) = .ok () (putT w t) :=
  store99V_at t (there_new w Tr.z.cells 99)
theorem putT_at (w : World) (t : Tr) : (putT w t).rangeAt w.heap.size 0 t.cells.toList := World.rangeAt_setCells_same _ _ _ _ (there_new w Tr.z.cells 99)
theorem putT_below (w : World) (t : Tr) : Below w.heap.size w (putT w t) := below_setCells ((Below.refl _ _).alloc (Nat.le_refl _) _) (Nat.le_refl _) _ _
theorem putT_size (w : World) (t : Tr) : (putT w t).heap.size = w.heap.size + 1 := by unfold putT; rw [size_setCells]; simp
/-- A variable for a time. -/
def putU (w : World) (u : Int × Int) : World := (w.alloc (.cells (tcells (0, 0)) 62)).setCells w.heap.size 0 (tcells u).toList
theorem putU_run (w : World) (u : Int × Int) : (storeS 62 (.pointer (some ⟨w.heap.size, 0, none⟩)) (.agg (tcells u))).run Try.prog (w.alloc (.cells #[.int .u64 0, .int .i64 0, .pointer none] 62)) = .ok () (putU w u) :=
  store62V_at u (there_new w (tcells (0, 0)) 62)
theorem putU_at (w : World) (u : Int × Int) : (putU w u).rangeAt w.heap.size 0 (tcells u).toList := World.rangeAt_setCells_same _ _ _ _ (there_new w (tcells (0, 0)) 62)
theorem putU_below (w : World) (u : Int × Int) : Below w.heap.size w (putU w u) := below_setCells ((Below.refl _ _).alloc (Nat.le_refl _) _) (Nat.le_refl _) _ _
theorem putU_size (w : World) (u : Int × Int) : (putU w u).heap.size = w.heap.size + 1 := by unfold putU; rw [size_setCells]; simp

/-- The three task results stand in their variables, each with objects of its own. -/
structure LA (w W : World) (z : Zr) (t m1 m2 : Tr) (c : Rc) (lo Br B1 B2 : Nat) : Prop where
  d : DD w W z
  l0 : w.heap.size + 1 ≤ lo
  l1 : lo ≤ Br
  l2 : Br + 1 ≤ B1
  l3 : B1 + 1 ≤ B2
  l4 : B2 < W.heap.size
  vr : W.rangeAt Br 0 t.cells.toList
  v1 : W.rangeAt B1 0 m1.cells.toList
  v2 : W.rangeAt B2 0 m2.cells.toList
  cr : TC W lo Br t c
  c1 : TC W (Br + 1) B1 m1 c
  c2 : TC W (B1 + 1) B2 m2 c
theorem LA.grow {w W W' : World} {z : Zr} {t m1 m2 : Tr} {c : Rc} {lo Br B1 B2 : Nat} (h : LA w W z t m1 m2 c lo Br B1 B2) (hb : Below W.heap.size W W') : LA w W' z t m1 m2 c lo Br B1 B2 := by
  obtain ⟨d, l0, l1, l2, l3, l4, vr, v1, v2, cr, c1, c2⟩ := h
  exact ⟨d.grow hb, l0, l1, l2, l3, Nat.lt_of_lt_of_le l4 hb.size, rangeAt_below hb (by omega) vr, rangeAt_below hb (by omega) v1, rangeAt_below hb l4 v2, cr.up hb (by omega) (Nat.le_refl _) (Nat.le_refl _), c1.up hb (by omega) (Nat.le_refl _) (Nat.le_refl _), c2.up hb (by omega) (Nat.le_refl _) (Nat.le_refl _)⟩
/-- Behind the scribbling. -/
structure LB (w W : World) (z : Zr) (t m1 m2 : Tr) (c : Rc) (lo Br B1 B2 X1 X2 : Nat) (mk1 mk2 : ByteArray) : Prop where
  d : DD w W z
  l4 : B2 < W.heap.size
  l5 : X1 < W.heap.size
  l6 : X2 < W.heap.size
  l7 : Br < W.heap.size
  l8 : B1 < W.heap.size
  vr : W.rangeAt Br 0 t.cells.toList
  v1 : W.rangeAt B1 0 m1.cells.toList
  v2 : W.rangeAt B2 0 m2.cells.toList
  x1 : W.rangeAt X1 0 (tcells (1, 0)).toList
  x2 : W.rangeAt X2 0 (tcells (2, 0)).toList
  kr : MK W lo Br t (1, 0) mk1
  k1 : MK W (Br + 1) B1 m1 (2, 0) mk2
  c2 : TC W (B1 + 1) B2 m2 c
theorem LB.grow {w W W' : World} {z : Zr} {t m1 m2 : Tr} {c : Rc} {lo Br B1 B2 X1 X2 : Nat} {mk1 mk2 : ByteArray} (h : LB w W z t m1 m2 c lo Br B1 B2 X1 X2 mk1 mk2) (hb : Below W.heap.size W W') : LB w W' z t m1 m2 c lo Br B1 B2 X1 X2 mk1 mk2 := by
  obtain ⟨d, l4, l5, l6, l7, l8, vr, v1, v2, x1, x2, kr, k1, c2⟩ := h
  have hs := hb.size
  exact ⟨d.grow hb, by omega, by omega, by omega, by omega, by omega, rangeAt_below hb l7 vr, rangeAt_below hb l8 v1, rangeAt_below hb l4 v2, rangeAt_below hb l5 x1, rangeAt_below hb l6 x2, kr.up hb, k1.up hb, c2.up hb (by omega) (Nat.le_refl _) (Nat.le_refl _)⟩
/-- The two scribblings. -/
theorem lb_of {w W W1 W2 : World} {z : Zr} {t m1 m2 : Tr} {c : Rc} {lo Br B1 B2 X1 X2 : Nat} {mk1 mk2 : ByteArray} (h : LA w W z t m1 m2 c lo Br B1 B2) (a1 : B2 < X1) (a2 : X1 < X2) (a3 : X2 < W.heap.size) (x1 : W.rangeAt X1 0 (tcells (1, 0)).toList) (x2 : W.rangeAt X2 0 (tcells (2, 0)).toList)
    {Y1 Y2 : Nat} (s1 : SW W W1 lo Br Br Y1 t (1, 0) mk1 t.fl true true true true) (s2 : SW W1 W2 (Br + 1) B1 B1 Y2 m1 (2, 0) mk2 m1.fl true true true true) : LB w W2 z t m1 m2 c lo Br B1 B2 X1 X2 mk1 mk2 := by
  obtain ⟨d, l0, l1, l2, l3, l4, vr, v1, v2, cr, c1, c2⟩ := h
  have k1 := s1.kp
  have k2 := s2.kp
  have z1 := k1.size
  have z2 := k2.size
  exact ⟨(d.keep k1 l0 (by omega)).keep k2 (by omega) (by omega), by omega, by omega, by omega, by omega, by omega, k2.range (by omega) (by omega) s1.tv, s2.tv, k2.range (by omega) (by omega) (k1.range (by omega) (by omega) v2),
    k2.range (by omega) (by omega) (k1.range (by omega) (by omega) x1), k2.range (by omega) (by omega) (k1.range (by omega) (by omega) x2), (MK.of s1).keep k2 (by omega) (by omega), MK.of s2, (c2.keep k1 (by omega) (by omega)).keep k2 (by omega) (by omega)⟩
end Go.Proofs.Qxb6614903a
