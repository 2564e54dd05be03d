import Derived.Test.Qxb6614903aFiles
import Derived.Deep.DeepCutAuto
namespace Go.Proofs.Qxb6614903a
open Go.RowKit
attribute [local go_sem ↓] Go.wp_at_zero Go.wp_at_succ

theorem PS.up {w w' : World} {lo hi B lo' hi' : Nat} {p : Option Addr} {o : Option ByteArray} (h : PS w lo hi p o) (hb : Below B w w') (hB : hi ≤ B) (h1 : lo' ≤ lo) (h2 : hi ≤ hi') : PS w' lo' hi' p o := by
  rcases h with h | ⟨b, s, e1, e2, a1, a2, a3, a4, a5⟩
  · exact .inl h
  · exact .inr ⟨b, s, e1, e2, by omega, by omega, a3, by rw [hb.cell (p := ⟨b, 0, none⟩) (by simp; omega)]; exact a4, by rw [hb.frozen (p := ⟨b, 0, none⟩) (by simp; omega)]; exact a5⟩
theorem PT.up {w w' : World} {lo hi B lo' hi' : Nat} {p : Option Addr} {o : Option (Int × Int)} (h : PT w lo hi p o) (hb : Below B w w') (hB : hi ≤ B) (h1 : lo' ≤ lo) (h2 : hi ≤ hi') : PT w' lo' hi' p o := by
  rcases h with h | ⟨b, s, e1, e2, a1, a2, a3, a4⟩
  · exact .inl h
  · exact .inr ⟨b, s, e1, e2, by omega, by omega, rangeAt_below hb (by omega) a3, there_below hb (by omega) a4⟩
theorem FL.up {w w' : World} {lo hi B lo' hi' : Nat} {v : Value} {o : Option (List ByteArray)} (h : FL w lo hi v o) (hb : Below B w w') (hB : hi ≤ B) (h1 : lo' ≤ lo) (h2 : hi ≤ hi') : FL w' lo' hi' v o := by
  rcases h with h | ⟨g, cap, fs, e1, e2, a1, a2, a3, a4, a5⟩
  · exact .inl h
  · exact .inr ⟨g, cap, fs, e1, e2, by omega, by omega, a3, rangeAt_below hb (by omega) a4, there_below hb (by omega) a5⟩

/-- A notice: its six cells. -/
structure Ns where
  nf : Bool
  na : Int
  ow : Option Addr
  ex : Option Addr
  nt : Option Addr
  le : Option Addr
def Ns.cells (n : Ns) : Array Value := #[.bool n.nf, .int .i64 n.na, .pointer n.ow, .pointer n.ex, .pointer n.nt, .pointer n.le]
/-- What it leads to. -/
structure Nc where
  ow : Option ByteArray
  ex : Option (Int × Int)
  nt : Option (Int × Int)
  le : Option ByteArray
structure NT (w : World) (lo hi : Nat) (n : Ns) (c : Nc) : Prop where
  ow : PS w lo hi n.ow c.ow
  ex : PT w lo hi n.ex c.ex
  nt : PT w lo hi n.nt c.nt
  le : PS w lo hi n.le c.le

/-- The notice in its box B, and the result's variable R, between two calls. -/
structure NB (w0 w : World) (B : Nat) (n : Ns) : Prop where
  bel : Below B w0 w
  m : w.rangeAt B 0 n.cells.toList
  tm : w.there B 0 6
  tr : w.there (B + 1) 0 6
  lt : B + 1 < w.heap.size
theorem NB.grow {w0 w w' : World} {B : Nat} {n : Ns} (h : NB w0 w B n) (hb : Below w.heap.size w w') : NB w0 w' B n :=
  ⟨h.bel.trans (hb.mono (by have := h.lt; omega)), rangeAt_below hb (by have := h.lt; omega) h.m, there_below hb (by have := h.lt; omega) h.tm, there_below hb h.lt h.tr, Nat.lt_of_lt_of_le h.lt hb.size⟩
theorem NB.drew {w0 w : World} {B : Nat} {n : Ns} (h : NB w0 w B n) : NB w0 w.drew B n := h.grow ((Below.refl _ _).drew)
def Ns.z : Ns := ⟨false, 0, none, none, none, none⟩
theorem NB.start (w : World) (n : Ns) : NB w ((w.alloc (.cells n.cells 97)).alloc (.cells Ns.z.cells 97)) w.heap.size n := by
  have b0 := (Below.refl (w.heap.size + 1) (w.alloc (.cells n.cells 97))).alloc (by simp) (.cells Ns.z.cells 97)
  refine ⟨((Below.refl w.heap.size w).alloc (Nat.le_refl _) _).alloc (by simp) _, rangeAt_below b0 (by omega) (rangeAt_new w n.cells 97), there_below b0 (by omega) (there_new w n.cells 97), ?_, by simp⟩
  have := there_new (w.alloc (.cells n.cells 97)) Ns.z.cells 97
  exact (by simpa using this : World.there _ (w.heap.size + 1) 0 Ns.z.cells.size)
/-- What the walk reads. -/
theorem NB.facts {w0 w : World} {B : Nat} {n : Ns} (h : NB w0 w B n) :
    w.cell? ⟨B, 2, none⟩ = some (.pointer n.ow) ∧ w.cell? ⟨B, 3, none⟩ = some (.pointer n.ex) ∧ w.cell? ⟨B, 4, none⟩ = some (.pointer n.nt) ∧ w.cell? ⟨B, 5, none⟩ = some (.pointer n.le) ∧
    w.frozen? ⟨B, 2, none⟩ = false ∧ w.frozen? ⟨B, 3, none⟩ = false ∧ w.frozen? ⟨B, 4, none⟩ = false ∧ w.frozen? ⟨B, 5, none⟩ = false :=
  ⟨by simpa using h.m 2 _ rfl, by simpa using h.m 3 _ rfl, by simpa using h.m 4 _ rfl, by simpa using h.m 5 _ rfl,
   by simpa using (h.tm 2 (by decide)).2, by simpa using (h.tm 3 (by decide)).2, by simpa using (h.tm 4 (by decide)).2, by simpa using (h.tm 5 (by decide)).2⟩
theorem NB.set {w0 w : World} {B : Nat} {n n' : Ns} (h : NB w0 w B n) (j : Nat) (v : Value) (e : n'.cells.toList = n.cells.toList.set j v) : NB w0 (w.setCell ⟨B, j, none⟩ v) B n' := by
  have hr := rangeAt_set h.m j v
  rw [← e, Nat.zero_add] at hr
  have ht : (w.setCells B j [v]).there B 0 6 := World.there_setCells h.tm B j [v]
  have ht2 : (w.setCells B j [v]).there (B + 1) 0 6 := World.there_setCells h.tr B j [v]
  exact ⟨h.bel.setCell (p := ⟨B, j, none⟩) (Nat.le_refl _) v, hr, ht, ht2, by simpa [World.setCell] using h.lt⟩

theorem PS.set {w : World} {lo hi : Nat} {p : Option Addr} {o : Option ByteArray} (h : PS w lo hi p o) {a : Addr} (ha : a.block < lo) (v : Value) : PS (w.setCell a v) lo hi p o := by
  rcases h with h | ⟨b, s, e1, e2, a1, a2, a3, a4, a5⟩
  · exact .inl h
  · refine .inr ⟨b, s, e1, e2, a1, a2, a3, ?_, ?_⟩
    · rw [World.cell?_setCell_other w a ⟨b, 0, none⟩ v (by intro e; rw [e] at ha; simp at ha; omega)]; exact a4
    · rw [World.frozen?_setCell]; exact a5
theorem PT.set {w : World} {lo hi : Nat} {p : Option Addr} {o : Option (Int × Int)} (h : PT w lo hi p o) {b j : Nat} (ha : b < lo) (v : Value) : PT (w.setCell ⟨b, j, none⟩ v) lo hi p o := by
  rcases h with h | ⟨g, s, e1, e2, a1, a2, a3, a4⟩
  · exact .inl h
  · exact .inr ⟨g, s, e1, e2, a1, a2, World.rangeAt_setCells_apart a3 b j [v] (.inl (by omega)), World.there_setCells a4 b j [v]⟩

/-- Behind the first of the two assignments. -/
def Half1 (w wx : World) (n : Ns) (c : Nc) : Prop :=
  ∃ q1 q2, NB w wx w.heap.size { n with ow := q1, ex := q2 } ∧ PS wx (w.heap.size + 2) wx.heap.size q1 c.ow ∧ PT wx (w.heap.size + 2) wx.heap.size q2 c.ex
theorem half1_of {w a w1 w2 : World} {n : Ns} {c : Nc} {q1 q2 : Option Addr} (k0 : NB w a w.heap.size n) (hb1 : Below a.heap.size a w1) (p1 : PS w1 a.heap.size w1.heap.size q1 c.ow)
    (hb2 : Below w1.heap.size w1 w2) (p2 : PT w2 w1.heap.size w2.heap.size q2 c.ex) :
    Half1 w ((w2.setCell ⟨w.heap.size, 2, none⟩ (.pointer q1)).setCell ⟨w.heap.size, 3, none⟩ (.pointer q2)) n c := by
  have l0 := k0.lt
  have l1 := hb1.size
  have l2 := hb2.size
  refine ⟨q1, q2, (((k0.grow hb1).grow hb2).set (n' := { n with ow := q1 }) 2 _ rfl).set 3 _ rfl, ?_, ?_⟩
  · have := ((p1.up hb2 (Nat.le_refl _) (Nat.le_refl _) hb2.size).set (a := ⟨w.heap.size, 2, none⟩) (by simp; omega) (.pointer q1)).set (a := ⟨w.heap.size, 3, none⟩) (by simp; omega) (.pointer q2)
    exact this.up (Below.refl _ _) (Nat.le_refl _) (by omega) (by simp [World.setCell])
  · have := (p2.set (b := w.heap.size) (j := 2) (by omega) (.pointer q1)).set (b := w.heap.size) (j := 3) (by omega) (.pointer q2)
    exact this.up (Below.refl _ _) (Nat.le_refl _) (by omega) (by simp [World.setCell])

/-- Behind the second. -/
def Half2 (w wx : World) (n : Ns) (c : Nc) : Prop :=
  ∃ m : Ns, m.nf = n.nf ∧ m.na = n.na ∧ NB w wx w.heap.size m ∧ NT wx (w.heap.size + 2) wx.heap.size m c
theorem half2_of {w a w1 w2 : World} {n : Ns} {c : Nc} {q1 q2 q3 q4 : Option Addr} (k0 : NB w a w.heap.size { n with ow := q1, ex := q2 }) (p1 : PS a (w.heap.size + 2) a.heap.size q1 c.ow) (p2 : PT a (w.heap.size + 2) a.heap.size q2 c.ex)
    (hb1 : Below a.drew.heap.size a.drew w1) (p3 : PT w1 a.drew.heap.size w1.heap.size q3 c.nt) (hb2 : Below w1.heap.size w1 w2) (p4 : PS w2 w1.heap.size w2.heap.size q4 c.le) :
    Half2 w ((w2.setCell ⟨w.heap.size, 4, none⟩ (.pointer q3)).setCell ⟨w.heap.size, 5, none⟩ (.pointer q4)) n c := by
  have l0 := k0.lt
  have l1 : a.heap.size ≤ w1.heap.size := hb1.size
  have l2 := hb2.size
  have hd : Below a.heap.size a a.drew := (Below.refl _ _).drew
  have hb : Below a.heap.size a w2 := (hd.trans hb1).trans (hb2.mono l1)
  refine ⟨{ n with ow := q1, ex := q2, nt := q3, le := q4 }, rfl, rfl, (((k0.drew.grow hb1).grow hb2).set (n' := { n with ow := q1, ex := q2, nt := q3 }) 4 _ rfl).set 5 _ rfl, ?_, ?_, ?_, ?_⟩
  · have := ((p1.up hb (Nat.le_refl _) (Nat.le_refl _) hb.size).set (a := ⟨w.heap.size, 4, none⟩) (by simp) (.pointer q3)).set (a := ⟨w.heap.size, 5, none⟩) (by simp) (.pointer q4)
    exact this.up (Below.refl _ _) (Nat.le_refl _) (by omega) (by simp [World.setCell])
  · have := ((p2.up hb (Nat.le_refl _) (Nat.le_refl _) hb.size).set (b := w.heap.size) (j := 4) (by omega) (.pointer q3)).set (b := w.heap.size) (j := 5) (by omega) (.pointer q4)
    exact this.up (Below.refl _ _) (Nat.le_refl _) (by omega) (by simp [World.setCell])
  · have l3 : a.drew.heap.size = a.heap.size := rfl
    have := ((p3.up hb2 (Nat.le_refl _) (Nat.le_refl _) hb2.size).set (b := w.heap.size) (j := 4) (by omega) (.pointer q3)).set (b := w.heap.size) (j := 5) (by omega) (.pointer q4)
    exact this.up (Below.refl _ _) (Nat.le_refl _) (by omega) (by simp [World.setCell])
  · have := (p4.set (a := ⟨w.heap.size, 4, none⟩) (by simp; omega) (.pointer q3)).set (a := ⟨w.heap.size, 5, none⟩) (by simp; omega) (.pointer q4)
    exact this.up (Below.refl _ _) (Nat.le_refl _) (by omega) (by simp [World.setCell])

theorem size97 : (Try.prog.info? 97).map (·.size) = some 6 := by kernel_rfl
theorem row97 : ((Try.prog.underlying 97).map TypeDesc.isRow) = some true := by kernel_rfl
theorem load97S (v : Value) : Instr.loadAt 97 v = loadS 97 v := rfl
theorem store97S (p v : Value) : Instr.storeAt 97 p v = storeS 97 p v := rfl
theorem load97V_at {w : World} {g o : Nat} {n : Ns} (h : w.rangeAt g o n.cells.toList) : (loadS 97 (.pointer (some ⟨g, o, none⟩))).run Try.prog w = .ok (.agg n.cells) w := by
  obtain ⟨d, hu, hd⟩ := isRow_of row97
  exact run_loadAt_mid (P := Try.prog) w g o 97 n.cells.toList d h hu hd size97
theorem ncells_one (n : Ns) : n.cells.all (·.oneCell') = true := all_oneCell_toArray (cs := n.cells.toList) (by unfold Ns.cells; simp [Value.oneCell'])
theorem store97V_at {w : World} {g o : Nat} (n : Ns) (h : w.there g o 6) : (storeS 97 (.pointer (some ⟨g, o, none⟩)) (.agg n.cells)).run Try.prog w = .ok () (w.setCells g o n.cells.toList) :=
  run_storeAt_mid (P := Try.prog) w g o 97 n.cells h size97 (ncells_one n)
theorem PS.sets {w : World} {lo hi : Nat} {p : Option Addr} {o : Option ByteArray} (h : PS w lo hi p o) {g : Nat} (hg : g < lo) (vs : List Value) (j : Nat) : PS (w.setCells g j vs) lo hi p o := by
  induction vs generalizing w j with
  | nil => exact h
  | cons v vs ih => exact ih (h.set (a := ⟨g, j, none⟩) hg v) _
theorem PT.sets {w : World} {lo hi : Nat} {p : Option Addr} {o : Option (Int × Int)} (h : PT w lo hi p o) {g : Nat} (hg : g < lo) (vs : List Value) (j : Nat) : PT (w.setCells g j vs) lo hi p o := by
  induction vs generalizing w j with
  | nil => exact h
  | cons v vs ih => exact ih (h.set (b := g) (j := j) hg v) _
theorem NT.sets {w : World} {lo hi : Nat} {n : Ns} {c : Nc} (h : NT w lo hi n c) {g : Nat} (hg : g < lo) (vs : List Value) (j : Nat) : NT (w.setCells g j vs) lo hi n c :=
  ⟨h.ow.sets hg vs j, h.ex.sets hg vs j, h.nt.sets hg vs j, h.le.sets hg vs j⟩
theorem NT.up {w w' : World} {lo hi B lo' hi' : Nat} {n : Ns} {c : Nc} (h : NT w lo hi n c) (hb : Below B w w') (hB : hi ≤ B) (h1 : lo' ≤ lo) (h2 : hi ≤ hi') : NT w' lo' hi' n c :=
  ⟨h.ow.up hb hB h1 h2, h.ex.up hb hB h1 h2, h.nt.up hb hB h1 h2, h.le.up hb hB h1 h2⟩
attribute [local go_sem ↓] load97S store97S

set_option maxRecDepth 100000 in
set_option maxHeartbeats 1000000 in
theorem noticeClone (n : Ns) (c : Nc) (lo hi : Nat) (w : World) (hh : hi ≤ w.heap.size) (h : NT w lo hi n c) :
    Calls Try.prog 69 #[.agg n.cells] w fun e w' => ∃ m : Ns, e = .returned (.agg m.cells) ∧ m.nf = n.nf ∧ m.na = n.na ∧ NT w' w.heap.size w'.heap.size m c ∧ Below w.heap.size w w' := by
  have k0 := (NB.start w n).drew
  obtain ⟨a1, a2, a3, a4⟩ := h
  have k0' : Hid _ := k0
  clear k0
  unfold Ns.cells
  go_enter Try.func69, Try.ntmps69
  go_upto_region 1 with fail
  have k0 := k0'.out
  clear k0'
  go_cut [8] from 3 to 10 (fun _ wx => Half1 w wx n c)
  case first => as_aux_lemma =>
    go_region_with (first
      | (go_at_call 72; refine (clonePtrS _ c.ow lo hi _ (a1.up k0.bel hh (Nat.le_refl _) (Nat.le_refl _))).mono ?_; rintro e w1 ⟨q1, rfl, p1, hb1⟩; have k1 := k0.grow hb1; obtain ⟨c2, c3, c4, c5, f2, f3, f4, f5⟩ := k1.facts)
      | (go_at_call 73; refine (clonePtrT _ c.ex lo hi _ (a2.up k1.bel hh (Nat.le_refl _) (Nat.le_refl _))).mono ?_; rintro e w2 ⟨q2, rfl, p2, hb2⟩; have k2 := k1.grow hb2; clear c2 c3 c4 c5 f2 f3 f4 f5; obtain ⟨c2, c3, c4, c5, f2, f3, f4, f5⟩ := k2.facts))
    all_goals (go_wp2_with fail; go_meet; exact half1_of k0 hb1 p1 hb2 p2)
  case rest =>
  obtain ⟨q1, q2, k2, p1, p2⟩ := hcut
  clear k0
  have kd := k2.drew
  obtain ⟨c2, c3, c4, c5, f2, f3, f4, f5⟩ := k2.facts
  go_upto_region 2 with fail
  go_cut [16] from 11 to 18 (fun _ wx => Half2 w wx n c)
  case first => as_aux_lemma =>
    go_region_with (first
      | (go_at_call 73; refine (clonePtrT _ c.nt lo hi _ (a3.up kd.bel hh (Nat.le_refl _) (Nat.le_refl _))).mono ?_; rintro e w1 ⟨q3, rfl, p3, hb1⟩; have k3 := kd.grow hb1; clear c2 c3 c4 c5 f2 f3 f4 f5; obtain ⟨c2, c3, c4, c5, f2, f3, f4, f5⟩ := k3.facts)
      | (go_at_call 72; refine (clonePtrS _ c.le lo hi _ (a4.up k3.bel hh (Nat.le_refl _) (Nat.le_refl _))).mono ?_; rintro e w2 ⟨q4, rfl, p4, hb2⟩; have k4 := k3.grow hb2; clear c2 c3 c4 c5 f2 f3 f4 f5; obtain ⟨c2, c3, c4, c5, f2, f3, f4, f5⟩ := k4.facts))
    all_goals (go_wp2_with fail; go_meet; exact half2_of k2 p1 p2 hb1 p3 hb2 p4)
  case rest =>
  obtain ⟨m, e1, e2, k4, hN⟩ := hcut
  clear k2 kd c2 c3 c4 c5 f2 f3 f4 f5
  have hld := load97V_at k4.m
  have hsv := store97V_at m k4.tr
  go_wp2
  refine bodyPost_ret (v := .agg m.cells) (results_cell1 (cs := m.cells) Try.results69 row97 size97 rfl (World.rangeAt_setCells_same _ _ _ _ k4.tr)) rfl ⟨m, rfl, e1, e2, ?_, below_setCells k4.bel (by omega) _ _⟩
  exact (hN.sets (by omega) _ _).up (Below.refl _ _) (Nat.le_refl _) (by omega) (by rw [size_setCells]; exact Nat.le_refl _)
end Go.Proofs.Qxb6614903a
