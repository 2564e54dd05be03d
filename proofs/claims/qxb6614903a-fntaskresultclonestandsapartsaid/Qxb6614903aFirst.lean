import Derived.Test.Qxb6614903aFlight
import Derived.Deep.DrawnRows
namespace Go.Proofs.Qxb6614903a
open Go.RowKit
attribute [local go_sem ↓] Go.wp_at_zero Go.wp_at_succ

/-! Three operations whose run the walk shall not open cell by cell: each under a name, met by an equation among the hypotheses. -/
def loadS (t : TypeId) (v : Value) : Sem Value := Instr.loadAt t v
def buildS (t : TypeId) (ps : Array (Nat × Value)) : Sem Value := Instr.build t ps
def storeS (t : TypeId) (p v : Value) : Sem Unit := Instr.storeAt t p v
theorem load128S (v : Value) : Instr.loadAt 128 v = loadS 128 v := rfl
theorem build85S (ps : Array (Nat × Value)) : Instr.build 85 ps = buildS 85 ps := rfl
theorem store85S (p v : Value) : Instr.storeAt 85 p v = storeS 85 p v := rfl
theorem load128V_at {w : World} {g o : Nat} {n : Nt} (h : w.rangeAt g o n.cells.toList) : (loadS 128 (.pointer (some ⟨g, o, none⟩))).run Try.prog w = .ok (.agg n.cells) w := by
  obtain ⟨d, hu, hd⟩ := isRow_of row128
  exact run_loadAt_mid (P := Try.prog) w g o 128 n.cells.toList d h hu hd size128
theorem build85V_flight (n : Nt) (w : World) : (buildS 85 #[(0, .string n.id), (1, .agg n.deliv)]).run Try.prog w = .ok (.agg n.flight) w := by kernel_rfl

def Nt.zero : Nt := { id := ⟨#[]⟩, cmd := ⟨#[]⟩, typ := 0, src := none, content := ⟨#[]⟩, pr := none, st := 0, att := 0, le := none, de := none, ow := none, ep := 0 }

/-- What a result of a struct in memory and a bool reads as. -/
theorem results_cell2 {fn : Func} {p u : Tmp} {ty : TypeId} (h : fn.results = #[.cell p ty, .tmp u]) {b : Nat} {cs : Array Value} {tmps : Array Value} {w : World}
    (hrow : ((Try.prog.underlying ty).map TypeDesc.isRow) = some true) (hsize : (Try.prog.info? ty).map (·.size) = some cs.size)
    (hp : tmps.getD p undef = .pointer (some ⟨b, 0, none⟩)) (hr : w.rangeAt b 0 cs.toList) :
    (results fn tmps).run Try.prog w = .ok (.tuple #[.agg cs, tmps.getD u undef]) w := by
  obtain ⟨d, hu, hd⟩ := isRow_of hrow
  rw [results_cell_tmp h, hp]
  have := run_loadVar_mid (P := Try.prog) w b 0 ty cs.toList d hr hu hd (by rw [hsize]; simp)
  simp [asAddr, this, Result.andThen]

theorem results_cell1 {fn : Func} {p : Tmp} {ty : TypeId} (h : fn.results = #[.cell p ty]) {b : Nat} {cs : Array Value} {tmps : Array Value} {w : World}
    (hrow : ((Try.prog.underlying ty).map TypeDesc.isRow) = some true) (hsize : (Try.prog.info? ty).map (·.size) = some cs.size)
    (hp : tmps.getD p undef = .pointer (some ⟨b, 0, none⟩)) (hr : w.rangeAt b 0 cs.toList) :
    (results fn tmps).run Try.prog w = .ok (.agg cs) w := by
  obtain ⟨d, hu, hd⟩ := isRow_of hrow
  have := run_loadVar_mid (P := Try.prog) w b 0 ty cs.toList d hr hu hd (by rw [hsize]; simp)
  have hp' : tmps[p]?.getD undef = .pointer (some ⟨b, 0, none⟩) := by simpa using hp
  simp only [results, h]
  simp [hp', asAddr, this]

theorem build85V_zero (w : World) : (buildS 85 #[]).run Try.prog w = .ok (.agg Nt.zero.flight) w := by kernel_rfl
theorem flight_one (n : Nt) : n.flight.all (·.oneCell') = true := all_oneCell_toArray (cs := n.flight.toList) (by unfold Nt.flight; simp [Value.oneCell'])
theorem size_flight (n : Nt) : (Try.prog.info? 85).map (·.size) = some n.flight.size := size85
theorem store85V_at {w : World} {g o : Nat} (n : Nt) (h : w.there g o 11) : (storeS 85 (.pointer (some ⟨g, o, none⟩)) (.agg n.flight)).run Try.prog w = .ok () (w.setCells g o n.flight.toList) :=
  run_storeAt_mid (P := Try.prog) w g o 85 n.flight h (size_flight n) (flight_one n)

theorem there_new (w : World) (cs : Array Value) (t : TypeId) : (w.alloc (.cells cs t)).there w.heap.size 0 cs.size := by
  intro j hj
  have h : (w.alloc (.cells cs t)).heap[w.heap.size]? = some (.cells cs t) := heap_alloc_new w _
  refine ⟨?_, ?_⟩
  · rw [cell_of_row _ _ _ cs t (0, 0) h]; simp [hj]
  · unfold World.frozen?; rw [h]; simp

theorem there_below {B : Nat} {w w' : World} (hb : Below B w w') {g o n : Nat} (hg : g < B) (h : w.there g o n) : w'.there g o n :=
  fun j hj => by rw [hb.cell (p := ⟨g, o + j, none⟩) hg, hb.frozen (p := ⟨g, o + j, none⟩) hg]; exact h j hj

theorem below_setCells {B : Nat} {a w : World} (h : Below B a w) {g : Nat} (hg : B ≤ g) (vs : List Value) (o : Nat) : Below B a (w.setCells g o vs) := by
  induction vs generalizing w o with
  | nil => exact h
  | cons v vs ih => exact ih (h.setCell (p := ⟨g, o, none⟩) hg v) _

/-- What the region keeps: the notification lies there, the result's variable lies there, below R all is as it was. -/
def Kp (R g o : Nat) (n : Nt) (w w' : World) : Prop := w'.rangeAt g o n.cells.toList ∧ w'.there R 0 11 ∧ g < R ∧ R < w'.heap.size ∧ Below R w w'
theorem keep_of {R g o : Nat} {n : Nt} {w w' : World} (h : Kp R g o n w w') :
    (loadS 128 (.pointer (some ⟨g, o, none⟩))).run Try.prog w' = .ok (.agg n.cells) w' ∧ (storeS 85 (.pointer (some ⟨R, 0, none⟩)) (.agg n.flight)).run Try.prog w' = .ok () (w'.setCells R 0 n.flight.toList) ∧ Kp R g o n w w' := ⟨load128V_at h.1, store85V_at n h.2.1, h⟩
theorem keep_start {R g o : Nat} {n : Nt} {w w' : World} (h1 : w'.rangeAt g o n.cells.toList) (h2 : w'.there R 0 11) (h3 : g < R) (h4 : R < w'.heap.size) (h5 : Below R w w') : Kp R g o n w w'.drew :=
  ⟨(World.rangeAt_drew _ _ _ _).2 h1, (World.there_drew _ _ _ _).2 h2, h3, h4, h5.drew⟩
theorem there_of {R g o : Nat} {n : Nt} {w a b : World} (hb : Below a.heap.size a b) (h : Kp R g o n w a) : b.there R 0 11 := there_below hb h.2.2.2.1 h.2.1
theorem below_of {R g o : Nat} {n : Nt} {w a b : World} (hb : Below a.heap.size a b) (h : Kp R g o n w a) : Below R w b := h.2.2.2.2.trans (hb.mono (Nat.le_of_lt h.2.2.2.1))
theorem kp_call {R g o : Nat} {n : Nt} {w a b : World} (hb : Below a.heap.size a b) (h : Kp R g o n w a) : Kp R g o n w b :=
  ⟨rangeAt_below hb (Nat.lt_trans h.2.2.1 h.2.2.2.1) h.1, there_of hb h, h.2.2.1, Nat.lt_of_lt_of_le h.2.2.2.1 hb.size, below_of hb h⟩
theorem size_setCells (w : World) (g : Nat) (vs : List Value) (o : Nat) : (w.setCells g o vs).heap.size = w.heap.size := by
  induction vs generalizing w o with
  | nil => rfl
  | cons v vs ih => exact (ih (w.setCell ⟨g, o, none⟩ v) _).trans (by simp [World.setCell])
theorem kp_store {R g o : Nat} {n : Nt} {w a : World} (h : Kp R g o n w a) (vs : List Value) : Kp R g o n w (a.setCells R 0 vs) :=
  ⟨World.rangeAt_setCells_apart h.1 R 0 vs (.inl (by have := h.2.2.1; omega)), World.there_setCells h.2.1 R 0 vs, h.2.2.1, by rw [size_setCells]; exact h.2.2.2.1, below_setCells h.2.2.2.2 (Nat.le_refl _) vs 0⟩
attribute [local go_sem ↓] load128S build85S store85S
set_option maxRecDepth 100000 in
set_option maxHeartbeats 1000000 in
theorem first_any (ao : Option Addr) (cap : Nat) (ns : List Nt) (w : World) (hl : ns.length ≤ 1048576) (h : NtsAt w ao ns) :
    Calls Try.prog 51 #[.slice ao ns.length cap] w fun e w' =>
      ((e = .returned (.tuple #[.agg Nt.zero.flight, .bool false]) ∧ ∀ j, (h : j < ns.length) → ns[j].st ≠ 2) ∨
       ∃ k, ∃ hk : k < ns.length, e = .returned (.tuple #[.agg ns[k].flight, .bool true]) ∧ ns[k].st = 2 ∧ ∀ j, (h : j < k) → ns[j].st ≠ 2) ∧ Below w.heap.size w w' := by
  have hb0 : Below w.heap.size w (w.alloc (.cells Nt.zero.flight 85)) := (Below.refl _ _).alloc (Nat.le_refl _) _
  have ht0 := there_new w Nt.zero.flight 85
  have h0 : NtsAt (w.alloc (.cells Nt.zero.flight 85)) ao ns := fun i hi => by
    obtain ⟨g, e, hg, hr⟩ := h i hi
    exact ⟨g, e, by simp; omega, rangeAt_below hb0 hg hr⟩
  have hbz := build85V_zero
  have hbf := build85V_flight
  have hx := index_any ao cap ns _ hl h0
  have hz : w.heap.size < (w.alloc (.cells Nt.zero.flight 85)).heap.size := by simp
  have hcells : (w.alloc (.cells Nt.zero.flight 85)) = w.alloc (.cells #[.string ⟨#[]⟩, .pointer none, .int .i64 0, .int .i64 0, .pointer none, .pointer none, .pointer none, .pointer none, .pointer none, .pointer none, .int .i64 0] 85) := rfl
  rw [hcells] at hx
  generalize hW : w.alloc (.cells Nt.zero.flight 85) = W at hb0 ht0 h0 hz
  go_enter Try.func51, Try.ntmps51
  go_wp2_with fail
  refine hx.mono ?_
  rintro e w1 ⟨⟨i, rfl, hi⟩, hb1⟩
  rw [← hcells, hW] at hb1
  clear hx hcells hW
  have hb : Below w.heap.size w w1 := hb0.trans (hb1.mono (Nat.le_of_lt hz))
  have ht1 := there_below hb1 hz ht0
  have hz1 : w.heap.size < w1.heap.size := Nat.lt_of_lt_of_le hz hb1.size
  rcases hi with ⟨rfl, hno⟩ | ⟨k, rfl, hk, hst, hno⟩
  · have hst0 := store85V_at Nt.zero ht1
    go_wp2
    refine bodyPost_ret (v := .tuple #[.agg Nt.zero.flight, .bool false]) ?_ rfl ⟨.inl ⟨rfl, hno⟩, below_setCells hb (Nat.le_refl _) _ _⟩
    exact results_cell2 (cs := Nt.zero.flight) Try.results51 row85 size85 rfl (World.rangeAt_setCells_same _ _ _ _ ht1)
  · obtain ⟨g, rfl, hg, hr⟩ := h k hk
    have hr1 := rangeAt_below hb hg hr
    generalize hn : ns[k] = n at hr1 hst
    have HN : Hid (ns[k] = n) := hn
    have HO : Hid (∀ j, (h : j < k) → ns[j].st ≠ 2) := hno
    have HT : Hid (n.st = 2) := hst
    have hm1 := method_delivery n _ rfl
    have hm2 := method_key n _ rfl
    simp only [String.reduceOfList] at hm1 hm2
    have hk0 : (0 : Int) ≤ (k : Int) := Int.natCast_nonneg _
    have hk1 : (k : Int) < (ns.length : Int) := by omega
    have hstart := keep_start hr1 ht1 hg hz1 hb
    clear hno hn hr h h0 ht0 hb0 hb1 hst hz hr1
    go_wp2_with fail
    go_region_held3 (fun w' => (loadS 128 (.pointer (some ⟨g, k * 21, none⟩))).run Try.prog w' = .ok (.agg n.cells) w' ∧ (storeS 85 (.pointer (some ⟨w.heap.size, 0, none⟩)) (.agg n.flight)).run Try.prog w' = .ok () (w'.setCells w.heap.size 0 n.flight.toList) ∧ Kp w.heap.size g (k * 21) n w w')
      (first | with_reducible exact keep_of hstart | with_reducible exact keep_of hk2 | with_reducible exact keep_of hk3 | with_reducible exact keep_of (kp_store hk3 _))
      (first | (go_at_call 112; refine (key_any n _).mono ?_; rintro e w2 ⟨rfl, hbX⟩; have hk2 := kp_call hbX hstart) | (go_at_call 101; refine (delivery_any n _).mono ?_; rintro e w3 ⟨rfl, hbY⟩; have hk3 := kp_call hbY hk2))
    go_wp2
    refine bodyPost_ret (v := .tuple #[.agg n.flight, .bool true]) ?_ rfl ⟨.inr ⟨k, hk, ?_, ?_, HO.out⟩, (kp_store hk3 _).2.2.2.2⟩
    · exact results_cell2 (cs := n.flight) Try.results51 row85 size85 rfl (World.rangeAt_setCells_same _ _ _ _ hk3.2.1)
    · rw [HN.out]
    · rw [HN.out]; exact HT.out

/-- What the first flight of a row of notifications is. -/
def FirstOf (ns : List Nt) (e : Ending) : Prop :=
  (e = .returned (.tuple #[.agg Nt.zero.flight, .bool false]) ∧ ∀ j, (h : j < ns.length) → ns[j].st ≠ 2) ∨
    ∃ k, ∃ hk : k < ns.length, e = .returned (.tuple #[.agg ns[k].flight, .bool true]) ∧ ns[k].st = 2 ∧ ∀ j, (h : j < k) → ns[j].st ≠ 2

set_option maxRecDepth 100000 in
theorem inFlight_any (q : Nat) (ao : Option Addr) (cap : Nat) (ns : List Nt) (w : World) (hl : ns.length ≤ 1048576) (h : NtsAt w ao ns) (hq : w.cell? ⟨q, 2, none⟩ = some (.slice ao ns.length cap)) :
    Calls Try.prog 29 #[.pointer (some ⟨q, 0, none⟩)] w fun e w' => FirstOf ns e ∧ Below w.heap.size w w' := by
  have hb0 : Below w.heap.size w (w.alloc (.cells Nt.zero.flight 85)) := (Below.refl _ _).alloc (Nat.le_refl _) _
  have ht0 := there_new w Nt.zero.flight 85
  have hqb : q < w.heap.size := World.block_lt_of_cell? w _ hq
  have h0 : NtsAt (w.alloc (.cells Nt.zero.flight 85)) ao ns := fun i hi => by
    obtain ⟨g, e, hg, hr⟩ := h i hi
    exact ⟨g, e, by simp; omega, rangeAt_below hb0 hg hr⟩
  have hx := first_any ao cap ns _ hl h0
  have hz : w.heap.size < (w.alloc (.cells Nt.zero.flight 85)).heap.size := by simp
  have hcells : (w.alloc (.cells Nt.zero.flight 85)) = w.alloc (.cells #[.string ⟨#[]⟩, .pointer none, .int .i64 0, .int .i64 0, .pointer none, .pointer none, .pointer none, .pointer none, .pointer none, .pointer none, .int .i64 0] 85) := rfl
  rw [hcells] at hx
  go_enter Try.func29, Try.ntmps29
  go_wp2_with fail
  refine hx.mono ?_
  rintro e w1 ⟨hcase, hb1⟩
  rw [← hcells] at hb1
  clear hx hcells
  generalize hW : w.alloc (.cells Nt.zero.flight 85) = W at hb0 ht0 h0 hz hb1
  clear hW
  have hb : Below w.heap.size w w1 := hb0.trans (hb1.mono (Nat.le_of_lt hz))
  have ht1 := there_below hb1 hz ht0
  rcases hcase with ⟨rfl, hno⟩ | ⟨k, hk, rfl, hst, hno⟩
  · have hst0 := store85V_at Nt.zero ht1
    go_wp2
    refine bodyPost_ret (v := .tuple #[.agg Nt.zero.flight, .bool false]) ?_ rfl ⟨.inl ⟨rfl, hno⟩, below_setCells hb (Nat.le_refl _) _ _⟩
    exact results_cell2 (cs := Nt.zero.flight) Try.results29 row85 size85 rfl (World.rangeAt_setCells_same _ _ _ _ ht1)
  · generalize hn : ns[k] = n at hst
    have HN : Hid (ns[k] = n) := hn
    have HO : Hid (∀ j, (h : j < k) → ns[j].st ≠ 2) := hno
    have HT : Hid (n.st = 2) := hst
    clear hn hno hst
    have hst0 := store85V_at n ht1
    go_wp2
    refine bodyPost_ret (v := .tuple #[.agg n.flight, .bool true]) ?_ rfl ⟨.inr ⟨k, hk, ?_, ?_, HO.out⟩, below_setCells hb (Nat.le_refl _) _ _⟩
    · exact results_cell2 (cs := n.flight) Try.results29 row85 size85 rfl (World.rangeAt_setCells_same _ _ _ _ ht1)
    · rw [HN.out]
    · rw [HN.out]; exact HT.out
end Go.Proofs.Qxb6614903a
