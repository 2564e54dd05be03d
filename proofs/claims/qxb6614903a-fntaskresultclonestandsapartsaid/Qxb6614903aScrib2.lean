import Derived.Test.Qxb6614903aScrib
namespace Go.Proofs.Qxb6614903a
open Go.RowKit
attribute [local go_sem ↓] Go.wp_at_zero Go.wp_at_succ

/-- Only blocks of lo .. hi were written; new blocks may lie behind. -/
structure Keep (lo hi : Nat) (w w' : World) : Prop where
  os : w'.os = w.os
  tape : w'.tape = w.tape
  output : w'.output = w.output
  size : w.heap.size ≤ w'.heap.size
  block : ∀ k, k < w.heap.size → (k < lo ∨ hi ≤ k) → w'.heap[k]? = w.heap[k]?
theorem Keep.below {lo hi : Nat} {w w' : World} (h : Keep lo hi w w') (hl : lo ≤ w.heap.size) : Below lo w w' :=
  ⟨h.os, h.tape, h.output, h.size, fun k hk => h.block k (by omega) (.inl hk)⟩
theorem Keep.of {lo hi : Nat} {w w' : World} (h : Below w.heap.size w w') : Keep lo hi w w' := ⟨h.os, h.tape, h.output, h.size, fun k hk _ => h.block k hk⟩
theorem Keep.trans {lo hi : Nat} {a b c : World} (h : Keep lo hi a b) (k : Keep lo hi b c) : Keep lo hi a c :=
  ⟨k.os.trans h.os, k.tape.trans h.tape, k.output.trans h.output, Nat.le_trans h.size k.size, fun i hi h0 => (k.block i (Nat.lt_of_lt_of_le hi h.size) h0).trans (h.block i hi h0)⟩
theorem Keep.set {lo hi : Nat} {a b : World} (h : Keep lo hi a b) {p : Addr} (h1 : lo ≤ p.block) (h2 : p.block < hi) (v : Value) : Keep lo hi a (b.setCell p v) := by
  have hb1 := (Below.refl p.block b).setCell (p := p) (Nat.le_refl _) v
  refine h.trans ⟨hb1.os, hb1.tape, hb1.output, hb1.size, fun k hk h0 => ?_⟩
  have hne : p.block ≠ k := by omega
  simp only [World.setCell]
  rw [Array.getElem?_modify, if_neg hne]
theorem Keep.sets {lo hi : Nat} {a b : World} (h : Keep lo hi a b) {g : Nat} (h1 : lo ≤ g) (h2 : g < hi) (vs : List Value) (j : Nat) : Keep lo hi a (b.setCells g j vs) := by
  induction vs generalizing b j with
  | nil => exact h
  | cons v vs ih => exact ih (h.set (p := ⟨g, j, none⟩) h1 h2 v) _
theorem Keep.range {lo hi : Nat} {w w' : World} (h : Keep lo hi w w') {g o : Nat} {cs : List Value} (hg : g < w.heap.size) (h0 : g < lo ∨ hi ≤ g) (hr : w.rangeAt g o cs) : w'.rangeAt g o cs := fun j v hv => by
  rw [World.cell?_of_block (a := ⟨g, o + j, none⟩) (h.block g hg h0)]; exact hr j v hv
theorem Keep.there {lo hi : Nat} {w w' : World} (h : Keep lo hi w w') {g o n : Nat} (hg : g < w.heap.size) (h0 : g < lo ∨ hi ≤ g) (hr : w.there g o n) : w'.there g o n := fun j hj => by
  rw [World.cell?_of_block (a := ⟨g, o + j, none⟩) (h.block g hg h0), World.frozen?_of_block (a := ⟨g, o + j, none⟩) (h.block g hg h0)]; exact hr j hj

/-- The scribbling: the task result in its variable b, the time in its box X. -/
structure SW (w0 w : World) (lo hi b X : Nat) (t : Tr) (u : Int × Int) (mark : ByteArray) (k : Nat) (m1 m2 n1 n2 : Bool) : Prop where
  tv : w.rangeAt b 0 t.cells.toList
  bx : w.rangeAt X 0 (tcells u).toList
  kp : Keep lo hi w0 w
  f : MF w lo hi t.fa t.fl k mark
  ow : MS w lo hi t.n.ow m1 mark
  le : MS w lo hi t.n.le m2 mark
  ex : MT w lo hi t.n.ex n1 u
  nt : MT w lo hi t.n.nt n2 u
theorem SW.facts {w0 w : World} {lo hi b X : Nat} {t : Tr} {u : Int × Int} {mark : ByteArray} {k : Nat} {m1 m2 n1 n2 : Bool} (h : SW w0 w lo hi b X t u mark k m1 m2 n1 n2) :
    w.cell? ⟨b, 5, none⟩ = some (.slice t.fa t.fl t.fc) ∧ w.cell? ⟨b, 10, none⟩ = some (.pointer t.n.ow) ∧ w.cell? ⟨b, 11, none⟩ = some (.pointer t.n.ex) ∧ w.cell? ⟨b, 12, none⟩ = some (.pointer t.n.nt) ∧ w.cell? ⟨b, 13, none⟩ = some (.pointer t.n.le) :=
  ⟨by simpa using h.tv 5 _ rfl, by simpa using h.tv 10 _ rfl, by simpa using h.tv 11 _ rfl, by simpa using h.tv 12 _ rfl, by simpa using h.tv 13 _ rfl⟩
/-- A string cell of lo .. hi is marked. -/
theorem SW.str {w0 w : World} {lo hi b X : Nat} {t : Tr} {u : Int × Int} {mark : ByteArray} {k : Nat} {m1 m2 n1 n2 : Bool} (h : SW w0 w lo hi b X t u mark k m1 m2 n1 n2) (hb : hi ≤ b) (hX : hi ≤ X) {g j : Nat} (h1 : lo ≤ g) (h2 : g < hi) {s0 : ByteArray} (hc : w.cell? ⟨g, j, none⟩ = some (.string s0)) :
    SW w0 (w.setCell ⟨g, j, none⟩ (.string mark)) lo hi b X t u mark k m1 m2 n1 n2 :=
  ⟨rangeAt_far h.tv [.string mark] (by omega), rangeAt_far h.bx [.string mark] (by omega), h.kp.set (p := ⟨g, j, none⟩) h1 h2 _, h.f.str _ hc, h.ow.str _ hc, h.le.str _ hc, h.ex.str _ hc, h.nt.str _ hc⟩
/-- A time of lo .. hi is marked. -/
theorem SW.tim {w0 w : World} {lo hi b X : Nat} {t : Tr} {u : Int × Int} {mark : ByteArray} {k : Nat} {m1 m2 n1 n2 : Bool} (h : SW w0 w lo hi b X t u mark k m1 m2 n1 n2) (hb : hi ≤ b) (hX : hi ≤ X) {g : Nat} (h1 : lo ≤ g) (h2 : g < hi) {v : Int × Int} (hc : w.rangeAt g 0 (tcells v).toList) (ht : w.there g 0 3) :
    SW w0 (w.setCells g 0 (tcells u).toList) lo hi b X t u mark k m1 m2 n1 n2 :=
  ⟨rangeAt_far h.tv _ (by omega), rangeAt_far h.bx _ (by omega), h.kp.sets h1 h2 _ _, h.f.tim _ hc _, h.ow.tim _ hc _, h.le.tim _ hc _, h.ex.tim _ ht, h.nt.tim _ ht⟩
theorem SW.flagF {w0 w : World} {lo hi b X : Nat} {t : Tr} {u : Int × Int} {mark : ByteArray} {k : Nat} {m1 m2 n1 n2 : Bool} (h : SW w0 w lo hi b X t u mark k m1 m2 n1 n2) {g : Nat} (hg : t.fa = some ⟨g, 0, none⟩) (hk : w.cell? ⟨g, k, none⟩ = some (.string mark)) :
    SW w0 w lo hi b X t u mark (k + 1) m1 m2 n1 n2 := by
  refine ⟨h.tv, h.bx, h.kp, ?_, h.ow, h.le, h.ex, h.nt⟩
  rcases h.f with h0 | ⟨g', e, a1, a2, hr⟩
  · exact .inl h0
  · rw [hg] at e
    cases e
    refine .inr ⟨g, hg, a1, a2, fun i hi => ?_⟩
    obtain ⟨s, a4, a5, a6⟩ := hr i hi
    refine ⟨s, a4, a5, fun hik => ?_⟩
    by_cases he : i = k
    · subst he
      rw [a4] at hk
      cases hk; rfl
    · exact a6 (by omega)
theorem SW.drew {w0 w : World} {lo hi b X : Nat} {t : Tr} {u : Int × Int} {mark : ByteArray} {k : Nat} {m1 m2 n1 n2 : Bool} (h : SW w0 w lo hi b X t u mark k m1 m2 n1 n2) : SW w0 w.drew lo hi b X t u mark k m1 m2 n1 n2 :=
  ⟨h.tv, h.bx, h.kp.trans (Keep.of (Below.refl _ _).drew), h.f, h.ow, h.le, h.ex, h.nt⟩
theorem SW.timEx {w0 w : World} {lo hi b X : Nat} {t : Tr} {u v : Int × Int} {mark : ByteArray} {k : Nat} {m1 m2 n1 n2 : Bool} (h : SW w0 w lo hi b X t u mark k m1 m2 n1 n2) (hb : hi ≤ b) (hX : hi ≤ X) {g : Nat} (e : t.n.ex = some ⟨g, 0, none⟩) (h1 : lo ≤ g) (h2 : g < hi) (hc : w.rangeAt g 0 (tcells v).toList) (ht : w.there g 0 3) :
    SW w0 (w.setCells g 0 (tcells u).toList) lo hi b X t u mark k m1 m2 true n2 := by
  have q := h.tim hb hX h1 h2 hc ht
  exact ⟨q.tv, q.bx, q.kp, q.f, q.ow, q.le, .inr ⟨g, u, e, h1, h2, World.rangeAt_setCells_same _ _ _ _ ht, World.there_setCells ht _ _ _, fun _ => rfl⟩, q.nt⟩
theorem SW.timNt {w0 w : World} {lo hi b X : Nat} {t : Tr} {u v : Int × Int} {mark : ByteArray} {k : Nat} {m1 m2 n1 n2 : Bool} (h : SW w0 w lo hi b X t u mark k m1 m2 n1 n2) (hb : hi ≤ b) (hX : hi ≤ X) {g : Nat} (e : t.n.nt = some ⟨g, 0, none⟩) (h1 : lo ≤ g) (h2 : g < hi) (hc : w.rangeAt g 0 (tcells v).toList) (ht : w.there g 0 3) :
    SW w0 (w.setCells g 0 (tcells u).toList) lo hi b X t u mark k m1 m2 n1 true := by
  have q := h.tim hb hX h1 h2 hc ht
  exact ⟨q.tv, q.bx, q.kp, q.f, q.ow, q.le, q.ex, .inr ⟨g, u, e, h1, h2, World.rangeAt_setCells_same _ _ _ _ ht, World.there_setCells ht _ _ _, fun _ => rfl⟩⟩
attribute [local go_sem ↓] load62S store62S

set_option maxRecDepth 100000 in
set_option maxHeartbeats 1000000 in
theorem scribble_any (b lo hi : Nat) (t : Tr) (c : Rc) (u : Int × Int) (mark : ByteArray) (w : World) (hb : hi ≤ b) (hbw : b < w.heap.size) (hl : t.fl ≤ 1048576) (htv : w.rangeAt b 0 t.cells.toList) (h : TC w lo hi t c) :
    Calls Try.prog 40 #[.pointer (some ⟨b, 0, none⟩), .string mark, .agg (tcells u)] w fun e w' => e = .returned (.tuple #[]) ∧ SW w w' lo hi b w.heap.size t u mark t.fl true true true true := by
  have b0 : Below w.heap.size w (w.alloc (.cells (tcells u) 62)) := (Below.refl _ _).alloc (Nat.le_refl _) _
  have s0 : SW w (w.alloc (.cells (tcells u) 62)) lo hi b w.heap.size t u mark 0 false false false false :=
    ⟨rangeAt_below b0 hbw htv, rangeAt_new w (tcells u) 62, Keep.of b0, MF.of (h.f.up b0 (by omega) (Nat.le_refl _) (Nat.le_refl _)) mark, MS.of (h.n.ow.up b0 (by omega) (Nat.le_refl _) (Nat.le_refl _)) mark, MS.of (h.n.le.up b0 (by omega) (Nat.le_refl _) (Nat.le_refl _)) mark,
     MT.of (h.n.ex.up b0 (by omega) (Nat.le_refl _) (Nat.le_refl _)) u, MT.of (h.n.nt.up b0 (by omega) (Nat.le_refl _) (Nat.le_refl _)) u⟩
  clear b0
  go_enter Try.func40, Try.ntmps40
  go_wp2_with fail
  go_loopw [6] (fun i wr => ∃ k : Nat, k ≤ t.fl ∧ i = .int .i64 k ∧ SW w wr lo hi b w.heap.size t u mark k false false false false) (fun i _ => t.fl - (intOf i).toNat)
  case atStart => exact ⟨0, Nat.zero_le _, rfl, s0⟩
  case round =>
    clear s0
    obtain ⟨k, hk, rfl, hq⟩ := hrel
    obtain ⟨c5, c10, c11, c12, c13⟩ := hq.facts
    by_cases hlt : k < t.fl
    · rcases hq.f with h0 | ⟨g, e, a1, a2, hr⟩
      · omega
      · obtain ⟨s, d1, d2, _⟩ := hr k hlt
        have HST : Hid _ := (hq.str hb (by omega) a1 a2 d1).flagF e (World.cell?_setCell_same _ _ _ d1)
        rw [e] at c5
        clear hr c10 c11 c12 c13 h
        go_wp2
        go_roundw
        case rel => exact ⟨k + 1, by omega, by go_num, HST.out⟩
        case measure => simp [intOf]; omega
    · have hkk : k = t.fl := by omega
      subst hkk
      clear h hk hlt
      go_upto_if 28 with fail
      go_cut [27] (fun _ wc => SW w wc lo hi b w.heap.size t u mark t.fl true false false false)
      case first => as_aux_lemma =>
        rcases hq.ow with e | ⟨bb, s, e, a1, a2, d1, d2, _⟩
        · rw [e] at c10
          simp only [e]
          go_wp2
          go_meet
          exact ⟨hq.tv, hq.bx, hq.kp, hq.f, .inl e, hq.le, hq.ex, hq.nt⟩
        · rw [e] at c10
          simp only [e]
          go_wp2
          go_meet
          have q := hq.str hb (by omega) a1 a2 d1
          exact ⟨q.tv, q.bx, q.kp, q.f, .inr ⟨bb, mark, e, a1, a2, World.cell?_setCell_same _ _ _ d1, by rw [World.frozen?_setCell]; exact d2, fun _ => rfl⟩, q.le, q.ex, q.nt⟩
      clear hq c5 c10 c11 c12 c13
      have hq := hcut
      clear hcut
      obtain ⟨c5, c10, c11, c12, c13⟩ := hq.facts
      go_upto_if 41 with fail
      go_cut [40] (fun _ wc => SW w wc lo hi b w.heap.size t u mark t.fl true true false false)
      case first => as_aux_lemma =>
        rcases hq.le with e | ⟨bb, s, e, a1, a2, d1, d2, _⟩
        · rw [e] at c13
          simp only [e]
          go_wp2
          go_meet
          exact ⟨hq.tv, hq.bx, hq.kp, hq.f, hq.ow, .inl e, hq.ex, hq.nt⟩
        · rw [e] at c13
          simp only [e]
          go_wp2
          go_meet
          have q := hq.str hb (by omega) a1 a2 d1
          exact ⟨q.tv, q.bx, q.kp, q.f, q.ow, .inr ⟨bb, mark, e, a1, a2, World.cell?_setCell_same _ _ _ d1, by rw [World.frozen?_setCell]; exact d2, fun _ => rfl⟩, q.ex, q.nt⟩
      clear hq c5 c10 c11 c12 c13
      have hq := hcut
      clear hcut
      obtain ⟨c5, c10, c11, c12, c13⟩ := hq.facts
      go_upto_if 54 with fail
      go_cut [53] (fun _ wc => SW w wc lo hi b w.heap.size t u mark t.fl true true true false)
      case first => as_aux_lemma =>
        rcases hq.ex with e | ⟨bb, s, e, a1, a2, d1, d2, _⟩
        · rw [e] at c11
          simp only [e]
          go_wp2
          go_meet
          exact ⟨hq.tv, hq.bx, hq.kp, hq.f, hq.ow, hq.le, .inl e, hq.nt⟩
        · rw [e] at c11
          simp only [e]
          have ld := load62V_at ((World.rangeAt_drew _ _ _ _).2 hq.bx)
          have sv := store62V_at u ((World.there_drew _ _ _ _).2 d2)
          go_wp2
          go_region
          all_goals (go_wp2_with fail; go_meet; exact (hq.drew.timEx hb (by omega) e a1 a2 ((World.rangeAt_drew _ _ _ _).2 d1) ((World.there_drew _ _ _ _).2 d2)))
      clear hq c5 c10 c11 c12 c13
      have hq := hcut
      clear hcut
      obtain ⟨c5, c10, c11, c12, c13⟩ := hq.facts
      go_upto_if 67 with fail
      rcases hq.nt with e | ⟨bb, s, e, a1, a2, d1, d2, _⟩
      · rw [e] at c12
        simp only [e]
        go_wp2
        exact bodyPost_end (results_none Try.results40 _ _ _) rfl ⟨rfl, hq.tv, hq.bx, hq.kp, hq.f, hq.ow, hq.le, hq.ex, .inl e⟩
      · rw [e] at c12
        simp only [e]
        have ld := load62V_at ((World.rangeAt_drew _ _ _ _).2 hq.bx)
        have sv := store62V_at u ((World.there_drew _ _ _ _).2 d2)
        go_wp2
        go_region
        all_goals (go_wp2; exact bodyPost_end (results_none Try.results40 _ _ _) rfl ⟨rfl, hq.drew.timNt hb (by omega) e a1 a2 ((World.rangeAt_drew _ _ _ _).2 d1) ((World.there_drew _ _ _ _).2 d2)⟩)
end Go.Proofs.Qxb6614903a
