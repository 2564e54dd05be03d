import Derived.Test.Qxb6614657aCopy
import Derived.Deep.RegionLaw
namespace Go.Proofs.Qxb6614657a
open Go.RowKit

/-- What was turned: block G, block r, and new ones. -/
structure Fr2 (w w' : World) (G : Nat) (r : Option Nat) : Prop where
  os : w'.os = w.os
  tape : w'.tape = w.tape
  output : w'.output = w.output
  size : w.heap.size ≤ w'.heap.size
  block : ∀ k, k < w.heap.size → k ≠ G → some k ≠ r → w'.heap[k]? = w.heap[k]?
theorem Fr2.refl (w : World) (G : Nat) (r : Option Nat) : Fr2 w w G r := ⟨rfl, rfl, rfl, Nat.le_refl _, fun _ _ _ _ => rfl⟩
theorem Fr2.trans {a b c : World} {G : Nat} {r r' : Option Nat} (h : Fr2 a b G r) (k : Fr2 b c G r') (hr : r' = r ∨ ∀ j, r' = some j → a.heap.size ≤ j) : Fr2 a c G r :=
  ⟨k.os.trans h.os, k.tape.trans h.tape, k.output.trans h.output, Nat.le_trans h.size k.size, fun i hi hG hi2 => (k.block i (Nat.lt_of_lt_of_le hi h.size) hG (by
    rcases hr with rfl | hr
    · exact hi2
    · intro e; have := hr i e.symm; omega)).trans (h.block i hi hG hi2)⟩
theorem Fr2.set {a b : World} {G : Nat} {r : Option Nat} (h : Fr2 a b G r) (o : Nat) (v : Value) : Fr2 a (b.setCell ⟨G, o, none⟩ v) G r :=
  ⟨h.os, h.tape, h.output, by simpa [World.setCell] using h.size, fun k hk hG hr => by
    rw [Below.heap_setCell b ⟨G, o, none⟩ v k hG]; exact h.block k hk hG hr⟩
theorem Fr2.grown {a b c : World} {G : Nat} {r : Option Nat} (h : Fr2 a b G r) {r' : Option Nat} (hg : b.grownBy c r') (hr : r' = r ∨ ∀ j, r' = some j → a.heap.size ≤ j) : Fr2 a c G r :=
  h.trans ⟨hg.os, hg.tape, hg.output, hg.size, fun k hk _ h2 => hg.block k hk h2⟩ hr
theorem Fr2.drew {a b : World} {G : Nat} {r : Option Nat} (h : Fr2 a b G r) : Fr2 a b.drew G r := ⟨h.os, h.tape, h.output, h.size, h.block⟩

theorem row_kind {w : World} {B : Nat} {e : TypeId} {size : Nat} {v : Value} {n : Nat} {xs : List Value} (h : w.ownsRow B e size v n xs) : ∀ g, v.ownBlock = some g → ∃ c, w.heap[g]? = some (.cells c e (0, 0)) := by
  intro g hg
  rcases h.2 with ⟨rfl, _⟩ | ⟨g', cap, cur, rfl, _, hgg, _⟩
  · simp [Value.ownBlock] at hg
  · simp [Value.ownBlock] at hg
    subst hg
    exact ⟨cur, hgg⟩
theorem row_shape {w : World} {B : Nat} {e : TypeId} {size : Nat} {v : Value} {n : Nat} {xs : List Value} (h : w.ownsRow B e size v n xs) : ∃ a c, v = .slice a n c := by
  rcases h.2 with ⟨rfl, rfl⟩ | ⟨g, cap, cur, rfl, _⟩
  · exact ⟨_, _, rfl⟩
  · exact ⟨_, _, rfl⟩
/-- Rows of two kinds lie in two blocks. -/
theorem kinds_apart {w : World} {lo lo' e e' s s' n n' G cap : Nat} {v : Value} {xs ys : List Value} (h : w.ownsRow lo e s (.slice (some ⟨G, 0, none⟩) n cap) n xs) (k : w.ownsRow lo' e' s' v n' ys) (hne : e ≠ e') : v.ownBlock ≠ some G := by
  intro hv
  obtain ⟨c1, h1⟩ := row_kind h G rfl
  obtain ⟨c2, h2⟩ := row_kind k G hv
  rw [h1] at h2
  cases h2
  exact hne rfl

/-- A set of hosts in the row of entries: its two cells lie at o and o + 1. -/
structure HSt (w : World) (lo G m cap o : Nat) (xs : List Value) (f : Nat) (v : Value) (bs : List Nat) : Prop where
  row : w.ownsRow lo 73 4 (.slice (some ⟨G, 0, none⟩) m cap) m xs
  lt : o + 1 < m * 4
  c0 : xs[o]? = some (.int .i64 f)
  c1 : xs[o + 1]? = some v
  own : w.ownsRow lo 5 1 v bs.length (u8s bs)
  byt : ∀ b ∈ bs, b < 256
theorem HSt.facts {w : World} {lo G m cap o : Nat} {xs : List Value} {f : Nat} {v : Value} {bs : List Nat} (h : HSt w lo G m cap o xs f v bs) :
    w.cell? ⟨G, o, none⟩ = some (.int .i64 f) ∧ w.cell? ⟨G, o + 1, none⟩ = some v ∧ w.frozen? ⟨G, o, none⟩ = false ∧ w.frozen? ⟨G, o + 1, none⟩ = false :=
  ⟨by rw [h.row.cellAt o (by have := h.lt; omega)]; exact h.c0, by rw [h.row.cellAt (o + 1) h.lt]; exact h.c1, h.row.frozenAt _, h.row.frozenAt _⟩
theorem Fr2.of {w w' : World} {G : Nat} {r : Option Nat} (h : Below w.heap.size w w') : Fr2 w w' G r := ⟨h.os, h.tape, h.output, h.size, fun k hk _ _ => h.block k hk⟩
theorem own_grow {w w' : World} {lo e s n : Nat} {v : Value} {xs : List Value} (h : w.ownsRow lo e s v n xs) (hb : Below w.heap.size w w') : w'.ownsRow lo e s v n xs :=
  h.kept (row := none) ⟨hb.os, hb.tape, hb.output, hb.size, fun k hk _ => hb.block k hk⟩ (by cases v.ownBlock <;> simp)
theorem HSt.grow {w w' : World} {lo G m cap o : Nat} {xs : List Value} {f : Nat} {v : Value} {bs : List Nat} (h : HSt w lo G m cap o xs f v bs) (hb : Below w.heap.size w w') : HSt w' lo G m cap o xs f v bs :=
  ⟨own_grow h.row hb, h.lt, h.c0, h.c1, own_grow h.own hb, h.byt⟩
theorem HSt.drew {w : World} {lo G m cap o : Nat} {xs : List Value} {f : Nat} {v : Value} {bs : List Nat} (h : HSt w lo G m cap o xs f v bs) : HSt w.drew lo G m cap o xs f v bs := ⟨h.row, h.lt, h.c0, h.c1, h.own, h.byt⟩

theorem zeros8 (k : Nat) : (Builtin.zeroCells (Value.int .u8 0).cells k).toList = u8s (List.replicate k 0) := by
  apply List.ext_getElem?
  intro j
  by_cases hj : j < k
  · rw [u8s_get _ j (by simpa using hj)]
    simp [Builtin.zeroCells, Value.cells, hj, Nat.mod_one]
  · rw [List.getElem?_eq_none (by simp [Builtin.zeroCells, Value.cells]; omega), List.getElem?_eq_none (by simp [u8s_length]; omega)]
/-- Zeros onto the bytes. -/
theorem zeros_bytes (w : World) (lo : Nat) (v : Value) (bs : List Nat) (k : Nat) (h : w.ownsRow lo 5 1 v bs.length (u8s bs)) (hk : bs.length + k ≤ 8192) (hlo : lo ≤ w.heap.size) :
    ∃ v' w', (Builtin.append_ #[40, 3] 40 #[v, .int .i64 k]).run Try.prog w = .ok v' w' ∧ w'.ownsRow lo 5 1 v' (bs ++ List.replicate k 0).length (u8s (bs ++ List.replicate k 0)) ∧ w.grownBy w' v.ownBlock ∧ (v'.ownBlock = v.ownBlock ∨ v'.ownBlock = some w.heap.size) := by
  obtain ⟨i0, hi, hz0, hz1, hz2⟩ := info_parts info5
  obtain ⟨v', w', hr, ho, hg, hw⟩ := run_zeros_own w lo 40 3 40 5 i0 (.int .u8 0) 1 1 .i64 .i64 Try.underlying40 Try.underlying3 hi hz0 hz1 hz2 rfl (by decide) v bs.length (u8s bs) h k (by rw [zeros8]; exact u8s_one _) (by unfold maxLen; omega) (by omega) hlo
  rw [zeros8] at ho
  exact ⟨v', w', hr, by rw [List.length_append, List.length_replicate]; simpa [u8s] using ho, hg, hw⟩
/-- An append whose run is known, as one step of a region that draws. -/
theorem step_append_runI {P : Program} {ops : Array Oper} {o : Oper} {a : Act} {w : World} {K : Act → World → Prop} {Q : Exit → Act → World → Prop} {E : Prop}
    (hg : o.guard = none) (d x : Operand) (dT sT : TypeId) (hop : o.op = Op.call { callee := Callee.builtin Builtin.append, args := #[d, x], argTypes := #[dT, sT] })
    (v u : Value) (hd : a.eval d = v) (hx : a.eval x = u) {v' : Value} {w' : World} (hr : (Builtin.append_ #[dT, sT] o.type #[v, u]).run P w = .ok v' w') (hK : K (a.put o.dst v') w') :
    if Region.wanted o (yielded ops a.tmps) = true then Oper.wp P o a w K Q else E := by
  have hw : Region.wanted o (yielded ops a.tmps) = true := by simp [Region.wanted, hg]
  rw [if_pos hw]
  unfold Oper.wp
  simp [execOp, hop, resolve, invoke, builtin, hd, hx, hr, Result.andThen]
  exact hK
/-- What 'cover' leaves. -/
def Cov (w w' : World) (lo G m cap o : Nat) (xs : List Value) (f : Nat) (v : Value) (bs : List Nat) (first last : Nat) : Prop :=
  ∃ f' v' bs', HSt w' lo G m cap o ((xs.set o (.int .i64 (f' : Nat))).set (o + 1) v') f' v' bs' ∧ Fr2 w w' G v.ownBlock ∧ (v'.ownBlock = v.ownBlock ∨ ∀ k, v'.ownBlock = some k → w.heap.size ≤ k) ∧
    bitAt f' bs' = bitAt f bs ∧ f' ≤ first ∧ last ≤ f' + bs'.length ∧ (∀ N, last ≤ N → f + bs.length ≤ N → f' + bs'.length ≤ N)

set_option maxRecDepth 100000 in
set_option maxHeartbeats 1000000 in
theorem cover_any (lo G m cap o : Nat) (xs : List Value) (f : Nat) (v : Value) (bs : List Nat) (first last : Nat) (w : World) (h : HSt w lo G m cap o xs f v bs) (h1 : first < last) (h2 : last ≤ 4096) (h3 : f + bs.length ≤ 4096) (hlo : lo ≤ w.heap.size) :
    Calls Try.prog 39 #[.pointer (some ⟨G, o, none⟩), .int .i64 first, .int .i64 last] w fun e w' => e = .returned (.tuple #[]) ∧ Cov w w' lo G m cap o xs f v bs first last := by
  obtain ⟨c0, c1, g0, g1⟩ := h.facts
  obtain ⟨i0, hi, hz0, hz1, hz2⟩ := info_parts info5
  have hne := kinds_apart h.row h.own (by decide)
  by_cases hl : bs.length = 0
  · have hb : bs = [] := List.eq_nil_of_length_eq_zero hl
    subst hb
    have hv : ∃ a c, v = .slice a 0 c := by
      rcases h.own.2 with ⟨rfl, _⟩ | ⟨g, cap, cur, rfl, _⟩
      · exact ⟨_, _, rfl⟩
      · exact ⟨_, _, rfl⟩
    obtain ⟨a, c, rfl⟩ := hv
    obtain ⟨k, hk⟩ : ∃ k : Nat, (last : Int) - (first : Int) = (k : Int) := ⟨last - first, by omega⟩
    have hst := h.row.stored o (.int .i64 (first : Nat))
    have how := h.own.kept hst.2 (.inr hne)
    obtain ⟨v', w2, hr, ho2, hg2, hw2⟩ := zeros_bytes _ lo _ [] k how (by simp; omega) (by simpa [World.setCell] using hlo)
    rw [List.nil_append, List.length_replicate] at ho2
    obtain ⟨a', c', rfl⟩ := row_shape ho2
    have hrow2 := hst.1.kept hg2 (.inr (fun e => hne e.symm))
    have hne2 := kinds_apart hrow2 ho2 (by decide)
    have hst2 := hrow2.stored (o + 1) (.slice a' k c')
    have ho3 := ho2.kept hst2.2 (.inr hne2)
    have q1 : w2.cell? ⟨G, o + 1, none⟩ = some (.slice a 0 c) := by
      rw [hrow2.cellAt (o + 1) h.lt, List.getElem?_set_ne (by omega)]; exact h.c1
    have q2 := hrow2.frozenAt (o + 1)
    have hcov : Cov w (w2.setCell ⟨G, o + 1, none⟩ (.slice a' k c')) lo G m cap o xs f (.slice a 0 c) [] first last := by
      refine ⟨first, _, List.replicate k 0, ⟨hst2.1, h.lt, ?_, ?_, by rw [List.length_replicate]; exact ho3, fun b hb => by rw [List.mem_replicate] at hb; omega⟩, ?_, ?_, ?_, Nat.le_refl _, by simp; omega, fun N hN _ => by simp; omega⟩
      · rw [List.getElem?_set_ne (by omega), List.getElem?_set_self (by have := h.row.1; have := h.lt; omega)]
      · rw [List.getElem?_set_self (by rw [List.length_set]; have := h.row.1; have := h.lt; omega)]
      · exact (((Fr2.refl w G _).set o _).grown hg2 (.inl rfl)).set (o + 1) _
      · rcases hw2 with e | e
        · exact .inl e
        · exact .inr fun k hk => by rw [e] at hk; cases hk; simp [World.setCell]
      · funext l; rw [bitAt_replicate, bitAt_nil]
    have HC : Hid _ := hcov
    clear hcov ho3 hst2 hne2 hrow2 hw2 hg2 ho2 how hst hne h hi hz0 hz1 hz2
    go_enter Try.func39, Try.ntmps39
    go_wp2_with (at_builtin; go_must (refine Lib.wpList_append_run _ rfl _ _ 40 3 rfl _ _ rfl rfl _ _ hr ?_))
    exact bodyPost_ret (results_none Try.results39 _ _ _) rfl ⟨rfl, HC.out⟩
  · obtain ⟨g, cp, hv⟩ : ∃ g c, v = .slice (some ⟨g, 0, none⟩) bs.length c := by
      rcases h.own.2 with ⟨rfl, e⟩ | ⟨g, cap, cur, rfl, _⟩
      · exact absurd e hl
      · exact ⟨_, _, rfl⟩
    subst hv
    by_cases hff : first < f
    · obtain ⟨e, he, he1, he3, he4⟩ : ∃ e : Nat, max (last : Int) ((f : Int) + (bs.length : Int)) = (e : Int) ∧ last ≤ e ∧ f + bs.length ≤ e ∧ ∀ N, last ≤ N → f + bs.length ≤ N → e ≤ N := ⟨max last (f + bs.length), by omega, by omega, by omega, fun N _ _ => by omega⟩
      obtain ⟨k, hk⟩ : ∃ k : Nat, (e : Int) - (first : Int) = (k : Int) := ⟨e - first, by omega⟩
      obtain ⟨j, hj⟩ : ∃ j : Nat, (f : Int) - (first : Int) = (j : Int) := ⟨f - first, by omega⟩
      have d1 : decide ((first : Int) < (f : Int)) = true := by simp; omega
      have he2 : e ≤ 4096 := he4 _ h2 h3
      have HE : Hid _ := he4
      have H : Hid _ := h
      clear he4 h
      go_enter Try.func39, Try.ntmps39
      go_wp2
      go_quiet (fail)
      go_wp2_with (at_make; go_must (refine wpList_make_full _ rfl _ _ 40 rfl lo 5 i0 (.int .u8 0) 1 Try.underlying40 hi hz0 hz1 _ _ _ _ k rfl rfl rfl rfl (by rw [hz2]; omega) (by unfold maxLen; omega) (by simp; omega) ?_); intro w1 hown1 hg1)
      have b1 : Below w.heap.size w w1 := (below_drewN (Below.refl w.heap.size w) nq).grown hg1 (by simp) (fun _ h => by cases h)
      have h' : HSt w1.drew lo G m cap o xs f (.slice (some ⟨g, 0, none⟩) bs.length cp) bs := (H.out.grow b1).drew
      have f1 : Fr2 w w1.drew G (Value.ownBlock (.slice (some ⟨g, 0, none⟩) bs.length cp)) := (Fr2.of b1).drew
      have e0 : (madeCells (Value.int .u8 0).cells (k * 1)).toList = u8s (List.replicate k 0) := by
        rw [Nat.mul_one]
        exact (toList_madeCells_one (.int .u8 0) k).trans (by simp [u8s])
      rw [e0, show (w.drewN nq).heap.size = w.heap.size by simp] at hown1
      have hown2 := hown1.drew
      obtain ⟨x0, x1, x2, x3⟩ := h'.facts
      have hrb := RB.own h'.own h'.byt
      have hcp : (Builtin.copy_ #[40, 40] 3 #[.slice (some ⟨w.heap.size, j, none⟩) (k - j) (k - j), .slice (some ⟨g, 0, none⟩) bs.length cp]).run Try.prog w1.drew = .ok (goInt (u8s bs).length) (w1.drew.setCells w.heap.size j (u8s bs)) := by
        refine run_copy_cells w1.drew 40 40 3 5 w.heap.size j (k - j) (k - j) ⟨g, 0, none⟩ bs.length cp (u8s bs) Try.underlying40 size5 (by rw [u8s_length]; simp only [Nat.min_def]; split <;> omega) (fun i v hv => ?_) (fun i hi => ?_) (fun i hi => ?_) (u8s_one bs)
        · have hi : i < bs.length := by rw [← u8s_length bs]; exact (List.getElem?_eq_some_iff.1 hv).1
          rw [Addr.add_lit, Nat.zero_add, h'.own.cellAt i (by omega)]; exact hv
        · rw [u8s_length] at hi
          rw [hown2.cellAt (j + i) (by omega), List.getElem?_eq_getElem (by rw [hown2.1]; omega)]; rfl
        · exact hown2.frozenAt (j + i)
      have hst := own_setCells (u8s bs) j hown2
      have hpa : putAt (u8s (List.replicate k 0)) j (u8s bs) = u8s (List.replicate j 0 ++ (bs ++ List.replicate (k - j - bs.length) 0)) := by
        apply List.ext_getElem?
        intro i
        by_cases hi : i < k
        · rw [putAt_get _ _ _ _ (by simpa [u8s_length] using hi), u8s_length]
          unfold u8s
          rw [List.getElem?_map, List.getElem?_map, List.getElem?_map]
          by_cases h5 : j ≤ i ∧ i < j + bs.length
          · rw [if_pos h5, List.getElem?_append_right (by simp; omega), List.length_replicate, List.getElem?_append_left (by omega)]
          · rw [if_neg h5]
            by_cases h6 : i < j
            · rw [List.getElem?_append_left (by simpa using h6), List.getElem?_replicate, List.getElem?_replicate, if_pos hi, if_pos h6]
            · rw [List.getElem?_append_right (by simp; omega), List.length_replicate, List.getElem?_append_right (by omega), List.getElem?_replicate, List.getElem?_replicate, if_pos hi, if_pos (by omega)]
        · rw [List.getElem?_eq_none (by rw [putAt_length]; simp [u8s_length]; omega), List.getElem?_eq_none (by simp [u8s_length]; omega)]
      rw [hpa] at hst
      have hnG : (Value.slice (some ⟨w.heap.size, 0, none⟩) k k).ownBlock ≠ some G := kinds_apart h'.row hown2 (by decide)
      have hrow3 := h'.row.kept hst.2 (.inr (fun e => hnG (by simpa [Value.ownBlock] using e.symm)))
      have hst4 := hrow3.stored o (.int .i64 (first : Nat))
      have hst5 := hst4.1.stored (o + 1) (.slice (some ⟨w.heap.size, 0, none⟩) k k)
      have ho5 := (hst.1.kept hst4.2 (.inr hnG)).kept hst5.2 (.inr hnG)
      have y0 : (w1.drew.setCells w.heap.size j (u8s bs)).cell? ⟨G, o, none⟩ = some (.int .i64 (f : Nat)) := by rw [hrow3.cellAt o (by have := h'.lt; omega)]; exact h'.c0
      have y1 : (w1.drew.setCells w.heap.size j (u8s bs)).cell? ⟨G, o + 1, none⟩ = some (.slice (some ⟨g, 0, none⟩) bs.length cp) := by rw [hrow3.cellAt (o + 1) h'.lt]; exact h'.c1
      have y2 := hrow3.frozenAt o
      have y3 := hrow3.frozenAt (o + 1)
      have hcov : Cov w (((w1.drew.setCells w.heap.size j (u8s bs)).setCell ⟨G, o, none⟩ (.int .i64 (first : Nat))).setCell ⟨G, o + 1, none⟩ (.slice (some ⟨w.heap.size, 0, none⟩) k k)) lo G m cap o xs f (.slice (some ⟨g, 0, none⟩) bs.length cp) bs first last := by
        have hlenk : (List.replicate j 0 ++ (bs ++ List.replicate (k - j - bs.length) 0)).length = k := by simp; omega
        refine ⟨first, _, List.replicate j 0 ++ (bs ++ List.replicate (k - j - bs.length) 0), ⟨hst5.1, h'.lt, ?_, ?_, by rw [hlenk]; exact ho5, fun b hb => ?_⟩, ?_, .inr fun q hq => ?_, ?_, Nat.le_refl _, by rw [hlenk]; omega, fun N hN hN2 => by have := HE.out N hN hN2; rw [hlenk]; omega⟩
        · rw [List.getElem?_set_ne (by omega), List.getElem?_set_self (by have := h'.row.1; have := h'.lt; omega)]
        · rw [List.getElem?_set_self (by rw [List.length_set]; have := h'.row.1; have := h'.lt; omega)]
        · rcases List.mem_append.1 hb with hb | hb
          · rw [List.mem_replicate] at hb; omega
          · rcases List.mem_append.1 hb with hb | hb
            · exact h'.byt b hb
            · rw [List.mem_replicate] at hb; omega
        · exact ((f1.grown hst.2 (.inr fun q hq => by cases hq; exact Nat.le_refl _)).set o _).set (o + 1) _
        · cases hq; exact Nat.le_refl _
        · funext l
          have := bitAt_lead f j (bs ++ List.replicate (k - j - bs.length) 0) l (by omega)
          rw [bitAt_zeros, show f - j = first by omega] at this
          exact this
      have HC : Hid _ := hcov
      clear hcov ho5 hst5 hst4 hrow3 hst hpa hnG hown2 hown1 hrb h' f1 b1 hg1 H hi hz0 hz1 hz2 e0 hne
      have hjk : j ≤ k := by omega
      have hkj : ¬ (k = j) := by omega
      have hwj : IntKind.i64.wrap (j : Int) = (j : Int) := by rw [IntKind.wrap_i64]; omega
      go_region_law (refine step_copy_runI rfl (.tmp 58) (.tmp 62) 40 40 rfl (.slice (some ⟨w.heap.size, j, none⟩) (k - j) (k - j)) (.slice (some ⟨g, 0, none⟩) bs.length cp) (by simp [Act.eval, Act.put]) (by simp [Act.eval, Act.put]) hcp ?_)
      all_goals go_wp2
      all_goals exact bodyPost_ret (results_none Try.results39 _ _ _) rfl ⟨rfl, HC.out⟩
    · obtain ⟨e, he, he1⟩ : ∃ e : Nat, max (last : Int) ((f : Int) + (bs.length : Int)) = (e : Int) ∧ last ≤ e ∧ f + bs.length ≤ e ∧ ∀ N, last ≤ N → f + bs.length ≤ N → e ≤ N := ⟨max last (f + bs.length), by omega, by omega, by omega, fun N _ _ => by omega⟩
      obtain ⟨he1, he3, he4⟩ := he1
      obtain ⟨k, hk⟩ : ∃ k : Nat, (e : Int) - (f : Int) - (bs.length : Int) = (k : Int) := ⟨e - f - bs.length, by omega⟩
      have d1 : decide ((first : Int) < (f : Int)) = false := by simp; omega
      have he2 : e ≤ 4096 := he4 _ h2 h3
      have HE : Hid _ := he4
      clear he4
      have H : Hid _ := h
      clear hi hz0 hz1 hz2 h
      go_enter Try.func39, Try.ntmps39
      go_wp2
      go_quiet (fail)
      go_wp2
      have b1 : Below w.heap.size w (w.drewN (nq + 1)) := below_drewN (Below.refl _ _) _
      have h' : HSt (w.drewN (nq + 1)) lo G m cap o xs f (.slice (some ⟨g, 0, none⟩) bs.length cp) bs := H.out.grow b1
      have f1 : Fr2 w (w.drewN (nq + 1)) G (Value.ownBlock (.slice (some ⟨g, 0, none⟩) bs.length cp)) := Fr2.of b1
      have hsz : w.heap.size ≤ (w.drewN (nq + 1)).heap.size := f1.size
      clear H b1
      obtain ⟨v', w2, hr, ho2, hg2, hw2⟩ := zeros_bytes _ lo _ bs k h'.own (by omega) (by omega)
      rw [List.length_append, List.length_replicate] at ho2
      obtain ⟨a', c', rfl⟩ := row_shape ho2
      have hrow2 := h'.row.kept hg2 (.inr (fun e => hne e.symm))
      have hne2 := kinds_apart hrow2 ho2 (by decide)
      have hst2 := hrow2.stored (o + 1) (.slice a' (bs.length + k) c')
      have ho3 := ho2.kept hst2.2 (.inr hne2)
      have q1 : w2.cell? ⟨G, o + 1, none⟩ = some (.slice (some ⟨g, 0, none⟩) bs.length cp) := by
        rw [hrow2.cellAt (o + 1) h'.lt]; exact h'.c1
      have q2 := hrow2.frozenAt (o + 1)
      have hcov : Cov w (w2.setCell ⟨G, o + 1, none⟩ (.slice a' (bs.length + k) c')) lo G m cap o xs f (.slice (some ⟨g, 0, none⟩) bs.length cp) bs first last := by
        have e0 : xs.set o (.int .i64 (f : Nat)) = xs := by
          have hc := h'.c0
          obtain ⟨hlt, hc'⟩ := List.getElem?_eq_some_iff.1 hc
          rw [← hc']; exact List.set_getElem_self hlt
        refine ⟨f, _, bs ++ List.replicate k 0, ⟨by rw [e0]; exact hst2.1, h'.lt, ?_, ?_, by rw [List.length_append, List.length_replicate]; exact ho3, fun b hb => ?_⟩, ?_, ?_, ?_, by omega, by simp; omega, fun N hN hN2 => by have := HE.out N hN hN2; simp; omega⟩
        · rw [e0, List.getElem?_set_ne (by omega)]; exact h'.c0
        · rw [e0, List.getElem?_set_self (by have := h'.row.1; have := h'.lt; omega)]
        · rcases List.mem_append.1 hb with hb | hb
          · exact h'.byt b hb
          · rw [List.mem_replicate] at hb; omega
        · exact (f1.grown hg2 (.inl rfl)).set (o + 1) _
        · rcases hw2 with e | e
          · exact .inl e
          · exact .inr fun k hk => by rw [e] at hk; cases hk; exact hsz
        · funext l; exact bitAt_zeros f bs k l
      have HC : Hid _ := hcov
      clear hcov ho3 hst2 hne2 hrow2 hw2 hg2 ho2 hne h' f1 hsz
      have hwk : IntKind.i64.wrap (IntKind.i64.wrap ((e : Int) - (f : Int)) - (bs.length : Int)) = (k : Int) := by rw [IntKind.wrap_i64, IntKind.wrap_i64]; omega
      go_region_law (refine step_append_runI rfl (.tmp 76) (.tmp 88) 40 3 rfl (.slice (some ⟨g, 0, none⟩) bs.length cp) (.int .i64 k) (by simp [Act.eval, Act.put]) (by simp [Act.eval, Act.put]; try exact hwk) hr ?_)
      all_goals go_wp2
      all_goals exact bodyPost_end (results_none Try.results39 _ _ _) rfl ⟨rfl, HC.out⟩
end Go.Proofs.Qxb6614657a
