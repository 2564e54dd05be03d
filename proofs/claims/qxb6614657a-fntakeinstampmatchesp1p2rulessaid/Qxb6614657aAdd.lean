import Derived.Test.Qxb6614657aCover
namespace Go.Proofs.Qxb6614657a
open Go.RowKit

/-- What an update of the set leaves: the hosts K, in at most N bytes of the column. -/
def Upd (w w' : World) (lo G m cap o : Nat) (xs : List Value) (v : Value) (K : Nat → Bool) (N : Nat) : Prop :=
  ∃ f' v' bs', HSt w' lo G m cap o ((xs.set o (.int .i64 (f' : Nat))).set (o + 1) v') f' v' bs' ∧ Fr2 w w' G v.ownBlock ∧ (v'.ownBlock = v.ownBlock ∨ ∀ k, v'.ownBlock = some k → w.heap.size ≤ k) ∧
    (∀ l, bitAt f' bs' l = K l) ∧ f' + bs'.length ≤ N
theorem u8s_set (bs : List Nat) (j c : Nat) : (u8s bs).set j (.int .u8 (c : Int)) = u8s (bs.set j c) := by simp [u8s]
theorem set_byte {bs : List Nat} (h : ∀ b ∈ bs, b < 256) {j c : Nat} (hc : c < 256) : ∀ b ∈ bs.set j c, b < 256 := fun b hb => by
  rcases List.mem_or_eq_of_mem_set hb with hb | rfl
  · exact h b hb
  · exact hc
/-- A byte of the set is written. -/
theorem HSt.byte {w : World} {lo G m cap o : Nat} {xs : List Value} {f g cp : Nat} {bs : List Nat} (h : HSt w lo G m cap o xs f (.slice (some ⟨g, 0, none⟩) bs.length cp) bs) (j c : Nat) (hc : c < 256) :
    HSt (w.setCell ⟨g, j, none⟩ (.int .u8 (c : Int))) lo G m cap o xs f (.slice (some ⟨g, 0, none⟩) bs.length cp) (bs.set j c) ∧ w.grownBy (w.setCell ⟨g, j, none⟩ (.int .u8 (c : Int))) (some g) := by
  have hne := kinds_apart h.row h.own (by decide)
  have hst := h.own.stored j (.int .u8 (c : Int))
  refine ⟨⟨h.row.kept hst.2 (.inr (fun e => hne (by simpa [Value.ownBlock] using e.symm))), h.lt, h.c0, h.c1, ?_, set_byte h.byt hc⟩, hst.2⟩
  rw [List.length_set, ← u8s_set]; exact hst.1

set_option maxRecDepth 100000 in
set_option maxHeartbeats 1000000 in
theorem add_any (lo G m cap o : Nat) (xs : List Value) (f : Nat) (v : Value) (bs : List Nat) (l n : Nat) (w : World) (h : HSt w lo G m cap o xs f v bs) (hl : l < n) (hn : n ≤ 4096) (h3 : f + bs.length ≤ (n + 7) / 8) (hlo : lo ≤ w.heap.size) :
    Calls Try.prog 35 #[.pointer (some ⟨G, o, none⟩), .int .i64 l] w fun e w' => e = .returned (.tuple #[]) ∧ Upd w w' lo G m cap o xs v (fun x => bitAt f bs x || decide (x = l)) ((n + 7) / 8) := by
  obtain ⟨q, hq, hq1⟩ : ∃ q : Nat, (l : Int) / 8 = (q : Int) ∧ q = l / 8 := ⟨l / 8, by omega, rfl⟩
  have hcv := cover_any lo G m cap o xs f v bs q (q + 1) w h (by omega) (by omega) (by omega) hlo
  rw [show (((q + 1 : Nat)) : Int) = (q : Int) + 1 by omega] at hcv
  have HQ : Hid _ := hq1
  have hq2 : q ≤ 4096 := by omega
  clear hq1
  go_enter Try.func35, Try.ntmps35
  go_wp2_with fail
  refine hcv.mono ?_
  clear hcv h
  rintro e w1 ⟨rfl, f', v', bs', h', fr, hv', hb', c1, c2, c3⟩
  have hq1 := HQ.out
  obtain ⟨g, cp, rfl⟩ : ∃ g c, v' = .slice (some ⟨g, 0, none⟩) bs'.length c := by
    rcases h'.own.2 with ⟨rfl, e⟩ | ⟨g, cap, cur, rfl, _⟩
    · omega
    · exact ⟨_, _, rfl⟩
  obtain ⟨j, hj⟩ : ∃ j : Nat, (q : Int) - (f' : Int) = (j : Int) := ⟨q - f', by omega⟩
  have hjl : j < bs'.length := by omega
  obtain ⟨x0, x1, x2, x3⟩ := h'.facts
  have hbb := h'.byt _ (List.getElem_mem hjl)
  have hc : bs'[j] ||| 2 ^ (l % 8) < 256 := or_byte _ _ hbb (pow_byte _ (Nat.mod_lt _ (by decide)))
  have hB : bits .or .u8 (bs'[j] : Int) ((2 : Int) ^ (l % 8) % 256) = ((bs'[j] ||| 2 ^ (l % 8) : Nat) : Int) := by
    rw [pow_mod _ (Nat.mod_lt _ (by decide)), bits_or8 _ _ hbb (pow_byte _ (Nat.mod_lt _ (by decide)))]
  have y0 : w1.cell? ⟨g, j, none⟩ = some (.int .u8 (bs'[j] : Int)) := by
    rw [h'.own.cellAt j (by omega)]; exact u8s_get bs' j hjl
  have y1 := h'.own.frozenAt j
  have hup : Upd w (w1.drew.setCell ⟨g, j, none⟩ (.int .u8 ((bs'[j] ||| 2 ^ (l % 8) : Nat) : Int))) lo G m cap o xs v (fun x => bitAt f bs x || decide (x = l)) ((n + 7) / 8) := by
    have hst := h'.drew.byte j (bs'[j] ||| 2 ^ (l % 8)) hc
    refine ⟨f', _, bs'.set j (bs'[j] ||| 2 ^ (l % 8)), hst.1, fr.drew.grown hst.2 hv', hv', fun x => ?_, by rw [List.length_set]; exact c3 _ (by omega) (by omega)⟩
    have e : j = l / 8 - f' := by omega
    subst e
    rw [bitAt_add f' bs' l x (by omega) hjl, hb']
  have HU : Hid _ := hup
  clear hup h' fr hv' hb' c1 c2 c3 HQ hq1 hbb hc hlo
  generalize bs'[j] = b at *
  go_wp2
  go_region
  all_goals go_wp2
  all_goals exact bodyPost_end (results_none Try.results35 _ _ _) rfl ⟨rfl, HU.out⟩
end Go.Proofs.Qxb6614657a
