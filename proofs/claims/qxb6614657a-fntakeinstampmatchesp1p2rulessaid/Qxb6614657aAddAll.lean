import Derived.Test.Qxb6614657aAdd
namespace Go.Proofs.Qxb6614657a
open Go.RowKit

theorem upTo_byte (f : Nat) (bs : List Nat) (K : Nat → Bool) (k : Nat) (hk : k < bs.length) (x : Nat) : upTo f bs K ((f + (k + 1)) * 8) x = (upTo f bs K ((f + k) * 8) x || (decide (x / 8 = f + k) && bs[k].testBit (x % 8))) := by
  unfold upTo
  by_cases h : x / 8 = f + k
  · have hb : bitAt f bs x = bs[k].testBit (x % 8) := by
      have := bitAt_at f bs k (x % 8) hk (Nat.mod_lt _ (by decide))
      rwa [show (f + k) * 8 + x % 8 = x by omega] at this
    have h1 : decide (x < (f + (k + 1)) * 8) = true := by simp; omega
    have h2 : decide (x < (f + k) * 8) = false := by simp; omega
    rw [hb, h1, h2]
    simp [h]
  · have h1 : decide (x < (f + (k + 1)) * 8) = decide (x < (f + k) * 8) := by simp; omega
    rw [h1]; simp [h]
theorem Fr2.kept {w w' : World} {G : Nat} {r : Option Nat} (h : Fr2 w w' G r) {lo e s n : Nat} {u : Value} {xs : List Value} (ho : w.ownsRow lo e s u n xs) (h1 : u.ownBlock ≠ some G) (h2 : u.ownBlock = none ∨ u.ownBlock ≠ r) : w'.ownsRow lo e s u n xs := by
  refine ⟨ho.1, ?_⟩
  rcases ho.2 with hn | ⟨g, cap, cur, rfl, hb, hg, rest⟩
  · exact .inl hn
  · refine .inr ⟨g, cap, cur, rfl, hb, ?_, rest⟩
    rw [h.block g (Array.getElem?_eq_some_iff.1 hg).1 (fun e => h1 (by simp [Value.ownBlock, e])) (by
      rcases h2 with h2 | h2
      · simp [Value.ownBlock] at h2
      · simpa [Value.ownBlock] using h2)]
    exact hg
/-- While the bytes are being joined. -/
def Joining (w0 wr : World) (lo lo' G m cap o : Nat) (xs : List Value) (f' : Nat) (v v' : Value) (bs' : List Nat) (tf : Nat) (tv : Value) (tbs : List Nat) (k : Nat) : Prop :=
  ∃ bk : List Nat, bk.length = bs'.length ∧ HSt wr lo G m cap o xs f' v' bk ∧ (∀ x, bitAt f' bk x = upTo tf tbs (bitAt f' bs') ((tf + k) * 8) x) ∧ Fr2 w0 wr G v.ownBlock ∧ wr.ownsRow lo' 5 1 tv tbs.length (u8s tbs)

theorem Joining.grow {w0 wr w' : World} {lo lo' G m cap o : Nat} {xs : List Value} {f' : Nat} {v v' : Value} {bs' : List Nat} {tf : Nat} {tv : Value} {tbs : List Nat} {k : Nat} (h : Joining w0 wr lo lo' G m cap o xs f' v v' bs' tf tv tbs k) (hb : Below wr.heap.size wr w') : Joining w0 w' lo lo' G m cap o xs f' v v' bs' tf tv tbs k := by
  obtain ⟨bk, h1, h2, h3, h4, h5⟩ := h
  exact ⟨bk, h1, h2.grow hb, h3, h4.trans (Fr2.of hb) (.inl rfl), own_grow h5 hb⟩
theorem Joining.step {w0 wr : World} {lo lo' G m cap o : Nat} {xs : List Value} {f' : Nat} {v : Value} {bs' : List Nat} {g cp tf : Nat} {tv : Value} {tbs : List Nat} {k : Nat} (h : Joining w0 wr lo lo' G m cap o xs f' v (.slice (some ⟨g, 0, none⟩) bs'.length cp) bs' tf tv tbs k)
    (hk : k < tbs.length) (htb : ∀ b ∈ tbs, b < 256) (hf : f' ≤ tf) (hl : tf + tbs.length ≤ f' + bs'.length) (htg : tv.ownBlock ≠ some g) (hv : some g = v.ownBlock ∨ w0.heap.size ≤ g) :
    ∃ b : Nat, b < 256 ∧ wr.cell? ⟨g, tf - f' + k, none⟩ = some (.int .u8 (b : Int)) ∧ wr.frozen? ⟨g, tf - f' + k, none⟩ = false ∧
      Joining w0 (wr.setCell ⟨g, tf - f' + k, none⟩ (.int .u8 ((b ||| tbs[k] : Nat) : Int))) lo lo' G m cap o xs f' v (.slice (some ⟨g, 0, none⟩) bs'.length cp) bs' tf tv tbs (k + 1) := by
  obtain ⟨bk, h1, h2, h3, h4, h5⟩ := h
  rw [← h1] at h2
  have hj : tf - f' + k < bk.length := by omega
  have hb := h2.byt _ (List.getElem_mem hj)
  have hc : bk[tf - f' + k] ||| tbs[k] < 256 := or_byte _ _ hb (htb _ (List.getElem_mem hk))
  have hst := h2.byte (tf - f' + k) (bk[tf - f' + k] ||| tbs[k]) hc
  refine ⟨bk[tf - f' + k], hb, ?_, h2.own.frozenAt _, bk.set (tf - f' + k) (bk[tf - f' + k] ||| tbs[k]), by rw [List.length_set]; exact h1, by rw [← h1]; exact hst.1, fun x => ?_, h4.grown hst.2 ?_, h5.kept hst.2 (.inr htg)⟩
  · rw [h2.own.cellAt _ (by omega)]; exact u8s_get bk _ hj
  · rw [bitAt_or f' bk _ _ x hj, h3, upTo_byte tf tbs _ k hk, show f' + (tf - f' + k) = tf + k by omega]
  · rcases hv with e | e
    · exact .inl e
    · exact .inr fun j hj => by cases hj; exact e

set_option maxRecDepth 100000 in
set_option maxHeartbeats 1000000 in
theorem addAll_any (lo lo' G m cap o : Nat) (xs : List Value) (f : Nat) (v : Value) (bs : List Nat) (tf : Nat) (tv : Value) (tbs : List Nat) (N : Nat) (w : World) (h : HSt w lo G m cap o xs f v bs) (ht : w.ownsRow lo' 5 1 tv tbs.length (u8s tbs)) (htb : ∀ b ∈ tbs, b < 256) (hap : tv.ownBlock = none ∨ tv.ownBlock ≠ v.ownBlock)
    (hN : N ≤ 4096) (h2 : tf + tbs.length ≤ N) (h3 : f + bs.length ≤ N) (hlo : lo ≤ w.heap.size) :
    Calls Try.prog 33 #[.pointer (some ⟨G, o, none⟩), .agg #[.int .i64 tf, tv]] w fun e w' => e = .returned (.tuple #[]) ∧ Upd w w' lo G m cap o xs v (fun x => bitAt f bs x || bitAt tf tbs x) N := by
  have b0 : Below w.heap.size w (w.alloc (.cells #[.int .i64 tf, tv] 71)) := (Below.refl _ _).alloc (Nat.le_refl _) _
  have h0 := h.grow b0
  have ht0 := own_grow ht b0
  have f0 : Fr2 w (w.alloc (.cells #[.int .i64 tf, tv] 71)) G v.ownBlock := Fr2.of b0
  by_cases hz : tbs.length = 0
  · have e0 : tbs = [] := List.eq_nil_of_length_eq_zero hz
    subst e0
    obtain ⟨a, c, rfl⟩ := row_shape ht
    have hup : Upd w (w.alloc (.cells #[.int .i64 tf, .slice a 0 c] 71)) lo G m cap o xs v (fun x => bitAt f bs x || bitAt tf [] x) N := by
      have e0 : (xs.set o (.int .i64 (f : Nat))).set (o + 1) v = xs := by
        obtain ⟨l0, c0⟩ := List.getElem?_eq_some_iff.1 h.c0
        obtain ⟨l1, c1⟩ := List.getElem?_eq_some_iff.1 h.c1
        rw [← c0, List.set_getElem_self, ← c1, List.set_getElem_self]
      exact ⟨f, v, bs, by rw [e0]; exact h0, f0, .inl rfl, fun l => by simp only [bitAt_nil, Bool.or_false], h3⟩
    have HU : Hid _ := hup
    clear hup h0 ht0 f0 b0 h ht hap
    go_enter Try.func33, Try.ntmps33
    go_wp2
    exact bodyPost_ret (results_none Try.results33 _ _ _) rfl ⟨rfl, HU.out⟩
  · obtain ⟨tg, tc, rfl⟩ : ∃ g c, tv = .slice (some ⟨g, 0, none⟩) tbs.length c := by
      rcases ht.2 with ⟨rfl, e⟩ | ⟨g, cap, cur, rfl, _⟩
      · exact absurd e hz
      · exact ⟨_, _, rfl⟩
    have hcv := cover_any lo G m cap o xs f v bs tf (tf + tbs.length) _ h0 (by omega) (by omega) (by omega) (Nat.le_trans hlo b0.size)
    rw [show (((tf + tbs.length : Nat)) : Int) = (tf : Int) + (tbs.length : Int) by omega] at hcv
    have htG := kinds_apart h0.row ht0 (by decide)
    have B0 : Hid _ := b0
    clear b0 h
    go_enter Try.func33, Try.ntmps33
    go_wp2_with fail
    refine hcv.mono ?_
    clear hcv
    rintro e w1 ⟨rfl, f', v', bs', h', fr, hv', hb', c1, c2, c3⟩
    have hap' : (Value.slice (some ⟨tg, 0, none⟩) tbs.length tc).ownBlock = none ∨ (Value.slice (some ⟨tg, 0, none⟩) tbs.length tc).ownBlock ≠ v.ownBlock := hap
    have ht1 := fr.kept ht0 htG hap'
    have hfr1 := f0.trans fr (.inl rfl)
    have hbx : ∀ i, w1.cell? ⟨w.heap.size, i, none⟩ = (w.alloc (.cells #[.int .i64 tf, .slice (some ⟨tg, 0, none⟩) tbs.length tc] 71)).cell? ⟨w.heap.size, i, none⟩ := fun i => by
      refine World.cell?_of_block (a := ⟨w.heap.size, i, none⟩) (fr.block w.heap.size (by simp) (fun e => ?_) (fun e => ?_))
      · have := (h0.row.lt G rfl).2
        obtain ⟨cc, hG⟩ := row_kind h0.row G rfl
        rw [← e, heap_alloc_new] at hG
        cases hG
      · obtain ⟨cc, hG⟩ := row_kind h0.own _ e.symm
        rw [heap_alloc_new] at hG
        cases hG
    have q0 : w1.cell? ⟨w.heap.size, 0, none⟩ = some (.int .i64 tf) := by rw [hbx]; simp
    have q1 : w1.cell? ⟨w.heap.size, 1, none⟩ = some (.slice (some ⟨tg, 0, none⟩) tbs.length tc) := by rw [hbx]; simp
    obtain ⟨x0, x1, x2, x3⟩ := h'.facts
    obtain ⟨g, cp, rfl⟩ : ∃ g c, v' = .slice (some ⟨g, 0, none⟩) bs'.length c := by
      rcases h'.own.2 with ⟨rfl, e⟩ | ⟨g, cap, cur, rfl, _⟩
      · omega
      · exact ⟨_, _, rfl⟩
    have hgt : tg ≠ g := by
      intro e
      subst e
      rcases hv' with e | e
      · rcases hap with e' | e'
        · cases e'
        · exact e' e
      · have := e tg rfl
        have := (ht.lt tg rfl).2
        have : (w.alloc (.cells #[.int .i64 tf, .slice (some ⟨tg, 0, none⟩) tbs.length tc] 71)).heap.size = w.heap.size + 1 := by simp
        omega
    obtain ⟨at', hat⟩ : ∃ j : Nat, (tf : Int) - (f' : Int) = (j : Int) := ⟨tf - f', by omega⟩
    have hN' := c3 N h2 h3
    have HJ : Hid (Joining w w1 lo lo' G m cap o ((xs.set o (.int .i64 (f' : Nat))).set (o + 1) (.slice (some ⟨g, 0, none⟩) bs'.length cp)) f' v (.slice (some ⟨g, 0, none⟩) bs'.length cp) bs' tf (.slice (some ⟨tg, 0, none⟩) tbs.length tc) tbs 0) :=
      ⟨bs', rfl, h', fun x => by rw [Nat.add_zero, upTo_start], hfr1, ht1⟩
    clear h' fr ht1 hfr1 hbx h0 ht0 f0 htG hap hap' ht
    go_wp2
    go_quiet (fail)
    go_wp2_with fail
    have hvv : some g = v.ownBlock ∨ w.heap.size ≤ g := by
      rcases hv' with e | e
      · exact .inl e
      · have := e g rfl
        have : (w.alloc (.cells #[.int .i64 tf, .slice (some ⟨tg, 0, none⟩) tbs.length tc] 71)).heap.size = w.heap.size + 1 := by simp
        exact .inr (by omega)
    clear hv' x0 x1 x2 x3 q0 q1
    go_loopw [31] (fun i wr => ∃ k : Nat, k ≤ tbs.length ∧ i = .int .i64 k ∧ Joining w wr lo lo' G m cap o ((xs.set o (.int .i64 (f' : Nat))).set (o + 1) (.slice (some ⟨g, 0, none⟩) bs'.length cp)) f' v (.slice (some ⟨g, 0, none⟩) bs'.length cp) bs' tf (.slice (some ⟨tg, 0, none⟩) tbs.length tc) tbs k) (fun i _ => tbs.length - (intOf i).toNat)
    case atStart => exact ⟨0, Nat.zero_le _, rfl, HJ.out.grow (below_drewN (Below.refl _ _) _)⟩
    case round =>
      clear HJ
      obtain ⟨k, hk, rfl, hjn⟩ := hrel
      by_cases hlt : k < tbs.length
      · obtain ⟨b, hb, y0, y1, hnx⟩ := hjn.step hlt htb c1 c2 (fun e => hgt (by simpa [Value.ownBlock] using e)) hvv
        obtain ⟨bk, e1, hh, _, _, ho⟩ := hjn
        obtain ⟨x0, x1, x2, x3⟩ := hh.facts
        have z0 : wr.cell? ⟨tg, k, none⟩ = some (.int .u8 (tbs[k] : Int)) := by rw [ho.cellAt k (by omega)]; exact u8s_get tbs k hlt
        have hB := bits_or8 b tbs[k] hb (htb _ (List.getElem_mem hlt))
        have hat2 : tf - f' = at' := by omega
        rw [hat2] at y0 y1 hnx
        have hin : at' + k < bs'.length := by omega
        have HX : Hid _ := hnx
        clear hnx hh ho e1 hvv
        generalize tbs[k] = c at *
        go_wp2
        go_roundw
        case rel => exact ⟨k + 1, by omega, by go_num, HX.out⟩
        case measure => simp [intOf]; omega
      · have : k = tbs.length := by omega
        subst this
        obtain ⟨bk, e1, hh, hbt, hfr, ho⟩ := hjn
        have hup : Upd w wr lo G m cap o xs v (fun x => bitAt f bs x || bitAt tf tbs x) N := by
          refine ⟨f', _, bk, hh, hfr, ?_, fun x => ?_, by rw [e1]; exact hN'⟩
          · rcases hvv with e | e
            · exact .inl e
            · exact .inr fun j hj => by cases hj; exact e
          · rw [hbt, upTo_end, hb']
        have HU : Hid _ := hup
        clear hup hh hbt hfr ho
        go_wp2
        exact bodyPost_end (results_none Try.results33 _ _ _) rfl ⟨rfl, HU.out⟩
end Go.Proofs.Qxb6614657a
