import Derived.Test.Qxb6614903aQueue
namespace Go.Proofs.Qxb6614903a
open Go.RowKit

/-- A note that came in: its fields, and what its pointers lead to. -/
structure Note where
  z : Nt
  d : Dv
  so : Option ByteArray

/-- The notes of a slice that came in (or of a part of one). -/
def NotesAt (w : World) (ao : Option Addr) (zs : List Note) : Prop :=
  ∀ i, (h : i < zs.length) → ∃ b off, ao = some ⟨b, off, none⟩ ∧ b < w.heap.size ∧ w.rangeAt b (off + i * 12) zs[i].z.zcells.toList ∧ NtTo w 0 zs[i].z zs[i].d ∧ PtrS w 0 zs[i].z.src zs[i].so

theorem NotesAt.grow {w w' : World} {ao : Option Addr} {zs : List Note} (h : NotesAt w ao zs) (hb : Below w.heap.size w w') : NotesAt w' ao zs := fun i hi => by
  obtain ⟨b, off, e, hlt, hr, hn, hs⟩ := h i hi
  exact ⟨b, off, e, Nat.lt_of_lt_of_le hlt hb.size, rangeAt_below hb hlt hr, hn.grow hb, hs.grow hb⟩

/-- A notification tells a note. -/
def Tell (w : World) (B : Nat) (n : Nt) (z : Note) : Prop := NtTo w B n z.d ∧ n.id = z.z.id ∧ n.st = z.z.st ∧ n.att = z.z.att ∧ n.ep = z.z.ep
theorem Tell.grow {w w' : World} {B : Nat} {n : Nt} {z : Note} (h : Tell w B n z) (hb : Below w.heap.size w w') : Tell w' B n z := ⟨h.1.grow hb, h.2⟩
theorem NtTo.fars {w : World} {B : Nat} {n : Nt} {d : Dv} (h : NtTo w B n d) {g : Nat} (hg : g < B) (vs : List Value) (j : Nat) : NtTo (w.setCells g j vs) B n d :=
  ⟨h.1.fars hg vs j, h.2.1.fars hg vs j, h.2.2.1.fars hg vs j, h.2.2.2.fars hg vs j⟩
theorem NtTo.low {w : World} {B C : Nat} {n : Nt} {d : Dv} (h : NtTo w B n d) (hC : C ≤ B) : NtTo w C n d := ⟨h.1.low hC, h.2.1.low hC, h.2.2.1.low hC, h.2.2.2.low hC⟩
theorem NtTo.far {w : World} {B : Nat} {n : Nt} {d : Dv} (h : NtTo w B n d) {a : Addr} (ha : a.block < B) (v : Value) : NtTo (w.setCell a v) B n d :=
  ⟨h.1.far ha v, h.2.1.far ha v, h.2.2.1.far ha v, h.2.2.2.far ha v⟩

/-- The loop of 'zzStQueue' after k rounds. -/
structure QR (w wr : World) (g : Nat) (zs : List Note) (k : Nat) (ns : List Nt) : Prop where
  len : ns.length = k
  bel : Below w.heap.size w wr
  hg : w.heap.size < g
  th : wr.there g 0 (zs.length * 21)
  lt : g < wr.heap.size
  qc : wr.cell? ⟨w.heap.size, 2, none⟩ = some (.slice none 0 0)
  qf : wr.frozen? ⟨w.heap.size, 2, none⟩ = false
  row : ∀ i, (h : i < ns.length) → (h2 : i < zs.length) → wr.rangeAt g (i * 21) ns[i].cells.toList ∧ Tell wr (g + 1) ns[i] zs[i]

theorem frozen?_setCells (w : World) (g : Nat) (vs : List Value) (o : Nat) (a : Addr) : (w.setCells g o vs).frozen? a = w.frozen? a := by
  induction vs generalizing w o with
  | nil => rfl
  | cons v vs ih => exact (ih (w.setCell ⟨g, o, none⟩ v) _).trans (World.frozen?_setCell _ _ _ _)
theorem cell?_setCells_far (w : World) (g : Nat) (vs : List Value) (o : Nat) (a : Addr) (ha : a.block ≠ g) : (w.setCells g o vs).cell? a = w.cell? a := by
  induction vs generalizing w o with
  | nil => rfl
  | cons v vs ih => exact (ih (w.setCell ⟨g, o, none⟩ v) _).trans (World.cell?_setCell_other w ⟨g, o, none⟩ a v (by intro e; apply ha; rw [← e]))

theorem there_sub {w : World} {g n j m : Nat} (h : w.there g 0 n) (hj : j + m ≤ n) : w.there g j m := fun i hi => by
  have := h (j + i) (by omega)
  simpa using this

theorem QR.step {w wr w1 : World} {g : Nat} {zs : List Note} {k : Nat} {ns : List Nt} (h : QR w wr g zs k ns) (hk : k < zs.length) (hb : Below wr.heap.size wr w1) {n : Nt}
    (hn : NtTo w1 wr.heap.size n zs[k].d) (h1 : n.id = zs[k].z.id) (h2 : n.st = zs[k].z.st) (h3 : n.att = zs[k].z.att) (h4 : n.ep = zs[k].z.ep) :
    QR w (w1.setCells g (k * 21) n.cells.toList) g zs (k + 1) (ns ++ [n]) := by
  have hlt := h.lt
  have hg := h.hg
  have ht1 := there_below hb h.lt h.th
  refine ⟨by simp [h.len], below_setCells (h.bel.trans (hb.mono h.bel.size)) (by omega) _ _, hg, World.there_setCells ht1 _ _ _, by rw [size_setCells]; have := hb.size; omega, ?_, ?_, ?_⟩
  · rw [cell?_setCells_far _ _ _ _ _ (by simp; omega), hb.cell (p := ⟨w.heap.size, 2, none⟩) (by simp; omega)]; exact h.qc
  · rw [frozen?_setCells, hb.frozen (p := ⟨w.heap.size, 2, none⟩) (by simp; omega)]; exact h.qf
  · intro i hi hi2
    by_cases hik : i < k
    · have e : (ns ++ [n])[i] = ns[i]'(by rw [h.len]; exact hik) := by rw [List.getElem_append_left]
      rw [e]
      obtain ⟨r1, r2⟩ := h.row i (by rw [h.len]; exact hik) hi2
      refine ⟨World.rangeAt_setCells_apart (rangeAt_below hb h.lt r1) g (k * 21) _ (.inr (.inl ?_)), (r2.grow hb).1.fars (by omega) _ _, r2.2⟩
      rw [Nt.len]; omega
    · have hik' : i = k := by simp [h.len] at hi; omega
      subst hik'
      have e : (ns ++ [n])[i] = n := by rw [List.getElem_append_right (by rw [h.len]; exact Nat.le_refl _)]; simp [h.len]
      rw [e]
      exact ⟨World.rangeAt_setCells_same _ _ _ _ (by rw [Nt.len]; exact there_sub ht1 (by omega)), (hn.low (by omega)).fars (by omega) _ _, h1, h2, h3, h4⟩

theorem load78S (v : Value) : Instr.loadAt 78 v = loadS 78 v := rfl
theorem zlen (n : Nt) : n.zcells.toList.length = 12 := rfl
theorem load78V_at {w : World} {g o : Nat} {n : Nt} (h : w.rangeAt g o n.zcells.toList) : (loadS 78 (.pointer (some ⟨g, o, none⟩))).run Try.prog w = .ok (.agg n.zcells) w := by
  obtain ⟨d, hu, hd⟩ := isRow_of row78
  exact run_loadAt_mid (P := Try.prog) w g o 78 n.zcells.toList d h hu hd size78
attribute [local go_sem ↓] load78S store128S

theorem info128 : (Try.prog.info? 128).map (fun i => (i.zero, i.size, i.bytes)) = some (some (.agg Nt.zero.cells), 21, 192) := by kernel_rfl

/-- What 'zzStQueue' hands back: a new queue whose notifications tell the notes. -/
def QueueOf (w w' : World) (zs : List Note) (q : Nat) : Prop :=
  ∃ (cap' : Nat) (ao' : Option Addr) (ns : List Nt), ns.length = zs.length ∧ w'.cell? ⟨q, 2, none⟩ = some (.slice ao' ns.length cap') ∧ NtsAt w' ao' ns ∧
      (∀ i, (h : i < ns.length) → (h2 : i < zs.length) → Tell w' 0 ns[i] zs[i]) ∧ Below w.heap.size w w'

theorem there_of_row {w : World} {base e size : Nat} {g n cap : Nat} {xs : List Value} (h : w.ownsRow base e size (.slice (some ⟨g, 0, none⟩) n cap) n xs) : w.there g 0 (n * size) := by
  intro j hj
  refine ⟨?_, by simpa using h.frozenAt (0 + j)⟩
  rw [Nat.zero_add, h.cellAt j hj, List.getElem?_eq_getElem (by rw [h.1]; exact hj)]
  rfl

set_option maxRecDepth 100000 in
set_option maxHeartbeats 1000000 in
theorem queue_any (ao : Option Addr) (cap : Nat) (zs : List Note) (w : World) (hnil : ao = none → zs.length = 0) (hl : zs.length ≤ 1048576) (h : NotesAt w ao zs) :
    Calls Try.prog 28 #[.slice ao zs.length cap] w fun e w' => ∃ q, e = .returned (.pointer (some ⟨q, 0, none⟩)) ∧ QueueOf w w' zs q := by
  have hnl := fun w ao n c => Lib.run_eql_slice_nil (P := Try.prog) w 73 78 ao n c 0 0 Try.underlying73
  obtain ⟨i0, hi, hz0, hz1, hz2⟩ := info_parts info128
  cases ao with
  | none =>
    have H0 : Hid (zs.length = 0) := hnil rfl
    clear hnil
    go_enter Try.func28, Try.ntmps28
    go_wp2
    go_ret
    refine ⟨w.heap.size, rfl, 0, none, [], by simpa using H0.out.symm, by simp, fun i hi => absurd hi (by simp), fun i hi => absurd hi (by simp), ?_⟩
    exact (Below.refl _ _).alloc (Nat.le_refl _) _
  | some a =>
    clear hnil
    go_enter Try.func28, Try.ntmps28
    go_wp2_with (at_make; go_must (refine wpList_make_full _ rfl _ _ 123 rfl w.heap.size 128 i0 (.agg Nt.zero.cells) 21 Try.underlying123 hi hz0 hz1 _ _ _ _ zs.length rfl rfl rfl rfl (by rw [hz2]; omega) (by unfold maxLen; omega) (by simp) ?_); intro w1 hown1 hg1)
    have bq : Below w.heap.size w (w.alloc (.cells #[.int .i64 0, .int .i64 0, .slice none 0 0] 125)) := (Below.refl _ _).alloc (Nat.le_refl _) _
    have b1 : Below w.heap.size w w1 := bq.grown hg1 (by simp) (by simp)
    have b1' : Below (w.heap.size + 1) (w.alloc (.cells #[.int .i64 0, .int .i64 0, .slice none 0 0] 125)) w1 := (Below.refl _ _).grown hg1 (by simp) (by simp)
    have q0 : QR w w1 (w.heap.size + 1) zs 0 [] := by
      have t1 : w1.there (w.heap.size + 1) 0 (zs.length * 21) := by simpa using there_of_row hown1
      have l1 := (hown1.lt (w.heap.size + 1) (by simp [Value.ownBlock])).2
      refine ⟨rfl, b1, by omega, t1, l1, ?_, ?_, fun i hi => absurd hi (by simp)⟩
      · rw [b1'.cell (p := ⟨w.heap.size, 2, none⟩) (by simp)]; simp
      · rw [b1'.frozen (p := ⟨w.heap.size, 2, none⟩) (by simp)]; simp [go_sem]
    clear hown1 hg1 bq b1 b1' hi hz0 hz1 hz2 hnl
    go_loopw [5] (fun i wr => ∃ (k : Nat) (ns : List Nt), k ≤ zs.length ∧ i = .int .i64 k ∧ QR w wr (w.heap.size + 1) zs k ns) (fun i _ => zs.length - (intOf i).toNat)
    case atStart => exact ⟨0, [], Nat.zero_le _, rfl, q0⟩
    case round =>
      obtain ⟨k, ns, hk, rfl, hq⟩ := hrel
      by_cases hlt : k < zs.length
      · obtain ⟨b, off, e, hbw, hr, hn, hs⟩ := (h.grow hq.bel) k hlt
        cases e
        have hld := load78V_at hr
        generalize hz : zs[k] = zk at hr hn hs hld
        have HZ : Hid (zs[k] = zk) := hz
        clear hz hr
        go_wp2_with (go_at_call 50; refine (notification_any zk.z zk.d zk.so 0 _ hn hs).mono ?_; rintro e w2 ⟨n, rfl, hnn, e1, e2, e3, e4, hb2⟩; have EE : Hid (n.id = zk.z.id ∧ n.st = zk.z.st ∧ n.att = zk.z.att ∧ n.ep = zk.z.ep) := ⟨e1, e2, e3, e4⟩; clear e1 e2 e3 e4; have hsv := store128V_at n (there_sub (j := k * 21) (there_below hb2 hq.lt hq.th) (by omega)))
        go_roundw
        case rel =>
          have e := HZ.out
          obtain ⟨e1, e2, e3, e4⟩ := EE.out
          subst e
          exact ⟨k + 1, ns ++ [n], by omega, by go_num, hq.step hlt hb2 hnn e1 e2 e3 e4⟩
        case measure => simp [intOf]; omega
      · have hqc := hq.qc
        have hqf := hq.qf
        go_wp2
        go_ret
        have hlen : ns.length = zs.length := by rw [hq.len]; omega
        refine ⟨w.heap.size, rfl, zs.length, some ⟨w.heap.size + 1, 0, none⟩, ns, hlen, ?_, ?_, ?_, ?_⟩
        · rw [hlen]; exact World.cell?_setCell_same _ _ _ hqc
        · intro i hi
          exact ⟨w.heap.size + 1, rfl, by simpa [World.setCell] using hq.lt, rangeAt_setCell_far (hq.row i hi (by omega)).1 _ (by simp) _⟩
        · intro i hi hi2
          obtain ⟨_, t1, t2⟩ := hq.row i hi hi2
          exact ⟨(t1.far (a := ⟨w.heap.size, 2, none⟩) (by simp; omega) _).low (Nat.zero_le _), t2⟩
        · exact hq.bel.setCell (p := ⟨w.heap.size, 2, none⟩) (Nat.le_refl _) _
end Go.Proofs.Qxb6614903a
