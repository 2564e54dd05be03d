import Derived.Test.Qxb6614657aRows
import Derived.WalkKit
import Derived.Lib.AppendZerosOnto
import Derived.Shelf.Spec.SlicesInsert
namespace Go.Proofs.Qxb6614657a
open Go.RowKit

/-! A law of no program: 'append(s, make([]T, m)...)' onto a row of one's own: there is room, or a new row is laid. -/
theorem run_append_room_zeros {P : Program} (w : World) (t tn ty e : TypeId) (i : TypeInfo) (z : Value) (kq kn : IntKind) (ht : P.underlying t = some (.slice e)) (htn : P.underlying tn = some (.int kn)) (hi : P.info? e = some i) (hz : i.zero = some z) (hzs : z.cells.size = i.size)
    (g sLen sCap : Nat) (cur : Array Value) (hg : w.heap[g]? = some (.cells cur e (0, 0))) (k : Nat) (h0 : 0 < k) (hs : 0 < i.size) (h1 : ∀ u ∈ (Builtin.zeroCells z.cells k).toList, u.oneCell' = true)
    (hroom : sLen + k ≤ sCap) (hfit : sLen * i.size + k * i.size ≤ cur.size) (h63 : (k : Int) ≤ 9223372036854775807) (h48 : k * i.bytes ≤ 281474976710656) :
    (Builtin.append_ #[t, tn] ty #[.slice (some ⟨g, 0, none⟩) sLen sCap, .int kq k]).run P w =
      .ok (.slice (some ⟨g, 0, none⟩) (sLen + k) sCap) (w.setRow g (cur.toList.take (sLen * i.size) ++ (Builtin.zeroCells z.cells k).toList ++ cur.toList.drop (sLen * i.size + k * i.size)).toArray) := by
  have hl : (Builtin.zeroCells z.cells k).toList.length = k * i.size := by rw [Array.length_toList, size_zeroCells, hzs]
  have hst := run_storeCells_at P g (sLen * i.size) e (Builtin.zeroCells z.cells k).toList 0 cur w hg (by rw [hl]; simpa using hfit) h1
  simp only [Nat.add_zero] at hst
  rw [hl] at hst
  have hk : k ≠ 0 := by omega
  have hw : IntKind.i64.wrap (k : Int) = k := by rw [IntKind.wrap_i64]; omega
  have h48i : ¬ (281474976710656 < (k : Int) * (i.bytes : Int)) := by
    rw [← Int.natCast_mul]
    omega
  have hneg : ¬ ((k : Int) < 0) := by omega
  have hns : ¬ (k * i.size = 0) := Nat.mul_ne_zero hk (by omega)
  simp [Builtin.append_, run_underlying ht, run_underlying htn, sizeOf, typeInfo, zeroValue, hi, hz, asInt, asIntOf, hw, hneg, hns, h48i, hroom, Addr.add_lit, hst]

theorem run_append_none_zeros {P : Program} (w : World) (t tn ty e : TypeId) (i : TypeInfo) (kq kn : IntKind) (ht : P.underlying t = some (.slice e)) (htn : P.underlying tn = some (.int kn)) (hi : P.info? e = some i) (base : Option Addr) (sLen sCap : Nat) (hc : sLen ≤ sCap) :
    (Builtin.append_ #[t, tn] ty #[.slice base sLen sCap, .int kq 0]).run P w = .ok (.slice base sLen sCap) w := by
  have hw : IntKind.i64.wrap (0 : Int) = 0 := by decide
  cases base <;> simp [Builtin.append_, run_underlying ht, run_underlying htn, sizeOf, typeInfo, hi, asInt, asIntOf, hw, hc, storeCells]

theorem run_zeros_own {P : Program} (w : World) (base : Nat) (t tn ty e : TypeId) (i : TypeInfo) (z : Value) (size bytes : Nat) (kq kn : IntKind) (ht : P.underlying t = some (.slice e)) (htn : P.underlying tn = some (.int kn)) (hi : P.info? e = some i) (hz : i.zero = some z)
    (hsize : i.size = size) (hby : i.bytes = bytes) (hzs : z.cells.size = size) (hsz : 0 < size)
    (v : Value) (n : Nat) (xs : List Value) (hown : w.ownsRow base e size v n xs) (m : Nat) (h1 : ∀ u ∈ (Builtin.zeroCells z.cells m).toList, u.oneCell' = true)
    (h63 : n + m ≤ maxLen) (hbytes : (n + m) * bytes ≤ 140737488355328) (hbase : base ≤ w.heap.size) :
    ∃ v' w', (Builtin.append_ #[t, tn] ty #[v, .int kq m]).run P w = .ok v' w' ∧ w'.ownsRow base e size v' (n + m) (xs ++ (Builtin.zeroCells z.cells m).toList) ∧ w.grownBy w' v.ownBlock ∧
      (v'.ownBlock = v.ownBlock ∨ v'.ownBlock = some w.heap.size) := by
  subst hsize
  subst hby
  have hsmall : n + m ≤ 9223372036854775807 := by simp only [maxLen] at h63; omega
  have hzl : (Builtin.zeroCells z.cells m).toList.length = m * i.size := by rw [Array.length_toList, size_zeroCells, hzs]
  have hmb : m * i.bytes ≤ 140737488355328 := Nat.le_trans (Nat.mul_le_mul_right _ (by omega)) hbytes
  have hlen : (xs ++ (Builtin.zeroCells z.cells m).toList).length = (n + m) * i.size := by rw [List.length_append, hown.1, hzl, Nat.add_mul]
  by_cases hm0 : m = 0
  · subst hm0
    have hn : (Builtin.zeroCells z.cells 0).toList = [] := List.eq_nil_of_length_eq_zero (by simpa using hzl)
    rw [hn, List.append_nil]
    rcases hown.2 with ⟨rfl, rfl⟩ | ⟨g, cap, cur, rfl, hbg, hg, hnc, hcm, hcs, htake⟩
    · exact ⟨_, w, run_append_none_zeros w t tn ty e i kq kn ht htn hi none 0 0 (Nat.le_refl _), hown, ⟨rfl, rfl, rfl, Nat.le_refl _, fun _ _ _ => rfl⟩, .inl rfl⟩
    · exact ⟨_, w, run_append_none_zeros w t tn ty e i kq kn ht htn hi _ n cap hnc, hown, ⟨rfl, rfl, rfl, Nat.le_refl _, fun _ _ _ => rfl⟩, .inl rfl⟩
  have grown : ∀ (old : Nat), ∀ (row : Option Nat),
      (w.drew.alloc (.cells (xs.toArray ++ Builtin.zeroCells z.cells m ++ Builtin.zeroCells z.cells (grownCap w (n + m) old e - (n + m))) e)).ownsRow base e i.size
        (.slice (some ⟨w.heap.size, 0, none⟩) (n + m) (grownCap w (n + m) old e)) (n + m) (xs ++ (Builtin.zeroCells z.cells m).toList) ∧
      w.grownBy (w.drew.alloc (.cells (xs.toArray ++ Builtin.zeroCells z.cells m ++ Builtin.zeroCells z.cells (grownCap w (n + m) old e - (n + m))) e)) row := by
    intro old row
    have hge := grownCap_ge w (n + m) old e
    have hcm : grownCap w (n + m) old e ≤ maxLen := grownCap_le_maxLen w (n + m) old e h63
    refine ⟨⟨hlen, .inr ⟨w.heap.size, _, _, rfl, hbase, heap_alloc_new w.drew _, hge, hcm, ?_, ?_⟩⟩, ⟨rfl, rfl, rfl, by simp, fun k hk _ => heap_alloc_old w.drew _ hk⟩⟩
    · simp only [Array.size_append, List.size_toArray, size_zeroCells, hzs, hown.1, ← Nat.add_mul]
      congr 1
      omega
    · simp only [Array.toList_append]
      rw [← hlen]
      exact List.take_left
  rcases hown.2 with ⟨rfl, rfl⟩ | ⟨g, cap, cur, rfl, hbg, hg, hnc, hcm, hcs, htake⟩
  · have hx : xs = [] := List.eq_nil_of_length_eq_zero (by simpa using hown.1)
    subst hx
    have hr := Lib.run_append_nil_zeros (P := P) w t tn ty e i z kq kn ht htn hi hz m (by omega) (by omega) (by omega) (by omega)
    have hgr := grown 0 (Value.ownBlock (.slice none 0 0))
    simp only [Nat.zero_add, List.nil_append, Array.empty_append] at hgr ⊢
    exact ⟨_, _, hr, hgr.1, hgr.2, .inr rfl⟩
  · by_cases hroom : n + m ≤ cap
    · have hfit : n * i.size + m * i.size ≤ cur.size := by rw [hcs, ← Nat.add_mul]; exact Nat.mul_le_mul_right _ hroom
      have hr := run_append_room_zeros (P := P) w t tn ty e i z kq kn ht htn hi hz hzs g n cap cur hg m (by omega) hsz h1 hroom hfit (by omega) (by omega)
      refine ⟨_, _, hr, ⟨hlen, .inr ⟨g, cap, _, rfl, hbg, setRow_heap w g cur _ e _ hg, hroom, hcm, ?_, ?_⟩⟩, ⟨rfl, rfl, rfl, by simp, fun k _ hk => setRow_other w g k _ (fun e => hk (by simp [Value.ownBlock, e]))⟩, .inl rfl⟩
      · simp only [List.size_toArray, List.length_append, List.length_take, List.length_drop, Array.length_toList] at hzl ⊢
        omega
      · rw [htake, ← hlen]
        exact List.take_left
    · have holds : ∀ j u, xs[j]? = some u → w.drew.cell? ((⟨g, 0, none⟩ : Addr).add j) = some u := hown.drew.cells (g := g) rfl
      have hold := run_firstCells_some (P := P) w.drew i.size n ⟨g, 0, none⟩ n cap xs hown.1 holds
      have hr := Lib.run_append_grow_zeros (P := P) w t tn ty e i z kq kn ht htn hi hz (some ⟨g, 0, none⟩) n cap xs hold m (by omega) hsz (by omega) (by omega) (by omega) (growslice_fits (by omega) hbytes)
      have hgr := grown cap (Value.ownBlock (.slice (some ⟨g, 0, none⟩) n cap))
      exact ⟨_, _, hr, hgr.1, hgr.2, .inr rfl⟩
end Go.Proofs.Qxb6614657a
