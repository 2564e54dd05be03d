import Derived.Test.Qxb6614657aInsert
import Derived.Maps.Own
import Derived.Maps.OwnOps
import Derived.Maps.OwnSet
namespace Go.Proofs.Qxb6614657a
open Go.RowKit

def key (s : ByteArray) : Lit := .string s.data.toList
theorem key_inj {s t : ByteArray} (h : key s = key t) : s = t := by
  unfold key at h
  simp only [Lit.string.injEq] at h
  exact ByteArray.ext (Array.toList_inj.1 h)
/-- How many hosts have a count. -/
def many (n : Nat) (c : Nat → Nat) : Nat := (List.range n).countP (fun h => decide (c h ≠ 0))
theorem many_succ (n : Nat) (c : Nat → Nat) : many (n + 1) c = many n c + if c n ≠ 0 then 1 else 0 := by
  unfold many
  rw [List.range_succ, List.countP_append]
  simp
theorem many_congr {n : Nat} {c d : Nat → Nat} (h : ∀ x, x < n → c x = d x) : many n c = many n d := by
  induction n with
  | zero => rfl
  | succ n ih => rw [many_succ, many_succ, ih (fun x hx => h x (by omega)), h n (by omega)]
def setC (c : Nat → Nat) (k v : Nat) (x : Nat) : Nat := if x = k then v else c x
theorem many_set (n : Nat) (c : Nat → Nat) (k v : Nat) (hk : k < n) (hv : v ≠ 0) : many n (setC c k v) = if c k ≠ 0 then many n c else many n c + 1 := by
  induction n with
  | zero => omega
  | succ n ih =>
    rw [many_succ, many_succ]
    by_cases e : k = n
    · subst e
      rw [many_congr (d := c) (fun x hx => by unfold setC; rw [if_neg (by omega)])]
      have : setC c k v k = v := by unfold setC; rw [if_pos rfl]
      rw [this, if_pos hv]
      split <;> simp
    · rw [ih (by omega)]
      have : setC c k v n = c n := by unfold setC; rw [if_neg (by omega)]
      rw [this]
      split <;> omega
/-- No two hosts bear one name. -/
def Distinct (hs : List ByteArray) : Prop := ∀ i j (hi : i < hs.length) (hj : j < hs.length), hs[i] = hs[j] → i = j
/-- The vector as it is read: the counts of the hosts, by their names. -/
structure Vec (D : DataW Unit) (hs : List ByteArray) (c : Nat → Nat) : Prop where
  tidy : Maps.Tidy D
  look : ∀ h (hh : h < hs.length), D.atKey (key hs[h]) (.lit (.int .u64 0)) = .lit (.int .u64 (c h))
  mem : ∀ h (hh : h < hs.length), Maps.has D (key hs[h]) = decide (c h ≠ 0)
  size : Maps.size D = many hs.length c
theorem Vec.put {D : DataW Unit} {hs : List ByteArray} {c : Nat → Nat} (h : Vec D hs c) (hd : Distinct hs) (k v : Nat) (hk : k < hs.length) (hv : v ≠ 0) : Vec (D.put (key hs[k]) (.lit (.int .u64 v))) hs (setC c k v) := by
  have hkl : WideAt.IsKeyLit (key hs[k]) := trivial
  have hne : ∀ x (hx : x < hs.length), x ≠ k → key hs[x] ≠ key hs[k] := fun x hx hxk e => hxk (hd x k hx hk (key_inj e))
  refine ⟨h.tidy.put hkl _, fun x hx => ?_, fun x hx => ?_, ?_⟩
  · unfold setC
    by_cases e : x = k
    · subst e
      rw [if_pos rfl, Maps.atKey_put_same h.tidy.isMap hkl]
    · rw [if_neg e, Maps.atKey_put_other (hne x hx e)]; exact h.look x hx
  · unfold setC
    by_cases e : x = k
    · subst e
      rw [if_pos rfl, Maps.has_put_same h.tidy.isMap hkl]
      simp [hv]
    · rw [if_neg e, Maps.has_put_other (hne x hx e)]; exact h.mem x hx
  · rw [Maps.size_put h.tidy, h.mem k hk, many_set _ c k v hk hv, h.size]
    by_cases e : c k = 0 <;> simp [e]
theorem Vec.congr {D : DataW Unit} {hs : List ByteArray} {c d : Nat → Nat} (h : Vec D hs c) (e : ∀ x, x < hs.length → c x = d x) : Vec D hs d :=
  ⟨h.tidy, fun x hx => by rw [h.look x hx, e x hx], fun x hx => by rw [h.mem x hx, e x hx], by rw [h.size, many_congr e]⟩
theorem many_zero (n : Nat) : many n (fun _ => 0) = 0 := by
  induction n with
  | zero => rfl
  | succ n ih => rw [many_succ, ih]; rfl
theorem many_le (n : Nat) (c : Nat → Nat) : many n c ≤ n := by
  unfold many
  exact Nat.le_trans List.countP_le_length (by simp)
theorem Vec.empty (hs : List ByteArray) : Vec (.map []) hs (fun _ => 0) :=
  ⟨Maps.tidy_empty, fun _ _ => rfl, fun _ _ => by simp [Maps.has], by rw [many_zero]; rfl⟩
theorem own_tight {w : World} {P : Program} {k : TypeId} {R : Value → Option (DataW Unit × List MemPlace)} {b n : Nat} {D : DataW Unit} (h : w.ownsMap P k R b n D) : w.ownsMap P k R b (Maps.size D) D := by
  obtain ⟨es, clock, h1, h2, h3, rfl⟩ := h
  refine ⟨es, clock, h1, h2, ?_, rfl⟩
  rw [Maps.size_eq, length_sorted]
  simp
end Go.Proofs.Qxb6614657a
