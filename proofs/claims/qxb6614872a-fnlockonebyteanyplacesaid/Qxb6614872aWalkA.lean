import Derived.Test.Qxb6614872aRows
import Derived.WalkKit
import Derived.WalkSpells
import Derived.WalkLawsBesides
import Derived.Deep.QuietTactic
import Derived.BigQuiet
import Derived.Deep.AppendSrc
import Derived.Lib.ConvBytes
namespace Go.Proofs.Qxb6614872a
open Go.RowKit

/-- zzBytes: is the name's length at most 1 << 20? -/
theorem bytes_yes (s : ByteArray) (k c1 c2 : Int) (w : World) (h : s.size ≤ 1048576) :
    Calls Try.prog 4 #[.string s, .int .i64 k, .int .u8 c1, .int .u8 c2] w fun e w' => e = .returned (.bool true) ∧ w' = w := by
  go_enter Try.func4, Try.ntmps4
  go_wp2
  go_ret
  exact ⟨rfl, rfl⟩

theorem bytes_no (s : ByteArray) (k c1 c2 : Int) (w : World) (h : 1048576 < s.size) (hs : s.size ≤ maxLen) :
    Calls Try.prog 4 #[.string s, .int .i64 k, .int .u8 c1, .int .u8 c2] w fun e w' => e = .returned (.bool false) ∧ w' = w := by
  unfold maxLen at hs
  go_enter Try.func4, Try.ntmps4
  go_wp2
  go_ret
  exact ⟨rfl, rfl⟩

/-- fnv.New32a: a new cell with the offset basis, as an interface value of type *sum32a. -/
theorem new_any (w : World) :
    Calls Try.prog 9 #[] w fun e w' => e = .returned (.iface 57 (.pointer (some ⟨w.heap.size, 0, none⟩))) ∧ w' = w.alloc (.cells #[.int .u32 2166136261] 56) := by
  go_enter Try.func9, Try.ntmps9
  go_wp2
  go_ret
  exact ⟨rfl, rfl⟩

/-- Sum32 reads the cell. -/
theorem sum_any (b : Nat) (h : Int) (w : World) (hc : w.cell? ⟨b, 0, none⟩ = some (.int .u32 h)) :
    Calls Try.prog 31 #[.pointer (some ⟨b, 0, none⟩)] w fun e w' => e = .returned (.int .u32 h) ∧ w' = w := by
  go_enter Try.func31, Try.ntmps31
  go_wp2
  go_ret
  exact ⟨rfl, rfl⟩

/-- What '&Store{..}' lays: some row of cells. -/
theorem build_store (x y : Nat) : ∃ cs : Array Value, ∀ w : World, (Instr.build 45 #[(4, .map (some x)), (6, .map (some y))]).run Try.prog w = .ok (.agg cs) w :=
  ⟨match (Instr.build 45 #[(4, .map (some x)), (6, .map (some y))]).run Try.prog default with
  | .ok (.agg cs) _ => cs
  | _ => #[], fun w => by kernel_rfl⟩

theorem wpList_build_store (w : World) {ops : Array Oper} {rest : List Oper} {o : Oper} {a : Act} {Q : Exit → Act → World → Prop}
    (hg : o.guard = none) (l c : Operand) (hop : o.op = Op.build 45 #[(4, l), (6, c)]) (x y : Nat) (hl : a.eval l = .map (some x)) (hc : a.eval c = .map (some y))
    (hK : ∀ cs, wpList Try.prog ops Q rest (a.put o.dst (.agg cs)) w) : wpList Try.prog ops Q (o :: rest) a w := by
  refine wpList_plain hg fun K hK' => ?_
  obtain ⟨cs, hb⟩ := build_store x y
  unfold Oper.wp
  simp [execOp, hop, hl, hc, hb, Result.andThen]
  exact hK' _ _ (hK cs)

theorem store_any (w : World) :
    Calls Try.prog 5 #[] w fun e w' => e = .returned (.pointer (some ⟨w.heap.size + 2, 0, none⟩)) ∧ Below w.heap.size w w' := by
  have hmm := @run_makeMap Try.prog
  go_enter Try.func5, Try.ntmps5
  go_wp2_with (refine wpList_build_store _ rfl _ _ rfl _ _ rfl rfl ?_; intro cs)
  go_ret
  refine ⟨rfl, ?_⟩
  exact (((Below.refl _ _).alloc (Nat.le_refl _) _).alloc (by simp) _).alloc (by simp; omega) _

def stp (h c : Int) : Int := bits .xor .u32 h (c % 4294967296) * 16777619 % 4294967296
def hashTo : List UInt8 → Int → Int
  | [], h => h
  | c :: l, h => hashTo l (stp h c.toNat)
theorem hashTo_snoc (l : List UInt8) (c : UInt8) (h : Int) : hashTo (l ++ [c]) h = stp (hashTo l h) c.toNat := by
  induction l generalizing h with
  | nil => rfl
  | cons a l ih => exact ih _
theorem take_snoc (l : List UInt8) (k : Nat) (h : k < l.length) : l.take (k + 1) = l.take k ++ [l[k]] := by
  rw [List.take_succ_eq_append_getElem h]

/-- Write: the bytes of the row go into the hash. -/
theorem write_any (b g cap : Nat) (l : List UInt8) (h : Int) (w : World) (hl : l.length ≤ 100000)
    (hc : w.cell? ⟨b, 0, none⟩ = some (.int .u32 h)) (hf : w.frozen? ⟨b, 0, none⟩ = false)
    (hd : ∀ j, (hj : j < l.length) → w.cell? ⟨g, j, none⟩ = some (.int .u8 (l[j].toNat : Int))) :
    Calls Try.prog 32 #[.pointer (some ⟨b, 0, none⟩), .slice (some ⟨g, 0, none⟩) l.length cap] w fun e w' =>
      e = .returned (.tuple #[.int .i64 l.length, .nilIface]) ∧ w' = w.setCell ⟨b, 0, none⟩ (.int .u32 (hashTo l h)) := by
  go_enter Try.func32, Try.ntmps32
  go_wp2
  go_loop [6, 14] (fun x i => ∃ k : Nat, k ≤ l.length ∧ i = .int .i64 k ∧ x = .int .u32 (hashTo (l.take k) h)) (fun _ i => l.length - (intOf i).toNat)
  case atStart => exact ⟨0, Nat.zero_le _, rfl, rfl⟩
  case round =>
    obtain ⟨k, hk, rfl, rfl⟩ := hrel
    by_cases hlt : k < l.length
    · have hcell := hd k hlt
      have HS : Hid (hashTo (l.take (k + 1)) h = stp (hashTo (l.take k) h) l[k].toNat) := by rw [take_snoc l k hlt]; exact hashTo_snoc _ _ _
      go_wp2
      go_round
      case rel => exact ⟨k + 1, by omega, by go_num, by rw [HS.out]; rfl⟩
      case measure => simp [intOf]; omega
    · have hkk : k = l.length := by omega
      subst hkk
      go_wp2
      go_ret2
      exact ⟨rfl, rfl⟩
end Go.Proofs.Qxb6614872a
