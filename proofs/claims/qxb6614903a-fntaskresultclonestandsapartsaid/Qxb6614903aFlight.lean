import Derived.Test.Qxb6614903aBase
namespace Go.Proofs.Qxb6614903a
open Go.RowKit

/-- What a store.Notification of these laws holds: its times are zero or nil. -/
structure Nt where
  id : ByteArray
  cmd : ByteArray
  typ : Int
  src : Option Addr
  content : ByteArray
  pr : Option Addr
  st : Int
  att : Int
  le : Option Addr
  de : Option Addr
  ow : Option Addr
  ep : Int

def Nt.cells (n : Nt) : Array Value := #[.string n.id, .string n.cmd, .int .i64 n.typ, .pointer n.src, .string n.content, .pointer n.pr, .int .i64 n.st, .int .i64 n.att, .pointer none, .pointer n.le, .pointer none, .pointer n.de, .pointer n.ow, .pointer none, .int .i64 n.ep, .int .u64 0, .int .i64 0, .pointer none, .int .u64 0, .int .i64 0, .pointer none]
def Nt.deliv (n : Nt) : Array Value := #[.pointer n.pr, .int .i64 n.st, .int .i64 n.att, .pointer none, .pointer n.le, .pointer none, .pointer n.de, .pointer n.ow, .pointer none, .int .i64 n.ep]
def Nt.flight (n : Nt) : Array Value := #[.string n.id, .pointer n.pr, .int .i64 n.st, .int .i64 n.att, .pointer none, .pointer n.le, .pointer none, .pointer n.de, .pointer n.ow, .pointer none, .int .i64 n.ep]

theorem Nt.extract (n : Nt) : n.cells.extract 5 15 = n.deliv := rfl

/-! The names of the methods are spelt sign by sign: a string of a proof may not bear a slash. -/
theorem method_delivery (n : Nt) (nm : String) (h : nm = String.ofList ['e', 'x', 'a', 'm', 'p', 'l', 'e', '.', 'c', 'o', 'm', '/', 'b', 'a', 't', 'o', 'n', 'd', '/', 'b', 'a', 't', 'o', 'n', 'd', '/', 'i', 'n', 't', 'e', 'r', 'n', 'a', 'l', '/', 's', 't', 'o', 'r', 'e', '.', 'd', 'e', 'l', 'i', 'v', 'e', 'r', 'y']) (w : World) : (method 298 128 (.agg n.cells) nm).run Try.prog w = .ok (101, .agg n.deliv) w := by
  subst h; kernel_rfl
theorem method_key (n : Nt) (nm : String) (h : nm = String.ofList ['e', 'x', 'a', 'm', 'p', 'l', 'e', '.', 'c', 'o', 'm', '/', 'b', 'a', 't', 'o', 'n', 'd', '/', 'b', 'a', 't', 'o', 'n', 'd', '/', 'i', 'n', 't', 'e', 'r', 'n', 'a', 'l', '/', 's', 't', 'o', 'r', 'e', '.', 'k', 'e', 'y']) (w : World) : (method 298 128 (.agg n.cells) nm).run Try.prog w = .ok (112, .agg n.cells) w := by
  subst h; kernel_rfl

/-- (Delivery).delivery hands its receiver back. -/
theorem delivery_any (n : Nt) (w : World) : Calls Try.prog 101 #[.agg n.deliv] w fun e w' => e = .returned (.agg n.deliv) ∧ Below w.heap.size w w' := by
  unfold Nt.deliv
  go_enter Try.func101, Try.ntmps101
  go_wp2
  exact bodyPost_ret (v := .agg #[.pointer n.pr, .int .i64 n.st, .int .i64 n.att, .pointer none, .pointer n.le, .pointer none, .pointer n.de, .pointer n.ow, .pointer none, .int .i64 n.ep]) (by simp [results, Try.results101, go_sem]) rfl ⟨rfl, ((Below.refl _ _).alloc (Nat.le_refl _) _).alloc (by simp) _⟩

/-- (Notification).key hands the id back. -/
theorem key_any (n : Nt) (w : World) : Calls Try.prog 112 #[.agg n.cells] w fun e w' => e = .returned (.string n.id) ∧ Below w.heap.size w w' := by
  unfold Nt.cells
  go_enter Try.func112, Try.ntmps112
  go_wp2
  go_ret
  exact ⟨rfl, (Below.refl _ _).alloc (Nat.le_refl _) _⟩

theorem size128 : (Try.prog.info? 128).map (·.size) = some 21 := by kernel_rfl
theorem size78 : (Try.prog.info? 78).map (·.size) = some 12 := by kernel_rfl
theorem size85 : (Try.prog.info? 85).map (·.size) = some 11 := by kernel_rfl
theorem size83 : (Try.prog.info? 83).map (·.size) = some 10 := by kernel_rfl
theorem Nt.len (n : Nt) : n.cells.toList.length = 21 := rfl
theorem rangeAt_new (w : World) (cs : Array Value) (t : TypeId) : (w.alloc (.cells cs t)).rangeAt w.heap.size 0 cs.toList := by
  have := World.rangeAt_of_block (heap_alloc_new w (.cells cs t)) 0 cs.size
  simpa using this

theorem isRow_of {ty : TypeId} (h : ((Try.prog.underlying ty).map TypeDesc.isRow) = some true) : ∃ d, Try.prog.underlying ty = some d ∧ d.isRow = true := by
  cases hu : Try.prog.underlying ty with
  | none => rw [hu] at h; cases h
  | some d => rw [hu] at h; exact ⟨d, rfl, by simpa using h⟩
theorem row128 : ((Try.prog.underlying 128).map TypeDesc.isRow) = some true := by kernel_rfl
theorem row78 : ((Try.prog.underlying 78).map TypeDesc.isRow) = some true := by kernel_rfl
theorem row85 : ((Try.prog.underlying 85).map TypeDesc.isRow) = some true := by kernel_rfl

theorem load128 {ops : Array Oper} {rest : List Oper} {op : Oper} {a : Act} {w : World} {Q : Exit → Act → World → Prop} (hgd : op.guard = none) (x : Operand) (ho : op.op = .load 128 x)
    (b o : Nat) (hx : a.eval x = .pointer (some ⟨b, o, none⟩)) (n : Nt) (hc : w.rangeAt b o n.cells.toList)
    (h : wpList Try.prog ops Q rest (a.put op.dst (.agg n.cells)) w) : wpList Try.prog ops Q (op :: rest) a w := by
  obtain ⟨d, hu, hd⟩ := isRow_of row128
  exact wpList_load_mid hgd 128 x ho b o hx n.cells.toList d hc hu hd size128 h

theorem field_st (n : Nt) (w : World) : (Instr.field 83 (.agg n.deliv) 1).run Try.prog w = .ok (.int .i64 n.st) w := by kernel_rfl

set_option maxRecDepth 100000 in
theorem isProgress_any (n : Nt) (w : World) :
    Calls Try.prog 67 #[.agg n.cells] w fun e w' => e = .returned (.bool (n.st == 2)) ∧ Below w.heap.size w w' := by
  have hr := rangeAt_new w n.cells 128
  have hf := field_st n
  go_enter Try.func67, Try.ntmps67
  go_wp2_with ((with_reducible (refine load128 ?_ (.tmp 1) ?_ w.heap.size 0 ?_ n ?_ ?_)); rfl; rfl; rfl; exact hr)
  rw [method_delivery n _ (by rfl)]
  go_wp2_with (go_at_call 101; refine (delivery_any n _).mono ?_; rintro e w1 ⟨rfl, hb⟩)
  go_ret
  exact ⟨rfl, ((Below.refl _ _).alloc (Nat.le_refl _) _).trans (hb.mono (by simp))⟩

/-- A row of notifications behind a slice's address. -/
def NtsAt (w : World) (ao : Option Addr) (ns : List Nt) : Prop :=
  ∀ i, (h : i < ns.length) → ∃ g, ao = some ⟨g, 0, none⟩ ∧ g < w.heap.size ∧ w.rangeAt g (i * 21) ns[i].cells.toList

theorem rangeAt_below {B : Nat} {w w' : World} (hb : Below B w w') {g o : Nat} {cs : List Value} (hg : g < B) (h : w.rangeAt g o cs) : w'.rangeAt g o cs :=
  fun j v hv => by rw [hb.cell (p := ⟨g, o + j, none⟩) hg]; exact h j v hv

theorem index_any (ao : Option Addr) (cap : Nat) (ns : List Nt) (w : World) (hl : ns.length ≤ 1048576) (h : NtsAt w ao ns) :
    Calls Try.prog 66 #[.slice ao ns.length cap, .func (.func 67) #[] #[]] w fun e w' =>
      (∃ i : Int, e = .returned (.int .i64 i) ∧ ((i = -1 ∧ ∀ j, (h : j < ns.length) → ns[j].st ≠ 2) ∨ ∃ k : Nat, i = k ∧ ∃ hk : k < ns.length, ns[k].st = 2 ∧ ∀ j, (h : j < k) → ns[j].st ≠ 2)) ∧ Below w.heap.size w w' := by
  go_enter Try.func66, Try.ntmps66
  go_wp2
  go_loopw [8] (fun i wr => ∃ k : Nat, k ≤ ns.length ∧ i = .int .i64 k ∧ (∀ j, (h : j < ns.length) → j < k → ns[j].st ≠ 2) ∧ Below w.heap.size w wr) (fun i _ => ns.length - (intOf i).toNat)
  case atStart => exact ⟨0, Nat.zero_le _, rfl, fun j h h0 => absurd h0 (Nat.not_lt_zero _), Below.refl _ _⟩
  case round =>
    obtain ⟨k, hk, rfl, hno, hbel⟩ := hrel
    by_cases hlt : k < ns.length
    · obtain ⟨g, rfl, hg, hr⟩ := h k hlt
      have hr' := rangeAt_below hbel hg hr
      generalize hn : ns[k] = n at hr'
      have HN : Hid (ns[k] = n) := hn
      clear hn hr h
      have HO : Hid (∀ j, (h : j < ns.length) → j < k → ns[j].st ≠ 2) := hno
      clear hno
      cases hst : (n.st == 2)
      · go_wp2_with (first | ((with_reducible (refine load128 ?_ (.tmp 14) ?_ g (k * 21) ?_ n ?_ ?_)); rfl; rfl; rfl; exact hr') | (go_at_call 67; refine (isProgress_any n _).mono ?_; rintro e w1 ⟨rfl, hb⟩))
        go_roundw
        case rel => exact ⟨k + 1, by omega, by go_num, fun j hj hjk => by
          rcases Nat.lt_succ_iff_lt_or_eq.1 hjk with h1 | rfl
          · exact HO.out j hj h1
          · have e := HN.out; rw [e]; simpa using hst, hbel.trans (hb.mono hbel.size)⟩
        case measure => simp [intOf]; omega
      · go_wp2_with (first | ((with_reducible (refine load128 ?_ (.tmp 14) ?_ g (k * 21) ?_ n ?_ ?_)); rfl; rfl; rfl; exact hr') | (go_at_call 67; refine (isProgress_any n _).mono ?_; rintro e w1 ⟨rfl, hb⟩))
        go_ret
        exact ⟨⟨_, rfl, .inr ⟨k, rfl, hlt, by have e := HN.out; rw [e]; simpa using hst, fun j hj => HO.out j (by omega) hj⟩⟩, hbel.trans (hb.mono hbel.size)⟩
    · go_wp2
      go_ret
      exact ⟨⟨_, rfl, .inl ⟨rfl, fun j hj => hno j hj (by omega)⟩⟩, hbel⟩
end Go.Proofs.Qxb6614903a
