import Derived.Test.Qxb6614872aWalkB
import Derived.Lib.Strings
namespace Go.Proofs.Qxb6614872a
section
variable {P : Program} (w : World)

/-- 'append' within the capacity of a row of the call's own, whatever the source (a string's bytes among them). -/
theorem run_append_fits_src (base : Nat) (t tx ty e : TypeId) (i : TypeInfo) (size : Nat) (ht : P.underlying t = some (.slice e)) (hi : P.info? e = some i) (hsize : i.size = size)
    (g n cap : Nat) (xs : List Value) (hown : w.ownsRow base e size (.slice (some ⟨g, 0, none⟩) n cap) n xs)
    (x : Value) (m : Nat) (news : List Value) (hs : Src P size tx x m news w) (hroom : n + m ≤ cap) :
    ∃ w', (Builtin.append_ #[t, tx] ty #[.slice (some ⟨g, 0, none⟩) n cap, x]).run P w = .ok (.slice (some ⟨g, 0, none⟩) (n + m) cap) w' ∧
      w'.ownsRow base e size (.slice (some ⟨g, 0, none⟩) (n + m) cap) (n + m) (xs ++ news) ∧ w.grownBy w' (some g) := by
  subst hsize
  have hl := hs.newsLen
  have hlen : (xs ++ news).length = (n + m) * i.size := by rw [List.length_append, hown.1, hl, Nat.add_mul]
  rcases hown.2 with ⟨h, _⟩ | ⟨g', cap', cur, h, hbg, hg, hnc, hcm, hcs, htake⟩
  · simp at h
  · simp only [Value.slice.injEq, Option.some.injEq, Addr.mk.injEq, and_true, true_and] at h
    obtain ⟨rfl, rfl⟩ := h
    have hfit : n * i.size + news.length ≤ cur.size := by rw [hl, hcs, ← Nat.add_mul]; exact Nat.mul_le_mul_right _ hroom
    have hst := run_storeCells_at P g (n * i.size) e news 0 cur w hg (by simpa using hfit) hs.one
    simp only [Nat.add_zero] at hst
    have hr : (Builtin.append_ #[t, tx] ty #[.slice (some ⟨g, 0, none⟩) n cap, x]).run P w =
      .ok (.slice (some ⟨g, 0, none⟩) (n + m) cap) (w.setRow g (cur.toList.take (n * i.size) ++ news ++ cur.toList.drop (n * i.size + news.length)).toArray) := by
      rcases hs.kind with ⟨e', hk⟩ | hk <;> simp [Builtin.append_, run_underlying ht, run_underlying hk, sizeOf, typeInfo, hi, hs.len, hroom, hs.cells, Addr.add_lit, hst]
    refine ⟨_, hr, ⟨hlen, .inr ⟨g, cap, _, rfl, hbg, setRow_heap w g cur _ e _ hg, hroom, hcm, ?_, ?_⟩⟩, ⟨rfl, rfl, rfl, by simp, fun k _ hk => setRow_other w g k _ (fun e => hk (by simp [e]))⟩⟩
    · simp only [List.size_toArray, List.length_append, List.length_take, List.length_drop, Array.length_toList]
      omega
    · rw [htake, ← hlen]
      exact List.take_left

theorem wpList_append_fits_src {ops : Array Oper} {rest : List Oper} {o : Oper} {a : Act} {Q : Exit → Act → World → Prop}
    (hg : o.guard = none) (s x : Operand) (t tx : TypeId) (hop : o.op = Op.call { callee := Callee.builtin Builtin.append, args := #[s, x], argTypes := #[t, tx] })
    (base : Nat) (e : TypeId) (i : TypeInfo) (size : Nat) (h1 : P.underlying t = some (.slice e)) (h2 : P.info? e = some i) (h4 : i.size = size)
    (g k cap : Nat) (xs : List Value) (hs : a.eval s = .slice (some ⟨g, 0, none⟩) k cap) (hown : w.ownsRow base e size (.slice (some ⟨g, 0, none⟩) k cap) k xs) (v : Value) (m : Nat) (news : List Value) (hx : a.eval x = v) (hsrc : Src P size tx v m news w)
    (b1 : k + m ≤ cap)
    (hK : ∀ w', w'.ownsRow base e size (.slice (some ⟨g, 0, none⟩) (k + m) cap) (k + m) (xs ++ news) → w.grownBy w' (some g) → wpList P ops Q rest (a.put o.dst (.slice (some ⟨g, 0, none⟩) (k + m) cap)) w') :
    wpList P ops Q (o :: rest) a w := by
  refine wpList_plain hg fun K hK' => ?_
  obtain ⟨w', hrun, r1, r2⟩ := run_append_fits_src (P := P) w base t tx o.type e i size h1 h2 h4 g k cap xs hown v m news hsrc b1
  unfold Oper.wp
  simp [execOp, hop, resolve, invoke, builtin, hs, hx, hrun, Result.andThen]
  exact hK' _ _ (hK w' r1 r2)
end
end Go.Proofs.Qxb6614872a

namespace Go.Proofs.Qxb6614872a
open Go.RowKit
theorem info5 : (Try.prog.info? 5).map (fun i => (i.zero, i.size, i.bytes)) = some (some (.int .u8 0), 1, 1) := by kernel_rfl

def ins (l : List UInt8) (k : Nat) (c : UInt8) : List UInt8 := l.take k ++ c :: l.drop k

theorem src_of (s : ByteArray) (n : Nat) (h : s.size = n) (w : World) : Src Try.prog 1 9 (.string s) n (byteCells s) w := by
  subst h; exact Src.ofString w Try.underlying9 s

theorem back_any (w : World) (base g cap n : Nat) (l : List UInt8) (hl : l.length = n)
    (hown : w.ownsRow base 5 1 (.slice (some ⟨g, 0, none⟩) n cap) n (l.map fun b => Value.int .u8 b.toNat)) :
    (convert 47 9 (.slice (some ⟨g, 0, none⟩) n cap)).run Try.prog w = .ok (.string ⟨l.toArray⟩) w := by
  subst hl
  refine run_convert_bytes_back (P := Try.prog) w 47 9 5 ⟨g, 0, none⟩ cap l Try.underlying47 Try.underlying5 Try.underlying9 fun j hj => ?_
  exact hown.cells rfl j _ (by simp [List.getElem?_eq_getElem hj])

theorem ins_cells (s : ByteArray) (k : Nat) (c : UInt8) :
    byteCells (s.extract 0 k) ++ [Value.int .u8 c.toNat] ++ byteCells (s.extract k s.size) = (ins s.data.toList k c).map fun b => Value.int .u8 b.toNat := by
  have h1 : (s.extract 0 k).data.toList = s.data.toList.take k := by rw [Lib.extract_data]; simp
  have h2 : (s.extract k s.size).data.toList = s.data.toList.drop k := by
    rw [Lib.extract_data]; exact List.take_of_length_le (by simp)
  unfold byteCells ins
  rw [h1, h2]
  simp

theorem insert_any (s : ByteArray) (k : Nat) (c : UInt8) (w : World) (hs : s.size ≤ 65536) (hk : k ≤ s.size) :
    Calls Try.prog 7 #[.string s, .int .i64 k, .int .u8 c.toNat] w fun e w' => e = .returned (.string ⟨(ins s.data.toList k c).toArray⟩) ∧ Below w.heap.size w w' := by
  obtain ⟨i0, hi, hz0, hz1, hz2⟩ := info_parts info5
  have S1 := src_of (s.extract 0 k) k (by simp; omega)
  have S2 := src_of (s.extract k s.size) (s.size - k) (by simp)
  go_enter Try.func7, Try.ntmps7
  go_wp2_with (first | (at_make; refine wpList_make_own _ rfl _ _ 47 rfl w.heap.size 5 i0 (.int .u8 0) 1 Try.underlying47 hi hz0 hz1 _ _ _ (s.size + 1) rfl rfl (by omega) (by rw [hz2]; omega) (by unfold maxLen; omega) (Nat.le_refl _) ?_; intro w1 hown1 hg1) | (at_builtin; refine wpList_append_fits_src _ rfl (.tmp 12) (.tmp 15) 47 9 rfl w.heap.size 5 i0 1 Try.underlying47 hi hz1 w.heap.size 0 (s.size + 1) [] rfl hown1 _ _ _ rfl (S1 _) (by omega) ?_; intro w2 hown2 hg2; simp only [Nat.zero_add, List.nil_append] at hown2 ⊢) | (at_builtin; refine wpList_append_fits _ rfl (.tmp 17) (.tmp 19) 47 rfl w.heap.size 5 i0 1 Try.underlying47 hi hz1 w.heap.size k (s.size + 1) _ rfl (hown2.alloc _) ⟨w2.heap.size, 0, none⟩ 1 1 [.int .u8 c.toNat] rfl rfl (cell_one_new _ _ _) (by simp [Value.oneCell']) (by omega) ?_; intro w3 hown3 hg3) | (at_builtin; refine wpList_append_fits_src _ rfl (.tmp 21) (.tmp 24) 47 9 rfl w.heap.size 5 i0 1 Try.underlying47 hi hz1 w.heap.size (k + 1) (s.size + 1) _ rfl hown3 _ _ _ rfl (S2 _) (by omega) ?_; intro w4 hown4 hg4; rw [ins_cells] at hown4; have hcb := back_any w4 _ _ _ _ _ (by simp [ins]; omega) hown4))
  go_ret
  refine ⟨rfl, ?_⟩
  have b1 : Below w.heap.size w w1 := (Below.refl _ _).grown hg1 (Nat.le_refl _) (by simp)
  have b2 : Below w.heap.size w w2 := b1.grown hg2 b1.size (by simp)
  have b3 : Below w.heap.size w w3 := (b2.alloc b2.size _).grown hg3 (by have := b2.size; simp; omega) (by simp)
  exact b3.grown hg4 b3.size (by simp)
end Go.Proofs.Qxb6614872a
