import Derived.Test.Qxb6614872aWalkA
namespace Go.Proofs.Qxb6614872a
open Go.RowKit

theorem method_write (a : Addr) (w : World) : (method 176 57 (.pointer (some a)) "Write").run Try.prog w = .ok (32, .pointer (some a)) w := by kernel_rfl
theorem method_sum (a : Addr) (w : World) : (method 176 57 (.pointer (some a)) "Sum32").run Try.prog w = .ok (31, .pointer (some a)) w := by kernel_rfl
theorem ahead_sum (a : Addr) (w : World) : (nilAhead 176 57 (.pointer (some a)) "Sum32").run Try.prog w = .ok (some false) w := by kernel_rfl

theorem stp_bd (h c : Int) : 0 ≤ stp h c ∧ stp h c < 4294967296 := by unfold stp; omega
theorem hashTo_bd (l : List UInt8) (h : Int) (h0 : 0 ≤ h ∧ h < 4294967296) : 0 ≤ hashTo l h ∧ hashTo l h < 4294967296 := by
  induction l generalizing h with
  | nil => exact h0
  | cons c l ih => exact ih _ (stp_bd _ _)

theorem below_bytesWorld (w : World) (s : ByteArray) : Below w.heap.size w (Lib.bytesWorld w 5 s) :=
  ⟨by simp [Lib.bytesWorld, World.freeze, World.alloc, World.drew, -World.alloc_eq, -World.drew_eq], by simp [Lib.bytesWorld, World.freeze, World.alloc, World.drew, -World.alloc_eq, -World.drew_eq], by simp [Lib.bytesWorld, World.freeze, World.alloc, World.drew, -World.alloc_eq, -World.drew_eq], by rw [Lib.bytesWorld_size]; omega, fun k hk => Lib.bytesWorld_at_old w 5 s k hk⟩

theorem write_at (s : ByteArray) (w : World) (hs : s.size ≤ 100000) (cap : Nat) :
    Calls Try.prog 32 #[.pointer (some ⟨w.heap.size, 0, none⟩), .slice (some ⟨w.heap.size + 1, 0, none⟩) s.size cap]
      (Lib.bytesWorld (w.alloc (.cells #[.int .u32 2166136261] 56)) 5 s) fun e w' => e = .returned (.tuple #[.int .i64 s.size, .nilIface]) ∧
        w'.cell? ⟨w.heap.size, 0, none⟩ = some (.int .u32 (hashTo s.data.toList 2166136261)) ∧ Below w.heap.size w w' := by
  have hb := below_bytesWorld (w.alloc (.cells #[.int .u32 2166136261] 56)) s
  have hc0 : (w.alloc (.cells #[.int .u32 2166136261] 56)).cell? ⟨w.heap.size, 0, none⟩ = some (.int .u32 2166136261) := by simp
  have hf0 : (w.alloc (.cells #[.int .u32 2166136261] 56)).frozen? ⟨w.heap.size, 0, none⟩ = false := by simp [go_sem]
  have hlt : w.heap.size < (w.alloc (.cells #[.int .u32 2166136261] 56)).heap.size := by simp
  have hc : (Lib.bytesWorld (w.alloc (.cells #[.int .u32 2166136261] 56)) 5 s).cell? ⟨w.heap.size, 0, none⟩ = some (.int .u32 2166136261) := by
    rw [hb.cell (p := ⟨w.heap.size, 0, none⟩) hlt]; exact hc0
  have hf : (Lib.bytesWorld (w.alloc (.cells #[.int .u32 2166136261] 56)) 5 s).frozen? ⟨w.heap.size, 0, none⟩ = false := by
    rw [hb.frozen (p := ⟨w.heap.size, 0, none⟩) hlt]; exact hf0
  have hn : s.data.toList.length = s.size := by simp
  have hw := write_any w.heap.size (w.heap.size + 1) cap s.data.toList 2166136261 (Lib.bytesWorld (w.alloc (.cells #[.int .u32 2166136261] 56)) 5 s) (by rw [hn]; exact hs) hc hf (fun j hj => by
    have h := Lib.bytesWorld_cell (w.alloc (.cells #[.int .u32 2166136261] 56)) 5 s j (by omega)
    simp only [World.size_alloc] at h
    rw [h]; simp [List.getD, List.getElem?_eq_getElem hj])
  rw [hn] at hw
  refine hw.mono ?_
  rintro e w' ⟨rfl, rfl⟩
  refine ⟨rfl, World.cell?_setCell_same _ _ _ hc, ?_⟩
  exact ((((Below.refl _ _).alloc (Nat.le_refl _) _).trans (hb.mono (by simp)))).setCell (Nat.le_refl _) _

theorem lock_any (b : Nat) (s : ByteArray) (w : World) (hs : s.size ≤ 100000) :
    Calls Try.prog 8 #[.pointer (some ⟨b, 0, none⟩), .string s] w fun e w' =>
      e = .returned (.pointer (some ⟨b, 3 + (hashTo s.data.toList 2166136261 % 64).toNat * 6, none⟩)) ∧ Below w.heap.size w w' := by
  have hcv := fun w => Lib.run_convert_string_bytes (P := Try.prog) w 9 47 5 s Try.underlying9 Try.underlying47 Try.underlying5
  have hm1 := method_write
  have hm2 := method_sum
  have hm3 := ahead_sum
  have hbd := hashTo_bd s.data.toList 2166136261 (by omega)
  generalize hH : hashTo s.data.toList 2166136261 = H at hbd
  have HH := hH
  clear hH
  go_enter Try.func8, Try.ntmps8
  go_wp2_with (go_at_call 9; refine (new_any _).mono ?_; rintro e w' ⟨rfl, rfl⟩)
  refine (write_at s w hs _).mono ?_
  rintro e w1 ⟨rfl, hc1, hb1⟩
  rw [HH] at hc1
  have HX : Hid (hashTo s.data.toList 2166136261 = H) := HH
  clear HH hcv hm1
  go_wp2
  go_quiet ((go_at_call 31; exact Calls.quiet_of_same (sum_any _ _ _ hc1)))
  go_wp2
  go_ret
  exact ⟨rfl, below_drewN hb1 _⟩

theorem zzlock_any (b : Nat) (s : ByteArray) (w : World) (hs : s.size ≤ 100000) :
    Calls Try.prog 6 #[.pointer (some ⟨b, 0, none⟩), .string s] w fun e w' =>
      e = .returned (.pointer (some ⟨b, 3 + (hashTo s.data.toList 2166136261 % 64).toNat * 6, none⟩)) ∧ Below w.heap.size w w' := by
  go_enter Try.func6, Try.ntmps6
  go_wp2_with (go_at_call 8; refine (lock_any _ _ _ hs).mono ?_; rintro e w' ⟨rfl, hb⟩)
  go_ret
  exact ⟨rfl, hb⟩
end Go.Proofs.Qxb6614872a
