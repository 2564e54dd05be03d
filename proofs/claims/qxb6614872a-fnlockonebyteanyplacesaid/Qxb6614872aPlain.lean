import Derived.Test.Qxb6614872aWalkA
import Derived.Laws.BitsAllLaws
namespace Go.Proofs.Qxb6614872a

/-- One step of the hash, looked at in its low six bits. -/
theorem xor_mod64 (a b : Nat) : (a ^^^ b) % 64 = (a % 64) ^^^ (b % 64) := by
  have := Nat.xor_mod_two_pow (a := a) (b := b) (n := 6)
  simpa using this

theorem stp_nat (h c : Nat) (hh : h < 4294967296) (hc : c < 256) : stp (h : Int) (c : Int) = (((h ^^^ c) * 16777619 % 4294967296 : Nat) : Int) := by
  unfold stp
  have e : ((c : Int) % 4294967296) = (c : Int) := by omega
  rw [e, u32_xor_nat h c hh (by omega), Int.natCast_emod, Int.natCast_mul]
  rw [show ((16777619 : Nat) : Int) = 16777619 from by omega, show ((4294967296 : Nat) : Int) = 4294967296 from by omega]

theorem mul_small (x : Nat) : x * 16777619 % 4294967296 % 64 = x % 64 * 19 % 64 := by
  rw [Nat.mod_mod_of_dvd _ (by decide : 64 ∣ 4294967296), Nat.mul_mod]
theorem mul19 (u v : Nat) (hu : u < 64) (hv : v < 64) (h : u * 19 % 64 = v * 19 % 64) : u = v := by omega
theorem mul_mod64 (x y : Nat) : x * 16777619 % 4294967296 % 64 = y * 16777619 % 4294967296 % 64 ↔ x % 64 = y % 64 := by
  rw [mul_small, mul_small]
  exact ⟨fun h => mul19 _ _ (Nat.mod_lt _ (by decide)) (Nat.mod_lt _ (by decide)) h, fun h => by rw [h]⟩

theorem xor_cancel (a x y : Nat) : a ^^^ x = a ^^^ y ↔ x = y := by
  constructor
  · intro h
    have := congrArg (a ^^^ ·) h
    simpa [← Nat.xor_assoc] using this
  · intro h; rw [h]

theorem hashTo_append (l m : List UInt8) (h : Int) : hashTo (l ++ m) h = hashTo m (hashTo l h) := by
  induction l generalizing h with
  | nil => rfl
  | cons a l ih => exact ih _

theorem nil64 (g h : Nat) : (g : Int) % 64 = (h : Int) % 64 ↔ g % 64 = h % 64 := by omega
theorem lt32 (x : Nat) : x % 4294967296 < 4294967296 := Nat.mod_lt _ (by decide)
theorem step64 (g h c : Nat) : (g ^^^ c) * 16777619 % 4294967296 % 64 = (h ^^^ c) * 16777619 % 4294967296 % 64 ↔ g % 64 = h % 64 := by
  rw [mul_mod64, xor_mod64, xor_mod64, Nat.xor_comm (g % 64), Nat.xor_comm (h % 64), xor_cancel]
theorem byte64 (y c d : Nat) : (y ^^^ c) * 16777619 % 4294967296 % 64 = (y ^^^ d) * 16777619 % 4294967296 % 64 ↔ c % 64 = d % 64 := by
  rw [mul_mod64, xor_mod64, xor_mod64, xor_cancel]
theorem hashTo_cons (c : UInt8) (l : List UInt8) (h : Int) : hashTo (c :: l) h = hashTo l (stp h c.toNat) := rfl
theorem hashTo_same64 (l : List UInt8) (g h : Nat) (hg : g < 4294967296) (hh : h < 4294967296) :
    hashTo l (g : Int) % 64 = hashTo l (h : Int) % 64 ↔ g % 64 = h % 64 := by
  induction l generalizing g h with
  | nil => exact nil64 g h
  | cons c l ih =>
    have hc : c.toNat < 256 := c.toNat_lt
    rw [hashTo_cons, hashTo_cons, stp_nat g c.toNat hg hc, stp_nat h c.toNat hh hc]
    exact (ih _ _ (lt32 _) (lt32 _)).trans (step64 _ _ _)

theorem hashTo_nat (l : List UInt8) (x : Nat) (hx : x < 4294967296) : ∃ y : Nat, y < 4294967296 ∧ hashTo l (x : Int) = (y : Int) := by
  induction l generalizing x with
  | nil => exact ⟨x, hx, rfl⟩
  | cons c l ih =>
    rw [hashTo_cons, stp_nat x c.toNat hx c.toNat_lt]
    exact ih _ (lt32 _)

theorem law_from (a b : List UInt8) (c1 c2 : UInt8) (x : Nat) (hx : x < 4294967296) :
    hashTo (a ++ c1 :: b) (x : Int) % 64 = hashTo (a ++ c2 :: b) (x : Int) % 64 ↔ c1.toNat % 64 = c2.toNat % 64 := by
  rw [hashTo_append, hashTo_append]
  obtain ⟨y, hy, e⟩ := hashTo_nat a x hx
  rw [e, hashTo_cons, hashTo_cons, stp_nat y c1.toNat hy c1.toNat_lt, stp_nat y c2.toNat hy c2.toNat_lt]
  exact (hashTo_same64 b _ _ (lt32 _) (lt32 _)).trans (byte64 _ _ _)

theorem basis : ((2166136261 : Nat) : Int) = 2166136261 := by omega
/-- The plain law: the two names share a lock exactly where the two bytes agree in their low six bits. -/
theorem plain_law (a b : List UInt8) (c1 c2 : UInt8) :
    hashTo (a ++ c1 :: b) 2166136261 % 64 = hashTo (a ++ c2 :: b) 2166136261 % 64 ↔ c1.toNat % 64 = c2.toNat % 64 := by
  rw [← basis]
  exact law_from a b c1 c2 2166136261 (by decide)
end Go.Proofs.Qxb6614872a
