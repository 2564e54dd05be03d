import Derived.Test.Qxb6614903aFirst
namespace Go.Proofs.Qxb6614903a
open Go.RowKit

theorem PtrS.below {w w' : World} {B C : Nat} {p : Option Addr} {o : Option ByteArray} (h : PtrS w B p o) (hb : Below C w w') (hC : ∀ a, p = some a → a.block < C) : PtrS w' B p o := by
  rcases h with h | ⟨b, off, s, rfl, ho, h1, h2, h3⟩
  · exact .inl h
  · exact .inr ⟨b, off, s, rfl, ho, h1, h2, by rw [hb.cell (p := ⟨b, off, none⟩) (hC _ rfl)]; exact h3⟩
theorem PtrI.below {w w' : World} {B C : Nat} {p : Option Addr} {o : Option Int} (h : PtrI w B p o) (hb : Below C w w') (hC : ∀ a, p = some a → a.block < C) : PtrI w' B p o := by
  rcases h with h | ⟨b, off, s, rfl, ho, h1, h3⟩
  · exact .inl h
  · exact .inr ⟨b, off, s, rfl, ho, h1, by rw [hb.cell (p := ⟨b, off, none⟩) (hC _ rfl)]; exact h3⟩
theorem PtrS.lt {w : World} {B : Nat} {p : Option Addr} {o : Option ByteArray} (h : PtrS w B p o) : ∀ a, p = some a → a.block < w.heap.size := by
  intro a ha
  rcases h with ⟨rfl, _⟩ | ⟨b, off, s, rfl, _, _, _, h3⟩
  · cases ha
  · cases ha; exact World.block_lt_of_cell? w _ h3
theorem PtrI.lt {w : World} {B : Nat} {p : Option Addr} {o : Option Int} (h : PtrI w B p o) : ∀ a, p = some a → a.block < w.heap.size := by
  intro a ha
  rcases h with ⟨rfl, _⟩ | ⟨b, off, s, rfl, _, _, h3⟩
  · cases ha
  · cases ha; exact World.block_lt_of_cell? w _ h3
theorem PtrS.grow {w w' : World} {B : Nat} {p : Option Addr} {o : Option ByteArray} (h : PtrS w B p o) (hb : Below w.heap.size w w') : PtrS w' B p o := h.below hb h.lt
theorem PtrI.grow {w w' : World} {B : Nat} {p : Option Addr} {o : Option Int} (h : PtrI w B p o) (hb : Below w.heap.size w w') : PtrI w' B p o := h.below hb h.lt
theorem PtrS.drewN {w : World} {B n : Nat} {p : Option Addr} {o : Option ByteArray} (h : PtrS w B p o) : PtrS (w.drewN n) B p o := h.grow (below_drewN (Below.refl _ _) n)
theorem PtrI.drewN {w : World} {B n : Nat} {p : Option Addr} {o : Option Int} (h : PtrI w B p o) : PtrI (w.drewN n) B p o := h.grow (below_drewN (Below.refl _ _) n)

/-- What a delivery's pointers lead to. -/
structure Dv where
  pr : Option Int
  le : Option ByteArray
  de : Option ByteArray
  ow : Option ByteArray

/-- In world w the pointers of n lead to d. -/
def NtTo (w : World) (B : Nat) (n : Nt) (d : Dv) : Prop := PtrI w B n.pr d.pr ∧ PtrS w B n.le d.le ∧ PtrS w B n.de d.de ∧ PtrS w B n.ow d.ow
theorem NtTo.grow {w w' : World} {B : Nat} {n : Nt} {d : Dv} (h : NtTo w B n d) (hb : Below w.heap.size w w') : NtTo w' B n d := ⟨h.1.grow hb, h.2.1.grow hb, h.2.2.1.grow hb, h.2.2.2.grow hb⟩

set_option maxHeartbeats 4000000 in
/-- Two flights of one id, status, attempts and epoch whose pointers lead to the same: they are told the same. -/
theorem sameFlight_any (n m : Nt) (d : Dv) (B C : Nat) (w : World) (hn : NtTo w B n d) (hm : NtTo w C m d) (h1 : n.id = m.id) (h2 : n.st = m.st) (h3 : n.att = m.att) (h4 : n.ep = m.ep) :
    Calls Try.prog 32 #[.agg n.flight, .agg m.flight] w fun e w' => e = .returned (.bool true) ∧ Below w.heap.size w w' := by
  obtain ⟨a1, a2, a3, a4⟩ := hn
  obtain ⟨b1, b2, b3, b4⟩ := hm
  unfold Nt.flight
  rw [h1, h2, h3, h4]
  go_enter Try.func32, Try.ntmps32
  clear h1 h2 h3 h4
  go_wp2_with (first
    | (go_at_call 52; refine (intSame_any _ _ d.pr B C _ ?_ ?_).mono ?_; (exact a1.grow (by repeat (first | exact Below.refl _ _ | apply below_drewN | refine Below.alloc ?_ (by simp; try omega) _))); (exact b1.grow (by repeat (first | exact Below.refl _ _ | apply below_drewN | refine Below.alloc ?_ (by simp; try omega) _))); rintro e w' ⟨rfl, k, rfl⟩)
    | (go_at_call_of 53 (Value.pointer n.le); refine (strSame_any _ _ d.le B C _ ?_ ?_).mono ?_; (exact a2.grow (by repeat (first | exact Below.refl _ _ | apply below_drewN | refine Below.alloc ?_ (by simp; try omega) _))); (exact b2.grow (by repeat (first | exact Below.refl _ _ | apply below_drewN | refine Below.alloc ?_ (by simp; try omega) _))); rintro e w' ⟨rfl, k, rfl⟩)
    | (go_at_call_of 53 (Value.pointer n.de); refine (strSame_any _ _ d.de B C _ ?_ ?_).mono ?_; (exact a3.grow (by repeat (first | exact Below.refl _ _ | apply below_drewN | refine Below.alloc ?_ (by simp; try omega) _))); (exact b3.grow (by repeat (first | exact Below.refl _ _ | apply below_drewN | refine Below.alloc ?_ (by simp; try omega) _))); rintro e w' ⟨rfl, k, rfl⟩)
    | (go_at_call_of 53 (Value.pointer n.ow); refine (strSame_any _ _ d.ow B C _ ?_ ?_).mono ?_; (exact a4.grow (by repeat (first | exact Below.refl _ _ | apply below_drewN | refine Below.alloc ?_ (by simp; try omega) _))); (exact b4.grow (by repeat (first | exact Below.refl _ _ | apply below_drewN | refine Below.alloc ?_ (by simp; try omega) _))); rintro e w' ⟨rfl, k, rfl⟩)
    | (go_at_call 54; refine (timeSame_nil _).mono ?_; rintro e w' ⟨rfl, k, rfl⟩))
  go_ret
  exact ⟨rfl, by repeat (first | exact Below.refl _ _ | apply below_drewN | refine Below.alloc ?_ (by simp; try omega) _)⟩
end Go.Proofs.Qxb6614903a
