import Derived.Test.Qxb6614903aSame
namespace Go.Proofs.Qxb6614903a
open Go.RowKit

/-- The cells of a ZStoreNote. -/
def Nt.zcells (n : Nt) : Array Value := #[.string n.id, .string n.cmd, .int .i64 n.typ, .pointer n.src, .string n.content, .pointer n.pr, .int .i64 n.st, .int .i64 n.att, .pointer n.le, .pointer n.de, .pointer n.ow, .int .i64 n.ep]

set_option maxHeartbeats 4000000 in
/-- A flight tells the note of its id, status, attempts and epoch whose pointers lead to the same. -/
theorem tells_any (n m : Nt) (d : Dv) (B C : Nat) (w : World) (hn : NtTo w B n d) (hm : NtTo w C m d) (h1 : n.id = m.id) (h2 : n.st = m.st) (h3 : n.att = m.att) (h4 : n.ep = m.ep) :
    Calls Try.prog 34 #[.agg n.flight, .agg m.zcells] w fun e w' => e = .returned (.bool true) ∧ Below w.heap.size w w' := by
  obtain ⟨a1, a2, a3, a4⟩ := hn
  obtain ⟨b1, b2, b3, b4⟩ := hm
  unfold Nt.flight Nt.zcells
  rw [h1, h2, h3, h4]
  clear h1 h2 h3 h4
  go_enter Try.func34, Try.ntmps34
  go_wp2_with (first
    | (go_at_call 52; refine (intSame_any _ _ d.pr B C _ ?_ ?_).mono ?_; (exact a1.grow (by repeat (first | exact Below.refl _ _ | apply below_drewN | refine Below.alloc ?_ (by simp; try omega) _))); (exact b1.grow (by repeat (first | exact Below.refl _ _ | apply below_drewN | refine Below.alloc ?_ (by simp; try omega) _))); rintro e w' ⟨rfl, k, rfl⟩)
    | (go_at_call_of 53 (Value.pointer n.le); refine (strSame_any _ _ d.le B C _ ?_ ?_).mono ?_; (exact a2.grow (by repeat (first | exact Below.refl _ _ | apply below_drewN | refine Below.alloc ?_ (by simp; try omega) _))); (exact b2.grow (by repeat (first | exact Below.refl _ _ | apply below_drewN | refine Below.alloc ?_ (by simp; try omega) _))); rintro e w' ⟨rfl, k, rfl⟩)
    | (go_at_call_of 53 (Value.pointer n.de); refine (strSame_any _ _ d.de B C _ ?_ ?_).mono ?_; (exact a3.grow (by repeat (first | exact Below.refl _ _ | apply below_drewN | refine Below.alloc ?_ (by simp; try omega) _))); (exact b3.grow (by repeat (first | exact Below.refl _ _ | apply below_drewN | refine Below.alloc ?_ (by simp; try omega) _))); rintro e w' ⟨rfl, k, rfl⟩)
    | (go_at_call_of 53 (Value.pointer n.ow); refine (strSame_any _ _ d.ow B C _ ?_ ?_).mono ?_; (exact a4.grow (by repeat (first | exact Below.refl _ _ | apply below_drewN | refine Below.alloc ?_ (by simp; try omega) _))); (exact b4.grow (by repeat (first | exact Below.refl _ _ | apply below_drewN | refine Below.alloc ?_ (by simp; try omega) _))); rintro e w' ⟨rfl, k, rfl⟩))
  go_ret
  exact ⟨rfl, by repeat (first | exact Below.refl _ _ | apply below_drewN | refine Below.alloc ?_ (by simp; try omega) _)⟩
end Go.Proofs.Qxb6614903a
