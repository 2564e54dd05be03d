import Derived.Test.Qxb6614657aState
namespace Go.Proofs.Qxb6614657a
open Go.RowKit

/-! The model's loops, with no Go in sight. -/
def upE (k : Nat) (N : Hold) : Hold := fun h => if h < k then N h else none
theorem upE_put {k : Nat} {N : Hold} {y : Nat × (Nat → Bool)} (h : N k = some y) : upE (k + 1) N = setM (upE k N) k y := by
  funext x
  show (if x < k + 1 then N x else none) = if x = k then some y else if x < k then N x else none
  by_cases e : x = k
  · subst e; rw [if_pos (by omega), if_pos rfl, h]
  · rw [if_neg e]
    by_cases e2 : x < k
    · rw [if_pos e2, if_pos (by omega)]
    · rw [if_neg e2, if_neg (by omega)]
theorem upE_none {k : Nat} {N : Hold} (h : N k = none) : upE (k + 1) N = upE k N := by
  funext x
  unfold upE
  by_cases e : x = k
  · subst e; rw [if_pos (by omega), if_neg (by omega), h]
  · by_cases e2 : x < k
    · rw [if_pos e2, if_pos (by omega)]
    · rw [if_neg e2, if_neg (by omega)]
theorem upE_zero (N : Hold) : upE 0 N = fun _ => none := by
  funext x
  unfold upE
  rw [if_neg (by omega)]
/-- The answer before the columns are marked. -/
def md0 (p2 : Bool) (me frm : Nat) (M : Hold) (mx : Nat → Nat) : Hold := modH p2 me frm M mx (fun _ _ => false)
theorem md0_keep {p2 : Bool} {me frm : Nat} {M : Hold} {mx : Nat → Nat} {k : Nat} (h : mx k = 0 ∨ mx k < cntM M k) : md0 p2 me frm M mx k = M k := by
  unfold md0 modH
  rw [if_pos h]
theorem md0_rise {p2 : Bool} {me frm : Nat} {M : Hold} {mx : Nat → Nat} {k : Nat} (h : cntM M k < mx k) : md0 p2 me frm M mx k = some (mx k, baseK p2 me frm k (at' M k)) := by
  unfold md0 modH
  rw [if_neg (by omega), if_pos h]
  exact some_ext rfl fun l => by simp
theorem md0_same {p2 : Bool} {me frm : Nat} {M : Hold} {mx : Nat → Nat} {k : Nat} (h0 : mx k ≠ 0) (h : mx k = cntM M k) : md0 p2 me frm M mx k = some (cntM M k, fun l => (at' M k).2 l || (!p2 && decide (l = frm))) := by
  unfold md0 modH
  rw [if_neg (by omega), if_neg (by omega)]
  exact some_ext rfl fun l => by simp
/-- .. and while they are. -/
def mdU (me frm : Nat) (M : Hold) (mx : Nat → Nat) (T : List SI) : Hold := modH true me frm M mx (fun h l => uni T h (mx h) l)
theorem mdU_nil (me frm : Nat) (M : Hold) (mx : Nat → Nat) : mdU me frm M mx [] = md0 true me frm M mx := by
  unfold mdU md0
  congr 1
theorem mdU_skip {me frm : Nat} {M : Hold} {mx : Nat → Nat} {T : List SI} {x : SI} (hx : ¬ (x.c ≠ 0 ∧ x.c = mx x.h ∧ cntM M x.h ≤ x.c)) : mdU me frm M mx (T ++ [x]) = mdU me frm M mx T := by
  funext h
  unfold mdU modH
  by_cases h1 : mx h = 0 ∨ mx h < cntM M h
  · rw [if_pos h1, if_pos h1]
  · rw [if_neg h1, if_neg h1]
    have hu : ∀ l, uni (T ++ [x]) h (mx h) l = uni T h (mx h) l := fun l => by
      rw [uni_succ]
      by_cases e : x.h = h
      · subst e
        by_cases e2 : x.c = mx x.h
        · exact absurd ⟨by omega, e2, by omega⟩ hx
        · simp [e2]
      · simp [e]
    by_cases h2 : cntM M h < mx h
    · rw [if_pos h2, if_pos h2]
      exact some_ext rfl fun l => by show (_ || uni (T ++ [x]) h (mx h) l) = _; rw [hu]
    · rw [if_neg h2, if_neg h2]
      exact some_ext rfl fun l => by show (_ || uni (T ++ [x]) h (mx h) l) = _; rw [hu]
theorem mdU_mark {me frm : Nat} {M : Hold} {mx : Nat → Nat} {T : List SI} {x : SI} (h0 : x.c ≠ 0) (h1 : x.c = mx x.h) (h2 : cntM M x.h ≤ x.c) : ∃ c K, mdU me frm M mx T x.h = some (c, K) ∧ mdU me frm M mx (T ++ [x]) = setM (mdU me frm M mx T) x.h (c, fun l => K l || bitAt x.f.toNat x.bs l) := by
  have hA : ¬ (mx x.h = 0 ∨ mx x.h < cntM M x.h) := by omega
  have hu : ∀ l, uni (T ++ [x]) x.h (mx x.h) l = (uni T x.h (mx x.h) l || bitAt x.f.toNat x.bs l) := fun l => by
    rw [uni_succ]
    simp [h1]
  have ho : ∀ h, h ≠ x.h → mdU me frm M mx (T ++ [x]) h = mdU me frm M mx T h := fun h e => by
    have : (fun l => uni (T ++ [x]) h (mx h) l) = fun l => uni T h (mx h) l := by
      funext l
      rw [uni_succ]
      simp [Ne.symm e]
    unfold mdU modH
    simp only [this]
  by_cases hB : cntM M x.h < mx x.h
  · refine ⟨mx x.h, fun l => baseK true me frm x.h (at' M x.h) l || uni T x.h (mx x.h) l, ?_, ?_⟩
    · unfold mdU modH
      rw [if_neg hA, if_pos hB]
    · funext h
      unfold setM
      by_cases e : h = x.h
      · subst e
        rw [if_pos rfl]
        unfold mdU modH
        rw [if_neg hA, if_pos hB]
        exact some_ext rfl fun l => by show (_ || uni (T ++ [x]) x.h (mx x.h) l) = _; rw [hu, ← Bool.or_assoc]
      · rw [if_neg e]; exact ho h e
  · refine ⟨cntM M x.h, fun l => ((at' M x.h).2 l || (!true && decide (l = frm))) || uni T x.h (mx x.h) l, ?_, ?_⟩
    · unfold mdU modH
      rw [if_neg hA, if_neg hB]
    · funext h
      unfold setM
      by_cases e : h = x.h
      · subst e
        rw [if_pos rfl]
        unfold mdU modH
        rw [if_neg hA, if_neg hB]
        exact some_ext rfl fun l => by show (_ || uni (T ++ [x]) x.h (mx x.h) l) = _; rw [hu, ← Bool.or_assoc]
      · rw [if_neg e]; exact ho h e
theorem modT_p2 (me frm : Nat) (M : Hold) (T : List SI) : modT 4 me frm M T = mdU me frm M (mx0 T) T := by
  unfold modT mdU
  congr 1
theorem modT_p1 {fm : Nat} (h : fm ≠ 4) (me frm : Nat) (M : Hold) (T : List SI) : modT fm me frm M T = md0 false me frm M (mx0 T) := by
  unfold modT md0
  simp [h]
end Go.Proofs.Qxb6614657a
