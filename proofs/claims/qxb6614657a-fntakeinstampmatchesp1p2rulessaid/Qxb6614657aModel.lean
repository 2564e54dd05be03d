import Derived.Test.Qxb6614657aPlain
import Derived.Test.Qxb6614657aBuildS
namespace Go.Proofs.Qxb6614657a
open Go.RowKit

/-! The law's model, and that the taking answers as it says: no Go in sight. -/
/-- The base of the set where the count rises. -/
def baseK (p2 : Bool) (me frm h : Nat) (x : Nat × (Nat → Bool)) : Nat → Bool :=
  fun l => decide (l = me) || (!p2 && (decide (l = frm) || ((decide (x.1 = 0) || x.2 h) && decide (l = h))))
def modH (p2 : Bool) (me frm : Nat) (M : Hold) (mx : Nat → Nat) (U : Nat → Nat → Bool) : Hold := fun h =>
  if mx h = 0 ∨ mx h < cntM M h then M h
  else if cntM M h < mx h then some (mx h, fun l => baseK p2 me frm h (at' M h) l || U h l)
  else some (cntM M h, fun l => ((at' M h).2 l || (!p2 && decide (l = frm))) || U h l)
/-- The union of the columns that the stamp bears of h at count m. -/
def uni (T : List SI) (h m : Nat) (l : Nat) : Bool := T.any fun x => decide (x.h = h) && decide (x.c = m) && bitAt x.f.toNat x.bs l
theorem uni_succ (T : List SI) (x : SI) (h m l : Nat) : uni (T ++ [x]) h m l = (uni T h m l || (decide (x.h = h) && decide (x.c = m) && bitAt x.f.toNat x.bs l)) := by
  simp [uni]
def mx0 (T : List SI) : Nat → Nat := mxF (fun _ => 0) (T.map fun x => (x.h, x.c))
theorem mx0_succ (T : List SI) (x : SI) : mx0 (T ++ [x]) = mxS (mx0 T) (x.h, x.c) := by
  unfold mx0 mxF
  rw [List.map_append, List.foldl_append]
  rfl
/-- The counts of h lie at or below the greatest. -/
theorem mx0_le (T : List SI) : ∀ x ∈ T, x.c ≤ mx0 T x.h := by
  have key : ∀ (Q : List SI) (c : Nat → Nat), (∀ h, c h ≤ mxF c (Q.map fun x => (x.h, x.c)) h) ∧ ∀ x ∈ Q, x.c ≤ mxF c (Q.map fun x => (x.h, x.c)) x.h := by
    intro Q
    induction Q with
    | nil => intro c; exact ⟨fun _ => Nat.le_refl _, fun x hx => by cases hx⟩
    | cons y Q ih =>
      intro c
      have e : mxF c ((y :: Q).map fun x => (x.h, x.c)) = mxF (mxS c (y.h, y.c)) (Q.map fun x => (x.h, x.c)) := rfl
      rw [e]
      obtain ⟨h1, h2⟩ := ih (mxS c (y.h, y.c))
      have h3 : ∀ h, c h ≤ mxS c (y.h, y.c) h := fun h => by
        unfold mxS
        split
        · next hl =>
          unfold setC
          split
          · next e =>
            have e' : h = y.h := e
            have hl' : c y.h < y.c := hl
            show c h ≤ y.c
            rw [e']; omega
          · exact Nat.le_refl _
        · exact Nat.le_refl _
      have h4 : y.c ≤ mxS c (y.h, y.c) y.h := by
        unfold mxS
        split
        · unfold setC; rw [if_pos rfl]; exact Nat.le_refl _
        · next hl => simp only at hl; omega
      refine ⟨fun h => Nat.le_trans (h3 h) (h1 h), fun x hx => ?_⟩
      rcases List.mem_cons.1 hx with rfl | hx
      · exact Nat.le_trans h4 (h1 _)
      · exact h2 x hx
  exact (key T _).2
theorem uni_none (T : List SI) (h m : Nat) (hm : mx0 T h < m) (l : Nat) : uni T h m l = false := by
  unfold uni
  rw [List.any_eq_false]
  intro x hx
  have := mx0_le T x hx
  simp only [Bool.and_eq_true, decide_eq_true_eq]
  rintro ⟨⟨e1, e2⟩, _⟩
  subst e1
  omega
/-- The model of a stamp. -/
def modT (fm me frm : Nat) (M : Hold) (T : List SI) : Hold := modH (decide (fm = 4)) me frm M (mx0 T) (fun h l => decide (fm = 4) && uni T h (mx0 T h) l)
theorem some_ext {a b : Nat} {K J : Nat → Bool} (h1 : a = b) (h2 : ∀ l, K l = J l) : some (a, K) = some (b, J) := by
  rw [h1, show K = J from funext h2]
theorem mxS_other (c : Nat → Nat) (k v h : Nat) (e : h ≠ k) : mxS c (k, v) h = c h := by
  unfold mxS
  split
  · unfold setC; rw [if_neg e]
  · rfl
theorem mxS_same (c : Nat → Nat) (k v : Nat) : mxS c (k, v) k = if c k < v then v else c k := by
  unfold mxS
  simp only
  split
  · unfold setC; rw [if_pos rfl]
  · rfl
theorem step_at (me frm fm : Nat) (N : Hold) (x : SE) (hc : x.c ≠ 0) (y : Nat × (Nat → Bool)) (hy : at' N x.h = y) : stepS me frm fm N x x.h = some (if fm = 4 then colF me x.c (bitAt x.f.toNat x.bs) y else pairF me frm x.h x.c y) := by
  unfold stepS
  rw [if_neg hc, hy]
  split <;> simp [setM]
/-- What the model says of the host of an entry. -/
theorem mod_at (p2 : Bool) (me frm h m c0 : Nat) (M : Hold) (y0 : Nat × (Nat → Bool)) (mx : Nat → Nat) (U : Nat → Nat → Bool) (hm : mx h = m) (hc : cntM M h = c0) (hy : at' M h = y0) :
    modH p2 me frm M mx U h = if m = 0 ∨ m < c0 then M h else if c0 < m then some (m, fun l => baseK p2 me frm h y0 l || U h l) else some (c0, fun l => (y0.2 l || (!p2 && decide (l = frm))) || U h l) := by
  unfold modH
  rw [hm, hc, hy]
theorem at_some {N : Hold} {h : Nat} {y : Nat × (Nat → Bool)} (e : N h = some y) : at' N h = y := by unfold at'; rw [e]; rfl
/-- The step at the host itself, by the numbers alone. -/
theorem mod_core (fm me frm h v m c0 : Nat) (bits ut uv : Nat → Bool) (M : Hold) (y0 : Nat × (Nat → Bool)) (N : Hold) (hv : v ≠ 0) (hc : cntM M h = c0) (hy : at' M h = y0) (hun : m < v → ∀ l, uv l = false) (hue : ¬ m < v → ∀ l, uv l = ut l)
    (hN : N h = if m = 0 ∨ m < c0 then M h else if c0 < m then some (m, fun l => baseK (decide (fm = 4)) me frm h y0 l || (decide (fm = 4) && ut l)) else some (c0, fun l => (y0.2 l || (!decide (fm = 4) && decide (l = frm))) || (decide (fm = 4) && ut l)))
    (m' : Nat) (hm' : m' = if m < v then v else m) :
    some (if fm = 4 then colF me v bits (at' N h) else pairF me frm h v (at' N h)) = if m' = 0 ∨ m' < c0 then M h else if c0 < m' then some (m', fun l => baseK (decide (fm = 4)) me frm h y0 l || (decide (fm = 4) && (uv l || (decide (v = m') && bits l)))) else some (c0, fun l => (y0.2 l || (!decide (fm = 4) && decide (l = frm))) || (decide (fm = 4) && (uv l || (decide (v = m') && bits l)))) := by
  have hy1 : y0.1 = c0 := by rw [← hy, ← cntM_at]; exact hc
  by_cases hA : m = 0 ∨ m < c0
  · rw [if_pos hA] at hN
    have haN : at' N h = y0 := by rw [← hy]; unfold at'; rw [hN]
    rw [haN]
    by_cases h1 : c0 < v
    · have e : m' = v := by rw [hm', if_pos (by omega)]
      subst e
      rw [if_neg (show ¬ (m' = 0 ∨ m' < c0) by omega), if_pos h1]
      have hu := hun (by omega)
      by_cases hf : fm = 4
      · rw [if_pos hf]
        unfold colF
        rw [if_pos (by omega)]
        exact some_ext rfl fun l => by simp [hf, hu, baseK]
      · rw [if_neg hf]
        unfold pairF
        rw [if_pos (by omega)]
        refine some_ext rfl fun l => ?_
        simp only [hf, decide_false, Bool.false_and, Bool.or_false, baseK, Bool.not_false, Bool.true_and]
        cases decide (l = me) <;> cases decide (l = frm) <;> simp
    · by_cases h2 : c0 = v
      · have e : m' = v := by rw [hm', if_pos (by omega)]
        subst e
        rw [if_neg (show ¬ (m' = 0 ∨ m' < c0) by omega), if_neg (show ¬ c0 < m' by omega)]
        have hu := hun (by omega)
        by_cases hf : fm = 4
        · rw [if_pos hf]
          unfold colF
          rw [if_neg (by omega), if_pos (by omega)]
          exact some_ext h2.symm fun l => by simp [hf, hu]
        · rw [if_neg hf]
          unfold pairF
          rw [if_neg (by omega), if_pos (by omega)]
          exact some_ext h2.symm fun l => by simp [hf]
      · have hM : M h = some y0 := by
          unfold at' at hy
          unfold cntM at hc
          cases e : M h with
          | none => rw [e] at hc; simp only at hc; omega
          | some z => rw [e] at hy; simp only [Option.getD_some] at hy; rw [hy]
        have hm2 : m' = 0 ∨ m' < c0 := by rw [hm']; split <;> omega
        rw [if_pos hm2, hM]
        by_cases hf : fm = 4
        · rw [if_pos hf]
          unfold colF
          rw [if_neg (by omega), if_neg (by omega)]
        · rw [if_neg hf]
          unfold pairF
          rw [if_neg (by omega), if_neg (by omega)]
  · rw [if_neg hA] at hN
    have hm0 : m ≠ 0 := fun e => hA (.inl e)
    have hmc : c0 ≤ m := by omega
    have hm2 : ¬ (m' = 0 ∨ m' < c0) := by rw [hm']; split <;> omega
    rw [if_neg hm2]
    by_cases hB : c0 < m
    · rw [if_pos hB] at hN
      rw [at_some hN, if_pos (show c0 < m' by rw [hm']; split <;> omega)]
      by_cases h1 : m < v
      · have e : m' = v := by rw [hm', if_pos h1]
        subst e
        have hu := hun h1
        by_cases hf : fm = 4
        · rw [if_pos hf]
          unfold colF
          rw [if_pos h1]
          exact some_ext rfl fun l => by simp [hf, hu, baseK]
        · rw [if_neg hf]
          unfold pairF
          rw [if_pos h1]
          refine some_ext rfl fun l => ?_
          simp only [hf, decide_false, Bool.false_and, Bool.or_false, baseK, Bool.not_false, Bool.true_and, hm0, Bool.false_or, decide_true, Bool.and_true]
          by_cases hl : l = h
          · subst hl
            simp only [decide_true, Bool.and_true]
            cases decide (l = me) <;> cases decide (l = frm) <;> simp
          · simp only [hl, decide_false, Bool.and_false, Bool.or_false]
      · have e : m' = m := by rw [hm', if_neg h1]
        subst e
        have hu := hue h1
        by_cases h2 : m' = v
        · by_cases hf : fm = 4
          · rw [if_pos hf]
            unfold colF
            rw [if_neg h1, if_pos h2]
            refine some_ext h2.symm fun l => ?_
            simp [hf, hu, h2, Bool.or_assoc]
          · rw [if_neg hf]
            unfold pairF
            rw [if_neg h1, if_pos h2]
            refine some_ext h2.symm fun l => ?_
            simp only [hf, decide_false, Bool.false_and, Bool.or_false, baseK, Bool.not_false, Bool.true_and]
            cases decide (l = me) <;> cases decide (l = frm) <;> simp
        · have hd : decide (v = m') = false := by simp; omega
          by_cases hf : fm = 4
          · rw [if_pos hf]
            unfold colF
            rw [if_neg h1, if_neg h2]
            refine some_ext rfl fun l => ?_
            simp [hf, hu, hd]
          · rw [if_neg hf]
            unfold pairF
            rw [if_neg h1, if_neg h2]
            refine some_ext rfl fun l => ?_
            simp [hf]
    · rw [if_neg hB] at hN
      have hcm : c0 = m := by omega
      rw [at_some hN]
      by_cases h1 : m < v
      · have e : m' = v := by rw [hm', if_pos h1]
        subst e
        rw [if_pos (show c0 < m' by omega)]
        have hu := hun h1
        by_cases hf : fm = 4
        · rw [if_pos hf]
          unfold colF
          rw [if_pos (by simp only; omega)]
          exact some_ext rfl fun l => by simp [hf, hu, baseK]
        · rw [if_neg hf]
          unfold pairF
          rw [if_pos (by simp only; omega)]
          refine some_ext rfl fun l => ?_
          have hc0 : ¬ c0 = 0 := by omega
          simp only [hf, decide_false, Bool.false_and, Bool.or_false, baseK, Bool.not_false, Bool.true_and, hy1, hc0, Bool.false_or]
          by_cases hl : l = h
          · subst hl
            simp only [decide_true, Bool.and_true]
            cases decide (l = me) <;> cases decide (l = frm) <;> simp
          · simp only [hl, decide_false, Bool.and_false, Bool.or_false]
      · have e : m' = m := by rw [hm', if_neg h1]
        subst e
        rw [if_neg (show ¬ c0 < m' by omega)]
        have hu := hue h1
        by_cases h2 : m' = v
        · by_cases hf : fm = 4
          · rw [if_pos hf]
            unfold colF
            rw [if_neg (by simp only; omega), if_pos (by simp only; omega)]
            refine some_ext (by omega) fun l => ?_
            simp [hf, hu, h2, Bool.or_assoc]
          · rw [if_neg hf]
            unfold pairF
            rw [if_neg (by simp only; omega), if_pos (by simp only; omega)]
            refine some_ext (by omega) fun l => ?_
            simp only [hf, decide_false, Bool.false_and, Bool.or_false, Bool.not_false, Bool.true_and]
            cases decide (l = frm) <;> simp
        · have hd : decide (v = m') = false := by simp; omega
          by_cases hf : fm = 4
          · rw [if_pos hf]
            unfold colF
            rw [if_neg (by simp only; omega), if_neg (by simp only; omega)]
            refine some_ext rfl fun l => ?_
            simp [hf, hu, hd]
          · rw [if_neg hf]
            unfold pairF
            rw [if_neg (by simp only; omega), if_neg (by simp only; omega)]
            refine some_ext rfl fun l => ?_
            simp [hf]
/-- One entry more. -/
theorem mod_step (fm me frm : Nat) (M : Hold) (T : List SI) (x : SE) : stepS me frm fm (modT fm me frm M T) x = modT fm me frm M (T ++ [x.in]) := by
  funext h
  by_cases hh : h = x.h
  · subst hh
    have hu : ∀ m l, uni (T ++ [x.in]) x.h m l = (uni T x.h m l || (decide (x.c = m) && bitAt x.f.toNat x.bs l)) := fun m l => by
      rw [uni_succ, show decide (x.in.h = x.h) = true from decide_eq_true rfl, Bool.true_and]
      rfl
    have hm : mx0 (T ++ [x.in]) x.h = if mx0 T x.h < x.c then x.c else mx0 T x.h := by rw [mx0_succ]; exact mxS_same _ _ _
    by_cases hc : x.c = 0
    · have e0 : stepS me frm fm (modT fm me frm M T) x = modT fm me frm M T := by unfold stepS; rw [if_pos hc]
      have hm2 : mx0 (T ++ [x.in]) x.h = mx0 T x.h := by rw [hm, if_neg (by omega)]
      rw [e0]
      unfold modT
      rw [mod_at _ _ _ _ _ _ M _ _ _ rfl rfl rfl, mod_at _ _ _ _ _ _ M _ _ _ hm2 rfl rfl]
      simp only [hu, hm2]
      split
      · rfl
      · next h0 =>
        have hd : decide (x.c = mx0 T x.h) = false := by simp; omega
        simp only [hd, Bool.false_and, Bool.or_false]
    · rw [step_at me frm fm _ x hc _ rfl]
      unfold modT
      rw [mod_at _ _ _ _ _ _ M _ (mx0 (T ++ [x.in])) _ rfl rfl rfl]
      simp only [hu]
      exact mod_core fm me frm x.h x.c (mx0 T x.h) (cntM M x.h) (bitAt x.f.toNat x.bs) (uni T x.h (mx0 T x.h)) (uni T x.h (mx0 (T ++ [x.in]) x.h)) M (at' M x.h) _ hc rfl rfl
        (fun hlt l => uni_none T x.h _ (by rw [hm, if_pos hlt]; exact hlt) l) (fun hlt l => by rw [hm, if_neg hlt])
        (mod_at _ _ _ _ _ _ M _ _ _ rfl rfl rfl) _ hm
  · have hu : ∀ m l, uni (T ++ [x.in]) h m l = uni T h m l := fun m l => by
      rw [uni_succ, show decide (x.in.h = h) = false from decide_eq_false (fun e => hh e.symm), Bool.false_and, Bool.false_and, Bool.or_false]
    have hm : mx0 (T ++ [x.in]) h = mx0 T h := by rw [mx0_succ]; exact mxS_other _ _ _ _ hh
    have e1 : stepS me frm fm (modT fm me frm M T) x h = modT fm me frm M T h := by
      unfold stepS
      split
      · rfl
      · split <;> (unfold setM; rw [if_neg hh])
    rw [e1]
    unfold modT modH
    simp only [hu, hm]
theorem modT_nil (fm me frm : Nat) (M : Hold) : modT fm me frm M [] = M := by
  funext h
  unfold modT modH
  rw [if_pos (.inl rfl)]
/-- THE LAW: the taking answers as the model says. -/
theorem take_model (me frm fm : Nat) (M : Hold) (T : List SE) : takeS me frm fm M T = modT fm me frm M (T.map SE.in) := by
  have key : ∀ k, k ≤ T.length → takeS me frm fm M (T.take k) = modT fm me frm M ((T.take k).map SE.in) := by
    intro k
    induction k with
    | zero => intro _; rw [List.take_zero, List.map_nil, modT_nil]; rfl
    | succ k ih =>
      intro hk
      rw [takeS_succ me frm fm M T k hk, ih (by omega), mod_step, List.take_succ_eq_append_getElem hk, List.map_append]
      rfl
  have := key T.length (Nat.le_refl _)
  rwa [List.take_length] at this
end Go.Proofs.Qxb6614657a
