import Derived.Test.Qxb6614657aStamp
namespace Go.Proofs.Qxb6614657a
open Go.RowKit

/-! The plain laws: no Go in sight. -/
/-- Every count that is held is not 0. -/
def NZ (M : Hold) : Prop := ∀ h x, M h = some x → x.1 ≠ 0
theorem NZ.set {M : Hold} (h : NZ M) (k : Nat) (x : Nat × (Nat → Bool)) (hx : x.1 ≠ 0) : NZ (setM M k x) := fun j y e => by
  unfold setM at e
  split at e
  · cases e; exact hx
  · exact h j y e
theorem colF_nz (me v : Nat) (T : Nat → Bool) (x : Nat × (Nat → Bool)) (hv : v ≠ 0) : (colF me v T x).1 ≠ 0 := by
  unfold colF
  split
  · exact hv
  · split
    · exact hv
    · next h1 h2 => show x.1 ≠ 0; omega
theorem pairF_nz (me frm k v : Nat) (x : Nat × (Nat → Bool)) (hv : v ≠ 0) : (pairF me frm k v x).1 ≠ 0 := by
  unfold pairF
  split
  · exact hv
  · split
    · exact hv
    · next h1 h2 => show x.1 ≠ 0; omega
theorem NZ.step {M : Hold} (h : NZ M) (me frm fm : Nat) (x : SE) : NZ (stepS me frm fm M x) := by
  unfold stepS
  split
  · exact h
  · next hc =>
    split
    · exact h.set _ _ (colF_nz _ _ _ _ hc)
    · exact h.set _ _ (pairF_nz _ _ _ _ _ hc)
theorem NZ.take {M : Hold} (h : NZ M) (me frm fm : Nat) (T : List SE) : NZ (takeS me frm fm M T) := by
  unfold takeS
  induction T generalizing M with
  | nil => exact h
  | cons x T ih => exact ih (h.step me frm fm x)
/-- The counts after an entry. -/
def mxS (c : Nat → Nat) (x : Nat × Nat) : Nat → Nat := if c x.1 < x.2 then setC c x.1 x.2 else c
def mxF (c : Nat → Nat) (S : List (Nat × Nat)) : Nat → Nat := S.foldl mxS c
theorem cntM_at (M : Hold) (h : Nat) : cntM M h = (at' M h).1 := by
  unfold cntM at'
  cases M h <;> rfl
theorem colF_cnt (me v : Nat) (T : Nat → Bool) (x : Nat × (Nat → Bool)) : (colF me v T x).1 = if x.1 < v then v else x.1 := by
  unfold colF
  split
  · rfl
  · split
    · next e => exact e.symm
    · rfl
theorem pairF_cnt (me frm k v : Nat) (x : Nat × (Nat → Bool)) : (pairF me frm k v x).1 = if x.1 < v then v else x.1 := by
  unfold pairF
  split
  · rfl
  · split
    · next e => exact e.symm
    · rfl
theorem setC_self (c : Nat → Nat) (k : Nat) : setC c k (c k) = c := by
  funext x
  unfold setC
  split
  · next e => rw [e]
  · rfl
theorem cnt_step (me frm fm : Nat) (M : Hold) (x : SE) : cntM (stepS me frm fm M x) = mxS (cntM M) (x.h, x.c) := by
  unfold stepS mxS
  by_cases hc : x.c = 0
  · rw [if_pos hc, if_neg (by simp only; omega)]
  · rw [if_neg hc]
    split
    all_goals
      rw [cntM_set]
      first | rw [colF_cnt] | rw [pairF_cnt]
      rw [← cntM_at]
      split
      · rfl
      · exact setC_self _ _
theorem cnt_take (me frm fm : Nat) (M : Hold) (T : List SE) : cntM (takeS me frm fm M T) = mxF (cntM M) (T.map fun x => (x.h, x.c)) := by
  unfold takeS mxF
  induction T generalizing M with
  | nil => rfl
  | cons x T ih => rw [List.map_cons, List.foldl_cons, List.foldl_cons, ih, cnt_step]

/-- An entry that adds nothing. -/
def Idle (frm fm : Nat) (M : Hold) (x : SE) : Prop :=
  x.c = 0 ∨ ∃ y, M x.h = some y ∧ (x.c < y.1 ∨ (x.c = y.1 ∧ (if fm = 4 then ∀ l, bitAt x.f.toNat x.bs l = true → y.2 l = true else y.2 frm = true)))
theorem Idle.step {frm fm : Nat} {M : Hold} {x : SE} (h : Idle frm fm M x) (me : Nat) : stepS me frm fm M x = M := by
  unfold stepS
  rcases h with h | ⟨y, hy, h⟩
  · rw [if_pos h]
  · split
    · rfl
    · have ha : at' M x.h = y := by unfold at'; rw [hy]; rfl
      have key : ∀ z : Nat × (Nat → Bool), z = y → setM M x.h z = M := fun z e => setM_same M x.h z (by rw [e]; exact hy)
      rw [ha]
      rcases h with h | ⟨h, h2⟩
      · split
        · refine key _ ?_
          unfold colF
          rw [if_neg (by omega), if_neg (by omega)]
        · refine key _ ?_
          unfold pairF
          rw [if_neg (by omega), if_neg (by omega)]
      · obtain ⟨c, K⟩ := y
        simp only at h h2 ha
        split
        · next e =>
          rw [if_pos e] at h2
          refine key _ ?_
          unfold colF
          simp only
          rw [if_neg (by omega), if_pos h.symm]
          refine Prod.ext h ?_
          funext l
          simp only
          cases hb : bitAt x.f.toNat x.bs l
          · simp
          · simp [h2 l hb]
        · next e =>
          rw [if_neg e] at h2
          refine key _ ?_
          unfold pairF
          simp only
          rw [if_neg (by omega), if_pos h.symm]
          refine Prod.ext h ?_
          funext l
          simp only
          by_cases hl : l = frm
          · subst hl; simp [h2]
          · simp [hl]
/-- An entry adds nothing right behind itself. -/
theorem idle_self (me frm fm : Nat) (M : Hold) (x : SE) : Idle frm fm (stepS me frm fm M x) x := by
  by_cases hc : x.c = 0
  · exact .inl hc
  · right
    unfold stepS
    rw [if_neg hc]
    split
    · next e =>
      refine ⟨_, if_pos rfl, ?_⟩
      unfold colF
      split
      · exact .inr ⟨rfl, by intro l hl; simp [hl]⟩
      · split
        · exact .inr ⟨rfl, by intro l hl; simp [hl]⟩
        · left; omega
    · next e =>
      refine ⟨_, if_pos rfl, ?_⟩
      unfold pairF
      split
      · exact .inr ⟨rfl, by simp⟩
      · split
        · exact .inr ⟨rfl, by simp⟩
        · left; omega
/-- .. and it stays so. -/
theorem Idle.keep {frm fm : Nat} {M : Hold} {x : SE} (h : Idle frm fm M x) (me : Nat) (z : SE) : Idle frm fm (stepS me frm fm M z) x := by
  rcases h with h | ⟨y, hy, h⟩
  · exact .inl h
  · by_cases hc : z.c = 0
    · unfold stepS; rw [if_pos hc]; exact .inr ⟨y, hy, h⟩
    · by_cases hz : x.h = z.h
      · right
        have ha : at' M z.h = y := by unfold at'; rw [← hz, hy]; rfl
        unfold stepS
        rw [if_neg hc, ha]
        split
        · next e =>
          rw [if_pos e] at h
          refine ⟨_, if_pos hz, ?_⟩
          unfold colF
          split
          · left; show x.c < z.c; rcases h with h | h <;> omega
          · split
            · next e2 =>
              rcases h with h | ⟨h, h2⟩
              · left; show x.c < z.c; omega
              · right
                refine ⟨by show x.c = z.c; omega, ?_⟩
                intro l hl
                simp [h2 l hl]
            · rcases h with h | ⟨h, h2⟩
              · exact .inl h
              · exact .inr ⟨h, h2⟩
        · next e =>
          rw [if_neg e] at h
          refine ⟨_, if_pos hz, ?_⟩
          unfold pairF
          split
          · left; show x.c < z.c; rcases h with h | h <;> omega
          · split
            · next e2 =>
              rcases h with h | ⟨h, h2⟩
              · left; show x.c < z.c; omega
              · right
                refine ⟨by show x.c = z.c; omega, ?_⟩
                simp
            · rcases h with h | ⟨h, h2⟩
              · exact .inl h
              · exact .inr ⟨h, h2⟩
      · right
        refine ⟨y, ?_, h⟩
        unfold stepS
        rw [if_neg hc]
        split
        · unfold setM; rw [if_neg hz]; exact hy
        · unfold setM; rw [if_neg hz]; exact hy
theorem Idle.keeps {frm fm : Nat} {M : Hold} {x : SE} (h : Idle frm fm M x) (me : Nat) (T : List SE) : Idle frm fm (takeS me frm fm M T) x := by
  unfold takeS
  induction T generalizing M with
  | nil => exact h
  | cons z T ih => exact ih (h.keep me z)
theorem idle_all (me frm fm : Nat) (M : Hold) (T : List SE) : ∀ x ∈ T, Idle frm fm (takeS me frm fm M T) x := by
  induction T generalizing M with
  | nil => intro x hx; cases hx
  | cons z T ih =>
    intro x hx
    rcases List.mem_cons.1 hx with rfl | hx
    · exact (idle_self me frm fm M x).keeps me T
    · exact ih (stepS me frm fm M z) x hx
theorem take_idle (me frm fm : Nat) (M : Hold) (T : List SE) (h : ∀ x ∈ T, Idle frm fm M x) : takeS me frm fm M T = M := by
  unfold takeS
  induction T with
  | nil => rfl
  | cons z T ih =>
    rw [List.foldl_cons, (h z (by simp)).step me]
    exact ih fun x hx => h x (by simp [hx])
/-- THE LAW: a stamp that is taken in twice adds nothing. -/
theorem take_twice (me frm fm : Nat) (M : Hold) (T : List SE) : takeS me frm fm (takeS me frm fm M T) T = takeS me frm fm M T :=
  take_idle me frm fm _ T (idle_all me frm fm M T)
/-- Only the data of an entry count. -/
theorem takeS_in (me frm fm : Nat) (M : Hold) : ∀ (T U : List SE), T.map (fun x => (x.h, x.c, x.f, x.bs)) = U.map (fun x => (x.h, x.c, x.f, x.bs)) → takeS me frm fm M T = takeS me frm fm M U := by
  unfold takeS
  intro T
  induction T generalizing M with
  | nil => intro U h; cases U with
    | nil => rfl
    | cons _ _ => simp at h
  | cons x T ih => intro U h; cases U with
    | nil => simp at h
    | cons y U =>
      simp only [List.map_cons, List.cons.injEq, Prod.mk.injEq] at h
      obtain ⟨⟨h1, h2, h3, h4⟩, h5⟩ := h
      rw [List.foldl_cons, List.foldl_cons]
      have : stepS me frm fm M x = stepS me frm fm M y := by unfold stepS; rw [h1, h2, h3, h4]
      rw [this]
      exact ih _ U h5

/-- The scan of the entries, host by host: idx entries lie below h. -/
structure Scan (L : List En) (c : Nat → Nat) (h idx : Nat) : Prop where
  le : idx ≤ L.length
  hi : ∀ i (hi : i < L.length), idx ≤ i → h ≤ L[i].h
  tk : (L.take idx).map (·.h) = (List.range h).filter fun x => decide (c x ≠ 0)
theorem Scan.start (L : List En) (c : Nat → Nat) : Scan L c 0 0 := ⟨Nat.zero_le _, fun _ _ _ => Nat.zero_le _, rfl⟩
theorem Scan.cn {L : List En} {c : Nat → Nat} {h idx : Nat} (s : Scan L c h idx) : many h c = idx := by
  have := congrArg List.length s.tk
  rw [List.length_map, List.length_take, Nat.min_eq_left s.le] at this
  unfold many
  rw [List.countP_eq_length_filter, ← this]
theorem Scan.lo {L : List En} {c : Nat → Nat} {h idx : Nat} (s : Scan L c h idx) : ∀ i (hi : i < L.length), i < idx → L[i].h < h := fun i hi hlt => by
  have : L[i].h ∈ (L.take idx).map (·.h) := List.mem_map.2 ⟨L[i], List.mem_take_iff_getElem.2 ⟨i, by omega, rfl⟩, rfl⟩
  rw [s.tk] at this
  exact List.mem_range.1 (List.mem_filter.1 this).1
theorem Scan.skip {L : List En} {c : Nat → Nat} {h idx : Nat} (s : Scan L c h idx) (hm : ∀ e ∈ L, c e.h ≠ 0) (h0 : c h = 0) : Scan L c (h + 1) idx := by
  refine ⟨s.le, fun i hi hle => ?_, ?_⟩
  · have := s.hi i hi hle
    have h2 := hm _ (List.getElem_mem hi)
    by_cases e : L[i].h = h
    · rw [e] at h2; exact absurd h0 h2
    · omega
  · rw [s.tk, List.range_succ, List.filter_append]
    simp [h0]
theorem Scan.hit {L : List En} {c : Nat → Nat} {h idx : Nat} (s : Scan L c h idx) (ho : L.Pairwise (fun a b => a.h < b.h)) (hc : ∃ e ∈ L, e.h = h) (h0 : c h ≠ 0) : ∃ hlt : idx < L.length, L[idx].h = h ∧ Scan L c (h + 1) (idx + 1) := by
  obtain ⟨e, he, heh⟩ := hc
  obtain ⟨i, hi, rfl⟩ := List.getElem_of_mem he
  have hge : idx ≤ i := by
    by_cases hlt : i < idx
    · have := s.lo i hi hlt; omega
    · omega
  have hpw := List.pairwise_iff_getElem.1 ho
  have heq : i = idx := by
    by_cases e : i = idx
    · exact e
    · have h1 := s.hi idx (by omega) (Nat.le_refl _)
      have h2 := hpw idx i (by omega) hi (by omega)
      omega
  subst heq
  refine ⟨hi, heh, hi, fun j hj hle => ?_, ?_⟩
  · have := hpw i j hi hj (by omega)
    omega
  · rw [List.take_succ_eq_append_getElem hi, List.map_append, s.tk, List.range_succ, List.filter_append]
    simp [heh, h0]
theorem Scan.done {L : List En} {c : Nat → Nat} {n idx : Nat} (s : Scan L c n idx) (hl : ∀ e ∈ L, e.h < n) : idx = L.length := by
  have := s.le
  by_cases e : idx < L.length
  · have h1 := s.hi idx e (Nat.le_refl _)
    have h2 := hl _ (List.getElem_mem e)
    omega
  · omega
theorem scan_ex {L : List En} {c : Nat → Nat} (ho : L.Pairwise (fun a b => a.h < b.h)) (hm : ∀ h, c h ≠ 0 ↔ ∃ e ∈ L, e.h = h) : ∀ h, ∃ idx, Scan L c h idx := by
  intro h
  induction h with
  | zero => exact ⟨0, Scan.start L c⟩
  | succ h ih =>
    obtain ⟨idx, s⟩ := ih
    by_cases h0 : c h = 0
    · exact ⟨idx, s.skip (fun e he => (hm e.h).2 ⟨e, he, rfl⟩) h0⟩
    · obtain ⟨_, _, s'⟩ := s.hit ho ((hm h).1 h0) h0
      exact ⟨_, s'⟩
theorem scan_map {L : List En} {c : Nat → Nat} {n : Nat} (ho : L.Pairwise (fun a b => a.h < b.h)) (hm : ∀ h, c h ≠ 0 ↔ ∃ e ∈ L, e.h = h) (hl : ∀ e ∈ L, e.h < n) : L.map (·.h) = (List.range n).filter fun x => decide (c x ≠ 0) := by
  obtain ⟨idx, s⟩ := scan_ex ho hm n
  have := s.done hl
  rw [← s.tk, this, List.take_length]
/-- What a process holds, by its list. -/
theorem RepC.mem {w : World} {lo n Bp Bw BM : Nat} {hv ev : Value} {me : Nat} {hs : List ByteArray} {L : List En} {M : Hold} (h : RepC w lo n Bp Bw BM hv ev me hs L M) (hz : NZ M) : ∀ k, cntM M k ≠ 0 ↔ ∃ e ∈ L, e.h = k := fun k => by
  constructor
  · intro h0
    by_cases hc : ∃ e ∈ L, e.h = k
    · exact hc
    · have := h.non k (fun e he e2 => hc ⟨e, he, e2⟩)
      unfold cntM at h0
      rw [this] at h0
      exact absurd rfl h0
  · rintro ⟨e, he, rfl⟩
    obtain ⟨K, hM, _⟩ := h.col e he
    unfold cntM
    rw [hM]
    exact hz _ _ hM
end Go.Proofs.Qxb6614657a
