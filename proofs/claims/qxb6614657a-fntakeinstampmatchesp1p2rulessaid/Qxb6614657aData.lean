import Derived.Test.Qxb6614657aPrem
import Derived.Test.Qxb6614657aSame
namespace Go.Proofs.Qxb6614657a
open Go.RowKit

def Ad.P (d : Ad) : List PE := (List.range d.ph.length).map fun i => ⟨(d.ph.getD i 0).toNat, d.pc.getD i 0, (d.pf.getD i 0).toNat, d.pb.getD i []⟩
def Ad.S (d : Ad) : List SI := (List.range d.sh.length).map fun i => ⟨(d.sh.getD i 0).toNat, d.sc.getD i 0, d.sf.getD i 0, d.sb.getD i []⟩
/-- The bounds that every input keeps. -/
structure Wide (d : Ad) : Prop where
  hs : ∀ s ∈ d.hs, s.size ≤ maxLen
  pc : ∀ x ∈ d.pc, x < 18446744073709551616
  sc : ∀ x ∈ d.sc, x < 18446744073709551616
  pf : ∀ x ∈ d.pf, -9223372036854775808 ≤ x ∧ x ≤ 9223372036854775807
  sf : ∀ x ∈ d.sf, -9223372036854775808 ≤ x ∧ x ≤ 9223372036854775807
theorem Ad.P_length (d : Ad) : d.P.length = d.ph.length := by simp [Ad.P]
theorem Ad.S_length (d : Ad) : d.S.length = d.sh.length := by simp [Ad.S]
theorem Ad.P_get (d : Ad) (i : Nat) (hi : i < d.P.length) (h1 : i < d.ph.length) (h2 : i < d.pc.length) (h3 : i < d.pf.length) (h4 : i < d.pb.length) : d.P[i] = ⟨d.ph[i].toNat, d.pc[i], d.pf[i].toNat, d.pb[i]⟩ := by
  simp [Ad.P, List.getD_eq_getElem?_getD, h1, h2, h3, h4]
theorem Ad.S_get (d : Ad) (i : Nat) (hi : i < d.S.length) (h1 : i < d.sh.length) (h2 : i < d.sc.length) (h3 : i < d.sf.length) (h4 : i < d.sb.length) : d.S[i] = ⟨d.sh[i].toNat, d.sc[i], d.sf[i], d.sb[i]⟩ := by
  simp [Ad.S, List.getD_eq_getElem?_getD, h1, h2, h3, h4]
theorem inR_f {f : Int} {bs : List Nat} {n : Nat} (h : InRange f bs n) : f = (f.toNat : Int) ∧ f.toNat + bs.length ≤ (n + 7) / 8 ∧ ∀ l, bitAt f.toNat bs l = true → l < n := by
  obtain ⟨k, rfl, h1, h2⟩ := h
  exact ⟨by simp, by simpa using h1, by simpa using h2⟩
theorem pin {w : World} {v : Av} {d : Ad} {me frm : Int} {fm : Nat} (h : AIn w v d) (p : Prem d me frm fm) : PIn w d.hs.length v.ph v.pc v.pf v.pb d.pv d.P := by
  have hl := d.P_length
  have e1 : (d.P.map fun x => Value.int .i64 (x.h : Int)) = ints d.ph := by
    refine List.ext_getElem (by simp [ints, hl]) fun i a b => ?_
    have hi : i < d.ph.length := by simpa [ints] using b
    have h2 : i < d.pc.length := by rw [p.lc]; exact hi
    have h3 : i < d.pf.length := by rw [p.lf]; exact hi
    have h4 : i < d.pb.length := by rw [p.lb]; exact hi
    have := p.pr i hi h2 h3 h4
    simp only [List.getElem_map, ints, d.P_get i (by omega) hi h2 h3 h4]
    congr 1; omega
  have e2 : (d.P.map fun x => Value.int .u64 (x.c : Int)) = u64s d.pc := by
    refine List.ext_getElem (by simp [u64s, hl, p.lc]) fun i a b => ?_
    have h2 : i < d.pc.length := by simpa [u64s] using b
    have hi : i < d.ph.length := by rw [← p.lc]; exact h2
    have h3 : i < d.pf.length := by rw [p.lf]; exact hi
    have h4 : i < d.pb.length := by rw [p.lb]; exact hi
    simp only [List.getElem_map, u64s, d.P_get i (by omega) hi h2 h3 h4]
  have e3 : (d.P.map fun x => Value.int .i64 (x.f : Int)) = ints d.pf := by
    refine List.ext_getElem (by simp [ints, hl, p.lf]) fun i a b => ?_
    have h3 : i < d.pf.length := by simpa [ints] using b
    have hi : i < d.ph.length := by rw [← p.lf]; exact h3
    have h2 : i < d.pc.length := by rw [p.lc]; exact hi
    have h4 : i < d.pb.length := by rw [p.lb]; exact hi
    have := inR_f (p.pr i hi h2 h3 h4).2.2.2.1
    simp only [List.getElem_map, ints, d.P_get i (by omega) hi h2 h3 h4]
    congr 1; omega
  refine ⟨by rw [e1]; exact h.ph, by rw [e2]; exact h.pc, by rw [e3]; exact h.pf, h.pb, by rw [h.pl, p.lb, hl], fun i hi hi' => ?_⟩
  have h1 : i < d.ph.length := by rw [← hl]; exact hi
  have h2 : i < d.pc.length := by rw [p.lc]; exact h1
  have h3 : i < d.pf.length := by rw [p.lf]; exact h1
  have h4 : i < d.pb.length := by rw [p.lb]; exact h1
  rw [d.P_get i hi h1 h2 h3 h4]
  exact h.py i h4 hi'
theorem P_all {d : Ad} {me frm : Int} {fm : Nat} (p : Prem d me frm fm) {x : PE} (hx : x ∈ d.P) : ∃ (i : Nat) (h1 : i < d.ph.length) (h2 : i < d.pc.length) (h3 : i < d.pf.length) (h4 : i < d.pb.length), x = ⟨d.ph[i].toNat, d.pc[i], d.pf[i].toNat, d.pb[i]⟩ := by
  obtain ⟨i, hi, rfl⟩ := List.getElem_of_mem hx
  have h1 : i < d.ph.length := by rw [← d.P_length]; exact hi
  have h2 : i < d.pc.length := by rw [p.lc]; exact h1
  have h3 : i < d.pf.length := by rw [p.lf]; exact h1
  have h4 : i < d.pb.length := by rw [p.lb]; exact h1
  exact ⟨i, h1, h2, h3, h4, d.P_get i hi h1 h2 h3 h4⟩
theorem rise {xs : List Int} (h : ∀ i (h1 : i < xs.length) (h2 : i + 1 < xs.length), xs[i] < xs[i + 1]) : ∀ j i (hi : i < xs.length) (hj : j < xs.length), i < j → xs[i] < xs[j] := by
  intro j
  induction j with
  | zero => intro i hi hj h; omega
  | succ j ih =>
    intro i hi hj hlt
    have h1 := h j (by omega) hj
    by_cases e : i = j
    · subst e; exact h1
    · have := ih i hi (by omega) (by omega)
      omega
theorem pok {d : Ad} {me frm : Int} {fm : Nat} (p : Prem d me frm fm) (s : Short d) (wd : Wide d) : POk d.hs.length d.P := by
  refine ⟨fun x hx => ?_, ?_, fun x hx => ?_, fun x hx => ?_, fun x hx => ?_, fun x hx => ?_, by rw [d.P_length]; exact s.ph⟩
  · obtain ⟨i, h1, h2, h3, h4, rfl⟩ := P_all p hx
    have := p.pr i h1 h2 h3 h4
    show d.ph[i].toNat < _
    omega
  · refine List.pairwise_iff_getElem.2 fun i j hi hj hlt => ?_
    have a1 : i < d.ph.length := by rw [← d.P_length]; exact hi
    have a2 : j < d.ph.length := by rw [← d.P_length]; exact hj
    have b1 : i < d.pc.length := by rw [p.lc]; exact a1
    have b2 : j < d.pc.length := by rw [p.lc]; exact a2
    have c1 : i < d.pf.length := by rw [p.lf]; exact a1
    have c2 : j < d.pf.length := by rw [p.lf]; exact a2
    have e1 : i < d.pb.length := by rw [p.lb]; exact a1
    have e2 : j < d.pb.length := by rw [p.lb]; exact a2
    rw [d.P_get i hi a1 b1 c1 e1, d.P_get j hj a2 b2 c2 e2]
    have := rise p.ord j i a1 a2 hlt
    have h0 := (p.pr i a1 b1 c1 e1).1
    show d.ph[i].toNat < d.ph[j].toNat
    omega
  · obtain ⟨i, h1, h2, h3, h4, rfl⟩ := P_all p hx
    exact (p.pr i h1 h2 h3 h4).2.2.1
  · obtain ⟨i, h1, h2, h3, h4, rfl⟩ := P_all p hx
    exact wd.pc _ (List.getElem_mem h2)
  · obtain ⟨i, h1, h2, h3, h4, rfl⟩ := P_all p hx
    exact (inR_f (p.pr i h1 h2 h3 h4).2.2.2.1).2.1
  · obtain ⟨i, h1, h2, h3, h4, rfl⟩ := P_all p hx
    exact (inR_f (p.pr i h1 h2 h3 h4).2.2.2.1).2.2
theorem S_all {d : Ad} {me frm : Int} {fm : Nat} (p : Prem d me frm fm) {x : SI} (hx : x ∈ d.S) : ∃ (i : Nat) (h1 : i < d.sh.length) (h2 : i < d.sc.length) (h3 : i < d.sf.length) (h4 : i < d.sb.length), x = ⟨d.sh[i].toNat, d.sc[i], d.sf[i], d.sb[i]⟩ := by
  obtain ⟨i, hi, rfl⟩ := List.getElem_of_mem hx
  have h1 : i < d.sh.length := by rw [← d.S_length]; exact hi
  have h2 : i < d.sc.length := by rw [p.sc]; exact h1
  have h3 : i < d.sf.length := by rw [p.sf]; exact h1
  have h4 : i < d.sb.length := by rw [p.sb]; exact h1
  exact ⟨i, h1, h2, h3, h4, d.S_get i hi h1 h2 h3 h4⟩
theorem sin {w : World} {v : Av} {d : Ad} {me frm : Int} {fm : Nat} (h : AIn w v d) (p : Prem d me frm fm) (s : Short d) : SIn w v.sh v.sc v.sf v.sb d.sv d.S := by
  have hl := d.S_length
  have e1 : (d.S.map fun x => Value.int .i64 (x.h : Int)) = ints d.sh := by
    refine List.ext_getElem (by simp [ints, hl]) fun i a b => ?_
    have hi : i < d.sh.length := by simpa [ints] using b
    have h2 : i < d.sc.length := by rw [p.sc]; exact hi
    have h3 : i < d.sf.length := by rw [p.sf]; exact hi
    have h4 : i < d.sb.length := by rw [p.sb]; exact hi
    have := p.sr i hi
    simp only [List.getElem_map, ints, d.S_get i (by omega) hi h2 h3 h4]
    congr 1; omega
  have e2 : (d.S.map fun x => Value.int .u64 (x.c : Int)) = u64s d.sc := by
    refine List.ext_getElem (by simp [u64s, hl, p.sc]) fun i a b => ?_
    have h2 : i < d.sc.length := by simpa [u64s] using b
    have hi : i < d.sh.length := by rw [← p.sc]; exact h2
    have h3 : i < d.sf.length := by rw [p.sf]; exact hi
    have h4 : i < d.sb.length := by rw [p.sb]; exact hi
    simp only [List.getElem_map, u64s, d.S_get i (by omega) hi h2 h3 h4]
  have e3 : (d.S.map fun x => Value.int .i64 x.f) = ints d.sf := by
    refine List.ext_getElem (by simp [ints, hl, p.sf]) fun i a b => ?_
    have h3 : i < d.sf.length := by simpa [ints] using b
    have hi : i < d.sh.length := by rw [← p.sf]; exact h3
    have h2 : i < d.sc.length := by rw [p.sc]; exact hi
    have h4 : i < d.sb.length := by rw [p.sb]; exact hi
    simp only [List.getElem_map, ints, d.S_get i (by omega) hi h2 h3 h4]
  refine ⟨by rw [e1]; exact h.sh, by rw [e2]; exact h.sc, by rw [e3]; exact h.sf, h.sb, by rw [h.sl, p.sb, hl], fun i hi hi' => ?_, by rw [hl]; exact s.sh, fun x hx => ?_⟩
  · have h1 : i < d.sh.length := by rw [← hl]; exact hi
    have h2 : i < d.sc.length := by rw [p.sc]; exact h1
    have h3 : i < d.sf.length := by rw [p.sf]; exact h1
    have h4 : i < d.sb.length := by rw [p.sb]; exact h1
    rw [d.S_get i hi h1 h2 h3 h4]
    exact h.sy i h4 hi'
  · obtain ⟨i, h1, h2, h3, h4, rfl⟩ := S_all p hx
    exact s.sx i h4
/-- The stamp as the taking reads it. -/
theorem stm {w : World} {lo Bs fm : Nat} {frm me : Int} {sv : Value} {T : List SE} {d : Ad} {O : Nat → Prop} (h : SRep w lo Bs fm frm sv T) (hT : T.map SE.in = d.S) (p : Prem d me frm fm) (wd : Wide d) (hO : ∀ q, O q → q < lo) : Stm w d.hs.length fm sv T O := by
  have hx : ∀ x ∈ T, ∃ (i : Nat) (h1 : i < d.sh.length) (h2 : i < d.sc.length) (h3 : i < d.sf.length) (h4 : i < d.sb.length), x.h = d.sh[i].toNat ∧ x.c = d.sc[i] ∧ x.f = d.sf[i] ∧ x.bs = d.sb[i] := fun x hx => by
    have : x.in ∈ d.S := by rw [← hT]; exact List.mem_map.2 ⟨x, hx, rfl⟩
    obtain ⟨i, h1, h2, h3, h4, e⟩ := S_all p this
    simp only [SE.in, SI.mk.injEq] at e
    exact ⟨i, h1, h2, h3, h4, e⟩
  have hlo : ∀ {e s m : Nat} {v : Value} {xs : List Value}, w.ownsRow lo e s v m xs → ∀ q, v.ownBlock = some q → ¬ O q := fun ho q hq hO' => by
    have := (ho.lt q hq).1
    have := hO q hO'
    omega
  refine ⟨⟨lo, h.row⟩, fun x hm => ?_, fun x hm => ?_, fun x hm => ?_, fun e x hm => ?_, hlo h.row⟩
  · obtain ⟨i, h1, h2, h3, h4, e1, e2, e3, e4⟩ := hx x hm
    have := p.sr i h1
    rw [e1]; omega
  · obtain ⟨i, h1, h2, h3, h4, e1, e2, e3, e4⟩ := hx x hm
    rw [e2]; exact wd.sc _ (List.getElem_mem h2)
  · obtain ⟨a, c, e⟩ := row_shape (h.col x hm).1
    exact ⟨a, _, c, e⟩
  · obtain ⟨i, h1, h2, h3, h4, e1, e2, e3, e4⟩ := hx x hm
    have := inR_f (p.p2 e i h3 h4)
    rw [← e3, ← e4] at this
    exact ⟨this.1, ⟨⟨lo, (h.col x hm).1⟩, (h.col x hm).2, this.2.1, this.2.2⟩, hlo (h.col x hm).1⟩
theorem Ow.ge {w : World} {lo n Bp Bw BM : Nat} {hv ev : Value} {me : Nat} {hs : List ByteArray} {L : List En} {M : Hold} (h : RepC w lo n Bp Bw BM hv ev me hs L M) (h1 : lo ≤ Bp) (h2 : lo ≤ BM) {q : Nat} (hq : Ow Bp BM ev L q) : lo ≤ q := by
  rcases hq with rfl | rfl | hq | ⟨e, he, hq⟩
  · exact h1
  · exact h2
  · exact (h.row.lt q hq).1
  · obtain ⟨K, _, bs, h1, _⟩ := h.col e he
    exact (h1.lt q hq).1
theorem FrO.below {w w' : World} {O O' : Nat → Prop} (h : FrO w w' O O') {B : Nat} (hB : B ≤ w.heap.size) (hO : ∀ q, O q → B ≤ q) : Below B w w' :=
  ⟨h.os, h.tape, h.output, h.size, fun q hq => h.block q (by omega) (fun ho => by have := hO q ho; omega)⟩
theorem NZ.hold {n : Nat} {P : List PE} (ok : POk n P) : NZ (holdP P) := by
  have : ∀ (Q : List PE) (M : Hold), NZ M → (∀ x ∈ Q, x.c ≠ 0) → NZ (Q.foldl (fun M x => setM M x.h (x.c, bitAt x.f x.bs)) M) := by
    intro Q
    induction Q with
    | nil => intro M h _; exact h
    | cons x Q ih => intro M h hc; exact ih _ (h.set _ _ (hc x (by simp))) (fun y hy => hc y (by simp [hy]))
  exact this P _ (fun _ _ h => by cases h) ok.c0
end Go.Proofs.Qxb6614657a
