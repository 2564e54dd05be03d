import Derived.Test.Qxb6614903aMarked
namespace Go.Proofs.Qxb6614903a
open Go.RowKit
attribute [local go_sem ↓] Go.wp_at_zero Go.wp_at_succ

/-- Two rows of names read the same. -/
def TwoF (w : World) (fa ga : Option Addr) (n : Nat) : Prop := ∀ i, i < n → ∃ g h p s, fa = some ⟨g, 0, none⟩ ∧ ga = some ⟨h, p, none⟩ ∧ w.cell? ⟨g, i, none⟩ = some (.string s) ∧ w.cell? ⟨h, p + i, none⟩ = some (.string s)
theorem TwoF.up {w w' : World} {fa ga : Option Addr} {n : Nat} (h : TwoF w fa ga n) (hb : Below w.heap.size w w') : TwoF w' fa ga n := fun i hi => by
  obtain ⟨g, k, p, s, e1, e2, a1, a2⟩ := h i hi
  exact ⟨g, k, p, s, e1, e2, by rw [hb.cell (p := ⟨g, i, none⟩) (World.block_lt_of_cell? w _ a1)]; exact a1, by rw [hb.cell (p := ⟨k, p + i, none⟩) (World.block_lt_of_cell? w _ a2)]; exact a2⟩
theorem two_of {w : World} {lo hi : Nat} {t : Tr} {z : Zr} {f : Option (List ByteArray)} (ht : FL w lo hi (.slice t.fa t.fl t.fc) f) (hz : SL w z.fa z.fl z.fc f) : t.fa.isNone = z.fa.isNone ∧ t.fl = z.fl ∧ TwoF w t.fa z.fa z.fl := by
  rcases hz with ⟨z1, z2, z3, rfl⟩ | ⟨a, fs, z1, z2, rfl, z4⟩
  · rcases ht with ⟨e, _⟩ | ⟨g, cap, fs, _, e, _⟩
    · simp only [Value.slice.injEq] at e
      obtain ⟨t1, t2, t3⟩ := e
      rw [z1, z2, t1, t2]
      exact ⟨rfl, rfl, fun i hi => by omega⟩
    · cases e
  · rcases ht with ⟨_, e⟩ | ⟨g, cap, fs', e, e', _, _, _, a4, _⟩
    · cases e
    · cases e'
      simp only [Value.slice.injEq] at e
      obtain ⟨t1, t2, t3⟩ := e
      rw [z1, z2, t1, t2]
      refine ⟨rfl, rfl, fun i hi => ?_⟩
      obtain ⟨h, p, rfl, _, z5⟩ := z4 i hi
      have := a4 i (.string fs[i]) (by unfold strs; rw [List.getElem?_map, List.getElem?_eq_getElem hi]; rfl)
      exact ⟨g, h, p, fs[i], rfl, rfl, by simpa using this, z5⟩
theorem PS.ptr {w : World} {lo hi : Nat} {p : Option Addr} {o : Option ByteArray} (h : PS w lo hi p o) : PtrS w 0 p o := by
  rcases h with h | ⟨b, s, e1, e2, _, _, a3, a4, _⟩
  · exact .inl h
  · exact .inr ⟨b, 0, s, e1, e2, Nat.zero_le _, a3, a4⟩
/-- A time that was made zero. -/
def TZ (w : World) (p : Option Addr) (c : Bool) : Prop := (p = none ∧ c = false) ∨ ∃ b, p = some ⟨b, 0, none⟩ ∧ c = true ∧ w.rangeAt b 0 (tcells (0, 0)).toList
theorem TZ.of {w : World} {lo hi : Nat} {p : Option Addr} {c : Bool} (h : PT w lo hi p (t0 c)) : TZ w p c := by
  rcases h with ⟨h, e⟩ | ⟨b, u, e, e1, _, _, a, _⟩
  · cases c
    · exact .inl ⟨h, rfl⟩
    · cases e
  · cases c
    · cases e1
    · cases e1
      exact .inr ⟨b, e, rfl, a⟩
theorem TZ.up {w w' : World} {p : Option Addr} {c : Bool} (h : TZ w p c) (hb : Below w.heap.size w w') : TZ w' p c := by
  rcases h with h | ⟨b, e, e1, a⟩
  · exact .inl h
  · exact .inr ⟨b, e, e1, rangeAt_below hb (World.block_lt_of_cell? w _ (a 0 _ rfl)) a⟩
theorem Tr.made (t : Tr) {w : World} {B : Nat} (h : w.rangeAt B 0 t.cells.toList) : w.rangeAt B 14 (tcells (0, 0)).toList := by
  intro j v hv
  match j, hv with
  | 0, hv => exact (by simpa using h 14 v hv)
  | 1, hv => exact (by simpa using h 15 v hv)
  | 2, hv => exact (by simpa using h 16 v hv)
  | j + 3, hv => simp [tcells] at hv
attribute [local go_sem ↓] load62S

set_option maxRecDepth 100000 in
set_option maxHeartbeats 1000000 in
theorem reads_any (lo hi : Nat) (t : Tr) (z : Zr) (f : Option (List ByteArray)) (ow le : Option ByteArray) (w : World) (hl : z.fl ≤ 1048576) (hof : t.of z) (hT : TC w lo hi t ⟨f, ⟨ow, t0 z.hx, t0 z.hn, le⟩⟩) (hZ : ZC w z f ow le) :
    Calls Try.prog 41 #[.agg t.cells, .agg z.cells] w fun e w' => e = .returned (.bool true) ∧ Below w.heap.size w w' := by
  have b0 := B3.start w t z (0, 0)
  obtain ⟨e1, e2, e3, e4, e5, e6, e7, e8, e9⟩ := hof
  obtain ⟨s1, s2, F⟩ := two_of hT.f hZ.f
  have q0 : t.cells[0]? = some (.string z.id) := by rw [← e1]; rfl
  have q1 : t.cells[1]? = some (.string z.tk) := by rw [← e2]; rfl
  have q2 : t.cells[2]? = some (.string z.cm) := by rw [← e3]; rfl
  have q3 : t.cells[3]? = some (.int .i64 z.st) := by rw [← e4]; rfl
  have q4 : t.cells[4]? = some (.string z.sm) := by rw [← e5]; rfl
  have q5 : t.cells[5]? = some (.slice t.fa z.fl t.fc) := by rw [← s2]; rfl
  have q6 : t.cells[6]? = some (.bool z.pc) := by rw [← e6]; rfl
  have q7 : t.cells[7]? = some (.bool z.rs) := by rw [← e7]; rfl
  have q8 : t.cells[8]? = some (.bool z.nf) := by rw [← e8]; rfl
  have q9 : t.cells[9]? = some (.int .i64 z.na) := by rw [← e9]; rfl
  have q10 : t.cells[10]? = some (.pointer t.n.ow) := rfl
  have q11 : t.cells[11]? = some (.pointer t.n.ex) := rfl
  have q12 : t.cells[12]? = some (.pointer t.n.nt) := rfl
  have q13 : t.cells[13]? = some (.pointer t.n.le) := rfl
  have y0 : z.cells[0]? = some (.string z.id) := rfl
  have y1 : z.cells[1]? = some (.string z.tk) := rfl
  have y2 : z.cells[2]? = some (.string z.cm) := rfl
  have y3 : z.cells[3]? = some (.int .i64 z.st) := rfl
  have y4 : z.cells[4]? = some (.string z.sm) := rfl
  have y5 : z.cells[5]? = some (.slice z.fa z.fl z.fc) := rfl
  have y6 : z.cells[6]? = some (.bool z.pc) := rfl
  have y7 : z.cells[7]? = some (.bool z.rs) := rfl
  have y8 : z.cells[8]? = some (.bool z.nf) := rfl
  have y9 : z.cells[9]? = some (.int .i64 z.na) := rfl
  have y10 : z.cells[10]? = some (.pointer z.ow) := rfl
  have y11 : z.cells[11]? = some (.pointer z.le) := rfl
  have y12 : z.cells[12]? = some (.bool z.hx) := rfl
  have y13 : z.cells[13]? = some (.bool z.hn) := rfl
  have hnl := fun w ao n c => Lib.run_eql_slice_nil (P := Try.prog) w 70 9 ao n c 0 0 Try.underlying70
  clear e1 e2 e3 e4 e5 e6 e7 e8 e9 s2
  have F0 := F.up b0.bel
  have O0 := hT.n.ow.ptr.grow b0.bel
  have O1 := hZ.ow.grow b0.bel
  have L0 := hT.n.le.ptr.grow b0.bel
  have L1 := hZ.le.grow b0.bel
  have E0 := (TZ.of hT.n.ex).up b0.bel
  have N0 := (TZ.of hT.n.nt).up b0.bel
  have U0 := b0.u
  have M0 := t.made b0.t
  have B0 : Hid _ := b0.bel
  simp only [tcells] at F0 O0 O1 L0 L1 B0
  clear b0 hT hZ F
  go_enter Try.func41, Try.ntmps41
  go_wp2_with fail
  go_loopw [6] (fun i wr => ∃ k n : Nat, k ≤ z.fl ∧ i = .int .i64 k ∧ (((w.alloc (.cells t.cells 99)).alloc (.cells z.cells 94)).alloc (.cells #[.int .u64 0, .int .i64 0, .pointer none] 62)).drewN n = wr) (fun i _ => z.fl - (intOf i).toNat)
  case atStart => exact ⟨0, 0, Nat.zero_le _, rfl, rfl⟩
  case round =>
    obtain ⟨k, n, hk, rfl, rfl⟩ := hrel
    by_cases hlt : k < z.fl
    · obtain ⟨g, h, p, s, f1, f2, d1, d2⟩ := F0 k hlt
      rw [f1] at q5
      rw [f2] at y5
      clear F0 O0 O1 L0 L1 E0 N0 U0 M0
      go_wp2
      go_quiet (fail)
      go_wp2
      go_roundw
      case rel => exact ⟨k + 1, n + nq, by omega, by go_num, by simp⟩
      case measure => simp [intOf]; omega
    · clear F0
      go_upto_region 15 with fail
      go_cut [115] from 100 to 115 (fun v wx => v = .bool false ∧ ∃ n, (((w.alloc (.cells t.cells 99)).alloc (.cells z.cells 94)).alloc (.cells #[.int .u64 0, .int .i64 0, .pointer none] 62)).drewN n = wx)
      case first => as_aux_lemma =>
        go_wp2_with (first
          | (go_at_call_of 53 (Value.pointer t.n.ow); refine (strSame_any _ _ ow 0 0 _ ?_ ?_).mono ?_; (first | exact O0.drewN | exact O0.drewN.drewN); (first | exact O1.drewN | exact O1.drewN.drewN); rintro e w' ⟨rfl, k1, rfl⟩)
          | (go_at_call_of 53 (Value.pointer t.n.le); refine (strSame_any _ _ le 0 0 _ ?_ ?_).mono ?_; (first | exact L0.drewN | exact L0.drewN.drewN | exact L0.drewN.drewN.drewN); (first | exact L1.drewN | exact L1.drewN.drewN | exact L1.drewN.drewN.drewN); rintro e w' ⟨rfl, k2, rfl⟩))
        all_goals go_meet
        all_goals exact ⟨rfl, _, by first | rfl | (simp only [World.drewN_drewN]; rfl)⟩
      case rest =>
      obtain ⟨rfl, n1, rfl⟩ := hcut
      clear O0 O1 L0 L1
      have hn62 := fun w u => neq62 w u
      have hq62 := fun w u => eql62 w u
      have lu : ∀ n, (loadS 62 (.pointer (some ⟨w.heap.size + 1 + 1, 0, none⟩))).run Try.prog ((((w.alloc (.cells t.cells 99)).alloc (.cells z.cells 94)).alloc (.cells #[.int .u64 0, .int .i64 0, .pointer none] 62)).drewN n) = .ok (.agg (tcells (0, 0))) ((((w.alloc (.cells t.cells 99)).alloc (.cells z.cells 94)).alloc (.cells #[.int .u64 0, .int .i64 0, .pointer none] 62)).drewN n) := fun n => load62V_at (rangeAt_drewN U0 n)
      have lm : ∀ n, (loadS 62 (.pointer (some ⟨w.heap.size, 14, none⟩))).run Try.prog ((((w.alloc (.cells t.cells 99)).alloc (.cells z.cells 94)).alloc (.cells #[.int .u64 0, .int .i64 0, .pointer none] 62)).drewN n) = .ok (.agg (tcells (0, 0))) ((((w.alloc (.cells t.cells 99)).alloc (.cells z.cells 94)).alloc (.cells #[.int .u64 0, .int .i64 0, .pointer none] 62)).drewN n) := fun n => load62V_at (rangeAt_drewN M0 n)
      have x1 : (!t.n.ex.isNone) = z.hx := by rcases E0 with ⟨e, e'⟩ | ⟨b, e, e', _⟩ <;> (rw [e, e']; rfl)
      have x2 : (!t.n.nt.isNone) = z.hn := by rcases N0 with ⟨e, e'⟩ | ⟨b, e, e', _⟩ <;> (rw [e, e']; rfl)
      go_upto_region 19 with fail
      go_cut [144] from 132 to 144 (fun v wx => v = .bool false ∧ ∃ n, (((w.alloc (.cells t.cells 99)).alloc (.cells z.cells 94)).alloc (.cells #[.int .u64 0, .int .i64 0, .pointer none] 62)).drewN n = wx)
      case first => as_aux_lemma =>
        clear x1 x2
        rcases E0 with ⟨e, e'⟩ | ⟨b, e, e', a⟩
        · rw [e] at q11
          go_quiet (fail)
          go_wp2
          go_meet
          exact ⟨rfl, n1 + nq, by first | rfl | simp only [World.drewN_drewN]⟩
        · rw [e] at q11
          have lx : ∀ n, (loadS 62 (.pointer (some ⟨b, 0, none⟩))).run Try.prog ((((w.alloc (.cells t.cells 99)).alloc (.cells z.cells 94)).alloc (.cells #[.int .u64 0, .int .i64 0, .pointer none] 62)).drewN n) = .ok (.agg (tcells (0, 0))) ((((w.alloc (.cells t.cells 99)).alloc (.cells z.cells 94)).alloc (.cells #[.int .u64 0, .int .i64 0, .pointer none] 62)).drewN n) := fun n => load62V_at (rangeAt_drewN a n)
          clear a
          go_quiet (fail)
          go_wp2
          go_meet
          exact ⟨rfl, n1 + nq, by first | rfl | simp only [World.drewN_drewN]⟩
      case rest =>
      obtain ⟨rfl, n2, rfl⟩ := hcut
      clear E0 x1 x2
      go_upto_region 21 with fail
      go_cut [157] from 145 to 157 (fun v wx => v = .bool false ∧ ∃ n, (((w.alloc (.cells t.cells 99)).alloc (.cells z.cells 94)).alloc (.cells #[.int .u64 0, .int .i64 0, .pointer none] 62)).drewN n = wx)
      case first => as_aux_lemma =>
        rcases N0 with ⟨e, e'⟩ | ⟨b, e, e', a⟩
        · rw [e] at q12
          go_quiet (fail)
          go_wp2
          go_meet
          exact ⟨rfl, n2 + nq, by first | rfl | simp only [World.drewN_drewN]⟩
        · rw [e] at q12
          have lx : ∀ n, (loadS 62 (.pointer (some ⟨b, 0, none⟩))).run Try.prog ((((w.alloc (.cells t.cells 99)).alloc (.cells z.cells 94)).alloc (.cells #[.int .u64 0, .int .i64 0, .pointer none] 62)).drewN n) = .ok (.agg (tcells (0, 0))) ((((w.alloc (.cells t.cells 99)).alloc (.cells z.cells 94)).alloc (.cells #[.int .u64 0, .int .i64 0, .pointer none] 62)).drewN n) := fun n => load62V_at (rangeAt_drewN a n)
          clear a
          go_quiet (fail)
          go_wp2
          go_meet
          exact ⟨rfl, n2 + nq, by first | rfl | simp only [World.drewN_drewN]⟩
      case rest =>
      obtain ⟨rfl, n3, rfl⟩ := hcut
      go_wp2
      go_ret
      exact ⟨rfl, below_drewN B0.out _⟩
end Go.Proofs.Qxb6614903a
