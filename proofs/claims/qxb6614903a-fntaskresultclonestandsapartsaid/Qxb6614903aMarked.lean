import Derived.Test.Qxb6614903aScrib2
import Derived.Laws.StructEq
namespace Go.Proofs.Qxb6614903a
open Go.RowKit
attribute [local go_sem ↓] Go.wp_at_zero Go.wp_at_succ

/-- The task result has the argument's shape. -/
structure Shape (t : Tr) (z : Zr) : Prop where
  fa : t.fa.isNone = z.fa.isNone
  fl : t.fl = z.fl
  ow : t.n.ow.isNone = z.ow.isNone
  le : t.n.le.isNone = z.le.isNone
  ex : t.n.ex.isSome = z.hx
  nt : t.n.nt.isSome = z.hn

/-- The three boxes. -/
structure B3 (w0 w : World) (t : Tr) (z : Zr) (u : Int × Int) : Prop where
  bel : Below w0.heap.size w0 w
  t : w.rangeAt w0.heap.size 0 t.cells.toList
  z : w.rangeAt (w0.heap.size + 1) 0 z.cells.toList
  u : w.rangeAt (w0.heap.size + 2) 0 (tcells u).toList
theorem B3.start (w : World) (t : Tr) (z : Zr) (u : Int × Int) : B3 w (((w.alloc (.cells t.cells 99)).alloc (.cells z.cells 94)).alloc (.cells (tcells u) 62)) t z u := by
  have b1 := (Below.refl (w.heap.size + 1) (w.alloc (.cells t.cells 99))).alloc (by simp) (.cells z.cells 94)
  have b2 := b1.alloc (by simp) (.cells (tcells u) 62)
  have b3 := (Below.refl (w.heap.size + 2) ((w.alloc (.cells t.cells 99)).alloc (.cells z.cells 94))).alloc (by simp) (.cells (tcells u) 62)
  refine ⟨(((Below.refl w.heap.size w).alloc (Nat.le_refl _) _).alloc (by simp) _).alloc (by simp; omega) _, rangeAt_below b2 (by omega) (rangeAt_new w t.cells 99), ?_, ?_⟩
  · have := rangeAt_new (w.alloc (.cells t.cells 99)) z.cells 94
    exact rangeAt_below b3 (by omega) (by simpa using this)
  · have := rangeAt_new ((w.alloc (.cells t.cells 99)).alloc (.cells z.cells 94)) (tcells u) 62
    simpa using this

theorem MS.up {w w' : World} {lo hi : Nat} {p : Option Addr} {m : Bool} {mark : ByteArray} (h : MS w lo hi p m mark) (hb : Below w.heap.size w w') : MS w' lo hi p m mark := by
  rcases h with h | ⟨b, s, e, a1, a2, a4, a5, a6⟩
  · exact .inl h
  · have hl : b < w.heap.size := World.block_lt_of_cell? w _ a4
    exact .inr ⟨b, s, e, a1, a2, by rw [hb.cell (p := ⟨b, 0, none⟩) hl]; exact a4, by rw [hb.frozen (p := ⟨b, 0, none⟩) hl]; exact a5, a6⟩
theorem MT.up {w w' : World} {lo hi : Nat} {p : Option Addr} {m : Bool} {t : Int × Int} (h : MT w lo hi p m t) (hb : Below w.heap.size w w') : MT w' lo hi p m t := by
  rcases h with h | ⟨b, u, e, a1, a2, a3, a4, a5⟩
  · exact .inl h
  · have hl : b < w.heap.size := World.block_lt_of_cell? w _ (a3 0 _ rfl)
    exact .inr ⟨b, u, e, a1, a2, rangeAt_below hb hl a3, there_below hb hl a4, a5⟩
theorem MF.up {w w' : World} {lo hi : Nat} {fa : Option Addr} {fl k : Nat} {mark : ByteArray} (h : MF w lo hi fa fl k mark) (hb : Below w.heap.size w w') : MF w' lo hi fa fl k mark := by
  rcases h with h | ⟨g, e, a1, a2, hr⟩
  · exact .inl h
  · refine .inr ⟨g, e, a1, a2, fun i hi => ?_⟩
    obtain ⟨s, a4, a5, a6⟩ := hr i hi
    have hl : g < w.heap.size := World.block_lt_of_cell? w _ a4
    exact ⟨s, by rw [hb.cell (p := ⟨g, i, none⟩) hl]; exact a4, by rw [hb.frozen (p := ⟨g, i, none⟩) hl]; exact a5, a6⟩

theorem pnil60 (w : World) (d : Nat) : (Op.equalIn (d + 1) 60 (.pointer none) (.pointer none)).run Try.prog w = .ok true w :=
  run_equalIn_pointer_nil (P := Try.prog) w d 60 none (by kernel_rfl)
theorem neq62 (w : World) (u : Int × Int) : (binOp .neq 62 (.agg (tcells u)) (.agg (tcells u))).run Try.prog w = .ok (.bool false) w := by
  unfold tcells
  simp [go_sem, Try.underlying62, pnil60 w 9998]
theorem eql62 (w : World) (u : Int × Int) : (binOp .eql 62 (.agg (tcells u)) (.agg (tcells u))).run Try.prog w = .ok (.bool true) w := by
  unfold tcells
  simp [go_sem, Try.underlying62, pnil60 w 9998]
theorem rangeAt_drewN {w : World} {g o : Nat} {cs : List Value} (h : w.rangeAt g o cs) (n : Nat) : (w.drewN n).rangeAt g o cs := fun j v hv => by
  have h0 := h j v hv
  rw [(below_drewN (Below.refl w.heap.size w) n).cell (p := ⟨g, o + j, none⟩) (World.block_lt_of_cell? w _ h0)]; exact h0
attribute [local go_sem ↓] load62S

set_option maxRecDepth 100000 in
set_option maxHeartbeats 1000000 in
theorem scribbled_any (lo hi : Nat) (t : Tr) (z : Zr) (u : Int × Int) (mark : ByteArray) (w : World) (hl : t.fl ≤ 1048576) (hs : Shape t z) (hf : MF w lo hi t.fa t.fl t.fl mark) (how : MS w lo hi t.n.ow true mark) (hle : MS w lo hi t.n.le true mark)
    (hex : MT w lo hi t.n.ex true u) (hnt : MT w lo hi t.n.nt true u) :
    Calls Try.prog 42 #[.agg t.cells, .agg z.cells, .string mark, .agg (tcells u)] w fun e w' => e = .returned (.bool true) ∧ Below w.heap.size w w' := by
  have b0 := B3.start w t z u
  have q5 : t.cells[5]? = some (.slice t.fa t.fl t.fc) := rfl
  have q10 : t.cells[10]? = some (.pointer t.n.ow) := rfl
  have q11 : t.cells[11]? = some (.pointer t.n.ex) := rfl
  have q12 : t.cells[12]? = some (.pointer t.n.nt) := rfl
  have q13 : t.cells[13]? = some (.pointer t.n.le) := rfl
  have y5 : z.cells[5]? = some (.slice z.fa z.fl z.fc) := rfl
  have y10 : z.cells[10]? = some (.pointer z.ow) := rfl
  have y11 : z.cells[11]? = some (.pointer z.le) := rfl
  have y12 : z.cells[12]? = some (.bool z.hx) := rfl
  have y13 : z.cells[13]? = some (.bool z.hn) := rfl
  have hnl := fun w ao n c => Lib.run_eql_slice_nil (P := Try.prog) w 70 9 ao n c 0 0 Try.underlying70
  obtain ⟨s1, s2, s3, s4, s5, s6⟩ := hs
  have S2 : Hid (t.fl = z.fl) := s2
  have s2' : z.fl = t.fl := s2.symm
  clear s2
  go_enter Try.func42, Try.ntmps42
  go_wp2_with fail
  have F0 := hf.up b0.bel
  have O0 := how.up b0.bel
  have L0 := hle.up b0.bel
  have E0 := hex.up b0.bel
  have N0 := hnt.up b0.bel
  have U0 := b0.u
  have B0 : Hid _ := b0.bel
  clear hf how hle hex hnt b0
  generalize hW : (((w.alloc (.cells t.cells 99)).alloc (.cells z.cells 94)).alloc (.cells (tcells u) 62)) = W at F0 O0 L0 E0 N0 U0
  subst hW
  go_loopw [9] (fun i wr => ∃ k : Nat, k ≤ t.fl ∧ i = .int .i64 k ∧ (((w.alloc (.cells t.cells 99)).alloc (.cells z.cells 94)).alloc (.cells (tcells u) 62)) = wr) (fun i _ => t.fl - (intOf i).toNat)
  case atStart => exact ⟨0, Nat.zero_le _, rfl, rfl⟩
  case round =>
    obtain ⟨k, hk, rfl, rfl⟩ := hrel
    by_cases hlt : k < t.fl
    · rcases F0 with h0 | ⟨g, e, a1, a2, hr⟩
      · omega
      · obtain ⟨s, d1, d2, d3⟩ := hr k hlt
        rw [d3 hlt] at d1
        rw [e] at q5
        clear hr
        go_wp2
        go_roundw
        case rel => exact ⟨k + 1, by omega, by go_num, by first | trivial | rfl⟩
        case measure => simp [intOf]; omega
    · clear F0
      go_upto_region 8 with fail
      go_cut [62] from 40 to 62 (fun v wx => v = .bool false ∧ (((w.alloc (.cells t.cells 99)).alloc (.cells z.cells 94)).alloc (.cells (tcells u) 62)) = wx)
      case first => as_aux_lemma =>
        rcases O0 with e | ⟨bb, s, e, a1, a2, d1, d2, d3⟩
        · have hz : z.ow = none := by rw [e] at s3; simpa using s3.symm
          rw [e] at q10
          rw [hz] at y10
          clear s3
          go_wp2
          go_meet
          exact ⟨rfl, rfl⟩
        · obtain ⟨za, hz⟩ : ∃ za, z.ow = some za := by rw [e] at s3; exact Option.isSome_iff_exists.1 (by simpa using s3.symm)
          rw [d3 rfl] at d1
          rw [e] at q10
          rw [hz] at y10
          clear s3
          go_wp2
          go_meet
          exact ⟨rfl, rfl⟩
      case rest =>
      obtain ⟨rfl, rfl⟩ := hcut
      clear O0 s3 q10 y10
      go_upto_region 10 with fail
      go_cut [85] from 63 to 85 (fun v wx => v = .bool false ∧ (((w.alloc (.cells t.cells 99)).alloc (.cells z.cells 94)).alloc (.cells (tcells u) 62)) = wx)
      case first => as_aux_lemma =>
        rcases L0 with e | ⟨bb, s, e, a1, a2, d1, d2, d3⟩
        · have hz : z.le = none := by rw [e] at s4; simpa using s4.symm
          rw [e] at q13
          rw [hz] at y11
          clear s4
          go_wp2
          go_meet
          exact ⟨rfl, rfl⟩
        · obtain ⟨za, hz⟩ : ∃ za, z.le = some za := by rw [e] at s4; exact Option.isSome_iff_exists.1 (by simpa using s4.symm)
          rw [d3 rfl] at d1
          rw [e] at q13
          rw [hz] at y11
          clear s4
          go_wp2
          go_meet
          exact ⟨rfl, rfl⟩
      case rest =>
      obtain ⟨rfl, rfl⟩ := hcut
      clear L0 s4 q13 y11
      have hn62 := fun w u => neq62 w u
      have lu := fun n => load62V_at (rangeAt_drewN U0 n)
      go_upto_region 12 with fail
      go_cut [107] from 86 to 107 (fun v wx => v = .bool false ∧ ∃ n, (((w.alloc (.cells t.cells 99)).alloc (.cells z.cells 94)).alloc (.cells (tcells u) 62)).drewN n = wx)
      case first => as_aux_lemma =>
        rcases E0 with e | ⟨bb, s, e, a1, a2, d1, d2, d3⟩
        · have hz : z.hx = false := by rw [e] at s5; simpa using s5.symm
          rw [e] at q11
          rw [hz] at y12
          clear s5
          go_quiet (fail)
          go_wp2
          go_meet
          exact ⟨rfl, _, rfl⟩
        · have hz : z.hx = true := by rw [e] at s5; simpa using s5.symm
          rw [d3 rfl] at d1
          have lx := fun n => load62V_at (rangeAt_drewN d1 n)
          rw [e] at q11
          rw [hz] at y12
          clear s5
          go_quiet (fail)
          go_wp2
          go_meet
          exact ⟨rfl, _, rfl⟩
      case rest =>
      obtain ⟨rfl, n1, rfl⟩ := hcut
      clear E0 s5 q11 y12
      go_upto_region 14 with fail
      go_cut [129] from 108 to 129 (fun v wx => v = .bool false ∧ ∃ n, (((w.alloc (.cells t.cells 99)).alloc (.cells z.cells 94)).alloc (.cells (tcells u) 62)).drewN n = wx)
      case first => as_aux_lemma =>
        rcases N0 with e | ⟨bb, s, e, a1, a2, d1, d2, d3⟩
        · have hz : z.hn = false := by rw [e] at s6; simpa using s6.symm
          rw [e] at q12
          rw [hz] at y13
          clear s6
          go_quiet (fail)
          go_wp2
          go_meet
          exact ⟨rfl, n1 + nq, by first | rfl | simp [World.drewN_drewN]⟩
        · have hz : z.hn = true := by rw [e] at s6; simpa using s6.symm
          rw [d3 rfl] at d1
          have lx := fun n => load62V_at (rangeAt_drewN d1 n)
          rw [e] at q12
          rw [hz] at y13
          clear s6
          go_quiet (fail)
          go_wp2
          go_meet
          exact ⟨rfl, n1 + nq, by first | rfl | simp [World.drewN_drewN]⟩
      case rest =>
      obtain ⟨rfl, n2, rfl⟩ := hcut
      clear N0 s6 q12 y13
      go_wp2
      go_ret
      exact ⟨rfl, below_drewN B0.out _⟩
end Go.Proofs.Qxb6614903a
