import Derived.Test.Qxb6614657aPlain
namespace Go.Proofs.Qxb6614657a
open Go.RowKit
attribute [local go_sem ↓] load73S store73S

set_option maxRecDepth 100000 in
set_option maxHeartbeats 1000000 in
theorem len_any (lo n Bp Bw BM : Nat) (hv ev : Value) (me : Nat) (hs : List ByteArray) (L : List En) (M : Hold) (w : World) (h : RepC w lo n Bp Bw BM hv ev me hs L M) :
    Calls Try.prog 26 #[.pointer (some ⟨Bp, 0, none⟩)] w fun e w' => e = .returned (.int .i64 L.length) ∧ w' = w := by
  obtain ⟨p0, p1, p2, p3, p4⟩ := h.pcell
  obtain ⟨a, c, rfl⟩ := row_shape h.row
  clear h
  go_enter Try.func26, Try.ntmps26
  go_wp2
  go_ret
  exact ⟨rfl, rfl⟩

set_option maxRecDepth 100000 in
set_option maxHeartbeats 1000000 in
theorem vector_any (lo n Bp Bw BM : Nat) (hv ev : Value) (me : Nat) (hs : List ByteArray) (L : List En) (M : Hold) (w : World) (h : RepC w lo n Bp Bw BM hv ev me hs L M) :
    Calls Try.prog 27 #[.pointer (some ⟨Bp, 0, none⟩)] w fun e w' => e = .returned (.map (some BM)) ∧ w' = w := by
  obtain ⟨p0, p1, p2, p3, p4⟩ := h.pcell
  clear h
  go_enter Try.func27, Try.ntmps27
  go_wp2
  go_ret
  exact ⟨rfl, rfl⟩

theorem results_four {fn : Func} {t u v x : Tmp} (h : fn.results = #[.tmp t, .tmp u, .tmp v, .tmp x]) (tmps : Array Value) (P : Program) (w : World) :
    (results fn tmps).run P w = .ok (.tuple #[tmps.getD t undef, tmps.getD u undef, tmps.getD v undef, tmps.getD x undef]) w := by
  simp [results, h]
/-- What an entry reads as. -/
def EntQ (e : En) (w w' : World) (r : Ending) : Prop := r = .returned (.tuple #[.int .i64 e.h, .int .u64 e.c, .int .i64 e.f, e.v]) ∧ Below w.heap.size w w'
set_option maxRecDepth 100000 in
set_option maxHeartbeats 1000000 in
theorem entry28_any (lo n Bp Bw BM : Nat) (hv ev : Value) (me : Nat) (hs : List ByteArray) (L : List En) (M : Hold) (i : Nat) (w : World) (h : RepC w lo n Bp Bw BM hv ev me hs L M) (hi : i < L.length) :
    Calls Try.prog 28 #[.pointer (some ⟨Bp, 0, none⟩), .int .i64 i] w fun e w' => EntQ L[i] w w' e := by
  obtain ⟨p0, p1, p2, p3, p4⟩ := h.pcell
  obtain ⟨G, cap, hev⟩ : ∃ G cap, ev = .slice (some ⟨G, 0, none⟩) L.length cap := by
    rcases h.row.2 with ⟨e, _⟩ | ⟨g, cap, cur, e, _⟩
    · omega
    · exact ⟨_, _, e⟩
  subst hev
  have hld := load73V_at (w := w) (ents_range h.row i hi)
  have hpl := h.plain _ (List.getElem_mem hi)
  clear h
  obtain ⟨e, he⟩ : ∃ e, e = L[i] := ⟨_, rfl⟩
  rw [← he] at hld hpl ⊢
  have hsv := putE_run w ⟨e.h, e.c, e.f, e.v, []⟩ hpl
  have hat := putE_at w ⟨e.h, e.c, e.f, e.v, []⟩
  have hbl := putE_below w ⟨e.h, e.c, e.f, e.v, []⟩
  have y0 := hat 0 _ rfl
  have y1 := hat 1 _ rfl
  have y2 := hat 2 _ rfl
  have y3 := hat 3 _ rfl
  have HB : Hid _ := hbl
  have hec : SE.cells ⟨e.h, e.c, e.f, e.v, []⟩ = e.cells := rfl
  rw [hec] at hsv
  simp only [Nat.zero_add] at y0 y1 y2 y3
  clear hat hbl he hpl hec
  generalize putE w ⟨e.h, e.c, e.f, e.v, []⟩ = w2 at *
  go_enter Try.func28, Try.ntmps28
  go_wp2
  go_quiet (fail)
  go_wp2
  (try simp only [Exit.inBlock, Exit.then])
  exact bodyPost_ret (results_four rfl _ _ _) rfl ⟨rfl, below_drewN HB.out _⟩
end Go.Proofs.Qxb6614657a
