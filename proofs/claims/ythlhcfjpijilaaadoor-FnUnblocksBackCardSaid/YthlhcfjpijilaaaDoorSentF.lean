/- What the rows' lists of four give the walks: the sentinels io.EOF and io.ErrUnexpectedEOF, apart. -/
import Derived.Test.YthlhcfjpijilaaaDoorSentL
namespace Go.Proofs.YthlhcfjpijilaaaDoor
open Go Go.ChangeShapes Go.WideShapes Go.ChangeAt Go.RowKit

set_option maxRecDepth 100000 in
theorem sent_of4 {W : World} (h : laidMetH Tryd.prog [("io.ErrShortBuffer", Rows.laid_io_ErrShortBuffer), ("io.EOF", Rows.laid_io_EOF), ("io.ErrUnexpectedEOF", Rows.laid_io_ErrUnexpectedEOF), ("loop.example/pub-g03427/pub/gif.errTooMuch", Rows.laid_loop_example_pub_g03427_pub_gif_errTooMuch)] W) : ∃ a1 a2, Sent W.heap.size a1 a2 W := by
  rw [MakeChecks.laidMetH_plain _ _ _ (by kernel_rfl)] at h
  obtain ⟨ps, ⟨g0, t0, cs0, f0, p0, q0, hg0, ht0, hv0, hd0, ⟨g1, t1, cs1, f1, p1, q1, hg1, ht1, hv1, hd1, ⟨g2, t2, cs2, f2, p2, q2, hg2, ht2, hv2, hd2, ⟨g3, t3, cs3, f3, p3, q3, hg3, ht3, hv3, hd3, e4, e3⟩, e2⟩, e1⟩, e0⟩, hnd, hrows⟩ := h
  have i0 : g0 = 4 := Option.some.inj (hg0.symm.trans (show Tryd.prog.globalNamed "io.ErrShortBuffer" = some 4 by kernel_rfl))
  have i1 : g1 = 1 := Option.some.inj (hg1.symm.trans (show Tryd.prog.globalNamed "io.EOF" = some 1 by kernel_rfl))
  have i2 : g2 = 2 := Option.some.inj (hg2.symm.trans (show Tryd.prog.globalNamed "io.ErrUnexpectedEOF" = some 2 by kernel_rfl))
  subst i0 i1 i2
  subst e4
  subst e3
  subst e2 e1 e0
  have hm : ∀ (g k : Nat), 0 < k → MemPlace.cell g 0 ∈ MemPlace.row ⟨g, 0, none⟩ k := fun g k hk => by
    simp only [MemPlace.row, List.mem_map, List.mem_range]
    exact ⟨0, hk, rfl⟩
  obtain ⟨a0, c0, r0, s0⟩ := err_laid (by kernel_rfl) (by kernel_rfl) hg0 ht0 hv0 hd0 (fun hp u v hc => (hrows _ 0 (by simp only [List.mem_append]; exact Or.inl (Or.inl (hm _ _ hp)))).2 u v hc)
  obtain ⟨a1, c1, r1, s1⟩ := err_laid (by kernel_rfl) (by kernel_rfl) hg1 ht1 hv1 hd1 (fun hp u v hc => (hrows _ 0 (by simp only [List.mem_append]; exact Or.inr (Or.inl (Or.inl (hm _ _ hp))))).2 u v hc)
  obtain ⟨a2, c2, r2, s2⟩ := err_laid (by kernel_rfl) (by kernel_rfl) hg2 ht2 hv2 hd2 (fun hp u v hc => (hrows _ 0 (by simp only [List.mem_append]; exact Or.inr (Or.inr (Or.inl (Or.inl (hm _ _ hp)))))).2 u v hc)
  subst r0 r1 r2
  have m1 : ∀ a : Addr, MemPlace.cell a.block a.off ∈ MemPlace.row a 1 := fun a => by simp [MemPlace.row]
  have b1 := (hrows a1.block a1.off (by simp only [List.mem_append]; exact Or.inr (Or.inl (Or.inr (m1 a1))))).1
  have b2 := (hrows a2.block a2.off (by simp only [List.mem_append]; exact Or.inr (Or.inr (Or.inl (Or.inr (m1 a2)))))).1
  have hne : a1 ≠ a2 := by
    rintro rfl
    have h1 := (List.nodup_append.1 hnd).2.1
    have h2 := (List.nodup_append.1 h1).2.2 (MemPlace.cell a1.block a1.off) (by simp only [List.mem_append]; exact Or.inr (m1 a1)) (MemPlace.cell a1.block a1.off) (by simp only [List.mem_append]; exact Or.inl (Or.inr (m1 a1)))
    exact h2 rfl
  have hlt : ∀ b : Nat, (∃ c t, W.heap[b]? = some (.cells c t (0, 0))) → b < W.heap.size := fun b ⟨c, t, e⟩ => (Array.getElem?_eq_some_iff.1 e).1
  exact ⟨a1, a2, c1, c2, b1, b2, hlt _ b1, hlt _ b2, World.block_lt_of_cell? _ _ c0, hne⟩
end Go.Proofs.YthlhcfjpijilaaaDoor
