/- What the row's list gives the walks: the cells of the variable of the four passes. -/
import Derived.Test.YthlhcfjpijilaaaDoorUnlace
import Derived.LaidMore
import Derived.LaidLaws
import Derived.MakeChecks
import Derived.Deep.SlicePairs
namespace Go.Proofs.YthlhcfjpijilaaaDoor
open Go Go.ChangeShapes Go.WideShapes Go.ChangeAt Go.RowKit Go.Deep

theorem gLace : Tryd.prog.globalNamed "loop.example/pub-g03427/pub/gif.interlacing" = some 0 := by kernel_rfl
theorem tLace : (Tryd.prog.globals[0]?).map (·.type) = some 96 := by kernel_rfl

theorem int_back {H : Type} {enc : TypeId × Value → H} {W : World} {sp : Nat → Bool} {held : Bool} {n : Nat} {v : Value} {d : DataW H} {p : List MemPlace} {k : Int}
    (h : DataW.trod enc Tryd.prog W 0 sp held n 3 [v] = some (d, p)) (hd : d = .lit (.int .i64 k)) : v = .int .i64 k := by
  obtain ⟨m, e1, e2, _⟩ := DataW.trod_int Tryd.underlying3 h
  simp only [Prod.mk.injEq] at e2
  rw [hd] at e2
  have h2 := e2.1
  simp only [DataW.lit.injEq, Lit.int.injEq, true_and] at h2
  subst h2
  simpa using e1

theorem ptab_of_laid {W : World} (h : laidMetH Tryd.prog [("loop.example/pub-g03427/pub/gif.interlacing", Rows.laid_loop_example_pub_g03427_pub_gif_interlacing)] W) : ∃ tb to, PTab W tb to := by
  rw [MakeChecks.laidMetH_plain _ _ _ (by kernel_rfl)] at h
  obtain ⟨ps, ⟨g0, t0, cs0, f0, p0, q0, hg0, ht0, hv0, hd0, _⟩, _⟩ := h
  obtain rfl := Option.some.inj (gLace.symm.trans hg0)
  obtain rfl := Option.some.inj (tLace.symm.trans ht0)
  rcases open_slice_pairs Tryd.underlying96 Tryd.underlying98 (by kernel_rfl) rfl rfl (by kernel_rfl) (by kernel_rfl) hd0 with ⟨_, hx⟩ | ⟨a, len, cap, m, n, V0, V1, D0, D1, P0, P1, hcs, _, hlc, _, hm, hx, hcell⟩
  · simp [Rows.laid_loop_example_pub_g03427_pub_gif_interlacing] at hx
  · simp only [Rows.laid_loop_example_pub_g03427_pub_gif_interlacing, Prod.mk.injEq, DataW.slice.injEq] at hx
    obtain ⟨⟨hl, hr⟩, _⟩ := hx
    have hlen : len = 4 := by have := congrArg List.length hl; simpa using this.symm
    subst hlen
    have hm4 : m = 4 := by have := congrArg List.length hr; simp at this; simp only [if_true] at hm; omega
    simp only [if_true] at hm
    have hcap : cap = 4 := by omega
    subst hcap
    clear hm hr hlc
    have e0 := hcell 0 (by omega)
    have e1 := hcell 1 (by omega)
    have e2 := hcell 2 (by omega)
    have e3 := hcell 3 (by omega)
    simp only [List.range_succ, List.range_zero, List.nil_append, List.cons_append, List.map_cons, List.map_nil, List.cons.injEq, DataW.agg.injEq, and_true] at hl
    obtain ⟨⟨a0, b0⟩, ⟨a1, b1⟩, ⟨a2, b2⟩, a3, b3⟩ := hl
    have spot : a.spot = none := by
      have h := e0.1
      rw [int_back e0.2.2.1 a0.symm] at h
      simpa [Addr.add] using World.cell?_spot h
    obtain ⟨tb, to, sp⟩ := a
    subst spot
    refine ⟨tb, to, ?_, ?_⟩
    · have h := World.var?_cell hg0 hv0 0
      rw [Array.eq_one_of_toList hcs] at h
      simpa using h
    · have k0 := e0.1; rw [int_back e0.2.2.1 a0.symm, add_lit] at k0
      have l0 := e0.2.1; rw [int_back e0.2.2.2 b0.symm, add_lit] at l0
      have k1 := e1.1; rw [int_back e1.2.2.1 a1.symm, add_lit] at k1
      have l1 := e1.2.1; rw [int_back e1.2.2.2 b1.symm, add_lit] at l1
      have k2 := e2.1; rw [int_back e2.2.2.1 a2.symm, add_lit] at k2
      have l2 := e2.2.1; rw [int_back e2.2.2.2 b2.symm, add_lit] at l2
      have k3 := e3.1; rw [int_back e3.2.2.1 a3.symm, add_lit] at k3
      have l3 := e3.2.1; rw [int_back e3.2.2.2 b3.symm, add_lit] at l3
      intro j u hj
      match j, hj with
      | 0, hj => cases hj; exact k0
      | 1, hj => cases hj; exact l0
      | 2, hj => cases hj; exact k1
      | 3, hj => cases hj; exact l1
      | 4, hj => cases hj; exact k2
      | 5, hj => cases hj; exact l2
      | 6, hj => cases hj; exact k3
      | 7, hj => cases hj; exact l3
      | j + 8, hj => simp [tabCells] at hj
end Go.Proofs.YthlhcfjpijilaaaDoor
