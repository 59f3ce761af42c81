/- A slice of colors that came in: its colors as a list. -/
import Derived.Test.YthlhcfjpijilaaaDoorRows
import Derived.Test.YthlhcfjpijilaaaDoorShade
import Derived.Deep.Slices
import Derived.Lib.SmallJoins
import Derived.WalkKit
import Derived.ProofKit
import Derived.OpenShut
namespace Go.Proofs.YthlhcfjpijilaaaDoor
open Go Go.ChangeShapes Go.WideShapes Go.ChangeAt Go.RowKit Go.Lib Go.Deep

theorem u8_of {n : Int} (h : (Lit.int .u8 n).wf = true) : ∃ x : UInt8, Value.int .u8 n = u8 x := by
  have := bounds_u8 h
  refine ⟨UInt8.ofNat n.toNat, ?_⟩
  unfold u8
  have e : (UInt8.ofNat n.toNat).toNat = n.toNat := by
    rw [UInt8.toNat_ofNat']
    exact Nat.mod_eq_of_lt (by omega)
  rw [e]
  congr 1
  omega

instance : Inhabited Sh := ⟨⟨0, 0, 0, 0⟩⟩

set_option maxRecDepth 100000 in
theorem open_shades {H : Type} {enc : TypeId × Value → H} {W : World} {a : Option Addr} {len cap : Nat} {d : DataW H} {p : List MemPlace}
    (h : DataW.Trod enc Tryd.prog W 0 (fun _ => true) true 27 (.slice a len cap) d p) :
    ∃ l : List Sh, l.length = len ∧ len ≤ cap ∧ Reads W W.heap.size a (shCells l) := by
  obtain ⟨fuel, hf⟩ := h
  rcases open_slice Tryd.underlying27 hf with ⟨hcs, _⟩ | ⟨x, ln, c, m, n, D, Pl, hcs, _, hl, _, hm, _, hx⟩
  · simp [Value.cells] at hcs
    obtain ⟨rfl, rfl, rfl⟩ := hcs
    exact ⟨[], rfl, Nat.le_refl _, Reads.nil_⟩
  simp [Value.cells] at hcs
  obtain ⟨rfl, rfl, rfl⟩ := hcs
  have hsz : Tryd.prog.cellsOf 48 = 4 := by kernel_rfl
  have hsz8 : Tryd.prog.cellsOf 5 = 1 := by kernel_rfl
  rw [hsz] at hx
  have each : ∀ i, i < len → ∃ s : Sh, ∀ k, k < 4 → W.cell? (x.add (i * 4 + k)) = s.cells[k]? := by
    intro i hi
    obtain ⟨cs, hc, ht⟩ := hx i (by rw [hm]; simp; omega)
    obtain ⟨y0, y1, y2, y3, n', _, hlen, h0, h1, h2, h3⟩ := Go.Joins.trod_struct4 Tryd.underlying48 ht
    rw [hsz] at hlen
    obtain ⟨hlt, hl4, hcell⟩ := World.cells?_some hc
    match cs, hlen with
    | [v0, v1, v2, v3], _ =>
      simp [hsz8] at h0 h1 h2 h3
      obtain ⟨n0, e0, -, w0⟩ := DataW.trod_int Tryd.underlying5 h0
      obtain ⟨n1, e1, -, w1⟩ := DataW.trod_int Tryd.underlying5 h1
      obtain ⟨n2, e2, -, w2⟩ := DataW.trod_int Tryd.underlying5 h2
      obtain ⟨n3, e3, -, w3⟩ := DataW.trod_int Tryd.underlying5 h3
      simp only [List.cons.injEq, and_true] at e0 e1 e2 e3
      obtain ⟨s0, q0⟩ := u8_of w0
      obtain ⟨s1, q1⟩ := u8_of w1
      obtain ⟨s2, q2⟩ := u8_of w2
      obtain ⟨s3, q3⟩ := u8_of w3
      refine ⟨⟨s0, s1, s2, s3⟩, fun k hk => ?_⟩
      have := hcell k (by omega)
      rw [add_add] at this
      rw [this]
      subst e0 e1 e2 e3
      rw [q0, q1, q2, q3]
      rfl
  obtain ⟨f, hf'⟩ := choose_lt each
  refine ⟨(List.range len).map f, by simp, hl, ?_⟩
  intro hp
  have h0 : 0 < len := by rw [shCells_length] at hp; simp at hp; exact hp
  have hc0 := hf' 0 h0 0 (by omega)
  have hspot : x.spot = none := by simpa [Addr.add] using World.cell?_spot hc0
  obtain ⟨b, off, sp⟩ := x
  subst hspot
  have hlt := World.block_lt_of_cell? _ _ hc0
  rw [add_lit] at hlt
  refine ⟨b, off, rfl, hlt, fun j u hu => ?_⟩
  have hj : j < 4 * len := by
    have := (List.getElem?_eq_some_iff.1 hu).1
    rw [shCells_length] at this
    simpa using this
  have hji : j / 4 < len := by omega
  have hjk : j % 4 < 4 := by omega
  have hje : j / 4 * 4 + j % 4 = j := by omega
  have key := hf' (j / 4) hji (j % 4) hjk
  rw [hje, add_lit] at key
  rw [key]
  have := shCells_at ((List.range len).map f) (j / 4) (j % 4) (by simpa using hji) hjk
  rw [hje, hu] at this
  rw [this]
  simp
end Go.Proofs.YthlhcfjpijilaaaDoor
