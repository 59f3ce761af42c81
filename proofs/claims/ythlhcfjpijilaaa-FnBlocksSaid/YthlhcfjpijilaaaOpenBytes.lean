/- A slice of bytes that came in: its bytes as a list. -/
import Derived.Test.YthlhcfjpijilaaaRows
import Derived.Test.YthlhcfjpijilaaaMem
import Derived.WalkKit
import Derived.ProofKit
import Derived.OpenShut
namespace Go.Proofs.Ythlhcfjpijilaaa
open Go Go.ChangeShapes Go.WideShapes Go.ChangeAt Go.RowKit Go.Lib

theorem getD_of {zs : List Int} {i : Nat} {u : Value} (h : (zs.map (Value.int .u8))[i]? = some u) : i < zs.length ∧ u = .int .u8 (zs.getD i 0) := by
  rw [List.getElem?_map] at h
  cases hz : zs[i]? with
  | none => rw [hz] at h; cases h
  | some z =>
    rw [hz] at h
    simp only [Option.map_some, Option.some.injEq] at h
    exact ⟨(List.getElem?_eq_some_iff.1 hz).1, by rw [← h, List.getD_eq_getElem?_getD, hz]; rfl⟩

theorem open_bytes {H : Type} {enc : TypeId × Value → H} {W : World} {a : Option Addr} {len cap : Nat} {d : DataW H} {p : List MemPlace}
    (h : DataW.Trod enc Try.prog W 0 (fun _ => true) true 25 (.slice a len cap) d p) :
    ∃ l : List UInt8, l.length = len ∧ len ≤ cap ∧ Reads W W.heap.size a (byteCells l) := by
  obtain ⟨fuel, hf⟩ := h
  rcases open_ints Try.underlying25 Try.underlying5 (by kernel_rfl) hf with ⟨hcs, _⟩ | ⟨x, l, c, zs, hcs, _, hl, hm, hz, _, hcell, hwz⟩
  · simp [Value.cells] at hcs
    obtain ⟨rfl, rfl, rfl⟩ := hcs
    exact ⟨[], rfl, Nat.le_refl _, Reads.nil_⟩
  · simp [Value.cells] at hcs
    obtain ⟨rfl, rfl, rfl⟩ := hcs
    simp only [if_true] at hz
    refine ⟨bytesOf (zs.take len), by rw [bytesOf_length, List.length_take]; omega, hl, ?_⟩
    rw [byteCells_bytesOf (fun z hz' => hwz z (List.mem_of_mem_take hz'))]
    intro hp
    have h0 : 0 < zs.length := by simp at hp; omega
    have hc0 := hcell 0 h0
    have hspot : x.spot = none := by simpa [Addr.add] using World.cell?_spot hc0
    obtain ⟨b, off, sp⟩ := x
    subst hspot
    have hlt := World.block_lt_of_cell? _ _ hc0
    rw [add_lit] at hlt
    refine ⟨b, off, rfl, hlt, fun j u hu => ?_⟩
    obtain ⟨hj, rfl⟩ := getD_of hu
    simp only [List.length_take] at hj
    have := hcell j (by omega)
    rw [add_lit] at this
    rw [this]
    simp only [List.getD_eq_getElem?_getD, List.getElem?_take]
    rw [if_pos (by omega)]
end Go.Proofs.Ythlhcfjpijilaaa
