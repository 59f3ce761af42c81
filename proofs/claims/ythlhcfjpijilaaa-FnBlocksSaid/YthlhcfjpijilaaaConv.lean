/- string(b) at bytes that are read, none of them too; small words. -/
import Derived.Test.YthlhcfjpijilaaaClone
import Derived.Laws.IdiomStrings
import Derived.Laws.BytesArg
namespace Go.Proofs.Ythlhcfjpijilaaa
open Go Go.ChangeShapes Go.WideShapes Go.ChangeAt Go.RowKit Go.Lib

theorem conv_any (c : Nat) {w : World} {B n : Nat} {A : Option Addr} {l : List UInt8} (h : Reads w B A (byteCells l)) (hl : l.length = n) :
    (convert 25 9 (.slice A n c)).run Try.prog w = .ok (.string ⟨l.toArray⟩) w := by
  subst hl
  cases A with
  | none =>
    have h0 : l = [] := by
      rcases Nat.eq_zero_or_pos l.length with h0 | h0
      · exact List.eq_nil_of_length_eq_zero h0
      · obtain ⟨_, _, e, _⟩ := h.bytes h0
        cases e
    subst h0
    exact run_convert_bytes_nil _ _ 5 Try.underlying25 Try.underlying5 0 c _ Try.underlying9
  | some ad =>
    refine run_convert_bytes_back w _ _ 5 ad c l Try.underlying25 Try.underlying5 Try.underlying9 fun j hj => ?_
    obtain ⟨b, off, e, _, hc⟩ := h.bytes (by omega)
    cases e
    rw [add_lit]
    exact hc j hj

theorem below_of_drew1 {B : Nat} {w w' : World} (h : Below B w.drew w') : Below B w w' := ⟨h.os, h.tape, h.output, h.size, h.block⟩
theorem Reads.reach1 {w w' : World} {A : Option Addr} {xs : List Value} (h : Reads w w.heap.size A xs) (hb : Below w.heap.size w w') : Reads w' w'.heap.size A xs := (h.below hb).more hb.size
theorem reads_blk1 {w : World} {g : Nat} {t : TypeId} {xs : List Value} (h : Blk w g t xs.toArray) : Reads w w.heap.size (some ⟨g, 0, none⟩) xs := fun _ =>
  ⟨g, 0, rfl, h.lt, fun j u hu => by rw [Nat.zero_add, h.cell]; simpa using hu⟩
theorem own_base1 {w : World} {B B' : Nat} {e : TypeId} {size n : Nat} {v : Value} {xs : List Value} (h : w.ownsRow B e size v n xs) (hB : B' ≤ B) : w.ownsRow B' e size v n xs := by
  refine ⟨h.1, ?_⟩
  rcases h.2 with h' | ⟨g, cap, cur, hv, hg, r⟩
  · exact .inl h'
  · exact .inr ⟨g, cap, cur, hv, Nat.le_trans hB hg, r⟩
theorem own_cap1 {w : World} {base e size n m c : Nat} {A : Option Addr} {xs : List Value} (h : w.ownsRow base e size (.slice A m c) n xs) : n ≤ c ∧ c ≤ maxLen := by
  obtain ⟨A', c', e, h1, h2⟩ := own_slice h
  cases e
  exact ⟨h1, h2⟩
end Go.Proofs.Ythlhcfjpijilaaa
