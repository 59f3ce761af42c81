/- (*gif.blockReader).Read: the walk: bytes of the block at hand; a filling ahead of it. -/
import Derived.Test.YthlhcfjpijilaaaDoorFillR
import Derived.Test.YthlhcfjpijilaaaDoorFillY
import Derived.Test.YthlhcfjpijilaaaDoorFillN
namespace Go.Proofs.YthlhcfjpijilaaaDoor
open Go Go.ChangeShapes Go.WideShapes Go.ChangeAt Go.RowKit Go.Lib

theorem fill_any (w : World) (B : Nat) (a1 a2 : Addr) (K D R n c i bi bj : Nat) (A : Option Addr) (l tmp : List UInt8) (hE : BrEnv w B a1 a2 K D R A l n c) (hb : BrAt w K D R A n c i bi bj .nilIface tmp) (hn : i ≤ n) :
    Calls Tryd.prog 41 #[.pointer (some ⟨K, 0, none⟩)] w fun e w' => e = .returned (.tuple #[]) ∧
      ∃ i' bi' bj' ev' tmp', Filled a1 a2 l n i tmp i' bi' bj' ev' tmp' ∧ BrAt w' K D R A n c i' bi' bj' ev' tmp' ∧ Trn [R, D, K] w w' := by
  by_cases h1 : n ≤ i ∨ (l.getD i 0).toNat = 0
  · exact fill_rest w B a1 a2 K D R n c i bi bj A l tmp hE hb hn h1
  by_cases h2 : i + 1 + (l.getD i 0).toNat ≤ n
  · exact fill_yes w B a1 a2 K D R n c i bi bj A l tmp hE hb ⟨by omega, by omega, h2⟩
  · exact fill_no w B a1 a2 K D R n c i bi bj A l tmp hE hb ⟨by omega, by omega, by omega⟩

theorem slice1024lh (w : World) (g off lo hi : Nat) (h1 : lo ≤ hi) (h2 : hi ≤ 1023) :
    (Instr.sliceAt 78 (.pointer (some ⟨g, off, none⟩)) (some (.int .u8 (lo : Int))) (some (.int .u8 (hi : Int))) none).run Tryd.prog w = .ok (.slice (some ⟨g, off + lo, none⟩) (hi - lo) (1024 - lo)) w := by
  have h := run_sliceAt_array_lh (P := Tryd.prog) (w := w) (a := ⟨g, off, none⟩) (t := 78) (by kernel_rfl) .u8 .u8 (lo : Int) (hi : Int) (by omega) (by omega) (by rw [show Tryd.prog.arrayLen 78 = 1024 from by kernel_rfl]; omega)
  rw [h]
  have hs : (Go.sizeOf (Tryd.prog.elem 78)).run Tryd.prog w = .ok 1 w := by kernel_rfl
  have hl : Tryd.prog.arrayLen 78 = 1024 := by kernel_rfl
  rw [hs, hl]
  simp [slicedAt, Result.andThen, Addr.add]
  by_cases h0 : lo = 0
  · subst h0
    simp
  · simp [h0]
    omega

/-- What lies in the buffer still to be handed out. -/
def remOf (tmp : List UInt8) (bi bj : Nat) : List UInt8 := (tmp.drop bi).take (bj - bi)
end Go.Proofs.YthlhcfjpijilaaaDoor
