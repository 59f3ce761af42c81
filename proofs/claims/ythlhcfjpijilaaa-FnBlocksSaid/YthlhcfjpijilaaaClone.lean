/- slices.Clone at bytes: nil comes back as nil; else a slice of the same bytes in memory of the call's own. -/
import Derived.Test.YthlhcfjpijilaaaRows
import Derived.Test.YthlhcfjpijilaaaMem
import Derived.WalkKit
import Derived.ProofKit
import Derived.OpenShut
import Derived.WalkLawsBesides
import Derived.WalkSpells
import Derived.Outline
namespace Go.Proofs.Ythlhcfjpijilaaa
open Go Go.ChangeShapes Go.WideShapes Go.ChangeAt Go.RowKit Go.Lib

theorem info5 : (Try.prog.info? 5).map (fun i => (i.zero, i.size, i.bytes)) = some (some (.int .u8 0), 1, 1) := by kernel_rfl

/-- The bytes l in memory of the call's own. -/
def OwnOut (w : World) (l : List UInt8) (e : Ending) (w' : World) : Prop :=
  ∃ A c, e = .returned (.slice A l.length c) ∧ w'.ownsRow w.heap.size 5 1 (.slice A l.length c) l.length (byteCells l) ∧ Below w.heap.size w w'

set_option maxHeartbeats 1000000 in
theorem clone_some (ad : Addr) (c : Nat) (l : List UInt8) (w : World) (hl : l.length ≤ 140737488355328) (hc : Reads w w.heap.size (some ad) (byteCells l)) :
    Calls Try.prog 17 #[.slice (some ad) l.length c] w fun e w' => OwnOut w l e w' := by
  obtain ⟨i0, hi, hz0, hz1, hz2⟩ := info_parts info5
  have q22 : ∀ (w : World) (a : Option Addr) (n c n' c' : Nat), (binOp .eql 25 (.slice a n c) (.slice none n' c')).run Try.prog w = .ok (.bool a.isNone) w := fun w a n c n' c' => Lib.run_eql_slice_nil w _ _ a n c n' c' Try.underlying25
  have H := Lib.hid hc
  clear hc
  go_enter Try.func17, Try.ntmps17
  go_wp2_with (at_builtin; refine wpList_append_own _ rfl _ _ 25 rfl w.heap.size 5 i0 (.int .u8 0) 1 1 Try.underlying25 hi hz0 hz1 hz2 rfl (by decide) _ _ _ rfl (World.ownsRow_made w #[] 0 (Nat.le_refl _) (Nat.zero_le _) rfl) ad l.length c (byteCells l) rfl ?qc1 ?qc2 ?qc3 ?qc4 ?qc5 ?qc6 ?_)
  case qc1 => simp [byteCells_length]
  case qc2 =>
    intro j u hj
    have hp : 0 < (byteCells l).length := by have := (List.getElem?_eq_some_iff.1 hj).1; omega
    obtain ⟨b, off, e, hb, hc⟩ := H.out hp
    cases e
    rw [add_lit]
    exact (World.cell?_alloc_lt w _ ⟨b, off + j, none⟩ hb).trans (hc j u hj)
  case qc3 => exact byteCells_oneCell l
  case qc4 => unfold maxLen; omega
  case qc5 => omega
  case qc6 => simp
  intro v' w1 hown hgrow hnil
  obtain ⟨A, c', rfl, h1, h2⟩ := own_slice hown
  clear hnil
  go_wp2
  go_ret
  refine ⟨A, c', by simp, by simpa using hown, ?_⟩
  exact ((Below.refl _ w).alloc (Nat.le_refl _) _).grown hgrow (by simp) (by intro k hk; simp [Value.ownBlock] at hk; omega)

theorem clone_nil (n c : Nat) (w : World) :
    Calls Try.prog 17 #[.slice none n c] w fun e w' => e = .returned (.slice none 0 0) ∧ w = w' := by
  have q22 : ∀ (w : World) (a : Option Addr) (n c n' c' : Nat), (binOp .eql 25 (.slice a n c) (.slice none n' c')).run Try.prog w = .ok (.bool a.isNone) w := fun w a n c n' c' => Lib.run_eql_slice_nil w _ _ a n c n' c' Try.underlying25
  go_enter Try.func17, Try.ntmps17
  go_wp2
  go_ret
  exact ⟨rfl, rfl⟩

theorem clone_any (A : Option Addr) (n c : Nat) (l : List UInt8) (w : World) (hn : l.length = n) (hl : n ≤ 140737488355328) (hc : Reads w w.heap.size A (byteCells l)) :
    Calls Try.prog 17 #[.slice A n c] w fun e w' => OwnOut w l e w' := by
  subst hn
  cases A with
  | some ad => exact clone_some ad c l w hl hc
  | none =>
    have hl0 : l = [] := by
      rcases Nat.eq_zero_or_pos l.length with h | h
      · exact List.eq_nil_of_length_eq_zero h
      · obtain ⟨b, off, e, _⟩ := hc (by simpa [byteCells] using h)
        cases e
    subst hl0
    exact (clone_nil 0 c w).mono fun e w' ⟨he, hw⟩ => ⟨none, 0, he, by rw [← hw]; exact World.ownsRow_nil _ _ _ _, by rw [← hw]; exact Below.refl _ _⟩
end Go.Proofs.Ythlhcfjpijilaaa
