/- (*gif.blockReader).Read where the block is spent: a filling that ends it, a filling that brings a block: the walks. -/
import Derived.Test.YthlhcfjpijilaaaDoorBrC
namespace Go.Proofs.YthlhcfjpijilaaaDoor
open Go Go.ChangeShapes Go.WideShapes Go.ChangeAt Go.RowKit Go.Lib

set_option maxRecDepth 100000 in
set_option maxHeartbeats 1000000 in
theorem brerr (w : World) (B : Nat) (a1 a2 : Addr) (K D R O n c i bi m mc : Nat) (A dp : Option Addr) (l tmp : List UInt8) (cur : List Value) (T : TypeId) (hE : BrEnv w B a1 a2 K D R A l n c) (hb : BrAt w K D R A n c i bi bi .nilIface tmp) (hn : i ≤ n)
    (hz : ¬ (i < n ∧ 0 < (l.getD i 0).toNat ∧ i + 1 + (l.getD i 0).toNat ≤ n)) (hO : Blk w O T cur.toArray) (hOK : O ≠ K) (hOD : O ≠ D) (hOR : O ≠ R) (hm : 0 < m) :
    Calls Tryd.prog 72 #[.pointer (some ⟨K, 0, none⟩), .slice dp m mc] w fun e w' => ∃ ev, e = .returned (.tuple #[.int .i64 0, ev]) ∧ ((ev = errV a1 ∧ i < n ∧ (l.getD i 0).toNat = 0) ∨ (ev = errV a2 ∧ ¬ (i < n ∧ (l.getD i 0).toNat = 0))) ∧
      (∃ i' bi' bj' tmp', i' ≤ n ∧ BrAt w' K D R A n c i' bi' bj' ev tmp') ∧ Blk w' O T cur.toArray ∧ Trn [R, D, K, O] w w' := by
  have c0 : w.cell? ⟨K, 0, none⟩ = some (.pointer (some ⟨D, 0, none⟩)) := hb.k.cell 0
  have c1 : w.cell? ⟨K, 1, none⟩ = some (.int .u8 (bi : Int)) := hb.k.cell 1
  have c2 : w.cell? ⟨K, 2, none⟩ = some (.int .u8 (bi : Int)) := hb.k.cell 2
  have c3 : w.cell? ⟨K, 3, none⟩ = some .nilIface := hb.k.cell 3
  have hx0 : ((m : Int) == 0) = false := by simp; omega
  have qnn := eql_nil_nil
  have qnr := eql_nil_right
  have HE := Lib.hid hE
  have HB := Lib.hid hb
  have HO := Lib.hid hO
  have Hz := Lib.hid hz
  clear hE hb hO hz
  go_enter Tryd.func72, Tryd.ntmps72
  go_wp2
  go_quiet (fail)
  go_wp2_with fail
  refine (fill_any _ B a1 a2 K D R n c i bi bi A l tmp (HE.out.trn ((Trn.refl [] w).drewN _) (by simp)) (HB.out.drewN _) hn).mono ?_
  rintro e w1 ⟨rfl, i', bi', bj', ev', tmp', hF, hB1, hT1⟩
  have HT1 := Lib.hid ((show Trn [R, D, K] w w1 from ⟨hT1.os, hT1.tape, hT1.output, hT1.size, hT1.block⟩).mono (S' := [R, D, K, O]) (fun x hx => by simp at hx ⊢; rcases hx with h | h | h <;> simp [h]))
  have HO1 := Lib.hid (Blk.trn HO.out (show Trn [R, D, K] w w1 from ⟨hT1.os, hT1.tape, hT1.output, hT1.size, hT1.block⟩) (by simp; exact ⟨hOR, hOD, hOK⟩))
  have k3 : w1.cell? ⟨K, 3, none⟩ = some ev' := hB1.k.cell 3
  have HB1 := Lib.hid hB1
  clear c0 c1 c2 c3 hT1 hB1
  rcases hF with ⟨h1, rfl, h2⟩ | ⟨h1, h2, rfl, h3⟩ | ⟨h1, h2, h3, rfl, h4⟩ | ⟨h1, h2, h3, _⟩
  · go_wp2
    go_quiet (fail)
    go_wp2
    go_ret2
    exact ⟨_, rfl, Or.inr ⟨rfl, fun h => by omega⟩, ⟨i', bi', bj', tmp', h2, HB1.out.drewN _⟩, HO1.out, HT1.out.drewN _⟩
  · go_wp2
    go_quiet (fail)
    go_wp2
    go_ret2
    exact ⟨_, rfl, Or.inl ⟨rfl, h1, h2⟩, ⟨i', bi', bj', tmp', by omega, HB1.out.drewN _⟩, HO1.out, HT1.out.drewN _⟩
  · go_wp2
    go_quiet (fail)
    go_wp2
    go_ret2
    exact ⟨_, rfl, Or.inr ⟨rfl, fun h => by omega⟩, ⟨i', bi', bj', tmp', h4, HB1.out.drewN _⟩, HO1.out, HT1.out.drewN _⟩
  · exact absurd ⟨h1, h2, h3⟩ Hz.out
end Go.Proofs.YthlhcfjpijilaaaDoor
