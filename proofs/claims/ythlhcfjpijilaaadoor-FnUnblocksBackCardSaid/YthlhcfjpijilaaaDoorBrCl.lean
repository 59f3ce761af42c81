/- (*gif.blockReader).close: behind an error; behind the last byte: the walks. -/
import Derived.Test.YthlhcfjpijilaaaDoorBrR
import Derived.Test.YthlhcfjpijilaaaDoorJn
namespace Go.Proofs.YthlhcfjpijilaaaDoor
open Go Go.ChangeShapes Go.WideShapes Go.ChangeAt Go.RowKit Go.Lib

/-- What the check at the end says. -/
def endErr (a2 : Addr) (e : Bool) : Value := if e = true then .nilIface else errV a2

set_option maxRecDepth 100000 in
/-- Behind an error. -/
theorem close_err (w : World) (B : Nat) (a1 a2 b : Addr) (K D R n c i bi bj : Nat) (A : Option Addr) (tmp : List UInt8) (hS : Sent B a1 a2 w) (hb : BrAt w K D R A n c i bi bj (errV b) tmp) (hab : b = a1 ∨ b = a2) :
    Calls Tryd.prog 33 #[.pointer (some ⟨K, 0, none⟩)] w fun x w' => ∃ v, x = .returned v ∧ (v = .nilIface ∨ v = errV a2) ∧ ∃ k, w' = w.drewN k := by
  have c3 : w.cell? ⟨K, 3, none⟩ = some (errV b) := hb.k.cell 3
  have qss := eql_same
  have qnl := eql_nil_left
  have qnr := eql_nil_right
  have q1 := hS.g1
  have qot := hS.eql_other
  have qot1 := fun k => (hS.drewN k).eql_other
  clear hS hb
  rcases hab with rfl | rfl
  · go_enter Tryd.func33, Tryd.ntmps33
    go_wp2
    go_quiet (fail)
    go_wp2
    go_ret
    exact ⟨_, rfl, Or.inl rfl, _, rfl⟩
  · go_enter Tryd.func33, Tryd.ntmps33
    go_wp2
    go_quiet (fail)
    go_wp2
    go_ret
    exact ⟨_, rfl, Or.inr rfl, _, rfl⟩

set_option maxRecDepth 100000 in
/-- Behind the last byte: the filling tells. -/
theorem close_end (w : World) (B : Nat) (a1 a2 : Addr) (K D R n c i bi : Nat) (A : Option Addr) (l tmp s : List UInt8) (e : Bool) (hE : BrEnv w B a1 a2 K D R A l n c) (hb : BrAt w K D R A n c i bi bi .nilIface tmp) (hn : i ≤ n) (hj : Jn (l.drop i) [] e s) :
    Calls Tryd.prog 33 #[.pointer (some ⟨K, 0, none⟩)] w fun x w' => x = .returned (endErr a2 e) ∧ Trn [R, D, K] w w' := by
  have c3 : w.cell? ⟨K, 3, none⟩ = some .nilIface := hb.k.cell 3
  have c1 : w.cell? ⟨K, 1, none⟩ = some (.int .u8 (bi : Int)) := hb.k.cell 1
  have c2 : w.cell? ⟨K, 2, none⟩ = some (.int .u8 (bi : Int)) := hb.k.cell 2
  have qss := eql_same
  have qnl := eql_nil_left
  have qnr := eql_nil_right
  have qnn := eql_nil_nil
  have q1 := hE.s.g1
  have HE := Lib.hid hE
  have HB := Lib.hid hb
  have Hj := Lib.hid hj
  clear hE hb hj
  go_enter Tryd.func33, Tryd.ntmps33
  go_wp2
  go_quiet (fail)
  go_wp2
  go_quiet (fail)
  go_wp2_with fail
  refine (fill_any _ B a1 a2 K D R n c i bi bi A l tmp (HE.out.trn (by first | exact ((Trn.refl [] w).drewN _).drewN _ | exact (Trn.refl [] w).drewN _) (by simp)) (by first | exact (HB.out.drewN _).drewN _ | exact HB.out.drewN _) hn).mono ?_
  rintro x w1 ⟨rfl, i', bi', bj', ev', tmp', hF, hB1, hT1⟩
  have hev : ev' = if e = true then errV a1 else errV a2 := by
    have hl := HE.out.l
    rcases Hj.out.at with ⟨h1, _, rfl, _⟩ | ⟨h1, h2, _, rfl, _⟩ | ⟨h1, h2, h3, _, rfl, _⟩ | ⟨h1, h2, h3, o', h4, _⟩
    · rcases hF with ⟨_, h, _⟩ | ⟨h, _⟩ | ⟨h, _⟩ | ⟨h, _⟩
      · simpa using h
      all_goals omega
    · rcases hF with ⟨h, _⟩ | ⟨_, _, h, _⟩ | ⟨_, h, _⟩ | ⟨_, h, _⟩
      · omega
      · simpa using h
      all_goals omega
    · rcases hF with ⟨h, _⟩ | ⟨_, h, _⟩ | ⟨_, _, _, h, _⟩ | ⟨_, _, h, _⟩
      · omega
      · omega
      · simpa using h
      · omega
    · exfalso
      have := congrArg List.length h4
      rw [List.length_append, List.length_take, List.length_drop, List.length_nil] at this
      omega
  have hT0 : Trn [R, D, K] w w1 := ⟨hT1.os, hT1.tape, hT1.output, hT1.size, hT1.block⟩
  have hs1 := (HE.out.trn hT0 (by have h := HE.out; have h1 := h.bk; have h2 := h.bd; have h3 := h.br; intro x hx; simp at hx; omega)).s
  have q2 := hs1.g1
  have qot := hs1.eql_other
  have qot1 := fun k => (hs1.drewN k).eql_other
  have c4 := hB1.k.cell 3
  have c5 : w1.cell? ⟨K, 3, none⟩ = some ev' := c4
  have HT0 := Lib.hid hT0
  clear c4 c1 c2 c3 q1 hF hB1 hT1 hT0 hs1
  rcases e with _ | _
  · obtain rfl : ev' = errV a2 := by simpa using hev
    clear hev
    go_wp2
    go_quiet (fail)
    go_wp2
    go_ret
    exact ⟨rfl, HT0.out.drewN _⟩
  · obtain rfl : ev' = errV a1 := by simpa using hev
    clear hev
    go_wp2
    go_quiet (fail)
    go_wp2
    go_ret
    exact ⟨rfl, HT0.out.drewN _⟩
end Go.Proofs.YthlhcfjpijilaaaDoor
