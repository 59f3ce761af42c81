/- io.ReadFull over a blockReader, gif.readFull over it, and (*gif.blockReader).close: the walks. -/
import Derived.Test.YthlhcfjpijilaaaDoorBrLW
namespace Go.Proofs.YthlhcfjpijilaaaDoor
open Go Go.ChangeShapes Go.WideShapes Go.ChangeAt Go.RowKit Go.Lib

set_option maxRecDepth 100000 in
theorem brf_any (w : World) (B : Nat) (a1 a2 : Addr) (K D R O n c i bi bj m mc off : Nat) (A dp : Option Addr) (l tmp total o' s : List UInt8) (e : Bool) (cur : List Value) (T : TypeId) (hE : BrEnv w B a1 a2 K D R A l n c) (hBO : B ≤ O) (hOK : O ≠ K) (hOD : O ≠ D) (hOR : O ≠ R)
    (hY : BrlYes w K D R O A n c off T cur l total e s 0 i bi bj tmp [] o' w) (hmm : m ≤ mc) (hmc : mc ≤ maxLen) (hdp : 0 < m → dp = some ⟨O, off, none⟩) (hfit : off + m ≤ cur.length) :
    Calls Tryd.prog 40 #[.iface 86 (.pointer (some ⟨K, 0, none⟩)), .slice dp m mc] w fun x w' => BrlOut w a1 a2 K D R O A n c off T cur l total e s m x w' := by
  have h := brl_any w B a1 a2 K D R O n c i bi bj m mc off A dp l tmp total o' s e cur T hE hBO hOK hOD hOR hY hmm hmc hdp hfit
  clear hE hY hdp
  go_enter Tryd.func40, Tryd.ntmps40
  go_wp2_with fail
  refine h.mono ?_
  rintro x w1 (⟨rfl, hw1⟩ | ⟨a, b, rfl, ha, hb, hl, hw1⟩)
  · have Hw1 := Lib.hid hw1
    clear hw1
    go_wp2
    go_ret2
    exact Or.inl ⟨rfl, Hw1.out⟩
  · have Hw1 := Lib.hid hw1
    have Ha := Lib.hid ha
    have Hb := Lib.hid hb
    clear hw1 ha hb
    go_wp2
    go_ret2
    exact Or.inr ⟨a, b, rfl, Ha.out, Hb.out, hl, Hw1.out⟩

/-- What gif.readFull hands back. -/
def BrfOut (w : World) (a1 a2 : Addr) (K D R O : Nat) (A : Option Addr) (n c off : Nat) (T : TypeId) (cur : List Value) (l total : List UInt8) (e : Bool) (s : List UInt8) (m : Nat) (x : Ending) (w' : World) : Prop :=
  (x = .returned .nilIface ∧ ∃ i bi bj tmp out o', BrlYes w K D R O A n c off T cur l total e s m i bi bj tmp out o' w') ∨
  (x = .returned (errV a2) ∧ total.length < m ∧ ∃ b : Addr, (b = a1 ∨ b = a2) ∧ BrlNo w K D R A n c O off T cur total (errV b) w')

set_option maxRecDepth 100000 in
theorem brfull_any (w : World) (B : Nat) (a1 a2 : Addr) (K D R O n c i bi bj m mc off : Nat) (A dp : Option Addr) (l tmp total o' s : List UInt8) (e : Bool) (cur : List Value) (T : TypeId) (hE : BrEnv w B a1 a2 K D R A l n c) (hBO : B ≤ O) (hOK : O ≠ K) (hOD : O ≠ D) (hOR : O ≠ R)
    (hY : BrlYes w K D R O A n c off T cur l total e s 0 i bi bj tmp [] o' w) (hmm : m ≤ mc) (hmc : mc ≤ maxLen) (hdp : 0 < m → dp = some ⟨O, off, none⟩) (hfit : off + m ≤ cur.length) :
    Calls Tryd.prog 32 #[.iface 86 (.pointer (some ⟨K, 0, none⟩)), .slice dp m mc] w fun x w' => BrfOut w a1 a2 K D R O A n c off T cur l total e s m x w' := by
  have h := brf_any w B a1 a2 K D R O n c i bi bj m mc off A dp l tmp total o' s e cur T hE hBO hOK hOD hOR hY hmm hmc hdp hfit
  have qss := eql_same
  have qnl := eql_nil_left
  have HE := Lib.hid hE
  clear hE hY hdp
  go_enter Tryd.func32, Tryd.ntmps32
  go_wp2_with fail
  refine h.mono ?_
  have hS4 : ∀ x ∈ [R, D, K, O], B ≤ x := by
    have h := HE.out; have h1 := h.bk; have h2 := h.bd; have h3 := h.br
    intro x hx; simp at hx; omega
  have HS4 := Lib.hid hS4
  clear hS4
  rintro x w1 (⟨rfl, hw1⟩ | ⟨a, b, rfl, ha, hb, hl, hw1⟩)
  · have hs1 := HE.out.s.below (w' := w1) (hw1.choose_spec.choose_spec.choose_spec.choose_spec.choose_spec.choose_spec.t.below (B := B) HS4.out HE.out.bw)
    have q1 := hs1.g1
    have q2 := hs1.g2
    have Hw1 := Lib.hid hw1
    clear hw1 hs1
    go_wp2
    go_ret
    exact Or.inl ⟨rfl, Hw1.out⟩
  · have hs1 := HE.out.s.below (w' := w1) (hw1.t.below (B := B) HS4.out HE.out.bw)
    have q1 := hs1.g1
    have q2 := hs1.g2
    have qot := hs1.eql_other
    have Hw1 := Lib.hid hw1
    have Hb := Lib.hid hb
    have Hl := Lib.hid hl
    clear hw1 hs1 hb hl
    rcases ha with rfl | rfl
    · go_wp2
      go_ret
      exact Or.inr ⟨rfl, Hl.out, b, Hb.out, Hw1.out⟩
    · go_wp2
      go_ret
      exact Or.inr ⟨rfl, Hl.out, b, Hb.out, Hw1.out⟩
end Go.Proofs.YthlhcfjpijilaaaDoor
