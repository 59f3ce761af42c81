/- bufio.NewWriter over a bytes.Buffer: the walk. -/
import Derived.Test.YthlhcfjpijilaaaBio
import Derived.Test.YthlhcfjpijilaaaBig
import Derived.Deep.OwnRows
namespace Go.Proofs.Ythlhcfjpijilaaa
open Go Go.ChangeShapes Go.WideShapes Go.ChangeAt Go.RowKit Go.Lib

section
variable {P : Program} {w : World} {ops : Array Oper} {rest : List Oper} {o : Oper} {a : Act} {Q : Exit → Act → World → Prop}
theorem wpList_make_big (hg : o.guard = none) (t : TypeId) (x y : Operand) (ho : o.op = .makeSlice t x y) (e : TypeId) (vx vy : Value) (n : Nat) (C : Array Value) (hx : a.eval x = vx) (hy : a.eval y = vy)
    (hrun : ∀ wx : World, (Instr.makeSlice t vx vy).run P wx = .ok (.slice (some ⟨wx.heap.size, 0, none⟩) n n) (wx.alloc (.cells C e)))
    (h : ∀ w', Hid (Blk w' w.heap.size e C) → w.grownBy w' none → w'.heap.size = w.heap.size + 1 → wpList P ops Q rest (a.put o.dst (.slice (some ⟨w.heap.size, 0, none⟩) n n)) w') : wpList P ops Q (o :: rest) a w := by
  refine wpList_plain hg fun K hK => ?_
  unfold Oper.wp execOp
  simp [ho, hx, hy, hrun]
  exact hK _ _ (h _ (Blk.new w e C) (World.grownBy_alloc w _ none) (by simp))
end

theorem made_bytes (m : Nat) : madeCells #[Value.int .u8 0] m = (byteCells (List.replicate m 0)).toArray := by
  apply Array.ext'
  rw [toList_madeCells_one]
  simp [byteCells]

theorem make4096 (wx : World) : (Instr.makeSlice 25 (.int .i64 4096) (.int .i64 4096)).run Try.prog wx = .ok (.slice (some ⟨wx.heap.size, 0, none⟩) 4096 4096) (wx.alloc (.cells (byteCells (List.replicate 4096 0)).toArray 5)) := by
  have h := run_make_row' (P := Try.prog) 25 5 (.int .u8 0) 1 Try.underlying25 info5 rfl .i64 .i64 4096 (by omega) (by omega) wx
  rw [made_bytes] at h
  exact h

/-- What bufio.NewWriter hands back. -/
def NwOut (w : World) (b : Nat) (e : Ending) (w' : World) : Prop :=
  e = .returned (.pointer (some ⟨w.heap.size + 1, 0, none⟩)) ∧ Blk w' w.heap.size 5 (byteCells (List.replicate 4096 0)).toArray ∧ Blk w' (w.heap.size + 1) 99 (wCells w.heap.size b 0) ∧ Below w.heap.size w w' ∧ w'.heap.size = w.heap.size + 2

set_option maxRecDepth 100000 in
set_option maxHeartbeats 4000000 in
theorem nws_any (w : World) (b : Nat) :
    Calls Try.prog 28 #[.iface 58 (.pointer (some ⟨b, 0, none⟩)), .int .i64 4096] w fun e w' => NwOut w b e w' := by
  have hta : ∀ wx : World, (Instr.typeAssert (.iface 58 (.pointer (some ⟨b, 0, none⟩))) 86 56 true).run Try.prog wx = .ok (.tuple #[.pointer none, .bool false]) wx := fun _ => by kernel_rfl
  go_enter Try.func28, Try.ntmps28
  go_wp2_with (refine wpList_make_big (o := ⟨some 26, _, _, _, _, _⟩) rfl 25 _ _ rfl 5 _ _ 4096 (byteCells (List.replicate 4096 0)).toArray rfl rfl make4096 ?_; intro w1 hB1 hgr1 hs1; have Hgr1 := Lib.hid hgr1; have Hs1 := Lib.hid hs1; clear hgr1 hs1)
  go_ret
  have hs := Hs1.out
  have hb1 : Below w.heap.size w w1 := below_of_grownBy Hgr1.out
  refine ⟨?_, hB1.out.alloc _, ?_, hb1.alloc hb1.size _, by simp [hs]⟩
  · rw [← hs]; rfl
  · have h := Blk.new w1 99 (wCells w.heap.size b 0)
    rw [hs] at h
    exact h

theorem nw_any (w : World) (b : Nat) :
    Calls Try.prog 21 #[.iface 58 (.pointer (some ⟨b, 0, none⟩))] w fun e w' => NwOut w b e w' := by
  go_enter Try.func21, Try.ntmps21
  go_wp2_with fail
  refine (nws_any w b).mono ?_
  rintro e w1 ⟨rfl, h1, h2, h3, h4⟩
  have H1 := Lib.hid h1
  have H2 := Lib.hid h2
  have H3 := Lib.hid h3
  have H4 := Lib.hid h4
  clear h1 h2 h3 h4
  go_wp2
  go_ret
  exact ⟨rfl, H1.out, H2.out, H3.out, H4.out⟩
end Go.Proofs.Ythlhcfjpijilaaa
