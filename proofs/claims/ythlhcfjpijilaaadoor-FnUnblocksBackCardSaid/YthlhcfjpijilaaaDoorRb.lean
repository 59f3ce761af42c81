/- (*bytes.Reader).ReadByte and gif.readByte over it: the walks. -/
import Derived.Test.YthlhcfjpijilaaaDoorRct
namespace Go.Proofs.YthlhcfjpijilaaaDoor
open Go Go.ChangeShapes Go.WideShapes Go.ChangeAt Go.RowKit Go.Lib

set_option maxRecDepth 100000 in
theorem rb_end (w : World) (R n c i : Nat) (pr : Int) (A : Option Addr) (E : Value) (hR : Blk w R 100 (rdCells A n c i pr)) (hn : n ≤ i) (hlt : 1 < R) (hE : w.cell? ⟨1, 0, none⟩ = some E) :
    Calls Tryd.prog 69 #[.pointer (some ⟨R, 0, none⟩)] w fun e w' => e = .returned (.tuple #[.int .u8 0, E]) ∧ Blk w' R 100 (rdCells A n c i (-1)) ∧ ∀ D, Turns2 R D w w' := by
  have hR1 : Blk (w.setCell ⟨R, 2, none⟩ (.int .i64 (-1))) R 100 (rdCells A n c i (-1)) := hR.set_ 2 (.int .i64 (-1))
  have ht1 : ∀ D, Turns2 R D w (w.setCell ⟨R, 2, none⟩ (.int .i64 (-1))) := fun D => (Turns2.refl R D w).setR _ _
  have hE1 : (w.setCell ⟨R, 2, none⟩ (.int .i64 (-1))).cell? ⟨1, 0, none⟩ = some E := (World.cell?_setCell_other _ _ _ _ (fun e => by have := congrArg Addr.block e; simp only at this; omega)).trans hE
  have f2 : w.frozen? ⟨R, 2, none⟩ = false := hR.frozen 2
  have d2 : w.cell? ⟨R, 2, none⟩ = some (.int .i64 pr) := hR.cell 2
  have h1 : (n : Int) ≤ (i : Int) := by omega
  clear hR hE
  go_enter Tryd.func69, Tryd.ntmps69
  go_wp2
  generalize w.setCell ⟨R, 2, none⟩ (.int .i64 (-1)) = w1 at *
  have c0 : w1.cell? ⟨R, 0, none⟩ = some (.slice A n c) := hR1.cell 0
  have c1 : w1.cell? ⟨R, 1, none⟩ = some (.int .i64 (i : Int)) := hR1.cell 1
  have HR1 := Lib.hid hR1
  have Ht1 := Lib.hid ht1
  clear hR1 ht1
  go_quiet (fail)
  go_wp2
  go_quiet (fail)
  go_wp2
  go_ret2
  exact ⟨rfl, HR1.out, fun D => ((Ht1.out D).drewN_ _).drewN_ _⟩

set_option maxRecDepth 100000 in
theorem rb_in (w : World) (R n c i : Nat) (pr : Int) (A : Option Addr) (l : List UInt8) (B : Nat) (hBR : B ≤ R) (hR : Blk w R 100 (rdCells A n c i pr)) (hA : Reads w B A (byteCells l)) (hl : l.length = n) (hnc : n ≤ c) (hc : c ≤ maxLen) (hn : i < n) :
    Calls Tryd.prog 69 #[.pointer (some ⟨R, 0, none⟩)] w fun e w' => e = .returned (.tuple #[.int .u8 ((l.getD i 0).toNat : Int), .nilIface]) ∧ Blk w' R 100 (rdCells A n c (i + 1) (-1)) ∧ ∀ D, Turns2 R D w w' := by
  have hM : (maxLen : Nat) ≤ 9223372036854775807 := by decide
  obtain ⟨b, o, rfl, hb, hcell⟩ := hA (by simp [byteCells]; omega)
  have hR1 : Blk (w.setCell ⟨R, 2, none⟩ (.int .i64 (-1))) R 100 (rdCells (some ⟨b, o, none⟩) n c i (-1)) := hR.set_ 2 (.int .i64 (-1))
  have ht1 : ∀ D, Turns2 R D w (w.setCell ⟨R, 2, none⟩ (.int .i64 (-1))) := fun D => (Turns2.refl R D w).setR _ _
  have hv1 : (w.setCell ⟨R, 2, none⟩ (.int .i64 (-1))).cell? ⟨b, o + i, none⟩ = some (.int .u8 ((l.getD i 0).toNat : Int)) := by
    refine (World.cell?_setCell_other _ _ _ _ (fun e => by have := congrArg Addr.block e; simp only at this; omega)).trans (hcell i _ ?_)
    rw [byteCells_at (by omega), List.getD_eq_getElem?_getD, List.getElem?_eq_getElem (by omega)]
    rfl
  obtain ⟨v, hv⟩ : ∃ v, v = l.getD i 0 := ⟨_, rfl⟩
  rw [← hv] at hv1 ⊢
  have f2 : w.frozen? ⟨R, 2, none⟩ = false := hR.frozen 2
  have d2 : w.cell? ⟨R, 2, none⟩ = some (.int .i64 pr) := hR.cell 2
  have h1 : ¬ (n : Int) ≤ (i : Int) := by omega
  have t1 : wrap64 ((i : Int) + 1) = (i : Int) + 1 := IntWalk.wrap64_in _ (by omega)
  clear hR hA hcell hv hl
  go_enter Tryd.func69, Tryd.ntmps69
  go_wp2
  generalize w.setCell ⟨R, 2, none⟩ (.int .i64 (-1)) = w1 at *
  have c0 : w1.cell? ⟨R, 0, none⟩ = some (.slice (some ⟨b, o, none⟩) n c) := hR1.cell 0
  have c1 : w1.cell? ⟨R, 1, none⟩ = some (.int .i64 (i : Int)) := hR1.cell 1
  have e1 : w1.frozen? ⟨R, 1, none⟩ = false := hR1.frozen 1
  have HR1 := Lib.hid hR1
  have Ht1 := Lib.hid ht1
  clear hR1 ht1
  go_quiet (fail)
  go_wp2
  go_quiet (fail)
  go_wp2
  go_ret2
  refine ⟨rfl, ?_, fun D => ((Ht1.out D).drewN_ _).setR _ _⟩
  exact (HR1.out.drewN _).set_ 1 (.int .i64 ((i + 1 : Nat) : Int))

theorem nilAhead_rb (R : Nat) (w : World) : (nilAhead 241 73 (.pointer (some ⟨R, 0, none⟩)) "ReadByte").run Tryd.prog w = .ok (some false) w := by kernel_rfl
theorem method_rb (R : Nat) (w : World) : (method 241 73 (.pointer (some ⟨R, 0, none⟩)) "ReadByte").run Tryd.prog w = .ok (69, .pointer (some ⟨R, 0, none⟩)) w := by kernel_rfl

/-- Behind gif.readByte: at the end: nought and io.ErrUnexpectedEOF; within: the byte. -/
def RbOut (w : World) (a2 : Addr) (A : Option Addr) (l : List UInt8) (n c i R : Nat) (e : Ending) (w' : World) : Prop :=
  (∀ D, Turns2 R D w w') ∧ ((n ≤ i ∧ e = .returned (.tuple #[.int .u8 0, errV a2]) ∧ Blk w' R 100 (rdCells A n c i (-1))) ∨
    (i < n ∧ e = .returned (.tuple #[.int .u8 ((l.getD i 0).toNat : Int), .nilIface]) ∧ Blk w' R 100 (rdCells A n c (i + 1) (-1))))

set_option maxRecDepth 100000 in
theorem readbyte_any (w : World) (B : Nat) (a1 a2 : Addr) (R n c i : Nat) (pr : Int) (A : Option Addr) (l : List UInt8) (hS : Sent B a1 a2 w) (hBR : B ≤ R) (hR : Blk w R 100 (rdCells A n c i pr)) (hA : Reads w B A (byteCells l)) (hl : l.length = n) (hnc : n ≤ c) (hc : c ≤ maxLen) :
    Calls Tryd.prog 44 #[.iface 73 (.pointer (some ⟨R, 0, none⟩))] w fun e w' => RbOut w a2 A l n c i R e w' := by
  have qss := eql_same
  have qnl := eql_nil_left
  have na := nilAhead_rb R
  have me := method_rb R
  have hlt := hR.lt
  by_cases hn : i < n
  · have h := rb_in w R n c i pr A l B hBR hR hA hl hnc hc hn
    have HS := Lib.hid hS
    obtain ⟨v, hv⟩ : ∃ v, v = l.getD i 0 := ⟨_, rfl⟩
    rw [← hv] at h
    have Hv := Lib.hid hv
    clear hS hR hA hl hv
    go_enter Tryd.func44, Tryd.ntmps44
    go_wp2_with fail
    refine h.mono ?_
    rintro e w1 ⟨rfl, hR1, ht1⟩
    have hs1 := HS.out.turns (ht1 R) hBR hBR (by omega)
    have q1 := hs1.g1
    have HR1 := Lib.hid hR1
    have Ht1 := Lib.hid ht1
    clear hR1 ht1 hs1
    go_wp2
    go_ret2
    exact ⟨Ht1.out, Or.inr ⟨hn, by rw [← Hv.out]; rfl, HR1.out⟩⟩
  · have h := rb_end w R n c i pr A (errV a1) hR (by omega) (by have := hS.lb; omega) hS.g1
    have HS := Lib.hid hS
    clear hS hR hA hl
    go_enter Tryd.func44, Tryd.ntmps44
    go_wp2_with fail
    refine h.mono ?_
    rintro e w1 ⟨rfl, hR1, ht1⟩
    have hs1 := HS.out.turns (ht1 R) hBR hBR (by omega)
    have q1 := hs1.g1
    have q2 := hs1.g2
    have HR1 := Lib.hid hR1
    have Ht1 := Lib.hid ht1
    clear hR1 ht1 hs1
    go_wp2
    go_ret2
    exact ⟨Ht1.out, Or.inl ⟨by omega, rfl, HR1.out⟩⟩
end Go.Proofs.YthlhcfjpijilaaaDoor
