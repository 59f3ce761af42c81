/- impl.shadesOf: a palette of color.RGBA back to shades: the walk. -/
import Derived.Test.YthlhcfjpijilaaaDoorShadeW
import Derived.Stop.Asserts
namespace Go.Proofs.YthlhcfjpijilaaaDoor
open Go Go.ChangeShapes Go.WideShapes Go.ChangeAt Go.RowKit Go.Lib

def UnRel (w : World) (l : List Sh) (k : Nat) (v i : Value) (wr : World) : Prop :=
  ∃ kk, k + kk = l.length ∧ i = .int .i64 ((kk : Nat) : Int) ∧ wr.ownsRow w.heap.size 48 4 v kk (shCells (l.take kk)) ∧ Below w.heap.size w wr

set_option maxRecDepth 100000 in
set_option maxHeartbeats 1000000 in
theorem unsh_any (w : World) (A : Option Addr) (n c : Nat) (l : List Sh) (hl : l.length = n) (hn : n ≤ 256) (hr : Reads w w.heap.size A (palCells 84 l)) :
    Calls Tryd.prog 24 #[.slice A n c] w fun e w' => ShOut 48 w l n e w' := by
  obtain ⟨i0, hi, hz0, hz1, hz2⟩ := info_parts infoSh
  have ta : ∀ (x : Value) (w : World), (Instr.typeAssert (.iface 84 x) 83 84 true).run Tryd.prog w = .ok (.tuple #[x, .bool true]) w := fun x w => by kernel_rfl
  have Hr := Lib.hid hr
  have Hl := Lib.hid hl
  clear hr hl
  go_enter Tryd.func24, Tryd.ntmps24
  go_wp2
  go_loopg [3, 11] n (fun k v i wr => UnRel w l k v i wr)
  case atStart => exact ⟨0, Hl.out.symm, rfl, World.ownsRow_nil _ _ _ _, Below.refl _ w⟩
  case round =>
    obtain ⟨kk, hk, rfl, hown, hbel⟩ := hrel
    by_cases hlt : kk < n
    · obtain ⟨b, off, rfl, hb, hc⟩ := Hr.out (by simp [palCells, Hl.out]; omega)
      obtain ⟨s, hs⟩ : ∃ s, s = l[kk]'(by rw [Hl.out]; exact hlt) := ⟨_, rfl⟩
      have c0 : wr.cell? ⟨b, off + kk, none⟩ = some (.iface 84 (.agg #[.int .u8 (s.r.toNat : Int), .int .u8 (s.g.toNat : Int), .int .u8 (s.b.toNat : Int), .int .u8 (s.a.toNat : Int)])) := by
        refine (hbel.cell (p := ⟨b, _, none⟩) hb).trans (hc kk _ ?_)
        rw [hs]
        simp only [palCells, List.getElem?_map]
        rw [List.getElem?_eq_getElem (by rw [Hl.out]; exact hlt)]
        rfl
      have hsnoc : l.take (kk + 1) = l.take kk ++ [s] := by rw [take_snoc l kk (by rw [Hl.out]; exact hlt), ← hs]
      have hd4 : decide ((kk : Int) < (n : Int)) = true := by simp; omega
      have Hown := Lib.hid hown
      have Hbel := Lib.hid hbel
      have Hsnoc := Lib.hid hsnoc
      have Hk := Lib.hid hk
      clear hown hbel hsnoc hk hs hc
      go_wp2_with (at_builtin; refine wpList_append_any rfl (.tmp 23) (.tmp 33) 27 rfl w.heap.size 48 i0 (.agg #[.int .u8 0, .int .u8 0, .int .u8 0, .int .u8 0]) 4 4 Tryd.underlying27 hi hz0 hz1 hz2 rfl (by decide) _ kk _ rfl ((Hown.out.alloc _).alloc _) (wr.heap.size + 1 + 1) (some ⟨wr.heap.size + 1, 0, none⟩) 1 1 s.cells rfl rfl (reads_new _ _ s.cells _ (by simp)) (cells_one _) (by unfold maxLen; omega) (by omega) (by have := Hbel.out.size; simp; omega) ?_; intro v' w7 hown7 hgr7 hat7; have Hown7 := Lib.hid hown7; have Hgr7 := Lib.hid hgr7; clear hown7 hgr7 hat7)
      go_roundg (l.length - (kk + 1))
      case measure => have := Hk.out; have := Hl.out; omega
      case rel =>
        refine ⟨kk + 1, by have := Hl.out; omega, by go_num, ?_, ?_⟩
        · rw [Hsnoc.out, shCells_snoc]; exact Hown7.out
        · exact ((Hbel.out.alloc Hbel.out.size _).alloc (by have := Hbel.out.size; simp; omega) _).grown Hgr7.out (by have := Hbel.out.size; simp; omega) (fun k hk => (Hown.out.lt k hk).1)
    · have e4 : kk = n := by have := Hl.out; omega
      subst e4
      rw [List.take_of_length_le (by rw [Hl.out]; omega)] at hown
      obtain ⟨A1, c1, rfl, _, _⟩ := own_slice hown
      have Hown := Lib.hid hown
      have Hbel := Lib.hid hbel
      clear hown hbel hk
      go_wp2
      go_ret
      exact ⟨A1, c1, rfl, Hown.out, Hbel.out⟩
end Go.Proofs.YthlhcfjpijilaaaDoor
