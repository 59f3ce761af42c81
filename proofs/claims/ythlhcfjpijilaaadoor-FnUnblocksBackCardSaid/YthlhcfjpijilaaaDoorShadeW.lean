/- Walks of the loops over colors: solid, the palette of shades, the reference's shades. -/
import Derived.Test.YthlhcfjpijilaaaDoorRows
import Derived.Test.YthlhcfjpijilaaaDoorShade
import Derived.Test.YthlhcfjpijilaaaDoorAppend
import Derived.WalkKit
import Derived.ProofKit
import Derived.OpenShut
import Derived.WalkLawsBesides
import Derived.WalkSpells
import Derived.Outline
import Derived.Deep.LoopGhost
namespace Go.Proofs.YthlhcfjpijilaaaDoor
open Go Go.ChangeShapes Go.WideShapes Go.ChangeAt Go.RowKit Go.Lib

theorem infoSh : (Tryd.prog.info? 48).map (fun i => (i.zero, i.size, i.bytes)) = some (some (.agg #[.int .u8 0, .int .u8 0, .int .u8 0, .int .u8 0]), 4, 4) := by kernel_rfl

/-- Colors in memory of the call's own. -/
def ShOut (T : TypeId) (w : World) (l : List Sh) (n : Nat) (e : Ending) (w' : World) : Prop :=
  ∃ A c, e = .returned (.slice A n c) ∧ w'.ownsRow w.heap.size T 4 (.slice A n c) n (shCells l) ∧ Below w.heap.size w w'

def SolidRel (w : World) (l : List Sh) (k : Nat) (v i : Value) (wr : World) : Prop :=
  ∃ kk, k + kk = l.length ∧ i = .int .i64 ((kk : Nat) : Int) ∧ wr.ownsRow w.heap.size 48 4 v kk (shCells (solidL (l.take kk))) ∧ Below w.heap.size w wr

theorem reads_new (w : World) (T : TypeId) (cs : List Value) (N : Nat) (hN : w.heap.size = N) : Reads (w.alloc (.cells cs.toArray T)) (N + 1) (some ⟨N, 0, none⟩) cs := fun _ =>
  ⟨N, 0, rfl, by omega, fun j u hu => by rw [Nat.zero_add, ← hN, (Blk.new w T cs.toArray).cell]; simpa using hu⟩

set_option maxRecDepth 100000 in
set_option maxHeartbeats 1000000 in
theorem solid_any (w : World) (A : Option Addr) (n c : Nat) (l : List Sh) (hl : l.length = n) (hn : n ≤ 256) (hr : Reads w w.heap.size A (shCells l)) :
    Calls Tryd.prog 20 #[.slice A n c] w fun e w' => ShOut 48 w (solidL l) n e w' := by
  obtain ⟨i0, hi, hz0, hz1, hz2⟩ := info_parts infoSh
  have Hr := Lib.hid hr
  have Hl := Lib.hid hl
  clear hr hl
  go_enter Tryd.func20, Tryd.ntmps20
  go_wp2
  go_loopg [3, 9] n (fun k v i wr => SolidRel w l k v i wr)
  case atStart => exact ⟨0, Hl.out.symm, rfl, World.ownsRow_made w #[] 0 (Nat.le_refl _) (Nat.zero_le _) rfl, (Below.refl _ w).alloc (Nat.le_refl _) _⟩
  case round =>
    obtain ⟨kk, hk, rfl, hown, hbel⟩ := hrel
    by_cases hlt : kk < n
    · obtain ⟨b, off, rfl, hb, hc⟩ := Hr.out (by rw [shCells_length, Hl.out]; omega)
      obtain ⟨s, hs⟩ : ∃ s, s = l[kk]'(by rw [Hl.out]; exact hlt) := ⟨_, rfl⟩
      have hcell : ∀ j u, s.cells[j]? = some u → j < 4 → wr.cell? ⟨b, off + kk * 4 + j, none⟩ = some u := fun j u hu hj => by
        refine (hbel.cell (p := ⟨b, _, none⟩) hb).trans ?_
        rw [Nat.add_assoc]
        refine hc _ _ ?_
        rw [shCells_at l kk j (by rw [Hl.out]; exact hlt) hj, ← hs]
        exact hu
      have c0 : wr.cell? ⟨b, off + kk * 4, none⟩ = some (.int .u8 (s.r.toNat : Int)) := hcell 0 _ rfl (by omega)
      have c1 : wr.cell? ⟨b, off + kk * 4 + 1, none⟩ = some (.int .u8 (s.g.toNat : Int)) := hcell 1 _ rfl (by omega)
      have c2 : wr.cell? ⟨b, off + kk * 4 + 2, none⟩ = some (.int .u8 (s.b.toNat : Int)) := hcell 2 _ rfl (by omega)
      have c3 : wr.cell? ⟨b, off + kk * 4 + 3, none⟩ = some (.int .u8 (s.a.toNat : Int)) := hcell 3 _ rfl (by omega)
      have hsnoc : solidL (l.take (kk + 1)) = solidL (l.take kk) ++ [s.solid] := by rw [take_snoc l kk (by rw [Hl.out]; exact hlt), ← hs]; simp [solidL]
      have hd4 : decide ((kk : Int) < (n : Int)) = true := by simp; omega
      have Hown := Lib.hid hown
      have Hbel := Lib.hid hbel
      have Hsnoc := Lib.hid hsnoc
      have Hk := Lib.hid hk
      clear hown hbel hsnoc hk hs hcell hc
      go_wp2_with (at_builtin; refine wpList_append_any rfl (.tmp 13) (.tmp 21) 27 rfl w.heap.size 48 i0 (.agg #[.int .u8 0, .int .u8 0, .int .u8 0, .int .u8 0]) 4 4 Tryd.underlying27 hi hz0 hz1 hz2 rfl (by decide) _ kk _ rfl ((Hown.out.alloc _).alloc _) (wr.heap.size + 1 + 1) (some ⟨wr.heap.size + 1, 0, none⟩) 1 1 s.solid.cells rfl rfl (reads_new _ _ s.solid.cells _ (by simp)) (cells_one _) (by unfold maxLen; omega) (by omega) (by have := Hbel.out.size; simp; omega) ?_; intro v' w7 hown7 hgr7 hat7; have Hown7 := Lib.hid hown7; have Hgr7 := Lib.hid hgr7; clear hown7 hgr7 hat7)
      go_roundg (l.length - (kk + 1))
      case measure => have := Hk.out; have := Hl.out; omega
      case rel =>
        refine ⟨kk + 1, by have := Hl.out; omega, by go_num, ?_, ?_⟩
        · rw [Hsnoc.out, shCells_snoc]; exact Hown7.out
        · exact ((Hbel.out.alloc Hbel.out.size _).alloc (by have := Hbel.out.size; simp; omega) _).grown Hgr7.out (by have := Hbel.out.size; simp; omega) (fun k hk => (Hown.out.lt k hk).1)
    · have e4 : kk = n := by have := Hl.out; omega
      subst e4
      rw [List.take_of_length_le (by rw [Hl.out]; omega)] at hown
      obtain ⟨A1, c1, rfl, _, _⟩ := own_slice hown
      have Hown := Lib.hid hown
      have Hbel := Lib.hid hbel
      clear hown hbel hk
      go_wp2
      go_ret
      exact ⟨A1, c1, rfl, Hown.out, Hbel.out⟩
theorem infoCol : (Tryd.prog.info? 83).map (fun i => (i.zero, i.size, i.bytes)) = some (some .nilIface, 1, 16) := by kernel_rfl
/-- A palette in memory of the call's own. -/
def PalOut (w : World) (l : List Sh) (n : Nat) (e : Ending) (w' : World) : Prop :=
  ∃ A c, e = .returned (.slice A n c) ∧ w'.ownsRow w.heap.size 83 1 (.slice A n c) n (palCells 84 l) ∧ Below w.heap.size w w'
def PalRel (w : World) (l : List Sh) (k : Nat) (v i : Value) (wr : World) : Prop :=
  ∃ kk, k + kk = l.length ∧ i = .int .i64 ((kk : Nat) : Int) ∧ wr.ownsRow w.heap.size 83 1 v kk (palCells 84 (l.take kk)) ∧ Below w.heap.size w wr

set_option maxRecDepth 100000 in
set_option maxHeartbeats 1000000 in
theorem pal_any (w : World) (A : Option Addr) (n c : Nat) (l : List Sh) (hl : l.length = n) (hn : n ≤ 256) (hr : Reads w w.heap.size A (shCells l)) :
    Calls Tryd.prog 28 #[.slice A n c] w fun e w' => PalOut w l n e w' := by
  obtain ⟨i0, hi, hz0, hz1, hz2⟩ := info_parts infoCol
  have Hr := Lib.hid hr
  have Hl := Lib.hid hl
  clear hr hl
  go_enter Tryd.func28, Tryd.ntmps28
  go_wp2
  go_loopg [3, 8] n (fun k v i wr => PalRel w l k v i wr)
  case atStart => exact ⟨0, Hl.out.symm, rfl, World.ownsRow_nil _ _ _ _, Below.refl _ w⟩
  case round =>
    obtain ⟨kk, hk, rfl, hown, hbel⟩ := hrel
    by_cases hlt : kk < n
    · obtain ⟨b, off, rfl, hb, hc⟩ := Hr.out (by rw [shCells_length, Hl.out]; omega)
      obtain ⟨s, hs⟩ : ∃ s, s = l[kk]'(by rw [Hl.out]; exact hlt) := ⟨_, rfl⟩
      have hcell : ∀ j u, s.cells[j]? = some u → j < 4 → wr.cell? ⟨b, off + kk * 4 + j, none⟩ = some u := fun j u hu hj => by
        refine (hbel.cell (p := ⟨b, _, none⟩) hb).trans ?_
        rw [Nat.add_assoc]
        refine hc _ _ ?_
        rw [shCells_at l kk j (by rw [Hl.out]; exact hlt) hj, ← hs]
        exact hu
      have c0 : wr.cell? ⟨b, off + kk * 4, none⟩ = some (.int .u8 (s.r.toNat : Int)) := hcell 0 _ rfl (by omega)
      have c1 : wr.cell? ⟨b, off + kk * 4 + 1, none⟩ = some (.int .u8 (s.g.toNat : Int)) := hcell 1 _ rfl (by omega)
      have c2 : wr.cell? ⟨b, off + kk * 4 + 2, none⟩ = some (.int .u8 (s.b.toNat : Int)) := hcell 2 _ rfl (by omega)
      have c3 : wr.cell? ⟨b, off + kk * 4 + 3, none⟩ = some (.int .u8 (s.a.toNat : Int)) := hcell 3 _ rfl (by omega)
      have hsnoc : palCells 84 (l.take (kk + 1)) = palCells 84 (l.take kk) ++ [s.iface 84] := by rw [take_snoc l kk (by rw [Hl.out]; exact hlt), ← hs]; simp [palCells]
      have hd4 : decide ((kk : Int) < (n : Int)) = true := by simp; omega
      have Hown := Lib.hid hown
      have Hbel := Lib.hid hbel
      have Hsnoc := Lib.hid hsnoc
      have Hk := Lib.hid hk
      clear hown hbel hsnoc hk hs hcell hc
      go_wp2_with (at_builtin; refine wpList_append_any rfl (.tmp 12) (.tmp 23) 53 rfl w.heap.size 83 i0 .nilIface 1 16 Tryd.underlying53 hi hz0 hz1 hz2 rfl (by decide) _ kk _ rfl ((Hown.out.alloc _).alloc _) (wr.heap.size + 1 + 1) (some ⟨wr.heap.size + 1, 0, none⟩) 1 1 [s.iface 84] rfl rfl (reads_new _ _ [s.iface 84] _ (by simp)) (fun u hu => by simp at hu; subst hu; rfl) (by unfold maxLen; omega) (by omega) (by have := Hbel.out.size; simp; omega) ?_; intro v' w7 hown7 hgr7 hat7; have Hown7 := Lib.hid hown7; have Hgr7 := Lib.hid hgr7; clear hown7 hgr7 hat7)
      go_roundg (l.length - (kk + 1))
      case measure => have := Hk.out; have := Hl.out; omega
      case rel =>
        refine ⟨kk + 1, by have := Hl.out; omega, by go_num, ?_, ?_⟩
        · rw [Hsnoc.out]; exact Hown7.out
        · exact ((Hbel.out.alloc Hbel.out.size _).alloc (by have := Hbel.out.size; simp; omega) _).grown Hgr7.out (by have := Hbel.out.size; simp; omega) (fun k hk => (Hown.out.lt k hk).1)
    · have e4 : kk = n := by have := Hl.out; omega
      subst e4
      rw [List.take_of_length_le (by rw [Hl.out]; omega)] at hown
      obtain ⟨A1, c1, rfl, _, _⟩ := own_slice hown
      have Hown := Lib.hid hown
      have Hbel := Lib.hid hbel
      clear hown hbel hk
      go_wp2
      go_ret
      exact ⟨A1, c1, rfl, Hown.out, Hbel.out⟩
theorem infoSp : (Tryd.prog.info? 34).map (fun i => (i.zero, i.size, i.bytes)) = some (some (.agg #[.int .u8 0, .int .u8 0, .int .u8 0, .int .u8 0]), 4, 4) := by kernel_rfl
def SpRel (w : World) (l : List Sh) (k : Nat) (v i : Value) (wr : World) : Prop :=
  ∃ kk, k + kk = l.length ∧ i = .int .i64 ((kk : Nat) : Int) ∧ wr.ownsRow w.heap.size 34 4 v kk (shCells (l.take kk)) ∧ Below w.heap.size w wr

set_option maxRecDepth 100000 in
set_option maxHeartbeats 1000000 in
theorem shades_any (w : World) (A : Option Addr) (n c : Nat) (l : List Sh) (hl : l.length = n) (hn : n ≤ 256) (hr : Reads w w.heap.size A (shCells l)) :
    Calls Tryd.prog 14 #[.slice A n c] w fun e w' => ShOut 34 w l n e w' := by
  obtain ⟨i0, hi, hz0, hz1, hz2⟩ := info_parts infoSp
  have Hr := Lib.hid hr
  have Hl := Lib.hid hl
  clear hr hl
  go_enter Tryd.func14, Tryd.ntmps14
  go_wp2
  go_loopg [3, 9] n (fun k v i wr => SpRel w l k v i wr)
  case atStart => exact ⟨0, Hl.out.symm, rfl, World.ownsRow_made w #[] 0 (Nat.le_refl _) (Nat.zero_le _) rfl, (Below.refl _ w).alloc (Nat.le_refl _) _⟩
  case round =>
    obtain ⟨kk, hk, rfl, hown, hbel⟩ := hrel
    by_cases hlt : kk < n
    · obtain ⟨b, off, rfl, hb, hc⟩ := Hr.out (by rw [shCells_length, Hl.out]; omega)
      obtain ⟨s, hs⟩ : ∃ s, s = l[kk]'(by rw [Hl.out]; exact hlt) := ⟨_, rfl⟩
      have hcell : ∀ j u, s.cells[j]? = some u → j < 4 → wr.cell? ⟨b, off + kk * 4 + j, none⟩ = some u := fun j u hu hj => by
        refine (hbel.cell (p := ⟨b, _, none⟩) hb).trans ?_
        rw [Nat.add_assoc]
        refine hc _ _ ?_
        rw [shCells_at l kk j (by rw [Hl.out]; exact hlt) hj, ← hs]
        exact hu
      have c0 : wr.cell? ⟨b, off + kk * 4, none⟩ = some (.int .u8 (s.r.toNat : Int)) := hcell 0 _ rfl (by omega)
      have c1 : wr.cell? ⟨b, off + kk * 4 + 1, none⟩ = some (.int .u8 (s.g.toNat : Int)) := hcell 1 _ rfl (by omega)
      have c2 : wr.cell? ⟨b, off + kk * 4 + 2, none⟩ = some (.int .u8 (s.b.toNat : Int)) := hcell 2 _ rfl (by omega)
      have c3 : wr.cell? ⟨b, off + kk * 4 + 3, none⟩ = some (.int .u8 (s.a.toNat : Int)) := hcell 3 _ rfl (by omega)
      have hsnoc : l.take (kk + 1) = l.take kk ++ [s] := by rw [take_snoc l kk (by rw [Hl.out]; exact hlt), ← hs]
      have hd4 : decide ((kk : Int) < (n : Int)) = true := by simp; omega
      have Hown := Lib.hid hown
      have Hbel := Lib.hid hbel
      have Hsnoc := Lib.hid hsnoc
      have Hk := Lib.hid hk
      clear hown hbel hsnoc hk hs hcell hc
      go_wp2_with (at_builtin; refine wpList_append_any rfl (.tmp 13) (.tmp 23) 30 rfl w.heap.size 34 i0 (.agg #[.int .u8 0, .int .u8 0, .int .u8 0, .int .u8 0]) 4 4 Tryd.underlying30 hi hz0 hz1 hz2 rfl (by decide) _ kk _ rfl ((Hown.out.alloc _).alloc _) (wr.heap.size + 1 + 1) (some ⟨wr.heap.size + 1, 0, none⟩) 1 1 s.cells rfl rfl (reads_new _ _ s.cells _ (by simp)) (cells_one _) (by unfold maxLen; omega) (by omega) (by have := Hbel.out.size; simp; omega) ?_; intro v' w7 hown7 hgr7 hat7; have Hown7 := Lib.hid hown7; have Hgr7 := Lib.hid hgr7; clear hown7 hgr7 hat7)
      go_roundg (l.length - (kk + 1))
      case measure => have := Hk.out; have := Hl.out; omega
      case rel =>
        refine ⟨kk + 1, by have := Hl.out; omega, by go_num, ?_, ?_⟩
        · rw [Hsnoc.out, shCells_snoc]; exact Hown7.out
        · exact ((Hbel.out.alloc Hbel.out.size _).alloc (by have := Hbel.out.size; simp; omega) _).grown Hgr7.out (by have := Hbel.out.size; simp; omega) (fun k hk => (Hown.out.lt k hk).1)
    · have e4 : kk = n := by have := Hl.out; omega
      subst e4
      rw [List.take_of_length_le (by rw [Hl.out]; omega)] at hown
      obtain ⟨A1, c1, rfl, _, _⟩ := own_slice hown
      have Hown := Lib.hid hown
      have Hbel := Lib.hid hbel
      clear hown hbel hk
      go_wp2
      go_ret
      exact ⟨A1, c1, rfl, Hown.out, Hbel.out⟩
end Go.Proofs.YthlhcfjpijilaaaDoor
