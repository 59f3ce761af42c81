/- A bytes.Buffer that the call has made: grow, by walks, with an exact word on which blocks turn. -/
import Derived.Test.YthlhcfjpijilaaaTrn
import Derived.Test.YthlhcfjpijilaaaCopy
import Derived.Test.YthlhcfjpijilaaaClone
import Derived.Test.YthlhcfjpijilaaaShelfBuf
import Derived.Deep.RegionWith
import Derived.RegionTactic
import Derived.Laws.MakeOwn
import Derived.BigQuiet
import Derived.Deep.DeepCutAuto
namespace Go.Proofs.Ythlhcfjpijilaaa
open Go Go.ChangeShapes Go.WideShapes Go.ChangeAt Go.RowKit Go.Lib

/-- The cells of a bytes.Buffer that has not been read. -/
def bfCells (v : Value) (lr : Int) : Array Value := #[v, .int .i64 0, .int .i8 lr]

/-- A row of n bytes ahead of whatever else. -/
structure RowAt (w : World) (g cap : Nat) (bs : List UInt8) : Prop where
  r : ∃ cur : Array Value, Blk w g 5 cur ∧ cur.size = cap ∧ cur.toList.take bs.length = byteCells bs
  le : bs.length ≤ cap
  cap : cap ≤ maxLen

/-- What grow leaves. -/
def GrOut (w : World) (b n : Nat) (bs : List UInt8) (e : Ending) (w' : World) : Prop :=
  e = .returned (.int .i64 ((bs.length : Nat) : Int)) ∧ ∃ g cap lr, Blk w' b 54 (bfCells (.slice (some ⟨g, 0, none⟩) (bs.length + n) cap) lr) ∧ RowAt w' g cap bs ∧ bs.length + n ≤ cap ∧ w.heap.size ≤ g ∧ Trn [b] w w'

set_option maxRecDepth 100000 in
set_option maxHeartbeats 2000000 in
theorem grow_small (w : World) (b n : Nat) (lr : Int) (hb : Blk w b 54 (bfCells (.slice none 0 0) lr)) (hn : 1 ≤ n) (h64 : n ≤ 64) :
    Calls Try.prog 62 #[.pointer (some ⟨b, 0, none⟩), .int .i64 (n : Int)] w fun e w' => GrOut w b n [] e w' := by
  obtain ⟨i0, hi, hz0, hz1, hz2⟩ := info_parts info5
  obtain ⟨M, hM⟩ : ∃ M, M = madeCells (Value.int .u8 0).cells ((64 : Int).toNat * i0.size) := ⟨_, rfl⟩
  have hMs : M.size = 64 := by rw [hM, size_madeCells, hz1]; rfl
  have hmk : ∀ W : World, (Instr.makeSlice 25 (.int .i64 (n : Int)) (.int .i64 64)).run Try.prog W = .ok (.slice (some ⟨W.heap.size, 0, none⟩) n 64) (W.alloc (.cells M 5)) := fun W => by
    have h := run_makeSlice (P := Try.prog) W 25 5 i0 (.int .u8 0) Try.underlying25 hi hz0 .i64 .i64 (n : Int) 64 (by omega) (by omega) (by rw [hz1]; decide) (by rw [hz2]; decide) (by decide)
    rw [← hM] at h
    simpa using h
  have HMs := Lib.hid hMs
  clear hM hMs
  have hnil : ∀ W, (binOp .eql 25 (.slice none 0 0) (.slice none 0 0)).run Try.prog W = .ok (.bool true) W := fun W => Lib.run_eql_slice_nil_nil W _ _ Try.underlying25
  have hIs : Lib.IsBuffer 54 5 0 b [] w := ⟨Nat.zero_le _, _, _, hb, World.ownsRow_nil _ _ _ _, by simp [Value.ownBlock]⟩
  have hL := Try.Buffer_Len 0 b [] w hIs
  have Hb := Lib.hid hb
  have hlt := hb.lt
  clear hIs hb
  go_enter Try.func62, Try.ntmps62
  go_wp2_with fail
  refine hL.mono ?_
  rintro e W0 ⟨rfl, k, hW0⟩
  have hb0 : Blk W0 b 54 (bfCells (.slice none 0 0) lr) := by rw [hW0]; exact Hb.out
  have ht0 : Trn [b] w W0 := by rw [hW0]; exact (Trn.refl _ _).drewN k
  have hlt0 : b < W0.heap.size := hb0.lt
  have c0 : W0.cell? ⟨b, 0, none⟩ = some (.slice none 0 0) := hb0.cell 0
  have c1 : W0.cell? ⟨b, 1, none⟩ = some (.int .i64 0) := hb0.cell 1
  have f0 : W0.frozen? ⟨b, 0, none⟩ = false := hb0.frozen 0
  have c0a : ∀ o, (W0.alloc o).cell? ⟨b, 0, none⟩ = some (.slice none 0 0) := fun o => (hb0.alloc o).cell 0
  have f0a : ∀ o, (W0.alloc o).frozen? ⟨b, 0, none⟩ = false := fun o => (hb0.alloc o).frozen 0
  have hT := Try.Buffer_tryGrow_none b _ 0 0 n W0 c0 (Nat.le_refl _) (Nat.zero_le _) (by omega)
  have Hb0 := Lib.hid hb0
  have Ht0 := Lib.hid ht0
  clear hW0 hb0 ht0 hL
  go_wp2_with fail
  refine hT.mono ?_
  rintro e w' ⟨rfl, rfl⟩
  clear hT
  go_wp2
  go_ret
  have hsz : w.heap.size ≤ w'.heap.size := Ht0.out.size
  refine ⟨rfl, w'.heap.size, 64, lr, ?_, ⟨⟨M, ?_, HMs.out, rfl⟩, by simp, by decide⟩, by simp; omega, hsz, ?_⟩
  · rw [show ([] : List UInt8).length + n = n by simp]
    exact (Hb0.out.set_ 0 (.slice (some ⟨w'.heap.size, 0, none⟩) n 64)).alloc _
  · have h := Blk.new (w'.setCell ⟨b, 0, none⟩ (.slice (some ⟨w'.heap.size, 0, none⟩) n 64)) 5 M
    rw [show (w'.setCell ⟨b, 0, none⟩ (.slice (some ⟨w'.heap.size, 0, none⟩) n 64)).heap.size = w'.heap.size by simp [World.setCell]] at h
    exact h
  · exact (Ht0.out.set_ (Or.inl (by simp)) _ _).alloc _

set_option maxRecDepth 100000 in
set_option maxHeartbeats 4000000 in
theorem grow_big (w : World) (b n : Nat) (lr : Int) (hb : Blk w b 54 (bfCells (.slice none 0 0) lr)) (h64 : 64 < n) (hlim : n ≤ 16777216) :
    Calls Try.prog 62 #[.pointer (some ⟨b, 0, none⟩), .int .i64 (n : Int)] w fun e w' => GrOut w b n [] e w' := by
  have hnil : ∀ W, (binOp .eql 25 (.slice none 0 0) (.slice none 0 0)).run Try.prog W = .ok (.bool true) W := fun W => Lib.run_eql_slice_nil_nil W _ _ Try.underlying25
  have hIs : Lib.IsBuffer 54 5 0 b [] w := ⟨Nat.zero_le _, _, _, hb, World.ownsRow_nil _ _ _ _, by simp [Value.ownBlock]⟩
  have hL := Try.Buffer_Len 0 b [] w hIs
  have Hb := Lib.hid hb
  have hlt := hb.lt
  clear hIs hb
  go_enter Try.func62, Try.ntmps62
  go_wp2_with fail
  refine hL.mono ?_
  rintro e W0 ⟨rfl, k, hW0⟩
  have hb0 : Blk W0 b 54 (bfCells (.slice none 0 0) lr) := by rw [hW0]; exact Hb.out
  have ht0 : Trn [b] w W0 := by rw [hW0]; exact (Trn.refl _ _).drewN k
  have c0 : W0.cell? ⟨b, 0, none⟩ = some (.slice none 0 0) := hb0.cell 0
  have c1 : W0.cell? ⟨b, 1, none⟩ = some (.int .i64 0) := hb0.cell 1
  have f0 : W0.frozen? ⟨b, 0, none⟩ = false := hb0.frozen 0
  have f1 : W0.frozen? ⟨b, 1, none⟩ = false := hb0.frozen 1
  have hT := Try.Buffer_tryGrow_none b _ 0 0 n W0 c0 (Nat.le_refl _) (Nat.zero_le _) (by omega)
  have Hb0 := Lib.hid hb0
  have Ht0 := Lib.hid ht0
  clear hW0 hb0 ht0 hL
  go_wp2_with fail
  refine hT.mono ?_
  rintro e w' ⟨rfl, rfl⟩
  clear hT
  have hwn : IntKind.i64.wrap (n : Int) = n := IntWalk.i64_in _ (by omega)
  have HG := Lib.hid (fun (W : World) => Try.bytes_growSlice_nil n W (by omega) (by omega))
  go_upto_region 15 with (fail)
  go_region_with (go_at_call 64; refine (HG.out _).mono ?_; rintro e w2 ⟨cap2, cells, rfl, hN, hcsz, hcap2, hcm2, hbel⟩; have hbel2 : Below w'.heap.size w' w2 := ⟨hbel.os, hbel.tape, hbel.output, hbel.size, hbel.block⟩; have hb2 := Hb0.out.below hbel2 Hb0.out.lt; have d0 : w2.cell? ⟨b, 0, none⟩ = some (.slice none 0 0) := hb2.cell 0; have d1 : w2.cell? ⟨b, 1, none⟩ = some (.int .i64 0) := hb2.cell 1; have e0 : w2.frozen? ⟨b, 0, none⟩ = false := hb2.frozen 0; have e1 : w2.frozen? ⟨b, 1, none⟩ = false := hb2.frozen 1; have Hb2 := Lib.hid hb2; have HN := Lib.hid (show Blk w2 w'.heap.size 5 cells from hN); have Hcs := Lib.hid hcsz; have Hcm := Lib.hid hcm2; have Hbel := Lib.hid hbel2; clear hb2 hN hcsz hcm2 hbel hbel2)
  all_goals
    have hne : w'.heap.size ≠ b := by have := Hb0.out.lt; omega
    go_wp2
    go_ret
    refine ⟨rfl, w'.heap.size, cap2, lr, ?_, ⟨⟨cells, ?_, Hcs.out, rfl⟩, Nat.zero_le _, Hcm.out⟩, by simp; exact hcap2, Ht0.out.size, ?_⟩
    · rw [show ([] : List UInt8).length + n = n by simp]
      exact ((Hb2.out.set_ 0 _).set_ 1 _).set_ 0 _
    · exact ((HN.out.far hne _).far hne _).far hne _
    · exact (((Ht0.out.trans (Trn.of_below Hbel.out)).set_ (Or.inl (by simp)) _ _).set_ (Or.inl (by simp)) _ _).set_ (Or.inl (by simp)) _ _
end Go.Proofs.Ythlhcfjpijilaaa
