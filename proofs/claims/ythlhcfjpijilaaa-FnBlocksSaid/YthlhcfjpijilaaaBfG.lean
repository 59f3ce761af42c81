/- A bytes.Buffer that the call has made: grow of a row without room: the walk. -/
import Derived.Test.YthlhcfjpijilaaaBf
namespace Go.Proofs.Ythlhcfjpijilaaa
open Go Go.ChangeShapes Go.WideShapes Go.ChangeAt Go.RowKit Go.Lib

set_option maxRecDepth 100000 in
set_option maxHeartbeats 4000000 in
theorem grow_row (w : World) (b n g l cap : Nat) (lr : Int) (bs : List UInt8) (hl : bs.length = l) (hb : Blk w b 54 (bfCells (.slice (some ⟨g, 0, none⟩) l cap) lr)) (hr : RowAt w g cap bs) (hgb : g ≠ b) (hl0 : 0 < l) (hn : 1 ≤ n) (hroom : cap - l < n) (hlim : l + n ≤ 16777216) :
    Calls Try.prog 62 #[.pointer (some ⟨b, 0, none⟩), .int .i64 (n : Int)] w fun e w' => GrOut w b n bs e w' := by
  obtain ⟨⟨cur, hg, hcs, htk⟩, hlc, hcm⟩ := hr
  rw [hl] at htk hlc
  have hnil : ∀ W, (binOp .eql 25 (.slice (some ⟨g, 0, none⟩) l cap) (.slice none 0 0)).run Try.prog W = .ok (.bool false) W := fun W => Lib.run_eql_slice_some_nil W _ _ _ Try.underlying25
  have hIs : Lib.IsBuffer 54 5 0 b (byteCells bs) w := ⟨Nat.zero_le _, .slice (some ⟨g, 0, none⟩) l cap, lr, hb, ⟨by rw [Nat.mul_one], .inr ⟨g, cap, cur, by rw [byteCells_length, hl], Nat.zero_le _, hg, by rw [byteCells_length]; omega, hcm, by omega, by rw [byteCells_length, hl, Nat.mul_one]; exact htk⟩⟩, by simp [Value.ownBlock]; exact hgb⟩
  have hL := Try.Buffer_Len 0 b (byteCells bs) w hIs
  rw [byteCells_length, hl] at hL
  have Hl := Lib.hid hl
  have Hb := Lib.hid hb
  have Hg := Lib.hid hg
  have Hcs := Lib.hid hcs
  have Htk := Lib.hid htk
  have hlt := hb.lt
  clear hIs hb hl hg hcs htk
  go_enter Try.func62, Try.ntmps62
  go_wp2_with fail
  refine hL.mono ?_
  rintro e W0 ⟨rfl, k, hW0⟩
  have hb0 : Blk W0 b 54 (bfCells (.slice (some ⟨g, 0, none⟩) l cap) lr) := by rw [hW0]; exact Hb.out
  have hg0 : Blk W0 g 5 cur := by rw [hW0]; exact Hg.out
  have ht0 : Trn [b] w W0 := by rw [hW0]; exact (Trn.refl _ _).drewN k
  have c0 : W0.cell? ⟨b, 0, none⟩ = some (.slice (some ⟨g, 0, none⟩) l cap) := hb0.cell 0
  have c1 : W0.cell? ⟨b, 1, none⟩ = some (.int .i64 0) := hb0.cell 1
  have f0 : W0.frozen? ⟨b, 0, none⟩ = false := hb0.frozen 0
  have f1 : W0.frozen? ⟨b, 1, none⟩ = false := hb0.frozen 1
  have hT := Try.Buffer_tryGrow_none b _ l cap n W0 c0 hlc hcm hroom
  have Hb0 := Lib.hid hb0
  have Hg0 := Lib.hid hg0
  have Ht0 := Lib.hid ht0
  clear hW0 hb0 ht0 hL hg0
  have hcm' := hcm
  unfold maxLen at hcm'
  go_wp2_with fail
  refine hT.mono ?_
  rintro e w' ⟨rfl, rfl⟩
  clear hT
  have hwn : IntKind.i64.wrap (n : Int) = n := IntWalk.i64_in _ (by omega)
  have h1' : ∀ v ∈ cur.toList.take l, v.oneCell' = true := by rw [Htk.out]; exact byteCells_oneCell _
  have HG := Lib.hid (fun (W : World) (hW : W.heap[g]? = some (.cells cur 5 (0, 0))) => Try.bytes_growSlice_row g l cap n cur W hW Hcs.out hlc hn (by omega) (by omega) h1')
  clear h1'
  go_upto_region 15 with (fail)
  go_region_with (go_at_call 64; refine (HG.out _ ?_).mono ?_; exact Hg0.out; rintro e w2 ⟨cap2, cells, rfl, hN, hcsz, htk2, hcap2, hcm2, hbel⟩; have hbel2 : Below w'.heap.size w' w2 := ⟨hbel.os, hbel.tape, hbel.output, hbel.size, hbel.block⟩; have hb2 := Hb0.out.below hbel2 Hb0.out.lt; have d0 : w2.cell? ⟨b, 0, none⟩ = some (.slice (some ⟨g, 0, none⟩) l cap) := hb2.cell 0; have d1 : w2.cell? ⟨b, 1, none⟩ = some (.int .i64 0) := hb2.cell 1; have e0 : w2.frozen? ⟨b, 0, none⟩ = false := hb2.frozen 0; have e1 : w2.frozen? ⟨b, 1, none⟩ = false := hb2.frozen 1; have Hb2 := Lib.hid hb2; have HN := Lib.hid (show Blk w2 w'.heap.size 5 cells from hN); have Hcs2 := Lib.hid hcsz; have Hcm2 := Lib.hid hcm2; have Htk2 := Lib.hid htk2; have Hbel := Lib.hid hbel2; clear hb2 hN hcsz hcm2 hbel hbel2 htk2)
  all_goals
    have hne : w'.heap.size ≠ b := by have := Hb0.out.lt; omega
    go_wp2
    go_ret
    refine ⟨by rw [Hl.out]; rfl, w'.heap.size, cap2, lr, ?_, ⟨⟨cells, ?_, Hcs2.out, by rw [Hl.out, Htk2.out, Htk.out]⟩, by rw [Hl.out]; omega, Hcm2.out⟩, by rw [Hl.out]; exact hcap2, Ht0.out.size, ?_⟩
    · rw [Hl.out]
      exact ((Hb2.out.set_ 0 _).set_ 1 _).set_ 0 _
    · exact ((HN.out.far hne _).far hne _).far hne _
    · exact (((Ht0.out.trans (Trn.of_below Hbel.out)).set_ (Or.inl (by simp)) _ _).set_ (Or.inl (by simp)) _ _).set_ (Or.inl (by simp)) _ _
end Go.Proofs.Ythlhcfjpijilaaa
