/- The walk of the reference's Straight: the rows of an interlaced image laid at their places. -/
import Derived.Test.YthlhcfjpijilaaaDoorTurn
namespace Go.Proofs.YthlhcfjpijilaaaDoor
open Go Go.ChangeShapes Go.WideShapes Go.ChangeAt Go.RowKit Go.Lib Go.Deep

/-- The cells in a new block. -/
def NewOut (w : World) (n : Nat) (cells : List Value) (e : Ending) (w' : World) : Prop :=
  ∃ g, e = .returned (.slice (some ⟨g, 0, none⟩) n n) ∧ w.heap.size ≤ g ∧ Blk w' g 5 cells.toArray ∧ Below w.heap.size w w'

def StrRel (w2 : World) (g n dx dy : Nat) (pix : List Value) (k : Nat) (i : Value) (wr : World) : Prop :=
  ∃ kk cur, k + kk = dy ∧ i = .int .i64 ((kk : Nat) : Int) ∧ Blk wr g 5 cur.toArray ∧ cur.length = n ∧ w2.grownBy wr (some g) ∧ lay pix dx ((turn dy).drop kk) kk cur = FinalOf pix dx dy n

set_option maxRecDepth 100000 in
set_option maxHeartbeats 1000000 in
theorem straight_any (w : World) (A : Option Addr) (n c dx dy : Nat) (pix : List UInt8) (hdx : dx ≤ 255) (hdx0 : 0 < dx) (hdy : dy ≤ 255) (hdy0 : 0 < dy) (hn : dx * dy = n) (hpl : pix.length = n) (hc : n ≤ c)
   (hpix : Reads w w.heap.size A (byteCells pix)) :
   Calls Tryd.prog 10 #[.slice A n c, .int .i64 dx, .int .i64 dy] w fun e w' => NewOut w n (FinalOf (byteCells pix) dx dy n) e w' := by
  have hnb : n ≤ 65025 := by rw [← hn]; exact Nat.mul_le_mul hdx hdy
  have hn0 : 0 < n := by rw [← hn]; exact Nat.mul_pos hdx0 hdy0
  obtain ⟨pb, po, rfl, hpb, hpc⟩ := hpix (by rw [byteCells_length]; omega)
  have Hn := Lib.hid hn
  have Hpl := Lib.hid hpl
  have Hpc := Lib.hid hpc
  clear hn hpl hpc hpix
  have hmk := fun (wx : World) => run_make_row' (P := Tryd.prog) 22 5 (.int .u8 0) 1 Tryd.underlying22 info5' rfl .i64 .i64 n (by omega) (by omega) wx
  have hmk := hmk w
  go_enter Tryd.func10, Tryd.ntmps10
  go_wp2_with fail
  have hB1 := blk_made w n
  have hb1 := (Below.refl w.heap.size w).alloc (Nat.le_refl _) (.cells (madeCells #[Value.int IntKind.u8 0] n) 5)
  have hs1 : w.heap.size < (w.alloc (.cells (madeCells #[Value.int IntKind.u8 0] n) 5)).heap.size := by simp
  revert hB1 hb1 hs1
  clear hmk
  generalize w.alloc (.cells (madeCells #[Value.int IntKind.u8 0] n) 5) = w1
  intro hB1 hb1 hs1
  refine (turn_any w1 dy hdy).mono ?_
  rintro e w2 ⟨T, tc, rfl, htown, hb2⟩
  have hB2 := hB1.below hb2 hs1
  have hb12 := hb1.trans (hb2.mono (by omega))
  have htr := Reads.of_own htown
  have hs2 := hb2.size
  obtain ⟨ttb, tto, rfl, httb, htc⟩ := htr (by simp [intCells, turn_length dy hdy]; omega)
  obtain ⟨g, hg⟩ : ∃ g, g = w.heap.size := ⟨_, rfl⟩
  rw [← hg] at hB2 ⊢
  have hgw : g < w2.heap.size := by omega
  have htg : ttb ≠ g := by have := (htown.lt ttb rfl).1; omega
  have HB2 := Lib.hid hB2
  have Hb12 := Lib.hid hb12
  have Htc := Lib.hid htc
  have Hg := Lib.hid hg
  clear hB1 hb1 hs1 hb2 hB2 hb12 htr htown htc hg
  go_wp2
  go_loopg [16] dy (fun k i wr => StrRel w2 g n dx dy (byteCells pix) k i wr)
  case atStart => exact ⟨0, zeros n, rfl, rfl, HB2.out, by simp [zeros], grownBy_refl _ _, rfl⟩
  case round =>
    obtain ⟨kk, cur, hk, rfl, hB, hcur, hgr, hlay⟩ := hrel
    by_cases hlt : kk < dy
    · obtain ⟨y, hy⟩ : ∃ y, y = (turn dy)[kk]'(by rw [turn_length dy hdy]; omega) := ⟨_, rfl⟩
      have hyl : y < dy := turn_lt dy hdy y (by rw [hy]; exact List.getElem_mem _)
      have c0 : wr.cell? ⟨ttb, tto + kk, none⟩ = some (.int .i64 (y : Int)) := by
        refine (cell_far hgr ttb _ httb (by simpa using htg)).trans (Htc.out kk _ ?_)
        simp only [intCells, List.getElem?_map]
        rw [List.getElem?_eq_getElem (by rw [turn_length dy hdy]; omega), ← hy]
        rfl
      rw [List.drop_eq_getElem_cons (by rw [turn_length dy hdy]; omega), ← hy] at hlay
      obtain ⟨no, hno⟩ : ∃ no, no = y * dx := ⟨_, rfl⟩
      obtain ⟨of, hof⟩ : ∃ of, of = kk * dx := ⟨_, rfl⟩
      have hfo : of + dx ≤ n := by rw [hof, ← Hn.out]; exact row_fits kk dx dy hlt
      have hfn : no + dx ≤ n := by rw [hno, ← Hn.out]; exact row_fits y dx dy hyl
      have hpg : pb ≠ g := by have := Hg.out; omega
      have hsrc : ∀ j v, (rowAt (byteCells pix) dx kk)[j]? = some v → wr.cell? ⟨pb, po + of + j, none⟩ = some v := fun j v hj => by
        refine (cell_far hgr pb _ (by have := Hg.out; omega) (by simpa using hpg)).trans ((Hb12.out.cell (p := ⟨pb, _, none⟩) hpb).trans ?_)
        rw [Nat.add_assoc]
        refine Hpc.out (of + j) v ?_
        rw [hof]
        simp only [rowAt, List.getElem?_take, List.getElem?_drop] at hj
        split at hj
        · exact hj
        · cases hj
      have hrl : (rowAt (byteCells pix) dx kk).length = dx := rowAt_length _ dx kk dy (by rw [byteCells_length, Hpl.out, ← Hn.out]) hlt
      have hd4 : decide ((kk : Int) < (dy : Int)) = true := by simp; omega
      have s0 : IntKind.i64.wrap ((y : Int) * dx) = (no : Int) := by rw [← Int.natCast_mul, hno]; exact IntWalk.i64_in _ (by rw [← hno]; omega)
      have t0 : IntKind.i64.wrap ((kk : Int) * dx) = (of : Int) := by rw [← Int.natCast_mul, hof]; exact IntWalk.i64_in _ (by rw [← hof]; omega)
      have s1 : IntKind.i64.wrap ((no : Int) + dx) = (no : Int) + dx := IntWalk.i64_in _ (by omega)
      have s2 : (0 : Int) ≤ (no : Int) + dx := by omega
      have s3 : ((no : Int) + dx).toNat = no + dx := by omega
      have s4 : (no : Int) + dx ≤ n := by omega
      have s5 : no ≤ no + dx := by omega
      have s6 : ¬ n = no := by omega
      have t4 : (of : Int) ≤ n := by omega
      have t5 : of ≤ n := by omega
      have t6 : ¬ c = of := by omega
      have hmin : dx = Nat.min (n - of) dx := (Nat.min_eq_right (by omega)).symm
      have HB := Lib.hid hB
      have Hcur := Lib.hid hcur
      have Hgr := Lib.hid hgr
      have Hlay := Lib.hid hlay
      have Hk := Lib.hid hk
      have Hno := Lib.hid hno
      have Hof := Lib.hid hof
      have Hrl := Lib.hid hrl
      have Hsrc := Lib.hid hsrc
      have Hmin := Lib.hid hmin
      clear hB hcur hgr hlay hk hno hof hrl hsrc hy hmin
      go_wp2
      go_region_law (refine step_copy_grown rfl (.tmp 30) (.tmp 35) 22 22 rfl 5 Tryd.underlying22 (by kernel_rfl) (some ⟨g, no, none⟩) (some ⟨pb, po + of, none⟩) dx (n - no) (n - of) (c - of) (by simp [Act.eval, Act.put]) (by simp [Act.eval, Act.put]) g no cur 5 HB.out (rowAt (byteCells pix) dx kk) (by rw [Hrl.out]; exact Hmin.out) (fun _ => ⟨rfl, _, rfl, fun j v hj => by rw [add_lit]; exact Hsrc.out j v hj⟩) (by rw [Hrl.out, Hcur.out]; omega) (fun v hv => byteCells_oneCell _ v (List.mem_of_mem_drop (List.mem_of_mem_take hv))) ?_; intro w7 hB7 hgr7)
      have hgr8 : w2.grownBy w7 (some g) := Hgr.out.trans ⟨hgr7.os, hgr7.tape, hgr7.output, hgr7.size, hgr7.block⟩
      have Hgr8 := Lib.hid hgr8
      clear hgr7 hgr8 s0 s1 s2 s3 s4 s5 s6 t0 t4 t5 t6 c0
      go_wp2
      go_roundg (dy - (kk + 1))
      case measure => have := Hk.out; omega
      case rel =>
        refine ⟨kk + 1, splice cur no (rowAt (byteCells pix) dx kk), by omega, by go_num, hB7.out, ?_, Hgr8.out, ?_⟩
        · rw [length_splice _ _ _ (by rw [Hrl.out, Hcur.out]; omega), Hcur.out]
        · rw [Hno.out]; exact Hlay.out
    · have e4 : kk = dy := by omega
      subst e4
      have hl : FinalOf (byteCells pix) dx kk n = cur := by
        rw [← hlay, List.drop_eq_nil_of_le (by rw [turn_length kk hdy]; omega)]
        rfl
      have HB := Lib.hid hB
      have Hgr := Lib.hid hgr
      have Hl := Lib.hid hl
      clear hB hcur hgr hlay hk hl
      go_wp2
      go_ret
      exact ⟨g, rfl, by have := Hg.out; omega, by rw [Hl.out]; exact HB.out, below_grown Hb12.out (by have := Hg.out; omega) Hgr.out (by have := Hg.out; omega)⟩
end Go.Proofs.YthlhcfjpijilaaaDoor
