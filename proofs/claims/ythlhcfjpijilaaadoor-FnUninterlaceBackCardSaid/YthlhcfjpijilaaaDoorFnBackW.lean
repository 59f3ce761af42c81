/- The walk of laws.FnUninterlaceBack: all ways return true. -/
import Derived.Test.YthlhcfjpijilaaaDoorFnUnW
import Derived.Test.YthlhcfjpijilaaaDoorLaceBack
namespace Go.Proofs.YthlhcfjpijilaaaDoor
open Go Go.ChangeShapes Go.WideShapes Go.ChangeAt Go.RowKit Go.Lib Go.Deep

def Far2 (B S : Nat) (v : Value) : Prop := ∀ k, v.ownBlock = some k → k = B ∨ S ≤ k
theorem far2_step {B S n : Nat} {v v' : Value} (h : Far2 B S v) (h' : v'.ownBlock = v.ownBlock ∨ v'.ownBlock = some n) (hn : S ≤ n) : Far2 B S v' := fun k hk => by
  rcases h' with e | e
  · exact h k (e ▸ hk)
  · rw [e] at hk
    cases hk
    exact Or.inr hn
theorem rowAt_bytes (pix : List UInt8) (dx k : Nat) : rowAt (byteCells pix) dx k = byteCells (rowAt pix dx k) := by simp [rowAt, byteCells, List.map_take, List.map_drop]

def BackRel (w w2 : World) (B dx dy : Nat) (pix : List UInt8) (k : Nat) (v i : Value) (wr : World) : Prop :=
  ∃ kk, k + kk = dy ∧ i = .int .i64 ((kk : Nat) : Int) ∧ wr.ownsRow B 5 1 v (dx * kk) (byteCells (gather pix dx ((turn dy).take kk))) ∧ Below w.heap.size w wr ∧ w2.heap.size ≤ wr.heap.size ∧ Far2 B w2.heap.size v ∧
    (∀ b o, B < b → b < w2.heap.size → wr.cell? ⟨b, o, none⟩ = w2.cell? ⟨b, o, none⟩)

set_option maxRecDepth 100000 in
set_option maxHeartbeats 1000000 in
theorem fnback_main (w : World) (A : Option Addr) (n c dx dy tb to : Nat) (pix : List UInt8) (hdx : dx ≤ 255) (hdx0 : 0 < dx) (hdy : dy ≤ 255) (hdy0 : 0 < dy) (hn : dx * dy = n) (hpl : pix.length = n) (hc : n ≤ c)
   (hpix : Reads w w.heap.size A (byteCells pix)) (ht : PTab w tb to) :
   Calls Tryd.prog 4 #[.slice A n c, .int .u8 dx, .int .u8 dy] w fun e w' => e = .returned (.bool true) ∧ Below w.heap.size w w' := by
  have hnb : n ≤ 65025 := by rw [← hn]; exact Nat.mul_le_mul hdx hdy
  have hn0 : 0 < n := by rw [← hn]; exact Nat.mul_pos hdx0 hdy0
  obtain ⟨i0, hi, hz0, hz1, hz2⟩ := info_parts info5
  have hmul : ((n : Int) != wrap64 ((dx : Int) * dy)) = false := by
    rw [← Int.natCast_mul, hn, IntWalk.wrap64_in _ (by omega)]
    simp
  have ez : ((dx : Int) == 0) = false := by simp; omega
  have ew : ((dy : Int) == 0) = false := by simp; omega
  have ebig : decide ((2147483647 : Int) < (n : Int)) = false := by simp; omega
  obtain ⟨pb, po, rfl, hpb, hpc⟩ := hpix (by rw [byteCells_length]; omega)
  have Hpix := Lib.hid hpix
  have Hpc := Lib.hid hpc
  have Hn := Lib.hid hn
  have Hpl := Lib.hid hpl
  have Ht := Lib.hid ht
  clear hpix hpc hn hpl ht
  go_enter Tryd.func4, Tryd.ntmps4
  go_wp2_with fail
  clear hmul ez ew
  have hown1 : (w.alloc (.cells #[] 5)).ownsRow w.heap.size 5 1 (.slice (some ⟨w.heap.size, 0, none⟩) 0 0) 0 [] := World.ownsRow_made w #[] 0 (Nat.le_refl _) (Nat.zero_le _) rfl
  have hb1 := (Below.refl w.heap.size w).alloc (Nat.le_refl _) (.cells #[] 5)
  have hs1 : (w.alloc (.cells #[] 5)).heap.size = w.heap.size + 1 := by simp
  revert hown1 hb1 hs1
  generalize w.alloc (.cells #[] 5) = w1
  intro hown1 hb1 hs1
  refine (turn_any w1 dy hdy).mono ?_
  rintro e w2 ⟨T, tc, rfl, htown, hb2⟩
  have hs2 := hb2.size
  obtain ⟨ttb, tto, rfl, httb, htc⟩ := (Reads.of_own htown) (by simp [intCells, turn_length dy hdy]; omega)
  have htB : w.heap.size < ttb := by have := (htown.lt ttb rfl).1; omega
  have hown2 : w2.ownsRow w.heap.size 5 1 (.slice (some ⟨w.heap.size, 0, none⟩) 0 0) 0 [] := hown1.kept (grownBy_of_below hb2 none) (Or.inr (by simp [Value.ownBlock]))
  have hb12 := hb1.trans (hb2.mono (by omega))
  have hs3 : w.heap.size < w2.heap.size := by omega
  obtain ⟨B, hB⟩ : ∃ B, B = w.heap.size := ⟨_, rfl⟩
  rw [← hB] at hown2 htB hs3 ⊢
  have HB := Lib.hid hB
  have Hown2 := Lib.hid hown2
  have Htc := Lib.hid htc
  have Hb12 := Lib.hid hb12
  clear hown1 hb1 hs1 hb2 htown htc hown2 hb12 hB hs2
  go_wp2_with fail
  clear ebig
  go_loopg [9, 37] dy (fun k v i wr => BackRel w w2 B dx dy pix k v i wr)
  case atStart => exact ⟨0, rfl, rfl, Hown2.out, Hb12.out, Nat.le_refl _, fun k hk => Or.inl (by simpa [Value.ownBlock] using hk.symm), fun _ _ _ _ => rfl⟩
  case round =>
    obtain ⟨kk, hk, rfl, hown, hbel, hsz, hfar, hold⟩ := hrel
    by_cases hlt : kk < dy
    · obtain ⟨y, hy⟩ : ∃ y, y = (turn dy)[kk]'(by rw [turn_length dy hdy]; omega) := ⟨_, rfl⟩
      have hyl : y < dy := turn_lt dy hdy y (by rw [hy]; exact List.getElem_mem _)
      have c0 : wr.cell? ⟨ttb, tto + kk, none⟩ = some (.int .i64 (y : Int)) := by
        refine (hold ttb _ htB httb).trans (Htc.out kk _ ?_)
        simp only [intCells, List.getElem?_map]
        rw [List.getElem?_eq_getElem (by rw [turn_length dy hdy]; omega), ← hy]
        rfl
      have hsnoc : gather pix dx ((turn dy).take (kk + 1)) = gather pix dx ((turn dy).take kk) ++ rowAt pix dx y := by
        rw [List.take_succ_eq_append_getElem (by rw [turn_length dy hdy]; omega), ← hy, gather_snoc]
      obtain ⟨no, hno⟩ : ∃ no, no = y * dx := ⟨_, rfl⟩
      have hfn : no + dx ≤ n := by rw [hno, ← Hn.out]; exact row_fits y dx dy hyl
      have hprod : (y : Int) * dx = no := by rw [hno, Int.natCast_mul]
      have hd4 : decide ((kk : Int) < (dy : Int)) = true := by simp; omega
      have hrl : (rowAt pix dx y).length = dx := rowAt_length _ dx y dy (by rw [Hpl.out, ← Hn.out]) hyl
      have hsrc : Reads wr w.heap.size (some ⟨pb, po + no, none⟩) (byteCells (rowAt pix dx y)) := fun _ => ⟨pb, po + no, rfl, hpb, fun j v hj => by
        refine (hbel.cell (p := ⟨pb, _, none⟩) hpb).trans ?_
        rw [Nat.add_assoc]
        refine Hpc.out (no + j) v ?_
        rw [hno]
        rw [← rowAt_bytes] at hj
        simp only [rowAt, List.getElem?_take, List.getElem?_drop] at hj
        split at hj
        · exact hj
        · cases hj⟩
      have hkn : dx * kk + dx ≤ 65025 := by
        have := row_fits kk dx dy hlt
        rw [Nat.mul_comm kk dx, Hn.out] at this
        omega
      have s6 : ¬ c = no := by omega
      have Hown := Lib.hid hown
      have Hbel := Lib.hid hbel
      have Hfar := Lib.hid hfar
      have Hold := Lib.hid hold
      have Hk := Lib.hid hk
      have Hno := Lib.hid hno
      have Hrl := Lib.hid hrl
      have Hsrc := Lib.hid hsrc
      have Hsnoc := Lib.hid hsnoc
      clear hown hbel hfar hold hk hno hrl hsrc hy hsnoc
      go_wp2_with (at_builtin; refine wpList_append_any rfl (.tmp 41) (.tmp 51) 22 rfl B 5 i0 (.int .u8 0) 1 1 Tryd.underlying22 hi hz0 hz1 hz2 rfl (by decide) _ (dx * kk) _ rfl Hown.out w.heap.size (some ⟨pb, po + no, none⟩) dx (c - no) (byteCells (rowAt pix dx y)) (by simp [Act.eval]) (by rw [byteCells_length, Hrl.out]; omega) Hsrc.out (byteCells_oneCell _) (by unfold maxLen; omega) (by omega) (by have := HB.out; have := Hbel.out.size; omega) ?_; intro v' w7 hown7 hgr7 hat7; have Hown7 := Lib.hid hown7; have Hgr7 := Lib.hid hgr7; have Hat7 := Lib.hid hat7; clear hown7 hgr7 hat7)
      go_roundg (dy - (kk + 1))
      case measure => have := Hk.out; omega
      case rel =>
        refine ⟨kk + 1, by omega, by go_num, ?_, ?_, Nat.le_trans hsz Hgr7.out.size, far2_step Hfar.out Hat7.out hsz, ?_⟩
        · rw [Hsnoc.out, byteCells_append, Nat.mul_add, Nat.mul_one]
          exact Hown7.out
        · exact Hbel.out.grown Hgr7.out Hbel.out.size (fun k hk => by have := HB.out; rcases Hfar.out k hk with h | h <;> omega)
        · intro b o h1 h2
          exact (cell_far Hgr7.out b o (by omega) (fun e => by rcases Hfar.out b e.symm with h | h <;> omega)).trans (Hold.out b o h1 h2)
    · have e4 : kk = dy := by omega
      subst e4
      rw [List.take_of_length_le (by rw [turn_length kk hdy]; omega)] at hown
      rw [Hn.out] at hown
      obtain ⟨A1, c1, rfl, _, _⟩ := own_slice hown
      have HL := Lib.hid (gather_length pix dx kk (by rw [Hpl.out, Hn.out]) (turn kk) (turn_lt kk hdy))
      rw [turn_length kk hdy, Hn.out] at HL
      have hst : straight (gather pix dx (turn kk)) dx kk n = pix := lay_gather pix dx kk hdx0 hdy (by rw [Hpl.out, Hn.out]) _ (by simp [Hn.out])
      have kp := conv_bytes c (w := wr.drew) (Hpix.out.below hbel.drew) Hpl.out hn0
      have Hown := Lib.hid hown
      have Hbel := Lib.hid hbel
      have Hst := Lib.hid hst
      clear hown hbel hfar hold hk hst
      go_wp2
      go_region_with (go_at_call 9; refine (iunlace_any _ A1 n c1 dx kk tb to (gather pix dx (turn kk)) hdx hdx0 hdy hdy0 Hn.out HL.out (by exact Reads.of_own Hown.out) (by exact (Ht.out.below Hbel.out).drew)).mono ?_; rintro e w3 ⟨A3, c3, rfl, hown3, hbel3⟩; rw [Hst.out, Hpl.out] at hown3 ⊢; have k3 := conv_bytes c3 (Reads.of_own hown3) Hpl.out hn0; have k4 := conv_bytes c (Hpix.out.reach (Hbel.out.trans ((below_of_drew hbel3).mono Hbel.out.size))) Hpl.out hn0; have Hbel3 := Lib.hid (below_of_drew (w := wr) hbel3); clear hown3 hbel3)
      all_goals
        clear k3 k4
        go_wp2
        go_ret
        refine ⟨rfl, ?_⟩
        have e := HB.out
        exact Hbel.out.trans (Hbel3.out.mono Hbel.out.size)
theorem fnback_big (w : World) (A : Option Addr) (n c dx dy : Nat) (hbig : 2147483647 < n) :
   Calls Tryd.prog 4 #[.slice A n c, .int .u8 dx, .int .u8 dy] w fun e w' => e = .returned (.bool true) ∧ Below w.heap.size w w' := by
  have h1 : (2147483647 : Int) < (n : Int) := by omega
  go_enter Tryd.func4, Tryd.ntmps4
  go_wp2
  go_ret
  exact ⟨rfl, Below.refl _ _⟩
theorem fnback_x0 (w : World) (A : Option Addr) (n c dy : Nat) (hbig : n ≤ 2147483647) :
   Calls Tryd.prog 4 #[.slice A n c, .int .u8 0, .int .u8 dy] w fun e w' => e = .returned (.bool true) ∧ Below w.heap.size w w' := by
  have h1 : (n : Int) ≤ (2147483647 : Int) := by omega
  go_enter Tryd.func4, Tryd.ntmps4
  go_wp2
  go_ret
  exact ⟨rfl, Below.refl _ _⟩
theorem fnback_y0 (w : World) (A : Option Addr) (n c dx : Nat) (hbig : n ≤ 2147483647) (hdx : dx ≤ 255) (hx : 0 < dx) :
   Calls Tryd.prog 4 #[.slice A n c, .int .u8 dx, .int .u8 0] w fun e w' => e = .returned (.bool true) ∧ Below w.heap.size w w' := by
  have h1 : (n : Int) ≤ (2147483647 : Int) := by omega
  have ez : ((dx : Int) == 0) = false := by simp; omega
  go_enter Tryd.func4, Tryd.ntmps4
  go_wp2
  go_ret
  exact ⟨rfl, Below.refl _ _⟩
theorem fnback_ne (w : World) (A : Option Addr) (n c dx dy : Nat) (hbig : n ≤ 2147483647) (hdx : dx ≤ 255) (hx : 0 < dx) (hdy : dy ≤ 255) (hy : 0 < dy) (hn : dx * dy ≠ n) :
   Calls Tryd.prog 4 #[.slice A n c, .int .u8 dx, .int .u8 dy] w fun e w' => e = .returned (.bool true) ∧ Below w.heap.size w w' := by
  have h1 : (n : Int) ≤ (2147483647 : Int) := by omega
  have ez : ((dx : Int) == 0) = false := by simp; omega
  have ew : ((dy : Int) == 0) = false := by simp; omega
  have hmul : ((n : Int) != wrap64 ((dx : Int) * dy)) = true := by
    have h2 : dx * dy ≤ 255 * 255 := Nat.mul_le_mul hdx hdy
    rw [← Int.natCast_mul, IntWalk.wrap64_in _ (by omega), bne_iff_ne]
    omega
  clear hn
  go_enter Tryd.func4, Tryd.ntmps4
  go_wp2
  go_ret
  exact ⟨rfl, Below.refl _ _⟩

theorem fnback_any (w : World) (A : Option Addr) (n c dx dy tb to : Nat) (pix : List UInt8) (hdx : dx ≤ 255) (hdy : dy ≤ 255) (hpl : pix.length = n) (hc : n ≤ c) (hpix : Reads w w.heap.size A (byteCells pix)) (ht : PTab w tb to) :
   Calls Tryd.prog 4 #[.slice A n c, .int .u8 dx, .int .u8 dy] w fun e w' => e = .returned (.bool true) ∧ Below w.heap.size w w' := by
  by_cases hbig : 2147483647 < n
  · exact fnback_big w A n c dx dy hbig
  · rcases Nat.eq_zero_or_pos dx with rfl | hx
    · exact fnback_x0 w A n c dy (by omega)
    · rcases Nat.eq_zero_or_pos dy with rfl | hy
      · exact fnback_y0 w A n c dx (by omega) hdx hx
      · by_cases hn : dx * dy = n
        · exact fnback_main w A n c dx dy tb to pix hdx hx hdy hy hn hpl hc hpix ht
        · exact fnback_ne w A n c dx dy (by omega) hdx hx hdy hy hn

end Go.Proofs.YthlhcfjpijilaaaDoor
