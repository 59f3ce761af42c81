/- (*gif.decoder).readColorTable over a bytes.Reader: the walk. -/
import Derived.Test.YthlhcfjpijilaaaDoorRal
import Derived.Test.YthlhcfjpijilaaaDoorShadeW
import Derived.Test.YthlhcfjpijilaaaDoorUnlace
import Derived.Great.BuildSlice
import Derived.BigRegion
namespace Go.Proofs.YthlhcfjpijilaaaDoor
open Go Go.ChangeShapes Go.WideShapes Go.ChangeAt Go.RowKit Go.Lib

/-- The cells of a decoder ahead of its buffer. -/
def decPre (R : Nat) : List Value := [.iface 73 (.pointer (some ⟨R, 0, none⟩)), .string ⟨#[]⟩, .int .i64 0, .int .i64 0, .int .i64 0, .int .i64 0, .int .u8 0, .int .u8 0, .int .u8 0, .int .u8 0, .bool false, .slice none 0 0, .slice none 0 0, .slice none 0 0, .slice none 0 0]
def decCells (R : Nat) (tmp : List UInt8) : List Value := decPre R ++ byteCells tmp
theorem decBuilt (R : Nat) : Tryd.prog.built 80 [(0, .iface 73 (.pointer (some ⟨R, 0, none⟩)))] = some (decCells R (List.replicate 1024 0)).toArray := by kernel_rfl

/-- k bytes laid over the head of the buffer. -/
def over (tmp new : List UInt8) : List UInt8 := new ++ tmp.drop new.length
theorem dec_splice (R : Nat) (tmp new : List UInt8) : splice (decCells R tmp) 15 (byteCells new) = decCells R (over tmp new) := by
  unfold splice decCells over
  have h1 : (decPre R ++ byteCells tmp).take 15 = decPre R := by
    rw [List.take_append_of_le_length (by simp [decPre])]
    simp [decPre]
  have h2 : (decPre R ++ byteCells tmp).drop (15 + (byteCells new).length) = byteCells (tmp.drop new.length) := by
    have : (decPre R ++ byteCells tmp).drop ((decPre R).length + (byteCells new).length) = (byteCells tmp).drop (byteCells new).length := List.drop_length_add_append ..
    have e : (decPre R).length = 15 := rfl
    rw [e] at this
    rw [this]
    simp [byteCells]
  rw [h1, h2]
  simp [byteCells]
theorem over_length (tmp new : List UInt8) (h : new.length ≤ tmp.length) : (over tmp new).length = tmp.length := by simp [over]; omega
theorem over_at (tmp new : List UInt8) (j : Nat) (h : j < new.length) : (over tmp new)[j]? = new[j]? := by simp [over, List.getElem?_append_left h]
theorem dec_at (R : Nat) (tmp : List UInt8) (j : Nat) : (decCells R tmp)[15 + j]? = (byteCells tmp)[j]? := by
  unfold decCells
  rw [List.getElem?_append_right (by simp [decPre])]
  simp [decPre]

theorem slice1024 (w : World) (g off N : Nat) (hN : N ≤ 1024) :
    (Instr.sliceAt 78 (.pointer (some ⟨g, off, none⟩)) none (some (.int .i64 (N : Int))) none).run Tryd.prog w = .ok (.slice (some ⟨g, off, none⟩) N 1024) w := by
  have h := run_sliceAt_array_h (P := Tryd.prog) (w := w) (a := ⟨g, off, none⟩) (t := 78) (by kernel_rfl) .i64 (N : Int) (by omega) (by rw [show Tryd.prog.arrayLen 78 = 1024 from by kernel_rfl]; omega)
  rw [h]
  have hs : (Go.sizeOf (Tryd.prog.elem 78)).run Tryd.prog w = .ok 1 w := by kernel_rfl
  have hl : Tryd.prog.arrayLen 78 = 1024 := by kernel_rfl
  rw [hs, hl]
  simp [slicedAt, Result.andThen, Addr.add]

/-- The colors that the bytes spell. -/
def shAt (l : List UInt8) (j : Nat) : Sh := ⟨l.getD (3 * j) 0, l.getD (3 * j + 1) 0, l.getD (3 * j + 2) 0, 255⟩
def shOf (l : List UInt8) (N : Nat) : List Sh := (List.range N).map (shAt l)
theorem shOf_length (l : List UInt8) (N : Nat) : (shOf l N).length = N := by simp [shOf]

/-- The palette in the making: kk colors, none behind them. -/
def rctRow (tm : List UInt8) (N kk : Nat) : List Value := palCells 84 (shOf tm kk) ++ List.replicate (N - kk) .nilIface
theorem shOf_succ (tm : List UInt8) (kk : Nat) : shOf tm (kk + 1) = shOf tm kk ++ [shAt tm kk] := by simp [shOf, List.range_succ]
theorem palCells_length (T : TypeId) (l : List Sh) : (palCells T l).length = l.length := by simp [palCells]
theorem rctRow_at (tm : List UInt8) (N kk : Nat) (h : kk < N) : (rctRow tm N kk).toArray[kk]? = some .nilIface := by
  unfold rctRow
  rw [List.getElem?_toArray, List.getElem?_append_right (by rw [palCells_length, shOf_length]; omega), palCells_length, shOf_length, Nat.sub_self, List.getElem?_replicate, if_pos (by omega)]
theorem rctRow_set (tm : List UInt8) (N kk : Nat) (h : kk < N) : (rctRow tm N kk).toArray.setIfInBounds kk ((shAt tm kk).iface 84) = (rctRow tm N (kk + 1)).toArray := by
  unfold rctRow
  rw [List.setIfInBounds_toArray, shOf_succ, List.set_append_right _ _ (by rw [palCells_length, shOf_length]; omega), palCells_length, shOf_length, Nat.sub_self, show N - kk = (N - (kk + 1)) + 1 by omega, List.replicate_succ, List.set_cons_zero]
  simp [palCells]
def RctRel (w2 : World) (tm : List UInt8) (G N g : Nat) (jv iv : Value) (wr : World) : Prop :=
  ∃ kk, g + kk = N ∧ jv = .int .i64 ((3 * kk : Nat) : Int) ∧ iv = .int .i64 ((kk : Nat) : Int) ∧ Blk wr G 83 (rctRow tm N kk).toArray ∧ w2.grownBy wr (some G)
theorem blk_madeN (w : World) (n : Nat) (tm : List UInt8) : Blk (w.alloc (.cells (madeCells #[Value.nilIface] n) 83)) w.heap.size 83 (rctRow tm n 0).toArray := by
  have h := Blk.new w 83 (madeCells #[Value.nilIface] n)
  have e : madeCells #[Value.nilIface] n = (rctRow tm n 0).toArray := by
    apply Array.ext'
    rw [toList_madeCells_one]
    simp [rctRow, palCells, shOf]
  exact e ▸ h

set_option maxRecDepth 100000 in
set_option maxHeartbeats 2000000 in
theorem rct_any (w : World) (B : Nat) (a1 a2 : Addr) (R D n c f N : Nat) (pr : Int) (A : Option Addr) (l tmp : List UInt8) (hf : f ≤ 255) (hN : 2 ^ (f % 8 + 1) = N) (hS : Sent B a1 a2 w) (hR : Blk w R 100 (rdCells A n c 0 pr)) (hD : Blk w D 80 (decCells R tmp).toArray) (ht : tmp.length = 1024) (hRD : R ≠ D)
    (hBR : B ≤ R) (hBD : B ≤ D) (hA : Reads w B A (byteCells l)) (hl : l.length = n) (hnc : n ≤ c) (hc : c ≤ maxLen) :
    Calls Tryd.prog 31 #[.pointer (some ⟨D, 0, none⟩), .int .u8 (f : Int)] w fun e w' =>
      (3 * N ≤ n → ∃ G, e = .returned (.tuple #[.slice (some ⟨G, 0, none⟩) N N, .nilIface]) ∧ B ≤ G ∧ Blk w' G 83 (palCells 84 (shOf l N)).toArray) ∧
        (¬ 3 * N ≤ n → ∃ a, e = .returned (.tuple #[.slice none 0 0, errV a])) ∧ Below B w w' := by
  have hN256 : N ≤ 256 := by rw [← hN]; exact Nat.pow_le_pow_right (n := 2) (by omega) (show f % 8 + 1 ≤ 8 by omega)
  have hbits : bits BinOp.and IntKind.u8 (f : Int) 7 = ((f % 8 : Nat) : Int) := by
    have h : ∀ x : Fin 256, bits BinOp.and IntKind.u8 ((x.val : Nat) : Int) 7 = ((x.val % 8 : Nat) : Int) := by decide +kernel
    exact h ⟨f, by omega⟩
  have hk7 : f % 8 ≤ 7 := by omega
  have HS := Lib.hid hS
  have HR := Lib.hid hR
  have HD := Lib.hid hD
  have HA := Lib.hid hA
  have Hl := Lib.hid hl
  have Ht := Lib.hid ht
  clear hS hR hD hA hl ht
  go_enter Tryd.func31, Tryd.ntmps31
  go_wp2
  have hwp : wrap64 (2 ^ (1 + f % 8)) = (N : Int) := by
    have e : (2 : Int) ^ (1 + f % 8) = ((2 ^ (f % 8 + 1) : Nat) : Int) := by rw [Nat.add_comm]; simp
    rw [e, hN]
    exact IntWalk.wrap64_in _ (by omega)
  rw [hwp]
  clear hwp hbits
  obtain ⟨M, hM⟩ : ∃ M, M = 3 * N := ⟨_, rfl⟩
  have m0 : IntKind.i64.wrap (3 * (N : Int)) = (M : Int) := by rw [IntWalk.i64_in _ (by omega), hM]; omega
  have hsl := fun (wx : World) => slice1024 wx D 15 M (by omega)
  have c0 : w.cell? ⟨D, 0, none⟩ = some (.iface 73 (.pointer (some ⟨R, 0, none⟩))) := HD.out.cell 0
  have hM1024 : M ≤ 1024 := by omega
  have hfit : 15 + M ≤ (decCells R tmp).length := by have := Ht.out; simp [decCells, decPre, byteCells]; omega
  have HM := Lib.hid hM
  have HN := Lib.hid hN
  clear hM hN
  go_region_with (go_at_call 32; refine (full_any w.drew B a1 a2 R D n c 0 M 1024 15 pr A (some ⟨D, 15, none⟩) l (decCells R tmp) 80 HS.out.drew HR.out HD.out hRD hBR hBD HA.out Hl.out (Nat.zero_le _) hnc hc hM1024 (by decide) (fun _ => rfl) hfit).mono ?_; rintro e w1 ⟨rfl, hw1⟩; have Hw1 := Lib.hid hw1; clear hw1)
  have hb1 : Below B w w1 := (show Turns2 R D w w1 from ⟨Hw1.out.2.2.os, Hw1.out.2.2.tape, Hw1.out.2.2.output, Hw1.out.2.2.size, Hw1.out.2.2.block⟩).below hBR hBD (by have := HR.out.lt; omega)
  have Hb1 := Lib.hid hb1
  clear hb1 c0 m0 hsl
  by_cases hMn : M ≤ n
  · rw [show fullErr a2 n M = .nilIface from if_pos hMn]
    have hD1 : Blk w1 D 80 (decCells R (over tmp (l.take M))).toArray := by
      have h := Hw1.out.2.1
      rw [show Nat.min (n - 0) M = M from Nat.min_eq_right (by omega), List.drop_zero, dec_splice] at h
      exact h
    have hBw : B ≤ w1.heap.size := by have := hD1.lt; omega
    have hmk := run_make_row' (P := Tryd.prog) 53 83 .nilIface 16 Tryd.underlying53 infoCol rfl .i64 .i64 N (by omega) (by omega) w1.drew
    have HD1 := Lib.hid hD1
    clear hD1
    go_wp2
    go_region
    have hG : Blk ((w1.alloc (.cells (madeCells #[Value.nilIface] N) 83)).drew) w1.heap.size 83 (rctRow (over tmp (l.take M)) N 0).toArray := blk_madeN w1 N _
    have hD2 : Blk ((w1.alloc (.cells (madeCells #[Value.nilIface] N) 83)).drew) D 80 (decCells R (over tmp (l.take M))).toArray := HD1.out.alloc _
    have hb2 : Below B w ((w1.alloc (.cells (madeCells #[Value.nilIface] N) 83)).drew) := (fun h : Below B w (w1.alloc _) => ⟨h.os, h.tape, h.output, h.size, h.block⟩) (Hb1.out.alloc hBw _)
    have hDG : D ≠ w1.heap.size := by have := HD1.out.lt; omega
    clear hmk
    obtain ⟨G, hGe⟩ : ∃ G, G = w1.heap.size := ⟨_, rfl⟩
    rw [← hGe] at hG hDG hBw ⊢
    clear hGe
    generalize (w1.alloc (.cells (madeCells #[Value.nilIface] N) 83)).drew = w2 at *
    have Hb2 := Lib.hid hb2
    have HG := Lib.hid hG
    have HD2 := Lib.hid hD2
    have Hol := Lib.hid (show (over tmp (l.take M)).length = 1024 by rw [over_length _ _ (by rw [List.length_take, Ht.out]; omega), Ht.out])
    clear hb2 hG hD2 Hb1 HD1 Hw1
    obtain ⟨tm, htm⟩ : ∃ tm, tm = over tmp (l.take M) := ⟨_, rfl⟩
    rw [← htm] at HG HD2 Hol
    have Htm := Lib.hid htm
    clear htm
    go_wp2
    go_loopg [8, 34] N (fun g jv iv wr => RctRel w2 tm G N g jv iv wr)
    case atStart => exact ⟨0, by omega, rfl, rfl, HG.out, grownBy_refl _ _⟩
    case round =>
      obtain ⟨kk, hk, rfl, rfl, hg, hgr⟩ := hrel
      by_cases hlt : kk < N
      · have hd4 : decide ((kk : Int) < (N : Int)) = true := by simp; omega
        have hDr : Blk wr D 80 (decCells R tm).toArray := HD2.out.grown hgr (by simpa using hDG)
        obtain ⟨jj, hjj⟩ : ∃ jj, jj = 3 * kk := ⟨_, rfl⟩
        rw [← hjj]
        have hj : jj + 2 < 1024 := by have := HM.out; omega
        have ha : ∀ q, q < 3 → wr.cell? ⟨D, 15 + (jj + q), none⟩ = some (u8 (tm.getD (jj + q) 0)) := fun q hq => by
          rw [hDr.cell]
          have : (decCells R tm)[15 + (jj + q)]? = some (u8 (tm.getD (jj + q) 0)) := by
            rw [dec_at, byteCells_at (by rw [Hol.out]; omega), List.getD_eq_getElem?_getD, List.getElem?_eq_getElem (by rw [Hol.out]; omega)]
            rfl
          simpa using this
        have e0 : wr.cell? ⟨D, 15 + jj, none⟩ = some (.int .u8 ((tm.getD jj 0).toNat : Int)) := ha 0 (by omega)
        have e1 : wr.cell? ⟨D, 15 + (jj + 1), none⟩ = some (.int .u8 ((tm.getD (jj + 1) 0).toNat : Int)) := ha 1 (by omega)
        have e2 : wr.cell? ⟨D, 15 + (jj + 2), none⟩ = some (.int .u8 ((tm.getD (jj + 2) 0).toNat : Int)) := ha 2 (by omega)
        obtain ⟨v0, hv0⟩ : ∃ v0, v0 = tm.getD jj 0 := ⟨_, rfl⟩
        obtain ⟨v1, hv1⟩ : ∃ v1, v1 = tm.getD (jj + 1) 0 := ⟨_, rfl⟩
        obtain ⟨v2, hv2⟩ : ∃ v2, v2 = tm.getD (jj + 2) 0 := ⟨_, rfl⟩
        rw [← hv0] at e0
        rw [← hv1] at e1
        rw [← hv2] at e2
        have hsh : shAt tm kk = ⟨v0, v1, v2, 255⟩ := by rw [shAt, ← hjj, hv0, hv1, hv2]
        have Hsh := Lib.hid hsh
        clear hsh hv0 hv1 hv2
        have fg : wr.frozen? ⟨G, kk, none⟩ = false := hg.frozen kk
        have cg : ∃ u, wr.cell? ⟨G, kk, none⟩ = some u := ⟨.nilIface, by rw [hg.cell]; exact rctRow_at tm N kk hlt⟩
        obtain ⟨ug, cg⟩ := cg
        have t0 : IntKind.i64.wrap (jj : Int) = (jj : Int) := IntWalk.i64_in _ (by omega)
        have t1 : IntKind.i64.wrap ((jj : Int) + 1) = (jj : Int) + 1 := IntWalk.i64_in _ (by omega)
        have t2 : IntKind.i64.wrap ((jj : Int) + 2) = (jj : Int) + 2 := IntWalk.i64_in _ (by omega)
        have p1 : (0 : Int) ≤ (jj : Int) + 1 := by omega
        have p2 : (0 : Int) ≤ (jj : Int) + 2 := by omega
        have b0 : (jj : Int) < 1024 := by omega
        have b1 : (jj : Int) + 1 < 1024 := by omega
        have b2 : (jj : Int) + 2 < 1024 := by omega
        have n1 : ((jj : Int) + 1).toNat = jj + 1 := by omega
        have n2 : ((jj : Int) + 2).toNat = jj + 2 := by omega
        have Hg := Lib.hid hg
        have Hgr := Lib.hid hgr
        have Hk := Lib.hid hk
        have Hjj := Lib.hid hjj
        clear hg hgr hk hjj hDr ha
        go_wp2
        go_region
        all_goals
          go_wp2
          go_roundg (N - (kk + 1))
        case measure => have := Hk.out; omega
        case rel =>
          refine ⟨kk + 1, by omega, by have := Hjj.out; go_num, by go_num, ?_, ?_⟩
          · have h := Hg.out.set_ kk ((shAt tm kk).iface 84)
            rw [rctRow_set tm N kk hlt, Hsh.out] at h
            exact h
          · exact grownBy_drew (grownBy_setCell Hgr.out (Or.inl rfl) _)
      · obtain rfl : kk = N := by omega
        have Hg := Lib.hid hg
        have Hgr := Lib.hid hgr
        clear hg hgr hk
        go_wp2
        go_ret2
        refine ⟨fun _ => ⟨G, rfl, hBw, ?_⟩, fun h => absurd (show 3 * kk ≤ n by have := HM.out; omega) h, below_grown Hb2.out (by have := HG.out.lt; omega) Hgr.out hBw⟩
        have e : shOf tm kk = shOf l kk := by
          rw [Htm.out]
          refine List.map_congr_left fun j hj => ?_
          have hj' : j < kk := List.mem_range.1 hj
          have hx : ∀ q, q < 3 → (over tmp (l.take M)).getD (3 * j + q) 0 = l.getD (3 * j + q) 0 := fun q hq => by
            have hm := HM.out
            rw [List.getD_eq_getElem?_getD, List.getD_eq_getElem?_getD, over_at _ _ _ (by rw [List.length_take, Hl.out]; omega), List.getElem?_take, if_pos (by omega)]
          unfold shAt
          rw [show over tmp (l.take M) = over tmp (l.take M) from rfl, show (over tmp (l.take M)).getD (3 * j) 0 = l.getD (3 * j) 0 from hx 0 (by omega), hx 1 (by omega), hx 2 (by omega)]
        have h := Hg.out
        unfold rctRow at h
        rw [Nat.sub_self, List.replicate_zero, List.append_nil, e] at h
        exact h
  · rw [show fullErr a2 n M = errV a2 from if_neg hMn]
    go_wp2
    go_ret2
    refine ⟨fun h => absurd h (by have := HM.out; omega), fun _ => ⟨_, rfl⟩, ?_⟩
    exact Hb1.out.alloc (by have := Hb1.out.size; have := HR.out.lt; omega) _
end Go.Proofs.YthlhcfjpijilaaaDoor
