/- (*gif.blockReader).Read where bytes lie at hand: the walk. -/
import Derived.Test.YthlhcfjpijilaaaDoorBrR
namespace Go.Proofs.YthlhcfjpijilaaaDoor
open Go Go.ChangeShapes Go.WideShapes Go.ChangeAt Go.RowKit Go.Lib

theorem remOf_length (tmp : List UInt8) (bi bj : Nat) (ht : tmp.length = 1024) (hj : bj ≤ 255) : (remOf tmp bi bj).length = bj - bi := by
  unfold remOf
  rw [List.length_take, List.length_drop, ht]
  omega

set_option maxRecDepth 100000 in
set_option maxHeartbeats 1000000 in
theorem brhave (w : World) (B : Nat) (a1 a2 : Addr) (K D R O n c i bi bj m mc off k : Nat) (A dp : Option Addr) (l tmp : List UInt8) (cur : List Value) (T : TypeId) (hE : BrEnv w B a1 a2 K D R A l n c) (hb : BrAt w K D R A n c i bi bj .nilIface tmp) (hij : bi < bj) (hj : bj ≤ 255)
    (hO : Blk w O T cur.toArray) (hOK : O ≠ K) (hOD : O ≠ D) (hOR : O ≠ R) (hm : 0 < m) (hmm : m ≤ maxLen) (hk : k = Nat.min (bj - bi) m) (hdp : dp = some ⟨O, off, none⟩) (hfit : off + m ≤ cur.length) :
    Calls Tryd.prog 72 #[.pointer (some ⟨K, 0, none⟩), .slice dp m mc] w fun e w' => e = .returned (.tuple #[.int .i64 (k : Int), .nilIface]) ∧
      BrAt w' K D R A n c i (bi + k) bj .nilIface tmp ∧ Blk w' O T (splice cur off (byteCells ((remOf tmp bi bj).take k))).toArray ∧ Trn [R, D, K, O] w w' := by
  subst hdp
  have hkn : k ≤ bj - bi := by rw [hk]; exact Nat.min_le_left _ _
  have hkm : k ≤ m := by rw [hk]; exact Nat.min_le_right _ _
  obtain ⟨⟨pr, hR⟩, hD, hK, ht⟩ := hb
  have c0 : w.cell? ⟨K, 0, none⟩ = some (.pointer (some ⟨D, 0, none⟩)) := hK.cell 0
  have c1 : w.cell? ⟨K, 1, none⟩ = some (.int .u8 (bi : Int)) := hK.cell 1
  have c2 : w.cell? ⟨K, 2, none⟩ = some (.int .u8 (bj : Int)) := hK.cell 2
  have c3 : w.cell? ⟨K, 3, none⟩ = some .nilIface := hK.cell 3
  have hx0 : ((m : Int) == 0) = false := by simp; omega
  have hx1 : ((bi : Int) == (bj : Int)) = false := by simp; omega
  have qnn := eql_nil_nil
  have hrl := remOf_length tmp bi bj ht hj
  have hlen : (byteCells ((remOf tmp bi bj).take k)).length = k := by rw [byteCells_length, List.length_take, hrl]; omega
  have hsrc : ∀ j v, (byteCells ((remOf tmp bi bj).take k))[j]? = some v → w.cell? ⟨D, 15 + bi + j, none⟩ = some v := fun j v hv => by
    have hjk : j < k := by have := (List.getElem?_eq_some_iff.1 hv).1; rw [hlen] at this; exact this
    rw [hD.cell]
    have h2 : (decCells R tmp)[15 + (bi + j)]? = some v := by
      rw [dec_at, ← hv]
      unfold remOf byteCells
      rw [List.getElem?_map, List.getElem?_map, List.getElem?_take, if_pos hjk, List.getElem?_take, if_pos (by omega), List.getElem?_drop]
    rw [Nat.add_assoc]
    simpa using h2
  have hsl := fun (wx : World) => slice1024lh wx D 15 bi bj (by omega) (by omega)
  have Hk := Lib.hid hk
  have HR := Lib.hid hR
  have HD := Lib.hid hD
  have HK := Lib.hid hK
  have HO := Lib.hid hO
  have HE := Lib.hid hE
  have Ht := Lib.hid ht
  have Hlen := Lib.hid hlen
  have Hsrc := Lib.hid hsrc
  have Hmm := Lib.hid hmm
  clear hR hD hK hO hE ht hlen hsrc hk hrl hmm
  go_enter Tryd.func72, Tryd.ntmps72
  go_wp2
  go_quiet (fail)
  go_wp2
  go_region_law (refine step_copy_grown rfl (.tmp 41) (.tmp 56) 22 22 rfl 5 Tryd.underlying22 (by kernel_rfl) (some ⟨O, off, none⟩) (some ⟨D, 15 + bi, none⟩) m mc (bj - bi) (1024 - bi) (by simp [Act.eval, Act.put]) (by simp [Act.eval, Act.put]) O off cur T HO.out (byteCells ((remOf tmp bi bj).take k)) (by rw [Hlen.out]; exact Hk.out) (fun _ => ⟨rfl, _, rfl, fun j v hv => by rw [add_lit]; exact Hsrc.out j v hv⟩) (by rw [Hlen.out]; omega) (byteCells_oneCell _) ?_; intro w7 hB7 hgr7; rw [Hlen.out])
  all_goals
    have hg0 : w.grownBy w7 (some O) := ⟨hgr7.os, hgr7.tape, hgr7.output, hgr7.size, hgr7.block⟩
    have hK7 := HK.out.grown hg0 (by simpa using fun e : K = O => hOK e.symm)
    have hD7 := HD.out.grown hg0 (by simpa using fun e : D = O => hOD e.symm)
    have hR7 := HR.out.grown hg0 (by simpa using fun e : R = O => hOR e.symm)
    have k1 : w7.cell? ⟨K, 1, none⟩ = some (.int .u8 (bi : Int)) := hK7.cell 1
    have g1 : w7.frozen? ⟨K, 1, none⟩ = false := hK7.frozen 1
    have HB7 := Lib.hid (show BrAt w7 K D R A n c i bi bj .nilIface tmp from ⟨⟨_, hR7⟩, hD7, hK7, Ht.out⟩)
    have HT7 := Lib.hid ((Trn.refl [R, D, K, O] w).grown hg0 (by simp))
    clear hgr7 hg0 hK7 hD7 hR7 HR HD HK c0 c1 c2 c3
    have hu : (bi : Int) + (k : Int) ≤ 255 := by omega
    go_wp2
    go_ret2
    refine ⟨rfl, ?_, hB7.out.far hOK _, HT7.out.set_ (by simp) _ _⟩
    have h := HB7.out.setI HE.out.kd HE.out.kr (bi + k)
    rw [Int.natCast_add] at h
    exact h
end Go.Proofs.YthlhcfjpijilaaaDoor
