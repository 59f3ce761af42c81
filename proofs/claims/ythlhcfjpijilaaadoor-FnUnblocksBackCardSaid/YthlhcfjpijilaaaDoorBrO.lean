/- (*gif.blockReader).Read where the block is spent and a filling brings a block: the walk. -/
import Derived.Test.YthlhcfjpijilaaaDoorBrE
namespace Go.Proofs.YthlhcfjpijilaaaDoor
open Go Go.ChangeShapes Go.WideShapes Go.ChangeAt Go.RowKit Go.Lib

set_option maxRecDepth 100000 in
set_option maxHeartbeats 1000000 in
theorem brok (w : World) (B : Nat) (a1 a2 : Addr) (K D R O n c i bi m mc off k x : Nat) (A dp : Option Addr) (l tmp : List UInt8) (cur : List Value) (T : TypeId) (hE : BrEnv w B a1 a2 K D R A l n c) (hb : BrAt w K D R A n c i bi bi .nilIface tmp)
    (hx : x = (l.getD i 0).toNat) (hz : i < n ∧ 0 < x ∧ i + 1 + x ≤ n) (hO : Blk w O T cur.toArray) (hOK : O ≠ K) (hOD : O ≠ D) (hOR : O ≠ R) (hm : 0 < m) (hmm : m ≤ maxLen) (hk : k = Nat.min x m) (hdp : dp = some ⟨O, off, none⟩) (hfit : off + m ≤ cur.length) :
    Calls Tryd.prog 72 #[.pointer (some ⟨K, 0, none⟩), .slice dp m mc] w fun e w' => e = .returned (.tuple #[.int .i64 (k : Int), .nilIface]) ∧ ∃ tmp', remOf tmp' 0 x = (l.drop (i + 1)).take x ∧
      BrAt w' K D R A n c (i + 1 + x) k x .nilIface tmp' ∧ Blk w' O T (splice cur off (byteCells (((l.drop (i + 1)).take x).take k))).toArray ∧ Trn [R, D, K, O] w w' := by
  subst hdp
  have hkn : k ≤ x := by rw [hk]; exact Nat.min_le_left _ _
  have hkm : k ≤ m := by rw [hk]; exact Nat.min_le_right _ _
  have hx255 : x ≤ 255 := by rw [hx]; have := (l.getD i 0).toNat_lt; omega
  have c0 : w.cell? ⟨K, 0, none⟩ = some (.pointer (some ⟨D, 0, none⟩)) := hb.k.cell 0
  have c1 : w.cell? ⟨K, 1, none⟩ = some (.int .u8 (bi : Int)) := hb.k.cell 1
  have c2 : w.cell? ⟨K, 2, none⟩ = some (.int .u8 (bi : Int)) := hb.k.cell 2
  have c3 : w.cell? ⟨K, 3, none⟩ = some .nilIface := hb.k.cell 3
  have hx0 : ((m : Int) == 0) = false := by simp; omega
  have qnn := eql_nil_nil
  have hn : i ≤ n := by omega
  have HE := Lib.hid hE
  have HB := Lib.hid hb
  have HO := Lib.hid hO
  have Hx := Lib.hid hx
  have Hk := Lib.hid hk
  have Hmm := Lib.hid hmm
  clear hE hb hO hx hk hmm
  go_enter Tryd.func72, Tryd.ntmps72
  go_wp2
  go_quiet (fail)
  go_wp2_with fail
  refine (fill_any _ B a1 a2 K D R n c i bi bi A l tmp (HE.out.trn ((Trn.refl [] w).drewN _) (by simp)) (HB.out.drewN _) hn).mono ?_
  rintro e w1 ⟨rfl, i', bi', bj', ev', tmp', hF, hB1, hT1⟩
  have hF4 : ev' = .nilIface ∧ i' = i + 1 + x ∧ bi' = 0 ∧ x = bj' ∧ tmp' = over tmp ((l.drop (i + 1)).take x) := by
    have hxx := Hx.out
    rcases hF with ⟨h1, _⟩ | ⟨h1, h2, _⟩ | ⟨h1, h2, h3, _⟩ | ⟨_, _, _, h4, h5, h6, h7, h8⟩
    · omega
    · omega
    · omega
    · rw [← hxx] at h5 h7 h8
      exact ⟨h4, h5, h6, h7.symm, h8⟩
  obtain ⟨rfl, rfl, rfl, hbj, htm⟩ := hF4
  subst hbj
  have hll : ((l.drop (i + 1)).take x).length = x := by rw [List.length_take, List.length_drop, HE.out.l]; omega
  have hrem : remOf tmp' 0 x = (l.drop (i + 1)).take x := by
    rw [htm]
    unfold remOf over
    rw [List.drop_zero, Nat.sub_zero, List.take_append_of_le_length (by rw [hll]; omega), List.take_of_length_le (by rw [hll]; omega)]
  have HT1 := Lib.hid ((show Trn [R, D, K] w w1 from ⟨hT1.os, hT1.tape, hT1.output, hT1.size, hT1.block⟩).mono (S' := [R, D, K, O]) (fun x hx => by simp at hx ⊢; rcases hx with h | h | h <;> simp [h]))
  have HO1 := Lib.hid (Blk.trn HO.out (show Trn [R, D, K] w w1 from ⟨hT1.os, hT1.tape, hT1.output, hT1.size, hT1.block⟩) (by simp; exact ⟨hOR, hOD, hOK⟩))
  obtain ⟨⟨pr, hR1⟩, hD1, hK1, ht1⟩ := hB1
  have c0 : w1.cell? ⟨K, 0, none⟩ = some (.pointer (some ⟨D, 0, none⟩)) := hK1.cell 0
  have c1 : w1.cell? ⟨K, 1, none⟩ = some (.int .u8 0) := hK1.cell 1
  have c2 : w1.cell? ⟨K, 2, none⟩ = some (.int .u8 (x : Int)) := hK1.cell 2
  have k3 : w1.cell? ⟨K, 3, none⟩ = some .nilIface := hK1.cell 3
  have hrl := remOf_length tmp' 0 x ht1 hx255
  have hlen : (byteCells ((remOf tmp' 0 x).take k)).length = k := by rw [byteCells_length, List.length_take, hrl]; omega
  have hsrc : ∀ j v, (byteCells ((remOf tmp' 0 x).take k))[j]? = some v → w1.cell? ⟨D, 15 + j, none⟩ = some v := fun j v hv => by
    have hjk : j < k := by have := (List.getElem?_eq_some_iff.1 hv).1; rw [hlen] at this; exact this
    rw [hD1.cell]
    have h2 : (decCells R tmp')[15 + j]? = some v := by
      rw [dec_at, ← hv]
      unfold remOf byteCells
      rw [List.getElem?_map, List.getElem?_map, List.getElem?_take, if_pos hjk, List.getElem?_take, if_pos (by omega), List.getElem?_drop, Nat.zero_add]
    simpa using h2
  have hsl : ∀ wx : World, (Instr.sliceAt 78 (.pointer (some ⟨D, 15, none⟩)) (some (.int .u8 0)) (some (.int .u8 (x : Int))) none).run Tryd.prog wx = .ok (.slice (some ⟨D, 15, none⟩) x 1024) wx := fun wx => slice1024lh wx D 15 0 x (by omega) (by omega)
  have HR1 := Lib.hid hR1
  have HD1 := Lib.hid hD1
  have HK1 := Lib.hid hK1
  have Ht1 := Lib.hid ht1
  have Hlen := Lib.hid hlen
  have Hsrc := Lib.hid hsrc
  have Hrem := Lib.hid hrem
  clear c3 hT1 hR1 hD1 hK1 ht1 hlen hsrc hrem hll htm hF hrl
  go_wp2
  go_region_law (refine step_copy_grown rfl (.tmp 41) (.tmp 56) 22 22 rfl 5 Tryd.underlying22 (by kernel_rfl) (some ⟨O, off, none⟩) (some ⟨D, 15, none⟩) m mc x 1024 (by simp [Act.eval, Act.put]) (by simp [Act.eval, Act.put]) O off cur T HO1.out (byteCells ((remOf tmp' 0 x).take k)) (by rw [Hlen.out]; exact Hk.out) (fun _ => ⟨rfl, _, rfl, fun j v hv => by rw [add_lit]; exact Hsrc.out j v hv⟩) (by rw [Hlen.out]; omega) (byteCells_oneCell _) ?_; intro w7 hB7 hgr7; rw [Hlen.out])
  all_goals
    have hg0 : w1.grownBy w7 (some O) := ⟨hgr7.os, hgr7.tape, hgr7.output, hgr7.size, hgr7.block⟩
    have hK7 := HK1.out.grown hg0 (by simpa using fun e : K = O => hOK e.symm)
    have hD7 := HD1.out.grown hg0 (by simpa using fun e : D = O => hOD e.symm)
    have hR7 := HR1.out.grown hg0 (by simpa using fun e : R = O => hOR e.symm)
    have k1 : w7.cell? ⟨K, 1, none⟩ = some (.int .u8 0) := hK7.cell 1
    have g1 : w7.frozen? ⟨K, 1, none⟩ = false := hK7.frozen 1
    have HB7 := Lib.hid (show BrAt w7 K D R A n c (i + 1 + x) 0 x .nilIface tmp' from ⟨⟨_, hR7⟩, hD7, hK7, Ht1.out⟩)
    have HT7 := Lib.hid (HT1.out.grown hg0 (by simp))
    clear hgr7 hg0 hK7 hD7 hR7 c0 c1 c2 k3
    have hu : (k : Int) ≤ 255 := by omega
    go_wp2
    go_ret2
    refine ⟨rfl, tmp', Hrem.out, ?_, ?_, HT7.out.set_ (by simp) _ _⟩
    rotate_left
    · rw [← Hrem.out]
      exact hB7.out.far hOK _
    have h := HB7.out.setI HE.out.kd HE.out.kr k
    first | exact h | simpa using h
end Go.Proofs.YthlhcfjpijilaaaDoor
