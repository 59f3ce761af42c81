/- spec.Parted: what its blocks join to; the walk. -/
import Derived.Test.YthlhcfjpijilaaaDoorJoin
import Derived.Test.YthlhcfjpijilaaaDoorConv
import Derived.Deep.DeepCutAuto
namespace Go.Proofs.YthlhcfjpijilaaaDoor
open Go Go.ChangeShapes Go.WideShapes Go.ChangeAt Go.RowKit Go.Lib

/-- What is laid so far, with whatever lies behind it, joins to the first i bytes and what that joins to. -/
def PrtAt (data out : List UInt8) (i : Nat) : Prop := ∀ rest o s e, Jn rest o e s → Jn (out ++ rest) (data.take i ++ o) e s
theorem PrtAt.nil (data : List UInt8) : PrtAt data [] 0 := fun _ _ _ _ h => by simpa using h
theorem PrtAt.step {data out : List UInt8} {i n k : Nat} (h : PrtAt data out i) (kb : UInt8) (hk : kb.toNat = k) (hk0 : 0 < k) (hkn : k = ((data.drop i).take n).length) : PrtAt data (out ++ (kb :: (data.drop i).take n)) (i + n) := fun rest o s e hj => by
  have h1 := Jn.step kb ((data.drop i).take n ++ rest) o e s (by omega) (by rw [List.length_append]; omega) (by rw [hk, hkn, List.drop_left]; exact hj)
  rw [hk, hkn, List.take_left] at h1
  have h2 := h _ _ _ _ h1
  rw [List.take_add, List.append_assoc, List.append_assoc, List.cons_append]
  exact h2
theorem PrtAt.end_ {data out : List UInt8} {i : Nat} (h : PrtAt data out i) (hi : data.length ≤ i) (tail : List UInt8) : Jn (out ++ [0] ++ tail) data true tail := by
  have h1 := h (0 :: tail) [] tail true (.zero 0 tail rfl)
  rw [List.take_of_length_le hi, List.append_nil] at h1
  simpa using h1

def PrtRel (w : World) (data : List UInt8) (n z g : Nat) (v iv : Value) (wr : World) : Prop :=
  ∃ i out, g = n - i ∧ iv = .int .i64 ((i : Nat) : Int) ∧ i ≤ n + z ∧ PrtAt data out i ∧ out.length ≤ 2 * i ∧ wr.ownsRow w.heap.size 5 1 v out.length (byteCells out) ∧ Below w.heap.size w wr

theorem reads_one (w : World) (e : TypeId) (xs : List Value) (cs : Array Value) (h : cs = xs.toArray) : Reads (w.alloc (.cells cs e)) (w.heap.size + 1) (some ⟨w.heap.size, 0, none⟩) xs := fun _ =>
  ⟨w.heap.size, 0, rfl, Nat.lt_succ_self _, fun j u hu => by rw [(Blk.new w e cs).cell, Nat.zero_add, h]; simpa using hu⟩

theorem grown_undrew {a b : World} {row : Option Nat} (h : a.drew.grownBy b row) : a.grownBy b row := ⟨h.os, h.tape, h.output, h.size, h.block⟩

/-- What spec.Parted hands back. -/
def PrtOut (w : World) (data : List UInt8) (x : Ending) (w' : World) : Prop :=
  ∃ A c out, x = .returned (.slice A out.length c) ∧ w'.ownsRow w.heap.size 5 1 (.slice A out.length c) out.length (byteCells out) ∧ Below w.heap.size w w' ∧ out.length ≤ 262144 ∧ ∀ tail, Jn (out ++ tail) data true tail

set_option maxRecDepth 100000 in
set_option maxHeartbeats 2000000 in
theorem parted_any (w : World) (A : Option Addr) (n c z : Nat) (data : List UInt8) (hl : data.length = n) (hn : n ≤ 65536) (hnc : n ≤ c) (hz0 : 0 < z) (hz : z ≤ 255) (hr : Reads w w.heap.size A (byteCells data)) :
    Calls Tryd.prog 17 #[.slice A n c, .int .i64 (z : Int)] w fun x w' => PrtOut w data x w' := by
  obtain ⟨i0, hi, hz0, hz1, hz2⟩ := info_parts info5
  have Hr := Lib.hid hr
  have Hl := Lib.hid hl
  clear hr hl
  go_enter Tryd.func17, Tryd.ntmps17
  go_wp2
  go_loopg [5, 6] n (fun g v iv wr => PrtRel w data n z g v iv wr)
  case atStart => exact ⟨0, [], by omega, rfl, by omega, PrtAt.nil data, Nat.le_refl _, World.ownsRow_made w #[] 0 (Nat.le_refl _) (Nat.zero_le _) rfl, (Below.refl _ w).alloc (Nat.le_refl _) _⟩
  case round =>
    obtain ⟨i, out, hg, rfl, hiz, hp, hol, hown, hbel⟩ := hrel
    by_cases hlt : i < n
    · obtain ⟨b, off, rfl, hb, hc⟩ := Hr.out (by have := Hl.out; simp [byteCells]; omega)
      have hd : decide ((i : Int) < (n : Int)) = true := by simp; omega
      have b1 : (i : Int) ≤ 65536 := by omega
      have b2 : (n : Int) ≤ 65536 := by omega
      have b3 : (z : Int) ≤ 255 := by omega
      obtain ⟨k, hk⟩ : ∃ k, k = Nat.min z (n - i) := ⟨_, rfl⟩
      have hmin : (if (n : Int) - (i : Int) < (z : Int) then (n : Int) - (i : Int) else (z : Int)) = (k : Int) := by
        have e : Nat.min z (n - i) = min z (n - i) := rfl
        rw [hk, e]
        split <;> omega
      have hkz : k ≤ z := by rw [hk]; exact Nat.min_le_left _ _
      have hkn : k ≤ n - i := by rw [hk]; exact Nat.min_le_right _ _
      have hk0 : 0 < k := by have e : Nat.min z (n - i) = min z (n - i) := rfl; rw [hk, e]; omega
      have hll : ((data.drop i).take z).length = k := by
        have e : Nat.min z (n - i) = min z (n - i) := rfl
        rw [List.length_take, List.length_drop, Hl.out, hk, e]
      have hsrc : Reads wr w.heap.size (some ⟨b, off + i, none⟩) (byteCells ((data.drop i).take z)) := fun _ => ⟨b, off + i, rfl, hb, fun j u hu => by
        have hj : j < z := by have := (List.getElem?_eq_some_iff.1 hu).1; rw [byteCells_length, hll] at this; omega
        refine (hbel.cell (p := ⟨b, _, none⟩) hb).trans ?_
        rw [Nat.add_assoc]
        exact hc _ _ (by rw [← hu, take_drop_at data i z j hj])⟩
      have Hmin := Lib.hid hmin
      have Hg := Lib.hid hg
      have Hp := Lib.hid hp
      have Hol := Lib.hid hol
      have Hown := Lib.hid hown
      have Hbel := Lib.hid hbel
      have Hk := Lib.hid hk
      have Hkz := Lib.hid hkz
      have Hkn := Lib.hid hkn
      have Hll := Lib.hid hll
      have Hsrc := Lib.hid hsrc
      have Hb1 := Lib.hid (show out.length + 1 + k ≤ 524288 by omega)
      clear hg hp hol hown hbel hc hk hmin hkz hkn hll hsrc
      go_upto_region 6 with (fail)
      rw [Hmin.out]
      have b4 : (k : Int) ≤ 255 := by have := Hkz.out; omega
      have b5 : (0 : Int) ≤ (k : Int) := by omega
      have p1 : (0 : Int) ≤ (i : Int) + (k : Int) := by omega
      have p2 : (i : Int) ≤ (i : Int) + (k : Int) := by omega
      have p3 : (i : Int) + (k : Int) ≤ (c : Int) := by have := Hkn.out; omega
      have p4 : ((i : Int) + (k : Int)).toNat = i + k := by omega
      have p6 : ¬ c = i := by omega
      have p7 : i + k - i = k := by omega
      have p8 : IntKind.i64.wrap ((i : Int) + (k : Int)) = (i : Int) + (k : Int) := IntWalk.i64_in _ (by omega)
      have p9 : IntKind.u8.wrap (k : Int) = (k : Int) := by simp [IntKind.wrap, IntKind.signed, IntKind.bits]; omega
      have hsz : w.heap.size ≤ wr.heap.size := Hbel.out.size
      go_region_law (first
        | (refine step_append_any rfl (.tmp 22) (.tmp 25) 22 rfl w.heap.size 5 i0 (.int .u8 0) 1 1 Tryd.underlying22 hi hz0 hz1 hz2 rfl (by decide) _ out.length _ rfl (Hown.out.drew.alloc _) (wr.heap.size + 1) (some ⟨wr.heap.size, 0, none⟩) 1 1 [.int .u8 (k : Int)] rfl rfl (reads_one wr.drew _ _ _ rfl) (by simp [Value.oneCell']) (by have := Hb1.out; unfold maxLen; omega) (by have := Hb1.out; omega) (by simp; omega) ?_; intro v7 w7 hown7 hgr7 hat7; have Hown7 := Lib.hid hown7; have Hgr7 := Lib.hid (show wr.grownBy w7 u5.ownBlock from grown_undrew ((World.grownBy_alloc wr.drew _ _).trans hgr7)); have hlt7 : wr.heap.size + 1 ≤ w7.heap.size := (by have := hgr7.size; simpa using this); clear hown7 hgr7 hat7)
        | (refine step_append_any rfl (.tmp 26) (.tmp 32) 22 rfl w.heap.size 5 i0 (.int .u8 0) 1 1 Tryd.underlying22 hi hz0 hz1 hz2 rfl (by decide) _ (out.length + 1) _ rfl Hown7.out w.heap.size (some ⟨b, off + i, none⟩) k (c - i) (byteCells ((data.drop i).take z)) rfl (by rw [byteCells_length, Hll.out, Nat.mul_one]) (Hsrc.out.grown Hgr7.out hsz (fun g hg => (Hown.out.lt g hg).1)) (byteCells_oneCell _) (by have := Hb1.out; unfold maxLen; omega) (by have := Hb1.out; omega) (by omega) ?_; intro v8 w8 hown8 hgr8 hat8; have Hown8 := Lib.hid hown8; have Hgr8 := Lib.hid (show w7.grownBy w8 v7.ownBlock from hgr8); clear hown8 hgr8 hat8))
      all_goals
        have b6 : (z : Int) ≤ 255 := b3
        clear p1 p2 p3 p4 p6 p7 p8 p9
        go_wp2
        go_roundg (n - (i + z))
      case measure => have := Hg.out; omega
      case rel =>
        refine ⟨i + z, out ++ (UInt8.ofNat k :: (data.drop i).take z), rfl, by go_num, by omega, Hp.out.step (UInt8.ofNat k) ?_ hk0 Hll.out.symm, ?_, ?_, ?_⟩
        · rw [UInt8.toNat_ofNat']; omega
        · rw [List.length_append, List.length_cons, Hll.out]; have := Hol.out; have := Hkz.out; omega
        · have h8 := Hown8.out
          have e1 : (out ++ (UInt8.ofNat k :: (data.drop i).take z)).length = out.length + 1 + k := by rw [List.length_append, List.length_cons, Hll.out]; omega
          have e2 : byteCells (out ++ (UInt8.ofNat k :: (data.drop i).take z)) = byteCells out ++ [.int .u8 (k : Int)] ++ byteCells ((data.drop i).take z) := by
            have e3 : (UInt8.ofNat k).toNat = k := by rw [UInt8.toNat_ofNat']; omega
            rw [byteCells_append, List.append_assoc]
            congr 1
            show Value.int .u8 (((UInt8.ofNat k).toNat : Nat) : Int) :: _ = _
            rw [e3]
            rfl
          rw [e1, e2]
          exact h8
        · exact (Hbel.out.grown Hgr7.out hsz (fun g hg => (Hown.out.lt g hg).1)).grown Hgr8.out (by omega) (fun g hg => (Hown7.out.lt g hg).1)
    · have hd : decide (i < n) = false := by simp; omega
      have hx : ¬ (i : Int) < (n : Int) := by omega
      have Hp := Lib.hid hp
      have Hown := Lib.hid hown
      have Hbel := Lib.hid hbel
      have Hb1 := Lib.hid (show out.length + 1 ≤ 262144 by omega)
      have hsz : w.heap.size ≤ wr.heap.size := hbel.size
      clear hg hp hol hown hbel
      go_wp2_with (at_builtin; refine wpList_append_any rfl (.tmp 34) (.tmp 35) 22 rfl w.heap.size 5 i0 (.int .u8 0) 1 1 Tryd.underlying22 hi hz0 hz1 hz2 rfl (by decide) _ out.length _ rfl (Hown.out.alloc _) (wr.heap.size + 1) (some ⟨wr.heap.size, 0, none⟩) 1 1 [.int .u8 0] rfl rfl (reads_one wr _ _ _ rfl) (by simp [Value.oneCell']) (by have := Hb1.out; unfold maxLen; omega) (by have := Hb1.out; omega) (by simp; omega) ?_; intro v7 w7 hown7 hgr7 hat7; have Hown7 := Lib.hid hown7; have Hgr7 := Lib.hid (show wr.grownBy w7 u5.ownBlock from (World.grownBy_alloc wr _ _).trans hgr7); clear hown7 hgr7 hat7)
      obtain ⟨A1, c1, rfl, _, _⟩ := own_slice Hown7.out
      go_ret
      refine ⟨A1, c1, out ++ [0], ?_, ?_, Hbel.out.grown Hgr7.out hsz (fun g hg => (Hown.out.lt g hg).1), ?_, fun tail => ?_⟩
      · rw [List.length_append]; rfl
      · rw [List.length_append, byteCells_append]; exact Hown7.out
      · rw [List.length_append]; exact Hb1.out
      · exact Hp.out.end_ (by have := Hl.out; omega) tail
end Go.Proofs.YthlhcfjpijilaaaDoor
