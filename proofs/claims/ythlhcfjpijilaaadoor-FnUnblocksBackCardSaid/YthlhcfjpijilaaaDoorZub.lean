/- gif.ZZUnblocks: a decoder and a blockReader over the bytes, read full, closed: the walk. -/
import Derived.Test.YthlhcfjpijilaaaDoorBrF
import Derived.Test.YthlhcfjpijilaaaDoorBrCl
import Derived.Test.YthlhcfjpijilaaaDoorZrct
import Derived.Deep.DeepCutAuto
namespace Go.Proofs.YthlhcfjpijilaaaDoor
open Go Go.ChangeShapes Go.WideShapes Go.ChangeAt Go.RowKit Go.Lib

/-- What gif.ZZUnblocks hands back. -/
def ZubOut (w : World) (a2 : Addr) (m : Nat) (o : List UInt8) (e : Bool) (x : Ending) (w' : World) : Prop :=
  Below w.heap.size w w' ∧ ∃ (O : Nat) (v1 v2 : Value) (cs : List UInt8), w.heap.size ≤ O ∧ x = .returned (.tuple #[.slice (some ⟨O, 0, none⟩) m m, v1, v2]) ∧ Blk w' O 5 (byteCells cs).toArray ∧ cs.length = m ∧
    ((o.length = m ∧ cs = o ∧ v1 = .nilIface ∧ v2 = endErr a2 e) ∨ (o.length < m ∧ v1 = errV a2 ∧ (v2 = .nilIface ∨ v2 = errV a2)))

theorem below_drewN' {B : Nat} {a w : World} (h : Below B a w) (n : Nat) : Below B a (w.drewN n) := ⟨h.os, h.tape, h.output, h.size, h.block⟩

theorem made_bytes (m : Nat) : madeCells #[Value.int .u8 0] m = (byteCells (List.replicate m 0)).toArray := by
  apply Array.ext'
  rw [toList_madeCells_one]
  simp [byteCells]

theorem splice_bytes (cs new : List UInt8) (h : new.length ≤ cs.length) : ∃ ds : List UInt8, splice (byteCells cs) 0 (byteCells new) = byteCells ds ∧ ds.length = cs.length ∧ (new.length = cs.length → ds = new) := by
  refine ⟨new ++ cs.drop new.length, ?_, by simp; omega, fun e => by rw [List.drop_eq_nil_of_le (by omega), List.append_nil]⟩
  unfold splice
  rw [List.take_zero, List.nil_append, Nat.zero_add, byteCells_append, byteCells_length]
  congr 1
  unfold byteCells
  rw [List.map_drop]

set_option maxRecDepth 100000 in
set_option maxHeartbeats 4000000 in
theorem zub_any (w : World) (a1 a2 : Addr) (n c m : Nat) (A : Option Addr) (l o s : List UInt8) (e : Bool) (hj : Jn l o e s) (hom : o.length ≤ m) (hm : m ≤ 65536) (hS : Sent w.heap.size a1 a2 w) (hA : Reads w w.heap.size A (byteCells l)) (hl : l.length = n) (hnc : n ≤ c) (hc : c ≤ maxLen) :
    Calls Tryd.prog 25 #[.slice A n c, .int .i64 (m : Int)] w fun x w' => ZubOut w a2 m o e x w' := by
  have hmk := fun (wx : World) => run_make_row' (P := Tryd.prog) 22 5 (.int .u8 0) 1 Tryd.underlying22 info5 rfl .i64 .i64 m (by omega) (by omega) wx
  have HS := Lib.hid hS
  have HA := Lib.hid hA
  have Hl := Lib.hid hl
  have Hj := Lib.hid hj
  have Hom := Lib.hid hom
  have Hc := Lib.hid hc
  clear hS hA hl hj hom hc
  go_enter Tryd.func25, Tryd.ntmps25
  go_wp2_with fail
  refine (newrd_any w A n c).mono ?_
  rintro x w1 ⟨rfl, rfl⟩
  have hR := Blk.new w 100 (rdCells A n c 0 (-1))
  have hb1 : Below w.heap.size w (w.alloc (.cells (rdCells A n c 0 (-1)) 100)) := (Below.refl _ w).alloc (Nat.le_refl _) _
  have hs1 : (w.alloc (.cells (rdCells A n c 0 (-1)) 100)).heap.size = w.heap.size + 1 := by simp
  generalize w.alloc (.cells (rdCells A n c 0 (-1)) 100) = w1 at *
  go_upto_region 2 with (first
    | (refine wpList_buildTo (o := ⟨some 14, _, _, _, _, _⟩) rfl 80 _ rfl (some 14) rfl (decCells w.heap.size (List.replicate 1024 0)).toArray (by exact decBuilt _) ?_)
    | (refine wpList_box_big (o := ⟨some 15, _, _, _, _, _⟩) rfl 80 _ rfl (decCells w.heap.size (List.replicate 1024 0)).toArray rfl ?_; intro w2 hB2 hgr2 hs2; have Hgr2 := Lib.hid hgr2; have Hs2 := Lib.hid hs2; clear hgr2 hs2))
  have hb2 : Below w.heap.size w w2 := hb1.trans ((below_of_grownBy Hgr2.out).mono (by omega))
  have hR2 := hR.grown Hgr2.out (by simp)
  rw [hs1] at hB2
  have hs2 : w2.heap.size = w.heap.size + 2 := by have := Hs2.out; omega
  have Hb2 := Lib.hid hb2
  have HR2 := Lib.hid hR2
  have HB2 := Lib.hid hB2.out
  have Hsz := Lib.hid hs2
  clear hR hb1 hs1 hb2 hR2 hB2 hs2 Hgr2 Hs2
  go_upto_region 4 with (fail)
  have hK3 : Blk ((w2.alloc (.cells #[.pointer (some ⟨w.heap.size + 1, 0, none⟩), .int .u8 0, .int .u8 0, .nilIface] 88)).alloc (.cells (madeCells #[Value.int .u8 0] m) 5)) w2.heap.size 88 (brCells (w.heap.size + 1) 0 0 .nilIface) := (Blk.new w2 _ _).alloc _
  have hO3 : Blk ((w2.alloc (.cells #[.pointer (some ⟨w.heap.size + 1, 0, none⟩), .int .u8 0, .int .u8 0, .nilIface] 88)).alloc (.cells (madeCells #[Value.int .u8 0] m) 5)) (w2.heap.size + 1) 5 (byteCells (List.replicate m 0)).toArray := by
    have h := Blk.new (w2.alloc (.cells #[.pointer (some ⟨w.heap.size + 1, 0, none⟩), .int .u8 0, .int .u8 0, .nilIface] 88)) 5 (madeCells #[Value.int .u8 0] m)
    rw [World.size_alloc, made_bytes] at h
    rw [made_bytes]
    exact h
  have hR3 : Blk ((w2.alloc (.cells #[.pointer (some ⟨w.heap.size + 1, 0, none⟩), .int .u8 0, .int .u8 0, .nilIface] 88)).alloc (.cells (madeCells #[Value.int .u8 0] m) 5)) w.heap.size 100 (rdCells A n c 0 (-1)) := (HR2.out.alloc _).alloc _
  have hD3 : Blk ((w2.alloc (.cells #[.pointer (some ⟨w.heap.size + 1, 0, none⟩), .int .u8 0, .int .u8 0, .nilIface] 88)).alloc (.cells (madeCells #[Value.int .u8 0] m) 5)) (w.heap.size + 1) 80 (decCells w.heap.size (List.replicate 1024 0)).toArray := (HB2.out.alloc _).alloc _
  have hb3 : Below w.heap.size w ((w2.alloc (.cells #[.pointer (some ⟨w.heap.size + 1, 0, none⟩), .int .u8 0, .int .u8 0, .nilIface] 88)).alloc (.cells (madeCells #[Value.int .u8 0] m) 5)) := (Hb2.out.alloc Hb2.out.size _).alloc (by have := Hb2.out.size; simp; omega) _
  generalize (w2.alloc (.cells #[.pointer (some ⟨w.heap.size + 1, 0, none⟩), .int .u8 0, .int .u8 0, .nilIface] 88)).alloc (.cells (madeCells #[Value.int .u8 0] m) 5) = w3 at *
  obtain ⟨K, hK⟩ : ∃ K, K = w2.heap.size := ⟨_, rfl⟩
  rw [← hK] at hK3 hO3 ⊢
  have hKs : K = w.heap.size + 2 := hK.trans Hsz.out
  have hE : BrEnv w3 w.heap.size a1 a2 K (w.heap.size + 1) w.heap.size A l n c := ⟨HS.out.below hb3, HA.out.below hb3, Hl.out, hnc, Hc.out, by omega, by omega, by omega, by omega, by omega, Nat.le_refl _, hb3.size⟩
  have hY : BrlYes w3 K (w.heap.size + 1) w.heap.size (K + 1) A n c 0 5 (byteCells (List.replicate m 0)) l o e s 0 0 0 0 (List.replicate 1024 0) [] o w3 :=
    ⟨rfl, by simp [remOf], by simpa using Hj.out, Nat.le_refl _, by omega, Nat.zero_le _, ⟨⟨_, hR3⟩, hD3, hK3, by simp⟩, by simpa [byteCells, splice_nil] using hO3, Trn.refl _ _⟩
  have HE := Lib.hid hE
  have HY := Lib.hid hY
  have Hb3 := Lib.hid hb3
  have HKs := Lib.hid hKs
  clear hmk hK hKs hE hY hb3 hK3 hO3 hR3 hD3 Hb2 HR2 HB2 Hsz
  go_wp2_with fail
  refine (brfull_any w3 w.heap.size a1 a2 K (w.heap.size + 1) w.heap.size (K + 1) n c 0 0 0 m m 0 A (some ⟨K + 1, 0, none⟩) l (List.replicate 1024 0) o o s e (byteCells (List.replicate m 0)) 5 HE.out (by have := HKs.out; omega) (by omega) (by have := HKs.out; omega) (by have := HKs.out; omega) HY.out (Nat.le_refl _) (by unfold maxLen; omega) (fun _ => rfl) (by simp [byteCells])).mono ?_
  have hS4 : ∀ x ∈ [w.heap.size, w.heap.size + 1, K, K + 1], w.heap.size ≤ x := by
    have := HKs.out; intro x hx; simp at hx; omega
  rintro x w4 (⟨rfl, i, bi, bj, tmp, out, o', hy⟩ | ⟨rfl, hlt, b, hb, hn⟩)
  · have hlen : out.length = m := hy.kk.symm
    have hall := hy.all
    have h3 := congrArg List.length hall
    rw [List.length_append, List.length_append, hlen] at h3
    have hom := Hom.out
    have ho' : o' = [] := List.eq_nil_of_length_eq_zero (by omega)
    have hr0 : (remOf tmp bi bj).length = 0 := by omega
    rw [remOf_length tmp bi bj hy.at_.t hy.j] at hr0
    have hij : bi = bj := by have := hy.ij; omega
    subst hij
    have hoo : o = out := by rw [hall, remOf_self, ho', List.append_nil, List.append_nil]
    have hjn := hy.jn
    rw [ho'] at hjn
    have hT4 := hy.t
    have hE4 := HE.out.trn hT4 hS4
    have hb4 := Hb3.out.trans ((hT4.below hS4 HE.out.bw).mono (Nat.le_refl _))
    have hO4 := hy.o
    obtain ⟨ds, hds1, hds2, hds3⟩ := splice_bytes (List.replicate m 0) out (by simp; omega)
    rw [hds1] at hO4
    have hdo : ds = o := by rw [hds3 (by simp; omega), hoo]
    have Ho := Lib.hid (show o.length = m by rw [hoo]; exact hlen)
    have Hb4 := Lib.hid hb4
    have HO4 := Lib.hid hO4
    have Hdo := Lib.hid hdo
    have h := close_end w4 w.heap.size a1 a2 K (w.heap.size + 1) w.heap.size n c i bi A l tmp s e hE4 hy.at_ hy.ni hjn
    have hBw4 := hE4.bw
    clear hall h3 hom ho' hr0 hoo hjn hT4 hE4 hb4 hO4 hy hds1 hds2 hds3 hdo hlen hS4
    go_wp2_with fail
    refine h.mono ?_
    rintro x w5 ⟨rfl, ht5⟩
    have hb5 := ht5.below (B := w.heap.size) (by have := HKs.out; intro x hx; simp at hx; omega) hBw4
    have hO5 := HO4.out.trn ht5 (by have := HKs.out; simp; omega)
    have Hb5 := Lib.hid (Hb4.out.trans hb5)
    have HO5 := Lib.hid hO5
    clear ht5 hb5 hO5 h hBw4
    go_wp2
    go_ret3
    exact ⟨Hb5.out, K + 1, _, _, ds, by have := HKs.out; omega, rfl, HO5.out, by rw [Hdo.out]; exact Ho.out, Or.inl ⟨Ho.out, Hdo.out, rfl, rfl⟩⟩
  · obtain ⟨⟨i, bi, bj, tmp, hat⟩, hT4⟩ := And.intro hn.at_ hn.t
    have hE4 := HE.out.trn hT4 hS4
    have hb4 := Hb3.out.trans ((hT4.below hS4 HE.out.bw).mono (Nat.le_refl _))
    have hO4 := hn.o
    obtain ⟨ds, hds1, hds2, hds3⟩ := splice_bytes (List.replicate m 0) o (by simp; omega)
    rw [hds1] at hO4
    have Hb4 := Lib.hid hb4
    have HO4 := Lib.hid hO4
    have Hds := Lib.hid (show ds.length = m by rw [hds2]; simp)
    have Hlt := Lib.hid hlt
    have h := close_err w4 w.heap.size a1 a2 b K (w.heap.size + 1) w.heap.size n c i bi bj A tmp hE4.s hat hb
    clear hT4 hE4 hb4 hO4 hds1 hds2 hds3 hlt hS4 hat hn hb
    go_wp2_with fail
    refine h.mono ?_
    rintro x w5 ⟨v, rfl, hv, k, rfl⟩
    have Hv := Lib.hid hv
    clear h hv
    go_wp2
    go_ret3
    exact ⟨below_drewN' Hb4.out k, K + 1, _, _, ds, by have := HKs.out; omega, rfl, HO4.out.drewN k, Hds.out, Or.inr ⟨Hlt.out, rfl, Hv.out⟩⟩
end Go.Proofs.YthlhcfjpijilaaaDoor
