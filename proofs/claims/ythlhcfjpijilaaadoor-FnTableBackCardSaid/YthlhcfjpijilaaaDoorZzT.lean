/- Walks of errors.New, of encodeColorTable at a size that there is not, and of ZZColorTable. -/
import Derived.Test.YthlhcfjpijilaaaDoorEncT
namespace Go.Proofs.YthlhcfjpijilaaaDoor
open Go Go.ChangeShapes Go.WideShapes Go.ChangeAt Go.RowKit Go.Lib

/-- An error that errors.New has made: some pointer in an interface value. -/
def ErrOut (v : Value) : Prop := ∃ a, v = .iface 111 (.pointer (some a))

theorem errnew_any (w : World) (s : ByteArray) : Calls Tryd.prog 39 #[.string s] w fun e w' => (∃ v, e = .returned v ∧ ErrOut v) ∧ Below w.heap.size w w' := by
  go_enter Tryd.func39, Tryd.ntmps39
  go_wp2
  go_ret
  exact ⟨⟨_, rfl, _, rfl⟩, (Below.refl _ _).alloc (Nat.le_refl _) _⟩

theorem enc_bad (w : World) (D : Value) (A : Option Addr) (n c : Nat) (size : Int) (hlo : -9223372036854775808 ≤ size) (hhi : size ≤ 9223372036854775807) (hbad : size < 0 ∨ 7 < size) :
    Calls Tryd.prog 35 #[D, .slice A n c, .int .i64 size] w fun e w' => (∃ v, e = .returned (.tuple #[.int .i64 0, v]) ∧ ErrOut v) ∧ Below w.heap.size w w' := by
  have h8 : (8 : Int) ≤ IntKind.u64.wrap size := by
    rw [IntKind.wrap_u64]
    omega
  clear hbad
  go_enter Tryd.func35, Tryd.ntmps35
  go_wp2_with fail
  refine (errnew_any _ _).mono ?_
  rintro e w1 ⟨⟨v, rfl, hv⟩, hb⟩
  have Hb := Lib.hid hb
  have Hv := Lib.hid hv
  clear hb hv
  go_wp2
  go_ret2
  exact ⟨⟨v, rfl, Hv.out⟩, Hb.out⟩

theorem zero768 : (Tryd.prog.info? 91).map (fun i => i.zero.map Value.cells) = some (some (List.replicate 768 (Value.int .u8 0)).toArray) := by kernel_rfl

theorem slice768 (w : World) (g N : Nat) (hN : N ≤ 256) :
    (Instr.sliceAt 91 (.pointer (some ⟨g, 0, none⟩)) none (some (.int .i64 (3 * (N : Int)))) none).run Tryd.prog w = .ok (.slice (some ⟨g, 0, none⟩) (3 * N) 768) w := by
  have h := run_sliceAt_array_h (P := Tryd.prog) (w := w) (a := ⟨g, 0, none⟩) (t := 91) (by kernel_rfl) .i64 (3 * (N : Int)) (by omega) (by rw [show Tryd.prog.arrayLen 91 = 768 from by kernel_rfl]; omega)
  rw [h]
  have e : (3 * (N : Int)).toNat = 3 * N := by omega
  have hs : (Go.sizeOf (Tryd.prog.elem 91)).run Tryd.prog w = .ok 1 w := by kernel_rfl
  have hl : Tryd.prog.arrayLen 91 = 768 := by kernel_rfl
  rw [e, hs, hl]
  simp [slicedAt, Result.andThen, Addr.add]

/-- Behind 'ZZColorTable': the table at the head of a new block; no error. -/
def ZzOut (w : World) (l : List Sh) (N : Nat) (e : Ending) (w' : World) : Prop :=
  ∃ g rest, e = .returned (.tuple #[.slice (some ⟨g, 0, none⟩) (3 * N) 768, .nilIface]) ∧ w.heap.size ≤ g ∧ Blk w' g 91 (byteCells (tabBytes l N) ++ rest).toArray ∧ Below w.heap.size w w'

set_option maxRecDepth 100000 in
set_option maxHeartbeats 1000000 in
theorem zzct_any (w : World) (A : Option Addr) (n c size N : Nat) (l : List Sh) (hl : l.length = n) (hsz : size ≤ 7) (hN : 2 ^ (size + 1) = N) (hn : n ≤ N) (hr : Reads w w.heap.size A (palCells 84 l)) :
    Calls Tryd.prog 27 #[.slice A n c, .int .i64 size] w fun e w' => ZzOut w l N e w' := by
  have hN256 : N ≤ 256 := by rw [← hN]; exact Nat.pow_le_pow_right (n := 2) (by omega) (show size + 1 ≤ 8 by omega)
  obtain ⟨i0, hi, hz⟩ := Option.map_eq_some_iff.1 zero768
  obtain ⟨z, hz0, hzc⟩ := Option.map_eq_some_iff.1 hz
  have Hr := Lib.hid hr
  have Hl := Lib.hid hl
  have HN := Lib.hid hN
  have Hi := Lib.hid hi
  have Hz0 := Lib.hid hz0
  have Hzc := Lib.hid hzc
  clear hr hl hN hi hz0 hzc hz
  go_enter Tryd.func27, Tryd.ntmps27
  go_wp2_with (refine wpList_alloc_big (o := ⟨some 6, _, _, _, _, _⟩) rfl 91 rfl i0 z _ Hi.out Hz0.out Hzc.out ?_; intro w1 hB1 hgr1 hs1; have Hgr1 := Lib.hid hgr1; have Hs1 := Lib.hid hs1; clear hgr1 hs1)
  have hb1 := below_of_grownBy Hgr1.out
  refine (enc_any w1 w.heap.size 91 (List.replicate 768 (Value.int .u8 0)) A n c size N l Hl.out hsz HN.out hn hB1.out (by simp) (Hr.out.below hb1)).mono ?_
  rintro e w2 ⟨rfl, hB2, hgr2⟩
  have HB2 := Lib.hid hB2
  have Hb2 := Lib.hid (hb1.grown hgr2 (by rw [Hs1.out]; omega) (fun k hk => by cases hk; exact Nat.le_refl _))
  clear hb1 hB2 hgr2
  have hsl := fun (wx : World) => slice768 wx w.heap.size N hN256
  go_wp2
  go_ret2
  refine ⟨w.heap.size, (List.replicate 768 (Value.int .u8 0)).drop (3 * N), ?_, Nat.le_refl _, HB2.out, Hb2.out⟩
  rfl

set_option maxRecDepth 100000 in
theorem zzct_bad (w : World) (A : Option Addr) (n c : Nat) (size : Int) (hlo : -9223372036854775808 ≤ size) (hhi : size ≤ 9223372036854775807) (hbad : size < 0 ∨ 7 < size) :
    Calls Tryd.prog 27 #[.slice A n c, .int .i64 size] w fun e w' => (∃ v, e = .returned (.tuple #[.slice none 0 0, v]) ∧ ErrOut v) ∧ Below w.heap.size w w' := by
  obtain ⟨i0, hi, hz⟩ := Option.map_eq_some_iff.1 zero768
  obtain ⟨z, hz0, hzc⟩ := Option.map_eq_some_iff.1 hz
  have Hbad := Lib.hid hbad
  have Hi := Lib.hid hi
  have Hz0 := Lib.hid hz0
  have Hzc := Lib.hid hzc
  clear hbad hi hz0 hzc hz
  go_enter Tryd.func27, Tryd.ntmps27
  go_wp2_with (refine wpList_alloc_big (o := ⟨some 6, _, _, _, _, _⟩) rfl 91 rfl i0 z _ Hi.out Hz0.out Hzc.out ?_; intro w1 hB1 hgr1 hs1; have Hgr1 := Lib.hid hgr1; have Hs1 := Lib.hid hs1; clear hgr1 hs1)
  refine (enc_bad w1 _ A n c size hlo hhi Hbad.out).mono ?_
  rintro e w2 ⟨⟨v, rfl, a, rfl⟩, hb⟩
  have Hb := Lib.hid ((below_of_grownBy Hgr1.out).trans (hb.mono (by rw [Hs1.out]; omega)))
  clear hb hB1
  go_wp2
  go_ret2
  exact ⟨⟨_, rfl, a, rfl⟩, Hb.out⟩
end Go.Proofs.YthlhcfjpijilaaaDoor
