/- impl.Blocks and laws.FnBlocks: the walks. -/
import Derived.Test.YthlhcfjpijilaaaZzb
import Derived.Test.YthlhcfjpijilaaaJoin
import Derived.Test.YthlhcfjpijilaaaConv
namespace Go.Proofs.Ythlhcfjpijilaaa
open Go Go.ChangeShapes Go.WideShapes Go.ChangeAt Go.RowKit Go.Lib

set_option maxRecDepth 100000 in
theorem blocks_any (w : World) (n c : Nat) (A : Option Addr) (l : List UInt8) (hA : Reads w w.heap.size A (byteCells l)) (hl : l.length = n) (hn : n ≤ 65536) :
    Calls Try.prog 12 #[.slice A n c] w fun e w' => ZbOut w l e w' := by
  have hC := clone_any A n c l w hl (by omega) hA
  have Hl := Lib.hid hl
  clear hA hl
  go_enter Try.func12, Try.ntmps12
  go_wp2_with fail
  refine hC.mono ?_
  rintro e w1 ⟨A1, c1, rfl, hown1, hb1⟩
  rw [Hl.out] at hown1 ⊢
  have hZ := zzb_any w1 n c1 A1 l (Reads.of_own hown1) Hl.out hn
  have HZ := Lib.hid hZ
  have Hb1 := Lib.hid hb1
  clear hZ hown1 hb1 hC
  go_wp2_with fail
  refine HZ.out.mono ?_
  rintro e w2 ⟨A2, c2, f, rfl, hown2, hb2, hj, hf⟩
  have hC2 := clone_any A2 f.length c2 f w2 rfl (by omega) (Reads.of_own hown2)
  have HC2 := Lib.hid hC2
  have Hb2 := Lib.hid (Hb1.out.trans (hb2.mono Hb1.out.size))
  have Hj := Lib.hid hj
  have Hf := Lib.hid hf
  clear hC2 hown2 hb2 hj hf HZ
  go_wp2_with fail
  refine HC2.out.mono ?_
  rintro e w3 ⟨A3, c3, rfl, hown3, hb3⟩
  have Hown3 := Lib.hid hown3
  have Hb3 := Lib.hid (Hb2.out.trans (hb3.mono Hb2.out.size))
  clear hown3 hb3 HC2
  go_wp2
  go_ret
  exact ⟨A3, c3, f, rfl, own_base1 Hown3.out Hb2.out.size, Hb3.out, Hj.out, Hf.out⟩

theorem fnbl_out (w : World) (A : Option Addr) (n c : Nat) (hn : 65536 < n) :
    Calls Try.prog 5 #[.slice A n c] w fun e w' => e = .returned (.bool true) ∧ Below w.heap.size w w' := by
  by_cases h0 : 2147483647 < n
  · have h1 : (2147483647 : Int) < (n : Int) := by omega
    go_enter Try.func5, Try.ntmps5
    go_wp2
    go_ret
    exact ⟨rfl, Below.refl _ _⟩
  · have h1 : (n : Int) ≤ (2147483647 : Int) := by omega
    have h2 : (65536 : Int) < (n : Int) := by omega
    go_enter Try.func5, Try.ntmps5
    go_wp2
    go_ret
    exact ⟨rfl, Below.refl _ _⟩

set_option maxRecDepth 100000 in
set_option maxHeartbeats 4000000 in
theorem fnbl_any (w : World) (n c : Nat) (A : Option Addr) (l : List UInt8) (hA : Reads w w.heap.size A (byteCells l)) (hl : l.length = n) (hn : n ≤ 65536) :
    Calls Try.prog 5 #[.slice A n c] w fun e w' => e = .returned (.bool true) ∧ Below w.heap.size w w' := by
  have h1 : (n : Int) ≤ (2147483647 : Int) := by omega
  have h2 : (n : Int) ≤ (65536 : Int) := by omega
  have HB := Lib.hid (blocks_any w n c A l hA hl hn)
  have HA := Lib.hid hA
  have Hl := Lib.hid hl
  clear hA hl
  go_enter Try.func5, Try.ntmps5
  go_wp2_with fail
  refine HB.out.mono ?_
  rintro e w1 ⟨A1, c1, f, rfl, hown1, hb1, hj, hf⟩
  obtain ⟨k, hk⟩ : ∃ k, k = f.length := ⟨_, rfl⟩
  rw [← hk] at hown1 hf ⊢
  have HJ := Lib.hid (joined_any w1 A1 k c1 f l true [] hj hk.symm (by omega) (own_cap1 hown1).1 (Reads.of_own hown1))
  have Hb1 := Lib.hid hb1
  clear hown1 hb1 hj hk hf HB
  go_wp2_with fail
  refine HJ.out.mono ?_
  rintro e w2 ⟨A2, c2, rfl, hown2, hb2⟩
  rw [Hl.out] at hown2 ⊢
  rw [show k - ([] : List UInt8).length = k from rfl]
  have Hb2 := Lib.hid (Hb1.out.trans (hb2.mono Hb1.out.size))
  have k1 := conv_any c2 (Reads.of_own hown2) Hl.out
  have k2 := conv_any c (HA.out.reach1 Hb2.out) Hl.out
  clear hb2 hown2 HJ
  go_wp2
  go_ret
  exact ⟨rfl, Hb2.out⟩
end Go.Proofs.Ythlhcfjpijilaaa
