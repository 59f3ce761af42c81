/- laws.FnUnblocksBack: the walk. -/
import Derived.Test.YthlhcfjpijilaaaDoorUnb
import Derived.Test.YthlhcfjpijilaaaDoorPart
namespace Go.Proofs.YthlhcfjpijilaaaDoor
open Go Go.ChangeShapes Go.WideShapes Go.ChangeAt Go.RowKit Go.Lib

theorem fnuk_out (w : World) (A A2 : Option Addr) (n c z n2 c2 : Nat) (h : 65536 < n ∨ z = 0 ∨ 2147483647 < n2) :
    Calls Tryd.prog 7 #[.slice A n c, .int .u8 (z : Int), .slice A2 n2 c2] w fun e w' => e = .returned (.bool true) ∧ Below w.heap.size w w' := by
  by_cases h0 : 2147483647 < n
  · have h1 : (2147483647 : Int) < (n : Int) := by omega
    have h1' : decide ((2147483647 : Int) < (n : Int)) = true := by simp; omega
    go_enter Tryd.func7, Tryd.ntmps7
    go_wp2
    go_ret
    exact ⟨rfl, Below.refl _ _⟩
  · have h1 : decide ((2147483647 : Int) < (n : Int)) = false := by simp; omega
    by_cases h2 : 2147483647 < n2
    · have h3 : decide ((2147483647 : Int) < (n2 : Int)) = true := by simp; omega
      go_enter Tryd.func7, Tryd.ntmps7
      go_wp2
      go_ret
      exact ⟨rfl, Below.refl _ _⟩
    · have h3 : decide ((2147483647 : Int) < (n2 : Int)) = false := by simp; omega
      by_cases h4 : z = 0
      · subst h4
        go_enter Tryd.func7, Tryd.ntmps7
        go_wp2
        go_ret
        exact ⟨rfl, Below.refl _ _⟩
      · have h5 : ((z : Int) == 0) = false := by simp; omega
        have h6 : decide ((65536 : Int) < (n : Int)) = true := by simp; omega
        clear h4
        go_enter Tryd.func7, Tryd.ntmps7
        go_wp2
        go_ret
        exact ⟨rfl, Below.refl _ _⟩

set_option maxRecDepth 100000 in
set_option maxHeartbeats 4000000 in
theorem fnuk_any (w : World) (a1 a2 : Addr) (n c z n2 c2 : Nat) (A A2 : Option Addr) (l l2 : List UInt8) (hS : Sent w.heap.size a1 a2 w) (hA : Reads w w.heap.size A (byteCells l)) (hl : l.length = n) (hn : n ≤ 65536) (hnc : n ≤ c) (hz0 : 0 < z) (hz : z ≤ 255)
    (hA2 : Reads w w.heap.size A2 (byteCells l2)) (hl2 : l2.length = n2) (hn2 : n2 ≤ 2147483647) :
    Calls Tryd.prog 7 #[.slice A n c, .int .u8 (z : Int), .slice A2 n2 c2] w fun e w' => e = .returned (.bool true) ∧ Below w.heap.size w w' := by
  obtain ⟨i0, hi, hz0', hz1, hz2⟩ := info_parts info5
  have h1 : decide ((2147483647 : Int) < (n : Int)) = false := by simp; omega
  have h3 : decide ((2147483647 : Int) < (n2 : Int)) = false := by simp; omega
  have h5 : ((z : Int) == 0) = false := by simp; omega
  have h6 : decide ((65536 : Int) < (n : Int)) = false := by simp; omega
  have h7 : (z : Int) ≤ 255 := by omega
  have hP := parted_any w A n c z l hl hn hnc hz0 hz hA
  have HS := Lib.hid hS
  have HA := Lib.hid hA
  have Hl := Lib.hid hl
  have HA2 := Lib.hid hA2
  have Hl2 := Lib.hid hl2
  have Hn := Lib.hid hn
  have Hn2 := Lib.hid hn2
  clear hS hA hl hA2 hl2 hn hn2 hnc hz0 hz
  go_enter Tryd.func7, Tryd.ntmps7
  go_wp2_with fail
  refine hP.mono ?_
  rintro x w1 ⟨A1, c1, out, rfl, hown1, hb1, hlen, hjn⟩
  obtain ⟨k, hk⟩ : ∃ k, k = out.length := ⟨_, rfl⟩
  rw [← hk] at hown1 hlen ⊢
  have Hown1 := Lib.hid hown1
  have Hb1 := Lib.hid hb1
  have Hk := Lib.hid hk
  have Hlen := Lib.hid hlen
  have Hjn := Lib.hid hjn
  clear hown1 hb1 hP hk hlen hjn
  go_wp2_with (at_builtin; refine wpList_append_any rfl (.tmp 29) (.tmp 30) 22 rfl w.heap.size 5 i0 (.int .u8 0) 1 1 Tryd.underlying22 hi hz0' hz1 hz2 rfl (by decide) _ k _ rfl Hown1.out w.heap.size A2 n2 c2 (byteCells l2) rfl (by rw [byteCells_length, Hl2.out, Nat.mul_one]) (HA2.out.below Hb1.out) (byteCells_oneCell _) (by have := Hlen.out; have := Hn2.out; unfold maxLen; omega) (by have := Hlen.out; have := Hn2.out; omega) Hb1.out.size ?_; intro v7 w7 hown7 hgr7 hat7; have Hown7 := Lib.hid hown7; have Hgr7 := Lib.hid hgr7; clear hown7 hgr7 hat7)
  have hown7 := Hown7.out
  rw [← byteCells_append] at hown7
  have hb7 := Hb1.out.grown Hgr7.out Hb1.out.size (fun g hg => (Hown1.out.lt g hg).1)
  obtain ⟨A3, c3, rfl, hk3, hc3⟩ := own_slice hown7
  have Hown3 := Lib.hid hown7
  have Hb7 := Lib.hid hb7
  clear hown7 hb7 Hown7 Hgr7
  go_wp2_with fail
  refine (unb_any w7 a1 a2 (k + n2) c3 n A3 (out ++ l2) l l2 true (Hjn.out l2) (by rw [Hl.out]; exact Nat.le_refl _) Hn.out ((HS.out.below Hb7.out).more Hb7.out.size) (Reads.of_own Hown3.out) (by rw [List.length_append, Hl2.out, ← Hk.out]) (by have := Hlen.out; have := Hn2.out; omega)).mono ?_
  rintro x w2 ⟨hb2, A4, c4, ⟨_, rfl, hown2⟩ | ⟨h8, _⟩⟩
  · have Hb2 := Lib.hid (Hb7.out.trans (hb2.mono Hb7.out.size))
    have k1 := conv_any c4 (Reads.of_own hown2) Hl.out
    have k2 := conv_any c (HA.out.reach1 Hb2.out) Hl.out
    clear hb2 hown2
    go_wp2
    go_ret
    exact ⟨rfl, Hb2.out⟩
  · exfalso; have := Hl.out; omega
end Go.Proofs.YthlhcfjpijilaaaDoor
