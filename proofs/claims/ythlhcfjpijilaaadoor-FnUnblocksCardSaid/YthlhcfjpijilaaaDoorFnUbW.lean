/- laws.FnUnblocks: the walk. -/
import Derived.Test.YthlhcfjpijilaaaDoorUnb
import Derived.Test.YthlhcfjpijilaaaDoorJoin
namespace Go.Proofs.YthlhcfjpijilaaaDoor
open Go Go.ChangeShapes Go.WideShapes Go.ChangeAt Go.RowKit Go.Lib

theorem fnub_out (w : World) (A : Option Addr) (n c m : Nat) (hn : 65536 < n) :
    Calls Tryd.prog 6 #[.slice A n c, .int .u16 (m : Int)] w fun e w' => e = .returned (.bool true) ∧ Below w.heap.size w w' := by
  by_cases h0 : 2147483647 < n
  · have h1 : (2147483647 : Int) < (n : Int) := by omega
    go_enter Tryd.func6, Tryd.ntmps6
    go_wp2
    go_ret
    exact ⟨rfl, Below.refl _ _⟩
  · have h1 : (n : Int) ≤ (2147483647 : Int) := by omega
    have h2 : (65536 : Int) < (n : Int) := by omega
    go_enter Tryd.func6, Tryd.ntmps6
    go_wp2
    go_ret
    exact ⟨rfl, Below.refl _ _⟩

set_option maxRecDepth 100000 in
set_option maxHeartbeats 4000000 in
theorem fnub_any (w : World) (a1 a2 : Addr) (n c m : Nat) (A : Option Addr) (l : List UInt8) (hS : Sent w.heap.size a1 a2 w) (hA : Reads w w.heap.size A (byteCells l)) (hl : l.length = n) (hn : n ≤ 65536) (hnc : n ≤ c) (hm : m ≤ 65535) :
    Calls Tryd.prog 6 #[.slice A n c, .int .u16 (m : Int)] w fun e w' => e = .returned (.bool true) ∧ Below w.heap.size w w' := by
  obtain ⟨o, e, s, hj⟩ := Jn.ex l
  obtain ⟨k, hk⟩ : ∃ k, k = o.length := ⟨_, rfl⟩
  have h1 : (n : Int) ≤ (2147483647 : Int) := by omega
  have h2 : (n : Int) ≤ (65536 : Int) := by omega
  have h3 : (m : Int) ≤ 65535 := by omega
  have hJ := joined_any w A n c l o e s hj hl (by omega) hnc hA
  have HS := Lib.hid hS
  have HA := Lib.hid hA
  have Hl := Lib.hid hl
  have Hj := Lib.hid hj
  have Hk := Lib.hid hk
  have Hn := Lib.hid hn
  have Hm := Lib.hid hm
  clear hS hA hl hj hk hn hm
  go_enter Tryd.func6, Tryd.ntmps6
  go_wp2_with fail
  refine hJ.mono ?_
  rintro x w1 ⟨A1, c1, rfl, hown1, hb1⟩
  rw [← Hk.out] at hown1 ⊢
  have Hown1 := Lib.hid hown1
  have Hb1 := Lib.hid hb1
  clear hown1 hb1 hJ
  rcases Nat.lt_trichotomy k m with hlt | heq | hgt
  · have h4 : ¬ (m : Int) < (k : Int) := by omega
    have h5 : (k : Int) < (m : Int) := by omega
    go_wp2_with fail
    refine (unb_any w1 a1 a2 n c m A l o s e Hj.out (by rw [← Hk.out]; omega) (by have := Hm.out; omega) ((HS.out.below Hb1.out).more Hb1.out.size) (HA.out.reach1 Hb1.out) Hl.out (by have := Hn.out; omega)).mono ?_
    rintro x w2 ⟨hb2, A2, c2, ⟨h6, _⟩ | ⟨_, b, rfl⟩⟩
    · exfalso; have := Hk.out; omega
    · have Hb2 := Lib.hid (Hb1.out.trans (hb2.mono Hb1.out.size))
      clear hb2
      go_wp2
      go_ret
      exact ⟨rfl, Hb2.out⟩
  · subst heq
    have h4 : ¬ (k : Int) < (k : Int) := by omega
    go_wp2_with fail
    refine (unb_any w1 a1 a2 n c k A l o s e Hj.out (by rw [← Hk.out]; exact Nat.le_refl _) (by have := Hm.out; omega) ((HS.out.below Hb1.out).more Hb1.out.size) (HA.out.reach1 Hb1.out) Hl.out (by have := Hn.out; omega)).mono ?_
    rintro x w2 ⟨hb2, A2, c2, ⟨_, rfl, hown2⟩ | ⟨h6, _⟩⟩
    · have k1 := conv_any c2 (Reads.of_own hown2) Hk.out.symm
      have k2 := conv_any c1 ((Reads.of_own Hown1.out).reach1 hb2) Hk.out.symm
      have Hb2 := Lib.hid (Hb1.out.trans (hb2.mono Hb1.out.size))
      clear hb2 hown2
      rcases e with _ | _
      · go_wp2
        go_ret
        exact ⟨rfl, Hb2.out⟩
      · go_wp2
        go_ret
        exact ⟨rfl, Hb2.out⟩
    · exfalso; have := Hk.out; omega
  · have h4 : (m : Int) < (k : Int) := by omega
    go_wp2
    go_ret
    exact ⟨rfl, Hb1.out⟩
end Go.Proofs.YthlhcfjpijilaaaDoor
