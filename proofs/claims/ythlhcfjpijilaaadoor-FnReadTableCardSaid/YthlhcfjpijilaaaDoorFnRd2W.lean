/- laws.FnReadTable: the walk. -/
import Derived.Test.YthlhcfjpijilaaaDoorFnRdW
namespace Go.Proofs.YthlhcfjpijilaaaDoor
open Go Go.ChangeShapes Go.WideShapes Go.ChangeAt Go.RowKit Go.Lib

theorem fnrd_big (w : World) (A : Option Addr) (n c f : Nat) (hn : 1000 < n) :
    Calls Tryd.prog 5 #[.slice A n c, .int .u8 (f : Int)] w fun e w' => e = .returned (.bool true) ∧ Below w.heap.size w w' := by
  by_cases h0 : 2147483647 < n
  · have h1 : (2147483647 : Int) < (n : Int) := by omega
    go_enter Tryd.func5, Tryd.ntmps5
    go_wp2
    go_ret
    exact ⟨rfl, Below.refl _ _⟩
  · have h1 : (n : Int) ≤ (2147483647 : Int) := by omega
    have h2 : (1000 : Int) < (n : Int) := by omega
    go_enter Tryd.func5, Tryd.ntmps5
    go_wp2
    go_ret
    exact ⟨rfl, Below.refl _ _⟩

theorem below_drewN {B : Nat} {a w : World} (h : Below B a w) (n : Nat) : Below B a (w.drewN n) := ⟨h.os, h.tape, h.output, h.size, h.block⟩
def CmpRel (w4 : World) (N g : Nat) (iv : Value) (wr : World) : Prop :=
  ∃ kk, g + kk = N ∧ iv = .int .i64 ((kk : Nat) : Int) ∧ Below w4.heap.size w4 wr

set_option maxRecDepth 100000 in
set_option maxHeartbeats 2000000 in
theorem fnrd_any (w : World) (a1 a2 : Addr) (n c f N : Nat) (A : Option Addr) (l : List UInt8) (hf : f ≤ 255) (hN : 2 ^ (f % 8 + 1) = N) (hS : Sent w.heap.size a1 a2 w) (hA : Reads w w.heap.size A (byteCells l)) (hl : l.length = n) (hn : n ≤ 1000) (hnc : n ≤ c) :
    Calls Tryd.prog 5 #[.slice A n c, .int .u8 (f : Int)] w fun e w' => e = .returned (.bool true) ∧ Below w.heap.size w w' := by
  have hN256 : N ≤ 256 := by rw [← hN]; exact Nat.pow_le_pow_right (n := 2) (by omega) (show f % 8 + 1 ≤ 8 by omega)
  have hN0 : 0 < N := by rw [← hN]; exact Nat.two_pow_pos _
  have h1 : (n : Int) ≤ (2147483647 : Int) := by omega
  have h2 : (n : Int) ≤ (1000 : Int) := by omega
  have hpw : (2 : Int) * 2 ^ (f % 8) = (N : Int) := by
    have : ((2 ^ (f % 8 + 1) : Nat) : Int) = (2 : Int) * 2 ^ (f % 8) := by rw [Nat.pow_succ]; simp; omega
    rw [← this, hN]
  have hrd := readt_any w a1 a2 n c f N A l hf hN hS hA hl hn
  have HA := Lib.hid hA
  have Hl := Lib.hid hl
  have Hrd := Lib.hid hrd
  clear hS hA hl hN hrd
  go_enter Tryd.func5, Tryd.ntmps5
  go_wp2_with fail
  refine Hrd.out.mono ?_
  rintro e w1 ⟨k1, k2, k3⟩
  have Hb1 := Lib.hid k3
  clear k3
  obtain ⟨M, hM⟩ : ∃ M, M = 3 * N := ⟨_, rfl⟩
  have hM3 : (3 : Int) * (N : Int) = (M : Int) := by omega
  have HM := Lib.hid hM
  have HM768 : M ≤ 768 := by omega
  clear hM
  by_cases hMn : M ≤ n
  · obtain ⟨A1, c1, rfl, hown1⟩ := k1 (by have := HM.out; omega)
    have Hown1 := Lib.hid hown1
    clear k1 k2 hown1
    have hx : (M : Int) ≤ (n : Int) := by omega
    go_wp2_with fail
    rw [hpw]
    clear hpw
    go_wp2_with fail
    refine (tabof_any w1 A M c N l HM.out hN256 (by rw [Hl.out]; exact hMn) (by exact (HA.out.below Hb1.out).more Hb1.out.size)).mono ?_
    rintro e w2 ⟨A2, c2, rfl, hown2, hb2⟩
    have Hown2 := Lib.hid hown2
    have Hb2 := Lib.hid hb2
    clear hown2 hb2
    go_wp2_with fail
    refine (shades_any w2 A1 N c1 (shOf l N) (shOf_length l N) hN256 (by exact ((ownR Hown1.out).below Hb2.out).more Hb2.out.size)).mono ?_
    rintro e w3 ⟨A3, c3, rfl, hown3, hb3⟩
    have Hr3 := Lib.hid (ownR hown3)
    have Hr2 := Lib.hid (((ownR Hown2.out).below hb3).more hb3.size)
    have Hb3 := Lib.hid (Hb1.out.trans ((Hb2.out.trans (hb3.mono Hb2.out.size)).mono Hb1.out.size))
    clear hown3 hb3 Hown2 Hown1 Hb1 Hb2 Hrd HA
    go_wp2
    go_loopg [49] N (fun g iv wr => CmpRel w3 N g iv wr)
    case atStart => exact ⟨0, by omega, rfl, Below.refl _ _⟩
    case round =>
      obtain ⟨kk, hk, rfl, hbel⟩ := hrel
      by_cases hlt : kk < N
      · obtain ⟨s, hs⟩ : ∃ s, s = (shOf l N)[kk]'(by rw [shOf_length]; exact hlt) := ⟨_, rfl⟩
        obtain ⟨b, off, rfl, hb, hc⟩ := Hr3.out (by rw [shCells_length, shOf_length]; omega)
        obtain ⟨b', off', rfl, hb', hc'⟩ := Hr2.out (by rw [shCells_length, shOf_length]; omega)
        have hcell : ∀ j u, s.cells[j]? = some u → j < 4 → wr.cell? ⟨b, off + kk * 4 + j, none⟩ = some u := fun j u hu hj => by
          refine (hbel.cell (p := ⟨b, _, none⟩) hb).trans ?_
          rw [Nat.add_assoc]
          refine hc _ _ ?_
          rw [shCells_at (shOf l N) kk j (by rw [shOf_length]; exact hlt) hj, ← hs]
          exact hu
        have hcell' : ∀ j u, s.cells[j]? = some u → j < 4 → wr.cell? ⟨b', off' + kk * 4 + j, none⟩ = some u := fun j u hu hj => by
          refine (hbel.cell (p := ⟨b', _, none⟩) hb').trans ?_
          rw [Nat.add_assoc]
          refine hc' _ _ ?_
          rw [shCells_at (shOf l N) kk j (by rw [shOf_length]; exact hlt) hj, ← hs]
          exact hu
        have c0 : wr.cell? ⟨b, off + kk * 4, none⟩ = some (.int .u8 (s.r.toNat : Int)) := hcell 0 _ rfl (by omega)
        have c1 : wr.cell? ⟨b, off + kk * 4 + 1, none⟩ = some (.int .u8 (s.g.toNat : Int)) := hcell 1 _ rfl (by omega)
        have c2 : wr.cell? ⟨b, off + kk * 4 + 2, none⟩ = some (.int .u8 (s.b.toNat : Int)) := hcell 2 _ rfl (by omega)
        have c3 : wr.cell? ⟨b, off + kk * 4 + 3, none⟩ = some (.int .u8 (s.a.toNat : Int)) := hcell 3 _ rfl (by omega)
        have d0 : wr.cell? ⟨b', off' + kk * 4, none⟩ = some (.int .u8 (s.r.toNat : Int)) := hcell' 0 _ rfl (by omega)
        have d1 : wr.cell? ⟨b', off' + kk * 4 + 1, none⟩ = some (.int .u8 (s.g.toNat : Int)) := hcell' 1 _ rfl (by omega)
        have d2 : wr.cell? ⟨b', off' + kk * 4 + 2, none⟩ = some (.int .u8 (s.b.toNat : Int)) := hcell' 2 _ rfl (by omega)
        have d3 : wr.cell? ⟨b', off' + kk * 4 + 3, none⟩ = some (.int .u8 (s.a.toNat : Int)) := hcell' 3 _ rfl (by omega)
        have hd4 : decide ((kk : Int) < (N : Int)) = true := by simp; omega
        have hbw : b' < wr.heap.size := Nat.lt_of_lt_of_le hb' hbel.size
        have Hbel := Lib.hid hbel
        have Hk := Lib.hid hk
        clear hbel hk hs hcell hcell' hc hc'
        go_wp2
        go_quiet (fail)
        go_wp2
        go_roundg (N - (kk + 1))
        case measure => have := Hk.out; omega
        case rel => exact ⟨kk + 1, by omega, by go_num, below_drewN (Hbel.out.alloc Hbel.out.size _) _⟩
      · obtain rfl : kk = N := by omega
        have Hbel := Lib.hid hbel
        clear hbel hk
        go_wp2
        go_ret
        exact ⟨rfl, Hb3.out.trans (Hbel.out.mono Hb3.out.size)⟩
  · obtain rfl := k2 (by have := HM.out; omega)
    clear k1 k2
    have hx : (n : Int) < (M : Int) := by omega
    go_wp2
    rw [hpw]
    clear hpw
    go_wp2
    go_ret
    exact ⟨rfl, Hb1.out⟩
end Go.Proofs.YthlhcfjpijilaaaDoor
