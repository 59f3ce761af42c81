/- laws.FnTableBack: the walk. -/
import Derived.Test.YthlhcfjpijilaaaDoorFnRdW
import Derived.Test.YthlhcfjpijilaaaDoorTable
import Derived.Test.YthlhcfjpijilaaaDoorLog2B
namespace Go.Proofs.YthlhcfjpijilaaaDoor
open Go Go.ChangeShapes Go.WideShapes Go.ChangeAt Go.RowKit Go.Lib

theorem log2F_small (n : Nat) (hn : n ≤ 256) : log2F (n : Int) ≤ 7 ∧ n ≤ 2 ^ (log2F (n : Int) + 1) := by
  have h : ∀ x : Fin 257, log2F ((x.val : Nat) : Int) ≤ 7 ∧ x.val ≤ 2 ^ (log2F ((x.val : Nat) : Int) + 1) := by decide +kernel
  exact h ⟨n, by omega⟩

theorem rgb_at : ∀ (l : List Sh) (j : Nat) (h : j < l.length), (rgb l)[3 * j]? = some l[j].r ∧ (rgb l)[3 * j + 1]? = some l[j].g ∧ (rgb l)[3 * j + 2]? = some l[j].b
  | s :: l, 0, _ => ⟨rfl, rfl, rfl⟩
  | s :: l, j + 1, h => by
    have ih := rgb_at l j (by simpa using h)
    have e : rgb (s :: l) = s.r :: s.g :: s.b :: rgb l := rfl
    rw [e, show 3 * (j + 1) = 3 * j + 3 by omega, show 3 * j + 3 + 1 = (3 * j + 1) + 3 by omega, show 3 * j + 3 + 2 = (3 * j + 2) + 3 by omega]
    exact ih
theorem shAt_tab (l : List Sh) (N j : Nat) (hj : j < l.length) : shAt (tabBytes l N) j = l[j].solid := by
  have hr := rgb_at l j hj
  have hb := rgb_length l
  unfold shAt tabBytes Sh.solid
  simp only [List.getD_eq_getElem?_getD]
  rw [List.getElem?_append_left (by omega), List.getElem?_append_left (by omega), List.getElem?_append_left (by omega), hr.1, hr.2.1, hr.2.2]
  rfl
theorem shAt_pad (l : List Sh) (N j : Nat) (hj : l.length ≤ j) : shAt (tabBytes l N) j = ⟨0, 0, 0, 255⟩ := by
  have hb := rgb_length l
  have hx : ∀ q, (tabBytes l N)[3 * j + q]?.getD 0 = 0 := fun q => by
    unfold tabBytes
    rw [List.getElem?_append_right (by omega), List.getElem?_replicate]
    split <;> rfl
  unfold shAt
  simp only [List.getD_eq_getElem?_getD]
  rw [show (tabBytes l N)[3 * j]?.getD 0 = 0 from hx 0, hx 1, hx 2]

theorem fntb_out (w : World) (A : Option Addr) (n c : Nat) (hn : n = 0 ∨ 256 < n) :
    Calls Tryd.prog 8 #[.slice A n c] w fun e w' => e = .returned (.bool true) ∧ Below w.heap.size w w' := by
  by_cases h0 : 2147483647 < n
  · have h1 : (2147483647 : Int) < (n : Int) := by omega
    go_enter Tryd.func8, Tryd.ntmps8
    go_wp2
    go_ret
    exact ⟨rfl, Below.refl _ _⟩
  · have h1 : (n : Int) ≤ (2147483647 : Int) := by omega
    rcases hn with rfl | h2
    · go_enter Tryd.func8, Tryd.ntmps8
      go_wp2
      go_ret
      exact ⟨rfl, Below.refl _ _⟩
    · have h2 : (256 : Int) < (n : Int) := by omega
      have h3 : ((n : Int) == 0) = false := by simp; omega
      go_enter Tryd.func8, Tryd.ntmps8
      go_wp2
      go_ret
      exact ⟨rfl, Below.refl _ _⟩

def TbRel (w4 : World) (N g : Nat) (iv : Value) (wr : World) : Prop :=
  ∃ kk, g + kk = N ∧ iv = .int .i64 ((kk : Nat) : Int) ∧ Below w4.heap.size w4 wr
theorem below_drewN' {B : Nat} {a w : World} (h : Below B a w) (n : Nat) : Below B a (w.drewN n) := ⟨h.os, h.tape, h.output, h.size, h.block⟩

set_option maxRecDepth 100000 in
set_option maxHeartbeats 2000000 in
theorem fntb_any (w : World) (a1 a2 : Addr) (n c k N : Nat) (A : Option Addr) (l : List Sh) (hk : k = log2F (n : Int)) (hN : 2 ^ (k + 1) = N) (hS : Sent w.heap.size a1 a2 w) (hA : Reads w w.heap.size A (shCells l)) (hl : l.length = n) (hn0 : 0 < n) (hn : n ≤ 256) :
    Calls Tryd.prog 8 #[.slice A n c] w fun e w' => e = .returned (.bool true) ∧ Below w.heap.size w w' := by
  have hs := log2F_small n hn
  rw [← hk, hN] at hs
  obtain ⟨hk7, hnN⟩ := hs
  have hN256 : N ≤ 256 := by rw [← hN]; exact Nat.pow_le_pow_right (n := 2) (by omega) (show k + 1 ≤ 8 by omega)
  have h1 : (n : Int) ≤ (2147483647 : Int) := by omega
  have h2 : (n : Int) ≤ (256 : Int) := by omega
  have h3 : ((n : Int) == 0) = false := by simp; omega
  have hk8 : k % 8 = k := by omega
  have HA := Lib.hid hA
  have Hl := Lib.hid hl
  have HS := Lib.hid hS
  have HN := Lib.hid hN
  have Hk := Lib.hid hk
  clear hS hA hl hN hk
  go_enter Tryd.func8, Tryd.ntmps8
  go_wp2_with fail
  refine (ilog2_any (n : Int) w (by omega) (by omega)).mono ?_
  rintro e w' ⟨rfl, rfl⟩
  rw [← Hk.out]
  go_wp2_with fail
  refine (solid_any w A n c l Hl.out hn HA.out).mono ?_
  rintro e w1 ⟨A1, c1, rfl, hown1, hb1⟩
  have Hown1 := Lib.hid hown1
  have Hb1 := Lib.hid hb1
  clear hown1 hb1
  go_wp2_with fail
  refine (table_any w1 A1 n c1 k N (solidL l) (by rw [solidL_length, Hl.out]) hk7 HN.out hnN (ownR Hown1.out)).mono ?_
  rintro e w2 ⟨A2, c2, rfl, hown2, hb2⟩
  rw [tabBytes_solid] at hown2
  have Hown2 := Lib.hid hown2
  have Hb2 := Lib.hid (Hb1.out.trans (hb2.mono Hb1.out.size))
  clear hown2 hb2
  go_wp2_with fail
  refine (readt_any w2 a1 a2 (3 * N) c2 k N A2 (tabBytes l N) (by omega) (by rw [hk8]; exact HN.out) ((HS.out.below Hb2.out).more Hb2.out.size) (ownR Hown2.out) (tabBytes_length l N (by rw [Hl.out]; exact hnN)) (by omega)).mono ?_
  rintro e w3 ⟨k1, _, k3⟩
  obtain ⟨A3, c3, rfl, hown3⟩ := k1 (Nat.le_refl _)
  have Hr3 := Lib.hid (ownR hown3)
  have Hb3 := Lib.hid (Hb2.out.trans (k3.mono Hb2.out.size))
  have HA3 := Lib.hid (HA.out.below Hb3.out)
  clear k1 k3 hown3 Hb1 Hb2 Hown1 Hown2 HA
  have hx : ¬ (N : Int) < (n : Int) := by omega
  have hx2 : decide (N < n) = false := by simp; omega
  go_wp2
  go_loopg [54] N (fun g iv wr => TbRel w3 N g iv wr)
  case atStart => exact ⟨0, by omega, rfl, Below.refl _ _⟩
  case round =>
    obtain ⟨kk, hkk, rfl, hbel⟩ := hrel
    by_cases hlt : kk < N
    · obtain ⟨s, hs⟩ : ∃ s, s = shAt (tabBytes l N) kk := ⟨_, rfl⟩
      obtain ⟨b, off, rfl, hb, hc⟩ := Hr3.out (by rw [shCells_length, shOf_length]; omega)
      have hgt : (shOf (tabBytes l N) N)[kk]'(by rw [shOf_length]; exact hlt) = s := by rw [hs]; simp [shOf]
      have hcell : ∀ j u, s.cells[j]? = some u → j < 4 → wr.cell? ⟨b, off + kk * 4 + j, none⟩ = some u := fun j u hu hj => by
        refine (hbel.cell (p := ⟨b, _, none⟩) hb).trans ?_
        rw [Nat.add_assoc]
        refine hc _ _ ?_
        rw [shCells_at (shOf (tabBytes l N) N) kk j (by rw [shOf_length]; exact hlt) hj, hgt]
        exact hu
      have c0 : wr.cell? ⟨b, off + kk * 4, none⟩ = some (.int .u8 (s.r.toNat : Int)) := hcell 0 _ rfl (by omega)
      have c1 : wr.cell? ⟨b, off + kk * 4 + 1, none⟩ = some (.int .u8 (s.g.toNat : Int)) := hcell 1 _ rfl (by omega)
      have c2 : wr.cell? ⟨b, off + kk * 4 + 2, none⟩ = some (.int .u8 (s.b.toNat : Int)) := hcell 2 _ rfl (by omega)
      have c3 : wr.cell? ⟨b, off + kk * 4 + 3, none⟩ = some (.int .u8 (s.a.toNat : Int)) := hcell 3 _ rfl (by omega)
      have hd4 : decide ((kk : Int) < (N : Int)) = true := by simp; omega
      have hbw : b < wr.heap.size := Nat.lt_of_lt_of_le hb hbel.size
      have Hbel := Lib.hid hbel
      have Hkk := Lib.hid hkk
      by_cases hin : kk < n
      · have hsol : s = (l[kk]'(by rw [Hl.out]; exact hin)).solid := by rw [hs, shAt_tab l N kk (by rw [Hl.out]; exact hin)]
        obtain ⟨t, ht⟩ : ∃ t, t = l[kk]'(by rw [Hl.out]; exact hin) := ⟨_, rfl⟩
        rw [← ht] at hsol
        obtain ⟨b', off', rfl, hb', hc'⟩ := HA3.out (by rw [shCells_length, Hl.out]; omega)
        have hcell' : ∀ j u, t.cells[j]? = some u → j < 4 → wr.cell? ⟨b', off' + kk * 4 + j, none⟩ = some u := fun j u hu hj => by
          refine (hbel.cell (p := ⟨b', _, none⟩) (Nat.lt_of_lt_of_le hb' Hb3.out.size)).trans ?_
          rw [Nat.add_assoc]
          refine hc' _ _ ?_
          rw [shCells_at l kk j (by rw [Hl.out]; exact hin) hj, ← ht]
          exact hu
        have d0 : wr.cell? ⟨b', off' + kk * 4, none⟩ = some (.int .u8 (t.r.toNat : Int)) := hcell' 0 _ rfl (by omega)
        have d1 : wr.cell? ⟨b', off' + kk * 4 + 1, none⟩ = some (.int .u8 (t.g.toNat : Int)) := hcell' 1 _ rfl (by omega)
        have d2 : wr.cell? ⟨b', off' + kk * 4 + 2, none⟩ = some (.int .u8 (t.b.toNat : Int)) := hcell' 2 _ rfl (by omega)
        have hbw' : b' < wr.heap.size := Nat.lt_of_lt_of_le hb' (Nat.le_trans Hb3.out.size hbel.size)
        have hd5 : decide ((kk : Int) < (n : Int)) = true := by simp; omega
        have sr : s.r = t.r := by rw [hsol]; rfl
        have sg : s.g = t.g := by rw [hsol]; rfl
        have sb : s.b = t.b := by rw [hsol]; rfl
        have sa : s.a.toNat = 255 := by rw [hsol]; rfl
        rw [sr] at c0
        rw [sg] at c1
        rw [sb] at c2
        rw [sa] at c3
        clear hbel hkk hs hcell hcell' hc hc' hgt ht hsol sr sg sb sa
        go_wp2
        go_region
        all_goals
          go_wp2
          go_roundg (N - (kk + 1))
          case measure => have := Hkk.out; omega
          case rel => exact ⟨kk + 1, by omega, by go_num, ((Hbel.out.alloc Hbel.out.size _).alloc (by have := Hbel.out.size; simp; omega) _).drew⟩
      · have hsol : s = ⟨0, 0, 0, 255⟩ := by rw [hs, shAt_pad l N kk (by rw [Hl.out]; omega)]
        have hd5 : decide ((kk : Int) < (n : Int)) = false := by simp; omega
        rw [hsol] at c0 c1 c2 c3
        clear hbel hkk hs hcell hc hgt hsol
        go_wp2
        go_roundg (N - (kk + 1))
        case measure => have := Hkk.out; omega
        case rel => exact ⟨kk + 1, by omega, by go_num, (Hbel.out.alloc Hbel.out.size _).alloc (by have := Hbel.out.size; simp; omega) _⟩
    · obtain rfl : kk = N := by omega
      have Hbel := Lib.hid hbel
      clear hbel hkk
      go_wp2
      go_ret
      exact ⟨rfl, Hb3.out.trans (Hbel.out.mono Hb3.out.size)⟩
end Go.Proofs.YthlhcfjpijilaaaDoor
