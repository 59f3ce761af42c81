/- The walk of laws.FnUninterlace: all ways return true. -/
import Derived.Test.YthlhcfjpijilaaaDoorIUnlace
import Derived.Deep.RegionWith
import Derived.Laws.IdiomStrings
namespace Go.Proofs.YthlhcfjpijilaaaDoor
open Go Go.ChangeShapes Go.WideShapes Go.ChangeAt Go.RowKit Go.Lib Go.Deep

/-- 'string(b)' of bytes that are read: the bytes. -/
theorem conv_bytes (c : Nat) {w : World} {B n : Nat} {A : Option Addr} {l : List UInt8} (h : Reads w B A (byteCells l)) (hl : l.length = n) (hn : 0 < n) :
    (convert 22 9 (.slice A n c)).run Tryd.prog w = .ok (.string ⟨l.toArray⟩) w := by
  subst hl
  obtain ⟨b, off, rfl, _, hc⟩ := h.bytes hn
  exact run_convert_bytes_back w _ _ 5 ⟨b, off, none⟩ c l Tryd.underlying22 Tryd.underlying5 Tryd.underlying9 (fun j hj => by rw [add_lit]; exact hc j hj)

theorem PTab.drew {w : World} {tb to : Nat} (h : PTab w tb to) : PTab w.drew tb to := ⟨h.var, h.cells⟩
theorem below_of_drew {B : Nat} {w w' : World} (h : Below B w.drew w') : Below B w w' := ⟨h.os, h.tape, h.output, h.size, h.block⟩
theorem Reads.reach {w w' : World} {A : Option Addr} {xs : List Value} (h : Reads w w.heap.size A xs) (hb : Below w.heap.size w w') : Reads w' w'.heap.size A xs := (h.below hb).more hb.size

set_option maxHeartbeats 1000000 in
theorem fnun_main (w : World) (A : Option Addr) (n c dx dy tb to : Nat) (pix : List UInt8) (hdx : dx ≤ 255) (hdx0 : 0 < dx) (hdy : dy ≤ 255) (hdy0 : 0 < dy) (hn : dx * dy = n) (hpl : pix.length = n) (hc : n ≤ c)
   (hpix : Reads w w.heap.size A (byteCells pix)) (ht : PTab w tb to) :
   Calls Tryd.prog 3 #[.slice A n c, .int .u8 dx, .int .u8 dy] w fun e w' => e = .returned (.bool true) ∧ Below w.heap.size w w' := by
  have hnb : n ≤ 65025 := by rw [← hn]; exact Nat.mul_le_mul hdx hdy
  have hn0 : 0 < n := by rw [← hn]; exact Nat.mul_pos hdx0 hdy0
  have hmul : ((n : Int) != wrap64 ((dx : Int) * dy)) = false := by
    rw [← Int.natCast_mul, hn, IntWalk.wrap64_in _ (by omega)]
    simp
  have ez : ((dx : Int) == 0) = false := by simp; omega
  have ew : ((dy : Int) == 0) = false := by simp; omega
  have Hpix := Lib.hid hpix
  have Hn := Lib.hid hn
  have Hpl := Lib.hid hpl
  have Ht := Lib.hid ht
  clear hpix hn hpl ht
  go_enter Tryd.func3, Tryd.ntmps3
  go_wp2_with fail
  clear hmul ez ew
  have HL := Lib.hid (straight_length pix dx dy n hdy Hn.out Hpl.out)
  go_region_with (first
    | (go_at_call 9; refine (iunlace_any _ A n c dx dy tb to pix hdx hdx0 hdy hdy0 Hn.out Hpl.out (by exact Hpix.out) (by exact Ht.out.drew)).mono ?_; rintro e w1 ⟨A1, c1, rfl, hown1, hbel1⟩; rw [HL.out] at hown1 ⊢; have k1 := conv_bytes c1 (Reads.of_own hown1) HL.out hn0; have Hown1 := Lib.hid hown1; have Hbel1 := Lib.hid (below_of_drew (w := w) hbel1); clear hown1 hbel1)
    | (go_at_call 10; refine (straight_any _ A n c dx dy pix hdx hdx0 hdy hdy0 Hn.out Hpl.out hc (by exact Hpix.out.reach Hbel1.out)).mono ?_; rintro e w2 ⟨g, rfl, hg, hbg, hbel2⟩; have k2 := conv_bytes n (reads_of_blk (final_bytes pix dx dy n ▸ hbg)) HL.out hn0; have k3 := conv_bytes c1 ((Reads.of_own Hown1.out).below hbel2) HL.out hn0; have Hbel2 := Lib.hid hbel2; clear hbel2 hbg hg))
  all_goals
    clear k1 k2 k3
    go_wp2
    go_ret
    exact ⟨rfl, Hbel1.out.trans (Hbel2.out.mono Hbel1.out.size)⟩
theorem fnun_big (w : World) (A : Option Addr) (n c dx dy : Nat) (hbig : 2147483647 < n) :
   Calls Tryd.prog 3 #[.slice A n c, .int .u8 dx, .int .u8 dy] w fun e w' => e = .returned (.bool true) ∧ Below w.heap.size w w' := by
  have h1 : (2147483647 : Int) < (n : Int) := by omega
  go_enter Tryd.func3, Tryd.ntmps3
  go_wp2
  go_ret
  exact ⟨rfl, Below.refl _ _⟩
theorem fnun_x0 (w : World) (A : Option Addr) (n c dy : Nat) (hbig : n ≤ 2147483647) :
   Calls Tryd.prog 3 #[.slice A n c, .int .u8 0, .int .u8 dy] w fun e w' => e = .returned (.bool true) ∧ Below w.heap.size w w' := by
  have h1 : (n : Int) ≤ (2147483647 : Int) := by omega
  go_enter Tryd.func3, Tryd.ntmps3
  go_wp2
  go_ret
  exact ⟨rfl, Below.refl _ _⟩
theorem fnun_y0 (w : World) (A : Option Addr) (n c dx : Nat) (hbig : n ≤ 2147483647) (hdx : dx ≤ 255) (hx : 0 < dx) :
   Calls Tryd.prog 3 #[.slice A n c, .int .u8 dx, .int .u8 0] w fun e w' => e = .returned (.bool true) ∧ Below w.heap.size w w' := by
  have h1 : (n : Int) ≤ (2147483647 : Int) := by omega
  have ez : ((dx : Int) == 0) = false := by simp; omega
  go_enter Tryd.func3, Tryd.ntmps3
  go_wp2
  go_ret
  exact ⟨rfl, Below.refl _ _⟩
theorem fnun_ne (w : World) (A : Option Addr) (n c dx dy : Nat) (hbig : n ≤ 2147483647) (hdx : dx ≤ 255) (hx : 0 < dx) (hdy : dy ≤ 255) (hy : 0 < dy) (hn : dx * dy ≠ n) :
   Calls Tryd.prog 3 #[.slice A n c, .int .u8 dx, .int .u8 dy] w fun e w' => e = .returned (.bool true) ∧ Below w.heap.size w w' := by
  have h1 : (n : Int) ≤ (2147483647 : Int) := by omega
  have ez : ((dx : Int) == 0) = false := by simp; omega
  have ew : ((dy : Int) == 0) = false := by simp; omega
  have hmul : ((n : Int) != wrap64 ((dx : Int) * dy)) = true := by
    have h2 : dx * dy ≤ 255 * 255 := Nat.mul_le_mul hdx hdy
    rw [← Int.natCast_mul, IntWalk.wrap64_in _ (by omega), bne_iff_ne]
    omega
  clear hn
  go_enter Tryd.func3, Tryd.ntmps3
  go_wp2
  go_ret
  exact ⟨rfl, Below.refl _ _⟩

theorem fnun_any (w : World) (A : Option Addr) (n c dx dy tb to : Nat) (pix : List UInt8) (hdx : dx ≤ 255) (hdy : dy ≤ 255) (hpl : pix.length = n) (hc : n ≤ c) (hpix : Reads w w.heap.size A (byteCells pix)) (ht : PTab w tb to) :
   Calls Tryd.prog 3 #[.slice A n c, .int .u8 dx, .int .u8 dy] w fun e w' => e = .returned (.bool true) ∧ Below w.heap.size w w' := by
  by_cases hbig : 2147483647 < n
  · exact fnun_big w A n c dx dy hbig
  · rcases Nat.eq_zero_or_pos dx with rfl | hx
    · exact fnun_x0 w A n c dy (by omega)
    · rcases Nat.eq_zero_or_pos dy with rfl | hy
      · exact fnun_y0 w A n c dx (by omega) hdx hx
      · by_cases hn : dx * dy = n
        · exact fnun_main w A n c dx dy tb to pix hdx hx hdy hy hn hpl hc hpix ht
        · exact fnun_ne w A n c dx dy (by omega) hdx hx hdy hy hn

end Go.Proofs.YthlhcfjpijilaaaDoor
