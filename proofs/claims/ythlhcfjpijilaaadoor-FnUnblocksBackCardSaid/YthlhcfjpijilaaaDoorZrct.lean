/- gif.ZZReadColorTable: a decoder over the bytes, and its color table: the walk. -/
import Derived.Test.YthlhcfjpijilaaaDoorRct
import Derived.Test.YthlhcfjpijilaaaDoorBig
namespace Go.Proofs.YthlhcfjpijilaaaDoor
open Go Go.ChangeShapes Go.WideShapes Go.ChangeAt Go.RowKit Go.Lib

theorem newrd_any (w : World) (A : Option Addr) (n c : Nat) :
    Calls Tryd.prog 30 #[.slice A n c] w fun e w' => e = .returned (.pointer (some ⟨w.heap.size, 0, none⟩)) ∧ w' = w.alloc (.cells (rdCells A n c 0 (-1)) 100) := by
  go_enter Tryd.func30, Tryd.ntmps30
  go_wp2
  go_ret
  exact ⟨rfl, rfl⟩

set_option maxRecDepth 100000 in
set_option maxHeartbeats 2000000 in
theorem zrct_any (w : World) (a1 a2 : Addr) (n c f N : Nat) (A : Option Addr) (l : List UInt8) (hf : f ≤ 255) (hN : 2 ^ (f % 8 + 1) = N) (hS : Sent w.heap.size a1 a2 w) (hA : Reads w w.heap.size A (byteCells l)) (hl : l.length = n) (hnc : n ≤ c) (hc : c ≤ maxLen) :
    Calls Tryd.prog 23 #[.slice A n c, .int .u8 (f : Int)] w fun e w' =>
      (3 * N ≤ n → ∃ G, e = .returned (.tuple #[.slice (some ⟨G, 0, none⟩) N N, .nilIface]) ∧ w.heap.size ≤ G ∧ Blk w' G 83 (palCells 84 (shOf l N)).toArray) ∧
        (¬ 3 * N ≤ n → ∃ a, e = .returned (.tuple #[.slice none 0 0, errV a])) ∧ Below w.heap.size w w' := by
  have HS := Lib.hid hS
  have HA := Lib.hid hA
  have Hl := Lib.hid hl
  have HN := Lib.hid hN
  clear hS hA hl hN
  go_enter Tryd.func23, Tryd.ntmps23
  go_wp2_with fail
  refine (newrd_any w A n c).mono ?_
  rintro e w1 ⟨rfl, rfl⟩
  have hR := Blk.new w 100 (rdCells A n c 0 (-1))
  have hb1 : Below w.heap.size w (w.alloc (.cells (rdCells A n c 0 (-1)) 100)) := (Below.refl _ w).alloc (Nat.le_refl _) _
  have hs1 : (w.alloc (.cells (rdCells A n c 0 (-1)) 100)).heap.size = w.heap.size + 1 := by simp
  generalize w.alloc (.cells (rdCells A n c 0 (-1)) 100) = w1 at *
  go_wp2_with (first
    | (refine wpList_buildTo (o := ⟨some 10, _, _, _, _, _⟩) rfl 80 _ rfl (some 10) rfl (decCells w.heap.size (List.replicate 1024 0)).toArray (by exact decBuilt _) ?_)
    | (refine wpList_box_big (o := ⟨some 11, _, _, _, _, _⟩) rfl 80 _ rfl (decCells w.heap.size (List.replicate 1024 0)).toArray rfl ?_; intro w2 hB2 hgr2 hs2; have Hgr2 := Lib.hid hgr2; have Hs2 := Lib.hid hs2; clear hgr2 hs2))
  have hb2 : Below w.heap.size w w2 := hb1.trans ((below_of_grownBy Hgr2.out).mono (by omega))
  rw [hs1] at hB2
  refine (rct_any w2 w.heap.size a1 a2 w.heap.size (w.heap.size + 1) n c f N (-1) A l (List.replicate 1024 0) hf HN.out (HS.out.below hb2) (hR.grown Hgr2.out (by simp)) hB2.out (by simp) (by omega) (Nat.le_refl _) (by omega) (HA.out.below hb2) Hl.out hnc hc).mono ?_
  rintro e w3 ⟨h1, h2, h3⟩
  have Hb3 := Lib.hid (hb2.trans h3)
  clear h3 hb2 hB2
  by_cases hMn : 3 * N ≤ n
  · obtain ⟨G, rfl, hG, hbG⟩ := h1 hMn
    have HbG := Lib.hid hbG
    clear h1 h2 hbG
    go_wp2
    go_ret2
    exact ⟨fun _ => ⟨G, rfl, hG, HbG.out⟩, fun h => absurd hMn h, Hb3.out⟩
  · obtain ⟨a, rfl⟩ := h2 hMn
    clear h1 h2
    go_wp2
    go_ret2
    exact ⟨fun h => absurd h hMn, fun _ => ⟨a, rfl⟩, Hb3.out⟩
end Go.Proofs.YthlhcfjpijilaaaDoor
