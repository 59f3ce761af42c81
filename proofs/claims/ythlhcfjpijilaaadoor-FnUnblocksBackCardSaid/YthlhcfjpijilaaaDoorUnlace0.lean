/- Walks of Bounds, Dx, Dy at an image whose corner is 0, 0. -/
import Derived.Test.YthlhcfjpijilaaaDoorClone
import Derived.Test.YthlhcfjpijilaaaDoorLace
import Derived.Deep.LoopGhost
import Derived.Deep.RegionLaw
import Derived.Test.YthlhcfjpijilaaaDoorCopy
namespace Go.Proofs.YthlhcfjpijilaaaDoor
open Go Go.ChangeShapes Go.WideShapes Go.ChangeAt Go.RowKit Go.Lib

theorem bounds_any (w : World) (m : Nat) (x0 y0 x1 y1 : Int) (hm : m < w.heap.size)
   (c2 : w.cell? ⟨m, 2, none⟩ = some (.int .i64 x0)) (c3 : w.cell? ⟨m, 3, none⟩ = some (.int .i64 y0)) (c4 : w.cell? ⟨m, 4, none⟩ = some (.int .i64 x1)) (c5 : w.cell? ⟨m, 5, none⟩ = some (.int .i64 y1)) :
   Calls Tryd.prog 36 #[.pointer (some ⟨m, 0, none⟩)] w fun e w' => e = .returned (.agg #[.int .i64 x0, .int .i64 y0, .int .i64 x1, .int .i64 y1]) ∧ Below w.heap.size w w' := by
  have d2 := fun o => (World.cell?_alloc_lt w o ⟨m, 2, none⟩ hm).trans c2
  have d3 := fun o => (World.cell?_alloc_lt w o ⟨m, 3, none⟩ hm).trans c3
  have d4 := fun o => (World.cell?_alloc_lt w o ⟨m, 4, none⟩ hm).trans c4
  have d5 := fun o => (World.cell?_alloc_lt w o ⟨m, 5, none⟩ hm).trans c5
  go_enter Tryd.func36, Tryd.ntmps36
  go_wp2
  exact bodyPost_ret (v := .agg #[.int .i64 x0, .int .i64 y0, .int .i64 x1, .int .i64 y1]) (by simp [results, Tryd.results36, go_sem]) rfl ⟨rfl, (Below.refl _ _).alloc (Nat.le_refl _) _⟩

theorem dx_any (w : World) (dx dy : Nat) (h : dx ≤ 255) :
   Calls Tryd.prog 37 #[.agg #[.int .i64 0, .int .i64 0, .int .i64 dx, .int .i64 dy]] w fun e w' => e = .returned (.int .i64 dx) ∧ Below w.heap.size w w' := by
  go_enter Tryd.func37, Tryd.ntmps37
  go_wp2
  go_ret
  exact ⟨rfl, (Below.refl _ _).alloc (Nat.le_refl _) _⟩
theorem dy_any (w : World) (dx dy : Nat) (h : dy ≤ 255) :
   Calls Tryd.prog 38 #[.agg #[.int .i64 0, .int .i64 0, .int .i64 dx, .int .i64 dy]] w fun e w' => e = .returned (.int .i64 dy) ∧ Below w.heap.size w w' := by
  go_enter Tryd.func38, Tryd.ntmps38
  go_wp2
  go_ret
  exact ⟨rfl, (Below.refl _ _).alloc (Nat.le_refl _) _⟩
end Go.Proofs.YthlhcfjpijilaaaDoor
