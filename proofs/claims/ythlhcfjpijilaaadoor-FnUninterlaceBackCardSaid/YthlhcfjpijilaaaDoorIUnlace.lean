/- The walks of the thin package's Uninterlace and of the package's ZZUninterlace. -/
import Derived.Test.YthlhcfjpijilaaaDoorStraight
namespace Go.Proofs.YthlhcfjpijilaaaDoor
open Go Go.ChangeShapes Go.WideShapes Go.ChangeAt Go.RowKit Go.Lib Go.Deep

theorem lay_map {α β : Type} (f : α → β) (src : List α) (dx : Nat) : ∀ (ys : List Nat) (k : Nat) (out : List α), lay (src.map f) dx ys k (out.map f) = (lay src dx ys k out).map f
  | [], _, _ => rfl
  | y :: ys, k, out => by
    have e : splice (out.map f) (y * dx) (rowAt (src.map f) dx k) = (splice out (y * dx) (rowAt src dx k)).map f := by
      simp [splice, rowAt, List.map_take, List.map_drop]
    show lay (src.map f) dx ys (k + 1) (splice (out.map f) (y * dx) (rowAt (src.map f) dx k)) = _
    rw [e, lay_map f src dx ys (k + 1)]
    rfl

/-- The pixels of an interlaced image, row by row. -/
def straight (pix : List UInt8) (dx dy n : Nat) : List UInt8 := lay pix dx (turn dy) 0 (List.replicate n 0)
theorem final_bytes (pix : List UInt8) (dx dy n : Nat) : FinalOf (byteCells pix) dx dy n = byteCells (straight pix dx dy n) := by
  unfold FinalOf straight byteCells
  rw [← lay_map]
  simp [zeros]
theorem straight_length (pix : List UInt8) (dx dy n : Nat) (hdy : dy ≤ 255) (hn : dx * dy = n) (hpl : pix.length = n) : (straight pix dx dy n).length = n := by
  unfold straight
  rw [lay_length pix dx dy (by rw [hpl, hn]) (turn dy) 0 _ (by simp [hn]) (turn_lt dy hdy) (by rw [turn_length dy hdy]; omega), hn]

theorem PTab.below {w w' : World} {tb to : Nat} (h : PTab w tb to) (hb : Below w.heap.size w w') : PTab w' tb to :=
  ⟨(hb.cell (p := ⟨0, 0, none⟩) (World.block_lt_of_cell? _ _ h.var)).trans h.var, fun j u hu => by
    have hc := h.cells j u hu
    exact (hb.cell (p := ⟨tb, to + j, none⟩) (World.block_lt_of_cell? _ _ hc)).trans hc⟩
theorem reads_of_blk {w : World} {g : Nat} {t : TypeId} {xs : List Value} (h : Blk w g t xs.toArray) : Reads w w.heap.size (some ⟨g, 0, none⟩) xs := fun _ =>
  ⟨g, 0, rfl, h.lt, fun j u hu => by rw [Nat.zero_add, h.cell]; simpa using hu⟩
theorem own_base {w : World} {B B' : Nat} {e : TypeId} {size n : Nat} {v : Value} {xs : List Value} (h : w.ownsRow B e size v n xs) (hB : B' ≤ B) : w.ownsRow B' e size v n xs := by
  refine ⟨h.1, ?_⟩
  rcases h.2 with h' | ⟨g, cap, cur, hv, hg, r⟩
  · exact .inl h'
  · exact .inr ⟨g, cap, cur, hv, Nat.le_trans hB hg, r⟩

set_option maxHeartbeats 1000000 in
theorem zzunlace_any (w : World) (A : Option Addr) (n c dx dy tb to : Nat) (pix : List UInt8) (hdx : dx ≤ 255) (hdx0 : 0 < dx) (hdy : dy ≤ 255) (hdy0 : 0 < dy) (hn : dx * dy = n) (hpl : pix.length = n)
   (hpix : Reads w w.heap.size A (byteCells pix)) (ht : PTab w tb to) :
   Calls Tryd.prog 22 #[.slice A n c, .int .i64 dx, .int .i64 dy] w fun e w' => NewOut w n (FinalOf (byteCells pix) dx dy n) e w' := by
  have hnb : n ≤ 65025 := by rw [← hn]; exact Nat.mul_le_mul hdx hdy
  obtain ⟨i0, hi, hz0, hz1, hz2⟩ := info_parts info5
  have Hpix := Lib.hid hpix
  have Hn := Lib.hid hn
  have Hpl := Lib.hid hpl
  have Ht := Lib.hid ht
  clear hpix hn hpl ht
  go_enter Tryd.func22, Tryd.ntmps22
  go_wp2_with (at_builtin; refine wpList_append_any rfl _ _ 22 rfl w.heap.size 5 i0 (.int .u8 0) 1 1 Tryd.underlying22 hi hz0 hz1 hz2 rfl (by decide) _ 0 [] rfl (World.ownsRow_nil _ _ _ _) w.heap.size A n c (byteCells pix) rfl (by rw [byteCells_length, Hpl.out]; omega) Hpix.out (byteCells_oneCell _) (by unfold maxLen; omega) (by omega) (Nat.le_refl _) ?_; intro v' w1 hown1 hgr1 hat1; rw [List.nil_append, Nat.zero_add] at hown1; obtain ⟨A1, c1, rfl, hc1, _⟩ := own_slice hown1; have Hown1 := Lib.hid hown1; have Hgr1 := Lib.hid hgr1; clear hown1 hgr1 hat1)
  have hbel1 : Below w.heap.size w w1 := (Below.refl _ w).grown Hgr1.out (Nat.le_refl _) (by intro k hk; cases hk)
  have hbel2 := hbel1.alloc hbel1.size (.cells (imgCells A1 n c1 dx dy) 70)
  have hs1 := hbel1.size
  have hm : Blk (w1.alloc (.cells (imgCells A1 n c1 dx dy) 70)) w1.heap.size 70 (imgCells A1 n c1 dx dy) := Blk.new _ _ _
  have ht2 : PTab (w1.alloc (.cells (imgCells A1 n c1 dx dy) 70)) tb to := Ht.out.below hbel2
  have hr2 : Reads (w1.alloc (.cells (imgCells A1 n c1 dx dy) 70)) (w1.alloc (.cells (imgCells A1 n c1 dx dy) 70)).heap.size A1 (byteCells pix) := ((Reads.of_own Hown1.out).alloc (Nat.le_refl _) _).more (by simp)
  refine (unlace_any _ w1.heap.size n c1 dx dy tb to A1 pix hdx hdx0 hdy hdy0 Hn.out Hpl.out hc1 hm hr2 ht2).mono ?_
  rintro e w3 ⟨rfl, g, hg, hbm, hbg, hgr⟩
  have c0 : w3.cell? ⟨w1.heap.size, 0, none⟩ = some (.slice (some ⟨g, 0, none⟩) n n) := hbm.cell 0
  have hbel3 : Below w.heap.size w w3 := hbel2.grown hgr (by simp; omega) (fun k hk => by cases hk; exact hs1)
  have Hbg := Lib.hid hbg
  have Hbel3 := Lib.hid hbel3
  have hg2 : w.heap.size ≤ g := by simp at hg; omega
  clear hbel1 hbel2 hm ht2 hr2 hbm hbg hgr hbel3
  go_wp2
  go_ret
  exact ⟨g, rfl, hg2, Hbg.out, Hbel3.out⟩

theorem iunlace_any (w : World) (A : Option Addr) (n c dx dy tb to : Nat) (pix : List UInt8) (hdx : dx ≤ 255) (hdx0 : 0 < dx) (hdy : dy ≤ 255) (hdy0 : 0 < dy) (hn : dx * dy = n) (hpl : pix.length = n)
   (hpix : Reads w w.heap.size A (byteCells pix)) (ht : PTab w tb to) :
   Calls Tryd.prog 9 #[.slice A n c, .int .i64 dx, .int .i64 dy] w fun e w' => OwnOut w (straight pix dx dy n) e w' := by
  have hnb : n ≤ 65025 := by rw [← hn]; exact Nat.mul_le_mul hdx hdy
  have Hpix := Lib.hid hpix
  have Hn := Lib.hid hn
  have Hpl := Lib.hid hpl
  have Ht := Lib.hid ht
  clear hpix hn hpl ht
  go_enter Tryd.func9, Tryd.ntmps9
  go_wp2_with fail
  refine (clone_any A n c pix w Hpl.out (by omega) Hpix.out).mono ?_
  rintro e w1 ⟨A1, c1, rfl, hown1, hbel1⟩
  obtain ⟨_, _, hv, hc1, _⟩ := own_slice hown1
  cases hv
  rw [Hpl.out] at hc1 hown1 ⊢
  have Hown1 := Lib.hid hown1
  have Hbel1 := Lib.hid hbel1
  clear hown1 hbel1
  go_wp2_with fail
  refine (zzunlace_any w1 A1 n c1 dx dy tb to pix hdx hdx0 hdy hdy0 Hn.out Hpl.out (Reads.of_own Hown1.out) (Ht.out.below Hbel1.out)).mono ?_
  rintro e w2 ⟨g, rfl, hg, hbg, hbel2⟩
  have Hbg := Lib.hid hbg
  have Hbel2 := Lib.hid hbel2
  clear hbg hbel2
  go_wp2_with fail
  refine (clone_any (some ⟨g, 0, none⟩) n n (straight pix dx dy n) w2 (straight_length pix dx dy n hdy Hn.out Hpl.out) (by omega) (reads_of_blk (final_bytes pix dx dy n ▸ Hbg.out))).mono ?_
  rintro e w3 ⟨A3, c3, rfl, hown3, hbel3⟩
  have Hown3 := Lib.hid hown3
  have Hbel3 := Lib.hid hbel3
  clear hown3 hbel3
  go_wp2
  go_ret
  exact ⟨A3, c3, rfl, own_base Hown3.out (Nat.le_trans Hbel1.out.size Hbel2.out.size), Hbel1.out.trans ((Hbel2.out.mono Hbel1.out.size).trans (Hbel3.out.mono (Nat.le_trans Hbel1.out.size Hbel2.out.size)))⟩
end Go.Proofs.YthlhcfjpijilaaaDoor
