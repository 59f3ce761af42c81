/- The walk of the package's 'uninterlace': the rows are laid one by one in the order of the four passes. -/
import Derived.Test.YthlhcfjpijilaaaDoorUnlace0
import Derived.Maps.Range
import Derived.Deep.OwnRows
namespace Go.Proofs.YthlhcfjpijilaaaDoor
open Go Go.ChangeShapes Go.WideShapes Go.ChangeAt Go.RowKit Go.Lib Go.Deep

def tabCells : List Value := [.int .i64 8, .int .i64 0, .int .i64 8, .int .i64 4, .int .i64 4, .int .i64 2, .int .i64 2, .int .i64 1]
/-- The variable of the four passes, and where its cells lie. -/
structure PTab (w : World) (tb to : Nat) : Prop where
  var : w.cell? ⟨0, 0, none⟩ = some (.slice (some ⟨tb, to, none⟩) 4 4)
  cells : ∀ j u, tabCells[j]? = some u → w.cell? ⟨tb, to + j, none⟩ = some u

/-- The seven cells of an image of bytes. -/
def imgCells (A : Option Addr) (n c dx dy : Nat) : Array Value := #[.slice A n c, .int .i64 dx, .int .i64 0, .int .i64 0, .int .i64 dx, .int .i64 dy, .slice none 0 0]

theorem info5' : (Tryd.prog.info? 5).map (fun i => (i.zero, i.size, i.bytes)) = some (some (.int .u8 0), 1, 1) := by kernel_rfl

def zeros (n : Nat) : List Value := List.replicate n (.int .u8 0)
def FinalOf (pix : List Value) (dx dy n : Nat) : List Value := lay pix dx (turn dy) 0 (zeros n)

theorem blk_made (w : World) (n : Nat) : Blk (w.alloc (.cells (madeCells #[Value.int IntKind.u8 0] n) 5)) w.heap.size 5 (zeros n).toArray := by
  have h := Blk.new w 5 (madeCells #[Value.int IntKind.u8 0] n)
  have e : madeCells #[Value.int IntKind.u8 0] n = (zeros n).toArray := by
    apply Array.ext'
    rw [toList_madeCells_one]
    simp [zeros]
  exact e ▸ h

theorem cell_far {w w' : World} {row : Option Nat} (hg : w.grownBy w' row) (b o : Nat) (hlt : b < w.heap.size) (hne : some b ≠ row) : w'.cell? ⟨b, o, none⟩ = w.cell? ⟨b, o, none⟩ :=
  World.cell?_of_block (hg.block b hlt hne)

theorem mul_in (a b m : Nat) (h : a * b ≤ m) : 0 ≤ (a : Int) * b ∧ (a : Int) * b ≤ m := by
  rw [← Int.natCast_mul]
  omega
theorem int_mul (a b : Nat) : Value.int .i64 ((a : Int) * b) = .int .i64 ((a * b : Nat) : Int) := by rw [Int.natCast_mul]

def OutRel (w1 : World) (g n dx dy : Nat) (pix : List Value) (k : Nat) (off i : Value) (wr : World) : Prop :=
  ∃ kk cnt cur, k + kk = 4 ∧ i = .int .i64 (kk : Nat) ∧ off = .int .i64 ((cnt * dx : Nat) : Int) ∧ Blk wr g 5 cur.toArray ∧ cur.length = n ∧ w1.grownBy wr (some g) ∧
    lay pix dx (turnFrom dy (passes.drop kk)) cnt cur = FinalOf pix dx dy n ∧ cnt + (turnFrom dy (passes.drop kk)).length = dy

theorem pass_row (kk : Nat) (h : kk < 4) : ∃ st sk : Nat, passes.drop kk = (st, sk) :: passes.drop (kk + 1) ∧ tabCells[kk * 2]? = some (.int .i64 sk) ∧ tabCells[kk * 2 + 1]? = some (.int .i64 st) ∧ st ≤ 4 ∧ 2 ≤ sk ∧ sk ≤ 8 := by
  obtain rfl | rfl | rfl | rfl : kk = 0 ∨ kk = 1 ∨ kk = 2 ∨ kk = 3 := by omega
  · exact ⟨0, 8, rfl, rfl, rfl, by omega, by omega, by omega⟩
  · exact ⟨4, 8, rfl, rfl, rfl, by omega, by omega, by omega⟩
  · exact ⟨2, 4, rfl, rfl, rfl, by omega, by omega, by omega⟩
  · exact ⟨1, 2, rfl, rfl, rfl, by omega, by omega, by omega⟩

def InRel (W : World) (g n dx dy sk : Nat) (pix : List Value) (tail : List Nat) (k : Nat) (off nOff y : Value) (wi : World) : Prop :=
  ∃ cnt yy of no f cur, k = (rowsF f yy sk dy).length ∧ dy ≤ yy + f ∧ off = .int .i64 ((of : Nat) : Int) ∧ of = cnt * dx ∧ nOff = .int .i64 ((no : Nat) : Int) ∧ no = yy * dx ∧ y = .int .i64 ((yy : Nat) : Int) ∧ yy ≤ 512 ∧
    Blk wi g 5 cur.toArray ∧ cur.length = n ∧ W.grownBy wi (some g) ∧ lay pix dx (rowsF f yy sk dy ++ tail) cnt cur = FinalOf pix dx dy n ∧ cnt + (rowsF f yy sk dy ++ tail).length = dy

/-- Behind 'uninterlace': the image has new pixels, the rows laid in the order of the passes. -/
def UnlaceOut (w : World) (m n dx dy : Nat) (pix : List Value) (e : Ending) (w' : World) : Prop :=
  e = .returned (.tuple #[]) ∧ ∃ g, w.heap.size ≤ g ∧ Blk w' m 70 (imgCells (some ⟨g, 0, none⟩) n n dx dy) ∧ Blk w' g 5 (FinalOf pix dx dy n).toArray ∧ w.grownBy w' (some m)

set_option maxHeartbeats 1000000 in
theorem unlace_any (w : World) (m n c dx dy tb to : Nat) (A : Option Addr) (pix : List UInt8) (hdx : dx ≤ 255) (hdx0 : 0 < dx) (hdy : dy ≤ 255) (hdy0 : 0 < dy) (hn : dx * dy = n) (hpl : pix.length = n) (hc : n ≤ c)
   (hm : Blk w m 70 (imgCells A n c dx dy)) (hpix : Reads w w.heap.size A (byteCells pix)) (ht : PTab w tb to) :
   Calls Tryd.prog 29 #[.pointer (some ⟨m, 0, none⟩)] w fun e w' => UnlaceOut w m n dx dy (byteCells pix) e w' := by
  have hwn : wrap64 ((dx : Int) * dy) = n := by
    have h1 : ((dx * dy : Nat) : Int) = (n : Int) := by rw [hn]
    have h2 : dx * dy ≤ 255 * 255 := Nat.mul_le_mul hdx hdy
    rw [← Int.natCast_mul, h1]
    exact IntWalk.wrap64_in _ (by omega)
  have hnb : n ≤ 65025 := by rw [← hn]; exact Nat.mul_le_mul hdx hdy
  have Hn := Lib.hid hn
  have Hpl := Lib.hid hpl
  have hmlt := hm.lt
  have c2 : w.cell? ⟨m, 2, none⟩ = some (.int .i64 0) := hm.cell 2
  have c3 : w.cell? ⟨m, 3, none⟩ = some (.int .i64 0) := hm.cell 3
  have c4 : w.cell? ⟨m, 4, none⟩ = some (.int .i64 dx) := hm.cell 4
  have c5 : w.cell? ⟨m, 5, none⟩ = some (.int .i64 dy) := hm.cell 5
  have hn0 : 0 < n := by rw [← hn]; exact Nat.mul_pos hdx0 hdy0
  obtain ⟨pb, po, rfl, hpb, hpc⟩ := hpix (by rw [byteCells_length]; omega)
  have Hm := Lib.hid hm
  have Hpc := Lib.hid hpc
  have Htab := Lib.hid ht
  clear hn hpl hm hpix hpc ht
  have hmk := fun (wx : World) => run_make_row' (P := Tryd.prog) 22 5 (.int .u8 0) 1 Tryd.underlying22 info5' rfl .i64 .i64 n (by omega) (by omega) wx
  have Hmk := Lib.hid hmk
  clear hmk
  go_enter Tryd.func29, Tryd.ntmps29
  go_wp2_with fail
  refine (bounds_any w m 0 0 dx dy hmlt c2 c3 c4 c5).mono ?_
  rintro e w1 ⟨rfl, hb1⟩
  go_wp2_with fail
  refine (dx_any w1 dx dy hdx).mono ?_
  rintro e w2 ⟨rfl, hb2⟩
  have hb12 := hb1.trans (hb2.mono hb1.size)
  clear hb1 hb2
  have d2 : w2.cell? ⟨m, 2, none⟩ = some (.int .i64 0) := (hb12.cell (p := ⟨m, 2, none⟩) hmlt).trans c2
  have d3 : w2.cell? ⟨m, 3, none⟩ = some (.int .i64 0) := (hb12.cell (p := ⟨m, 3, none⟩) hmlt).trans c3
  have d4 : w2.cell? ⟨m, 4, none⟩ = some (.int .i64 dx) := (hb12.cell (p := ⟨m, 4, none⟩) hmlt).trans c4
  have d5 : w2.cell? ⟨m, 5, none⟩ = some (.int .i64 dy) := (hb12.cell (p := ⟨m, 5, none⟩) hmlt).trans c5
  have hs2 := hb12.size
  clear c2 c3 c4 c5
  go_wp2_with fail
  refine (bounds_any w2 m 0 0 dx dy (by omega) d2 d3 d4 d5).mono ?_
  rintro e w3 ⟨rfl, hb3⟩
  go_wp2_with fail
  refine (dy_any w3 dx dy hdy).mono ?_
  rintro e w4 ⟨rfl, hb4⟩
  have hb := hb12.trans ((hb3.mono hb12.size).trans (hb4.mono (Nat.le_trans hb12.size hb3.size)))
  clear hb12 hb3 hb4 d2 d3 d4 d5 hs2
  have hs4 := hb.size
  have hz : 0 < w.heap.size := by omega
  have v4 : ∀ o, (w4.alloc o).cell? ⟨0, 0, none⟩ = some (.slice (some ⟨tb, to, none⟩) 4 4) := fun o => (World.cell?_alloc_lt w4 o ⟨0, 0, none⟩ (by show 0 < _; omega)).trans ((hb.cell (p := ⟨0, 0, none⟩) hz).trans Htab.out.var)
  have hmk := Hmk.out w4
  go_wp2
  clear hwn
  have hB1 := blk_made w4 n
  have hb1 := hb.alloc hs4 (.cells (madeCells #[Value.int IntKind.u8 0] n) 5)
  revert hB1 hb1 hs4
  clear hb v4 hmk
  generalize w4.alloc (.cells (madeCells #[Value.int IntKind.u8 0] n) 5) = w5
  generalize w4.heap.size = g
  intro hs4 hB1 hb1
  have HB1 := Lib.hid hB1
  have Hb1 := Lib.hid hb1
  have hs5 := hB1.lt
  clear hB1 hb1
  go_loopg [5, 22] 4 (fun k off i wr => OutRel w5 g n dx dy (byteCells pix) k off i wr)
  case atStart => exact ⟨0, 0, zeros n, rfl, rfl, by simp, HB1.out, by simp [zeros], grownBy_refl _ _, rfl, by show 0 + (turn dy).length = dy; rw [Nat.zero_add]; exact turn_length dy hdy⟩
  case round =>
    obtain ⟨kk, cnt, cur, hk, rfl, rfl, hB, hcur, hgr, hlay, hcnt⟩ := hrel
    by_cases h4 : kk < 4
    · obtain ⟨st, sk, hp, t0, t1, hst, hsk2, hsk8⟩ := pass_row kk h4
      have hle : w.heap.size ≤ w5.heap.size := Hb1.out.size
      have htb : ∀ j u, tabCells[j]? = some u → wr.cell? ⟨tb, to + j, none⟩ = some u := fun j u hu => by
        have hc := Htab.out.cells j u hu
        have hlt := World.block_lt_of_cell? _ _ hc
        have hne : tb ≠ g := by simp at hlt; omega
        exact (cell_far hgr tb (to + j) (by simp at hlt; omega) (by simpa using hne)).trans ((Hb1.out.cell (p := ⟨tb, to + j, none⟩) hlt).trans hc)
      have d0 := htb _ _ t0
      have d1 := htb _ _ t1
      rw [← Nat.add_assoc] at d1
      have hsr := hgr.size
      clear htb t0 t1
      have HB := Lib.hid hB
      have Hcur := Lib.hid hcur
      have Hgr := Lib.hid hgr
      have Hlay := Lib.hid hlay
      have Hcnt := Lib.hid hcnt
      have Hp := Lib.hid hp
      have Hk := Lib.hid hk
      clear hB hcur hgr hlay hcnt hp hk
      have hd4 : decide ((kk : Int) < 4) = true := by simp; omega
      obtain ⟨hsd0, hsd1⟩ := mul_in st dx 1020 (Nat.mul_le_mul hst hdx)
      obtain ⟨hkd0, hkd1⟩ := mul_in dx sk 2040 (Nat.mul_le_mul hdx hsk8)
      go_wp2
      have hsi : wr.heap.size + 1 = (wr.alloc (.cells #[Value.int IntKind.i64 sk, Value.int IntKind.i64 st] 98)).heap.size := by simp
      have hbp := Blk.new wr 98 #[Value.int IntKind.i64 sk, Value.int IntKind.i64 st]
      have hgr0 := grownBy_alloc Hgr.out (.cells #[Value.int IntKind.i64 sk, Value.int IntKind.i64 st] 98)
      have hB0 := HB.out.alloc (.cells #[Value.int IntKind.i64 sk, Value.int IntKind.i64 st] 98)
      have hgp : g < wr.heap.size := HB.out.lt
      revert hbp hgr0 hB0 hsi hgp
      clear d0 d1
      generalize wr.alloc (.cells #[Value.int IntKind.i64 sk, Value.int IntKind.i64 st] 98) = w6
      generalize wr.heap.size = p
      intro hsi hbp hgr0 hB0 hgp
      have Hbp := Lib.hid hbp
      have Hgr0 := Lib.hid hgr0
      have HB0 := Lib.hid hB0
      have hp6 := hbp.lt
      clear hbp hgr0 hB0 hsi
      go_loopg [5, 8, 9] (rowsF dy st sk dy).length (fun k off nOff y wi => InRel w6 g n dx dy sk (byteCells pix) (turnFrom dy (passes.drop (kk + 1))) k off nOff y wi)
      case atStart =>
        have hl := Hlay.out
        have hc := Hcnt.out
        rw [Hp.out] at hl hc
        exact ⟨cnt, st, cnt * dx, st * dx, dy, cur, rfl, by omega, rfl, rfl, int_mul _ _, rfl, rfl, by omega, HB0.out, Hcur.out, grownBy_refl _ _, hl, hc⟩
      case round =>
        obtain ⟨cnt', yy, of, no, f, cur', hk', hf, rfl, hof, rfl, hno, rfl, hyy, hB', hcur', hgr', hlay', hcnt'⟩ := hrel
        by_cases hy : yy < dy
        · obtain ⟨f, rfl⟩ : ∃ f', f = f' + 1 := ⟨f - 1, by omega⟩
          rw [rowsF_step f yy sk dy hy] at hk' hlay' hcnt'
          simp only [List.cons_append, List.length_cons] at hk' hcnt'
          have hfo : of + dx ≤ n := by rw [hof, ← Hn.out]; exact row_fits cnt' dx dy (by omega)
          have hfn : no + dx ≤ n := by rw [hno, ← Hn.out]; exact row_fits yy dx dy hy
          have hmg : m ≠ g := by omega
          have hm6 : m < w6.heap.size := by omega
          have hrl : (rowAt (byteCells pix) dx cnt').length = dx := rowAt_length _ dx cnt' dy (by rw [byteCells_length, Hpl.out, ← Hn.out]) (by omega)
          have hpg : pb ≠ g := by omega
          have hsrc : ∀ j v, (rowAt (byteCells pix) dx cnt')[j]? = some v → wr.cell? ⟨pb, po + of + j, none⟩ = some v := fun j v hj => by
            refine (cell_far hgr' pb _ (by omega) (by simpa using hpg)).trans ((cell_far Hgr0.out pb _ (by omega) (by simpa using hpg)).trans ((Hb1.out.cell (p := ⟨pb, _, none⟩) hpb).trans ?_))
            rw [Nat.add_assoc]
            refine Hpc.out (of + j) v ?_
            rw [hof]
            simp only [rowAt, List.getElem?_take, List.getElem?_drop] at hj
            split at hj
            · exact hj
            · cases hj
          have q0 : wr.cell? ⟨m, 0, none⟩ = some (.slice (some ⟨pb, po, none⟩) n c) := by
            refine (cell_far hgr' m 0 hm6 (by simpa using hmg)).trans ((cell_far Hgr0.out m 0 (by omega) (by simpa using hmg)).trans ((Hb1.out.cell (p := ⟨m, 0, none⟩) hmlt).trans ?_))
            exact Hm.out.cell 0
          have b0 : wr.cell? ⟨p, 0, none⟩ = some (.int .i64 sk) := (cell_far hgr' p 0 hp6 (by simp; omega)).trans (Hbp.out.cell 0)
          have b1 : wr.cell? ⟨p, 1, none⟩ = some (.int .i64 st) := (cell_far hgr' p 1 hp6 (by simp; omega)).trans (Hbp.out.cell 1)
          have HB' := Lib.hid hB'
          have Hcur' := Lib.hid hcur'
          have Hgr' := Lib.hid hgr'
          have Hlay' := Lib.hid hlay'
          have Hcnt' := Lib.hid hcnt'
          have Hk' := Lib.hid hk'
          have Hof := Lib.hid hof
          have Hno := Lib.hid hno
          have Hrl := Lib.hid hrl
          have Hsrc := Lib.hid hsrc
          clear hB' hcur' hgr' hlay' hcnt' hk' hof hno hrl hsrc
          have s1 : IntKind.i64.wrap ((no : Int) + dx) = (no : Int) + dx := IntWalk.i64_in _ (by omega)
          have s2 : (0 : Int) ≤ (no : Int) + dx := by omega
          have s3 : ((no : Int) + dx).toNat = no + dx := by omega
          have s4 : (no : Int) + dx ≤ n := by omega
          have s5 : no ≤ no + dx := by omega
          have s6 : ¬ n = no := by omega
          have t1 : IntKind.i64.wrap ((of : Int) + dx) = (of : Int) + dx := IntWalk.i64_in _ (by omega)
          have t2 : (0 : Int) ≤ (of : Int) + dx := by omega
          have t3 : ((of : Int) + dx).toNat = of + dx := by omega
          have t4 : (of : Int) + dx ≤ c := by omega
          have t5 : of ≤ of + dx := by omega
          have t6 : ¬ c = of := by omega
          go_wp2
          go_region_law (refine step_copy_grown rfl (.tmp 44) (.tmp 53) 22 22 rfl 5 Tryd.underlying22 (by kernel_rfl) (some ⟨g, no, none⟩) (some ⟨pb, po + of, none⟩) dx (n - no) dx (c - of) (by simp [Act.eval, Act.put]) (by simp [Act.eval, Act.put]) g no cur' 5 HB'.out (rowAt (byteCells pix) dx cnt') (by rw [Hrl.out]; exact (Nat.min_self dx).symm) (fun _ => ⟨rfl, _, rfl, fun j v hj => by rw [add_lit]; exact Hsrc.out j v hj⟩) (by rw [Hrl.out, Hcur'.out]; omega) (fun v hv => byteCells_oneCell _ v (List.mem_of_mem_drop (List.mem_of_mem_take hv))) ?_; intro w7 hB7 hgr7)
          have hgr8 : w6.grownBy w7 (some g) := Hgr'.out.trans ⟨hgr7.os, hgr7.tape, hgr7.output, hgr7.size, hgr7.block⟩
          clear b0 b1 q0 hgr7 s1 s2 s3 s4 s5 s6 t1 t2 t3 t4 t5 t6
          have b0 : w7.cell? ⟨p, 0, none⟩ = some (.int .i64 sk) := (cell_far hgr8 p 0 hp6 (by simp; omega)).trans (Hbp.out.cell 0)
          have Hgr8 := Lib.hid hgr8
          clear hgr8
          go_wp2
          go_roundg (rowsF f (yy + sk) sk dy).length
          case measure => rw [Hk'.out]; omega
          case rel =>
            refine ⟨cnt' + 1, yy + sk, of + dx, no + dx * sk, f, splice cur' no (rowAt (byteCells pix) dx cnt'), rfl, by omega, by go_num, ?_, ?_, ?_, by go_num, by omega, hB7.out, ?_, Hgr8.out, ?_, ?_⟩
            · rw [Hof.out, Nat.add_mul, Nat.one_mul]
            · rw [Int.natCast_add, Int.natCast_mul]
            · rw [Hno.out, Nat.add_mul, Nat.mul_comm dx sk]
            · rw [length_splice _ _ _ (by rw [Hrl.out, Hcur'.out]; omega), Hcur'.out]
            · have h := Hlay'.out
              rw [Hno.out]
              exact h
            · have h := Hcnt'.out
              omega
        · have hys : rowsF f yy sk dy = [] := rowsF_stop f yy sk dy (by omega)
          rw [hys, List.nil_append] at hlay' hcnt'
          have HB' := Lib.hid hB'
          have Hcur' := Lib.hid hcur'
          have Hgr' := Lib.hid hgr'
          have Hlay' := Lib.hid hlay'
          have Hcnt' := Lib.hid hcnt'
          have Hof := Lib.hid hof
          clear hB' hcur' hgr' hlay' hcnt' hk' hof hno hys
          go_wp2
          go_roundg (3 - kk)
          case measure => have := Hk.out; omega
          case rel =>
            exact ⟨kk + 1, cnt', cur', by omega, by go_num, by rw [Hof.out], HB'.out, Hcur'.out, Hgr0.out.trans Hgr'.out, Hlay'.out, Hcnt'.out⟩
    · have e4 : kk = 4 := by omega
      subst e4
      have hl : FinalOf (byteCells pix) dx dy n = cur := hlay.symm
      have HB := Lib.hid hB
      have Hgr := Lib.hid hgr
      have Hl := Lib.hid hl
      clear hB hcur hgr hlay hcnt hk hl
      have hmg : m ≠ g := by omega
      have q0 : wr.cell? ⟨m, 0, none⟩ = some (.slice (some ⟨pb, po, none⟩) n c) := by
        refine (cell_far Hgr.out m 0 (by omega) (by simpa using hmg)).trans ((Hb1.out.cell (p := ⟨m, 0, none⟩) hmlt).trans ?_)
        exact Hm.out.cell 0
      have z0 : wr.frozen? ⟨m, 0, none⟩ = false := by
        refine (World.frozen?_of_block (w := w5) (Hgr.out.block m (by omega) (by simpa using hmg))).trans ((Hb1.out.frozen (p := ⟨m, 0, none⟩) hmlt).trans ?_)
        exact Hm.out.frozen 0
      go_wp2
      go_end0
      refine ⟨rfl, g, hs4, ?_, ?_, ?_⟩
      · have hb : Blk wr m 70 (imgCells (some ⟨pb, po, none⟩) n c dx dy) := (Hm.out.below Hb1.out hmlt).grown Hgr.out (by simpa using hmg)
        exact hb.set_ 0 _
      · rw [Hl.out]
        exact HB.out.far (fun e => hmg e.symm) _
      · exact grownBy_setCell ((grownBy_of_below Hb1.out (some m)).andThen Hgr.out (fun j hj => by cases hj; exact Or.inl hs4)) (Or.inl rfl) _
end Go.Proofs.YthlhcfjpijilaaaDoor
