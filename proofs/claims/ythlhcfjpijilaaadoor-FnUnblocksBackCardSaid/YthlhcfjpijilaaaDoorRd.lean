/- A bytes.Reader over bytes that lie still: Read, by walks; which blocks turn. -/
import Derived.Test.YthlhcfjpijilaaaDoorUnlace0
import Derived.Deep.RegionLaw
import Derived.BigQuiet
namespace Go.Proofs.YthlhcfjpijilaaaDoor
open Go Go.ChangeShapes Go.WideShapes Go.ChangeAt Go.RowKit Go.Lib

/-- No block but R and D has turned; nothing that was there is gone. -/
structure Turns2 (R D : Nat) (w w' : World) : Prop where
  os : w'.os = w.os
  tape : w'.tape = w.tape
  output : w'.output = w.output
  size : w.heap.size ≤ w'.heap.size
  block : ∀ i, i < w.heap.size → i ≠ R → i ≠ D → w'.heap[i]? = w.heap[i]?

section
variable {R D : Nat} {a b c : World}
theorem Turns2.refl (R D : Nat) (w : World) : Turns2 R D w w := ⟨rfl, rfl, rfl, Nat.le_refl _, fun _ _ _ _ => rfl⟩
theorem Turns2.drewN (R D : Nat) (w : World) (n : Nat) : Turns2 R D w (w.drewN n) := ⟨rfl, rfl, rfl, Nat.le_refl _, fun _ _ _ _ => rfl⟩
theorem Turns2.drew_ (h : Turns2 R D a b) : Turns2 R D a b.drew := ⟨h.os, h.tape, h.output, h.size, h.block⟩
theorem Turns2.drewN_ (h : Turns2 R D a b) (n : Nat) : Turns2 R D a (b.drewN n) := ⟨h.os, h.tape, h.output, h.size, h.block⟩
theorem Turns2.trans (h : Turns2 R D a b) (k : Turns2 R D b c) : Turns2 R D a c :=
  ⟨k.os.trans h.os, k.tape.trans h.tape, k.output.trans h.output, Nat.le_trans h.size k.size, fun i hi hR hD => (k.block i (Nat.lt_of_lt_of_le hi h.size) hR hD).trans (h.block i hi hR hD)⟩
theorem Turns2.setR (h : Turns2 R D a b) (o : Nat) (u : Value) : Turns2 R D a (b.setCell ⟨R, o, none⟩ u) :=
  ⟨h.os, h.tape, h.output, by simpa [World.setCell] using h.size, fun i hi hR hD => (Below.heap_setCell b ⟨R, o, none⟩ u i hR).trans (h.block i hi hR hD)⟩
theorem Turns2.grownD (h : Turns2 R D a b) (k : b.grownBy c (some D)) : Turns2 R D a c :=
  h.trans ⟨k.os, k.tape, k.output, k.size, fun i hi _ hD => k.block i hi (by simpa using hD)⟩
theorem Turns2.below {B : Nat} (h : Turns2 R D a b) (hR : B ≤ R) (hD : B ≤ D) (hB : B ≤ a.heap.size) : Below B a b :=
  ⟨h.os, h.tape, h.output, h.size, fun i hi => h.block i (by omega) (by omega) (by omega)⟩
theorem Blk.turns {g : Nat} {t : TypeId} {cs : Array Value} (h : Blk a g t cs) (k : Turns2 R D a b) (hR : g ≠ R) (hD : g ≠ D) : Blk b g t cs := (k.block g h.lt hR hD).trans h
end

/-- The cells of a bytes.Reader. -/
def rdCells (A : Option Addr) (n c i : Nat) (pr : Int) : Array Value := #[.slice A n c, .int .i64 (i : Int), .int .i64 pr]

theorem rd_end (w : World) (R n c i : Nat) (pr : Int) (A : Option Addr) (E : Value) (dp : Option Addr) (m mc : Nat) (hR : Blk w R 100 (rdCells A n c i pr)) (hn : n ≤ i)
    (hE : w.cell? ⟨1, 0, none⟩ = some E) :
    Calls Tryd.prog 68 #[.pointer (some ⟨R, 0, none⟩), .slice dp m mc] w fun e w' => e = .returned (.tuple #[.int .i64 0, E]) ∧ w'.heap = w.heap ∧ ∀ D, Turns2 R D w w' := by
  have c0 : w.cell? ⟨R, 0, none⟩ = some (.slice A n c) := hR.cell 0
  have c1 : w.cell? ⟨R, 1, none⟩ = some (.int .i64 (i : Int)) := hR.cell 1
  have h1 : (n : Int) ≤ (i : Int) := by omega
  clear hR
  go_enter Tryd.func68, Tryd.ntmps68
  go_wp2
  go_quiet (fail)
  go_wp2
  go_quiet (fail)
  go_wp2
  go_ret2
  exact ⟨rfl, rfl, fun D => (Turns2.drewN R D _ _).drewN_ _⟩

theorem drop_take_at (l : List UInt8) (i k j : Nat) (hj : j < k) : (byteCells ((l.drop i).take k))[j]? = (byteCells l)[i + j]? := by
  unfold byteCells
  rw [List.getElem?_map, List.getElem?_map, List.getElem?_take, if_pos hj, List.getElem?_drop]

set_option maxRecDepth 100000 in
set_option maxHeartbeats 1000000 in
theorem rd_in (w : World) (R D n c i m mc off k : Nat) (pr : Int) (A dp : Option Addr) (l : List UInt8) (cur : List Value) (T : TypeId) (hR : Blk w R 100 (rdCells A n c i pr)) (hD : Blk w D T cur.toArray) (hRD : R ≠ D)
    (B : Nat) (hBR : B ≤ R) (hA : Reads w B A (byteCells l)) (hl : l.length = n) (hn : i < n) (hnc : n ≤ c) (hc : c ≤ maxLen) (hmm : m ≤ maxLen) (hk : k = Nat.min (n - i) m) (hdp : dp = some ⟨D, off, none⟩) (hfit : off + m ≤ cur.length) :
    Calls Tryd.prog 68 #[.pointer (some ⟨R, 0, none⟩), .slice dp m mc] w fun e w' => e = .returned (.tuple #[.int .i64 (k : Int), .nilIface]) ∧
      Blk w' R 100 (rdCells A n c (i + k) (-1)) ∧ Blk w' D T (splice cur off (byteCells ((l.drop i).take k))).toArray ∧ Turns2 R D w w' := by
  subst hdp
  have hM : (maxLen : Nat) ≤ 9223372036854775807 := by decide
  have hkn : k ≤ n - i := by rw [hk]; exact Nat.min_le_left _ _
  have hkm : k ≤ m := by rw [hk]; exact Nat.min_le_right _ _
  obtain ⟨b, o, rfl, hb, hcell⟩ := hA (by simp [byteCells]; omega)
  have c0 : w.cell? ⟨R, 0, none⟩ = some (.slice (some ⟨b, o, none⟩) n c) := hR.cell 0
  have c1 : w.cell? ⟨R, 1, none⟩ = some (.int .i64 (i : Int)) := hR.cell 1
  have f1 : w.frozen? ⟨R, 1, none⟩ = false := hR.frozen 1
  have f2 : w.frozen? ⟨R, 2, none⟩ = false := hR.frozen 2
  have c2 : w.cell? ⟨R, 2, none⟩ = some (.int .i64 pr) := hR.cell 2
  have h1 : ¬ (n : Int) ≤ (i : Int) := by omega
  have s2 : (0 : Int) ≤ (i : Int) := by omega
  have s4 : (i : Int) ≤ (n : Int) := by omega
  have s5 : i ≤ n := by omega
  have s6 : ¬ c = i := by omega
  have t1 : IntKind.i64.wrap ((i : Int) + k) = ((i + k : Nat) : Int) := by rw [IntWalk.i64_in _ (by omega), Int.natCast_add]
  have hlen : (byteCells ((l.drop i).take k)).length = k := by simp [byteCells]; omega
  have HR := Lib.hid hR
  have HD := Lib.hid hD
  have Hk := Lib.hid hk
  have Hl := Lib.hid hl
  have Hlen := Lib.hid hlen
  have Hcell := Lib.hid hcell
  have Hmm := Lib.hid hmm
  have Hc := Lib.hid hc
  have Hkn := Lib.hid hkn
  have Hkm := Lib.hid hkm
  clear hR hD hk hl hA hlen hcell hmm hc hkn hkm
  go_enter Tryd.func68, Tryd.ntmps68
  go_wp2
  go_quiet (fail)
  go_wp2
  have hR1 : Blk ((w.drewN nq).setCell ⟨R, 2, none⟩ (.int .i64 (-1))) R 100 (rdCells (some ⟨b, o, none⟩) n c i (-1)) := (HR.out.drewN nq).set_ 2 (.int .i64 (-1))
  have hD1 : Blk ((w.drewN nq).setCell ⟨R, 2, none⟩ (.int .i64 (-1))) D T cur.toArray := (HD.out.drewN nq).far (fun e => hRD e.symm) _
  have ht1 : Turns2 R D w ((w.drewN nq).setCell ⟨R, 2, none⟩ (.int .i64 (-1))) := (Turns2.drewN R D w nq).setR _ _
  have hcell1 : ∀ j u, (byteCells l)[j]? = some u → ((w.drewN nq).setCell ⟨R, 2, none⟩ (.int .i64 (-1))).cell? ⟨b, o + j, none⟩ = some u := fun j u hu =>
    (World.cell?_setCell_other _ ⟨R, 2, none⟩ ⟨b, o + j, none⟩ _ (fun e => by have := congrArg Addr.block e; simp only at this; omega)).trans (Hcell.out j u hu)
  clear HR HD Hcell c0 c1 c2 f1 f2
  generalize (w.drewN nq).setCell ⟨R, 2, none⟩ (.int .i64 (-1)) = w1 at *
  have c0 : w1.cell? ⟨R, 0, none⟩ = some (.slice (some ⟨b, o, none⟩) n c) := hR1.cell 0
  have c1 : w1.cell? ⟨R, 1, none⟩ = some (.int .i64 (i : Int)) := hR1.cell 1
  have HR1 := Lib.hid hR1
  have HD1 := Lib.hid hD1
  have Ht1 := Lib.hid ht1
  have Hcell1 := Lib.hid hcell1
  clear hR1 hD1 ht1 hcell1 t1
  have t1 : wrap64 ((i : Int) + k) = ((i + k : Nat) : Int) := by
    have := Hkn.out
    have := Hc.out
    unfold wrap64
    omega
  go_region_law (refine step_copy_grown rfl (.tmp 20) (.tmp 29) 22 22 rfl 5 Tryd.underlying22 (by kernel_rfl) (some ⟨D, off, none⟩) (some ⟨b, o + i, none⟩) m mc (n - i) (c - i) (by simp [Act.eval, Act.put]) (by simp [Act.eval, Act.put]) D off cur T HD1.out (byteCells ((l.drop i).take k)) (by rw [Hlen.out]; exact Hk.out) (fun h => ⟨rfl, _, rfl, fun j v hj => by rw [add_lit, Nat.add_assoc]; exact Hcell1.out _ _ (by rw [← hj, drop_take_at l i k j (Hlen.out ▸ (List.getElem?_eq_some_iff.1 hj).1)])⟩) (by rw [Hlen.out]; have := Hkm.out; omega) (byteCells_oneCell _) ?_; intro w7 hB7 hgr7; have hR7 : Blk w7 R 100 (rdCells (some ⟨b, o, none⟩) n c i (-1)) := Blk.grown (w := w1.drew) HR1.out hgr7 (by simpa using hRD); have Ht7 := Lib.hid (show Turns2 R D w w7 from Ht1.out.grownD ⟨hgr7.os, hgr7.tape, hgr7.output, hgr7.size, hgr7.block⟩); have d1 : w7.cell? ⟨R, 1, none⟩ = some (.int .i64 (i : Int)) := hR7.cell 1; have e1 : w7.frozen? ⟨R, 1, none⟩ = false := hR7.frozen 1; have HR7 := Lib.hid hR7; rw [Hlen.out]; clear c0 c1 hgr7 HR1 HD1 Ht1 hR7)
  all_goals
    go_wp2
    go_ret2
    refine ⟨rfl, ?_, hB7.out.far (fun e => hRD e.symm) _, Ht7.out.setR _ _⟩
    rw [← Int.natCast_add]
    exact HR7.out.set_ 1 (.int .i64 ((i + k : Nat) : Int))
end Go.Proofs.YthlhcfjpijilaaaDoor
