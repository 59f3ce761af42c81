/- A bufio.Writer over a bytes.Buffer that the call has made: Flush: the walk. -/
import Derived.Test.YthlhcfjpijilaaaBio
namespace Go.Proofs.Ythlhcfjpijilaaa
open Go Go.ChangeShapes Go.WideShapes Go.ChangeAt Go.RowKit Go.Lib

/-- What Flush leaves. -/
def FlOut (w : World) (B : Nat) (X : List Nat) (b p q : Nat) (dn pend : List UInt8) (e : Ending) (w' : World) : Prop :=
  e = .returned .nilIface ∧ ∃ row', WrAt w' B X b p q row' (dn ++ pend) [] ∧ Kp B X w w'

set_option maxRecDepth 100000 in
set_option maxHeartbeats 4000000 in
theorem flush_some (w : World) (B : Nat) (X : List Nat) (b p q k : Nat) (row : List Nat) (dn pend : List UInt8) (h : WrAt w B X b p q row dn pend) (hBw : B ≤ w.heap.size) (hk : pend.length = k) (hk0 : 0 < k) (hlim : dn.length + k ≤ 16777216) :
    Calls Try.prog 53 #[.pointer (some ⟨q, 0, none⟩)] w fun e w' => FlOut w B X b p q dn pend e w' := by
  have hk4 : k ≤ 4096 := by rw [← hk]; exact h.le
  have hq := h.hq
  rw [hk] at hq
  have c0 : w.cell? ⟨q, 0, none⟩ = some .nilIface := hq.cell 0
  have c1 : w.cell? ⟨q, 1, none⟩ = some (.slice (some ⟨p, 0, none⟩) 4096 4096) := hq.cell 1
  have c2 : w.cell? ⟨q, 2, none⟩ = some (.int .i64 (k : Int)) := hq.cell 2
  have c3 : w.cell? ⟨q, 3, none⟩ = some (.iface 58 (.pointer (some ⟨b, 0, none⟩))) := hq.cell 3
  have hx0 : ((k : Int) == 0) = false := by simp; omega
  have s1 : (0 : Int) ≤ (k : Int) := by omega
  have s2 : (k : Int) ≤ 4096 := by omega
  have s3 : k ≤ 4096 := hk4
  have qnn := weql_nil_nil
  have na := nilAhead_bw b
  have me := method_bw b
  have hW : Calls Try.prog 59 #[.pointer (some ⟨b, 0, none⟩), .slice (some ⟨p, 0, none⟩) k 4096] w.drew fun e w' => e = .returned (.tuple #[.int .i64 (k : Int), .nilIface]) ∧ ∃ row', BfAt w' b (dn ++ pend) row' ∧ (∀ g ∈ row', g ∈ row ∨ w.heap.size ≤ g) ∧ Trn (b :: row) w.drew w' := by
    obtain ⟨junk, h1, h2⟩ := h.hp
    refine bw_any w.drew b k p 0 4096 dn pend row (h.drew).bf (by omega) hk hlim (fun e => h.bp e.symm) h.lt.2.1 fun j u hu => ?_
    have hj : j < pend.length := by have := (List.getElem?_eq_some_iff.1 hu).1; rwa [byteCells_length] at this
    rw [Nat.zero_add]
    show w.cell? ⟨p, j, none⟩ = _
    rw [h1.cell, ← hu]
    rw [byteCells_append, List.getElem?_toArray, List.getElem?_append_left (by rw [byteCells_length]; exact hj)]
  have H := Lib.hid h
  have HW := Lib.hid hW
  have Hq := Lib.hid hq
  have Hk := Lib.hid hk
  clear h hW hq hk
  go_enter Try.func53, Try.ntmps53
  go_wp2
  go_region_with (go_at_call 59; refine HW.out.mono ?_; rintro e w1 ⟨rfl, row', hb1, hr1, ht1⟩; have ht2 := ht1.of_drew; have hq1 : Blk w1 q 99 (wCells p b k) := Hq.out.trn ht2 (by simp; exact ⟨fun e => H.out.bq e.symm, fun e => (H.out.far q e).2 rfl⟩); have d2 : w1.cell? ⟨q, 2, none⟩ = some (.int .i64 (k : Int)) := hq1.cell 2; have e2 : w1.frozen? ⟨q, 2, none⟩ = false := hq1.frozen 2; have Hb1 := Lib.hid hb1; have Hr1 := Lib.hid hr1; have Ht2 := Lib.hid ht2; have Hq1 := Lib.hid hq1; clear hb1 hr1 ht1 ht2 hq1)
  all_goals
    go_wp2
    go_ret
    have hh := H.out
    have hlt := hh.lt
    obtain ⟨junk, hp1, hp2⟩ := hh.hp
    have hfar : ∀ g ∈ row', g ≠ p ∧ g ≠ q ∧ B ≤ g ∧ g ∉ X := fun g hg => by
      rcases Hr1.out g hg with h1 | h1
      · exact ⟨(hh.far g h1).1, (hh.far g h1).2, hh.lo.2.2.2 g h1, fun hX => (hh.hx g hX).2.2.2.2 h1⟩
      · exact ⟨by omega, by omega, by omega, fun hX => by have := (hh.hx g hX).1; omega⟩
    have hpS : p ∉ b :: row := by simp; exact ⟨fun e => hh.bp e.symm, fun e => (hh.far p e).1 rfl⟩
    have hkp : Kp B X w w1 := Kp.of_trn Ht2.out (fun x hx => by
      rcases List.mem_cons.1 hx with e | e
      · subst e; exact ⟨hh.lo.1, fun hX => (hh.hx x hX).2.1 rfl⟩
      · exact ⟨hh.lo.2.2.2 x e, fun hX => (hh.hx x hX).2.2.2.2 e⟩)
    refine ⟨rfl, row', ⟨Hb1.out.keep (fun i hi => Below.heap_setCell w1 ⟨q, 2, none⟩ _ i (fun e => ?_)), ⟨pend ++ junk, ?_, by simpa using hp2⟩, Hq1.out.set_ 2 (.int .i64 0), hh.bp, hh.bq, hh.pq, fun g hg => ⟨(hfar g hg).1, (hfar g hg).2.1⟩, ⟨hh.lo.1, hh.lo.2.1, hh.lo.2.2.1, fun g hg => (hfar g hg).2.2.1⟩, fun i hi => ?_⟩, hkp.set_ hh.lo.2.2.1 (fun hX => (hh.hx q hX).2.2.2.1 rfl) _ _⟩
    · simp only at e
      rcases hi with h1 | h1
      · exact hh.bq (h1.symm.trans e)
      · exact (hfar i h1).2.1 e
    · exact (hp1.trn Ht2.out hpS).far (fun e => hh.pq e) _
    · have hx := hh.hx i hi
      exact ⟨by have := Ht2.out.size; simp [World.setCell]; omega, hx.2.1, hx.2.2.1, hx.2.2.2.1, fun e => (hfar i e).2.2.2 hi⟩

theorem flush_any (w : World) (B : Nat) (X : List Nat) (b p q : Nat) (row : List Nat) (dn pend : List UInt8) (h : WrAt w B X b p q row dn pend) (hBw : B ≤ w.heap.size) (hlim : dn.length + pend.length ≤ 16777216) :
    Calls Try.prog 53 #[.pointer (some ⟨q, 0, none⟩)] w fun e w' => FlOut w B X b p q dn pend e w' := by
  by_cases h0 : pend.length = 0
  · obtain rfl : pend = [] := List.eq_nil_of_length_eq_zero h0
    have hq := h.hq
    have c0 : w.cell? ⟨q, 0, none⟩ = some .nilIface := hq.cell 0
    have c2 : w.cell? ⟨q, 2, none⟩ = some (.int .i64 0) := hq.cell 2
    have qnn := weql_nil_nil
    have H := Lib.hid h
    clear h hq h0
    go_enter Try.func53, Try.ntmps53
    go_wp2
    go_ret
    exact ⟨rfl, row, by rw [List.append_nil]; exact H.out, Kp.refl _ _ _⟩
  · exact flush_some w B X b p q pend.length row dn pend h hBw rfl (by omega) hlim
end Go.Proofs.Ythlhcfjpijilaaa
