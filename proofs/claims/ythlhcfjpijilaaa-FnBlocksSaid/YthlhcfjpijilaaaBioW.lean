/- A bufio.Writer over a bytes.Buffer that the call has made: Write: the walk. -/
import Derived.Test.YthlhcfjpijilaaaBioF
namespace Go.Proofs.Ythlhcfjpijilaaa
open Go Go.ChangeShapes Go.WideShapes Go.ChangeAt Go.RowKit Go.Lib

/-- Bytes laid behind those that the buffer holds. -/
theorem splice_pend (pend junk cs : List UInt8) : splice (byteCells (pend ++ junk)) pend.length (byteCells cs) = byteCells ((pend ++ cs) ++ junk.drop cs.length) := by
  have e1 : (byteCells (pend ++ junk)).take pend.length = byteCells pend := by
    rw [byteCells_append, List.take_append_of_le_length (by rw [byteCells_length]; exact Nat.le_refl _), List.take_of_length_le (by rw [byteCells_length]; exact Nat.le_refl _)]
  have e2 : (byteCells (pend ++ junk)).drop (pend.length + (byteCells cs).length) = byteCells (junk.drop cs.length) := by
    rw [byteCells_length, byteCells_append, show pend.length + cs.length = (byteCells pend).length + cs.length by rw [byteCells_length], List.drop_length_add_append]
    unfold byteCells
    rw [List.map_drop]
  unfold splice
  rw [e1, e2, byteCells_append, byteCells_append, List.append_assoc]

/-- The buffer with bytes more. -/
theorem WrAt.more {w w' : World} {B b p q : Nat} {X row : List Nat} {dn pend : List UInt8} (h : WrAt w B X b p q row dn pend) (cs : List UInt8) (hs : w.heap.size ≤ w'.heap.size) (hk : ∀ k, (k = b ∨ k ∈ row) → w'.heap[k]? = w.heap[k]?)
    (hp : ∃ junk : List UInt8, Blk w' p 5 (byteCells ((pend ++ cs) ++ junk)).toArray ∧ ((pend ++ cs) ++ junk).length = 4096) (hq : Blk w' q 99 (wCells p b (pend ++ cs).length)) : WrAt w' B X b p q row dn (pend ++ cs) :=
  ⟨h.bf.keep hk, hp, hq, h.bp, h.bq, h.pq, h.far, h.lo, fun k hX => ⟨Nat.lt_of_lt_of_le (h.hx k hX).1 hs, (h.hx k hX).2⟩⟩

theorem WrAt.laid {w w3 : World} {B b p q k n : Nat} {X row : List Nat} {dn pend : List UInt8} (h : WrAt w B X b p q row dn pend) (cs : List UInt8) (hgr : w.grownBy w3 (some p)) (hk : pend.length + cs.length = n) (hp : ∃ junk : List UInt8, Blk w3 p 5 (byteCells ((pend ++ cs) ++ junk)).toArray ∧ ((pend ++ cs) ++ junk).length = 4096)
    (hq : Blk w q 99 (wCells p b k)) : WrAt (w3.setCell ⟨q, 2, none⟩ (.int .i64 (n : Int))) B X b p q row dn (pend ++ cs) ∧ Kp B X w (w3.setCell ⟨q, 2, none⟩ (.int .i64 (n : Int))) := by
  have hlt := h.lt
  obtain ⟨junk, hp1, hp2⟩ := hp
  refine ⟨h.more cs (by have := hgr.size; simpa [World.setCell] using this) (fun i hi => ?_) ⟨junk, hp1.far h.pq _, hp2⟩ ?_, ((Kp.refl B X w).grown hgr h.lo.2.1 (fun hX => (h.hx p hX).2.2.1 rfl)).set_ h.lo.2.2.1 (fun hX => (h.hx q hX).2.2.2.1 rfl) _ _⟩
  · have hiq : i ≠ q := by rcases hi with e | e; exact fun e2 => h.bq (e.symm.trans e2); exact (h.far i e).2
    have hip : i ≠ p := by rcases hi with e | e; exact fun e2 => h.bp (e.symm.trans e2); exact (h.far i e).1
    have hil : i < w.heap.size := by rcases hi with e | e; rw [e]; exact hlt.1; exact hlt.2.2.2 i e
    exact (Below.heap_setCell w3 ⟨q, 2, none⟩ _ i hiq).trans (hgr.block i hil (by simpa using hip))
  · have h1 := (hq.grown hgr (by simpa using fun e : q = p => h.pq e.symm)).set_ 2 (.int .i64 (n : Int))
    rw [List.length_append, hk]
    exact h1

/-- What Write leaves. -/
def WoOut (w : World) (B : Nat) (X : List Nat) (b p q : Nat) (str : List UInt8) (v : Value) (e : Ending) (w' : World) : Prop :=
  e = .returned v ∧ ∃ row' dn' pend', dn' ++ pend' = str ∧ WrAt w' B X b p q row' dn' pend' ∧ Kp B X w w'

def WlRel (w : World) (B : Nat) (X : List Nat) (b p q : Nat) (dn pend cs : List UInt8) (sb so n c g : Nat) (pv nv : Value) (wr : World) : Prop :=
  ∃ m row' dn' pend', pv = .slice (some ⟨sb, so + m, none⟩) (n - m) (c - m) ∧ nv = .int .i64 ((m : Nat) : Int) ∧ m < n ∧ dn' ++ pend' = dn ++ pend ++ cs.take m ∧ WrAt wr B X b p q row' dn' pend' ∧ Kp B X w wr ∧
    ((g = 1 ∧ m = 0 ∧ dn' = dn ∧ pend' = pend) ∨ (g = 0 ∧ pend'.length + (n - m) ≤ 4096))

set_option maxRecDepth 100000 in
set_option maxHeartbeats 8000000 in
theorem bwrite_any (w : World) (B : Nat) (X : List Nat) (b p q sb so n c : Nat) (row : List Nat) (dn pend cs : List UInt8) (h : WrAt w B X b p q row dn pend) (hBw : B ≤ w.heap.size) (hcn : cs.length = n) (hn : 1 ≤ n) (hn4 : n ≤ 4096) (hnc : n ≤ c) (hlim : dn.length + pend.length + n ≤ 16777216)
    (hsb : sb ∈ X) (hsrc : ∀ j u, (byteCells cs)[j]? = some u → w.cell? ⟨sb, so + j, none⟩ = some u) :
    Calls Try.prog 54 #[.pointer (some ⟨q, 0, none⟩), .slice (some ⟨sb, so, none⟩) n c] w fun e w' => WoOut w B X b p q (dn ++ pend ++ cs) (.tuple #[.int .i64 (n : Int), .nilIface]) e w' := by
  have qnn := weql_nil_nil
  have H := Lib.hid h
  have Hs := Lib.hid hsrc
  have Hcn := Lib.hid hcn
  have Hlim := Lib.hid hlim
  clear h hsrc hcn hlim
  go_enter Try.func54, Try.ntmps54
  go_wp2
  go_loopg [1, 4, 6] 1 (fun g pv nv _ wr => WlRel w B X b p q dn pend cs sb so n c g pv nv wr)
  case atStart => exact ⟨0, row, dn, pend, rfl, rfl, by omega, by simp, H.out, Kp.refl _ _ _, Or.inl ⟨rfl, rfl, rfl, rfl⟩⟩
  case round =>
    obtain ⟨m, row1, dn1, pend1, rfl, rfl, hm, hstr, hw, hkp, hg⟩ := hrel
    obtain ⟨k, hk⟩ : ∃ k, k = pend1.length := ⟨_, rfl⟩
    obtain ⟨r, hr⟩ : ∃ r, r = n - m := ⟨_, rfl⟩
    have hk4 : k ≤ 4096 := by rw [hk]; exact hw.le
    have hq := hw.hq
    rw [← hk] at hq hg
    rw [← hr] at hg ⊢
    have hr1 : 1 ≤ r := by omega
    have hA := avail_any wr q p b k hq hk4
    have c0 : wr.cell? ⟨q, 0, none⟩ = some .nilIface := hq.cell 0
    have c1 : wr.cell? ⟨q, 1, none⟩ = some (.slice (some ⟨p, 0, none⟩) 4096 4096) := hq.cell 1
    have c2 : wr.cell? ⟨q, 2, none⟩ = some (.int .i64 (k : Int)) := hq.cell 2
    have f2 : wr.frozen? ⟨q, 2, none⟩ = false := hq.frozen 2
    have b1 : (k : Int) ≤ 4096 := by omega
    have b2 : (0 : Int) ≤ (k : Int) := by omega
    have b3 : (r : Int) ≤ 4096 := by omega
    have b4 : (m : Int) ≤ 4096 := by omega
    have Hw := Lib.hid hw
    have Hkp := Lib.hid hkp
    have Hstr := Lib.hid hstr
    have Hk := Lib.hid hk
    have Hr := Lib.hid hr
    have Hg := Lib.hid hg
    have Hq := Lib.hid hq
    clear hw hkp hstr hk hr hg hq
    by_cases hfit : k + r ≤ 4096
    · have hd : decide ((4096 : Int) - (k : Int) < (r : Int)) = false := by simp; omega
      have hne : ¬ 4096 = k := by omega
      go_wp2_with fail
      refine hA.mono ?_
      rintro e w1 ⟨rfl, j, rfl⟩
      clear hA
      have hw2 : WrAt (wr.drewN j) B X b p q row1 dn1 pend1 := Hw.out.drewN j
      have hkp2 : Kp B X w (wr.drewN j) := Hkp.out.drewN j
      have hq2 : Blk (wr.drewN j) q 99 (wCells p b k) := Hq.out.drewN j
      clear c0 c1 c2 f2
      generalize wr.drewN j = w2 at *
      have c0 : w2.cell? ⟨q, 0, none⟩ = some .nilIface := hq2.cell 0
      have c1 : w2.cell? ⟨q, 1, none⟩ = some (.slice (some ⟨p, 0, none⟩) 4096 4096) := hq2.cell 1
      have c2 : w2.cell? ⟨q, 2, none⟩ = some (.int .i64 (k : Int)) := hq2.cell 2
      obtain ⟨junk, hp1, hp2⟩ := hw2.hp
      have hjl : junk.length = 4096 - k := by rw [List.length_append, ← Hk.out] at hp2; omega
      have hdl : (cs.drop m).length = r := by rw [List.length_drop, Hcn.out, Hr.out]
      have hs2 : ∀ j v, (byteCells (cs.drop m))[j]? = some v → w2.cell? ⟨sb, so + m + j, none⟩ = some v := fun j v hv => by
        have hx := H.out.hx sb hsb
        refine (hkp2.cell hsb hx.1 _).trans ?_
        rw [Nat.add_assoc]
        refine Hs.out (m + j) v ?_
        rw [← hv]
        unfold byteCells
        rw [List.getElem?_map, List.getElem?_map, List.getElem?_drop]
      have hlen : (byteCells (cs.drop m)).length = r := by rw [byteCells_length, hdl]
      have Hw2 := Lib.hid hw2
      have Hkp2 := Lib.hid hkp2
      have Hq2 := Lib.hid hq2
      have Hp1 := Lib.hid hp1
      have Hp2 := Lib.hid hp2
      have Hjl := Lib.hid hjl
      have Hdl := Lib.hid hdl
      have Hs2 := Lib.hid hs2
      have Hlen := Lib.hid hlen
      have Hmin := Lib.hid (show r = Nat.min r (4096 - k) from (Nat.min_eq_left (by omega)).symm)
      have Hfit := Lib.hid (show k + (byteCells (cs.drop m)).length ≤ (byteCells (pend1 ++ junk)).length by rw [hlen, byteCells_length, hp2]; exact hfit)
      have HgN := Lib.hid (show Value.int .i64 ((m : Int) + (r : Int)) = Value.int .i64 (n : Int) by congr 1; have := Hr.out; omega)
      clear hw2 hkp2 hq2 hp1 hp2 hjl hdl hs2 hlen
      go_upto_region 12 with (fail)
      go_region_law (refine step_copy_grown rfl (.tmp 80) (.tmp 81) 25 25 rfl 5 Try.underlying25 info5s (some ⟨p, k, none⟩) (some ⟨sb, so + m, none⟩) (4096 - k) (4096 - k) r (c - m) (by simp [Act.eval, Act.put]) (by simp [Act.eval, Act.put]) p k (byteCells (pend1 ++ junk)) 5 Hp1.out (byteCells (cs.drop m)) (by rw [Hlen.out]; exact Hmin.out) (fun _ => ⟨rfl, _, rfl, fun j v hv => by rw [add_lit]; exact Hs2.out j v hv⟩) Hfit.out (byteCells_oneCell _) ?_; intro w3 hB3 hgr3; rw [Hlen.out])
      all_goals
        have hg3 : w2.grownBy w3 (some p) := ⟨hgr3.os, hgr3.tape, hgr3.output, hgr3.size, hgr3.block⟩
        have hq3 := Hq2.out.grown hg3 (by simpa using fun e : q = p => Hw2.out.pq e.symm)
        have d2 : w3.cell? ⟨q, 2, none⟩ = some (.int .i64 (k : Int)) := hq3.cell 2
        have e2 : w3.frozen? ⟨q, 2, none⟩ = false := hq3.frozen 2
        have Hg3 := Lib.hid hg3
        have HB3 := Lib.hid hB3.out
        clear hgr3 hg3 hq3 hB3 c0 c1 c2
        go_wp2
        go_ret2
        have hsp := splice_pend pend1 junk (cs.drop m)
        rw [← Hk.out] at hsp
        have hB := HB3.out
        rw [hsp] at hB
        have hfin := Hw2.out.laid (n := k + r) (cs.drop m) Hg3.out (by rw [Hdl.out, ← Hk.out]) ⟨junk.drop (cs.drop m).length, hB, by have h1 := Hdl.out; have h2 := Hjl.out; have h3 := Hk.out; rw [List.length_drop] at h1; simp only [List.length_append, List.length_drop]; omega⟩ Hq2.out
        rw [Int.natCast_add] at hfin
        refine ⟨by rw [← HgN.out]; rfl, row1, dn1, pend1 ++ cs.drop m, ?_, hfin.1, Hkp2.out.trans hfin.2⟩
        rw [← List.append_assoc, Hstr.out, List.append_assoc, List.take_append_drop]
    · have hg1 : m = 0 ∧ dn1 = dn ∧ pend1 = pend := by
        rcases Hg.out with ⟨_, h1, h2, h3⟩ | ⟨_, h1⟩
        · exact ⟨h1, h2, h3⟩
        · omega
      have hgk : gk = 1 := by
        rcases Hg.out with ⟨h1, _⟩ | ⟨_, h1⟩
        · exact h1
        · omega
      obtain ⟨rfl, rfl, rfl⟩ := hg1
      have hd : decide ((4096 : Int) - (k : Int) < (r : Int)) = true := by simp; omega
      have hk0 : ((k : Int) == 0) = false := by simp; omega
      obtain ⟨a, ha⟩ : ∃ a, a = 4096 - k := ⟨_, rfl⟩
      have har : a < r := by omega
      obtain rfl : r = n := by have := Hr.out; omega
      have Hgk := Lib.hid hgk
      clear hgk
      go_wp2_with fail
      refine hA.mono ?_
      rintro e w1 ⟨rfl, j, rfl⟩
      clear hA
      have hw2 : WrAt (wr.drewN j) B X b p q row1 dn1 pend1 := Hw.out.drewN j
      have hkp2 : Kp B X w (wr.drewN j) := Hkp.out.drewN j
      have hq2 : Blk (wr.drewN j) q 99 (wCells p b k) := Hq.out.drewN j
      clear c0 c1 c2 f2
      generalize wr.drewN j = w2 at *
      have c0 : w2.cell? ⟨q, 0, none⟩ = some .nilIface := hq2.cell 0
      have c1 : w2.cell? ⟨q, 1, none⟩ = some (.slice (some ⟨p, 0, none⟩) 4096 4096) := hq2.cell 1
      have c2 : w2.cell? ⟨q, 2, none⟩ = some (.int .i64 (k : Int)) := hq2.cell 2
      have hBf := buffered_any w2 q p b k hq2
      obtain ⟨junk, hp1, hp2⟩ := hw2.hp
      have hjl : junk.length = a := by rw [List.length_append, ← Hk.out] at hp2; omega
      have hdl : (cs.take a).length = a := by rw [List.length_take, Hcn.out]; omega
      have hlen : (byteCells (cs.take a)).length = a := by rw [byteCells_length, hdl]
      have hs2 : ∀ j v, (byteCells (cs.take a))[j]? = some v → w2.cell? ⟨sb, so + j, none⟩ = some v := fun j v hv => by
        have hx := H.out.hx sb hsb
        refine (hkp2.cell hsb hx.1 _).trans ?_
        refine Hs.out j v ?_
        have hj : j < a := by have := (List.getElem?_eq_some_iff.1 hv).1; rw [hlen] at this; exact this
        rw [← hv]
        unfold byteCells
        rw [List.getElem?_map, List.getElem?_map, List.getElem?_take, if_pos hj]
      have Hw2 := Lib.hid hw2
      have Hkp2 := Lib.hid hkp2
      have Hq2 := Lib.hid hq2
      have Hp1 := Lib.hid hp1
      have Hp2 := Lib.hid hp2
      have Hjl := Lib.hid hjl
      have Hdl := Lib.hid hdl
      have Hs2 := Lib.hid hs2
      have Hlen := Lib.hid hlen
      have Ha := Lib.hid ha
      have Hhar := Lib.hid har
      have Hmin := Lib.hid (show a = Nat.min r (4096 - k) by rw [← ha]; exact (Nat.min_eq_right (Nat.le_of_lt har)).symm)
      have Hfit := Lib.hid (show k + (byteCells (cs.take a)).length ≤ (byteCells (pend1 ++ junk)).length by rw [hlen, byteCells_length, hp2]; omega)
      have Hka := Lib.hid (show Value.int .i64 ((k : Int) + (a : Int)) = Value.int .i64 ((4096 : Nat) : Int) by congr 1; omega)
      have b6 : (a : Int) ≤ 4096 := by omega
      have b7 : (a : Int) ≤ (r : Int) := by omega
      have b8 : ¬ c = a := by omega
      have b9 : a ≤ r := by omega
      clear hw2 hkp2 hq2 hp1 hp2 hjl hdl hs2 hlen ha har hfit
      go_wp2_with fail
      refine hBf.mono ?_
      rintro e w2' ⟨rfl, rfl⟩
      clear hBf
      by_cases hk4096 : k = 4096
      · subst hk4096
        go_upto_region 5 with (fail)
        go_region_law (refine step_copy_grown rfl (.tmp 43) (.tmp 44) 25 25 rfl 5 Try.underlying25 info5s _ (some ⟨sb, so, none⟩) 0 _ r c rfl (by simp [Act.eval, Act.put]) p 4096 (byteCells (pend1 ++ junk)) 5 Hp1.out (byteCells (cs.take a)) (by rw [Hlen.out]; exact Hmin.out) (fun h0 => by exfalso; rw [Hlen.out] at h0; have := Ha.out; omega) Hfit.out (byteCells_oneCell _) ?_; intro w3 hB3 hgr3; rw [Hlen.out])
        all_goals
          have hg3 : w2.grownBy w3 (some p) := ⟨hgr3.os, hgr3.tape, hgr3.output, hgr3.size, hgr3.block⟩
          have hq3 := Hq2.out.grown hg3 (by simpa using fun e : q = p => Hw2.out.pq e.symm)
          have d2 : w3.cell? ⟨q, 2, none⟩ = some (.int .i64 4096) := hq3.cell 2
          have e2 : w3.frozen? ⟨q, 2, none⟩ = false := hq3.frozen 2
          have hsp := splice_pend pend1 junk (cs.take a)
          rw [← Hk.out] at hsp
          have hB := hB3.out
          rw [hsp] at hB
          have hfin := Hw2.out.laid (n := 4096) (cs.take a) hg3 (by have := Ha.out; rw [Hdl.out, ← Hk.out]; omega) ⟨junk.drop (cs.take a).length, hB, by have h1 := Hdl.out; have h2 := Hjl.out; have h3 := Hk.out; have h4 := Ha.out; rw [List.length_take] at h1; simp only [List.length_append, List.length_drop, List.length_take]; omega⟩ Hq2.out
          have Hfin := Lib.hid hfin
          clear hgr3 hg3 hq3 hB3 hB hsp hfin c0 c1 c2
          go_wp2_with fail
          rw [show Value.int .i64 ((4096 : Int) + (a : Int)) = Value.int .i64 ((4096 : Nat) : Int) from Hka.out]
          refine (flush_any _ B X b p q row1 dn1 (pend1 ++ cs.take a) Hfin.out.1 (Nat.le_trans hBw (Hkp2.out.trans Hfin.out.2).size) (by rw [List.length_append, Hdl.out]; have := Hlim.out; have := Hhar.out; omega)).mono ?_
          rintro e w5 ⟨rfl, row5, hw5, hkp5⟩
          have Hw5 := Lib.hid hw5
          have Hkp5 := Lib.hid (Hkp2.out.trans (Hfin.out.2.trans hkp5))
          clear hw5 hkp5 d2 e2 Hfin
          go_wp2
          go_roundg 0
          case measure => have := Hgk.out; omega
          case rel => exact ⟨a, row5, dn1 ++ (pend1 ++ cs.take a), [], rfl, by go_num, Hhar.out, by simp, Hw5.out, Hkp5.out, Or.inr ⟨rfl, by simp; omega⟩⟩
      · have hne : ¬ 4096 = k := by omega
        go_upto_region 5 with (fail)
        go_region_law (refine step_copy_grown rfl (.tmp 43) (.tmp 44) 25 25 rfl 5 Try.underlying25 info5s (some ⟨p, k, none⟩) (some ⟨sb, so, none⟩) (4096 - k) (4096 - k) r c (by simp [Act.eval, Act.put]) (by simp [Act.eval, Act.put]) p k (byteCells (pend1 ++ junk)) 5 Hp1.out (byteCells (cs.take a)) (by rw [Hlen.out]; exact Hmin.out) (fun _ => ⟨rfl, _, rfl, fun j v hv => by rw [add_lit]; exact Hs2.out j v hv⟩) Hfit.out (byteCells_oneCell _) ?_; intro w3 hB3 hgr3; rw [Hlen.out])
        all_goals
          have hg3 : w2.grownBy w3 (some p) := ⟨hgr3.os, hgr3.tape, hgr3.output, hgr3.size, hgr3.block⟩
          have hq3 := Hq2.out.grown hg3 (by simpa using fun e : q = p => Hw2.out.pq e.symm)
          have d2 : w3.cell? ⟨q, 2, none⟩ = some (.int .i64 (k : Int)) := hq3.cell 2
          have e2 : w3.frozen? ⟨q, 2, none⟩ = false := hq3.frozen 2
          have hsp := splice_pend pend1 junk (cs.take a)
          rw [← Hk.out] at hsp
          have hB := hB3.out
          rw [hsp] at hB
          have hfin := Hw2.out.laid (n := 4096) (cs.take a) hg3 (by have := Ha.out; rw [Hdl.out, ← Hk.out]; omega) ⟨junk.drop (cs.take a).length, hB, by have h1 := Hdl.out; have h2 := Hjl.out; have h3 := Hk.out; have h4 := Ha.out; rw [List.length_take] at h1; simp only [List.length_append, List.length_drop, List.length_take]; omega⟩ Hq2.out
          have Hfin := Lib.hid hfin
          clear hgr3 hg3 hq3 hB3 hB hsp hfin c0 c1 c2
          go_wp2_with fail
          rw [Hka.out]
          refine (flush_any _ B X b p q row1 dn1 (pend1 ++ cs.take a) Hfin.out.1 (Nat.le_trans hBw (Hkp2.out.trans Hfin.out.2).size) (by rw [List.length_append, Hdl.out]; have := Hlim.out; have := Hhar.out; omega)).mono ?_
          rintro e w5 ⟨rfl, row5, hw5, hkp5⟩
          have Hw5 := Lib.hid hw5
          have Hkp5 := Lib.hid (Hkp2.out.trans (Hfin.out.2.trans hkp5))
          clear hw5 hkp5 d2 e2 Hfin
          go_wp2
          go_roundg 0
          case measure => have := Hgk.out; omega
          case rel => exact ⟨a, row5, dn1 ++ (pend1 ++ cs.take a), [], rfl, by go_num, Hhar.out, by simp, Hw5.out, Hkp5.out, Or.inr ⟨rfl, by simp; omega⟩⟩
end Go.Proofs.Ythlhcfjpijilaaa
