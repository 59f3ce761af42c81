/- io.ReadAtLeast, io.ReadFull over a bytes.Reader, and gif.readFull over it: the walks. -/
import Derived.Test.YthlhcfjpijilaaaDoorRd
import Derived.LaidEql
import Derived.Stop.IfaceNil
namespace Go.Proofs.YthlhcfjpijilaaaDoor
open Go Go.ChangeShapes Go.WideShapes Go.ChangeAt Go.RowKit Go.Lib

/-- An error that is a pointer to errors.New's struct. -/
abbrev errV (a : Addr) : Value := .iface 111 (.pointer (some a))

/-- The variables io.EOF and io.ErrUnexpectedEOF, below block B: what they hold; the two are apart. -/
structure Sent (B : Nat) (a1 a2 : Addr) (w : World) : Prop where
  g1 : w.cell? ⟨1, 0, none⟩ = some (errV a1)
  g2 : w.cell? ⟨2, 0, none⟩ = some (errV a2)
  b1 : ∃ c t, w.heap[a1.block]? = some (.cells c t (0, 0))
  b2 : ∃ c t, w.heap[a2.block]? = some (.cells c t (0, 0))
  l1 : a1.block < B
  l2 : a2.block < B
  lb : 5 ≤ B
  ne : a1 ≠ a2

section
variable {B : Nat} {a1 a2 : Addr} {w w' : World}
theorem Sent.keep (h : Sent B a1 a2 w) (hk : ∀ i, i < B → w'.heap[i]? = w.heap[i]?) : Sent B a1 a2 w' := by
  have hc : ∀ (b o : Nat), b < B → w'.cell? ⟨b, o, none⟩ = w.cell? ⟨b, o, none⟩ := fun b o hb => World.cell?_of_block (hk b hb)
  obtain ⟨c1, t1, e1⟩ := h.b1
  obtain ⟨c2, t2, e2⟩ := h.b2
  exact ⟨(hc _ _ (by have := h.lb; omega)).trans h.g1, (hc _ _ (by have := h.lb; omega)).trans h.g2, ⟨c1, t1, (hk _ h.l1).trans e1⟩, ⟨c2, t2, (hk _ h.l2).trans e2⟩, h.l1, h.l2, h.lb, h.ne⟩
theorem Sent.below (h : Sent B a1 a2 w) (hb : Below B w w') : Sent B a1 a2 w' := h.keep hb.block
theorem Sent.more {B' : Nat} (h : Sent B a1 a2 w) (hB : B ≤ B') : Sent B' a1 a2 w := ⟨h.g1, h.g2, h.b1, h.b2, Nat.lt_of_lt_of_le h.l1 hB, Nat.lt_of_lt_of_le h.l2 hB, Nat.le_trans h.lb hB, h.ne⟩
theorem Sent.drewN (h : Sent B a1 a2 w) (n : Nat) : Sent B a1 a2 (w.drewN n) := h.keep fun _ _ => rfl
theorem Sent.drew (h : Sent B a1 a2 w) : Sent B a1 a2 w.drew := h.keep fun _ _ => rfl
theorem Sent.turns {R D : Nat} (h : Sent B a1 a2 w) (k : Turns2 R D w w') (hR : B ≤ R) (hD : B ≤ D) (hB : B ≤ w.heap.size) : Sent B a1 a2 w' := h.below (k.below hR hD hB)
theorem Sent.eql_other (h : Sent B a1 a2 w) : (binOp .eql 55 (errV a2) (errV a1)).run Tryd.prog w = .ok (.bool false) w := by
  obtain ⟨c1, t1, e1⟩ := h.b1
  obtain ⟨c2, t2, e2⟩ := h.b2
  obtain ⟨i, hi, hic⟩ : ∃ i, Tryd.prog.info? 111 = some i ∧ i.comparable = true := Option.map_eq_some_iff.1 (show (Tryd.prog.info? 111).map (·.comparable) = some true by kernel_rfl)
  obtain ⟨j, hj, hjs⟩ : ∃ j, Tryd.prog.info? 113 = some j ∧ j.size = 1 := Option.map_eq_some_iff.1 (show (Tryd.prog.info? 113).map (·.size) = some 1 by kernel_rfl)
  exact run_eql_iface_ptr_other w Tryd.underlying55 Tryd.underlying111 hi hic hj (by rw [hjs]; decide) (fun e => h.ne e.symm) e2 e1
end
theorem eql_same (a : Addr) (w : World) : (binOp .eql 55 (errV a) (errV a)).run Tryd.prog w = .ok (.bool true) w := by
  obtain ⟨i, hi, hic⟩ : ∃ i, Tryd.prog.info? 111 = some i ∧ i.comparable = true := Option.map_eq_some_iff.1 (show (Tryd.prog.info? 111).map (·.comparable) = some true by kernel_rfl)
  obtain ⟨j, hj, hjs⟩ : ∃ j, Tryd.prog.info? 113 = some j ∧ j.size = 1 := Option.map_eq_some_iff.1 (show (Tryd.prog.info? 113).map (·.size) = some 1 by kernel_rfl)
  exact run_eql_iface_ptr_same w a Tryd.underlying55 Tryd.underlying111 hi hic hj
theorem eql_nil_left (a : Addr) (w : World) : (binOp .eql 55 .nilIface (errV a)).run Tryd.prog w = .ok (.bool false) w := run_eql_iface_nil_left w _ _ Tryd.underlying55
theorem eql_nil_right (a : Addr) (w : World) : (binOp .eql 55 (errV a) .nilIface).run Tryd.prog w = .ok (.bool false) w := run_eql_iface_nil w _ (by kernel_rfl) _ _
theorem eql_nil_nil (w : World) : (binOp .eql 55 .nilIface .nilIface).run Tryd.prog w = .ok (.bool true) w := by kernel_rfl

theorem splice_nil (cur : List Value) (off : Nat) : splice cur off [] = cur := by simp [splice]

/-- The world behind k bytes read into D. -/
def RdAt (w : World) (A : Option Addr) (l : List UInt8) (n c i R D off k : Nat) (T : TypeId) (cur : List Value) (w' : World) : Prop :=
  (∃ pr, Blk w' R 100 (rdCells A n c (i + k) pr)) ∧ Blk w' D T (splice cur off (byteCells ((l.drop i).take k))).toArray ∧ Turns2 R D w w'

theorem nmin (a b : Nat) : (a ≤ b ∧ Nat.min a b = a) ∨ (b ≤ a ∧ Nat.min a b = b) := by
  rcases Nat.le_total a b with h | h
  · exact Or.inl ⟨h, Nat.min_eq_left h⟩
  · exact Or.inr ⟨h, Nat.min_eq_right h⟩

def RalRel (w : World) (A : Option Addr) (l : List UInt8) (n c i m R D off : Nat) (T : TypeId) (cur : List Value) (a1 : Addr) (g : Nat) (nv ev : Value) (wr : World) : Prop :=
  ∃ kk, nv = .int .i64 ((kk : Nat) : Int) ∧ kk ≤ n - i ∧ kk ≤ m ∧ RdAt w A l n c i R D off kk T cur wr ∧
    ((ev = .nilIface ∧ (kk = 0 ∨ kk = Nat.min (n - i) m) ∧ g = 1 + (m - kk)) ∨ (ev = errV a1 ∧ kk = n - i ∧ kk < m ∧ g = 0))

/-- The error behind io.ReadFull: none, io.EOF, io.ErrUnexpectedEOF. -/
def alErr (a1 a2 : Addr) (av m : Nat) : Value := if m ≤ av then .nilIface else if av = 0 then errV a1 else errV a2

theorem nilAhead_rd (R : Nat) (w : World) : (nilAhead 241 73 (.pointer (some ⟨R, 0, none⟩)) "Read").run Tryd.prog w = .ok (some false) w := by kernel_rfl
theorem method_rd (R : Nat) (w : World) : (method 241 73 (.pointer (some ⟨R, 0, none⟩)) "Read").run Tryd.prog w = .ok (68, .pointer (some ⟨R, 0, none⟩)) w := by kernel_rfl

set_option maxRecDepth 100000 in
set_option maxHeartbeats 2000000 in
theorem ral_any (w : World) (B : Nat) (a1 a2 : Addr) (R D n c i m mc off : Nat) (pr : Int) (A dp : Option Addr) (l : List UInt8) (cur : List Value) (T : TypeId) (hS : Sent B a1 a2 w) (hR : Blk w R 100 (rdCells A n c i pr)) (hD : Blk w D T cur.toArray) (hRD : R ≠ D)
    (hBR : B ≤ R) (hBD : B ≤ D) (hA : Reads w B A (byteCells l)) (hl : l.length = n) (hn : i ≤ n) (hnc : n ≤ c) (hc : c ≤ maxLen) (hmm : m ≤ mc) (hmc : mc ≤ maxLen) (hdp : 0 < m → dp = some ⟨D, off, none⟩) (hfit : off + m ≤ cur.length) :
    Calls Tryd.prog 43 #[.iface 73 (.pointer (some ⟨R, 0, none⟩)), .slice dp m mc, .int .i64 (m : Int)] w fun e w' =>
      e = .returned (.tuple #[.int .i64 ((Nat.min (n - i) m : Nat) : Int), alErr a1 a2 (n - i) m]) ∧ RdAt w A l n c i R D off (Nat.min (n - i) m) T cur w' := by
  have hM : (maxLen : Nat) ≤ 9223372036854775807 := by decide
  have qss := eql_same
  have qnl := eql_nil_left
  have qnr := eql_nil_right
  have qnn := eql_nil_nil
  have na := nilAhead_rd R
  have me := method_rd R
  have HS := Lib.hid hS
  have HR := Lib.hid hR
  have HD := Lib.hid hD
  have HA := Lib.hid hA
  have Hl := Lib.hid hl
  have Hdp := Lib.hid hdp
  clear hS hR hD hA hl hdp
  go_enter Tryd.func43, Tryd.ntmps43
  go_wp2
  go_loopg [6, 7] (1 + m) (fun g nv ev wr => RalRel w A l n c i m R D off T cur a1 g nv ev wr)
  case atStart => exact ⟨0, rfl, by omega, by omega, ⟨⟨pr, HR.out⟩, by simpa [byteCells, splice_nil] using HD.out, Turns2.refl _ _ _⟩, Or.inl ⟨rfl, Or.inl rfl, by omega⟩⟩
  case round =>
    obtain ⟨kk, rfl, hk1, hk2, hat, hev⟩ := hrel
    rcases hev with ⟨rfl, hk3, hg⟩ | ⟨rfl, hk3, hk4, hg⟩
    · by_cases hlt : kk < m
      · have hd : decide ((kk : Int) < (m : Int)) = true := by simp; omega
        obtain ⟨⟨pk, hRk⟩, hDk, htk⟩ := hat
        have hAk : Reads wr B A (byteCells l) := HA.out.below (htk.below hBR hBD (by have := HR.out.lt; omega))
        have hSk := HS.out.turns htk hBR hBD (by have := HR.out.lt; omega)
        have hdp' := Hdp.out (by omega)
        subst hdp'
        have s2 : (0 : Int) ≤ (kk : Int) := by omega
        have s4 : (kk : Int) ≤ (m : Int) := by omega
        have s5 : kk ≤ m := by omega
        have s6 : ¬ mc = kk := by omega
        by_cases hi : i + kk < n
        · obtain rfl : kk = 0 := by
            rcases hk3 with h | h
            · exact h
            · exfalso; rcases nmin (n - i) m with h2 | h2 <;> omega
          have hRk' : Blk wr R 100 (rdCells A n c i pk) := hRk
          have hDk' : Blk wr D T cur.toArray := by simpa [byteCells, splice_nil] using hDk
          obtain ⟨k, hk⟩ : ∃ k, k = Nat.min (n - i) m := ⟨_, rfl⟩
          have hkn : k ≤ n - i := by rw [hk]; exact Nat.min_le_left _ _
          have hkm : k ≤ m := by rw [hk]; exact Nat.min_le_right _ _
          have hk0 : 0 < k := by rcases nmin (n - i) m with h2 | h2 <;> omega
          have HRk := Lib.hid hRk'
          have HDk := Lib.hid hDk'
          have Htk := Lib.hid htk
          have HAk := Lib.hid hAk
          have Hk := Lib.hid hk
          clear hRk hDk htk hAk hSk hk3 hRk' hDk' hk
          go_wp2
          go_region_with (go_at_call 68; refine (rd_in wr.drew R D n c i m mc off k pk A (some ⟨D, off, none⟩) l cur T HRk.out HDk.out hRD B hBR HAk.out Hl.out (by omega) hnc hc (by omega) Hk.out rfl hfit).mono ?_; rintro e w1 ⟨rfl, hR1, hD1, ht1⟩; have HR1 := Lib.hid hR1; have HD1 := Lib.hid hD1; have Ht1 := Lib.hid (Htk.out.trans (show Turns2 R D wr w1 from ⟨ht1.os, ht1.tape, ht1.output, ht1.size, ht1.block⟩)); clear hR1 hD1 ht1)
          all_goals
            go_wp2
            go_roundg (1 + (m - k))
          case measure => omega
          case rel => exact ⟨k, by go_num, hkn, hkm, ⟨⟨_, HR1.out⟩, HD1.out, Ht1.out⟩, Or.inl ⟨rfl, Or.inr Hk.out, rfl⟩⟩
        · have HRk := Lib.hid hRk
          have HDk := Lib.hid hDk
          have Htk := Lib.hid htk
          have HSk := Lib.hid hSk
          clear hRk hDk htk hAk hSk hk3
          go_wp2
          go_region_with (go_at_call 68; refine (rd_end wr.drew R n c (i + kk) pk A (errV a1) _ _ _ HRk.out (by omega) HSk.out.g1).mono ?_; rintro e w1 ⟨rfl, hh1, ht1⟩; have Hh1 := Lib.hid (show w1.heap = wr.heap from hh1); have Ht1 := Lib.hid (Htk.out.trans (show Turns2 R D wr w1 from ⟨(ht1 D).os, (ht1 D).tape, (ht1 D).output, (ht1 D).size, (ht1 D).block⟩)); clear hh1 ht1)
          all_goals
            go_wp2
            go_roundg 0
          case measure => omega
          case rel => exact ⟨kk, by go_num, hk1, hk2, ⟨⟨pk, (congrArg (·[R]?) Hh1.out).trans HRk.out⟩, (congrArg (·[D]?) Hh1.out).trans HDk.out, Ht1.out⟩, Or.inr ⟨rfl, by omega, hlt, rfl⟩⟩
      · have hd : decide ((kk : Int) < (m : Int)) = false := by simp; omega
        obtain rfl : kk = m := by omega
        have hmin : Nat.min (n - i) kk = kk := Nat.min_eq_right (by omega)
        have Hat := Lib.hid hat
        clear hat hk3
        go_wp2
        go_ret2
        rw [hmin]
        exact ⟨by rw [alErr, if_pos (by omega)]; rfl, Hat.out⟩
    · have hd : decide ((kk : Int) < (m : Int)) = true := by simp; omega
      have hmin : Nat.min (n - i) m = kk := by rcases nmin (n - i) m with h2 | h2 <;> omega
      have hsk := HS.out.turns hat.2.2 hBR hBD (by have := HR.out.lt; omega)
      have q1 := hsk.g1
      have q2 := hsk.g2
      have Hat := Lib.hid hat
      clear hat hsk
      by_cases h0 : kk = 0
      · have hg0 : decide ((0 : Int) < (kk : Int)) = false := by simp; omega
        go_wp2
        go_ret2
        rw [hmin]
        exact ⟨by rw [alErr, if_neg (by omega), if_pos (by omega), hk3]; rfl, Hat.out⟩
      · have hg0 : decide ((0 : Int) < (kk : Int)) = true := by simp; omega
        go_wp2
        go_ret2
        rw [hmin]
        exact ⟨by rw [alErr, if_neg (by omega), if_neg (by omega), hk3]; rfl, Hat.out⟩

set_option maxRecDepth 100000 in
theorem rf_any (w : World) (B : Nat) (a1 a2 : Addr) (R D n c i m mc off : Nat) (pr : Int) (A dp : Option Addr) (l : List UInt8) (cur : List Value) (T : TypeId) (hS : Sent B a1 a2 w) (hR : Blk w R 100 (rdCells A n c i pr)) (hD : Blk w D T cur.toArray) (hRD : R ≠ D)
    (hBR : B ≤ R) (hBD : B ≤ D) (hA : Reads w B A (byteCells l)) (hl : l.length = n) (hn : i ≤ n) (hnc : n ≤ c) (hc : c ≤ maxLen) (hmm : m ≤ mc) (hmc : mc ≤ maxLen) (hdp : 0 < m → dp = some ⟨D, off, none⟩) (hfit : off + m ≤ cur.length) :
    Calls Tryd.prog 40 #[.iface 73 (.pointer (some ⟨R, 0, none⟩)), .slice dp m mc] w fun e w' =>
      e = .returned (.tuple #[.int .i64 ((Nat.min (n - i) m : Nat) : Int), alErr a1 a2 (n - i) m]) ∧ RdAt w A l n c i R D off (Nat.min (n - i) m) T cur w' := by
  have h := ral_any w B a1 a2 R D n c i m mc off pr A dp l cur T hS hR hD hRD hBR hBD hA hl hn hnc hc hmm hmc hdp hfit
  clear hS hR hD hA hl hdp
  go_enter Tryd.func40, Tryd.ntmps40
  go_wp2_with fail
  refine h.mono ?_
  rintro e w1 ⟨rfl, hw1⟩
  have Hw1 := Lib.hid hw1
  clear hw1
  go_wp2
  go_ret2
  exact ⟨rfl, Hw1.out⟩

/-- The error behind gif.readFull: none, io.ErrUnexpectedEOF. -/
def fullErr (a2 : Addr) (av m : Nat) : Value := if m ≤ av then .nilIface else errV a2

set_option maxRecDepth 100000 in
theorem full_any (w : World) (B : Nat) (a1 a2 : Addr) (R D n c i m mc off : Nat) (pr : Int) (A dp : Option Addr) (l : List UInt8) (cur : List Value) (T : TypeId) (hS : Sent B a1 a2 w) (hR : Blk w R 100 (rdCells A n c i pr)) (hD : Blk w D T cur.toArray) (hRD : R ≠ D)
    (hBR : B ≤ R) (hBD : B ≤ D) (hA : Reads w B A (byteCells l)) (hl : l.length = n) (hn : i ≤ n) (hnc : n ≤ c) (hc : c ≤ maxLen) (hmm : m ≤ mc) (hmc : mc ≤ maxLen) (hdp : 0 < m → dp = some ⟨D, off, none⟩) (hfit : off + m ≤ cur.length) :
    Calls Tryd.prog 32 #[.iface 73 (.pointer (some ⟨R, 0, none⟩)), .slice dp m mc] w fun e w' =>
      e = .returned (fullErr a2 (n - i) m) ∧ RdAt w A l n c i R D off (Nat.min (n - i) m) T cur w' := by
  have h := rf_any w B a1 a2 R D n c i m mc off pr A dp l cur T hS hR hD hRD hBR hBD hA hl hn hnc hc hmm hmc hdp hfit
  have qss := eql_same
  have qnl := eql_nil_left
  have HS := Lib.hid hS
  have hlt := hR.lt
  clear hS hR hD hA hl hdp
  go_enter Tryd.func32, Tryd.ntmps32
  go_wp2_with fail
  refine h.mono ?_
  rintro e w1 ⟨rfl, hw1⟩
  have hs1 := HS.out.turns hw1.2.2 hBR hBD (by omega)
  have q1 := hs1.g1
  have q2 := hs1.g2
  have qot := hs1.eql_other
  have Hw1 := Lib.hid hw1
  clear hw1 hs1
  by_cases c1 : m ≤ n - i
  · rw [show alErr a1 a2 (n - i) m = .nilIface from if_pos c1]
    go_wp2
    go_ret
    exact ⟨by rw [fullErr, if_pos c1]; rfl, Hw1.out⟩
  · by_cases c2 : n - i = 0
    · rw [show alErr a1 a2 (n - i) m = errV a1 from (if_neg c1).trans (if_pos c2)]
      go_wp2
      go_ret
      exact ⟨by rw [fullErr, if_neg c1]; rfl, Hw1.out⟩
    · rw [show alErr a1 a2 (n - i) m = errV a2 from (if_neg c1).trans (if_neg c2)]
      go_wp2
      go_ret
      exact ⟨by rw [fullErr, if_neg c1]; rfl, Hw1.out⟩
end Go.Proofs.YthlhcfjpijilaaaDoor
