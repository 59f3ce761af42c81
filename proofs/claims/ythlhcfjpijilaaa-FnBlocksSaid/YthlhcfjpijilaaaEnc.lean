/- The encoder's write, writeByte and flush over a bufio.Writer at work: the walks. -/
import Derived.Test.YthlhcfjpijilaaaBioB
namespace Go.Proofs.Ythlhcfjpijilaaa
open Go Go.ChangeShapes Go.WideShapes Go.ChangeAt Go.RowKit Go.Lib

/-- The cells of an encoder ahead of its buffer, and the whole. -/
def encPre (q : Nat) : List Value := [.iface 56 (.pointer (some ⟨q, 0, none⟩)), .nilIface, .slice none 0 0, .slice none 0 0, .int .i64 0, .slice none 0 0, .nilIface, .int .i64 0, .int .i64 0, .int .u8 0, .int .i64 0]
def encCells (q : Nat) (buf : List UInt8) : List Value := encPre q ++ (byteCells buf ++ List.replicate 1536 (.int .u8 0))
theorem encBuilt (q : Nat) : Try.prog.built 71 [(0, .iface 56 (.pointer (some ⟨q, 0, none⟩)))] = some (encCells q (List.replicate 256 0)).toArray := by kernel_rfl
theorem enc_err (q : Nat) (buf : List UInt8) : (encCells q buf).toArray.setIfInBounds 1 .nilIface = (encCells q buf).toArray := by
  rw [List.setIfInBounds_toArray]
  rfl
theorem enc_at (q : Nat) (buf : List UInt8) (j : Nat) (h : j < buf.length) : (encCells q buf).toArray[11 + j]? = some (.int .u8 ((buf.getD j 0).toNat : Int)) := by
  rw [List.getElem?_toArray]
  unfold encCells
  rw [List.getElem?_append_right (by simp [encPre]), show 11 + j - (encPre q).length = j by simp [encPre], List.getElem?_append_left (by rw [byteCells_length]; exact h), byteCells_at h, List.getD_eq_getElem?_getD, List.getElem?_eq_getElem h]
  rfl
theorem enc_set (q : Nat) (buf : List UInt8) (j : Nat) (x : UInt8) (h : j < buf.length) : (encCells q buf).toArray.setIfInBounds (11 + j) (.int .u8 (x.toNat : Int)) = (encCells q (buf.set j x)).toArray := by
  rw [List.setIfInBounds_toArray]
  congr 1
  unfold encCells
  rw [List.set_append_right _ _ (by simp [encPre]), show 11 + j - (encPre q).length = j by simp [encPre], List.set_append_left _ _ (by rw [byteCells_length]; exact h)]
  unfold byteCells
  rw [List.map_set]

/-- What a call on the encoder leaves: the bytes have gone behind the others; the encoder stands. -/
def EwOut (w : World) (B : Nat) (X : List Nat) (b p q E : Nat) (buf str : List UInt8) (v : Value) (e : Ending) (w' : World) : Prop :=
  e = .returned v ∧ ∃ row' dn' pend', dn' ++ pend' = str ∧ WrAt w' B (E :: X) b p q row' dn' pend' ∧ Blk w' E 71 (encCells q buf).toArray ∧ Kp B X w w'

theorem nilAhead_w (q : Nat) (nm : String) (hnm : nm = "Write" ∨ nm = "WriteByte" ∨ nm = "Flush") (w : World) : (nilAhead 230 56 (.pointer (some ⟨q, 0, none⟩)) nm).run Try.prog w = .ok (some false) w := by
  rcases hnm with rfl | rfl | rfl <;> kernel_rfl
theorem method_w (q : Nat) (w : World) : (method 230 56 (.pointer (some ⟨q, 0, none⟩)) "Write").run Try.prog w = .ok (54, .pointer (some ⟨q, 0, none⟩)) w := by kernel_rfl
theorem method_wb (q : Nat) (w : World) : (method 230 56 (.pointer (some ⟨q, 0, none⟩)) "WriteByte").run Try.prog w = .ok (55, .pointer (some ⟨q, 0, none⟩)) w := by kernel_rfl
theorem method_fl (q : Nat) (w : World) : (method 230 56 (.pointer (some ⟨q, 0, none⟩)) "Flush").run Try.prog w = .ok (53, .pointer (some ⟨q, 0, none⟩)) w := by kernel_rfl

/-- The encoder's error is laid again: nothing else turns. -/
theorem EwOut.of (w w1 : World) (B : Nat) (X : List Nat) (b p q E : Nat) (row dn pend buf) (hE : Blk w E 71 (encCells q buf).toArray) (hBE : B ≤ E) (hEX : E ∉ X) (h : WrAt w1 B (E :: X) b p q row dn pend) (hk : Kp B (E :: X) w w1) (v : Value) :
    EwOut w B X b p q E buf (dn ++ pend) v (.returned v) (w1.setCell ⟨E, 1, none⟩ .nilIface) :=
  ⟨rfl, row, dn, pend, rfl, h.far_ (by simp) _ _, by
    have h1 := (hE.kp hk (by simp)).set_ 1 .nilIface
    rw [enc_err] at h1
    exact h1, (hk.mono (by intro x hx; simp [hx])).set_ hBE hEX _ _⟩

set_option maxRecDepth 100000 in
set_option maxHeartbeats 4000000 in
theorem ewrite_any (w : World) (B : Nat) (X : List Nat) (b p q E n : Nat) (row : List Nat) (dn pend buf : List UInt8) (h : WrAt w B (E :: X) b p q row dn pend) (hE : Blk w E 71 (encCells q buf).toArray) (hbl : buf.length = 256) (hBE : B ≤ E) (hEX : E ∉ X) (hn : 1 ≤ n) (hn2 : n ≤ 256) (hlim : dn.length + pend.length + n ≤ 16777216) :
    Calls Try.prog 31 #[.pointer (some ⟨E, 0, none⟩), .slice (some ⟨E, 11, none⟩) n 256] w fun e w' => EwOut w B X b p q E buf (dn ++ pend ++ buf.take n) (.tuple #[]) e w' := by
  have qnn := weql_nil_nil
  have na := nilAhead_w q "Write" (Or.inl rfl)
  have me := method_w q
  have c0 : w.cell? ⟨E, 0, none⟩ = some (.iface 56 (.pointer (some ⟨q, 0, none⟩))) := hE.cell 0
  have c1 : w.cell? ⟨E, 1, none⟩ = some .nilIface := hE.cell 1
  have hW := bwrite_any w B (E :: X) b p q E 11 n 256 row dn pend (buf.take n) h (by have := h.lt; have := h.lo.1; omega) (by rw [List.length_take]; omega) hn (by omega) hn2 hlim (by simp) (fun j u hu => by
    have hj : j < n := by have := (List.getElem?_eq_some_iff.1 hu).1; rw [byteCells_length, List.length_take] at this; omega
    rw [hE.cell, enc_at q buf j (by omega), ← hu]
    unfold byteCells
    rw [List.getElem?_map, List.getElem?_take, if_pos hj, List.getD_eq_getElem?_getD, List.getElem?_eq_getElem (by omega)]
    rfl)
  have HE := Lib.hid hE
  clear h hE hbl
  go_enter Try.func31, Try.ntmps31
  go_wp2_with fail
  refine hW.mono ?_
  rintro e w1 ⟨rfl, row', dn', pend', hstr, h1, hk1⟩
  have hE1 := HE.out.kp hk1 (by simp)
  have d1 : w1.cell? ⟨E, 1, none⟩ = some .nilIface := hE1.cell 1
  have e1 : w1.frozen? ⟨E, 1, none⟩ = false := hE1.frozen 1
  have HO := Lib.hid (EwOut.of w w1 B X b p q E row' dn' pend' buf HE.out hBE hEX h1 hk1 (.tuple #[]))
  rw [hstr] at HO
  clear hstr h1 hk1 hE1 c0 c1 hW
  go_wp2
  go_end0
  exact HO.out

set_option maxRecDepth 100000 in
set_option maxHeartbeats 4000000 in
theorem ewb_any (w : World) (B : Nat) (X : List Nat) (b p q E : Nat) (row : List Nat) (dn pend buf : List UInt8) (x : UInt8) (h : WrAt w B (E :: X) b p q row dn pend) (hE : Blk w E 71 (encCells q buf).toArray) (hBE : B ≤ E) (hEX : E ∉ X) (hlim : dn.length + 4096 ≤ 16777216) :
    Calls Try.prog 30 #[.pointer (some ⟨E, 0, none⟩), .int .u8 (x.toNat : Int)] w fun e w' => EwOut w B X b p q E buf (dn ++ pend ++ [x]) (.tuple #[]) e w' := by
  have qnn := weql_nil_nil
  have na := nilAhead_w q "WriteByte" (Or.inr (Or.inl rfl))
  have me := method_wb q
  have c0 : w.cell? ⟨E, 0, none⟩ = some (.iface 56 (.pointer (some ⟨q, 0, none⟩))) := hE.cell 0
  have c1 : w.cell? ⟨E, 1, none⟩ = some .nilIface := hE.cell 1
  have hW := bwb_any w B (E :: X) b p q row dn pend x h (by have := h.lt; have := h.lo.1; omega) hlim
  have HE := Lib.hid hE
  obtain ⟨xv, hxv⟩ : ∃ xv : Nat, xv = x.toNat := ⟨_, rfl⟩
  rw [← hxv] at hW ⊢
  clear h hE hxv
  go_enter Try.func30, Try.ntmps30
  go_wp2_with fail
  refine hW.mono ?_
  rintro e w1 ⟨rfl, row', dn', pend', hstr, h1, hk1⟩
  have hE1 := HE.out.kp hk1 (by simp)
  have d1 : w1.cell? ⟨E, 1, none⟩ = some .nilIface := hE1.cell 1
  have e1 : w1.frozen? ⟨E, 1, none⟩ = false := hE1.frozen 1
  have HO := Lib.hid (EwOut.of w w1 B X b p q E row' dn' pend' buf HE.out hBE hEX h1 hk1 (.tuple #[]))
  rw [hstr] at HO
  clear hstr h1 hk1 hE1 c0 c1 hW
  go_wp2
  go_end0
  exact HO.out

set_option maxRecDepth 100000 in
set_option maxHeartbeats 4000000 in
theorem eflush_any (w : World) (B : Nat) (X : List Nat) (b p q E : Nat) (row : List Nat) (dn pend buf : List UInt8) (h : WrAt w B (E :: X) b p q row dn pend) (hE : Blk w E 71 (encCells q buf).toArray) (hBE : B ≤ E) (hEX : E ∉ X) (hlim : dn.length + pend.length ≤ 16777216) :
    Calls Try.prog 32 #[.pointer (some ⟨E, 0, none⟩)] w fun e w' => e = .returned (.tuple #[]) ∧ ∃ row', WrAt w' B (E :: X) b p q row' (dn ++ pend) [] ∧ Kp B X w w' := by
  have qnn := weql_nil_nil
  have na := nilAhead_w q "Flush" (Or.inr (Or.inr rfl))
  have me := method_fl q
  have c0 : w.cell? ⟨E, 0, none⟩ = some (.iface 56 (.pointer (some ⟨q, 0, none⟩))) := hE.cell 0
  have c1 : w.cell? ⟨E, 1, none⟩ = some .nilIface := hE.cell 1
  have hW := flush_any w B (E :: X) b p q row dn pend h (by have := h.lt; have := h.lo.1; omega) hlim
  have HE := Lib.hid hE
  clear h hE
  go_enter Try.func32, Try.ntmps32
  go_wp2_with fail
  refine hW.mono ?_
  rintro e w1 ⟨rfl, row', h1, hk1⟩
  have hE1 := HE.out.kp hk1 (by simp)
  have d1 : w1.cell? ⟨E, 1, none⟩ = some .nilIface := hE1.cell 1
  have e1 : w1.frozen? ⟨E, 1, none⟩ = false := hE1.frozen 1
  have H1 := Lib.hid h1
  have Hk1 := Lib.hid hk1
  clear h1 hk1 hE1 c0 c1 hW
  go_wp2
  go_end0
  exact ⟨rfl, row', H1.out.far_ (by simp) _ _, (Hk1.out.mono (by intro x hx; simp [hx])).set_ hBE hEX _ _⟩
end Go.Proofs.Ythlhcfjpijilaaa
