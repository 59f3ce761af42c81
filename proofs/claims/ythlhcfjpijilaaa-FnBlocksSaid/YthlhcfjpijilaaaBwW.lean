/- The package's blockWriter over an encoder at work: Write: the walk. -/
import Derived.Test.YthlhcfjpijilaaaBw
import Derived.Test.YthlhcfjpijilaaaJn
namespace Go.Proofs.Ythlhcfjpijilaaa
open Go Go.ChangeShapes Go.WideShapes Go.ChangeAt Go.RowKit Go.Lib

/-- Whole blocks so far: with whatever lies behind them they join to those bytes and what that joins to. -/
def PrtS (str d : List UInt8) : Prop := ∀ rest o s e, Jn rest o e s → Jn (str ++ rest) (d ++ o) e s
theorem PrtS.nil : PrtS [] [] := fun _ _ _ _ h => h
theorem PrtS.block {str d blk : List UInt8} {k : Nat} (h : PrtS str d) (kb : UInt8) (hk : kb.toNat = k) (hl : blk.length = k) (h0 : 0 < k) : PrtS (str ++ (kb :: blk)) (d ++ blk) := fun rest o s e hj => by
  have h1 := Jn.step kb (blk ++ rest) o e s (by omega) (by rw [List.length_append]; omega) (by rw [hk, ← hl, List.drop_left]; exact hj)
  rw [hk, ← hl, List.take_left] at h1
  have h2 := h _ _ _ _ h1
  rw [List.append_assoc, List.append_assoc, List.cons_append]
  exact h2
theorem PrtS.end_ {str d : List UInt8} (h : PrtS str d) : Jn (str ++ [0]) d true [] := by
  have h1 := h [0] [] [] true (.zero 0 [] rfl)
  rwa [List.append_nil] at h1

/-- The writer at work: the bytes d have gone in. -/
structure SAt (w : World) (B : Nat) (X : List Nat) (b p q E : Nat) (d : List UInt8) : Prop where
  st : ∃ row dn pend blk dd, WrAt w B (E :: X) b p q row dn pend ∧ BkAt w E q blk ∧ blk.length ≤ 254 ∧ PrtS (dn ++ pend) dd ∧ d = dd ++ blk ∧ (dn ++ pend).length ≤ 2 * dd.length
  be : B ≤ E
  ex : E ∉ X

def BwRel (w : World) (B : Nat) (X : List Nat) (b p q E : Nat) (l : List UInt8) (n g : Nat) (iv : Value) (wr : World) : Prop :=
  ∃ kk, g + kk = n ∧ iv = .int .i64 ((kk : Nat) : Int) ∧ SAt wr B X b p q E (l.take kk) ∧ Kp B X w wr

theorem bbyte_s (w : World) (B : Nat) (X : List Nat) (b p q E : Nat) (d : List UInt8) (x : UInt8) (h : SAt w B X b p q E d) (hd : d.length ≤ 65536) :
    Calls Try.prog 29 #[.agg #[.pointer (some ⟨E, 0, none⟩)], .int .u8 (x.toNat : Int)] w fun e w' => e = .returned .nilIface ∧ SAt w' B X b p q E (d ++ [x]) ∧ Kp B X w w' := by
  obtain ⟨⟨row, dn, pend, blk, dd, hw, hk, hb, hp, rfl, hl⟩, hbe, hex⟩ := h
  rw [List.length_append] at hd hl
  refine (bbyte_any w B X b p q E blk.length row dn pend blk x hw hk rfl hb hbe hex (by omega)).mono ?_
  rintro e w' ⟨rfl, row', dn', pend', blk', hw', hk', hkp, ⟨h1, h2, rfl⟩ | ⟨h1, h2, rfl⟩⟩
  · refine ⟨rfl, ⟨⟨row', dn', pend', blk ++ [x], dd, hw', hk', ?_, by rw [h2]; exact hp, by rw [List.append_assoc], by rw [h2, List.length_append]; exact hl⟩, hbe, hex⟩, hkp⟩
    rw [List.length_append, List.length_cons, List.length_nil]
    omega
  · have hl2 : (blk ++ [x]).length = 255 := by rw [List.length_append, List.length_cons, List.length_nil]; omega
    refine ⟨rfl, ⟨⟨row', dn', pend', [], dd ++ (blk ++ [x]), hw', hk', by simp, ?_, by rw [List.append_nil, List.append_assoc], ?_⟩, hbe, hex⟩, hkp⟩
    · rw [h2]
      exact hp.block (k := 255) 255 rfl hl2 (by decide)
    · rw [h2]
      simp only [List.length_append, List.length_cons, List.length_nil]
      omega

set_option maxRecDepth 100000 in
set_option maxHeartbeats 4000000 in
theorem bwall_any (w : World) (B : Nat) (X : List Nat) (b p q E n c : Nat) (A : Option Addr) (l : List UInt8) (h : SAt w B X b p q E []) (hA : Reads w B A (byteCells l)) (hl : l.length = n) (hn : n ≤ 65536) :
    Calls Try.prog 23 #[.agg #[.pointer (some ⟨E, 0, none⟩)], .slice A n c] w fun e w' => e = .returned (.tuple #[.int .i64 (n : Int), .nilIface]) ∧ SAt w' B X b p q E l ∧ Kp B X w w' := by
  have qnn := weql_nil_nil
  have hBw : B ≤ w.heap.size := by
    obtain ⟨⟨row, dn, pend, blk, dd, hw, _⟩, _⟩ := h
    have := hw.lo.1; have := hw.lt.1; omega
  have h1 : SAt (w.alloc (.cells #[.pointer (some ⟨E, 0, none⟩)] 73)) B (w.heap.size :: X) b p q E [] := by
    obtain ⟨⟨row, dn, pend, blk, dd, hw, ⟨junk, hE, hj⟩, hr⟩, hbe, hex⟩ := h
    have hlt := (hw.hx E (by simp)).1
    exact ⟨⟨row, dn, pend, blk, dd, (hw.alloc _).less (fun y hy => by simp at hy ⊢; rcases hy with e | e | e <;> simp [e]), ⟨junk, hE.alloc _, hj⟩, hr⟩, hbe, by simp; exact ⟨by omega, hex⟩⟩
  have hk1 : Kp B X w (w.alloc (.cells #[.pointer (some ⟨E, 0, none⟩)] 73)) := (Kp.refl _ _ _).alloc _
  have hh := Blk.new w 73 #[.pointer (some ⟨E, 0, none⟩)]
  have hA1 : Reads (w.alloc (.cells #[.pointer (some ⟨E, 0, none⟩)] 73)) B A (byteCells l) := hA.alloc hBw _
  obtain ⟨s, hs⟩ : ∃ s, s = w.heap.size := ⟨_, rfl⟩
  rw [← hs] at h1 hh
  have Hs := Lib.hid hs
  have Hl := Lib.hid hl
  have hsz1 : B ≤ (w.alloc (.cells #[.pointer (some ⟨E, 0, none⟩)] 73)).heap.size := by simp; omega
  clear h hA hs hl
  go_enter Try.func23, Try.ntmps23
  go_wp2
  rw [← Hs.out]
  generalize w.alloc (.cells #[.pointer (some ⟨E, 0, none⟩)] 73) = w1 at *
  have H1 := Lib.hid h1
  have Hk1 := Lib.hid hk1
  have Hh := Lib.hid hh
  have HA1 := Lib.hid hA1
  clear h1 hk1 hh hA1
  go_loopg [11] n (fun g iv wr => BwRel w1 B (s :: X) b p q E l n g iv wr)
  case atStart => exact ⟨0, by omega, rfl, H1.out, Kp.refl _ _ _⟩
  case round =>
    obtain ⟨kk, hg, rfl, hst, hkp⟩ := hrel
    by_cases hlt : kk < n
    · obtain ⟨ab, ao, rfl, hb, hc⟩ := HA1.out (by have := Hl.out; simp [byteCells]; omega)
      have hkl : kk < l.length := by have := Hl.out; omega
      obtain ⟨x, hx⟩ : ∃ x, x = l[kk] := ⟨_, rfl⟩
      have c0 : wr.cell? ⟨ab, ao + kk, none⟩ = some (.int .u8 (x.toNat : Int)) := by
        refine ((hkp.below hsz1).cell (p := ⟨ab, _, none⟩) hb).trans (hc kk _ ?_)
        rw [byteCells_at hkl, hx]
      have d0 : wr.cell? ⟨s, 0, none⟩ = some (.pointer (some ⟨E, 0, none⟩)) := (Hh.out.kp hkp (by simp)).cell 0
      have hd : decide ((kk : Int) < (n : Int)) = true := by simp; omega
      have htk : l.take (kk + 1) = l.take kk ++ [x] := by rw [List.take_succ_eq_append_getElem hkl, hx]
      have hB := bbyte_s wr B (s :: X) b p q E (l.take kk) x hst (by rw [List.length_take]; omega)
      rw [← htk] at hB
      have HB := Lib.hid hB
      have Hkp := Lib.hid hkp
      have Hg := Lib.hid hg
      clear hB hkp hg hst hx htk hc
      go_wp2_with fail
      refine HB.out.mono ?_
      rintro e w2 ⟨rfl, h2, hk2⟩
      have H2 := Lib.hid h2
      have Hk2 := Lib.hid (Hkp.out.trans hk2)
      clear h2 hk2 c0 d0 HB
      go_wp2
      go_roundg (n - (kk + 1))
      case measure => have := Hg.out; omega
      case rel => exact ⟨kk + 1, by omega, by go_num, H2.out, Hk2.out⟩
    · obtain rfl : kk = n := by have := hg; omega
      have hd : decide ((kk : Int) < (kk : Int)) = false := by simp
      rw [List.take_of_length_le (by rw [Hl.out]; exact Nat.le_refl _)] at hst
      have Hst := Lib.hid hst
      have Hkp := Lib.hid hkp
      clear hst hkp hg
      go_wp2
      go_ret2
      refine ⟨rfl, ?_, Hk1.out.trans (Hkp.out.mono (fun y hy => by simp [hy]))⟩
      obtain ⟨⟨row, dn, pend, blk, dd, hw, hr⟩, hbe, hex⟩ := Hst.out
      exact ⟨⟨row, dn, pend, blk, dd, hw.less (fun y hy => by simp at hy ⊢; rcases hy with e | e <;> simp [e]), hr⟩, hbe, fun hX => hex (by simp [hX])⟩
end Go.Proofs.Ythlhcfjpijilaaa
