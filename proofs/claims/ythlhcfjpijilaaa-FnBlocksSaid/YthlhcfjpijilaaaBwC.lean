/- The package's blockWriter over an encoder at work: close: the walks. -/
import Derived.Test.YthlhcfjpijilaaaBwW
namespace Go.Proofs.Ythlhcfjpijilaaa
open Go Go.ChangeShapes Go.WideShapes Go.ChangeAt Go.RowKit Go.Lib

/-- What close leaves: the bytes.Buffer holds the blocks, ended. -/
def ClOut (w : World) (B : Nat) (X : List Nat) (b p q E : Nat) (d : List UInt8) (e : Ending) (w' : World) : Prop :=
  e = .returned (.tuple #[]) ∧ ∃ row f, WrAt w' B (E :: X) b p q row f [] ∧ Jn f d true [] ∧ 0 < f.length ∧ f.length ≤ 2 * d.length + 512 ∧ Kp B X w w'

/-- The world behind the receiver's box. -/
theorem boxed (w : World) (B : Nat) (X : List Nat) (b p q E : Nat) (row dn pend) (cs : Array Value) (h : WrAt w B (E :: X) b p q row dn pend) (hE : Blk w E 71 cs) (hEX : E ∉ X) :
    ∃ s, s = w.heap.size ∧ E ∉ s :: X ∧ WrAt (w.alloc (.cells #[.pointer (some ⟨E, 0, none⟩)] 73)) B (E :: s :: X) b p q row dn pend ∧ Blk (w.alloc (.cells #[.pointer (some ⟨E, 0, none⟩)] 73)) E 71 cs ∧
      Kp B X w (w.alloc (.cells #[.pointer (some ⟨E, 0, none⟩)] 73)) ∧ Blk (w.alloc (.cells #[.pointer (some ⟨E, 0, none⟩)] 73)) s 73 #[.pointer (some ⟨E, 0, none⟩)] := by
  have hlt := (h.hx E (by simp)).1
  exact ⟨w.heap.size, rfl, by simp; exact ⟨by omega, hEX⟩, (h.alloc _).less (fun y hy => by simp at hy ⊢; rcases hy with e | e | e <;> simp [e]), hE.alloc _, (Kp.refl _ _ _).alloc _, Blk.new _ _ _⟩

set_option maxRecDepth 100000 in
set_option maxHeartbeats 8000000 in
theorem bclose_none (w : World) (B : Nat) (X : List Nat) (b p q E : Nat) (row : List Nat) (dn pend d : List UInt8) (h : WrAt w B (E :: X) b p q row dn pend) (hk : BkAt w E q []) (hp : PrtS (dn ++ pend) d) (hl : (dn ++ pend).length ≤ 2 * d.length) (hd : d.length ≤ 65536) (hBE : B ≤ E) (hEX : E ∉ X) :
    Calls Try.prog 24 #[.agg #[.pointer (some ⟨E, 0, none⟩)]] w fun e w' => ClOut w B X b p q E d e w' := by
  obtain ⟨junk, hE, hjl⟩ := hk
  rw [List.length_append] at hl
  obtain ⟨s, hs, hsX, h1, hE1, hk1, hh⟩ := boxed w B X b p q E row dn pend _ h hE hEX
  have Hs := Lib.hid hs
  have Hp := Lib.hid hp
  have Hl := Lib.hid hl
  clear h hE hs hp
  go_enter Try.func24, Try.ntmps24
  go_upto_region 1 with (fail)
  rw [← Hs.out]
  generalize w.alloc (.cells #[.pointer (some ⟨E, 0, none⟩)] 73) = w1 at *
  have d0 : w1.cell? ⟨s, 0, none⟩ = some (.pointer (some ⟨E, 0, none⟩)) := hh.cell 0
  have c11 : w1.cell? ⟨E, 11, none⟩ = some (.int .u8 0) := (hE1.cell 11).trans (enc_at q _ 0 (by simp))
  have hW := ewb_any w1 B (s :: X) b p q E row dn pend _ 0 h1 hE1 hBE hsX (by omega)
  have HW := Lib.hid hW
  have Hh := Lib.hid hh
  have Hk1 := Lib.hid hk1
  clear hW h1 hE1 hk1 hh
  go_wp2_with fail
  refine HW.out.mono ?_
  rintro e w2 ⟨rfl, row2, dn2, pend2, hstr, h2, hE2, hk2⟩
  have d2 : w2.cell? ⟨s, 0, none⟩ = some (.pointer (some ⟨E, 0, none⟩)) := (Hh.out.kp hk2 (by simp)).cell 0
  have hln : dn2.length + pend2.length = dn.length + pend.length + 1 := by
    have := congrArg List.length hstr
    simp only [List.length_append, List.length_cons, List.length_nil] at this
    omega
  have hF := eflush_any w2 B (s :: X) b p q E row2 dn2 pend2 _ h2 hE2 hBE hsX (by have := Hl.out; omega)
  have HF := Lib.hid hF
  have Hk2 := Lib.hid (Hk1.out.trans (hk2.mono (fun y hy => by simp [hy])))
  have Hstr := Lib.hid hstr
  have Hln := Lib.hid hln
  clear hF h2 hE2 hk2 hstr d0 c11 hln
  go_wp2_with fail
  refine HF.out.mono ?_
  rintro e w3 ⟨rfl, row3, h3, hk3⟩
  have H3 := Lib.hid h3
  have Hk3 := Lib.hid (Hk2.out.trans (hk3.mono (fun y hy => by simp [hy])))
  clear h3 hk3 d2
  go_wp2
  go_end0
  refine ⟨rfl, row3, dn2 ++ pend2, H3.out.less (fun y hy => by simp at hy ⊢; rcases hy with e | e <;> simp [e]), ?_, ?_, ?_, Hk3.out⟩
  · rw [Hstr.out]
    exact Hp.out.end_
  · rw [List.length_append]; have := Hln.out; omega
  · rw [List.length_append]; have := Hln.out; have := Hl.out; omega

set_option maxRecDepth 100000 in
set_option maxHeartbeats 8000000 in
theorem bclose_some (w : World) (B : Nat) (X : List Nat) (b p q E r : Nat) (row : List Nat) (dn pend blk d : List UInt8) (h : WrAt w B (E :: X) b p q row dn pend) (hk : BkAt w E q blk) (hr : blk.length = r) (hr1 : 1 ≤ r) (hr2 : r ≤ 254) (hp : PrtS (dn ++ pend) d) (hl : (dn ++ pend).length ≤ 2 * d.length) (hd : d.length ≤ 65536) (hBE : B ≤ E) (hEX : E ∉ X) :
    Calls Try.prog 24 #[.agg #[.pointer (some ⟨E, 0, none⟩)]] w fun e w' => ClOut w B X b p q E (d ++ blk) e w' := by
  obtain ⟨junk, hE, hjl⟩ := hk
  rw [hr] at hE hjl
  rw [List.length_append] at hl
  obtain ⟨s, hs, hsX, h1, hE1, hk1, hh⟩ := boxed w B X b p q E row dn pend _ h hE hEX
  have Hs := Lib.hid hs
  have Hp := Lib.hid hp
  have Hl := Lib.hid hl
  have Hr := Lib.hid hr
  have Hjl := Lib.hid hjl
  have hne : E ≠ s := by simp at hsX; exact hsX.1
  have Hhr2 := Lib.hid hr2
  clear h hE hs hp hr hjl
  go_enter Try.func24, Try.ntmps24
  go_upto_region 1 with (fail)
  rw [← Hs.out]
  generalize w.alloc (.cells #[.pointer (some ⟨E, 0, none⟩)] 73) = w1 at *
  have d0 : w1.cell? ⟨s, 0, none⟩ = some (.pointer (some ⟨E, 0, none⟩)) := hh.cell 0
  have c11 : w1.cell? ⟨E, 11, none⟩ = some (.int .u8 (r : Int)) := by
    rw [hE1.cell, enc_at q (UInt8.ofNat r :: (blk ++ junk)) 0 (by simp)]
    show some (Value.int .u8 (((UInt8.ofNat r).toNat : Nat) : Int)) = _
    rw [u8_ofNat r (by omega)]
  have hx0 : ((r : Int) == 0) = false := by simp; omega
  have b1 : (r : Int) ≤ 254 := by omega
  have b2 : (0 : Int) ≤ (r : Int) := by omega
  have b4 : ((r : Int) + 1).toNat = r + 1 := by omega
  have b5 : (r : Int) + 1 < 256 := by omega
  have b6 : (0 : Int) ≤ (r : Int) + 1 := by omega
  have cu : ∃ u, w1.cell? ⟨E, 11 + (r + 1), none⟩ = some u := ⟨_, (hE1.cell _).trans (enc_at q _ (r + 1) (by have := Hjl.out; have := Hr.out; simp only [List.length_cons, List.length_append]; omega))⟩
  obtain ⟨u, cu⟩ := cu
  have fu : w1.frozen? ⟨E, 11 + (r + 1), none⟩ = false := hE1.frozen _
  have hE2 : Blk (w1.setCell ⟨E, 11 + (r + 1), none⟩ (.int .u8 0)) E 71 (encCells q (UInt8.ofNat r :: ((blk ++ [0]) ++ junk.drop 1))).toArray := by
    have h := hE1.set_ (11 + (r + 1)) (.int .u8 (((0 : UInt8).toNat : Nat) : Int))
    rw [put_byte q r _ blk junk 0 Hr.out (by have := Hjl.out; omega)] at h
    exact h
  have h2 := h1.far_ (k := E) (by simp) (11 + (r + 1)) (.int .u8 0)
  have hk2 := hk1.set_ hBE hEX (11 + (r + 1)) (.int .u8 0)
  have hh2 : Blk (w1.setCell ⟨E, 11 + (r + 1), none⟩ (.int .u8 0)) s 73 #[.pointer (some ⟨E, 0, none⟩)] := hh.far (fun e => hne e.symm) _
  have HE2 := Lib.hid hE2
  have H2 := Lib.hid h2
  have Hk2 := Lib.hid hk2
  have Hh2 := Lib.hid hh2
  clear hE1 h1 hk1 hh hE2 h2 hk2 hh2
  go_upto_region 5 with (fail)
  clear d0 c11 cu fu b4 b5 b6
  generalize w1.setCell ⟨E, 11 + (r + 1), none⟩ (.int .u8 0) = w2 at *
  have d0 : w2.cell? ⟨s, 0, none⟩ = some (.pointer (some ⟨E, 0, none⟩)) := Hh2.out.cell 0
  have hbl : (UInt8.ofNat r :: ((blk ++ [0]) ++ junk.drop 1)).length = 256 := by have := Hjl.out; have := Hr.out; simp only [List.length_append, List.length_drop, List.length_cons, List.length_nil]; omega
  have htk : (UInt8.ofNat r :: ((blk ++ [0]) ++ junk.drop 1)).take (r + 2) = UInt8.ofNat r :: (blk ++ [0]) := by
    rw [show r + 2 = (r + 1) + 1 by omega, List.take_succ_cons, List.take_append_of_le_length (by simp only [List.length_append, List.length_cons, List.length_nil]; have := Hr.out; omega), List.take_of_length_le (by simp only [List.length_append, List.length_cons, List.length_nil]; have := Hr.out; omega)]
  have hW := ewrite_any w2.drew B (s :: X) b p q E (r + 2) row dn pend _ H2.out.drew HE2.out hbl hBE hsX (by omega) (by omega) (by have := Hl.out; omega)
  rw [htk] at hW
  have hsl : ∀ wx : World, (Instr.sliceAt 69 (.pointer (some ⟨E, 11, none⟩)) none (some (.int .u64 ((r : Int) + 2))) none).run Try.prog wx = .ok (.slice (some ⟨E, 11, none⟩) (r + 2) 256) wx := fun wx => by
    have h := slice256 wx E 11 (r + 2) .u64 (by omega)
    rw [Int.natCast_add] at h
    exact h
  have p8 : IntKind.u64.wrap ((r : Int) + 2) = (r : Int) + 2 := by simp [IntKind.wrap, IntKind.signed, IntKind.bits]; omega
  have HW := Lib.hid hW
  clear hW htk hbl
  go_region_with (go_at_call 31; refine HW.out.mono ?_; rintro e w4 ⟨rfl, row4, dn4, pend4, hstr4, h4, hE4, hk4⟩; have hk4' := hk4.of_drew; have g0 : w4.cell? ⟨s, 0, none⟩ = some (.pointer (some ⟨E, 0, none⟩)) := (Hh2.out.kp hk4' (by simp)).cell 0; have hln : dn4.length + pend4.length = dn.length + pend.length + (r + 2) := (by have := congrArg List.length hstr4; have := Hr.out; simp only [List.length_append, List.length_cons, List.length_nil] at *; omega); have hF := eflush_any w4 B (s :: X) b p q E row4 dn4 pend4 _ h4 hE4 hBE hsX (by have := Hl.out; omega); have HF := Lib.hid hF; have Hln := Lib.hid hln; have Hstr4 := Lib.hid hstr4; have Hk4 := Lib.hid (Hk2.out.trans (hk4'.mono (fun y hy => by simp [hy]))); clear hstr4 h4 hE4 hk4 hk4' hF hln)
  all_goals
    go_wp2_with fail
    refine HF.out.mono ?_
    rintro e w5 ⟨rfl, row5, h5, hk5⟩
    have H5 := Lib.hid h5
    have Hk5 := Lib.hid (Hk4.out.trans (hk5.mono (fun y hy => by simp [hy])))
    clear h5 hk5
    go_wp2
    go_end0
    refine ⟨rfl, row5, dn4 ++ pend4, H5.out.less (fun y hy => by simp at hy ⊢; rcases hy with e | e <;> simp [e]), ?_, ?_, ?_, Hk5.out⟩
    · rw [Hstr4.out]
      have h := (Hp.out.block (k := r) (UInt8.ofNat r) (u8_ofNat r (by omega)) Hr.out (by omega)).end_
      simpa using h
    · rw [List.length_append]; have := Hln.out; omega
    · rw [List.length_append, List.length_append]; have := Hln.out; have := Hl.out; omega

theorem bclose_any (w : World) (B : Nat) (X : List Nat) (b p q E : Nat) (d : List UInt8) (h : SAt w B X b p q E d) (hd : d.length ≤ 65536) :
    Calls Try.prog 24 #[.agg #[.pointer (some ⟨E, 0, none⟩)]] w fun e w' => ClOut w B X b p q E d e w' := by
  obtain ⟨⟨row, dn, pend, blk, dd, hw, hk, hb, hp, rfl, hl⟩, hbe, hex⟩ := h
  rw [List.length_append] at hd
  by_cases h0 : blk.length = 0
  · obtain rfl : blk = [] := List.eq_nil_of_length_eq_zero h0
    rw [List.append_nil]
    exact bclose_none w B X b p q E row dn pend dd hw hk hp hl (by omega) hbe hex
  · exact bclose_some w B X b p q E blk.length row dn pend blk dd hw hk rfl (by omega) hb hp hl (by omega) hbe hex
end Go.Proofs.Ythlhcfjpijilaaa
