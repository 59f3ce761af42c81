/- The package's blockWriter over an encoder at work: what it holds; setup, WriteByte: the walks. -/
import Derived.Test.YthlhcfjpijilaaaEnc
namespace Go.Proofs.Ythlhcfjpijilaaa
open Go Go.ChangeShapes Go.WideShapes Go.ChangeAt Go.RowKit Go.Lib

/-- The encoder's buffer holds a block in the making: its length, its bytes. -/
def BkAt (w : World) (E q : Nat) (blk : List UInt8) : Prop := ∃ junk : List UInt8, Blk w E 71 (encCells q (UInt8.ofNat blk.length :: (blk ++ junk))).toArray ∧ blk.length + junk.length = 255

theorem slice256 (w : World) (g off N : Nat) (kd : IntKind) (hN : N ≤ 256) :
    (Instr.sliceAt 69 (.pointer (some ⟨g, off, none⟩)) none (some (.int kd (N : Int))) none).run Try.prog w = .ok (.slice (some ⟨g, off, none⟩) N 256) w := by
  have h := run_sliceAt_array_h (P := Try.prog) (w := w) (a := ⟨g, off, none⟩) (t := 69) (by kernel_rfl) kd (N : Int) (by omega) (by rw [show Try.prog.arrayLen 69 = 256 from by kernel_rfl]; omega)
  rw [h]
  have hs : (Go.sizeOf (Try.prog.elem 69)).run Try.prog w = .ok 1 w := by kernel_rfl
  have hl : Try.prog.arrayLen 69 = 256 := by kernel_rfl
  rw [hs, hl]
  simp [slicedAt, Result.andThen, Addr.add]

theorem u8_ofNat (r : Nat) (h : r ≤ 255) : (UInt8.ofNat r).toNat = r := by rw [UInt8.toNat_ofNat']; omega

/-- The block's length grows. -/
theorem put_len (q r : Nat) (t : List UInt8) (hr2 : r ≤ 254) :
    (encCells q (UInt8.ofNat r :: t)).toArray.setIfInBounds 11 (.int .u8 ((r : Int) + 1)) = (encCells q (UInt8.ofNat (r + 1) :: t)).toArray := by
  have e1 := enc_set q (UInt8.ofNat r :: t) 0 (UInt8.ofNat (r + 1)) (by simp)
  rw [u8_ofNat (r + 1) (by omega), Int.natCast_add] at e1
  exact e1
/-- A byte goes into the block. -/
theorem put_byte (q r : Nat) (k : UInt8) (blk junk : List UInt8) (x : UInt8) (hr : blk.length = r) (hj : 0 < junk.length) :
    (encCells q (k :: (blk ++ junk))).toArray.setIfInBounds (11 + (r + 1)) (.int .u8 (x.toNat : Int)) = (encCells q (k :: ((blk ++ [x]) ++ junk.drop 1))).toArray := by
  rw [enc_set q (k :: (blk ++ junk)) (r + 1) x (by simp only [List.length_cons, List.length_append]; omega), List.set_cons_succ]
  cases junk with
  | nil => simp at hj
  | cons j js =>
    rw [List.set_append_right _ _ (by omega), hr, Nat.sub_self]
    simp

set_option maxRecDepth 100000 in
theorem setup_any (w : World) (B : Nat) (X : List Nat) (b p q E : Nat) (row : List Nat) (dn pend : List UInt8) (h : WrAt w B (E :: X) b p q row dn pend) (hE : Blk w E 71 (encCells q (List.replicate 256 0)).toArray) (hBE : B ≤ E) (hEX : E ∉ X) :
    Calls Try.prog 22 #[.agg #[.pointer (some ⟨E, 0, none⟩)]] w fun e w' => e = .returned (.tuple #[]) ∧ WrAt w' B (E :: X) b p q row dn pend ∧ BkAt w' E q [] ∧ Kp B X w w' := by
  have hlt := (h.hx E (by simp)).1
  have c11 : w.cell? ⟨E, 11, none⟩ = some (.int .u8 0) := (hE.cell 11).trans (enc_at q (List.replicate 256 0) 0 (by simp))
  have f11 : w.frozen? ⟨E, 11, none⟩ = false := hE.frozen 11
  have h1 := ((h.far_ (k := E) (by simp) 11 (.int .u8 0)).alloc (.cells #[.pointer (some ⟨E, 0, none⟩)] 73)).less (Y := E :: X) (fun _ hy => List.mem_cons_of_mem _ hy)
  have hk1 := ((Kp.refl B X w).set_ hBE hEX 11 (.int .u8 0)).alloc (.cells #[.pointer (some ⟨E, 0, none⟩)] 73)
  have hs := (hE.set_ 11 (.int .u8 0)).alloc (.cells #[.pointer (some ⟨E, 0, none⟩)] 73)
  have e1 : (encCells q (List.replicate 256 0)).toArray.setIfInBounds 11 (.int .u8 0) = (encCells q (0 :: ([] ++ List.replicate 255 0))).toArray := enc_set q (List.replicate 256 0) 0 0 (by simp)
  rw [e1] at hs
  have H1 := Lib.hid h1
  have Hk1 := Lib.hid hk1
  have Hs := Lib.hid hs
  clear h hE h1 hk1 hs e1
  go_enter Try.func22, Try.ntmps22
  go_wp2
  go_end0
  exact ⟨rfl, H1.out, ⟨List.replicate 255 0, Hs.out, by simp⟩, Hk1.out⟩

/-- What WriteByte leaves. -/
def BbOut (w : World) (B : Nat) (X : List Nat) (b p q E : Nat) (blk str : List UInt8) (x : UInt8) (e : Ending) (w' : World) : Prop :=
  e = .returned .nilIface ∧ ∃ row' dn' pend' blk', WrAt w' B (E :: X) b p q row' dn' pend' ∧ BkAt w' E q blk' ∧ Kp B X w w' ∧
    ((blk.length + 1 < 255 ∧ dn' ++ pend' = str ∧ blk' = blk ++ [x]) ∨ (blk.length + 1 = 255 ∧ dn' ++ pend' = str ++ (255 :: (blk ++ [x])) ∧ blk' = []))

set_option maxRecDepth 100000 in
set_option maxHeartbeats 8000000 in
theorem bbyte_any (w : World) (B : Nat) (X : List Nat) (b p q E r : Nat) (row : List Nat) (dn pend blk : List UInt8) (x : UInt8) (h : WrAt w B (E :: X) b p q row dn pend) (hk : BkAt w E q blk) (hr : blk.length = r) (hr2 : r ≤ 254) (hBE : B ≤ E) (hEX : E ∉ X) (hlim : dn.length + pend.length + 256 ≤ 16777216) :
    Calls Try.prog 29 #[.agg #[.pointer (some ⟨E, 0, none⟩)], .int .u8 (x.toNat : Int)] w fun e w' => BbOut w B X b p q E blk (dn ++ pend) x e w' := by
  obtain ⟨junk, hE, hjl⟩ := hk
  rw [hr] at hE hjl
  have qnn := weql_nil_nil
  have hlt := (h.hx E (by simp)).1
  have hBw : B ≤ w.heap.size := by omega
  have hE1 := hE.alloc (.cells #[.pointer (some ⟨E, 0, none⟩)] 73)
  have h1 := (h.alloc (.cells #[.pointer (some ⟨E, 0, none⟩)] 73)).less (Y := E :: w.heap.size :: X) (fun y hy => by simp at hy ⊢; rcases hy with e | e | e <;> simp [e])
  have hk1 : Kp B X w (w.alloc (.cells #[.pointer (some ⟨E, 0, none⟩)] 73)) := (Kp.refl _ _ _).alloc _
  have hh := Blk.new w 73 #[.pointer (some ⟨E, 0, none⟩)]
  have hne : E ≠ w.heap.size := by omega
  obtain ⟨s, hs⟩ : ∃ s, s = w.heap.size := ⟨_, rfl⟩
  rw [← hs] at h1 hh hne
  have Hs := Lib.hid hs
  obtain ⟨xv, hxv⟩ : ∃ xv : Nat, xv = x.toNat := ⟨_, rfl⟩
  have Hxv := Lib.hid hxv
  have Hr := Lib.hid hr
  have Hjl := Lib.hid hjl
  rw [← hxv]
  clear h hE hxv hr hjl hs
  go_enter Try.func29, Try.ntmps29
  go_upto_region 1 with (fail)
  rw [← Hs.out]
  generalize w.alloc (.cells #[.pointer (some ⟨E, 0, none⟩)] 73) = w1 at *
  have d0 : w1.cell? ⟨s, 0, none⟩ = some (.pointer (some ⟨E, 0, none⟩)) := hh.cell 0
  have c1 : w1.cell? ⟨E, 1, none⟩ = some .nilIface := hE1.cell 1
  have c11 : w1.cell? ⟨E, 11, none⟩ = some (.int .u8 (r : Int)) := by
    rw [hE1.cell, enc_at q (UInt8.ofNat r :: (blk ++ junk)) 0 (by simp)]
    show some (Value.int .u8 (((UInt8.ofNat r).toNat : Nat) : Int)) = _
    rw [u8_ofNat r (by omega)]
  have f11 : w1.frozen? ⟨E, 11, none⟩ = false := hE1.frozen 11
  have b1 : (r : Int) ≤ 254 := by omega
  have b2 : IntKind.u8.wrap ((r : Int) + 1) = (r : Int) + 1 := by simp [IntKind.wrap, IntKind.signed, IntKind.bits]; omega
  have b3 : (0 : Int) ≤ (r : Int) + 1 := by omega
  have b4 : ((r : Int) + 1).toNat = r + 1 := by omega
  have HE1 := Lib.hid hE1
  have H1 := Lib.hid h1
  have Hk1 := Lib.hid hk1
  have Hh := Lib.hid hh
  clear hE1 h1 hk1 hh
  go_wp2
  go_region
  all_goals
    have hE2 : Blk ((w1.setCell ⟨E, 11, none⟩ (.int .u8 ((r : Int) + 1))).drew) E 71 (encCells q (UInt8.ofNat (r + 1) :: (blk ++ junk))).toArray := by
      have h := HE1.out.set_ 11 (.int .u8 ((r : Int) + 1))
      rw [put_len q r _ hr2] at h
      exact h
    have h2 := (H1.out.far_ (k := E) (by simp) 11 (.int .u8 ((r : Int) + 1))).drew
    have hk2 := (Hk1.out.set_ hBE hEX 11 (.int .u8 ((r : Int) + 1))).drew
    have hh2 : Blk ((w1.setCell ⟨E, 11, none⟩ (.int .u8 ((r : Int) + 1))).drew) s 73 #[.pointer (some ⟨E, 0, none⟩)] := Hh.out.far (fun e => hne e.symm) _
    clear d0 c1 c11 f11 HE1 H1 Hk1 Hh
    go_upto_region 4 with (fail)
    generalize (w1.setCell ⟨E, 11, none⟩ (.int .u8 ((r : Int) + 1))).drew = w2 at *
    have d0 : w2.cell? ⟨s, 0, none⟩ = some (.pointer (some ⟨E, 0, none⟩)) := hh2.cell 0
    have c11 : w2.cell? ⟨E, 11, none⟩ = some (.int .u8 ((r : Int) + 1)) := by
      rw [hE2.cell, enc_at q (UInt8.ofNat (r + 1) :: (blk ++ junk)) 0 (by simp)]
      show some (Value.int .u8 (((UInt8.ofNat (r + 1)).toNat : Nat) : Int)) = _
      rw [u8_ofNat (r + 1) (by omega)]
      rfl
    have hlen : (UInt8.ofNat (r + 1) :: (blk ++ junk)).length = 256 := by have := Hjl.out; have := Hr.out; simp only [List.length_cons, List.length_append]; omega
    have cu : ∃ u, w2.cell? ⟨E, 11 + (r + 1), none⟩ = some u := ⟨_, (hE2.cell _).trans (enc_at q _ (r + 1) (by rw [hlen]; omega))⟩
    obtain ⟨u, cu⟩ := cu
    have fu : w2.frozen? ⟨E, 11 + (r + 1), none⟩ = false := hE2.frozen _
    have b5 : (r : Int) + 1 < 256 := by omega
    have hE3 : Blk (w2.setCell ⟨E, 11 + (r + 1), none⟩ (.int .u8 (xv : Int))).drew E 71 (encCells q (UInt8.ofNat (r + 1) :: ((blk ++ [x]) ++ junk.drop 1))).toArray := by
      have h := hE2.set_ (11 + (r + 1)) (.int .u8 (x.toNat : Int))
      rw [put_byte q r _ blk junk x Hr.out (by have := Hjl.out; omega)] at h
      rw [Hxv.out]
      exact h
    have h3 := (h2.far_ (k := E) (by simp) (11 + (r + 1)) (.int .u8 (xv : Int))).drew
    have hk3 := (hk2.set_ hBE hEX (11 + (r + 1)) (.int .u8 (xv : Int))).drew
    have hh3 : Blk ((w2.setCell ⟨E, 11 + (r + 1), none⟩ (.int .u8 (xv : Int))).drew) s 73 #[.pointer (some ⟨E, 0, none⟩)] := hh2.far (fun e => hne e.symm) _
    have HE3 := Lib.hid hE3
    have H3 := Lib.hid h3
    have Hk3 := Lib.hid hk3
    have Hh3 := Lib.hid hh3
    clear hE2 h2 hk2 hh2 hE3 h3 hk3 hh3 hlen
    go_region
    all_goals
      go_upto_region 5 with (fail)
      clear d0 c11 cu fu b1 b2 b3 b4
      generalize (w2.setCell ⟨E, 11 + (r + 1), none⟩ (.int .u8 (xv : Int))).drew = w3 at *
      have d0 : w3.cell? ⟨s, 0, none⟩ = some (.pointer (some ⟨E, 0, none⟩)) := Hh3.out.cell 0
      have c1 : w3.cell? ⟨E, 1, none⟩ = some .nilIface := HE3.out.cell 1
      have c11 : w3.cell? ⟨E, 11, none⟩ = some (.int .u8 ((r : Int) + 1)) := by
        rw [HE3.out.cell, enc_at q (UInt8.ofNat (r + 1) :: ((blk ++ [x]) ++ junk.drop 1)) 0 (by simp)]
        show some (Value.int .u8 (((UInt8.ofNat (r + 1)).toNat : Nat) : Int)) = _
        rw [u8_ofNat (r + 1) (by omega)]
        rfl
      have hbk : BkAt w3 E q (blk ++ [x]) := ⟨junk.drop 1, by rw [List.length_append, Hr.out]; exact HE3.out, by have := Hjl.out; have := Hr.out; simp only [List.length_append, List.length_drop, List.length_cons, List.length_nil]; omega⟩
      have Hbk := Lib.hid hbk
      clear hbk
      by_cases hlt2 : r + 1 < 255
      · have hd : decide ((r : Int) + 1 < 255) = true := by simp; omega
        go_wp2
        go_ret
        exact ⟨rfl, row, dn, pend, blk ++ [x], H3.out.less (fun y hy => by simp at hy ⊢; rcases hy with e | e <;> simp [e]), Hbk.out, Hk3.out, Or.inl ⟨by rw [Hr.out]; exact hlt2, rfl, rfl⟩⟩
      · obtain rfl : r = 254 := by omega
        have hd : decide (((254 : Nat) : Int) + 1 < 255) = false := by decide
        have hsl := fun (wx : World) => slice256 wx E 11 256 .i64 (Nat.le_refl _)
        have hbl : (UInt8.ofNat (254 + 1) :: ((blk ++ [x]) ++ junk.drop 1)).length = 256 := by have := Hjl.out; have := Hr.out; simp only [List.length_append, List.length_drop, List.length_cons, List.length_nil]; omega
        have htk : (UInt8.ofNat (254 + 1) :: ((blk ++ [x]) ++ junk.drop 1)).take 256 = 255 :: (blk ++ [x]) := by
          rw [List.take_of_length_le (by rw [hbl]; exact Nat.le_refl _)]
          have hj : junk.drop 1 = [] := List.drop_eq_nil_of_le (by have := Hjl.out; omega)
          rw [hj, List.append_nil]
          rfl
        have hsX : E ∉ s :: X := by simp; exact ⟨hne, hEX⟩
        have hW := ewrite_any w3.drew B (s :: X) b p q E 256 row dn pend _ H3.out.drew HE3.out hbl hBE hsX (by omega) (Nat.le_refl _) (by omega)
        rw [htk] at hW
        have HW := Lib.hid hW
        have Hbl := Lib.hid hbl
        clear hW htk hbl
        go_upto_region 7 with (fail)
        go_region_with (go_at_call 31; refine HW.out.mono ?_; rintro e w4 ⟨rfl, row4, dn4, pend4, hstr4, h4, hE4, hk4⟩; have hk4' := hk4.of_drew; have hh4 : Blk w4 s 73 #[.pointer (some ⟨E, 0, none⟩)] := Hh3.out.kp hk4' (by simp); have g0 : w4.cell? ⟨s, 0, none⟩ = some (.pointer (some ⟨E, 0, none⟩)) := hh4.cell 0; have g1 : w4.cell? ⟨E, 1, none⟩ = some .nilIface := hE4.cell 1; have g11 : ∃ u, w4.cell? ⟨E, 11, none⟩ = some u := ⟨_, (hE4.cell _).trans (enc_at q _ 0 (by simp))⟩; obtain ⟨u4, g11⟩ := g11; have gf : w4.frozen? ⟨E, 11, none⟩ = false := hE4.frozen 11; have Hstr4 := Lib.hid hstr4; have H4 := Lib.hid h4; have HE4 := Lib.hid hE4; have Hk4 := Lib.hid hk4'; clear hstr4 h4 hE4 hk4 hk4' hh4)
        all_goals
          go_wp2
          go_ret
          have hE5 := HE4.out.set_ 11 (.int .u8 (((0 : UInt8).toNat : Nat) : Int))
          have e5 : (encCells q (UInt8.ofNat (254 + 1) :: ((blk ++ [x]) ++ junk.drop 1))).toArray.setIfInBounds 11 (.int .u8 (((0 : UInt8).toNat : Nat) : Int)) = (encCells q (0 :: ([] ++ ((blk ++ [x]) ++ junk.drop 1)))).toArray := enc_set q _ 0 0 (by simp)
          rw [e5] at hE5
          refine ⟨rfl, row4, dn4, pend4, [], (H4.out.far_ (k := E) (by simp) 11 _).less (fun y hy => by simp at hy ⊢; rcases hy with e | e <;> simp [e]), ⟨_, hE5, by have h1 := Hbl.out; rw [List.length_cons] at h1; rw [List.length_nil]; omega⟩, (Hk3.out.trans (Hk4.out.mono (fun y hy => by simp [hy]))).set_ hBE hEX _ _, Or.inr ⟨by rw [Hr.out], Hstr4.out, rfl⟩⟩
end Go.Proofs.Ythlhcfjpijilaaa
