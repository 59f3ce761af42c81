/- (*gif.blockReader).fill at a whole block: the walk. -/
import Derived.Test.YthlhcfjpijilaaaDoorFillB
namespace Go.Proofs.YthlhcfjpijilaaaDoor
open Go Go.ChangeShapes Go.WideShapes Go.ChangeAt Go.RowKit Go.Lib

set_option maxRecDepth 100000 in
set_option maxHeartbeats 4000000 in
theorem fill_yes (w : World) (B : Nat) (a1 a2 : Addr) (K D R n c i bi bj : Nat) (A : Option Addr) (l tmp : List UInt8) (hE : BrEnv w B a1 a2 K D R A l n c) (hb : BrAt w K D R A n c i bi bj .nilIface tmp) (hz : i < n ∧ 0 < (l.getD i 0).toNat ∧ i + 1 + (l.getD i 0).toNat ≤ n) :
    Calls Tryd.prog 41 #[.pointer (some ⟨K, 0, none⟩)] w fun e w' => e = .returned (.tuple #[]) ∧
      ∃ i' bi' bj' ev' tmp', Filled a1 a2 l n i tmp i' bi' bj' ev' tmp' ∧ BrAt w' K D R A n c i' bi' bj' ev' tmp' ∧ Trn [R, D, K] w w' := by
  obtain ⟨⟨pr, hR⟩, hD, hK, ht⟩ := hb
  have c0 : w.cell? ⟨K, 0, none⟩ = some (.pointer (some ⟨D, 0, none⟩)) := hK.cell 0
  have c3 : w.cell? ⟨K, 3, none⟩ = some .nilIface := hK.cell 3
  have d0 : w.cell? ⟨D, 0, none⟩ = some (.iface 73 (.pointer (some ⟨R, 0, none⟩))) := hD.cell 0
  have qnr := eql_nil_right
  have qnn := eql_nil_nil
  have HE := Lib.hid hE
  have HR := Lib.hid hR
  have HD := Lib.hid hD
  have HK := Lib.hid hK
  have Ht := Lib.hid ht
  clear hE hR hD hK ht
  go_enter Tryd.func41, Tryd.ntmps41
  go_wp2_with fail
  refine (readbyte_any w B a1 a2 R n c i pr A l HE.out.s HE.out.br HR.out HE.out.a HE.out.l HE.out.nc HE.out.c).mono ?_
  rintro e w1 ⟨ht1, h1⟩
  have hs1 := HE.out.s.turns (ht1 R) HE.out.br HE.out.br HE.out.bw
  have q1 := hs1.g1
  have hK1 := HK.out.turns (ht1 R) HE.out.kr HE.out.kr
  have hD1 := HD.out.turns (ht1 R) HE.out.dr HE.out.dr
  have Ht1 := Lib.hid ((Trn.refl [R, D, K] w).two (ht1 R) (by simp) (by simp))
  clear ht1 c0 c3 d0
  have hKg : 5 ≤ K := Nat.le_trans HE.out.s.lb HE.out.bk
  have q2 : ∀ (u v : Value) (o o' : Nat), ((w1.setCell ⟨K, o, none⟩ u).setCell ⟨K, o', none⟩ v).cell? ⟨1, 0, none⟩ = some (errV a1) := fun u v o o' =>
    (World.cell?_setCell_other _ _ _ _ (fun e => by have := congrArg Addr.block e; simp only at this; omega)).trans ((World.cell?_setCell_other _ _ _ _ (fun e => by have := congrArg Addr.block e; simp only at this; omega)).trans q1)
  have c0 : w1.cell? ⟨K, 0, none⟩ = some (.pointer (some ⟨D, 0, none⟩)) := hK1.cell 0
  have c1 : w1.cell? ⟨K, 1, none⟩ = some (.int .u8 (bi : Int)) := hK1.cell 1
  have c2 : w1.cell? ⟨K, 2, none⟩ = some (.int .u8 (bj : Int)) := hK1.cell 2
  have c3 : w1.cell? ⟨K, 3, none⟩ = some .nilIface := hK1.cell 3
  have f1 : w1.frozen? ⟨K, 1, none⟩ = false := hK1.frozen 1
  have f2 : w1.frozen? ⟨K, 2, none⟩ = false := hK1.frozen 2
  have f3 : w1.frozen? ⟨K, 3, none⟩ = false := hK1.frozen 3
  have q3 : ∀ (p u v : Value), (((w1.setCell ⟨K, 2, none⟩ p).setCell ⟨K, 3, none⟩ u).setCell ⟨K, 3, none⟩ v).cell? ⟨K, 3, none⟩ = some v := fun p u v => (((hK1.set_ 2 p).set_ 3 u).set_ 3 v).cell 3
  have HK1 := Lib.hid hK1
  have HD1 := Lib.hid hD1
  clear hK1 hD1 hs1 q1
  rcases h1 with ⟨hin, rfl, hR1⟩ | ⟨hin, rfl, hR1⟩
  · exfalso; omega
  · have HB1 := Lib.hid (show BrAt w1 K D R A n c (i + 1) bi bj .nilIface tmp from ⟨⟨_, hR1⟩, HD1.out, HK1.out, Ht.out⟩)
    clear hR1
    obtain ⟨x, hx⟩ : ∃ x, x = (l.getD i 0).toNat := ⟨_, rfl⟩
    rw [← hx]
    have hx255 : x ≤ 255 := by rw [hx]; have := (l.getD i 0).toNat_lt; omega
    have Hx := Lib.hid hx
    clear hx
    have hxp : 0 < x := by rw [Hx.out]; exact hz.2.1
    have hx0 : ¬ x = 0 := by omega
    · have hx1 : ((x : Int) == 0) = false := by simp; omega
      go_wp2
      have hB2 : BrAt (((w1.setCell ⟨K, 2, none⟩ (.int .u8 (x : Int))).setCell ⟨K, 3, none⟩ .nilIface).setCell ⟨K, 1, none⟩ (.int .u8 0)) K D R A n c (i + 1) 0 x .nilIface tmp :=
        ((HB1.out.setJ HE.out.kd HE.out.kr x).setE HE.out.kd HE.out.kr .nilIface).setI HE.out.kd HE.out.kr 0
      have ht2 : Trn [R, D, K] w (((w1.setCell ⟨K, 2, none⟩ (.int .u8 (x : Int))).setCell ⟨K, 3, none⟩ .nilIface).setCell ⟨K, 1, none⟩ (.int .u8 0)) := ((Ht1.out.set_ (by simp) _ _).set_ (by simp) _ _).set_ (by simp) _ _
      clear q2 q3 c0 c1 c2 c3 f1 f2 f3 HB1 HK1 HD1 Ht1
      generalize ((w1.setCell ⟨K, 2, none⟩ (.int .u8 (x : Int))).setCell ⟨K, 3, none⟩ .nilIface).setCell ⟨K, 1, none⟩ (.int .u8 0) = w2 at *
      have hE2 := HE.out.trn ht2 (by have := HE.out.br; have := HE.out.bd; have := HE.out.bk; simp; omega)
      obtain ⟨⟨p2, hR2⟩, hD2, hK2, _⟩ := hB2
      have c0 : w2.cell? ⟨K, 0, none⟩ = some (.pointer (some ⟨D, 0, none⟩)) := hK2.cell 0
      have c2 : w2.cell? ⟨K, 2, none⟩ = some (.int .u8 (x : Int)) := hK2.cell 2
      have d0 : w2.cell? ⟨D, 0, none⟩ = some (.iface 73 (.pointer (some ⟨R, 0, none⟩))) := hD2.cell 0
      have hsl := fun (wx : World) => slice1024u wx D 15 x (by omega)
      have hfit : 15 + x ≤ (decCells R tmp).length := by have := Ht.out; simp [decCells, decPre, byteCells]; omega
      have hxm : x ≤ 1024 := by omega
      have HE2 := Lib.hid hE2
      have HR2 := Lib.hid hR2
      have HD2 := Lib.hid hD2
      have HK2 := Lib.hid hK2
      have Ht2 := Lib.hid ht2
      have hi1 : i + 1 ≤ n := by omega
      have hRD : R ≠ D := fun e => HE.out.dr e.symm
      clear hE2 hR2 hD2 hK2 ht2
      have hcall := full_any w2.drew B a1 a2 R D n c (i + 1) x 1024 15 p2 A (some ⟨D, 15, none⟩) l (decCells R tmp) 80 HE2.out.s.drew HR2.out HD2.out hRD HE.out.br HE.out.bd HE2.out.a HE.out.l hi1 HE.out.nc HE.out.c hxm (by decide) (fun _ => rfl) hfit
      have Hcall := Lib.hid hcall
      clear hcall
      have hfx : x ≤ n - (i + 1) := by rw [Hx.out]; omega
      have HEE := Lib.hid (show fullErr a2 (n - (i + 1)) x = .nilIface from if_pos hfx)
      go_region_with (go_at_call 32; refine Hcall.out.mono ?_; rintro e w3 ⟨rfl, ⟨p3, hR3⟩, hD3, ht3⟩; rw [HEE.out]; have hK3 := Blk.turns (a := w2.drew) HK2.out ht3 HE.out.kr HE.out.kd; have f3 : w3.frozen? ⟨K, 3, none⟩ = false := hK3.frozen 3; have k3 : w3.cell? ⟨K, 3, none⟩ = some .nilIface := hK3.cell 3; have HR3 := Lib.hid hR3; have HD3 := Lib.hid hD3; have Ht3 := Lib.hid ht3; have HK3 := Lib.hid hK3; clear hR3 hD3 ht3 hK3)
      all_goals
        have hB3 : BrAt w3 K D R A n c (i + 1 + Nat.min (n - (i + 1)) x) 0 x .nilIface (over tmp ((l.drop (i + 1)).take (Nat.min (n - (i + 1)) x))) := by
          refine ⟨⟨_, HR3.out⟩, ?_, HK3.out, ?_⟩
          · have h := HD3.out
            rw [dec_splice] at h
            exact h
          · rw [over_length _ _ (by rw [Ht.out]; exact Nat.le_trans (List.length_take_le _ _) (Nat.le_trans (Nat.min_le_right _ _) hxm)), Ht.out]
        have HB3 := Lib.hid hB3
        have HT3 := Lib.hid (Ht2.out.two (show Turns2 R D w2 w3 from ⟨Ht3.out.os, Ht3.out.tape, Ht3.out.output, Ht3.out.size, Ht3.out.block⟩) (by simp) (by simp))
        clear hB3 HR3 HD3 Ht3
        have k2 : w3.cell? ⟨K, 2, none⟩ = some (.int .u8 (x : Int)) := HK3.out.cell 2
        have g2 : w3.frozen? ⟨K, 2, none⟩ = false := HK3.out.frozen 2
        have hm : Nat.min (n - (i + 1)) x = x := Nat.min_eq_right hfx
        rw [hm] at HB3
        go_wp2
        (try simp only [Exit.inBlock, Exit.then]); first | (refine bodyPost_end (results_none rfl _ _ _) rfl ?_) | (refine bodyPost_ret (results_none rfl _ _ _) rfl ?_)
        exact ⟨rfl, i + 1 + x, 0, x, .nilIface, _, Or.inr (Or.inr (Or.inr ⟨hin, by rw [← Hx.out]; omega, by rw [← Hx.out]; omega, rfl, by rw [← Hx.out], rfl, Hx.out, by rw [← Hx.out]⟩)), HB3.out.setE HE.out.kd HE.out.kr .nilIface, HT3.out.set_ (by simp) _ _⟩
end Go.Proofs.YthlhcfjpijilaaaDoor
