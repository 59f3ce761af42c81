/- (*gif.blockReader).fill at the end, and at a nought: the walk. -/
import Derived.Test.YthlhcfjpijilaaaDoorFillB
namespace Go.Proofs.YthlhcfjpijilaaaDoor
open Go Go.ChangeShapes Go.WideShapes Go.ChangeAt Go.RowKit Go.Lib

set_option maxRecDepth 100000 in
set_option maxHeartbeats 4000000 in
theorem fill_rest (w : World) (B : Nat) (a1 a2 : Addr) (K D R n c i bi bj : Nat) (A : Option Addr) (l tmp : List UInt8) (hE : BrEnv w B a1 a2 K D R A l n c) (hb : BrAt w K D R A n c i bi bj .nilIface tmp) (hn : i ≤ n) (hz : n ≤ i ∨ (l.getD i 0).toNat = 0) :
    Calls Tryd.prog 41 #[.pointer (some ⟨K, 0, none⟩)] w fun e w' => e = .returned (.tuple #[]) ∧
      ∃ i' bi' bj' ev' tmp', Filled a1 a2 l n i tmp i' bi' bj' ev' tmp' ∧ BrAt w' K D R A n c i' bi' bj' ev' tmp' ∧ Trn [R, D, K] w w' := by
  obtain ⟨⟨pr, hR⟩, hD, hK, ht⟩ := hb
  have c0 : w.cell? ⟨K, 0, none⟩ = some (.pointer (some ⟨D, 0, none⟩)) := hK.cell 0
  have c3 : w.cell? ⟨K, 3, none⟩ = some .nilIface := hK.cell 3
  have d0 : w.cell? ⟨D, 0, none⟩ = some (.iface 73 (.pointer (some ⟨R, 0, none⟩))) := hD.cell 0
  have qnr := eql_nil_right
  have qnn := eql_nil_nil
  have HE := Lib.hid hE
  have HR := Lib.hid hR
  have HD := Lib.hid hD
  have HK := Lib.hid hK
  have Ht := Lib.hid ht
  clear hE hR hD hK ht
  go_enter Tryd.func41, Tryd.ntmps41
  go_wp2_with fail
  refine (readbyte_any w B a1 a2 R n c i pr A l HE.out.s HE.out.br HR.out HE.out.a HE.out.l HE.out.nc HE.out.c).mono ?_
  rintro e w1 ⟨ht1, h1⟩
  have hs1 := HE.out.s.turns (ht1 R) HE.out.br HE.out.br HE.out.bw
  have q1 := hs1.g1
  have hK1 := HK.out.turns (ht1 R) HE.out.kr HE.out.kr
  have hD1 := HD.out.turns (ht1 R) HE.out.dr HE.out.dr
  have Ht1 := Lib.hid ((Trn.refl [R, D, K] w).two (ht1 R) (by simp) (by simp))
  clear ht1 c0 c3 d0
  have hKg : 5 ≤ K := Nat.le_trans HE.out.s.lb HE.out.bk
  have q2 : ∀ (u v : Value) (o o' : Nat), ((w1.setCell ⟨K, o, none⟩ u).setCell ⟨K, o', none⟩ v).cell? ⟨1, 0, none⟩ = some (errV a1) := fun u v o o' =>
    (World.cell?_setCell_other _ _ _ _ (fun e => by have := congrArg Addr.block e; simp only at this; omega)).trans ((World.cell?_setCell_other _ _ _ _ (fun e => by have := congrArg Addr.block e; simp only at this; omega)).trans q1)
  have c0 : w1.cell? ⟨K, 0, none⟩ = some (.pointer (some ⟨D, 0, none⟩)) := hK1.cell 0
  have c1 : w1.cell? ⟨K, 1, none⟩ = some (.int .u8 (bi : Int)) := hK1.cell 1
  have c2 : w1.cell? ⟨K, 2, none⟩ = some (.int .u8 (bj : Int)) := hK1.cell 2
  have c3 : w1.cell? ⟨K, 3, none⟩ = some .nilIface := hK1.cell 3
  have f1 : w1.frozen? ⟨K, 1, none⟩ = false := hK1.frozen 1
  have f2 : w1.frozen? ⟨K, 2, none⟩ = false := hK1.frozen 2
  have f3 : w1.frozen? ⟨K, 3, none⟩ = false := hK1.frozen 3
  have q3 : ∀ (p u v : Value), (((w1.setCell ⟨K, 2, none⟩ p).setCell ⟨K, 3, none⟩ u).setCell ⟨K, 3, none⟩ v).cell? ⟨K, 3, none⟩ = some v := fun p u v => (((hK1.set_ 2 p).set_ 3 u).set_ 3 v).cell 3
  have HK1 := Lib.hid hK1
  have HD1 := Lib.hid hD1
  clear hK1 hD1 hs1 q1
  rcases h1 with ⟨hin, rfl, hR1⟩ | ⟨hin, rfl, hR1⟩
  · have HB1 := Lib.hid (show BrAt w1 K D R A n c i bi bj .nilIface tmp from ⟨⟨_, hR1⟩, HD1.out, HK1.out, Ht.out⟩)
    clear hR1
    go_wp2
    (try simp only [Exit.inBlock, Exit.then]); refine bodyPost_ret (results_none rfl _ _ _) rfl ?_
    exact ⟨rfl, i, bi, 0, errV a2, tmp, Or.inl ⟨hin, rfl, hn⟩, (HB1.out.setJ HE.out.kd HE.out.kr 0).setE HE.out.kd HE.out.kr _, (Ht1.out.set_ (by simp) _ _).set_ (by simp) _ _⟩
  · have HB1 := Lib.hid (show BrAt w1 K D R A n c (i + 1) bi bj .nilIface tmp from ⟨⟨_, hR1⟩, HD1.out, HK1.out, Ht.out⟩)
    clear hR1
    obtain ⟨x, hx⟩ : ∃ x, x = (l.getD i 0).toNat := ⟨_, rfl⟩
    rw [← hx]
    have hx255 : x ≤ 255 := by rw [hx]; have := (l.getD i 0).toNat_lt; omega
    have Hx := Lib.hid hx
    clear hx
    by_cases hx0 : x = 0
    · subst hx0
      go_wp2
      (try simp only [Exit.inBlock, Exit.then]); refine bodyPost_ret (results_none rfl _ _ _) rfl ?_
      exact ⟨rfl, i + 1, bi, 0, errV a1, tmp, Or.inr (Or.inl ⟨hin, Hx.out.symm, rfl, rfl⟩), ((HB1.out.setJ HE.out.kd HE.out.kr 0).setE HE.out.kd HE.out.kr _).setE HE.out.kd HE.out.kr _, ((Ht1.out.set_ (by simp) _ _).set_ (by simp) _ _).set_ (by simp) _ _⟩
    · exfalso; rcases hz with h | h
      · omega
      · exact hx0 (Hx.out.trans h)
end Go.Proofs.YthlhcfjpijilaaaDoor
