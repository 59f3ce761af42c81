/- A bufio.Writer over a bytes.Buffer that the call has made: WriteByte: the walk. -/
import Derived.Test.YthlhcfjpijilaaaBioW
namespace Go.Proofs.Ythlhcfjpijilaaa
open Go Go.ChangeShapes Go.WideShapes Go.ChangeAt Go.RowKit Go.Lib

theorem set_pend (pend junk : List UInt8) (x : UInt8) (h : 0 < junk.length) : (byteCells (pend ++ junk)).toArray.setIfInBounds pend.length (.int .u8 (x.toNat : Int)) = (byteCells ((pend ++ [x]) ++ junk.drop 1)).toArray := by
  cases junk with
  | nil => simp at h
  | cons j js =>
    rw [List.setIfInBounds_toArray]
    congr 1
    unfold byteCells
    rw [List.map_append, List.set_append_right _ _ (by simp)]
    simp

/-- A byte is laid behind those that the buffer holds. -/
theorem put_fit (w : World) (B : Nat) (X : List Nat) (b p q k : Nat) (row : List Nat) (dn pend : List UInt8) (x : UInt8) (h : WrAt w B X b p q row dn pend) (hk : pend.length = k) (hk4 : k < 4096) :
    ∃ u, w.cell? ⟨p, k, none⟩ = some u ∧ w.frozen? ⟨p, k, none⟩ = false ∧ WrAt ((w.setCell ⟨p, k, none⟩ (.int .u8 (x.toNat : Int))).setCell ⟨q, 2, none⟩ (.int .i64 ((k : Int) + 1))) B X b p q row dn (pend ++ [x]) ∧ Kp B X w ((w.setCell ⟨p, k, none⟩ (.int .u8 (x.toNat : Int))).setCell ⟨q, 2, none⟩ (.int .i64 ((k : Int) + 1))) := by
  obtain ⟨junk, hp1, hp2⟩ := h.hp
  have hjl : junk.length = 4096 - k := by rw [List.length_append] at hp2; omega
  have hc : ∃ u, w.cell? ⟨p, k, none⟩ = some u := by
    rw [hp1.cell, List.getElem?_toArray]
    exact ⟨_, List.getElem?_eq_getElem (by rw [byteCells_length, hp2]; exact hk4)⟩
  obtain ⟨u, hu⟩ := hc
  have hs := set_pend pend junk x (by omega)
  rw [hk] at hs
  have hset := hp1.set_ k (.int .u8 (x.toNat : Int))
  rw [hs] at hset
  have hfin := h.laid (w3 := w.setCell ⟨p, k, none⟩ (.int .u8 (x.toNat : Int))) (n := k + 1) [x] (grownBy_setCell (grownBy_refl w (some p)) (Or.inl rfl) _) (by rw [hk]; rfl) ⟨junk.drop 1, hset, by simp only [List.length_append, List.length_drop, List.length_cons, List.length_nil]; omega⟩ h.hq
  exact ⟨u, hu, hp1.frozen k, hfin.1, hfin.2⟩

set_option maxRecDepth 100000 in
set_option maxHeartbeats 4000000 in
theorem bwb_fit (w : World) (B : Nat) (X : List Nat) (b p q k : Nat) (row : List Nat) (dn pend : List UInt8) (x : UInt8) (h : WrAt w B X b p q row dn pend) (hk : pend.length = k) (hk4 : k < 4096) :
    Calls Try.prog 55 #[.pointer (some ⟨q, 0, none⟩), .int .u8 (x.toNat : Int)] w fun e w' => WoOut w B X b p q (dn ++ pend ++ [x]) .nilIface e w' := by
  obtain ⟨xv, hxv⟩ : ∃ xv : Nat, xv = x.toNat := ⟨_, rfl⟩
  have hq := h.hq
  rw [hk] at hq
  have qnn := weql_nil_nil
  have hA := avail_any w q p b k hq (by omega)
  have c0 : w.cell? ⟨q, 0, none⟩ = some .nilIface := hq.cell 0
  have hd : decide ((4096 : Int) - (k : Int) ≤ 0) = false := by simp; omega
  have b1 : (k : Int) < 4096 := by omega
  have b2 : (0 : Int) ≤ (k : Int) := by omega
  have H := Lib.hid h
  have Hq := Lib.hid hq
  have Hk := Lib.hid hk
  have Hxv := Lib.hid hxv
  rw [← hxv]
  clear h hq hk hxv
  go_enter Try.func55, Try.ntmps55
  go_wp2_with fail
  refine hA.mono ?_
  rintro e w1 ⟨rfl, j, rfl⟩
  have h2 := H.out.drewN j
  have hkp : Kp B X w (w.drewN j) := (Kp.refl _ _ _).drewN j
  clear hA c0
  generalize w.drewN j = w2 at *
  have hq2 := h2.hq
  rw [Hk.out] at hq2
  obtain ⟨u, hu, hf, hw, hk2⟩ := put_fit w2 B X b p q k row dn pend x h2 Hk.out hk4
  rw [← Hxv.out] at hw hk2
  have c1 : w2.cell? ⟨q, 1, none⟩ = some (.slice (some ⟨p, 0, none⟩) 4096 4096) := hq2.cell 1
  have c2 : w2.cell? ⟨q, 2, none⟩ = some (.int .i64 (k : Int)) := hq2.cell 2
  have f2 : w2.frozen? ⟨q, 2, none⟩ = false := hq2.frozen 2
  have c2' : ∀ v, (w2.setCell ⟨p, k, none⟩ v).cell? ⟨q, 2, none⟩ = some (.int .i64 (k : Int)) := fun v => (World.cell?_setCell_other _ _ _ _ (fun e => by have := congrArg Addr.block e; exact h2.pq this)).trans c2
  have f2' : ∀ v, (w2.setCell ⟨p, k, none⟩ v).frozen? ⟨q, 2, none⟩ = false := fun v => (hq2.far (p := ⟨p, k, none⟩) (fun e => h2.pq e.symm) v).frozen 2
  have Hw := Lib.hid hw
  have Hkp := Lib.hid (hkp.trans hk2)
  clear h2 hq2 hw hkp hk2
  go_wp2
  go_region
  all_goals
    go_wp2
    go_ret
    exact ⟨rfl, row, dn, pend ++ [x], by rw [List.append_assoc], Hw.out.drew, Hkp.out.drew⟩

set_option maxRecDepth 100000 in
set_option maxHeartbeats 4000000 in
theorem bwb_full (w : World) (B : Nat) (X : List Nat) (b p q : Nat) (row : List Nat) (dn pend : List UInt8) (x : UInt8) (h : WrAt w B X b p q row dn pend) (hBw : B ≤ w.heap.size) (hk : pend.length = 4096) (hlim : dn.length + 4096 ≤ 16777216) :
    Calls Try.prog 55 #[.pointer (some ⟨q, 0, none⟩), .int .u8 (x.toNat : Int)] w fun e w' => WoOut w B X b p q (dn ++ pend ++ [x]) .nilIface e w' := by
  obtain ⟨xv, hxv⟩ : ∃ xv : Nat, xv = x.toNat := ⟨_, rfl⟩
  have hq := h.hq
  rw [hk] at hq
  have qnn := weql_nil_nil
  have hA := avail_any w q p b 4096 hq (Nat.le_refl _)
  have c0 : w.cell? ⟨q, 0, none⟩ = some .nilIface := hq.cell 0
  have H := Lib.hid h
  have Hk := Lib.hid hk
  have Hxv := Lib.hid hxv
  rw [← hxv]
  clear h hq hk hxv
  go_enter Try.func55, Try.ntmps55
  go_wp2_with fail
  refine hA.mono ?_
  rintro e w1 ⟨rfl, j, rfl⟩
  have h1 := H.out.drewN j
  have hkp1 : Kp B X w (w.drewN j) := (Kp.refl _ _ _).drewN j
  clear hA c0
  generalize w.drewN j = w1 at *
  have hF := flush_any w1 B X b p q row dn pend h1 (Nat.le_trans hBw hkp1.size) (by rw [Hk.out]; exact hlim)
  have Hkp1 := Lib.hid hkp1
  clear h1 hkp1
  go_wp2_with fail
  refine hF.mono ?_
  rintro e w2 ⟨rfl, row2, h2, hkp2⟩
  clear hF
  have hq2 := h2.hq
  obtain ⟨u, hu, hf, hw, hk2⟩ := put_fit w2 B X b p q 0 row2 (dn ++ pend) [] x h2 rfl (by omega)
  rw [← Hxv.out] at hw hk2
  have c1 : w2.cell? ⟨q, 1, none⟩ = some (.slice (some ⟨p, 0, none⟩) 4096 4096) := hq2.cell 1
  have c2 : w2.cell? ⟨q, 2, none⟩ = some (.int .i64 0) := hq2.cell 2
  have f2 : w2.frozen? ⟨q, 2, none⟩ = false := hq2.frozen 2
  have c2' : ∀ v, (w2.setCell ⟨p, 0, none⟩ v).cell? ⟨q, 2, none⟩ = some (.int .i64 0) := fun v => (World.cell?_setCell_other _ _ _ _ (fun e => by have := congrArg Addr.block e; exact h2.pq this)).trans c2
  have f2' : ∀ v, (w2.setCell ⟨p, 0, none⟩ v).frozen? ⟨q, 2, none⟩ = false := fun v => (hq2.far (p := ⟨p, 0, none⟩) (fun e => h2.pq e.symm) v).frozen 2
  have Hw := Lib.hid hw
  have Hkp := Lib.hid (Hkp1.out.trans (hkp2.trans hk2))
  clear h2 hq2 hw hkp2 hk2
  go_wp2
  go_region
  all_goals
    go_wp2
    go_ret
    exact ⟨rfl, row2, dn ++ pend, [x], rfl, Hw.out.drew, Hkp.out.drew⟩

theorem bwb_any (w : World) (B : Nat) (X : List Nat) (b p q : Nat) (row : List Nat) (dn pend : List UInt8) (x : UInt8) (h : WrAt w B X b p q row dn pend) (hBw : B ≤ w.heap.size) (hlim : dn.length + 4096 ≤ 16777216) :
    Calls Try.prog 55 #[.pointer (some ⟨q, 0, none⟩), .int .u8 (x.toNat : Int)] w fun e w' => WoOut w B X b p q (dn ++ pend ++ [x]) .nilIface e w' := by
  have hle := h.le
  by_cases hk : pend.length = 4096
  · exact bwb_full w B X b p q row dn pend x h hBw hk hlim
  · exact bwb_fit w B X b p q pend.length row dn pend x h rfl (by omega)
end Go.Proofs.Ythlhcfjpijilaaa
