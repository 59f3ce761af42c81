/- The walk of the package's encodeColorTable at a palette of solid colors. -/
import Derived.Test.YthlhcfjpijilaaaDoorShadeW
import Derived.Test.YthlhcfjpijilaaaDoorBig
import Derived.Test.YthlhcfjpijilaaaDoorClone
import Derived.Test.YthlhcfjpijilaaaDoorBits
import Derived.Deep.QuietTactic
import Derived.BigQuiet
import Derived.WideLaws
namespace Go.Proofs.YthlhcfjpijilaaaDoor
open Go Go.ChangeShapes Go.WideShapes Go.ChangeAt Go.RowKit Go.Lib

theorem set3 {α : Type} (a b c x y z : α) : ∀ (X Y : List α), (((X ++ x :: y :: z :: Y).set X.length a).set (X.length + 1) b).set (X.length + 2) c = X ++ [a, b, c] ++ Y
  | [], Y => rfl
  | h :: X, Y => by
    have ih := set3 a b c x y z X Y
    simp only [List.cons_append, List.length_cons, List.set_cons_succ, Nat.add_right_comm _ 1] at ih ⊢
    rw [ih]
theorem three {α : Type} (l : List α) (h : 3 ≤ l.length) : ∃ x y z r, l = x :: y :: z :: r := by
  match l, h with
  | x :: y :: z :: r, _ => exact ⟨x, y, z, r, rfl⟩


theorem ta_yes (v : Value) (w : World) : (Instr.typeAssert (.iface 84 v) 83 84 true).run Tryd.prog w = .ok (.tuple #[v, .bool true]) w := by kernel_rfl

def EncCells (l : List Sh) (cur : List Value) (k : Nat) : List Value := byteCells (rgb (l.take k)) ++ cur.drop (3 * k)
theorem encCells_length (l : List Sh) (cur : List Value) (k : Nat) (hk : k ≤ l.length) (hc : 3 * l.length ≤ cur.length) : (EncCells l cur k).length = cur.length := by
  unfold EncCells
  rw [List.length_append, byteCells_length, rgb_length, List.length_take, List.length_drop]
  omega
def EncRel (w : World) (g : Nat) (T : TypeId) (l : List Sh) (cur : List Value) (k : Nat) (i : Value) (wr : World) : Prop :=
  ∃ kk, k + kk = l.length ∧ i = .int .i64 ((kk : Nat) : Int) ∧ Blk wr g T (EncCells l cur kk).toArray ∧ w.grownBy wr (some g)

theorem enc_same (l : List Sh) (cur : List Value) (n : Nat) (hl : l.length = n) : EncCells l cur n = byteCells (tabBytes l n) ++ cur.drop (3 * n) := by
  unfold EncCells tabBytes
  rw [List.take_of_length_le (by omega), hl, Nat.sub_self]
  simp
theorem enc_end (l : List Sh) (cur : List Value) (n N : Nat) (hl : l.length = n) (hN : n ≤ N) : splice (EncCells l cur n) (3 * n) (List.replicate (3 * N - 3 * n) (Value.int .u8 0)) = byteCells (tabBytes l N) ++ cur.drop (3 * N) := by
  have hX : (byteCells (rgb l)).length = 3 * n := by rw [byteCells_length, rgb_length, hl]
  unfold splice EncCells tabBytes
  rw [List.take_of_length_le (show l.length ≤ n by omega), List.take_append_of_le_length (by omega), List.take_of_length_le (by omega), List.drop_append, List.drop_eq_nil_of_le (by simp; omega), List.nil_append, hX, List.drop_drop, byteCells_append, List.append_assoc, hl]
  congr 1
  rw [List.length_replicate, show 3 * n + (3 * n + (3 * N - 3 * n) - 3 * n) = 3 * N by omega, show 3 * (N - n) = 3 * N - 3 * n by omega]
  congr 1
  simp [byteCells]
/-- Behind 'encodeColorTable': its length, no error; the table at the head of the block. -/
def EncOut (w : World) (g : Nat) (T : TypeId) (l : List Sh) (cur : List Value) (N : Nat) (e : Ending) (w' : World) : Prop :=
  e = .returned (.tuple #[.int .i64 ((3 * N : Nat) : Int), .nilIface]) ∧ Blk w' g T (byteCells (tabBytes l N) ++ cur.drop (3 * N)).toArray ∧ w.grownBy w' (some g)

set_option maxRecDepth 100000 in
set_option maxHeartbeats 1000000 in
theorem enc_any (w : World) (g : Nat) (T : TypeId) (cur : List Value) (A : Option Addr) (n c size N : Nat) (l : List Sh) (hl : l.length = n) (hsz : size ≤ 7) (hN : 2 ^ (size + 1) = N) (hn : n ≤ N) (hg : Blk w g T cur.toArray) (hcur : cur.length = 768) (hr : Reads w g A (palCells 84 l)) :
    Calls Tryd.prog 35 #[.slice (some ⟨g, 0, none⟩) 768 768, .slice A n c, .int .i64 size] w fun e w' => EncOut w g T l cur N e w' := by
  have hN256 : N ≤ 256 := by rw [← hN]; exact Nat.pow_le_pow_right (n := 2) (by omega) (show size + 1 ≤ 8 by omega)
  have hpw : (2 : Int) ^ (size + 1) = (N : Int) := by rw [← hN]; exact (pow_int _).symm
  have Hpw := Lib.hid hpw
  clear hpw hN
  have hd8 : decide ((8 : Int) ≤ (size : Int)) = false := by simp; omega
  have Hr := Lib.hid hr
  have Hl := Lib.hid hl
  have Hg := Lib.hid hg
  have Hcur := Lib.hid hcur
  clear hr hl hg hcur
  go_enter Tryd.func35, Tryd.ntmps35
  go_wp2
  go_loopg [26] n (fun k i wr => EncRel w g T l cur k i wr)
  case atStart => exact ⟨0, Hl.out.symm, rfl, by simpa [EncCells, rgb, byteCells] using Hg.out, grownBy_refl _ _⟩
  case round =>
    obtain ⟨kk, hk, rfl, hB, hgr⟩ := hrel
    by_cases hlt : kk < n
    · obtain ⟨pb, po, rfl, hpb, hpc⟩ := Hr.out (by simp [palCells, Hl.out]; omega)
      obtain ⟨s, hs⟩ : ∃ s, s = l[kk]'(by rw [Hl.out]; exact hlt) := ⟨_, rfl⟩
      have hgl := Hg.out.lt
      have hpg : pb ≠ g := by omega
      have c0 : wr.cell? ⟨pb, po + kk, none⟩ = some (.iface 84 (.agg #[.int .u8 (s.r.toNat : Int), .int .u8 (s.g.toNat : Int), .int .u8 (s.b.toNat : Int), .int .u8 (s.a.toNat : Int)])) := by
        refine (World.cell?_of_block (hgr.block pb (by omega) (by simpa using hpg))).trans (hpc kk _ ?_)
        simp only [palCells, List.getElem?_map]
        rw [List.getElem?_eq_getElem (by rw [Hl.out]; exact hlt), ← hs]
        rfl
      have hd4 : decide ((kk : Int) < (n : Int)) = true := by simp; omega
      have HB := Lib.hid hB
      have Hgr := Lib.hid hgr
      have Hk := Lib.hid hk
      have Hs := Lib.hid hs
      clear hB hgr hk hpc hs
      have hta := fun (v : Value) (w : World) => ta_yes v w
      go_wp2_with fail
      go_quiet (fail)
      clear hta c0
      have hB6 := (HB.out.alloc (.cells #[Value.int IntKind.u8 (s.r.toNat : Int), Value.int IntKind.u8 (s.g.toNat : Int), Value.int IntKind.u8 (s.b.toNat : Int), Value.int IntKind.u8 (s.a.toNat : Int)] 84)).drewN nq
      have hgr6 := grownBy_drewN (grownBy_alloc Hgr.out (.cells #[Value.int IntKind.u8 (s.r.toNat : Int), Value.int IntKind.u8 (s.g.toNat : Int), Value.int IntKind.u8 (s.b.toNat : Int), Value.int IntKind.u8 (s.a.toNat : Int)] 84)) nq
      revert hB6 hgr6
      generalize (wr.alloc (.cells #[Value.int IntKind.u8 (s.r.toNat : Int), Value.int IntKind.u8 (s.g.toNat : Int), Value.int IntKind.u8 (s.b.toNat : Int), Value.int IntKind.u8 (s.a.toNat : Int)] 84)).drewN nq = w6
      intro hB6 hgr6
      have hroom : 3 * kk + 3 ≤ cur.length := by rw [Hcur.out]; omega
      obtain ⟨x, y, z, R, hR⟩ := three (cur.drop (3 * kk)) (by rw [List.length_drop]; omega)
      have hX : (byteCells (rgb (l.take kk))).length = 3 * kk := by rw [byteCells_length, rgb_length, List.length_take, Hl.out]; omega
      have hE : EncCells l cur kk = byteCells (rgb (l.take kk)) ++ x :: y :: z :: R := by unfold EncCells; rw [hR]
      have hE2 : EncCells l cur (kk + 1) = byteCells (rgb (l.take kk)) ++ [.int .u8 (s.r.toNat : Int), .int .u8 (s.g.toNat : Int), .int .u8 (s.b.toNat : Int)] ++ R := by
        unfold EncCells
        rw [take_snoc l kk (by rw [Hl.out]; exact hlt), ← Hs.out, rgb_snoc, byteCells_append]
        have hd : cur.drop (3 * (kk + 1)) = R := by
          have := congrArg (List.drop 3) hR
          rw [List.drop_drop] at this
          rw [show 3 * (kk + 1) = 3 * kk + 3 by omega]
          simpa using this
        rw [hd]
        rfl
      have e0 : w6.cell? ⟨g, 3 * kk, none⟩ = some x := by rw [hB6.cell, hE]; simp [hX]
      have e1 : w6.cell? ⟨g, 3 * kk + 1, none⟩ = some y := by rw [hB6.cell, hE]; simp [hX]
      have e2 : w6.cell? ⟨g, 3 * kk + 2, none⟩ = some z := by rw [hB6.cell, hE]; simp [hX]
      have z0 := hB6.frozen (3 * kk)
      have z1 := hB6.frozen (3 * kk + 1)
      have z2 := hB6.frozen (3 * kk + 2)
      have HB6 := Lib.hid hB6
      have Hgr6 := Lib.hid hgr6
      have HX := Lib.hid hX
      have HE := Lib.hid hE
      have HE2 := Lib.hid hE2
      clear hB6 hgr6 hX hE hE2 hR hroom
      go_wp2
      go_roundg (l.length - (kk + 1))
      case measure => have := Hk.out; have := Hl.out; omega
      case rel =>
        refine ⟨kk + 1, by have := Hl.out; omega, by go_num, ?_, ?_⟩
        · have h := ((HB6.out.set_ (3 * kk) (.int .u8 (s.r.toNat : Int))).set_ (3 * kk + 1) (.int .u8 (s.g.toNat : Int))).set_ (3 * kk + 2) (.int .u8 (s.b.toNat : Int))
          rw [HE.out] at h
          rw [HE2.out, ← set3 _ _ _ x y z, HX.out]
          simpa using h
        · exact grownBy_setCell (grownBy_setCell (grownBy_setCell Hgr6.out (Or.inl rfl) _) (Or.inl rfl) _) (Or.inl rfl) _
    · have e4 : kk = n := by have := Hl.out; omega
      subst e4
      have HB := Lib.hid hB
      have Hgr := Lib.hid hgr
      clear hB hgr hk
      have hpw := Hpw.out
      have hcl := encCells_length l cur kk (by rw [Hl.out]; omega) (by rw [Hl.out, Hcur.out]; omega)
      by_cases hlt2 : kk < N
      · have s6 : ¬ 768 = 3 * kk := by omega
        obtain ⟨i0, hi, hz0, hz1, hz2⟩ := info_parts info5
        have Hcl := Lib.hid hcl
        clear hcl hz1 hz2
        go_wp2_with (refine wpList_clear_grown rfl (.tmp 94) 22 rfl 5 i0 (.int .u8 0) Tryd.underlying22 hi hz0 rfl rfl g (3 * kk) (3 * N - 3 * kk) (768 - 3 * kk) (by simp [Act.eval]) _ T HB.out (by rw [Hcl.out, Hcur.out]; omega) (by omega) ?_; intro w7 hB7 hgr7; have Hgr7 := Lib.hid hgr7; clear hgr7)
        go_ret2
        refine ⟨?_, ?_, Hgr.out.trans Hgr7.out⟩
        · rw [Int.natCast_mul]; rfl
        · rw [← enc_end l cur kk N Hl.out (by omega)]
          exact hB7.out
      · have e5 : kk = N := by omega
        subst e5
        clear hcl
        go_wp2
        go_ret2
        refine ⟨?_, ?_, Hgr.out⟩
        · rw [Int.natCast_mul]; rfl
        · rw [← enc_same l cur kk Hl.out]
          exact HB.out
end Go.Proofs.YthlhcfjpijilaaaDoor
