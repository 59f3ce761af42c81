/- spec.TableOf: bytes to shades: the walk. -/
import Derived.Test.YthlhcfjpijilaaaDoorRct
import Derived.Test.YthlhcfjpijilaaaDoorAppend
namespace Go.Proofs.YthlhcfjpijilaaaDoor
open Go Go.ChangeShapes Go.WideShapes Go.ChangeAt Go.RowKit Go.Lib

def TabRel (w : World) (l : List UInt8) (N k : Nat) (v i : Value) (wr : World) : Prop :=
  ∃ kk, k + kk = N ∧ i = .int .i64 ((3 * kk : Nat) : Int) ∧ wr.ownsRow w.heap.size 34 4 v kk (shCells (shOf l kk)) ∧ Below w.heap.size w wr

set_option maxRecDepth 100000 in
set_option maxHeartbeats 2000000 in
theorem tabof_any (w : World) (A : Option Addr) (m c N : Nat) (l : List UInt8) (hm : m = 3 * N) (hN : N ≤ 256) (hl : m ≤ l.length) (hr : Reads w w.heap.size A (byteCells l)) :
    Calls Tryd.prog 13 #[.slice A m c] w fun e w' => ShOut 34 w (shOf l N) N e w' := by
  obtain ⟨i0, hi, hz0, hz1, hz2⟩ := info_parts infoSp
  have Hr := Lib.hid hr
  have Hl := Lib.hid hl
  have Hm := Lib.hid hm
  clear hr hl hm
  go_enter Tryd.func13, Tryd.ntmps13
  go_wp2
  go_loopg [3, 4] N (fun k v i wr => TabRel w l N k v i wr)
  case atStart => exact ⟨0, by omega, rfl, World.ownsRow_made w #[] 0 (Nat.le_refl _) (Nat.zero_le _) rfl, (Below.refl _ w).alloc (Nat.le_refl _) _⟩
  case round =>
    obtain ⟨kk, hk, rfl, hown, hbel⟩ := hrel
    obtain ⟨jj, hjj⟩ : ∃ jj, jj = 3 * kk := ⟨_, rfl⟩
    rw [← hjj]
    have hmN := Hm.out
    by_cases hlt : kk < N
    · obtain ⟨b, off, rfl, hb, hcc⟩ := Hr.out (by have := Hl.out; simp [byteCells]; omega)
      have ha : ∀ q, q < 3 → wr.cell? ⟨b, off + (jj + q), none⟩ = some (.int .u8 ((l.getD (jj + q) 0).toNat : Int)) := fun q hq => by
        have hlt' : jj + q < l.length := by have := Hl.out; omega
        refine (hbel.cell (p := ⟨b, _, none⟩) hb).trans (hcc _ _ ?_)
        rw [byteCells_at hlt', List.getD_eq_getElem?_getD, List.getElem?_eq_getElem hlt']
        rfl
      have e0 : wr.cell? ⟨b, off + jj, none⟩ = some (.int .u8 ((l.getD jj 0).toNat : Int)) := ha 0 (by omega)
      have e1 : wr.cell? ⟨b, off + (jj + 1), none⟩ = some (.int .u8 ((l.getD (jj + 1) 0).toNat : Int)) := ha 1 (by omega)
      have e2 : wr.cell? ⟨b, off + (jj + 2), none⟩ = some (.int .u8 ((l.getD (jj + 2) 0).toNat : Int)) := ha 2 (by omega)
      obtain ⟨v0, hv0⟩ : ∃ v0, v0 = l.getD jj 0 := ⟨_, rfl⟩
      obtain ⟨v1, hv1⟩ : ∃ v1, v1 = l.getD (jj + 1) 0 := ⟨_, rfl⟩
      obtain ⟨v2, hv2⟩ : ∃ v2, v2 = l.getD (jj + 2) 0 := ⟨_, rfl⟩
      rw [← hv0] at e0
      rw [← hv1] at e1
      rw [← hv2] at e2
      have hsnoc : shCells (shOf l (kk + 1)) = shCells (shOf l kk) ++ Sh.cells ⟨v0, v1, v2, 255⟩ := by rw [shOf_succ, shCells_snoc, shAt, ← hjj, hv0, hv1, hv2]
      have hdj : decide ((jj : Int) + 2 < (m : Int)) = true := by simp; omega
      have t1 : IntKind.i64.wrap ((jj : Int) + 1) = (jj : Int) + 1 := IntWalk.i64_in _ (by omega)
      have t2 : IntKind.i64.wrap ((jj : Int) + 2) = (jj : Int) + 2 := IntWalk.i64_in _ (by omega)
      have p1 : (0 : Int) ≤ (jj : Int) + 1 := by omega
      have p2 : (0 : Int) ≤ (jj : Int) + 2 := by omega
      have b0 : (jj : Int) < m := by omega
      have b1 : (jj : Int) + 1 < m := by omega
      have b2 : (jj : Int) + 2 < m := by omega
      have n1 : ((jj : Int) + 1).toNat = jj + 1 := by omega
      have n2 : ((jj : Int) + 2).toNat = jj + 2 := by omega
      have w3 : wrap64 ((jj : Int) + 3) = (jj : Int) + 3 := IntWalk.wrap64_in _ (by omega)
      have Hv4 := Lib.hid (show Value.int .i64 ((jj : Int) + 3) = Value.int .i64 ((3 * (kk + 1) : Nat) : Int) by congr 1; omega)
      have Hv3 := Lib.hid (show Value.int .i64 (wrap64 ((jj : Int) + 3)) = Value.int .i64 ((3 * (kk + 1) : Nat) : Int) by rw [w3]; exact Hv4.out)
      have Hown := Lib.hid hown
      have Hbel := Lib.hid hbel
      have Hsnoc := Lib.hid hsnoc
      have Hk := Lib.hid hk
      have Hjj := Lib.hid hjj
      clear hown hbel hsnoc hk hjj hv0 hv1 hv2 ha hcc hmN
      go_wp2
      go_region_law (refine step_append_any rfl (.tmp 13) (.tmp 29) 30 rfl w.heap.size 34 i0 (.agg #[.int .u8 0, .int .u8 0, .int .u8 0, .int .u8 0]) 4 4 Tryd.underlying30 hi hz0 hz1 hz2 rfl (by decide) _ kk _ rfl (Hown.out.alloc _).drew (wr.heap.size + 1) (some ⟨wr.heap.size, 0, none⟩) 1 1 (Sh.cells ⟨v0, v1, v2, 255⟩) rfl rfl (reads_new wr _ (Sh.cells ⟨v0, v1, v2, 255⟩) _ rfl).drew (cells_one _) (by unfold maxLen; omega) (by omega) (by have := Hbel.out.size; simp; omega) ?_; intro v' w7 hown7 hgr7 hat7; have Hown7 := Lib.hid hown7; have Hgr7 := Lib.hid hgr7; clear hown7 hgr7 hat7)
      all_goals
        clear e0 e1 e2 t1 t2 w3
        go_wp2
        go_roundg (N - (kk + 1))
        case measure => have := Hk.out; omega
        case rel =>
          refine ⟨kk + 1, by omega, by first | exact Hv3.out | exact Hv4.out, ?_, ?_⟩
          · rw [Hsnoc.out]; exact Hown7.out
          · exact ((Hbel.out.alloc Hbel.out.size _).drew).grown Hgr7.out (by have := Hbel.out.size; simp; omega) (fun k hk => (Hown.out.lt k hk).1)
    · have e4 : kk = N := by omega
      subst e4
      have hdj : decide ((jj : Int) + 2 < (m : Int)) = false := by simp; omega
      obtain ⟨A1, c1, rfl, _, _⟩ := own_slice hown
      have Hown := Lib.hid hown
      have Hbel := Lib.hid hbel
      clear hown hbel hk
      go_wp2
      go_ret
      exact ⟨A1, c1, rfl, Hown.out, Hbel.out⟩
end Go.Proofs.YthlhcfjpijilaaaDoor
