/- The walk of the reference's Table. -/
import Derived.Test.YthlhcfjpijilaaaTable
import Derived.Deep.RegionLaw
namespace Go.Proofs.Ythlhcfjpijilaaa
open Go Go.ChangeShapes Go.WideShapes Go.ChangeAt Go.RowKit Go.Lib

def stB (l : List Sh) (k : Nat) : List UInt8 := tabBytes (l.take k) k
theorem stB_in (l : List Sh) (k : Nat) (h : k < l.length) : stB l (k + 1) = stB l k ++ [l[k].r, l[k].g, l[k].b] := by
  unfold stB tabBytes
  rw [List.length_take, List.length_take, Nat.min_eq_left (by omega), Nat.min_eq_left (by omega), Nat.sub_self, Nat.sub_self, take_snoc l k h, rgb_snoc]
  simp
theorem stB_out (l : List Sh) (k : Nat) (h : l.length ≤ k) : stB l (k + 1) = stB l k ++ [0, 0, 0] := by
  unfold stB tabBytes
  rw [List.take_of_length_le (by omega), List.take_of_length_le (by omega), show 3 * (k + 1 - l.length) = 3 * (k - l.length) + 3 by omega, List.append_assoc]
  congr 1
  rw [← List.replicate_append_replicate]
  rfl
theorem stB_end (l : List Sh) (n : Nat) (h : l.length ≤ n) : stB l n = tabBytes l n := by
  unfold stB
  rw [List.take_of_length_le h]

def SpTabRel (w : World) (l : List Sh) (N k : Nat) (v i : Value) (wr : World) : Prop :=
  ∃ kk, k + kk = N ∧ i = .int .i64 ((kk : Nat) : Int) ∧ wr.ownsRow w.heap.size 5 1 v (3 * kk) (byteCells (stB l kk)) ∧ Below w.heap.size w wr

set_option maxRecDepth 100000 in
set_option maxHeartbeats 1000000 in
theorem sptable_any (w : World) (A : Option Addr) (n c size N : Nat) (l : List Sh) (hl : l.length = n) (hsz : size ≤ 7) (hN : 2 ^ (size + 1) = N) (hn : n ≤ N) (hr : Reads w w.heap.size A (shCells l)) :
    Calls Try.prog 10 #[.slice A n c, .int .i64 size] w fun e w' => ∃ A' c', e = .returned (.slice A' (3 * N) c') ∧ w'.ownsRow w.heap.size 5 1 (.slice A' (3 * N) c') (3 * N) (byteCells (tabBytes l N)) ∧ Below w.heap.size w w' := by
  have hN256 : N ≤ 256 := by rw [← hN]; exact Nat.pow_le_pow_right (n := 2) (by omega) (show size + 1 ≤ 8 by omega)
  have hpw : (2 : Int) * 2 ^ size = (N : Int) := by rw [← hN, Nat.pow_succ, Int.natCast_mul, pow_int]; omega
  obtain ⟨i0, hi, hz0, hz1, hz2⟩ := info_parts info5
  have Hr := Lib.hid hr
  have Hl := Lib.hid hl
  clear hr hl hN
  go_enter Try.func10, Try.ntmps10
  go_wp2
  clear hpw
  go_loopg [5, 10] N (fun k v i wr => SpTabRel w l N k v i wr)
  case atStart => exact ⟨0, rfl, rfl, World.ownsRow_made w #[] 0 (Nat.le_refl _) (Nat.zero_le _) rfl, (Below.refl _ w).alloc (Nat.le_refl _) _⟩
  case round =>
    obtain ⟨kk, hk, rfl, hown, hbel⟩ := hrel
    by_cases hlt : kk < N
    · have hd4 : decide ((kk : Int) < (N : Int)) = true := by simp; omega
      have hk3 : 3 * kk + 3 ≤ 768 := by omega
      have Hown := Lib.hid hown
      have Hbel := Lib.hid hbel
      have Hk := Lib.hid hk
      clear hown hbel hk
      by_cases hin : kk < n
      · obtain ⟨b, off, rfl, hb, hc⟩ := Hr.out (by rw [shCells_length, Hl.out]; omega)
        obtain ⟨s, hs⟩ : ∃ s, s = l[kk]'(by rw [Hl.out]; exact hin) := ⟨_, rfl⟩
        have hcell : ∀ j u, s.cells[j]? = some u → j < 4 → wr.cell? ⟨b, off + kk * 4 + j, none⟩ = some u := fun j u hu hj => by
          refine (Hbel.out.cell (p := ⟨b, _, none⟩) hb).trans ?_
          rw [Nat.add_assoc]
          refine hc _ _ ?_
          rw [shCells_at l kk j (by rw [Hl.out]; exact hin) hj, ← hs]
          exact hu
        have c0 : wr.cell? ⟨b, off + kk * 4, none⟩ = some (.int .u8 (s.r.toNat : Int)) := hcell 0 _ rfl (by omega)
        have c1 : wr.cell? ⟨b, off + kk * 4 + 1, none⟩ = some (.int .u8 (s.g.toNat : Int)) := hcell 1 _ rfl (by omega)
        have c2 : wr.cell? ⟨b, off + kk * 4 + 2, none⟩ = some (.int .u8 (s.b.toNat : Int)) := hcell 2 _ rfl (by omega)
        have hst : stB l (kk + 1) = stB l kk ++ [s.r, s.g, s.b] := by rw [stB_in l kk (by rw [Hl.out]; exact hin), ← hs]
        have hx : (kk : Int) < (n : Int) := by omega
        have Hst := Lib.hid hst
        clear hst hs hcell hc
        go_wp2
        go_region_law (refine step_append_any rfl (.tmp 17) (.tmp 33) 25 rfl w.heap.size 5 i0 (.int .u8 0) 1 1 Try.underlying25 hi hz0 hz1 hz2 rfl (by decide) _ (3 * kk) _ (by simp [Act.eval]) (Hown.out.drew.alloc _) (wr.heap.size + 1) (some ⟨wr.heap.size, 0, none⟩) 3 3 (byteCells [s.r, s.g, s.b]) (by simp [Act.eval]) rfl (reads_new wr.drew 5 (byteCells [s.r, s.g, s.b]) _ rfl) (byteCells_oneCell _) (by unfold maxLen; omega) (by omega) (by have := Hbel.out.size; simp; omega) ?_; intro v' w7 hown7 hgr7 hat7)
        all_goals
          have Hown7 := Lib.hid hown7
          have Hgr7 := Lib.hid hgr7
          clear hown7 hgr7 hat7 c0 c1 c2 hx
          go_wp2
          go_roundg (N - (kk + 1))
          case measure => have := Hk.out; omega
          case rel =>
            refine ⟨kk + 1, by omega, by go_num, ?_, ?_⟩
            · rw [Hst.out, byteCells_append]; exact Hown7.out
            · exact (Hbel.out.drew.alloc Hbel.out.size _).grown Hgr7.out (by have := Hbel.out.size; simp; omega) (fun k hk => (Hown.out.lt k hk).1)
      · have hx : (n : Int) ≤ (kk : Int) := by omega
        have hst : stB l (kk + 1) = stB l kk ++ [0, 0, 0] := stB_out l kk (by rw [Hl.out]; omega)
        have Hst := Lib.hid hst
        clear hst
        go_wp2_with (at_builtin; refine wpList_append_any rfl (.tmp 35) (.tmp 36) 25 rfl w.heap.size 5 i0 (.int .u8 0) 1 1 Try.underlying25 hi hz0 hz1 hz2 rfl (by decide) _ (3 * kk) _ rfl (Hown.out.alloc _) (wr.heap.size + 1) (some ⟨wr.heap.size, 0, none⟩) 3 3 (byteCells [0, 0, 0]) rfl rfl (reads_new wr 5 (byteCells [0, 0, 0]) _ rfl) (byteCells_oneCell _) (by unfold maxLen; omega) (by omega) (by have := Hbel.out.size; simp; omega) ?_; intro v' w7 hown7 hgr7 hat7; have Hown7 := Lib.hid hown7; have Hgr7 := Lib.hid hgr7; clear hown7 hgr7 hat7)
        go_roundg (N - (kk + 1))
        case measure => have := Hk.out; omega
        case rel =>
          refine ⟨kk + 1, by omega, by go_num, ?_, ?_⟩
          · rw [Hst.out, byteCells_append]; exact Hown7.out
          · exact (Hbel.out.alloc Hbel.out.size _).grown Hgr7.out (by have := Hbel.out.size; simp; omega) (fun k hk => (Hown.out.lt k hk).1)
    · have e4 : kk = N := by omega
      subst e4
      rw [stB_end l kk (by rw [Hl.out]; exact hn)] at hown
      obtain ⟨A1, c1, rfl, _, _⟩ := own_slice hown
      have Hown := Lib.hid hown
      have Hbel := Lib.hid hbel
      clear hown hbel hk
      go_wp2
      go_ret
      exact ⟨A1, c1, rfl, Hown.out, Hbel.out⟩
end Go.Proofs.Ythlhcfjpijilaaa
