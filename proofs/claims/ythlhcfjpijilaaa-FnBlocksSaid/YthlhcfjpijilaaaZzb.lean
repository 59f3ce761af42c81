/- gif.ZZBlocks: a bytes.Buffer, a bufio.Writer, an encoder and a blockWriter, written and closed: the walk. -/
import Derived.Test.YthlhcfjpijilaaaBwC
import Derived.Test.YthlhcfjpijilaaaNewW
import Derived.Great.BuildSlice
namespace Go.Proofs.Ythlhcfjpijilaaa
open Go Go.ChangeShapes Go.WideShapes Go.ChangeAt Go.RowKit Go.Lib

/-- The encoder's buffer, new. -/
def buf0 : List UInt8 := List.replicate 256 0
theorem encBuilt0 (q : Nat) : Try.prog.built 71 [(0, .iface 56 (.pointer (some ⟨q, 0, none⟩)))] = some (encCells q buf0).toArray := encBuilt q

/-- What gif.ZZBlocks hands back. -/
def ZbOut (w : World) (l : List UInt8) (e : Ending) (w' : World) : Prop :=
  ∃ A c f, e = .returned (.slice A f.length c) ∧ w'.ownsRow w.heap.size 5 1 (.slice A f.length c) f.length (byteCells f) ∧ Below w.heap.size w w' ∧ Jn f l true [] ∧ f.length ≤ 131584

/-- A bytes.Buffer with bytes, in the kit's word. -/
theorem BfAt.isBuffer {w : World} {B b : Nat} {f : List UInt8} {row : List Nat} (h : BfAt w b f row) (hB : B ≤ b) (hr : ∀ g ∈ row, B ≤ g) (hf : 0 < f.length) : Lib.IsBuffer 54 5 B b (byteCells f) w := by
  rcases h with ⟨_, rfl, _⟩ | ⟨g, cap, lr, rfl, hb, ⟨⟨cur, hg, hcs, htk⟩, hle, hcap⟩, hp, hgb⟩
  · simp at hf
  · exact ⟨hB, .slice (some ⟨g, 0, none⟩) f.length cap, lr, hb, ⟨by rw [Nat.mul_one], .inr ⟨g, cap, cur, by rw [byteCells_length], hr g (by simp), hg, by rw [byteCells_length]; omega, hcap, by omega, by rw [byteCells_length, Nat.mul_one]; exact htk⟩⟩, by simp [Value.ownBlock]; exact hgb⟩

set_option maxRecDepth 100000 in
set_option maxHeartbeats 8000000 in
theorem zzb_any (w : World) (n c : Nat) (A : Option Addr) (l : List UInt8) (hA : Reads w w.heap.size A (byteCells l)) (hl : l.length = n) (hn : n ≤ 65536) :
    Calls Try.prog 18 #[.slice A n c] w fun e w' => ZbOut w l e w' := by
  have HA := Lib.hid hA
  have Hl := Lib.hid hl
  clear hA hl
  go_enter Try.func18, Try.ntmps18
  obtain ⟨N, hN⟩ : ∃ N, N = w.heap.size := ⟨_, rfl⟩
  have HN := Lib.hid hN
  have hbf := Blk.new w 54 #[.slice none 0 0, .int .i64 0, .int .i8 0]
  have hb1 : Below w.heap.size w (w.alloc (.cells #[.slice none 0 0, .int .i64 0, .int .i8 0] 54)) := (Below.refl _ w).alloc (Nat.le_refl _) _
  have hs1 : (w.alloc (.cells #[.slice none 0 0, .int .i64 0, .int .i8 0] 54)).heap.size = N + 1 := by simp [hN]
  go_wp2_with fail
  rw [← hN] at hbf hb1 ⊢
  generalize w.alloc (.cells #[.slice none 0 0, .int .i64 0, .int .i8 0] 54) = w1 at *
  refine (nw_any w1 N).mono ?_
  rintro e w2 ⟨rfl, hp2, hq2, hb2, hs2⟩
  rw [hs1] at hp2 hq2 hb2 hs2 ⊢
  have hbf2 : Blk w2 N 54 (bfCells (.slice none 0 0) 0) := Blk.below hbf hb2 (by omega)
  have Hbf2 := Lib.hid hbf2
  have Hp2 := Lib.hid hp2
  have Hq2 := Lib.hid hq2
  have Hb2 := Lib.hid (hb1.trans (hb2.mono (by omega)))
  have Hs2 := Lib.hid hs2
  clear hbf hb1 hs1 hp2 hq2 hb2 hs2 hbf2 hN
  go_upto_region 3 with (first
    | (refine wpList_buildTo (o := ⟨some 9, _, _, _, _, _⟩) rfl 71 _ rfl (some 9) rfl (encCells (N + 1 + 1) buf0).toArray (by simp only [List.map_toArray, List.map_cons, List.map_nil]; exact encBuilt0 _) ?_)
    | (refine wpList_box_big (o := ⟨some 10, _, _, _, _, _⟩) rfl 71 _ rfl (encCells (N + 1 + 1) buf0).toArray rfl ?_; intro w3 hB3 hgr3 hs3; have Hgr3 := Lib.hid hgr3; have Hs3 := Lib.hid hs3; clear hgr3 hs3))
  go_upto_region 4 with (fail)
  obtain ⟨E, hE⟩ : ∃ E, E = w2.heap.size := ⟨_, rfl⟩
  obtain ⟨S, hS⟩ : ∃ S, S = w3.heap.size := ⟨_, rfl⟩
  have hEN : E = N + 3 := by have := Hs2.out; omega
  have hSN : S = N + 4 := by have := Hs3.out; omega
  have hE3 := hB3.out
  rw [← hE] at hE3 ⊢
  rw [← hS]
  have hgr4 : w2.grownBy (w3.alloc (.cells #[.pointer (some ⟨E, 0, none⟩)] 73)) none := Hgr3.out.trans (World.grownBy_alloc _ _ _)
  have hbf4 := Hbf2.out.grown hgr4 (by simp)
  have hp4 := Hp2.out.grown hgr4 (by simp)
  have hq4 := Hq2.out.grown hgr4 (by simp)
  have hE4 := hE3.alloc (.cells #[.pointer (some ⟨E, 0, none⟩)] 73)
  have hS4 := Blk.new w3 73 #[.pointer (some ⟨E, 0, none⟩)]
  rw [← hS] at hS4
  have hb4 : Below N w (w3.alloc (.cells #[.pointer (some ⟨E, 0, none⟩)] 73)) := Hb2.out.trans ((below_of_grownBy hgr4).mono (by omega))
  generalize w3.alloc (.cells #[.pointer (some ⟨E, 0, none⟩)] 73) = w4 at *
  have hW4 : WrAt w4 N [E, S] N (N + 1) (N + 1 + 1) [] [] [] :=
    ⟨Or.inl ⟨rfl, rfl, _, hbf4⟩, ⟨List.replicate 4096 0, hp4, by rw [List.nil_append, List.length_replicate]⟩, hq4, by omega, by omega, by omega, by simp, ⟨Nat.le_refl _, by omega, by omega, by simp⟩, fun k hk => by
      simp only [List.mem_cons, List.not_mem_nil, or_false] at hk
      rcases hk with rfl | rfl
      · exact ⟨hE4.lt, by omega, by omega, by omega, by simp⟩
      · exact ⟨hS4.lt, by omega, by omega, by omega, by simp⟩⟩
  have hES : E ∉ [S] := by simp; omega
  have hNE : N ≤ E := by omega
  have d4 : w4.cell? ⟨S, 0, none⟩ = some (.pointer (some ⟨E, 0, none⟩)) := hS4.cell 0
  have hSet := setup_any w4 N [S] N (N + 1) (N + 1 + 1) E [] [] [] hW4 hE4 hNE hES
  have HSet := Lib.hid hSet
  have HS4 := Lib.hid hS4
  have Hb4 := Lib.hid hb4
  have Hsz4 := Lib.hid (show N ≤ w4.heap.size by have := hS4.lt; omega)
  clear hE hS hEN hSN hE3 hgr4 hbf4 hp4 hq4 hE4 hS4 hb4 hW4 hSet Hbf2 Hp2 Hq2 Hb2 Hs2 Hs3 hB3 Hgr3
  go_wp2_with fail
  refine HSet.out.mono ?_
  rintro e w5 ⟨rfl, h5, hk5, hkp5⟩
  have d5 : w5.cell? ⟨S, 0, none⟩ = some (.pointer (some ⟨E, 0, none⟩)) := (HS4.out.kp hkp5 (by simp)).cell 0
  have hA5 : Reads w5 N A (byteCells l) := by
    have h := HA.out
    rw [← HN.out] at h
    exact (h.below Hb4.out).below (hkp5.below Hsz4.out)
  have hB := bwall_any w5 N [S] N (N + 1) (N + 1 + 1) E n c A l ⟨⟨[], [], [], [], [], h5, hk5, by simp, PrtS.nil, rfl, by simp⟩, hNE, hES⟩ hA5 Hl.out hn
  have HB := Lib.hid hB
  have Hkp5 := Lib.hid hkp5
  clear h5 hk5 hkp5 hA5 hB d4 HSet
  go_wp2_with fail
  refine HB.out.mono ?_
  rintro e w6 ⟨rfl, h6, hkp6⟩
  have hkp6' := Hkp5.out.trans hkp6
  have d6 : w6.cell? ⟨S, 0, none⟩ = some (.pointer (some ⟨E, 0, none⟩)) := (HS4.out.kp hkp6' (by simp)).cell 0
  have HC := Lib.hid (bclose_any w6 N [S] N (N + 1) (N + 1 + 1) E l h6 (by rw [Hl.out]; exact hn))
  have Hkp6 := Lib.hid hkp6'
  clear h6 hkp6 hkp6' d5 HB Hkp5
  go_wp2_with fail
  refine HC.out.mono ?_
  rintro e w7 ⟨rfl, row, f, h7, hj7, hf0, hf1, hkp7⟩
  have hI := h7.bf.isBuffer h7.lo.1 h7.lo.2.2.2 hf0
  have HBy := Lib.hid (Try.Buffer_Bytes N N (byteCells f) w7 hI)
  have Hj7 := Lib.hid hj7
  have Hf1 := Lib.hid hf1
  have Hb7 := Lib.hid (Hb4.out.trans ((Hkp6.out.trans hkp7).below Hsz4.out))
  clear h7 hj7 hf0 hf1 hkp7 hI d6 HC Hkp6
  go_wp2_with fail
  refine HBy.out.mono ?_
  rintro e w8 ⟨v, rfl, hown, k, rfl⟩
  rw [byteCells_length] at hown
  obtain ⟨A8, c8, rfl, _, _⟩ := own_slice hown
  have Hown := Lib.hid hown
  clear hown HBy
  go_wp2
  go_ret
  refine ⟨A8, c8, f, rfl, by rw [← HN.out]; exact Hown.out, ?_, Hj7.out, by have := Hf1.out; have := Hl.out; omega⟩
  rw [← HN.out]
  have h := Hb7.out
  exact ⟨h.os, h.tape, h.output, h.size, h.block⟩
end Go.Proofs.Ythlhcfjpijilaaa
