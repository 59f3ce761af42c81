/- The walk of the reference's Turn: the order of the rows of an interlaced image. -/
import Derived.Test.YthlhcfjpijilaaaDoorUnlace
import Derived.Test.YthlhcfjpijilaaaDoorAppend
namespace Go.Proofs.YthlhcfjpijilaaaDoor
open Go Go.ChangeShapes Go.WideShapes Go.ChangeAt Go.RowKit Go.Lib Go.Deep

theorem infoInt : (Tryd.prog.info? 3).map (fun i => (i.zero, i.size, i.bytes)) = some (some (.int .i64 0), 1, 8) := by kernel_rfl
def intCells (l : List Nat) : List Value := l.map fun (n : Nat) => Value.int .i64 (n : Int)
theorem intCells_snoc (l : List Nat) (y : Nat) : intCells l ++ [Value.int .i64 (y : Int)] = intCells (l ++ [y]) := by simp [intCells]

/-- The reference's own table of the passes, in blocks B + 1 to B + 5. -/
def TurnTab (w : World) (B : Nat) : Prop := ∀ kk, kk < 4 → ∃ st sk : Nat, passes.drop kk = (st, sk) :: passes.drop (kk + 1) ∧ w.cell? ⟨B + 5, kk, none⟩ = some (.slice (some ⟨B + 1 + kk, 0, none⟩) 2 2) ∧
  w.cell? ⟨B + 1 + kk, 0, none⟩ = some (.int .i64 st) ∧ w.cell? ⟨B + 1 + kk, 1, none⟩ = some (.int .i64 sk) ∧ st ≤ 4 ∧ 2 ≤ sk ∧ sk ≤ 8
/-- The row that is built is none of the table's blocks. -/
def FarV (B : Nat) (v : Value) : Prop := ∀ k, v.ownBlock = some k → k = B ∨ B + 6 ≤ k
theorem TurnTab.keep {w w' : World} {B : Nat} (h : TurnTab w B) (hk : ∀ b o, B < b → b < B + 6 → w'.cell? ⟨b, o, none⟩ = w.cell? ⟨b, o, none⟩) : TurnTab w' B := fun kk h4 => by
  obtain ⟨st, sk, e, c1, c2, c3, r⟩ := h kk h4
  exact ⟨st, sk, e, (hk _ _ (by omega) (by omega)).trans c1, (hk _ _ (by omega) (by omega)).trans c2, (hk _ _ (by omega) (by omega)).trans c3, r⟩
theorem TurnTab.alloc {w : World} {B : Nat} (h : TurnTab w B) (hB : B + 6 ≤ w.heap.size) (o : Obj) : TurnTab (w.alloc o) B :=
  h.keep fun b o' _ hb => World.cell?_alloc_lt w o ⟨b, o', none⟩ (by show b < _; omega)
theorem TurnTab.grown {w w' : World} {B : Nat} {v : Value} (h : TurnTab w B) (hB : B + 6 ≤ w.heap.size) (hg : w.grownBy w' v.ownBlock) (hf : FarV B v) : TurnTab w' B :=
  h.keep fun b o hb1 hb2 => cell_far hg b o (by omega) (fun e => by rcases hf b e.symm with h | h <;> omega)

theorem far_step {B n : Nat} {v v' : Value} (h : FarV B v) (h' : v'.ownBlock = v.ownBlock ∨ v'.ownBlock = some n) (hn : B + 6 ≤ n) : FarV B v' := fun k hk => by
  rcases h' with e | e
  · exact h k (e ▸ hk)
  · rw [e] at hk
    cases hk
    exact Or.inr hn
theorem row_eq {a b c d : Nat} {l r r' : List (Nat × Nat)} (h : l = (a, b) :: r) (h' : l = (c, d) :: r') : a = c ∧ b = d := by
  rw [h] at h'
  injection h' with h1 _
  injection h1 with h1 h2
  exact ⟨h1, h2⟩

def TurnRel (w : World) (B h k : Nat) (v i : Value) (wr : World) : Prop :=
  ∃ kk done, k + kk = 4 ∧ i = .int .i64 ((kk : Nat) : Int) ∧ wr.ownsRow B 3 1 v done.length (intCells done) ∧ Below B w wr ∧ TurnTab wr B ∧ B + 6 ≤ wr.heap.size ∧ FarV B v ∧ done ++ turnFrom h (passes.drop kk) = turn h
def TurnIn (w : World) (B h sk : Nat) (tail : List Nat) (k : Nat) (v y : Value) (wr : World) : Prop :=
  ∃ done yy f, k = (rowsF f yy sk h).length ∧ h ≤ yy + f ∧ y = .int .i64 ((yy : Nat) : Int) ∧ yy ≤ 512 ∧ wr.ownsRow B 3 1 v done.length (intCells done) ∧ Below B w wr ∧ TurnTab wr B ∧ B + 6 ≤ wr.heap.size ∧ FarV B v ∧ done ++ (rowsF f yy sk h ++ tail) = turn h

def TurnOut (w : World) (h : Nat) (e : Ending) (w' : World) : Prop :=
  ∃ A c, e = .returned (.slice A h c) ∧ w'.ownsRow w.heap.size 3 1 (.slice A h c) h (intCells (turn h)) ∧ Below w.heap.size w w'

theorem turn_start (w : World) : ∃ w1, w1 = (((((w.alloc (Obj.cells #[] 3)).alloc (Obj.cells #[Value.int IntKind.i64 0, Value.int IntKind.i64 8] 3)).alloc (Obj.cells #[Value.int IntKind.i64 4, Value.int IntKind.i64 8] 3)).alloc
      (Obj.cells #[Value.int IntKind.i64 2, Value.int IntKind.i64 4] 3)).alloc (Obj.cells #[Value.int IntKind.i64 1, Value.int IntKind.i64 2] 3)).alloc
    (Obj.cells #[Value.slice (some ⟨w.heap.size + 1, 0, none⟩) 2 2, Value.slice (some ⟨w.heap.size + 1 + 1, 0, none⟩) 2 2, Value.slice (some ⟨w.heap.size + 1 + 1 + 1, 0, none⟩) 2 2, Value.slice (some ⟨w.heap.size + 1 + 1 + 1 + 1, 0, none⟩) 2 2] 25) ∧
    w1.ownsRow w.heap.size 3 1 (.slice (some ⟨w.heap.size, 0, none⟩) 0 0) 0 [] ∧ Below w.heap.size w w1 ∧ TurnTab w1 w.heap.size ∧ w1.heap.size = w.heap.size + 6 := by
  refine ⟨_, rfl, ?_, ?_, ?_, by simp⟩
  · exact (((((World.ownsRow_made w #[] 0 (Nat.le_refl _) (Nat.zero_le _) rfl).alloc _).alloc _).alloc _).alloc _).alloc _
  · exact ((((((Below.refl _ w).alloc (Nat.le_refl _) _).alloc (by simp) _).alloc (by simp; omega) _).alloc (by simp; omega) _).alloc (by simp; omega) _).alloc (by simp; omega) _
  · intro kk h4
    obtain rfl | rfl | rfl | rfl : kk = 0 ∨ kk = 1 ∨ kk = 2 ∨ kk = 3 := by omega
    · exact ⟨0, 8, rfl, by go_simp, by go_simp, by go_simp, by omega, by omega, by omega⟩
    · exact ⟨4, 8, rfl, by go_simp, by go_simp, by go_simp, by omega, by omega, by omega⟩
    · exact ⟨2, 4, rfl, by go_simp, by go_simp, by go_simp, by omega, by omega, by omega⟩
    · exact ⟨1, 2, rfl, by go_simp, by go_simp, by go_simp, by omega, by omega, by omega⟩

set_option maxRecDepth 100000 in
set_option maxHeartbeats 1000000 in
theorem turn_any (w : World) (h : Nat) (hh : h ≤ 255) :
   Calls Tryd.prog 11 #[.int .i64 h] w fun e w' => TurnOut w h e w' := by
  obtain ⟨i0, hi, hz0, hz1, hz2⟩ := info_parts infoInt
  go_enter Tryd.func11, Tryd.ntmps11
  go_wp2
  obtain ⟨w1, e1, hown, hbel, htab, hsz⟩ := turn_start w
  rw [← e1]
  have Hown := Lib.hid hown
  have Hbel := Lib.hid hbel
  have Htab := Lib.hid htab
  have hs1 : w.heap.size + 6 ≤ w1.heap.size := by omega
  clear e1 hown hbel htab hsz
  obtain ⟨B, hB⟩ : ∃ B, B = w.heap.size := ⟨_, rfl⟩
  rw [← hB] at Hown Hbel Htab hs1 ⊢
  have HB := Lib.hid hB
  clear hB
  go_loopg [3, 14] 4 (fun k v i wr => TurnRel w B h k v i wr)
  case atStart => exact ⟨0, [], rfl, rfl, Hown.out, Hbel.out, Htab.out, hs1, fun k hk => Or.inl (by simpa [Value.ownBlock] using hk.symm), rfl⟩
  case round =>
    obtain ⟨kk, done, hk, rfl, hown, hbel, htab, hsz, hfar, hdone⟩ := hrel
    by_cases h4 : kk < 4
    · obtain ⟨st, sk, hp, c0, c1, c2, hst, hsk2, hsk8⟩ := htab kk h4
      have hd4 : decide ((kk : Int) < 4) = true := by simp; omega
      rw [hp] at hdone
      have Hown := Lib.hid hown
      have Hbel := Lib.hid hbel
      have Htab := Lib.hid htab
      have Hfar := Lib.hid hfar
      have Hdone := Lib.hid hdone
      have Hk := Lib.hid hk
      have Hp := Lib.hid hp
      clear hown hbel htab hfar hdone hk hp
      go_wp2
      go_loopg [3, 6] (rowsF h st sk h).length (fun k v y wr => TurnIn w B h sk (turnFrom h (passes.drop (kk + 1))) k v y wr)
      case atStart => exact ⟨done, st, h, rfl, by omega, rfl, by omega, Hown.out, Hbel.out, Htab.out, hsz, Hfar.out, by have := Hdone.out; simpa [turnFrom] using this⟩
      case round =>
        clear Hown Hbel Htab Hfar Hdone c0 c1 c2 hsz
        obtain ⟨done', yy, f, hk', hf, rfl, hyy, hown', hbel', htab', hsz', hfar', hdone'⟩ := hrel
        by_cases hy : yy < h
        · obtain ⟨f, rfl⟩ : ∃ f', f = f' + 1 := ⟨f - 1, by omega⟩
          rw [rowsF_step f yy sk h hy] at hk' hdone'
          simp only [List.cons_append, List.length_cons] at hk' hdone'
          have hlen : done'.length ≤ 255 := by
            have := congrArg List.length hdone'
            rw [turn_length h hh] at this
            simp at this
            omega
          have Hown' := Lib.hid hown'
          have Hbel' := Lib.hid hbel'
          have Htab' := Lib.hid htab'
          have Hfar' := Lib.hid hfar'
          have Hdone' := Lib.hid hdone'
          have Hk' := Lib.hid hk'
          clear hown' hbel' htab' hfar' hdone' hk'
          have hnew : Reads (wr.alloc (Obj.cells #[Value.int IntKind.i64 (yy : Int)] 3)) (wr.heap.size + 1) (some ⟨wr.heap.size, 0, none⟩) [Value.int IntKind.i64 (yy : Int)] := fun _ =>
            ⟨wr.heap.size, 0, rfl, by omega, fun j u hu => by
              match j, hu with
              | 0, hu => simp at hu; subst hu; exact (Blk.new wr 3 _).cell 0⟩
          have Hnew := Lib.hid hnew
          clear hnew
          go_wp2_with (at_builtin; refine wpList_append_any rfl (.tmp 29) (.tmp 31) 25 rfl B 3 i0 (.int .i64 0) 1 8 Tryd.underlying25 hi hz0 hz1 hz2 rfl (by decide) _ done'.length (intCells done') rfl (Hown'.out.alloc _) (wr.heap.size + 1) (some ⟨wr.heap.size, 0, none⟩) 1 1 [Value.int IntKind.i64 (yy : Int)] rfl rfl Hnew.out (fun u hu => by simp at hu; subst hu; rfl) (by unfold maxLen; omega) (by omega) (by simp; omega) ?_; intro v' w7 hown7 hgr7 hat7; have hfar7 : FarV B v' := far_step Hfar'.out hat7 (by simp; omega); have htab7 : TurnTab w7 B := (Htab'.out.alloc hsz' _).grown (by simp; omega) hgr7 Hfar'.out; have hsz7 : B + 6 ≤ w7.heap.size := Nat.le_trans (by simp; omega) hgr7.size; have hbel7 : Below B w w7 := (Hbel'.out.alloc (by omega) _).grown hgr7 (by simp; omega) (fun k hk => by rcases Hfar'.out k hk with h | h <;> omega); rw [intCells_snoc] at hown7; have Hown7 := Lib.hid hown7; have Hfar7 := Lib.hid hfar7; have Htab7 := Lib.hid htab7; have Hbel7 := Lib.hid hbel7; obtain ⟨st7, sk7, hp7, c0, c1, c2, _⟩ := htab7 kk h4; have e7 := (row_eq Hp.out hp7).2; subst e7; clear hown7 hfar7 htab7 hbel7 hgr7 hat7 hp7)
          go_roundg (rowsF f (yy + sk) sk h).length
          case measure => rw [Hk'.out]; omega
          case rel =>
            refine ⟨done' ++ [yy], yy + sk, f, rfl, by omega, by go_num, by omega, ?_, Hbel7.out, Htab7.out, hsz7, Hfar7.out, ?_⟩
            · rw [List.length_append]; exact Hown7.out
            · rw [← Hdone'.out]; simp
        · have hys : rowsF f yy sk h = [] := rowsF_stop f yy sk h (by omega)
          rw [hys, List.nil_append] at hdone'
          have Hown' := Lib.hid hown'
          have Hbel' := Lib.hid hbel'
          have Htab' := Lib.hid htab'
          have Hfar' := Lib.hid hfar'
          have Hdone' := Lib.hid hdone'
          clear hown' hbel' htab' hfar' hdone' hk' hys
          go_wp2
          go_roundg (3 - kk)
          case measure => have := Hk.out; omega
          case rel => exact ⟨kk + 1, done', by omega, by go_num, Hown'.out, Hbel'.out, Htab'.out, hsz', Hfar'.out, Hdone'.out⟩
    · have e4 : kk = 4 := by omega
      subst e4
      have hd : done = turn h := by rw [← hdone]; simp [passes, turnFrom]
      subst hd
      rw [turn_length h hh] at hown
      obtain ⟨A, c, rfl, _, _⟩ := own_slice hown
      have Hown := Lib.hid hown
      have Hbel := Lib.hid hbel
      clear hown hbel htab hfar hdone hk
      go_wp2
      go_ret
      have e := HB.out
      subst e
      exact ⟨A, c, rfl, Hown.out, Hbel.out⟩

end Go.Proofs.YthlhcfjpijilaaaDoor
