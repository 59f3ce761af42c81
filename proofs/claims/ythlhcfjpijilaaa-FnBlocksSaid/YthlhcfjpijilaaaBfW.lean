/- A bytes.Buffer that the call has made: Write, by walks, with an exact word on which blocks turn. -/
import Derived.Test.YthlhcfjpijilaaaBfG
import Derived.Deep.LoopGhost
namespace Go.Proofs.Ythlhcfjpijilaaa
open Go Go.ChangeShapes Go.WideShapes Go.ChangeAt Go.RowKit Go.Lib

/-- What Write leaves: the bytes behind those that were there; in the row that was there, or in a new one. -/
def BwOut (w : World) (b n : Nat) (bs cs : List UInt8) (row : List Nat) (e : Ending) (w' : World) : Prop :=
  e = .returned (.tuple #[.int .i64 (n : Int), .nilIface]) ∧ ∃ g cap lr, Blk w' b 54 (bfCells (.slice (some ⟨g, 0, none⟩) (bs ++ cs).length cap) lr) ∧ RowAt w' g cap (bs ++ cs) ∧ (g ∈ row ∨ w.heap.size ≤ g) ∧ Trn (b :: row) w w'

theorem info5s : (Try.prog.info? 5).map (·.size) = some 1 := by
  obtain ⟨i0, hi, hz0, hz1, hz2⟩ := info_parts info5
  rw [hi]
  simp [hz1]

/-- The row behind the copy. -/
theorem row_spliced {w : World} {g cap l n : Nat} {bs cs : List UInt8} {cur : Array Value} (hcs : cur.size = cap) (htk : cur.toList.take bs.length = byteCells bs) (hl : bs.length = l) (hn : cs.length = n) (hfit : l + n ≤ cap) (hcap : cap ≤ maxLen)
    (h : Blk w g 5 (splice cur.toList l (byteCells cs)).toArray) : RowAt w g cap (bs ++ cs) := by
  have hlen : cur.toList.length = cap := by simpa using hcs
  refine ⟨⟨_, h, ?_, ?_⟩, by rw [List.length_append]; omega, hcap⟩
  · simp only [List.size_toArray]
    unfold splice
    rw [List.length_append, List.length_append, List.length_take, List.length_drop, byteCells_length]
    omega
  · have e1 : (cur.toList.take l).length = l := by rw [List.length_take]; omega
    show ((splice cur.toList l (byteCells cs)).take (bs ++ cs).length) = _
    unfold splice
    rw [← List.append_assoc, List.take_append_of_le_length (by rw [List.length_append, List.length_append, e1, byteCells_length]; omega), List.take_of_length_le (by rw [List.length_append, List.length_append, e1, byteCells_length]; omega), ← hl, htk, byteCells_append]

set_option maxRecDepth 100000 in
set_option maxHeartbeats 4000000 in
theorem bw_room (w : World) (b n g l cap sb so c : Nat) (lr : Int) (bs cs : List UInt8) (hl : bs.length = l) (hb : Blk w b 54 (bfCells (.slice (some ⟨g, 0, none⟩) l cap) lr)) (hr : RowAt w g cap bs) (hgb : g ≠ b) (hn : 1 ≤ n) (hcn : cs.length = n) (hroom : n ≤ cap - l)
    (hsb : sb ≠ b) (hsrc : ∀ j u, (byteCells cs)[j]? = some u → w.cell? ⟨sb, so + j, none⟩ = some u) :
    Calls Try.prog 59 #[.pointer (some ⟨b, 0, none⟩), .slice (some ⟨sb, so, none⟩) n c] w fun e w' => BwOut w b n bs cs [g] e w' := by
  obtain ⟨⟨cur, hg, hcs, htk⟩, hlc, hcm⟩ := hr
  rw [hl] at hlc
  have hne : ¬ cap = l := by omega
  have hcm' := hcm
  unfold maxLen at hcm'
  have f2 : w.frozen? ⟨b, 2, none⟩ = false := hb.frozen 2
  have d2 : w.cell? ⟨b, 2, none⟩ = some (.int .i8 lr) := hb.cell 2
  have hb0 : Blk (w.setCell ⟨b, 2, none⟩ (.int .i8 0)) b 54 (bfCells (.slice (some ⟨g, 0, none⟩) l cap) 0) := hb.set_ 2 (.int .i8 0)
  have hg0 : Blk (w.setCell ⟨b, 2, none⟩ (.int .i8 0)) g 5 cur := hg.far hgb _
  have ht0 : Trn [b, g] w (w.setCell ⟨b, 2, none⟩ (.int .i8 0)) := (Trn.refl _ w).set_ (Or.inl (by simp)) _ _
  have hs0 : ∀ j u, (byteCells cs)[j]? = some u → (w.setCell ⟨b, 2, none⟩ (.int .i8 0)).cell? ⟨sb, so + j, none⟩ = some u := fun j u hu =>
    (World.cell?_setCell_other _ _ _ _ (fun e => by have := congrArg Addr.block e; exact hsb this.symm)).trans (hsrc j u hu)
  clear hb hg hsrc
  go_enter Try.func59, Try.ntmps59
  go_wp2_with fail
  generalize w.setCell ⟨b, 2, none⟩ (.int .i8 0) = w0 at *
  have c0 : w0.cell? ⟨b, 0, none⟩ = some (.slice (some ⟨g, 0, none⟩) l cap) := hb0.cell 0
  have f0 : w0.frozen? ⟨b, 0, none⟩ = false := hb0.frozen 0
  refine (Try.Buffer_tryGrow_room b _ l cap n w0 c0 f0 hlc hcm hroom).mono ?_
  rintro e w1 ⟨rfl, rfl⟩
  have hb1 := hb0.set_ 0 (.slice (some ⟨g, 0, none⟩) (l + n) cap)
  have hg1 := hg0.far hgb (p := ⟨b, 0, none⟩) (.slice (some ⟨g, 0, none⟩) (l + n) cap)
  have ht1 := ht0.set_ (Or.inl (by simp : b ∈ [b, g])) 0 (.slice (some ⟨g, 0, none⟩) (l + n) cap)
  have hs1 : ∀ j u, (byteCells cs)[j]? = some u → (w0.setCell ⟨b, 0, none⟩ (.slice (some ⟨g, 0, none⟩) (l + n) cap)).cell? ⟨sb, so + j, none⟩ = some u := fun j u hu =>
    (World.cell?_setCell_other _ _ _ _ (fun e => by have := congrArg Addr.block e; exact hsb this.symm)).trans (hs0 j u hu)
  clear c0 f0 hb0 hg0 ht0 hs0 f2 d2
  generalize w0.setCell ⟨b, 0, none⟩ (.slice (some ⟨g, 0, none⟩) (l + n) cap) = w1 at *
  have hb1' : Blk w1 b 54 (bfCells (.slice (some ⟨g, 0, none⟩) (l + n) cap) 0) := hb1
  have c0 : w1.cell? ⟨b, 0, none⟩ = some (.slice (some ⟨g, 0, none⟩) (l + n) cap) := hb1'.cell 0
  have Hb1 := Lib.hid hb1'
  have Hg1 := Lib.hid hg1
  have Ht1 := Lib.hid ht1
  have Hs1 := Lib.hid hs1
  have Hcs := Lib.hid hcs
  have Htk := Lib.hid htk
  have Hl := Lib.hid hl
  have Hcn := Lib.hid hcn
  have Hcm := Lib.hid hcm
  clear hb1 hb1' hg1 ht1 hs1 hcs htk hl hcn hcm
  have hg2 : Blk w1 g 5 cur.toList.toArray := by simpa using Hg1.out
  have hlen : (byteCells cs).length = Nat.min n n := by rw [byteCells_length, Hcn.out]; exact (Nat.min_self n).symm
  have hfit : l + (byteCells cs).length ≤ cur.toList.length := by rw [byteCells_length, Hcn.out]; have := Hcs.out; simp; omega
  have Hg2 := Lib.hid hg2
  have Hlen := Lib.hid hlen
  have Hfit := Lib.hid hfit
  clear hg2 hlen hfit
  go_wp2_with (refine wpList_copy_grown (o := ⟨some 31, _, _, _, _, _⟩) rfl (.tmp 29) (.tmp 30) 25 25 rfl 5 Try.underlying25 info5s (some ⟨g, l, none⟩) (some ⟨sb, so, none⟩) n (cap - l) n c rfl rfl g l cur.toList 5 Hg2.out (byteCells cs) Hlen.out (fun _ => ⟨rfl, _, rfl, fun j v hv => (by rw [add_lit]; exact Hs1.out j v hv)⟩) Hfit.out (byteCells_oneCell _) ?_; intro w2 hB2 hgr2; have Hgr2 := Lib.hid hgr2; clear hgr2)
  go_ret2
  refine ⟨?_, g, cap, 0, ?_, row_spliced Hcs.out Htk.out Hl.out Hcn.out (by omega) Hcm.out hB2.out, Or.inl (by simp), Ht1.out.grown Hgr2.out (Or.inl (by simp))⟩
  · rw [byteCells_length, Hcn.out]; rfl
  · rw [List.length_append, Hl.out, Hcn.out]
    exact Hb1.out.grown Hgr2.out (by simpa using fun e : b = g => hgb e.symm)

set_option maxRecDepth 100000 in
set_option maxHeartbeats 4000000 in
theorem bw_grow (w : World) (b n l cap sb so c : Nat) (ao : Option Addr) (lr : Int) (bs cs : List UInt8) (hl : bs.length = l) (hb : Blk w b 54 (bfCells (.slice ao l cap) lr)) (hlc : l ≤ cap) (hcm : cap ≤ maxLen) (hn : 1 ≤ n) (hcn : cs.length = n) (hroom : cap - l < n)
    (hG : Calls Try.prog 62 #[.pointer (some ⟨b, 0, none⟩), .int .i64 (n : Int)] (w.setCell ⟨b, 2, none⟩ (.int .i8 0)) fun e w' => GrOut (w.setCell ⟨b, 2, none⟩ (.int .i8 0)) b n bs e w')
    (hsb : sb ≠ b) (hsbw : sb < w.heap.size) (hsrc : ∀ j u, (byteCells cs)[j]? = some u → w.cell? ⟨sb, so + j, none⟩ = some u) :
    Calls Try.prog 59 #[.pointer (some ⟨b, 0, none⟩), .slice (some ⟨sb, so, none⟩) n c] w fun e w' => BwOut w b n bs cs [] e w' := by
  have f2 : w.frozen? ⟨b, 2, none⟩ = false := hb.frozen 2
  have d2 : w.cell? ⟨b, 2, none⟩ = some (.int .i8 lr) := hb.cell 2
  have hb0 : Blk (w.setCell ⟨b, 2, none⟩ (.int .i8 0)) b 54 (bfCells (.slice ao l cap) 0) := hb.set_ 2 (.int .i8 0)
  have ht0 : Trn [b] w (w.setCell ⟨b, 2, none⟩ (.int .i8 0)) := (Trn.refl _ w).set_ (Or.inl (by simp)) _ _
  have hsz0 : (w.setCell ⟨b, 2, none⟩ (.int .i8 0)).heap.size = w.heap.size := by simp [World.setCell]
  have hs0 : ∀ j u, (byteCells cs)[j]? = some u → (w.setCell ⟨b, 2, none⟩ (.int .i8 0)).cell? ⟨sb, so + j, none⟩ = some u := fun j u hu =>
    (World.cell?_setCell_other _ _ _ _ (fun e => by have := congrArg Addr.block e; exact hsb this.symm)).trans (hsrc j u hu)
  have hblt := hb.lt
  clear hb hsrc
  go_enter Try.func59, Try.ntmps59
  go_wp2_with fail
  generalize w.setCell ⟨b, 2, none⟩ (.int .i8 0) = w0 at *
  have c0 : w0.cell? ⟨b, 0, none⟩ = some (.slice ao l cap) := hb0.cell 0
  refine (Try.Buffer_tryGrow_none b ao l cap n w0 c0 hlc hcm hroom).mono ?_
  rintro e w0 ⟨rfl, rfl⟩
  have Ht0 := Lib.hid ht0
  have Hs0 := Lib.hid hs0
  have Hsz0 := Lib.hid hsz0
  have Hl := Lib.hid hl
  have Hcn := Lib.hid hcn
  have Hcm := Lib.hid hcm
  clear c0 hb0 ht0 hs0 hsz0 f2 d2 hl hcn hcm
  go_wp2_with fail
  refine hG.mono ?_
  rintro e w1 ⟨rfl, g, cap2, lr2, hb1, ⟨⟨cur, hg1, hcs, htk⟩, hlc2, hcm2⟩, hfit2, hgw, ht1⟩
  rw [Hl.out] at hb1 hfit2 hlc2 ⊢
  have hgb : g ≠ b := by have := Hsz0.out; omega
  have c0 : w1.cell? ⟨b, 0, none⟩ = some (.slice (some ⟨g, 0, none⟩) (l + n) cap2) := hb1.cell 0
  have hne : ¬ cap2 = l := by omega
  have hcm' := hcm2
  unfold maxLen at hcm'
  have hs1 : ∀ j u, (byteCells cs)[j]? = some u → w1.cell? ⟨sb, so + j, none⟩ = some u := fun j u hu =>
    (World.cell?_of_block (a := ⟨sb, so + j, none⟩) (ht1.block sb (by have := Hsz0.out; omega) (by simpa using hsb))).trans (Hs0.out j u hu)
  have hg2 : Blk w1 g 5 cur.toList.toArray := by simpa using hg1
  have hlen : (byteCells cs).length = Nat.min n n := by rw [byteCells_length, Hcn.out]; exact (Nat.min_self n).symm
  have hfit : l + (byteCells cs).length ≤ cur.toList.length := by rw [byteCells_length, Hcn.out]; simp; omega
  have Hg2 := Lib.hid hg2
  have Hlen := Lib.hid hlen
  have Hfit := Lib.hid hfit
  have Hb1 := Lib.hid hb1
  have Ht1 := Lib.hid (Ht0.out.trans ht1)
  have Hs1 := Lib.hid hs1
  have Hcs := Lib.hid hcs
  have Htk := Lib.hid htk
  have Hcm2 := Lib.hid hcm2
  have Hgw := Lib.hid (show w.heap.size ≤ g by have := Hsz0.out; omega)
  clear hg2 hlen hfit hb1 hg1 ht1 hs1 hcs htk hcm2 hgw hG
  go_wp2_with (refine wpList_copy_grown (o := ⟨some 31, _, _, _, _, _⟩) rfl (.tmp 29) (.tmp 30) 25 25 rfl 5 Try.underlying25 info5s (some ⟨g, l, none⟩) (some ⟨sb, so, none⟩) n (cap2 - l) n c rfl rfl g l cur.toList 5 Hg2.out (byteCells cs) Hlen.out (fun _ => ⟨rfl, _, rfl, fun j v hv => (by rw [add_lit]; exact Hs1.out j v hv)⟩) Hfit.out (byteCells_oneCell _) ?_; intro w2 hB2 hgr2; have Hgr2 := Lib.hid hgr2; clear hgr2)
  go_ret2
  refine ⟨?_, g, cap2, lr2, ?_, row_spliced Hcs.out Htk.out Hl.out Hcn.out (by omega) Hcm2.out hB2.out, Or.inr Hgw.out, Ht1.out.grown Hgr2.out (Or.inr Hgw.out)⟩
  · rw [byteCells_length, Hcn.out]; rfl
  · rw [List.length_append, Hl.out, Hcn.out]
    exact Hb1.out.grown Hgr2.out (by simpa using fun e : b = g => hgb e.symm)

/-- A bytes.Buffer that holds bytes: none, or a row. -/
def BfAt (w : World) (b : Nat) (bs : List UInt8) (row : List Nat) : Prop :=
  (row = [] ∧ bs = [] ∧ ∃ lr, Blk w b 54 (bfCells (.slice none 0 0) lr)) ∨
  ∃ g cap lr, row = [g] ∧ Blk w b 54 (bfCells (.slice (some ⟨g, 0, none⟩) bs.length cap) lr) ∧ RowAt w g cap bs ∧ 0 < bs.length ∧ g ≠ b

theorem bw_any (w : World) (b n sb so c : Nat) (bs cs : List UInt8) (row : List Nat) (h : BfAt w b bs row) (hn : 1 ≤ n) (hcn : cs.length = n) (hlim : bs.length + n ≤ 16777216)
    (hsb : sb ≠ b) (hsbw : sb < w.heap.size) (hsrc : ∀ j u, (byteCells cs)[j]? = some u → w.cell? ⟨sb, so + j, none⟩ = some u) :
    Calls Try.prog 59 #[.pointer (some ⟨b, 0, none⟩), .slice (some ⟨sb, so, none⟩) n c] w fun e w' => e = .returned (.tuple #[.int .i64 (n : Int), .nilIface]) ∧ ∃ row', BfAt w' b (bs ++ cs) row' ∧ (∀ g ∈ row', g ∈ row ∨ w.heap.size ≤ g) ∧ Trn (b :: row) w w' := by
  have hfin : ∀ row0 : List Nat, (∀ g ∈ row0, g ≠ b) → b < w.heap.size → ∀ e w', BwOut w b n bs cs row0 e w' → e = .returned (.tuple #[.int .i64 (n : Int), .nilIface]) ∧ ∃ row', BfAt w' b (bs ++ cs) row' ∧ (∀ g ∈ row', g ∈ row0 ∨ w.heap.size ≤ g) ∧ Trn (b :: row0) w w' := by
    rintro row0 hrb hbw e w' ⟨rfl, g, cap, lr, h1, h2, h3, h4⟩
    refine ⟨rfl, [g], Or.inr ⟨g, cap, lr, rfl, h1, h2, by rw [List.length_append]; omega, ?_⟩, fun x hx => by simp at hx; subst hx; exact h3, h4⟩
    rcases h3 with h3 | h3
    · exact hrb g h3
    · omega
  rcases h with ⟨rfl, rfl, lr, hb⟩ | ⟨g, cap, lr, rfl, hb, hr, hp, hgb⟩
  · have hb0 : Blk (w.setCell ⟨b, 2, none⟩ (.int .i8 0)) b 54 (bfCells (.slice none 0 0) 0) := hb.set_ 2 (.int .i8 0)
    refine (bw_grow w b n 0 0 sb so c none lr [] cs rfl hb (Nat.le_refl _) (Nat.zero_le _) hn hcn (by omega) ?_ hsb hsbw hsrc).mono (hfin [] (by simp) hb.lt)
    by_cases h64 : n ≤ 64
    · exact grow_small _ b n 0 hb0 hn h64
    · exact grow_big _ b n 0 hb0 (by omega) (by simpa using hlim)
  · have hlt := hb.lt
    by_cases hroom : n ≤ cap - bs.length
    · exact (bw_room w b n g bs.length cap sb so c lr bs cs rfl hb hr hgb hn hcn hroom hsb hsrc).mono (hfin [g] (by simpa using hgb) hlt)
    · have hb0 : Blk (w.setCell ⟨b, 2, none⟩ (.int .i8 0)) b 54 (bfCells (.slice (some ⟨g, 0, none⟩) bs.length cap) 0) := hb.set_ 2 (.int .i8 0)
      have hr0 : RowAt (w.setCell ⟨b, 2, none⟩ (.int .i8 0)) g cap bs := by
        obtain ⟨⟨cur, h1, h2, h3⟩, h4, h5⟩ := hr
        exact ⟨⟨cur, h1.far hgb _, h2, h3⟩, h4, h5⟩
      refine (bw_grow w b n bs.length cap sb so c (some ⟨g, 0, none⟩) lr bs cs rfl hb hr.le hr.cap hn hcn (by omega) (grow_row _ b n g bs.length cap 0 bs rfl hb0 hr0 hgb hp hn (by omega) hlim) hsb hsbw hsrc).mono fun e w' ho => ?_
      obtain ⟨h1, row', h2, h3, h4⟩ := hfin [] (by simp) hlt e w' ho
      exact ⟨h1, row', h2, fun x hx => (h3 x hx).imp (by simp) id, h4.mono (fun x hx => Or.inl (by simp at hx ⊢; exact Or.inl hx))⟩
end Go.Proofs.Ythlhcfjpijilaaa
