/- A bufio.Writer over a bytes.Buffer that the call has made: what it is, Available, Buffered, Flush. -/
import Derived.Test.YthlhcfjpijilaaaBfW
import Derived.Deep.DeepCutAuto
namespace Go.Proofs.Ythlhcfjpijilaaa
open Go Go.ChangeShapes Go.WideShapes Go.ChangeAt Go.RowKit Go.Lib

/-- Below B, and at the blocks of X, nothing has turned. -/
structure Kp (B : Nat) (X : List Nat) (w w' : World) : Prop where
  os : w'.os = w.os
  tape : w'.tape = w.tape
  output : w'.output = w.output
  size : w.heap.size ≤ w'.heap.size
  block : ∀ i, i < w.heap.size → (i < B ∨ i ∈ X) → w'.heap[i]? = w.heap[i]?
section
variable {B : Nat} {X Y : List Nat} {a b c : World}
theorem Kp.refl (B : Nat) (X : List Nat) (w : World) : Kp B X w w := ⟨rfl, rfl, rfl, Nat.le_refl _, fun _ _ _ => rfl⟩
theorem Kp.trans (h : Kp B X a b) (k : Kp B X b c) : Kp B X a c :=
  ⟨k.os.trans h.os, k.tape.trans h.tape, k.output.trans h.output, Nat.le_trans h.size k.size, fun i hi hx => (k.block i (Nat.lt_of_lt_of_le hi h.size) hx).trans (h.block i hi hx)⟩
theorem Kp.mono (h : Kp B X a b) (hs : ∀ x ∈ Y, x ∈ X) : Kp B Y a b := ⟨h.os, h.tape, h.output, h.size, fun i hi hx => h.block i hi (hx.imp id (hs i))⟩
theorem Kp.drewN (h : Kp B X a b) (n : Nat) : Kp B X a (b.drewN n) := ⟨h.os, h.tape, h.output, h.size, h.block⟩
theorem Kp.drew (h : Kp B X a b) : Kp B X a b.drew := ⟨h.os, h.tape, h.output, h.size, h.block⟩
theorem Kp.of_drewN {n : Nat} (h : Kp B X (a.drewN n) b) : Kp B X a b := ⟨h.os, h.tape, h.output, h.size, h.block⟩
theorem Kp.of_drew (h : Kp B X a.drew b) : Kp B X a b := ⟨h.os, h.tape, h.output, h.size, h.block⟩
theorem Kp.set_ (h : Kp B X a b) {g : Nat} (hB : B ≤ g) (hX : g ∉ X) (o : Nat) (u : Value) : Kp B X a (b.setCell ⟨g, o, none⟩ u) :=
  ⟨h.os, h.tape, h.output, by simpa [World.setCell] using h.size, fun i hi hx => (Below.heap_setCell b ⟨g, o, none⟩ u i (fun e => by simp only at e; subst e; rcases hx with hx | hx; omega; exact hX hx)).trans (h.block i hi hx)⟩
theorem Kp.alloc (h : Kp B X a b) (o : Obj) : Kp B X a (b.alloc o) :=
  ⟨h.os, h.tape, h.output, by simp; have := h.size; omega, fun i hi hx => (Below.heap_alloc b o i (Nat.lt_of_lt_of_le hi h.size)).trans (h.block i hi hx)⟩
theorem Kp.of_trn {S : List Nat} (h : Trn S a b) (hS : ∀ x ∈ S, B ≤ x ∧ x ∉ X) : Kp B X a b := ⟨h.os, h.tape, h.output, h.size, fun i hi hx => h.block i hi (fun e => by obtain ⟨h1, h2⟩ := hS i e; rcases hx with hx | hx; omega; exact h2 hx)⟩
theorem Kp.grown (h : Kp B X a b) {g : Nat} (k : b.grownBy c (some g)) (hB : B ≤ g) (hX : g ∉ X) : Kp B X a c :=
  ⟨k.os.trans h.os, k.tape.trans h.tape, k.output.trans h.output, Nat.le_trans h.size k.size, fun i hi hx => (k.block i (Nat.lt_of_lt_of_le hi h.size) (fun e => by cases e; rcases hx with hx | hx; omega; exact hX hx)).trans (h.block i hi hx)⟩
theorem Kp.below (h : Kp B X a b) (hB : B ≤ a.heap.size) : Below B a b := ⟨h.os, h.tape, h.output, h.size, fun i hi => h.block i (by omega) (Or.inl hi)⟩
theorem Blk.kp {g : Nat} {t : TypeId} {cs : Array Value} (h : Blk a g t cs) (k : Kp B X a b) (hg : g ∈ X) : Blk b g t cs := (k.block g h.lt (Or.inr hg)).trans h
theorem Kp.cell (h : Kp B X a b) {g : Nat} (hg : g ∈ X) (hlt : g < a.heap.size) (o : Nat) : b.cell? ⟨g, o, none⟩ = a.cell? ⟨g, o, none⟩ := World.cell?_of_block (a := ⟨g, o, none⟩) (h.block g hlt (Or.inr hg))
end

theorem BfAt.lt {w : World} {b : Nat} {bs : List UInt8} {row : List Nat} (h : BfAt w b bs row) : b < w.heap.size ∧ ∀ g ∈ row, g < w.heap.size := by
  rcases h with ⟨rfl, _, lr, hb⟩ | ⟨g, cap, lr, rfl, hb, ⟨⟨cur, hg, _⟩, _⟩, _⟩
  · exact ⟨hb.lt, by simp⟩
  · exact ⟨hb.lt, by simp; exact hg.lt⟩
theorem BfAt.keep {w w' : World} {b : Nat} {bs : List UInt8} {row : List Nat} (h : BfAt w b bs row) (hk : ∀ k, (k = b ∨ k ∈ row) → w'.heap[k]? = w.heap[k]?) : BfAt w' b bs row := by
  rcases h with ⟨rfl, h1, lr, hb⟩ | ⟨g, cap, lr, rfl, hb, ⟨⟨cur, hg, h2⟩, h3, h4⟩, h5⟩
  · exact Or.inl ⟨rfl, h1, lr, (hk b (Or.inl rfl)).trans hb⟩
  · exact Or.inr ⟨g, cap, lr, rfl, (hk b (Or.inl rfl)).trans hb, ⟨⟨cur, (hk g (Or.inr (by simp))).trans hg, h2⟩, h3, h4⟩, h5⟩

/-- The cells of a bufio.Writer at work. -/
def wCells (p b k : Nat) : Array Value := #[.nilIface, .slice (some ⟨p, 0, none⟩) 4096 4096, .int .i64 (k : Int), .iface 58 (.pointer (some ⟨b, 0, none⟩))]

/-- A bufio.Writer at work: what its buffer has handed on, what it holds. -/
structure WrAt (w : World) (B : Nat) (X : List Nat) (b p q : Nat) (row : List Nat) (dn pend : List UInt8) : Prop where
  bf : BfAt w b dn row
  hp : ∃ junk : List UInt8, Blk w p 5 (byteCells (pend ++ junk)).toArray ∧ (pend ++ junk).length = 4096
  hq : Blk w q 99 (wCells p b pend.length)
  bp : b ≠ p
  bq : b ≠ q
  pq : p ≠ q
  far : ∀ g ∈ row, g ≠ p ∧ g ≠ q
  lo : B ≤ b ∧ B ≤ p ∧ B ≤ q ∧ ∀ g ∈ row, B ≤ g
  hx : ∀ k ∈ X, k < w.heap.size ∧ k ≠ b ∧ k ≠ p ∧ k ≠ q ∧ k ∉ row

section
variable {w w' : World} {B b p q : Nat} {X Y : List Nat} {row : List Nat} {dn pend : List UInt8}
theorem WrAt.le (h : WrAt w B X b p q row dn pend) : pend.length ≤ 4096 := by
  obtain ⟨j, _, h2⟩ := h.hp
  rw [List.length_append] at h2
  omega
theorem WrAt.keep (h : WrAt w B X b p q row dn pend) (hs : w.heap.size ≤ w'.heap.size) (hk : ∀ k, (k = b ∨ k = p ∨ k = q ∨ k ∈ row) → w'.heap[k]? = w.heap[k]?) : WrAt w' B X b p q row dn pend := by
  obtain ⟨j, h1, h2⟩ := h.hp
  exact ⟨h.bf.keep (fun k hk' => hk k (by rcases hk' with e | e; exact Or.inl e; exact Or.inr (Or.inr (Or.inr e)))), ⟨j, (hk p (Or.inr (Or.inl rfl))).trans h1, h2⟩, (hk q (Or.inr (Or.inr (Or.inl rfl)))).trans h.hq, h.bp, h.bq, h.pq, h.far, h.lo, fun k hX => ⟨Nat.lt_of_lt_of_le (h.hx k hX).1 hs, (h.hx k hX).2⟩⟩
theorem WrAt.drewN (h : WrAt w B X b p q row dn pend) (n : Nat) : WrAt (w.drewN n) B X b p q row dn pend := h.keep (Nat.le_refl _) (fun _ _ => rfl)
theorem WrAt.drew (h : WrAt w B X b p q row dn pend) : WrAt w.drew B X b p q row dn pend := h.keep (Nat.le_refl _) (fun _ _ => rfl)
/-- A cell of a block apart turns. -/
theorem WrAt.far_ (h : WrAt w B X b p q row dn pend) {k : Nat} (hk : k ∈ X) (o : Nat) (u : Value) : WrAt (w.setCell ⟨k, o, none⟩ u) B X b p q row dn pend :=
  have hx := h.hx k hk
  h.keep (by simp [World.setCell]) (fun i hi => Below.heap_setCell w ⟨k, o, none⟩ u i (fun e => by simp only at e; subst e; rcases hi with e | e | e | e; exact hx.2.1 e; exact hx.2.2.1 e; exact hx.2.2.2.1 e; exact hx.2.2.2.2 e))
theorem WrAt.lt (h : WrAt w B X b p q row dn pend) : b < w.heap.size ∧ p < w.heap.size ∧ q < w.heap.size ∧ ∀ g ∈ row, g < w.heap.size := by
  obtain ⟨j, h1, _⟩ := h.hp
  exact ⟨h.bf.lt.1, h1.lt, h.hq.lt, h.bf.lt.2⟩
/-- A new block is apart. -/
theorem WrAt.alloc (h : WrAt w B X b p q row dn pend) (o : Obj) : WrAt (w.alloc o) B (w.heap.size :: X) b p q row dn pend :=
  have hl := h.lt
  have h1 : WrAt (w.alloc o) B X b p q row dn pend := h.keep (by simp) (fun i hi => Below.heap_alloc w o i (by rcases hi with e | e | e | e; subst e; exact hl.1; subst e; exact hl.2.1; subst e; exact hl.2.2.1; exact hl.2.2.2 i e))
  ⟨h1.bf, h1.hp, h1.hq, h1.bp, h1.bq, h1.pq, h1.far, h1.lo, fun k hk => by
    rcases List.mem_cons.1 hk with e | e
    · subst e
      exact ⟨by simp, by omega, by omega, by omega, fun e => by have := hl.2.2.2 _ e; omega⟩
    · exact h1.hx k e⟩
theorem WrAt.less (h : WrAt w B X b p q row dn pend) (hs : ∀ x ∈ Y, x ∈ X) : WrAt w B Y b p q row dn pend := ⟨h.bf, h.hp, h.hq, h.bp, h.bq, h.pq, h.far, h.lo, fun k hk => h.hx k (hs k hk)⟩
end

theorem weql_nil_nil (w : World) : (binOp .eql 38 .nilIface .nilIface).run Try.prog w = .ok (.bool true) w := by kernel_rfl
theorem nilAhead_bw (b : Nat) (w : World) : (nilAhead 230 58 (.pointer (some ⟨b, 0, none⟩)) "Write").run Try.prog w = .ok (some false) w := by kernel_rfl
theorem method_bw (b : Nat) (w : World) : (method 230 58 (.pointer (some ⟨b, 0, none⟩)) "Write").run Try.prog w = .ok (59, .pointer (some ⟨b, 0, none⟩)) w := by kernel_rfl

set_option maxRecDepth 100000 in
theorem avail_any (w : World) (q p b k : Nat) (hq : Blk w q 99 (wCells p b k)) (hk : k ≤ 4096) :
    Calls Try.prog 52 #[.pointer (some ⟨q, 0, none⟩)] w fun e w' => e = .returned (.int .i64 ((4096 : Int) - (k : Int))) ∧ ∃ j, w' = w.drewN j := by
  have c1 : w.cell? ⟨q, 1, none⟩ = some (.slice (some ⟨p, 0, none⟩) 4096 4096) := hq.cell 1
  have c2 : w.cell? ⟨q, 2, none⟩ = some (.int .i64 (k : Int)) := hq.cell 2
  have h1 : (k : Int) ≤ 4096 := by omega
  have h2 : IntKind.i64.wrap ((4096 : Int) - (k : Int)) = (4096 : Int) - (k : Int) := IntWalk.i64_in _ (by omega)
  clear hq
  go_enter Try.func52, Try.ntmps52
  go_wp2
  go_quiet (fail)
  go_wp2
  go_ret
  exact ⟨rfl, _, rfl⟩

set_option maxRecDepth 100000 in
theorem buffered_any (w : World) (q p b k : Nat) (hq : Blk w q 99 (wCells p b k)) :
    Calls Try.prog 56 #[.pointer (some ⟨q, 0, none⟩)] w fun e w' => e = .returned (.int .i64 (k : Int)) ∧ w = w' := by
  have c2 : w.cell? ⟨q, 2, none⟩ = some (.int .i64 (k : Int)) := hq.cell 2
  clear hq
  go_enter Try.func56, Try.ntmps56
  go_wp2
  go_ret
  exact ⟨rfl, rfl⟩
end Go.Proofs.Ythlhcfjpijilaaa
