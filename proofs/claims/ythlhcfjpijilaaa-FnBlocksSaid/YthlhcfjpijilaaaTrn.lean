/- Which blocks turn: none but those of a list. No program in sight. -/
import Derived.Test.YthlhcfjpijilaaaMem
namespace Go.Proofs.Ythlhcfjpijilaaa
open Go Go.RowKit Go.Lib

/-- No block but those of the list has turned; nothing that was there is gone. -/
structure Trn (S : List Nat) (w w' : World) : Prop where
  os : w'.os = w.os
  tape : w'.tape = w.tape
  output : w'.output = w.output
  size : w.heap.size ≤ w'.heap.size
  block : ∀ i, i < w.heap.size → i ∉ S → w'.heap[i]? = w.heap[i]?
section
variable {S : List Nat} {a b c : World}
theorem Trn.refl (S : List Nat) (w : World) : Trn S w w := ⟨rfl, rfl, rfl, Nat.le_refl _, fun _ _ _ => rfl⟩
theorem Trn.trans (h : Trn S a b) (k : Trn S b c) : Trn S a c :=
  ⟨k.os.trans h.os, k.tape.trans h.tape, k.output.trans h.output, Nat.le_trans h.size k.size, fun i hi hS => (k.block i (Nat.lt_of_lt_of_le hi h.size) hS).trans (h.block i hi hS)⟩
theorem Trn.drew (h : Trn S a b) : Trn S a b.drew := ⟨h.os, h.tape, h.output, h.size, h.block⟩
theorem Trn.drewN (h : Trn S a b) (n : Nat) : Trn S a (b.drewN n) := ⟨h.os, h.tape, h.output, h.size, h.block⟩
theorem Trn.of_drew (h : Trn S a.drew b) : Trn S a b := ⟨h.os, h.tape, h.output, h.size, h.block⟩
theorem Trn.of_drewN {n : Nat} (h : Trn S (a.drewN n) b) : Trn S a b := ⟨h.os, h.tape, h.output, h.size, h.block⟩
theorem Trn.set_ (h : Trn S a b) {g : Nat} (hg : g ∈ S ∨ a.heap.size ≤ g) (o : Nat) (u : Value) : Trn S a (b.setCell ⟨g, o, none⟩ u) :=
  ⟨h.os, h.tape, h.output, by simpa [World.setCell] using h.size, fun i hi hS => (Below.heap_setCell b ⟨g, o, none⟩ u i (fun e => by simp only at e; rcases hg with hg | hg; exact hS (by rw [e]; exact hg); omega)).trans (h.block i hi hS)⟩
theorem Trn.alloc (h : Trn S a b) (o : Obj) : Trn S a (b.alloc o) :=
  ⟨h.os, h.tape, h.output, by simp; have := h.size; omega, fun i hi hS => (Below.heap_alloc b o i (Nat.lt_of_lt_of_le hi h.size)).trans (h.block i hi hS)⟩
theorem Trn.grown {g : Nat} (h : Trn S a b) (k : b.grownBy c (some g)) (hg : g ∈ S ∨ a.heap.size ≤ g) : Trn S a c :=
  ⟨k.os.trans h.os, k.tape.trans h.tape, k.output.trans h.output, Nat.le_trans h.size k.size, fun i hi hS => (k.block i (Nat.lt_of_lt_of_le hi h.size) (fun e => by cases e; rcases hg with hg | hg; exact hS hg; omega)).trans (h.block i hi hS)⟩
theorem Trn.mono {S' : List Nat} (h : Trn S a b) (hs : ∀ x ∈ S, x ∈ S' ∨ a.heap.size ≤ x) : Trn S' a b := ⟨h.os, h.tape, h.output, h.size, fun i hi hS => h.block i hi (fun e => by rcases hs i e with h1 | h1; exact hS h1; omega)⟩
theorem Trn.below {B : Nat} (h : Trn S a b) (hS : ∀ x ∈ S, B ≤ x) (hB : B ≤ a.heap.size) : Below B a b :=
  ⟨h.os, h.tape, h.output, h.size, fun i hi => h.block i (by omega) (fun e => by have := hS i e; omega)⟩
theorem Trn.of_below (h : Below a.heap.size a b) : Trn S a b := ⟨h.os, h.tape, h.output, h.size, fun i hi _ => h.block i hi⟩
theorem Blk.trn {g : Nat} {t : TypeId} {cs : Array Value} (h : Blk a g t cs) (k : Trn S a b) (hg : g ∉ S) : Blk b g t cs := (k.block g h.lt hg).trans h
end
end Go.Proofs.Ythlhcfjpijilaaa
