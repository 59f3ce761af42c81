/- (*gif.blockReader).fill: what it does, in words. -/
import Derived.Test.YthlhcfjpijilaaaDoorRb
namespace Go.Proofs.YthlhcfjpijilaaaDoor
open Go Go.ChangeShapes Go.WideShapes Go.ChangeAt Go.RowKit Go.Lib

/-- No block of the list has turned but those; nothing that was there is gone. -/
structure Trn (S : List Nat) (w w' : World) : Prop where
  os : w'.os = w.os
  tape : w'.tape = w.tape
  output : w'.output = w.output
  size : w.heap.size ≤ w'.heap.size
  block : ∀ i, i < w.heap.size → i ∉ S → w'.heap[i]? = w.heap[i]?
section
variable {S : List Nat} {a b c : World}
theorem Trn.refl (S : List Nat) (w : World) : Trn S w w := ⟨rfl, rfl, rfl, Nat.le_refl _, fun _ _ _ => rfl⟩
theorem Trn.trans (h : Trn S a b) (k : Trn S b c) : Trn S a c :=
  ⟨k.os.trans h.os, k.tape.trans h.tape, k.output.trans h.output, Nat.le_trans h.size k.size, fun i hi hS => (k.block i (Nat.lt_of_lt_of_le hi h.size) hS).trans (h.block i hi hS)⟩
theorem Trn.drew (h : Trn S a b) : Trn S a b.drew := ⟨h.os, h.tape, h.output, h.size, h.block⟩
theorem Trn.drewN (h : Trn S a b) (n : Nat) : Trn S a (b.drewN n) := ⟨h.os, h.tape, h.output, h.size, h.block⟩
theorem Trn.of_drew (h : Trn S a.drew b) : Trn S a b := ⟨h.os, h.tape, h.output, h.size, h.block⟩
theorem Trn.set_ (h : Trn S a b) {g : Nat} (hg : g ∈ S) (o : Nat) (u : Value) : Trn S a (b.setCell ⟨g, o, none⟩ u) :=
  ⟨h.os, h.tape, h.output, by simpa [World.setCell] using h.size, fun i hi hS => (Below.heap_setCell b ⟨g, o, none⟩ u i (fun e => hS (by rw [e]; exact hg))).trans (h.block i hi hS)⟩
theorem Trn.two {R D : Nat} (h : Trn S a b) (k : Turns2 R D b c) (hR : R ∈ S) (hD : D ∈ S) : Trn S a c :=
  h.trans ⟨k.os, k.tape, k.output, k.size, fun i hi hS => k.block i hi (fun e => hS (by rw [e]; exact hR)) (fun e => hS (by rw [e]; exact hD))⟩
theorem Trn.grown {g : Nat} (h : Trn S a b) (k : b.grownBy c (some g)) (hg : g ∈ S) : Trn S a c :=
  h.trans ⟨k.os, k.tape, k.output, k.size, fun i hi hS => k.block i hi (fun e => hS (by cases e; exact hg))⟩
theorem Trn.mono {S' : List Nat} (h : Trn S a b) (hs : ∀ x ∈ S, x ∈ S') : Trn S' a b := ⟨h.os, h.tape, h.output, h.size, fun i hi hS => h.block i hi (fun e => hS (hs i e))⟩
theorem Trn.below {B : Nat} (h : Trn S a b) (hS : ∀ x ∈ S, B ≤ x) (hB : B ≤ a.heap.size) : Below B a b :=
  ⟨h.os, h.tape, h.output, h.size, fun i hi => h.block i (by omega) (fun e => by have := hS i e; omega)⟩
theorem Blk.trn {g : Nat} {t : TypeId} {cs : Array Value} (h : Blk a g t cs) (k : Trn S a b) (hg : g ∉ S) : Blk b g t cs := (k.block g h.lt hg).trans h
end

/-- The cells of a blockReader. -/
def brCells (D bi bj : Nat) (ev : Value) : Array Value := #[.pointer (some ⟨D, 0, none⟩), .int .u8 (bi : Int), .int .u8 (bj : Int), ev]

/-- The three blocks of a blockReader at work. -/
structure BrAt (w : World) (K D R : Nat) (A : Option Addr) (n c i bi bj : Nat) (ev : Value) (tmp : List UInt8) : Prop where
  r : ∃ pr, Blk w R 100 (rdCells A n c i pr)
  d : Blk w D 80 (decCells R tmp).toArray
  k : Blk w K 88 (brCells D bi bj ev)
  t : tmp.length = 1024

section
variable {w w' : World} {K D R n c i bi bj : Nat} {A : Option Addr} {ev : Value} {tmp : List UInt8}
theorem BrAt.setI (h : BrAt w K D R A n c i bi bj ev tmp) (kd : K ≠ D) (kr : K ≠ R) (v : Nat) : BrAt (w.setCell ⟨K, 1, none⟩ (.int .u8 (v : Int))) K D R A n c i v bj ev tmp :=
  ⟨⟨h.r.choose, h.r.choose_spec.far (fun e => kr e.symm) _⟩, h.d.far (fun e => kd e.symm) _, h.k.set_ 1 _, h.t⟩
theorem BrAt.setJ (h : BrAt w K D R A n c i bi bj ev tmp) (kd : K ≠ D) (kr : K ≠ R) (v : Nat) : BrAt (w.setCell ⟨K, 2, none⟩ (.int .u8 (v : Int))) K D R A n c i bi v ev tmp :=
  ⟨⟨h.r.choose, h.r.choose_spec.far (fun e => kr e.symm) _⟩, h.d.far (fun e => kd e.symm) _, h.k.set_ 2 _, h.t⟩
theorem BrAt.setE (h : BrAt w K D R A n c i bi bj ev tmp) (kd : K ≠ D) (kr : K ≠ R) (v : Value) : BrAt (w.setCell ⟨K, 3, none⟩ v) K D R A n c i bi bj v tmp :=
  ⟨⟨h.r.choose, h.r.choose_spec.far (fun e => kr e.symm) _⟩, h.d.far (fun e => kd e.symm) _, h.k.set_ 3 _, h.t⟩
theorem BrAt.drew (h : BrAt w K D R A n c i bi bj ev tmp) : BrAt w.drew K D R A n c i bi bj ev tmp := ⟨h.r, h.d, h.k, h.t⟩
theorem BrAt.drewN (h : BrAt w K D R A n c i bi bj ev tmp) (m : Nat) : BrAt (w.drewN m) K D R A n c i bi bj ev tmp := ⟨h.r, h.d, h.k, h.t⟩
end
theorem slice1024u (w : World) (g off N : Nat) (hN : N ≤ 1024) :
    (Instr.sliceAt 78 (.pointer (some ⟨g, off, none⟩)) none (some (.int .u8 (N : Int))) none).run Tryd.prog w = .ok (.slice (some ⟨g, off, none⟩) N 1024) w := by
  have h := run_sliceAt_array_h (P := Tryd.prog) (w := w) (a := ⟨g, off, none⟩) (t := 78) (by kernel_rfl) .u8 (N : Int) (by omega) (by rw [show Tryd.prog.arrayLen 78 = 1024 from by kernel_rfl]; omega)
  rw [h]
  have hs : (Go.sizeOf (Tryd.prog.elem 78)).run Tryd.prog w = .ok 1 w := by kernel_rfl
  have hl : Tryd.prog.arrayLen 78 = 1024 := by kernel_rfl
  rw [hs, hl]
  simp [slicedAt, Result.andThen, Addr.add]

/-- What stands still around it. -/
structure BrEnv (w : World) (B : Nat) (a1 a2 : Addr) (K D R : Nat) (A : Option Addr) (l : List UInt8) (n c : Nat) : Prop where
  s : Sent B a1 a2 w
  a : Reads w B A (byteCells l)
  l : l.length = n
  nc : n ≤ c
  c : c ≤ maxLen
  kd : K ≠ D
  kr : K ≠ R
  dr : D ≠ R
  bk : B ≤ K
  bd : B ≤ D
  br : B ≤ R
  bw : B ≤ w.heap.size
theorem BrEnv.trn {w w' : World} {B : Nat} {a1 a2 : Addr} {K D R : Nat} {A : Option Addr} {l : List UInt8} {n c : Nat} {S : List Nat} (h : BrEnv w B a1 a2 K D R A l n c) (k : Trn S w w') (hS : ∀ x ∈ S, B ≤ x) : BrEnv w' B a1 a2 K D R A l n c :=
  have hb := k.below hS h.bw
  ⟨h.s.below hb, h.a.below hb, h.l, h.nc, h.c, h.kd, h.kr, h.dr, h.bk, h.bd, h.br, Nat.le_trans h.bw k.size⟩

/-- What a filling brings: the reader's place, the block's ends, the error, the buffer. -/
def Filled (a1 a2 : Addr) (l : List UInt8) (n i : Nat) (tmp : List UInt8) (i' bi' bj' : Nat) (ev' : Value) (tmp' : List UInt8) : Prop :=
  (n ≤ i ∧ ev' = errV a2 ∧ i' ≤ n) ∨ (i < n ∧ (l.getD i 0).toNat = 0 ∧ ev' = errV a1 ∧ i' = i + 1) ∨
  (i < n ∧ 0 < (l.getD i 0).toNat ∧ n < i + 1 + (l.getD i 0).toNat ∧ ev' = errV a2 ∧ i' ≤ n) ∨
  (i < n ∧ 0 < (l.getD i 0).toNat ∧ i + 1 + (l.getD i 0).toNat ≤ n ∧ ev' = .nilIface ∧ i' = i + 1 + (l.getD i 0).toNat ∧ bi' = 0 ∧ bj' = (l.getD i 0).toNat ∧ tmp' = over tmp ((l.drop (i + 1)).take (l.getD i 0).toNat))

end Go.Proofs.YthlhcfjpijilaaaDoor
