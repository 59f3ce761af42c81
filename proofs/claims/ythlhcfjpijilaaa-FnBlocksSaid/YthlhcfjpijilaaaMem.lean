/- Words on memory: what a slice of one-cell elements reads as; a block that is known whole; what the call owns. No program in sight. -/
import Derived.WalkKit
import Derived.Deep.Draws
import Derived.Laws.OwnMore
import Derived.Lib.UnsafeStr
import Derived.Lib.Hide
namespace Go.Proofs.Ythlhcfjpijilaaa
open Go Go.RowKit Go.Lib

/-- The slice at address A reads as the cells xs (one cell an element), below block B. -/
def Reads (w : World) (B : Nat) (A : Option Addr) (xs : List Value) : Prop :=
  0 < xs.length → ∃ b off, A = some ⟨b, off, none⟩ ∧ b < B ∧ ∀ j u, xs[j]? = some u → w.cell? ⟨b, off + j, none⟩ = some u

section
variable {w w' : World} {B B' : Nat} {A : Option Addr} {xs : List Value}
theorem Reads.nil_ : Reads w B A [] := fun h => absurd h (Nat.lt_irrefl _)
theorem Reads.keep (h : Reads w B A xs) (hk : ∀ b o, b < B → w'.cell? ⟨b, o, none⟩ = w.cell? ⟨b, o, none⟩) : Reads w' B A xs := fun hp => by
  obtain ⟨b, off, e, hb, hc⟩ := h hp
  exact ⟨b, off, e, hb, fun j u hu => (hk _ _ hb).trans (hc j u hu)⟩
theorem Reads.more (h : Reads w B A xs) (hB : B ≤ B') : Reads w B' A xs := fun hp => by
  obtain ⟨b, off, e, hb, hc⟩ := h hp
  exact ⟨b, off, e, by omega, hc⟩
theorem Reads.below (h : Reads w B A xs) (hb : Below B w w') : Reads w' B A xs := h.keep fun _ _ hp => hb.cell hp
theorem Reads.drew (h : Reads w B A xs) : Reads w.drew B A xs := h
theorem Reads.drewN (h : Reads w B A xs) (k : Nat) : Reads (w.drewN k) B A xs := h
theorem Reads.alloc (h : Reads w B A xs) (hB : B ≤ w.heap.size) (o : Obj) : Reads (w.alloc o) B A xs := h.keep fun b o' hp => World.cell?_alloc_lt w o ⟨b, o', none⟩ (by show b < _; omega)
theorem Reads.setCell (h : Reads w B A xs) {p : Addr} (hB : B ≤ p.block) (u : Value) : Reads (w.setCell p u) B A xs :=
  h.keep fun b o hq => World.cell?_setCell_other w p ⟨b, o, none⟩ u (fun e => by subst e; simp at hB; omega)
theorem Reads.grown (h : Reads w B A xs) {row : Option Nat} (hg : w.grownBy w' row) (hB : B ≤ w.heap.size) (hr : ∀ g, row = some g → B ≤ g) : Reads w' B A xs :=
  h.keep fun b o hp => World.cell?_of_block (hg.block b (by omega) (fun e => by have := hr _ e.symm; omega))
theorem add_lit (b off j : Nat) : (⟨b, off, none⟩ : Addr).add j = ⟨b, off + j, none⟩ := by unfold Addr.add; split <;> simp_all
theorem Reads.of_own {base e n c : Nat} (h : w.ownsRow base e 1 (.slice A n c) n xs) : Reads w w.heap.size A xs := fun hp => by
  rcases h.2 with ⟨hv, rfl⟩ | ⟨g, cap, cur, hv, _, hg, _, _, _, ht⟩
  · have := h.1; simp at this; subst this; exact absurd hp (by simp)
  · cases hv
    refine ⟨g, 0, rfl, (Array.getElem?_eq_some_iff.1 hg).1, fun j u hu => ?_⟩
    rw [cell_of_row w g _ cur e (0, 0) hg]
    rw [← ht, List.getElem?_take] at hu
    split at hu
    · simpa using hu
    · cases hu
end

/-- What the law on append hands back is a slice value. -/
theorem own_slice {w : World} {base e size n : Nat} {v : Value} {xs : List Value} (h : w.ownsRow base e size v n xs) : ∃ A c, v = .slice A n c ∧ n ≤ c ∧ c ≤ maxLen := by
  rcases h.2 with ⟨rfl, rfl⟩ | ⟨g, cap, cur, rfl, _, _, h1, h2, _⟩
  · exact ⟨none, 0, rfl, Nat.le_refl _, Nat.zero_le _⟩
  · exact ⟨_, cap, rfl, h1, h2⟩

/-- A block that is known whole, none of it frozen. -/
def Blk (w : World) (g : Nat) (t : TypeId) (cs : Array Value) : Prop := w.heap[g]? = some (.cells cs t (0, 0))
section
variable {w w' : World} {g : Nat} {t : TypeId} {cs : Array Value}
theorem Blk.lt (h : Blk w g t cs) : g < w.heap.size := (Array.getElem?_eq_some_iff.1 (h : w.heap[g]? = _)).1
theorem Blk.cell (h : Blk w g t cs) (i : Nat) : w.cell? ⟨g, i, none⟩ = cs[i]? := cell_of_row w g i cs t (0, 0) h
theorem Blk.frozen (h : Blk w g t cs) (i : Nat) : w.frozen? ⟨g, i, none⟩ = false := by
  unfold Blk at h
  simp [World.frozen?, h]
theorem Blk.new (w : World) (t : TypeId) (cs : Array Value) : Blk (w.alloc (.cells cs t)) w.heap.size t cs := heap_alloc_new w _
theorem Blk.drewN (h : Blk w g t cs) (n : Nat) : Blk (w.drewN n) g t cs := h
theorem Blk.alloc (h : Blk w g t cs) (o : Obj) : Blk (w.alloc o) g t cs := (Below.heap_alloc w o g h.lt).trans h
theorem Blk.set_ (h : Blk w g t cs) (i : Nat) (u : Value) : Blk (w.setCell ⟨g, i, none⟩ u) g t (cs.setIfInBounds i u) := by
  unfold Blk at h ⊢
  simp [World.setCell, Array.getElem?_modify, h]
theorem Blk.far (h : Blk w g t cs) {p : Addr} (hp : g ≠ p.block) (u : Value) : Blk (w.setCell p u) g t cs := (Below.heap_setCell w p u g hp).trans h
theorem Blk.below {B : Nat} (h : Blk w g t cs) (hb : Below B w w') (hg : g < B) : Blk w' g t cs := (hb.block g hg).trans h
theorem Blk.grown {row : Option Nat} (h : Blk w g t cs) (hb : w.grownBy w' row) (hg : some g ≠ row) : Blk w' g t cs := (hb.block g h.lt hg).trans h
end

theorem byteCells_oneCell (l : List UInt8) : ∀ v ∈ byteCells l, v.oneCell' = true := by
  intro v hv
  simp only [byteCells, List.mem_map] at hv
  obtain ⟨b, _, rfl⟩ := hv
  rfl
theorem byteCells_at {l : List UInt8} {j : Nat} (h : j < l.length) : (byteCells l)[j]? = some (.int .u8 (l[j].toNat : Int)) := by simp [byteCells, h]

/-- The cells of the bytes l at an address of a slice: in the form that the model's conversions ask. -/
theorem Reads.bytes {w : World} {B : Nat} {A : Option Addr} {l : List UInt8} (h : Reads w B A (byteCells l)) (hp : 0 < l.length) :
    ∃ b off, A = some ⟨b, off, none⟩ ∧ b < B ∧ ∀ j (hj : j < l.length), w.cell? ⟨b, off + j, none⟩ = some (.int .u8 (l[j].toNat : Int)) := by
  obtain ⟨b, off, e, hb, hc⟩ := h (by simpa [byteCells] using hp)
  exact ⟨b, off, e, hb, fun j hj => hc j _ (byteCells_at hj)⟩

/-- From numbers that fit a byte to bytes. -/
def bytesOf (zs : List Int) : List UInt8 := zs.map fun z => UInt8.ofNat z.toNat
theorem bytesOf_length (zs : List Int) : (bytesOf zs).length = zs.length := by simp [bytesOf]
theorem byteCells_bytesOf {zs : List Int} (h : ∀ z ∈ zs, (Lit.int .u8 z).wf = true) : byteCells (bytesOf zs) = zs.map (Value.int .u8) := by
  simp only [byteCells, bytesOf, List.map_map]
  refine List.map_congr_left fun z hz => ?_
  have hb : 0 ≤ z ∧ z ≤ 255 := by
    have := h z hz
    simp [Lit.wf, IntKind.min, IntKind.max, IntKind.signed, IntKind.bits] at this
    omega
  have h2 : (UInt8.ofNat z.toNat).toNat = z.toNat := by
    rw [UInt8.toNat_ofNat']
    omega
  show Value.int .u8 ((UInt8.ofNat z.toNat).toNat : Int) = _
  rw [h2]
  congr 1
  omega
end Go.Proofs.Ythlhcfjpijilaaa
