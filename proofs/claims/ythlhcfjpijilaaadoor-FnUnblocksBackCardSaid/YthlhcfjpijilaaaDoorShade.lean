/- Colors: their cells, the cells of a palette of them, and the bytes of a table: plain facts. No program in sight. -/
import Derived.Test.YthlhcfjpijilaaaDoorMem
namespace Go.Proofs.YthlhcfjpijilaaaDoor
open Go Go.RowKit Go.Lib

structure Sh where
  r : UInt8
  g : UInt8
  b : UInt8
  a : UInt8

def u8 (x : UInt8) : Value := .int .u8 (x.toNat : Int)
def Sh.cells (s : Sh) : List Value := [u8 s.r, u8 s.g, u8 s.b, u8 s.a]
def Sh.solid (s : Sh) : Sh := ⟨s.r, s.g, s.b, 255⟩
def shCells (l : List Sh) : List Value := l.flatMap Sh.cells
def solidL (l : List Sh) : List Sh := l.map Sh.solid
/-- A color in an interface value; T: the type color.RGBA. -/
def Sh.iface (T : TypeId) (s : Sh) : Value := .iface T (.agg #[u8 s.r, u8 s.g, u8 s.b, u8 s.a])
def palCells (T : TypeId) (l : List Sh) : List Value := l.map (Sh.iface T)
def rgb (l : List Sh) : List UInt8 := l.flatMap fun s => [s.r, s.g, s.b]
/-- The bytes of a table of n colors, black behind those of l. -/
def tabBytes (l : List Sh) (n : Nat) : List UInt8 := rgb l ++ List.replicate (3 * (n - l.length)) 0

theorem shCells_length : ∀ l : List Sh, (shCells l).length = 4 * l.length
  | [] => rfl
  | s :: l => by
    show (s.cells ++ shCells l).length = _
    rw [List.length_append, shCells_length l]
    simp [Sh.cells]
    omega
theorem shCells_append (l m : List Sh) : shCells (l ++ m) = shCells l ++ shCells m := by simp [shCells]
theorem shCells_snoc (l : List Sh) (s : Sh) : shCells (l ++ [s]) = shCells l ++ s.cells := by simp [shCells]
theorem shCells_at : ∀ (l : List Sh) (i k : Nat) (h : i < l.length), k < 4 → (shCells l)[i * 4 + k]? = l[i].cells[k]?
  | s :: l, 0, k, _, hk => by
    show (s.cells ++ shCells l)[0 * 4 + k]? = _
    rw [Nat.zero_mul, Nat.zero_add, List.getElem?_append_left (by simpa [Sh.cells] using hk)]
    rfl
  | s :: l, i + 1, k, h, hk => by
    show (s.cells ++ shCells l)[(i + 1) * 4 + k]? = _
    rw [List.getElem?_append_right (by simp [Sh.cells]; omega), show (i + 1) * 4 + k - s.cells.length = i * 4 + k from by simp [Sh.cells]; omega]
    exact shCells_at l i k (by simpa using h) hk
theorem cells_one (s : Sh) : ∀ u ∈ s.cells, u.oneCell' = true := by
  intro u hu
  simp only [Sh.cells, List.mem_cons, List.not_mem_nil, or_false] at hu
  rcases hu with rfl | rfl | rfl | rfl <;> rfl
theorem solidL_length (l : List Sh) : (solidL l).length = l.length := by simp [solidL]
theorem take_snoc {α : Type} (l : List α) (k : Nat) (h : k < l.length) : l.take (k + 1) = l.take k ++ [l[k]] := List.take_succ_eq_append_getElem h
theorem rgb_length : ∀ l : List Sh, (rgb l).length = 3 * l.length
  | [] => rfl
  | s :: l => by
    show ([s.r, s.g, s.b] ++ rgb l).length = _
    rw [List.length_append, rgb_length l]
    simp
    omega
theorem rgb_snoc (l : List Sh) (s : Sh) : rgb (l ++ [s]) = rgb l ++ [s.r, s.g, s.b] := by simp [rgb]
theorem rgb_solid (l : List Sh) : rgb (solidL l) = rgb l := by
  induction l with
  | nil => rfl
  | cons s l ih =>
    show [s.r, s.g, s.b] ++ rgb (solidL l) = [s.r, s.g, s.b] ++ rgb l
    rw [ih]
theorem tabBytes_solid (l : List Sh) (n : Nat) : tabBytes (solidL l) n = tabBytes l n := by simp [tabBytes, rgb_solid, solidL_length]
theorem tabBytes_length (l : List Sh) (n : Nat) (h : l.length ≤ n) : (tabBytes l n).length = 3 * n := by
  simp [tabBytes, rgb_length]
  omega
theorem palCells_one (T : TypeId) (l : List Sh) : ∀ u ∈ palCells T l, u.oneCell' = true := by
  intro u hu
  obtain ⟨s, _, rfl⟩ := List.mem_map.1 hu
  rfl
end Go.Proofs.YthlhcfjpijilaaaDoor
