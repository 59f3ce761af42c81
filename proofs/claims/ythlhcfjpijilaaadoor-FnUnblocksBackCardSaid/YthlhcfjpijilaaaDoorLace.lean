/- The order of the rows of an interlaced image, and what laying them one by one gives: plain facts on lists. -/
import Derived.Laws.CopyOwn
namespace Go.Proofs.YthlhcfjpijilaaaDoor
open Go

/-- y, y + k, .. below h (at most f of them). -/
def rowsF : Nat → Nat → Nat → Nat → List Nat
  | 0, _, _, _ => []
  | f + 1, y, k, h => if y < h then y :: rowsF f (y + k) k h else []
theorem rowsF_stop (f y k h : Nat) (hy : h ≤ y) : rowsF f y k h = [] := by
  cases f with
  | zero => rfl
  | succ f => simp only [rowsF]; rw [if_neg (by omega)]
theorem rowsF_step (f y k h : Nat) (hy : y < h) : rowsF (f + 1) y k h = y :: rowsF f (y + k) k h := by simp only [rowsF]; rw [if_pos hy]

/-- start and step of each of the four passes. -/
def passes : List (Nat × Nat) := [(0, 8), (4, 8), (2, 4), (1, 2)]
def turnFrom (h : Nat) : List (Nat × Nat) → List Nat
  | [] => []
  | p :: r => rowsF h p.1 p.2 h ++ turnFrom h r
def turn (h : Nat) : List Nat := turnFrom h passes

theorem turn_facts : ∀ h : Fin 256, (turn h.val).length = h.val ∧ ∀ y ∈ turn h.val, y < h.val := by decide +kernel
theorem turn_length (h : Nat) (hh : h ≤ 255) : (turn h).length = h := (turn_facts ⟨h, by omega⟩).1
theorem turn_lt (h : Nat) (hh : h ≤ 255) : ∀ y ∈ turn h, y < h := (turn_facts ⟨h, by omega⟩).2
/-- The row k of src (rows of dx cells). -/
def rowAt {α : Type} (src : List α) (dx k : Nat) : List α := (src.drop (k * dx)).take dx
theorem rowAt_length {α : Type} (src : List α) (dx k h : Nat) (hs : src.length = dx * h) (hk : k < h) : (rowAt src dx k).length = dx := by
  have : k * dx + dx ≤ dx * h := by
    have := Nat.mul_le_mul_left dx (show k + 1 ≤ h from hk)
    rw [Nat.mul_comm k dx]; rw [Nat.mul_add] at this; omega
  simp [rowAt, hs]; omega

/-- Rows k, k + 1, .. of src laid at the rows of the list, one by one. -/
def lay {α : Type} (src : List α) (dx : Nat) : List Nat → Nat → List α → List α
  | [], _, out => out
  | y :: ys, k, out => lay src dx ys (k + 1) (splice out (y * dx) (rowAt src dx k))

theorem row_fits (y dx h : Nat) (hy : y < h) : y * dx + dx ≤ dx * h := by
  have := Nat.mul_le_mul_left dx (show y + 1 ≤ h from hy)
  rw [Nat.mul_comm y dx]; rw [Nat.mul_add] at this; omega

theorem lay_length {α : Type} (src : List α) (dx h : Nat) (hs : src.length = dx * h) : ∀ (ys : List Nat) (k : Nat) (out : List α), out.length = dx * h → (∀ y ∈ ys, y < h) → k + ys.length ≤ h → (lay src dx ys k out).length = dx * h
  | [], _, _, ho, _, _ => ho
  | y :: ys, k, out, ho, hy, hk => by
    simp only [List.length_cons] at hk
    refine lay_length src dx h hs ys (k + 1) _ ?_ (fun z hz => hy z (List.mem_cons_of_mem _ hz)) (by omega)
    rw [length_splice _ _ _ (by rw [rowAt_length src dx k h hs (by omega), ho]; exact row_fits y dx h (hy y List.mem_cons_self)), ho]
end Go.Proofs.YthlhcfjpijilaaaDoor
