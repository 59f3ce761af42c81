/- Walks of the thin package's Table: a table of a size that there is; of a size that there is not. -/
import Derived.Test.YthlhcfjpijilaaaDoorZzT
namespace Go.Proofs.YthlhcfjpijilaaaDoor
open Go Go.ChangeShapes Go.WideShapes Go.ChangeAt Go.RowKit Go.Lib

theorem reads_prefix {w : World} {g : Nat} {t : TypeId} {xs ys : List Value} (h : Blk w g t (xs ++ ys).toArray) : Reads w w.heap.size (some ⟨g, 0, none⟩) xs := fun _ =>
  ⟨g, 0, rfl, h.lt, fun j u hu => by
    rw [Nat.zero_add, h.cell]
    have hj := (List.getElem?_eq_some_iff.1 hu).1
    rw [List.getElem?_toArray, List.getElem?_append_left hj]
    exact hu⟩
theorem own_base {w : World} {B B' : Nat} {e : TypeId} {size n : Nat} {v : Value} {xs : List Value} (h : w.ownsRow B e size v n xs) (hB : B' ≤ B) : w.ownsRow B' e size v n xs := by
  refine ⟨h.1, ?_⟩
  rcases h.2 with h' | ⟨g, cap, cur, hv, hg, r⟩
  · exact .inl h'
  · exact .inr ⟨g, cap, cur, hv, Nat.le_trans hB hg, r⟩
theorem reads_own {w : World} {base e n c : Nat} {A : Option Addr} {size : Nat} {xs : List Value} (h : w.ownsRow base e size (.slice A n c) n xs) : Reads w w.heap.size A xs := fun hp => by
  rcases h.2 with ⟨hv, rfl⟩ | ⟨g, cap, cur, hv, _, hg, _, _, _, ht⟩
  · have := h.1; simp at this; subst this; exact absurd hp (by simp)
  · cases hv
    refine ⟨g, 0, rfl, (Array.getElem?_eq_some_iff.1 hg).1, fun j u hu => ?_⟩
    rw [cell_of_row w g _ cur e (0, 0) hg]
    rw [← ht, List.getElem?_take] at hu
    split at hu
    · simpa using hu
    · cases hu

/-- Behind the thin package's Table: the table, in memory of the call's own. -/
def TabOut (w : World) (l : List Sh) (N : Nat) (e : Ending) (w' : World) : Prop :=
  ∃ A c, e = .returned (.tuple #[.slice A (3 * N) c, .bool true]) ∧ w'.ownsRow w.heap.size 5 1 (.slice A (3 * N) c) (3 * N) (byteCells (tabBytes l N)) ∧ Below w.heap.size w w'

theorem table_any (w : World) (A : Option Addr) (n c size N : Nat) (l : List Sh) (hl : l.length = n) (hsz : size ≤ 7) (hN : 2 ^ (size + 1) = N) (hn : n ≤ N) (hr : Reads w w.heap.size A (shCells l)) :
    Calls Tryd.prog 19 #[.slice A n c, .int .i64 size] w fun e w' => TabOut w l N e w' := by
  have hN256 : N ≤ 256 := by rw [← hN]; exact Nat.pow_le_pow_right (n := 2) (by omega) (show size + 1 ≤ 8 by omega)
  have Hr := Lib.hid hr
  have Hl := Lib.hid hl
  have HN := Lib.hid hN
  clear hr hl hN
  go_enter Tryd.func19, Tryd.ntmps19
  go_wp2_with fail
  refine (pal_any w A n c l Hl.out (by omega) Hr.out).mono ?_
  rintro e w1 ⟨A1, c1, rfl, hown1, hb1⟩
  have Hown1 := Lib.hid hown1
  have Hb1 := Lib.hid hb1
  clear hown1 hb1
  go_wp2_with fail
  refine (zzct_any w1 A1 n c1 size N l Hl.out hsz HN.out hn (reads_own Hown1.out)).mono ?_
  rintro e w2 ⟨g, rest, rfl, hg, hB2, hb2⟩
  have HB2 := Lib.hid hB2
  have Hb2 := Lib.hid hb2
  clear hB2 hb2
  go_wp2_with fail
  refine (clone_any (some ⟨g, 0, none⟩) (3 * N) 768 (tabBytes l N) w2 (tabBytes_length l N (by rw [Hl.out]; exact hn)) (by omega) (reads_prefix HB2.out)).mono ?_
  rintro e w3 ⟨A3, c3, rfl, hown3, hb3⟩
  rw [tabBytes_length l N (by rw [Hl.out]; exact hn)] at hown3 ⊢
  have Hown3 := Lib.hid hown3
  have Hb3 := Lib.hid hb3
  clear hown3 hb3
  go_wp2
  go_ret2
  exact ⟨A3, c3, rfl, own_base Hown3.out (Nat.le_trans Hb1.out.size Hb2.out.size), Hb1.out.trans ((Hb2.out.mono Hb1.out.size).trans (Hb3.out.mono (Nat.le_trans Hb1.out.size Hb2.out.size)))⟩

theorem table_bad (w : World) (A : Option Addr) (n c : Nat) (size : Int) (l : List Sh) (hl : l.length = n) (hn : n ≤ 256) (hr : Reads w w.heap.size A (shCells l)) (hlo : -9223372036854775808 ≤ size) (hhi : size ≤ 9223372036854775807) (hbad : size < 0 ∨ 7 < size) :
    Calls Tryd.prog 19 #[.slice A n c, .int .i64 size] w fun e w' => e = .returned (.tuple #[.slice none 0 0, .bool false]) ∧ Below w.heap.size w w' := by
  have Hr := Lib.hid hr
  have Hl := Lib.hid hl
  have Hbad := Lib.hid hbad
  clear hr hl hbad
  go_enter Tryd.func19, Tryd.ntmps19
  go_wp2_with fail
  refine (pal_any w A n c l Hl.out hn Hr.out).mono ?_
  rintro e w1 ⟨A1, c1, rfl, hown1, hb1⟩
  have Hb1 := Lib.hid hb1
  clear hown1 hb1
  go_wp2_with fail
  refine (zzct_bad w1 A1 n c1 size hlo hhi Hbad.out).mono ?_
  rintro e w2 ⟨⟨v, rfl, a, rfl⟩, hb2⟩
  have Hb2 := Lib.hid hb2
  clear hb2
  go_wp2
  go_ret2
  exact ⟨rfl, Hb1.out.trans (Hb2.out.mono Hb1.out.size)⟩
end Go.Proofs.YthlhcfjpijilaaaDoor
