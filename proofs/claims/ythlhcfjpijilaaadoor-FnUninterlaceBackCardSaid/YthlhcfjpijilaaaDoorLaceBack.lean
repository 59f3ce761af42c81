/- Rows put into the order of an interlaced image and laid again come back: plain facts on lists. -/
import Derived.Test.YthlhcfjpijilaaaDoorLace
namespace Go.Proofs.YthlhcfjpijilaaaDoor
open Go

theorem mem_rowsF (k h : Nat) : ∀ (j f y : Nat), y + j * k < h → j < f → y + j * k ∈ rowsF f y k h
  | 0, f, y, hy, hf => by
    obtain ⟨f, rfl⟩ : ∃ f', f = f' + 1 := ⟨f - 1, by omega⟩
    simp only [Nat.zero_mul, Nat.add_zero] at hy ⊢
    rw [rowsF_step f y k h hy]
    exact List.mem_cons_self
  | j + 1, f, y, hy, hf => by
    obtain ⟨f, rfl⟩ : ∃ f', f = f' + 1 := ⟨f - 1, by omega⟩
    have e : y + (j + 1) * k = (y + k) + j * k := by rw [Nat.add_mul, Nat.one_mul]; omega
    rw [e] at hy ⊢
    rw [rowsF_step f y k h (by omega)]
    exact List.mem_cons_of_mem _ (mem_rowsF k h j f (y + k) hy (by omega))

theorem mem_turn (h r : Nat) (hr : r < h) : r ∈ turn h := by
  unfold turn passes
  simp only [turnFrom, List.append_nil, List.mem_append]
  have e : r % 8 = 0 ∨ r % 8 = 4 ∨ r % 4 = 2 ∨ r % 2 = 1 := by omega
  rcases e with e | e | e | e
  · exact Or.inl (by have := mem_rowsF 8 h (r / 8) h 0 (by omega) (by omega); rwa [show 0 + r / 8 * 8 = r by omega] at this)
  · exact Or.inr (Or.inl (by have := mem_rowsF 8 h ((r - 4) / 8) h 4 (by omega) (by omega); rwa [show 4 + (r - 4) / 8 * 8 = r by omega] at this))
  · exact Or.inr (Or.inr (Or.inl (by have := mem_rowsF 4 h ((r - 2) / 4) h 2 (by omega) (by omega); rwa [show 2 + (r - 2) / 4 * 4 = r by omega] at this)))
  · exact Or.inr (Or.inr (Or.inr (by have := mem_rowsF 2 h ((r - 1) / 2) h 1 (by omega) (by omega); rwa [show 1 + (r - 1) / 2 * 2 = r by omega] at this)))

section
variable {α : Type}

theorem rowAt_splice_same (out row : List α) (y dx : Nat) (hr : row.length = dx) (hf : y * dx + dx ≤ out.length) : rowAt (splice out (y * dx) row) dx y = row := by
  unfold rowAt splice
  rw [List.drop_append_of_le_length (by simp; omega)]
  rw [List.drop_eq_nil_of_le (by simp; omega), List.nil_append, List.take_append_of_le_length (by omega)]
  exact List.take_of_length_le (by omega)

theorem rowAt_get (l : List α) (dx r j : Nat) (hj : j < dx) : (rowAt l dx r)[j]? = l[r * dx + j]? := by
  unfold rowAt
  rw [List.getElem?_take, if_pos hj, List.getElem?_drop]

theorem splice_get (out row : List α) (off i : Nat) (hf : off + row.length ≤ out.length) : (splice out off row)[i]? = if off ≤ i ∧ i < off + row.length then row[i - off]? else out[i]? := by
  unfold splice
  by_cases h1 : i < off
  · rw [if_neg (by omega), List.getElem?_append_left (by simp; omega), List.getElem?_take, if_pos h1]
  · rw [List.getElem?_append_right (by simp; omega), List.length_take, Nat.min_eq_left (by omega)]
    by_cases h2 : i < off + row.length
    · rw [if_pos (by omega), List.getElem?_append_left (by omega)]
    · rw [if_neg (by omega), List.getElem?_append_right (by omega), List.getElem?_drop]
      congr 1
      omega

theorem row_apart (r y dx i : Nat) (hne : r ≠ y) (h1 : r * dx ≤ i) (h2 : i < r * dx + dx) : ¬ (y * dx ≤ i ∧ i < y * dx + dx) := by
  rintro ⟨h3, h4⟩
  rcases Nat.lt_or_gt_of_ne hne with h | h
  · have := Nat.mul_le_mul_right dx (show r + 1 ≤ y from h)
    rw [Nat.add_mul, Nat.one_mul] at this
    omega
  · have := Nat.mul_le_mul_right dx (show y + 1 ≤ r from h)
    rw [Nat.add_mul, Nat.one_mul] at this
    omega

theorem rowAt_splice_other (out row : List α) (r y dx : Nat) (hne : r ≠ y) (hr : row.length = dx) (hf : y * dx + dx ≤ out.length) : rowAt (splice out (y * dx) row) dx r = rowAt out dx r := by
  apply List.ext_getElem?
  intro j
  by_cases hj : j < dx
  · rw [rowAt_get _ _ _ _ hj, rowAt_get _ _ _ _ hj, splice_get _ _ _ _ (by omega), if_neg]
    rw [hr]
    exact row_apart r y dx (r * dx + j) hne (by omega) (by omega)
  · rw [List.getElem?_eq_none (by simp [rowAt]; omega), List.getElem?_eq_none (by simp [rowAt]; omega)]

theorem lay_rows (src pix : List α) (dx h : Nat) (hs : src.length = dx * h) (hp : pix.length = dx * h) : ∀ (ys : List Nat) (k : Nat) (out : List α), out.length = dx * h → (∀ y ∈ ys, y < h) → k + ys.length ≤ h →
    (∀ i y, ys[i]? = some y → rowAt src dx (k + i) = rowAt pix dx y) → ∀ r, r < h → (r ∈ ys ∨ rowAt out dx r = rowAt pix dx r) → rowAt (lay src dx ys k out) dx r = rowAt pix dx r
  | [], _, _, _, _, _, _, r, _, hor => by
    rcases hor with h1 | h1
    · cases h1
    · exact h1
  | y :: ys, k, out, ho, hy, hk, hrow, r, hr, hor => by
    simp only [List.length_cons] at hk
    have hyl := hy y List.mem_cons_self
    have hfit : y * dx + dx ≤ out.length := by rw [ho]; exact row_fits y dx h hyl
    have hlen : (rowAt src dx k).length = dx := rowAt_length src dx k h hs (by omega)
    have h0 : rowAt src dx k = rowAt pix dx y := by have := hrow 0 y rfl; simpa using this
    refine lay_rows src pix dx h hs hp ys (k + 1) _ ?_ (fun z hz => hy z (List.mem_cons_of_mem _ hz)) (by omega) (fun i z hz => by have := hrow (i + 1) z (by simpa using hz); rwa [show k + 1 + i = k + (i + 1) by omega]) r hr ?_
    · rw [length_splice _ _ _ (by rw [hlen]; exact hfit), ho]
    · by_cases hry : r = y
      · subst hry
        exact Or.inr (by rw [rowAt_splice_same _ _ _ _ hlen hfit, h0])
      · rcases hor with h1 | h1
        · rcases List.mem_cons.1 h1 with h2 | h2
          · exact absurd h2 hry
          · exact Or.inl h2
        · exact Or.inr (by rw [rowAt_splice_other _ _ _ _ _ hry hlen hfit, h1])

theorem rows_eq (a b : List α) (dx h : Nat) (hdx : 0 < dx) (ha : a.length = dx * h) (hb : b.length = dx * h) (hr : ∀ r, r < h → rowAt a dx r = rowAt b dx r) : a = b := by
  apply List.ext_getElem?
  intro i
  by_cases hi : i < dx * h
  · have hq : i / dx < h := Nat.div_lt_of_lt_mul hi
    have hm : i % dx < dx := Nat.mod_lt _ hdx
    have e : i / dx * dx + i % dx = i := by rw [Nat.mul_comm]; exact Nat.div_add_mod i dx
    have h1 := congrArg (fun l : List α => l[i % dx]?) (hr (i / dx) hq)
    rw [rowAt_get _ _ _ _ hm, rowAt_get _ _ _ _ hm, e] at h1
    exact h1
  · rw [List.getElem?_eq_none (by omega), List.getElem?_eq_none (by omega)]

/-- The rows of pix in the order of the list. -/
def gather (pix : List α) (dx : Nat) (ys : List Nat) : List α := ys.flatMap (rowAt pix dx)
theorem gather_snoc (pix : List α) (dx : Nat) (ys : List Nat) (y : Nat) : gather pix dx (ys ++ [y]) = gather pix dx ys ++ rowAt pix dx y := by simp [gather]
theorem gather_length (pix : List α) (dx h : Nat) (hp : pix.length = dx * h) : ∀ ys : List Nat, (∀ y ∈ ys, y < h) → (gather pix dx ys).length = dx * ys.length
  | [], _ => rfl
  | y :: ys, hy => by
    show (rowAt pix dx y ++ gather pix dx ys).length = _
    rw [List.length_append, rowAt_length pix dx y h hp (hy y List.mem_cons_self), gather_length pix dx h hp ys (fun z hz => hy z (List.mem_cons_of_mem _ hz)), List.length_cons, Nat.mul_add]
    omega
theorem gather_row (pix : List α) (dx h : Nat) (hp : pix.length = dx * h) : ∀ (ys : List Nat), (∀ y ∈ ys, y < h) → ∀ i y, ys[i]? = some y → rowAt (gather pix dx ys) dx i = rowAt pix dx y
  | [], _, i, y, hi => by simp at hi
  | z :: ys, hy, 0, y, hi => by
    simp at hi
    subst hi
    show ((rowAt pix dx z ++ gather pix dx ys).drop (0 * dx)).take dx = _
    rw [Nat.zero_mul, List.drop_zero, List.take_append_of_le_length (by rw [rowAt_length pix dx z h hp (hy z List.mem_cons_self)]; omega)]
    exact List.take_of_length_le (by rw [rowAt_length pix dx z h hp (hy z List.mem_cons_self)]; omega)
  | z :: ys, hy, i + 1, y, hi => by
    have ih := gather_row pix dx h hp ys (fun w hw => hy w (List.mem_cons_of_mem _ hw)) i y (by simpa using hi)
    have hl := rowAt_length pix dx z h hp (hy z List.mem_cons_self)
    show ((rowAt pix dx z ++ gather pix dx ys).drop ((i + 1) * dx)).take dx = _
    rw [Nat.add_mul, Nat.one_mul, List.drop_append, List.drop_eq_nil_of_le (by omega), List.nil_append, hl, Nat.add_sub_cancel]
    exact ih

theorem lay_gather (pix : List α) (dx h : Nat) (hdx : 0 < dx) (hh : h ≤ 255) (hp : pix.length = dx * h) (out : List α) (ho : out.length = dx * h) : lay (gather pix dx (turn h)) dx (turn h) 0 out = pix := by
  have hg : (gather pix dx (turn h)).length = dx * h := by rw [gather_length pix dx h hp _ (turn_lt h hh), turn_length h hh]
  refine rows_eq _ _ dx h hdx (lay_length _ dx h hg _ 0 out ho (turn_lt h hh) (by rw [turn_length h hh]; omega)) hp fun r hr => ?_
  refine lay_rows _ pix dx h hg hp (turn h) 0 out ho (turn_lt h hh) (by rw [turn_length h hh]; omega) (fun i y hi => by rw [Nat.zero_add]; exact gather_row pix dx h hp _ (turn_lt h hh) i y hi) r hr (Or.inl (mem_turn h r hr))
end
end Go.Proofs.YthlhcfjpijilaaaDoor
