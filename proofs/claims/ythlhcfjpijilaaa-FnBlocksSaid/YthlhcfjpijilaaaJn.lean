/- What a row of blocks joins to, whether it is ended, and what is left behind its end: a relation. No program in sight. -/
import Derived.Test.YthlhcfjpijilaaaMem
namespace Go.Proofs.Ythlhcfjpijilaaa
open Go Go.RowKit Go.Lib

/-- What a row of blocks joins to, whether it is ended, what is left behind. -/
inductive Jn : List UInt8 → List UInt8 → Bool → List UInt8 → Prop
  | nil : Jn [] [] false []
  | zero (k : UInt8) (r : List UInt8) : k.toNat = 0 → Jn (k :: r) [] true r
  | short (k : UInt8) (r : List UInt8) : 0 < k.toNat → r.length < k.toNat → Jn (k :: r) [] false []
  | step (k : UInt8) (r o : List UInt8) (e : Bool) (s : List UInt8) : 0 < k.toNat → k.toNat ≤ r.length → Jn (r.drop k.toNat) o e s → Jn (k :: r) (r.take k.toNat ++ o) e s
theorem Jn.ex_aux : ∀ (m : Nat) (l : List UInt8), l.length ≤ m → ∃ o e s, Jn l o e s
  | _, [], _ => ⟨[], false, [], .nil⟩
  | m + 1, k :: r, h => by
    by_cases h0 : k.toNat = 0
    · exact ⟨[], true, r, .zero k r h0⟩
    by_cases h1 : r.length < k.toNat
    · exact ⟨[], false, [], .short k r (by omega) h1⟩
    obtain ⟨o, e, s, ih⟩ := Jn.ex_aux m (r.drop k.toNat) (by rw [List.length_drop]; simp at h; omega)
    exact ⟨_, e, s, .step k r o e s (by omega) (by omega) ih⟩
theorem Jn.ex (l : List UInt8) : ∃ o e s, Jn l o e s := Jn.ex_aux l.length l (Nat.le_refl _)

/-- Where the rest begins with a byte: the four ways. -/
theorem Jn.at {l o s : List UInt8} {e : Bool} {i : Nat} (h : Jn (l.drop i) o e s) :
    (l.length ≤ i ∧ o = [] ∧ e = false ∧ s = []) ∨ (i < l.length ∧ (l.getD i 0).toNat = 0 ∧ o = [] ∧ e = true ∧ s = l.drop (i + 1)) ∨ (i < l.length ∧ 0 < (l.getD i 0).toNat ∧ l.length < i + 1 + (l.getD i 0).toNat ∧ o = [] ∧ e = false ∧ s = []) ∨
    (i < l.length ∧ 0 < (l.getD i 0).toNat ∧ i + 1 + (l.getD i 0).toNat ≤ l.length ∧ ∃ o', o = (l.drop (i + 1)).take (l.getD i 0).toNat ++ o' ∧ Jn (l.drop (i + 1 + (l.getD i 0).toNat)) o' e s) := by
  by_cases hi : i < l.length
  · have hd : l.drop i = l.getD i 0 :: l.drop (i + 1) := by
      rw [List.drop_eq_getElem_cons hi, List.getD_eq_getElem?_getD, List.getElem?_eq_getElem hi]
      rfl
    rw [hd] at h
    have hdl : (l.drop (i + 1)).length = l.length - (i + 1) := List.length_drop
    cases h with
    | zero _ _ h0 => exact Or.inr (Or.inl ⟨hi, h0, rfl, rfl, rfl⟩)
    | short _ _ h0 h1 => exact Or.inr (Or.inr (Or.inl ⟨hi, h0, by omega, rfl, rfl, rfl⟩))
    | step _ _ o' _ _ h0 h1 h2 =>
      rw [List.drop_drop] at h2
      exact Or.inr (Or.inr (Or.inr ⟨hi, h0, by omega, o', rfl, h2⟩))
  · rw [List.drop_eq_nil_of_le (by omega)] at h
    cases h
    exact Or.inl ⟨by omega, rfl, rfl, rfl⟩

/-- It joins to no more bytes than it has. -/
theorem Jn.le_aux : ∀ {l o s : List UInt8} {e : Bool}, Jn l o e s → o.length ≤ l.length := by
  intro l o s e h
  induction h with
  | nil => exact Nat.le_refl _
  | zero _ _ _ => exact Nat.zero_le _
  | short _ _ _ _ => exact Nat.zero_le _
  | step k r o e s _ h1 _ ih =>
    rw [List.length_append, List.length_take, List.length_cons]
    rw [List.length_drop] at ih
    omega
/-- Only one. -/
theorem Jn.one : ∀ {l o s o2 s2 : List UInt8} {e e2 : Bool}, Jn l o e s → Jn l o2 e2 s2 → o = o2 ∧ e = e2 ∧ s = s2 := by
  intro l o s o2 s2 e e2 h
  induction h generalizing o2 s2 e2 with
  | nil => intro h; cases h; exact ⟨rfl, rfl, rfl⟩
  | zero k r h0 => intro h; cases h with
    | zero _ _ _ => exact ⟨rfl, rfl, rfl⟩
    | short _ _ h1 _ => omega
    | step _ _ _ _ _ h1 _ _ => omega
  | short k r h0 h1 => intro h; cases h with
    | zero _ _ h2 => omega
    | short _ _ _ _ => exact ⟨rfl, rfl, rfl⟩
    | step _ _ _ _ _ _ h2 _ => omega
  | step k r o e s h0 h1 _ ih => intro h; cases h with
    | zero _ _ h2 => omega
    | short _ _ _ h2 => omega
    | step _ _ o' _ _ _ _ h2 =>
      obtain ⟨rfl, rfl, rfl⟩ := ih h2
      exact ⟨rfl, rfl, rfl⟩
end Go.Proofs.Ythlhcfjpijilaaa
