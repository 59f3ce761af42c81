/- Plain facts: how many bits a number has, and the size of a table for so many colors: no program in sight. -/
import Derived.Lib.BitFns
namespace Go.Proofs.YthlhcfjpijilaaaDoor
open Go

theorem bitLen_pos (x : Nat) (h0 : x ≠ 0) : 1 ≤ Lib.bitLen x := by
  unfold Lib.bitLen
  rw [show (64 : Nat) = 63 + 1 from rfl, Lib.bitLenAux, if_neg h0]
  omega

theorem bitLen_lt (x : Nat) (h : x < 2 ^ 64) : x < 2 ^ Lib.bitLen x := by
  have aux : ∀ k, ∀ x, x < 2 ^ k → k ≤ 64 → x < 2 ^ Lib.bitLen x := by
    intro k
    induction k with
    | zero => intro x hx _; simp at hx; subst hx; exact Nat.two_pow_pos _
    | succ k ih =>
      intro x hx hk
      by_cases h0 : x = 0
      · subst h0; exact Nat.two_pow_pos _
      · have hx64 : x < 2 ^ 64 := Nat.lt_of_lt_of_le hx (Nat.pow_le_pow_right (by omega) hk)
        rw [Lib.bitLen_half x h0 hx64]
        have := ih (x / 2) (by rw [Nat.pow_succ] at hx; omega) (by omega)
        rw [Nat.pow_add]
        omega
  exact aux 64 x h (Nat.le_refl _)

theorem bitLen_ge (x : Nat) (h0 : x ≠ 0) (h : x < 2 ^ 64) : 2 ^ (Lib.bitLen x - 1) ≤ x := by
  have aux : ∀ k, ∀ x, x ≠ 0 → x < 2 ^ k → k ≤ 64 → 2 ^ (Lib.bitLen x - 1) ≤ x := by
    intro k
    induction k with
    | zero => intro x h0 hx _; simp at hx; omega
    | succ k ih =>
      intro x h0 hx hk
      have hx64 : x < 2 ^ 64 := Nat.lt_of_lt_of_le hx (Nat.pow_le_pow_right (by omega) hk)
      rw [Lib.bitLen_half x h0 hx64]
      by_cases h1 : x / 2 = 0
      · rw [h1]; show 2 ^ (1 + 0 - 1) ≤ x; simp; omega
      · have hp := bitLen_pos (x / 2) h1
        have := ih (x / 2) h1 (by rw [Nat.pow_succ] at hx; omega) (by omega)
        rw [show 1 + Lib.bitLen (x / 2) - 1 = (Lib.bitLen (x / 2) - 1) + 1 from by omega, Nat.pow_succ]
        omega
  exact aux 64 x h0 h (Nat.le_refl _)

/-- what 'log2' of the package answers. -/
def log2F (n : Int) : Nat := if n < 2 then 0 else Lib.bitLen (n - 1).toNat - 1

/-- r is the least number for which 2 to r + 1 are n at least (62 where there is none up to 61). -/
def IsSize (n : Int) (r : Nat) : Prop := r ≤ 62 ∧ (∀ j, j < r → (2 : Int) * 2 ^ j < n) ∧ (r < 62 → n ≤ 2 * 2 ^ r)

theorem pow_int (j : Nat) : ((2 ^ j : Nat) : Int) = (2 : Int) ^ j := by
  induction j with
  | zero => rfl
  | succ j ih => rw [Nat.pow_succ, Int.pow_succ, ← ih]; simp

theorem isSize_log2 (n : Int) (hn : n ≤ 9223372036854775807) (r : Nat) (h : IsSize n r) : r = log2F n := by
  obtain ⟨h1, h2, h3⟩ := h
  unfold log2F
  by_cases hs : n < 2
  · rw [if_pos hs]
    rcases Nat.eq_zero_or_pos r with h0 | h0
    · exact h0
    · have := h2 0 h0; simp at this; omega
  · rw [if_neg hs]
    have hx0 : (n - 1).toNat ≠ 0 := by omega
    have hx64 : (n - 1).toNat < 2 ^ 64 := by
      have : (n - 1).toNat < 9223372036854775808 := by omega
      exact Nat.lt_of_lt_of_le this (by decide)
    have hlt := bitLen_lt _ hx64
    have hge := bitLen_ge _ hx0 hx64
    have hp := bitLen_pos _ hx0
    have h63 : Lib.bitLen (n - 1).toNat ≤ 63 := Lib.bitLen_le _ 63 (by omega) (by
      have : (n - 1).toNat < 9223372036854775808 := by omega
      exact Nat.lt_of_lt_of_le this (by decide))
    revert hlt hge hp h63
    generalize Lib.bitLen (n - 1).toNat = b
    intro hlt hge hp h63
    obtain ⟨c, rfl⟩ : ∃ c, b = c + 1 := ⟨b - 1, by omega⟩
    simp only [Nat.add_sub_cancel] at hge ⊢
    have hge' : (2 : Int) ^ c ≤ n - 1 := by rw [← pow_int]; omega
    have hlt' : n - 1 < 2 * (2 : Int) ^ c := by rw [← pow_int]; rw [Nat.pow_succ] at hlt; omega
    rcases Nat.lt_trichotomy r c with hlt2 | heq | hgt
    · exfalso
      have := h3 (by omega)
      have hmono : (2 : Nat) ^ (r + 1) ≤ 2 ^ c := Nat.pow_le_pow_right (by omega) hlt2
      have hm : (2 : Int) * 2 ^ r ≤ 2 ^ c := by rw [← pow_int, ← pow_int]; rw [Nat.pow_succ] at hmono; omega
      omega
    · exact heq
    · exfalso
      have := h2 c hgt
      omega
end Go.Proofs.YthlhcfjpijilaaaDoor
