/- Walks of the package's log2, of its thin exports, and of the reference's Size. -/
import Derived.Test.YthlhcfjpijilaaaRows
import Derived.Test.YthlhcfjpijilaaaShelfBits
import Derived.Test.YthlhcfjpijilaaaBits
import Derived.WalkKit
import Derived.ProofKit
import Derived.OpenShut
import Derived.WalkLawsBesides
import Derived.WalkSpells
import Derived.Lib.Hide
import Derived.Outline
namespace Go.Proofs.Ythlhcfjpijilaaa
open Go Go.ChangeShapes Go.WideShapes Go.ChangeAt Go.RowKit

theorem wrap_pow (k : Nat) (hk : k < 62) : wrap64 (2 * 2 ^ k) = 2 * 2 ^ k := by
  have h : (2 : Nat) ^ k ≤ 2 ^ 61 := Nat.pow_le_pow_right (by omega) (by omega)
  have h0 : 0 < (2 : Nat) ^ k := Nat.two_pow_pos k
  have e := pow_int k
  have e61 : (2 : Nat) ^ 61 = 2305843009213693952 := by decide
  exact IntWalk.wrap64_in _ (by omega)

def SizeEnd (n : Int) (w : World) (e : Ending) (w' : World) : Prop := ∃ r : Nat, IsSize n r ∧ e = .returned (.int .i64 r) ∧ w = w'
def SizeUp (n : Int) (k : Nat) : Prop := ∀ j, j < k → (2 : Int) * 2 ^ j < n

theorem size_any0 (n : Int) (w : World) :
    Calls Try.prog 7 #[.int .i64 n] w fun e w' => SizeEnd n w e w' := by
  go_enter Try.func7, Try.ntmps7
  go_wp2
  go_loop [4] (fun i => ∃ k : Nat, k ≤ 62 ∧ i = .int .i64 k ∧ SizeUp n k) (fun i => 62 - (intOf i).toNat)
  case atStart => exact ⟨0, Nat.zero_le _, rfl, fun j hj => absurd hj (Nat.not_lt_zero _)⟩
  case round =>
    obtain ⟨k, hk, rfl, hup⟩ := hrel
    by_cases h62 : k < 62
    · have hw := Lib.hid (wrap_pow k h62)
      go_wp2
      · have h : n ≤ wrap64 (2 * 2 ^ k) := by assumption
        rw [hw.out] at h
        go_ret
        exact ⟨k, ⟨by omega, hup, fun _ => h⟩, rfl, rfl⟩
      · have h : wrap64 (2 * 2 ^ k) < n := by assumption
        rw [hw.out] at h
        go_round
        case rel =>
          refine ⟨k + 1, by omega, by go_num, fun j hj => ?_⟩
          rcases Nat.lt_succ_iff_lt_or_eq.1 hj with h' | rfl
          · exact hup j h'
          · exact h
        case measure => simp [intOf]; omega
    · have e62 : k = 62 := by omega
      subst e62
      go_wp2
      go_ret
      exact ⟨62, ⟨Nat.le_refl _, hup, fun h => absurd h (Nat.lt_irrefl _)⟩, rfl, rfl⟩

theorem size_any (n : Int) (w : World) (hn : n ≤ 9223372036854775807) :
    Calls Try.prog 7 #[.int .i64 n] w fun e w' => e = .returned (.int .i64 (log2F n)) ∧ w = w' :=
  (size_any0 n w).mono fun _ _ ⟨r, h, he, hw⟩ => ⟨by rw [he, isSize_log2 n hn r h], hw⟩

theorem log2_any (n : Int) (w : World) (hlo : -9223372036854775808 ≤ n) (hn : n ≤ 9223372036854775807) :
    Calls Try.prog 19 #[.int .i64 n] w fun e w' => e = .returned (.int .i64 (log2F n)) ∧ w = w' := by
  by_cases h2 : n < 2
  · go_enter Try.func19, Try.ntmps19
    go_wp2
    go_ret
    exact ⟨by simp [log2F, h2], rfl⟩
  · have hp := bitLen_pos (n - 1).toNat (by omega)
    have hle : Lib.bitLen (n - 1).toNat ≤ 64 := Lib.bitLen_le _ 64 (by omega) (by
      have : (n - 1).toNat < 9223372036854775808 := by omega
      exact Nat.lt_of_lt_of_le this (by decide))
    have H : Hid (Lib.bitLen (n - 1).toNat - 1 = log2F n) := by unfold log2F; rw [if_neg h2]; exact Lib.hid rfl
    revert hp hle H
    generalize hb : Lib.bitLen (n - 1).toNat = b
    have Hb := Lib.hid hb
    clear hb
    intro hp hle H
    go_enter Try.func19, Try.ntmps19
    go_wp2_with (go_at_call 26; refine (Try.bits_Len _ _ (by omega) (by omega)).mono ?_; rintro e w' ⟨rfl, rfl⟩; rw [Hb.out])
    go_ret
    have e : ((b : Int) - 1) = ((b - 1 : Nat) : Int) := by omega
    exact ⟨by rw [← H.out, ← e]; rfl, rfl⟩

theorem zzlog2_any (n : Int) (w : World) (hlo : -9223372036854775808 ≤ n) (hn : n ≤ 9223372036854775807) :
    Calls Try.prog 14 #[.int .i64 n] w fun e w' => e = .returned (.int .i64 (log2F n)) ∧ w = w' := by
  go_enter Try.func14, Try.ntmps14
  go_wp2_with (go_at_call 19; refine (log2_any _ _ hlo hn).mono ?_; rintro e w' ⟨rfl, rfl⟩)
  go_ret
  exact ⟨rfl, rfl⟩

theorem ilog2_any (n : Int) (w : World) (hlo : -9223372036854775808 ≤ n) (hn : n ≤ 9223372036854775807) :
    Calls Try.prog 6 #[.int .i64 n] w fun e w' => e = .returned (.int .i64 (log2F n)) ∧ w = w' := by
  go_enter Try.func6, Try.ntmps6
  go_wp2_with (go_at_call 14; refine (zzlog2_any _ _ hlo hn).mono ?_; rintro e w' ⟨rfl, rfl⟩)
  go_ret
  exact ⟨rfl, rfl⟩
end Go.Proofs.Ythlhcfjpijilaaa
