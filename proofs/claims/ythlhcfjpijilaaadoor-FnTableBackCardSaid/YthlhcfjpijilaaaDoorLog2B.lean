/- Walks of the package's log2 and of its thin exports. -/
import Derived.Test.YthlhcfjpijilaaaDoorRows
import Derived.Test.YthlhcfjpijilaaaDoorShelfBits
import Derived.Test.YthlhcfjpijilaaaDoorBits
import Derived.WalkKit
import Derived.ProofKit
import Derived.OpenShut
import Derived.WalkLawsBesides
import Derived.WalkSpells
import Derived.Lib.Hide
import Derived.Outline
namespace Go.Proofs.YthlhcfjpijilaaaDoor
open Go Go.ChangeShapes Go.WideShapes Go.ChangeAt Go.RowKit

theorem log2_any (n : Int) (w : World) (hlo : -9223372036854775808 ≤ n) (hn : n ≤ 9223372036854775807) :
    Calls Tryd.prog 34 #[.int .i64 n] w fun e w' => e = .returned (.int .i64 (log2F n)) ∧ w = w' := by
  by_cases h2 : n < 2
  · go_enter Tryd.func34, Tryd.ntmps34
    go_wp2
    go_ret
    exact ⟨by simp [log2F, h2], rfl⟩
  · have hp := bitLen_pos (n - 1).toNat (by omega)
    have hle : Lib.bitLen (n - 1).toNat ≤ 64 := Lib.bitLen_le _ 64 (by omega) (by
      have : (n - 1).toNat < 9223372036854775808 := by omega
      exact Nat.lt_of_lt_of_le this (by decide))
    have H : Hid (Lib.bitLen (n - 1).toNat - 1 = log2F n) := by unfold log2F; rw [if_neg h2]; exact Lib.hid rfl
    revert hp hle H
    generalize hb : Lib.bitLen (n - 1).toNat = b
    have Hb := Lib.hid hb
    clear hb
    intro hp hle H
    go_enter Tryd.func34, Tryd.ntmps34
    go_wp2_with (go_at_call 42; refine (Tryd.bits_Len _ _ (by omega) (by omega)).mono ?_; rintro e w' ⟨rfl, rfl⟩; rw [Hb.out])
    go_ret
    have e : ((b : Int) - 1) = ((b - 1 : Nat) : Int) := by omega
    exact ⟨by rw [← H.out, ← e]; rfl, rfl⟩

theorem zzlog2_any (n : Int) (w : World) (hlo : -9223372036854775808 ≤ n) (hn : n ≤ 9223372036854775807) :
    Calls Tryd.prog 26 #[.int .i64 n] w fun e w' => e = .returned (.int .i64 (log2F n)) ∧ w = w' := by
  go_enter Tryd.func26, Tryd.ntmps26
  go_wp2_with (go_at_call 34; refine (log2_any _ _ hlo hn).mono ?_; rintro e w' ⟨rfl, rfl⟩)
  go_ret
  exact ⟨rfl, rfl⟩

theorem ilog2_any (n : Int) (w : World) (hlo : -9223372036854775808 ≤ n) (hn : n ≤ 9223372036854775807) :
    Calls Tryd.prog 18 #[.int .i64 n] w fun e w' => e = .returned (.int .i64 (log2F n)) ∧ w = w' := by
  go_enter Tryd.func18, Tryd.ntmps18
  go_wp2_with (go_at_call 26; refine (zzlog2_any _ _ hlo hn).mono ?_; rintro e w' ⟨rfl, rfl⟩)
  go_ret
  exact ⟨rfl, rfl⟩
end Go.Proofs.YthlhcfjpijilaaaDoor
