/- impl.ReadTable and laws.FnReadTable: the walks. -/
import Derived.Test.YthlhcfjpijilaaaDoorZrct
import Derived.Test.YthlhcfjpijilaaaDoorUnSh
import Derived.Test.YthlhcfjpijilaaaDoorTabOf
import Derived.Test.YthlhcfjpijilaaaDoorClone
namespace Go.Proofs.YthlhcfjpijilaaaDoor
open Go Go.ChangeShapes Go.WideShapes Go.ChangeAt Go.RowKit Go.Lib

theorem ownR {w : World} {base e size n c : Nat} {A : Option Addr} {xs : List Value} (h : w.ownsRow base e size (.slice A n c) n xs) : Reads w w.heap.size A xs := fun hp => by
  rcases h.2 with ⟨hv, rfl⟩ | ⟨g, cap, cur, hv, _, hg, _, _, _, ht⟩
  · have := h.1
    simp at this
    subst this
    exact absurd hp (by simp)
  · cases hv
    refine ⟨g, 0, rfl, (Array.getElem?_eq_some_iff.1 hg).1, fun j u hu => ?_⟩
    rw [cell_of_row w g _ cur e (0, 0) hg]
    rw [← ht, List.getElem?_take] at hu
    split at hu
    · simpa using hu
    · cases hu
theorem ownB {w : World} {base base' e size n : Nat} {v : Value} {xs : List Value} (h : w.ownsRow base e size v n xs) (hb : base' ≤ base) : w.ownsRow base' e size v n xs := by
  refine ⟨h.1, ?_⟩
  rcases h.2 with h2 | ⟨g, cap, cur, hv, hg1, rest⟩
  · exact Or.inl h2
  · exact Or.inr ⟨g, cap, cur, hv, Nat.le_trans hb hg1, rest⟩

set_option maxRecDepth 100000 in
set_option maxHeartbeats 1000000 in
theorem readt_any (w : World) (a1 a2 : Addr) (n c f N : Nat) (A : Option Addr) (l : List UInt8) (hf : f ≤ 255) (hN : 2 ^ (f % 8 + 1) = N) (hS : Sent w.heap.size a1 a2 w) (hA : Reads w w.heap.size A (byteCells l)) (hl : l.length = n) (hn : n ≤ 1000) :
    Calls Tryd.prog 12 #[.slice A n c, .int .u8 (f : Int)] w fun e w' =>
      (3 * N ≤ n → ∃ A' c', e = .returned (.tuple #[.slice A' N c', .bool true]) ∧ w'.ownsRow w.heap.size 48 4 (.slice A' N c') N (shCells (shOf l N))) ∧
        (¬ 3 * N ≤ n → e = .returned (.tuple #[.slice none 0 0, .bool false])) ∧ Below w.heap.size w w' := by
  have hN256 : N ≤ 256 := by rw [← hN]; exact Nat.pow_le_pow_right (n := 2) (by omega) (show f % 8 + 1 ≤ 8 by omega)
  have HS := Lib.hid hS
  have HA := Lib.hid hA
  have HN := Lib.hid hN
  subst hl
  clear hS hA hN
  go_enter Tryd.func12, Tryd.ntmps12
  go_wp2_with fail
  refine (clone_any A l.length c l w rfl (by omega) HA.out).mono ?_
  rintro e w1 ⟨A1, c1, rfl, hown1, hb1⟩
  obtain ⟨_, _, e1, hc1, hc2⟩ := own_slice hown1
  cases e1
  have Hown1 := Lib.hid hown1
  have Hb1 := Lib.hid hb1
  clear hown1 hb1
  go_wp2_with fail
  refine (zrct_any w1 a1 a2 l.length c1 f N A1 l hf HN.out ((HS.out.below Hb1.out).more Hb1.out.size) (ownR Hown1.out) rfl hc1 hc2).mono ?_
  rintro e w2 ⟨h1, h2, h3⟩
  have Hb2 := Lib.hid (Hb1.out.trans (h3.mono Hb1.out.size))
  clear h3
  by_cases hMn : 3 * N ≤ l.length
  · obtain ⟨G, rfl, hG, hbG⟩ := h1 hMn
    have hr2 : Reads w2 w2.heap.size (some ⟨G, 0, none⟩) (palCells 84 (shOf l N)) := fun _ => ⟨G, 0, rfl, hbG.lt, fun j u hu => by rw [Nat.zero_add, hbG.cell]; simpa using hu⟩
    have Hr2 := Lib.hid hr2
    clear h1 h2 hbG hr2
    go_wp2_with fail
    refine (unsh_any w2 (some ⟨G, 0, none⟩) N N (shOf l N) (shOf_length l N) hN256 Hr2.out).mono ?_
    rintro e w3 ⟨A3, c3, rfl, hown3, hb3⟩
    have Hown3 := Lib.hid (ownB hown3 Hb2.out.size)
    have Hb3 := Lib.hid (Hb2.out.trans (hb3.mono Hb2.out.size))
    clear hown3 hb3
    go_wp2
    go_ret2
    exact ⟨fun _ => ⟨A3, c3, rfl, Hown3.out⟩, fun h => absurd hMn h, Hb3.out⟩
  · obtain ⟨a, rfl⟩ := h2 hMn
    clear h1 h2
    go_wp2
    go_ret2
    exact ⟨fun h => absurd h hMn, fun _ => rfl, Hb2.out⟩
end Go.Proofs.YthlhcfjpijilaaaDoor
