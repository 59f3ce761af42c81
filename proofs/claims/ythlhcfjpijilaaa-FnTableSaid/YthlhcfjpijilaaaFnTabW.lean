/- laws.FnTable: the walks: true for every slice of colors and every size. -/
import Derived.Test.YthlhcfjpijilaaaSpTable
import Derived.Deep.RegionWith
import Derived.Laws.IdiomStrings
namespace Go.Proofs.Ythlhcfjpijilaaa
open Go Go.ChangeShapes Go.WideShapes Go.ChangeAt Go.RowKit Go.Lib

/-- 'string(b)' of bytes that are read: the bytes. -/
theorem conv_bytes (c : Nat) {w : World} {B n : Nat} {A : Option Addr} {l : List UInt8} (h : Reads w B A (byteCells l)) (hl : l.length = n) (hn : 0 < n) :
    (convert 25 9 (.slice A n c)).run Try.prog w = .ok (.string ⟨l.toArray⟩) w := by
  subst hl
  obtain ⟨b, off, rfl, _, hc⟩ := h.bytes hn
  exact run_convert_bytes_back w _ _ 5 ⟨b, off, none⟩ c l Try.underlying25 Try.underlying5 Try.underlying9 (fun j hj => by rw [add_lit]; exact hc j hj)
theorem below_of_drew {B : Nat} {w w' : World} (h : Below B w.drew w') : Below B w w' := ⟨h.os, h.tape, h.output, h.size, h.block⟩
theorem Reads.reach {w w' : World} {A : Option Addr} {xs : List Value} (h : Reads w w.heap.size A xs) (hb : Below w.heap.size w w') : Reads w' w'.heap.size A xs := (h.below hb).more hb.size
theorem Reads.take {w : World} {B : Nat} {A : Option Addr} {xs : List Value} (h : Reads w B A xs) (k : Nat) : Reads w B A (xs.take k) := fun hp => by
  obtain ⟨b, off, e, hb, hc⟩ := h (by rw [List.length_take] at hp; omega)
  refine ⟨b, off, e, hb, fun j u hu => hc j u ?_⟩
  rw [List.getElem?_take] at hu
  split at hu
  · exact hu
  · cases hu

theorem fntab_big (w : World) (A : Option Addr) (n c : Nat) (size : Int) (hbig : 2147483647 < n) :
    Calls Try.prog 4 #[.slice A n c, .int .i64 size] w fun e w' => e = .returned (.bool true) ∧ Below w.heap.size w w' := by
  have h1 : (2147483647 : Int) < (n : Int) := by omega
  go_enter Try.func4, Try.ntmps4
  go_wp2
  go_ret
  exact ⟨rfl, Below.refl _ _⟩

theorem fntab_many (w : World) (A : Option Addr) (n c size N : Nat) (hbig : n ≤ 2147483647) (hsz : size ≤ 7) (hN : 2 ^ (size + 1) = N) (hn : N < n) :
    Calls Try.prog 4 #[.slice A n c, .int .i64 size] w fun e w' => e = .returned (.bool true) ∧ Below w.heap.size w w' := by
  have hN256 : N ≤ 256 := by rw [← hN]; exact Nat.pow_le_pow_right (n := 2) (by omega) (show size + 1 ≤ 8 by omega)
  have hpw : (2 : Int) * 2 ^ size = (N : Int) := by rw [← hN, Nat.pow_succ, Int.natCast_mul, pow_int]; omega
  have h1 : (n : Int) ≤ (2147483647 : Int) := by omega
  clear hN
  go_enter Try.func4, Try.ntmps4
  go_wp2
  go_ret
  exact ⟨rfl, Below.refl _ _⟩

set_option maxHeartbeats 1000000 in
theorem fntab_bad_few (w : World) (A : Option Addr) (n c : Nat) (size : Int) (l : List Sh) (hl : l.length = n) (hn : n ≤ 256) (hc : n ≤ c) (hr : Reads w w.heap.size A (shCells l)) (hlo : -9223372036854775808 ≤ size) (hhi : size ≤ 9223372036854775807) (hbad : size < 0 ∨ 7 < size) :
    Calls Try.prog 4 #[.slice A n c, .int .i64 size] w fun e w' => e = .returned (.bool true) ∧ Below w.heap.size w w' := by
  have h1 : (n : Int) ≤ (2147483647 : Int) := by omega
  have h2 : (n : Int) ≤ (256 : Int) := by omega
  have Hbad := Lib.hid hbad
  have Hl := Lib.hid hl
  have Hr := Lib.hid hr
  clear hr hl hbad
  rcases Hbad.out with hneg | hpos
  all_goals
    go_enter Try.func4, Try.ntmps4
    go_wp2_with fail
    refine (solid_any w A n c l Hl.out hn Hr.out).mono ?_
    rintro e w1 ⟨A1, c1, rfl, hown1, hb1⟩
    have Hown1 := Lib.hid hown1
    have Hb1 := Lib.hid hb1
    clear hown1 hb1
    go_wp2_with fail
    refine (table_bad w1 A1 n c1 size (solidL l) (by rw [solidL_length, Hl.out]) hn (reads_own Hown1.out) hlo hhi Hbad.out).mono ?_
    rintro e w2 ⟨rfl, hb2⟩
    have Hb2 := Lib.hid hb2
    clear hb2
    go_wp2
    go_ret
    exact ⟨rfl, Hb1.out.trans (Hb2.out.mono Hb1.out.size)⟩

set_option maxHeartbeats 1000000 in
theorem fntab_bad_many (w : World) (A : Option Addr) (n c : Nat) (size : Int) (l : List Sh) (hl : l.length = n) (hn : 256 < n) (hbig : n ≤ 2147483647) (hc : n ≤ c) (hr : Reads w w.heap.size A (shCells l)) (hlo : -9223372036854775808 ≤ size) (hhi : size ≤ 9223372036854775807) (hbad : size < 0 ∨ 7 < size) :
    Calls Try.prog 4 #[.slice A n c, .int .i64 size] w fun e w' => e = .returned (.bool true) ∧ Below w.heap.size w w' := by
  have h1 : (n : Int) ≤ (2147483647 : Int) := by omega
  have h2 : (256 : Int) < (n : Int) := by omega
  have hlm : (l.take 256).length = 256 := by rw [List.length_take]; omega
  have hrm : Reads w w.heap.size A (shCells (l.take 256)) := by
    have e : shCells l = shCells (l.take 256) ++ shCells (l.drop 256) := by rw [← shCells_append, List.take_append_drop]
    have := hr.take (4 * 256)
    rw [e, List.take_append_of_le_length (by rw [shCells_length, hlm]; omega), List.take_of_length_le (by rw [shCells_length, hlm]; omega)] at this
    exact this
  have Hbad := Lib.hid hbad
  have Hl := Lib.hid hlm
  have Hr := Lib.hid hrm
  clear hr hl hbad hlm hrm
  rcases Hbad.out with hneg | hpos
  all_goals
    go_enter Try.func4, Try.ntmps4
    go_wp2_with fail
    refine (solid_any w A 256 c (l.take 256) Hl.out (by omega) Hr.out).mono ?_
    rintro e w1 ⟨A1, c1, rfl, hown1, hb1⟩
    have Hown1 := Lib.hid hown1
    have Hb1 := Lib.hid hb1
    clear hown1 hb1
    go_wp2_with fail
    refine (table_bad w1 A1 256 c1 size (solidL (l.take 256)) (by rw [solidL_length, Hl.out]) (by omega) (reads_own Hown1.out) hlo hhi Hbad.out).mono ?_
    rintro e w2 ⟨rfl, hb2⟩
    have Hb2 := Lib.hid hb2
    clear hb2
    go_wp2
    go_ret
    exact ⟨rfl, Hb1.out.trans (Hb2.out.mono Hb1.out.size)⟩

set_option maxHeartbeats 1000000 in
theorem fntab_main (w : World) (A : Option Addr) (n c size N : Nat) (l : List Sh) (hl : l.length = n) (hsz : size ≤ 7) (hN : 2 ^ (size + 1) = N) (hn : n ≤ N) (hr : Reads w w.heap.size A (shCells l)) :
    Calls Try.prog 4 #[.slice A n c, .int .i64 size] w fun e w' => e = .returned (.bool true) ∧ Below w.heap.size w w' := by
  have hN256 : N ≤ 256 := by rw [← hN]; exact Nat.pow_le_pow_right (n := 2) (by omega) (show size + 1 ≤ 8 by omega)
  have hN0 : 0 < N := by rw [← hN]; exact Nat.two_pow_pos _
  have hpw : (2 : Int) * 2 ^ size = (N : Int) := by rw [← hN, Nat.pow_succ, Int.natCast_mul, pow_int]; omega
  have h1 : (n : Int) ≤ (2147483647 : Int) := by omega
  have Hl := Lib.hid hl
  have Hr := Lib.hid hr
  have HN := Lib.hid hN
  have HT := Lib.hid (tabBytes_length l N (by omega))
  clear hr hl hN
  go_enter Try.func4, Try.ntmps4
  go_wp2_with fail
  refine (solid_any w A n c l Hl.out (by omega) Hr.out).mono ?_
  rintro e w1 ⟨A1, c1, rfl, hown1, hb1⟩
  have Hown1 := Lib.hid hown1
  have Hb1 := Lib.hid hb1
  clear hown1 hb1 hpw
  go_wp2_with fail
  refine (table_any w1 A1 n c1 size N (solidL l) (by rw [solidL_length, Hl.out]) hsz HN.out hn (reads_own Hown1.out)).mono ?_
  rintro e w2 ⟨A2, c2, rfl, hown2, hb2⟩
  rw [tabBytes_solid] at hown2
  have Hown2 := Lib.hid hown2
  have Hb2 := Lib.hid (Hb1.out.trans (hb2.mono Hb1.out.size))
  clear hown2 hb2
  have k1 := conv_bytes c2 (w := w2.drew) (B := w2.heap.size) (reads_own Hown2.out) HT.out (by omega)
  go_wp2_with fail
  go_region_with (first
    | (go_at_call 11; refine (shades_any _ A n c l Hl.out (by omega) (by exact Hr.out.reach Hb2.out.drew)).mono ?_; rintro e w3 ⟨A3, c3, rfl, hown3, hb3⟩; have k2 := conv_bytes c2 ((reads_own Hown2.out).below (below_of_drew (w := w2) hb3)) HT.out (by omega); have Hown3 := Lib.hid hown3; have Hb3 := Lib.hid (below_of_drew (w := w2) hb3); clear hown3 hb3)
    | (go_at_call 10; refine (sptable_any _ A3 n c3 size N l Hl.out hsz HN.out hn (by exact reads_own Hown3.out)).mono ?_; rintro e w4 ⟨A4, c4, rfl, hown4, hb4⟩; have k3 := conv_bytes c4 (reads_own hown4) HT.out (by omega); have k4 := conv_bytes c2 ((reads_own Hown2.out).below (Hb3.out.trans (hb4.mono Hb3.out.size))) HT.out (by omega); have Hb4 := Lib.hid hb4; clear hown4 hb4))
  all_goals
    go_wp2
    go_ret
    exact ⟨rfl, Hb2.out.trans ((Hb3.out.mono Hb2.out.size).trans (Hb4.out.mono (Nat.le_trans Hb2.out.size Hb3.out.size)))⟩

theorem fntab_any (w : World) (A : Option Addr) (n c : Nat) (size : Int) (l : List Sh) (hl : l.length = n) (hc : n ≤ c) (hr : Reads w w.heap.size A (shCells l)) (hlo : -9223372036854775808 ≤ size) (hhi : size ≤ 9223372036854775807) :
    Calls Try.prog 4 #[.slice A n c, .int .i64 size] w fun e w' => e = .returned (.bool true) ∧ Below w.heap.size w w' := by
  by_cases h1 : 2147483647 < n
  · exact fntab_big w A n c size h1
  by_cases h2 : size < 0 ∨ 7 < size
  · by_cases h3 : n ≤ 256
    · exact fntab_bad_few w A n c size l hl h3 hc hr hlo hhi h2
    · exact fntab_bad_many w A n c size l hl (by omega) (by omega) hc hr hlo hhi h2
  obtain ⟨k, rfl⟩ : ∃ k : Nat, size = k := ⟨size.toNat, by omega⟩
  by_cases h4 : 2 ^ (k + 1) < n
  · exact fntab_many w A n c k _ (by omega) (by omega) rfl h4
  · exact fntab_main w A n c k _ l hl (by omega) rfl (by omega) hr
end Go.Proofs.Ythlhcfjpijilaaa
