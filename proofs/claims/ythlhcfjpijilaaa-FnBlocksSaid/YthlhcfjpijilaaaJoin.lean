/- spec.Joined: the walk. -/
import Derived.Test.YthlhcfjpijilaaaJn
import Derived.Test.YthlhcfjpijilaaaClone
import Derived.Test.YthlhcfjpijilaaaAppend
import Derived.Test.YthlhcfjpijilaaaCopy
import Derived.Deep.LoopGhost
import Derived.Deep.RegionLaw
import Derived.Deep.DeepCutAuto
namespace Go.Proofs.Ythlhcfjpijilaaa
open Go Go.ChangeShapes Go.WideShapes Go.ChangeAt Go.RowKit Go.Lib

theorem take_drop_at (l : List UInt8) (i k j : Nat) (hj : j < k) : (byteCells ((l.drop i).take k))[j]? = (byteCells l)[i + j]? := by
  unfold byteCells
  rw [List.getElem?_map, List.getElem?_map, List.getElem?_take, if_pos hj, List.getElem?_drop]

def JnRel (w : World) (l o : List UInt8) (e : Bool) (s : List UInt8) (n g : Nat) (v iv : Value) (wr : World) : Prop :=
  ∃ i out o', g + i = n ∧ iv = .int .i64 ((i : Nat) : Int) ∧ o = out ++ o' ∧ Jn (l.drop i) o' e s ∧ out.length ≤ i ∧ wr.ownsRow w.heap.size 5 1 v out.length (byteCells out) ∧ Below w.heap.size w wr

/-- What spec.Joined hands back. -/
def JnOut (w : World) (n : Nat) (o : List UInt8) (e : Bool) (s : List UInt8) (x : Ending) (w' : World) : Prop :=
  ∃ A' c', x = .returned (.tuple #[.slice A' o.length c', .int .i64 ((n - s.length : Nat) : Int), .bool e]) ∧ w'.ownsRow w.heap.size 5 1 (.slice A' o.length c') o.length (byteCells o) ∧ Below w.heap.size w w'

set_option maxRecDepth 100000 in
set_option maxHeartbeats 2000000 in
theorem joined_any (w : World) (A : Option Addr) (n c : Nat) (l o : List UInt8) (e : Bool) (s : List UInt8) (hj : Jn l o e s) (hl : l.length = n) (hn : n ≤ 16777216) (hnc : n ≤ c) (hr : Reads w w.heap.size A (byteCells l)) :
    Calls Try.prog 13 #[.slice A n c] w fun x w' => JnOut w n o e s x w' := by
  obtain ⟨i0, hi, hz0, hz1, hz2⟩ := info_parts info5
  have Hr := Lib.hid hr
  have Hl := Lib.hid hl
  have Hj := Lib.hid hj
  clear hr hl hj
  go_enter Try.func13, Try.ntmps13
  go_wp2
  go_loopg [5, 6] n (fun g v iv wr => JnRel w l o e s n g v iv wr)
  case atStart => exact ⟨0, [], o, by omega, rfl, rfl, by simpa using Hj.out, Nat.le_refl _, World.ownsRow_made w #[] 0 (Nat.le_refl _) (Nat.zero_le _) rfl, (Below.refl _ w).alloc (Nat.le_refl _) _⟩
  case round =>
    obtain ⟨i, out, o', hg, rfl, ho, hjn, hol, hown, hbel⟩ := hrel
    rcases hjn.at with ⟨h1, rfl, rfl, rfl⟩ | ⟨h1, h2, rfl, rfl, hs⟩ | ⟨h1, h2, h3, rfl, rfl, rfl⟩ | ⟨h1, h2, h3, o2, rfl, hj2⟩
    · rw [List.append_nil] at ho
      subst ho
      have hd : decide (i < n) = false := by simp; have := Hl.out; omega
      have hx : ¬ (i : Int) < (n : Int) := by have := Hl.out; omega
      obtain ⟨A1, c1, rfl, _, _⟩ := own_slice hown
      have Hown := Lib.hid hown
      have Hbel := Lib.hid hbel
      clear hown hbel hg
      go_wp2
      go_ret3
      exact ⟨A1, c1, rfl, Hown.out, Hbel.out⟩
    · rw [List.append_nil] at ho
      subst ho
      have hlt : i < n := by have := Hl.out; omega
      obtain ⟨b, off, rfl, hb, hc⟩ := Hr.out (by have := Hl.out; simp [byteCells]; omega)
      have c0 : wr.cell? ⟨b, off + i, none⟩ = some (.int .u8 ((l.getD i 0).toNat : Int)) := by
        refine (hbel.cell (p := ⟨b, _, none⟩) hb).trans (hc i _ ?_)
        rw [byteCells_at h1, List.getD_eq_getElem?_getD, List.getElem?_eq_getElem h1]
        rfl
      have hd : decide ((i : Int) < (n : Int)) = true := by simp; omega
      have hx255 : (l.getD i 0).toNat ≤ 255 := by have := (l.getD i 0).toNat_lt; omega
      obtain ⟨x, hx⟩ : ∃ x, x = (l.getD i 0).toNat := ⟨_, rfl⟩
      rw [← hx] at c0 h2 hx255
      subst h2
      obtain ⟨A1, c1, rfl, _, _⟩ := own_slice hown
      have hsl : n - s.length = i + 1 := by rw [hs, List.length_drop, Hl.out]; omega
      have Hsl := Lib.hid (show Value.int .i64 ((i : Int) + 1) = Value.int .i64 ((n - s.length : Nat) : Int) by rw [hsl]; rfl)
      have Hown := Lib.hid hown
      have Hbel := Lib.hid hbel
      clear hown hbel hg hx hc hs hsl
      go_wp2
      go_ret3
      exact ⟨A1, c1, by rw [← Hsl.out]; rfl, Hown.out, Hbel.out⟩
    · rw [List.append_nil] at ho
      subst ho
      have hlt : i < n := by have := Hl.out; omega
      obtain ⟨b, off, rfl, hb, hc⟩ := Hr.out (by have := Hl.out; simp [byteCells]; omega)
      have c0 : wr.cell? ⟨b, off + i, none⟩ = some (.int .u8 ((l.getD i 0).toNat : Int)) := by
        refine (hbel.cell (p := ⟨b, _, none⟩) hb).trans (hc i _ ?_)
        rw [byteCells_at h1, List.getD_eq_getElem?_getD, List.getElem?_eq_getElem h1]
        rfl
      have hd : decide ((i : Int) < (n : Int)) = true := by simp; omega
      have hx255 : (l.getD i 0).toNat ≤ 255 := by have := (l.getD i 0).toNat_lt; omega
      obtain ⟨x, hx⟩ : ∃ x, x = (l.getD i 0).toNat := ⟨_, rfl⟩
      rw [← hx] at c0 h2 hx255
      rw [← hx] at h3
      have hx0 : ((x : Int) == 0) = false := by simp; omega
      have hgt : (n : Int) < (i : Int) + 1 + (x : Int) := by have := Hl.out; omega
      obtain ⟨A1, c1, rfl, _, _⟩ := own_slice hown
      have Hown := Lib.hid hown
      have Hbel := Lib.hid hbel
      clear hown hbel hg hx hc
      go_wp2
      go_ret3
      exact ⟨A1, c1, rfl, Hown.out, Hbel.out⟩
    · have hlt : i < n := by have := Hl.out; omega
      obtain ⟨b, off, rfl, hb, hc⟩ := Hr.out (by have := Hl.out; simp [byteCells]; omega)
      have c0 : wr.cell? ⟨b, off + i, none⟩ = some (.int .u8 ((l.getD i 0).toNat : Int)) := by
        refine (hbel.cell (p := ⟨b, _, none⟩) hb).trans (hc i _ ?_)
        rw [byteCells_at h1, List.getD_eq_getElem?_getD, List.getElem?_eq_getElem h1]
        rfl
      have hd : decide ((i : Int) < (n : Int)) = true := by simp; omega
      have hx255 : (l.getD i 0).toNat ≤ 255 := by have := (l.getD i 0).toNat_lt; omega
      obtain ⟨x, hx⟩ : ∃ x, x = (l.getD i 0).toNat := ⟨_, rfl⟩
      rw [← hx] at c0 h2 hx255
      rw [← hx] at h3 ho hj2
      have hx0 : ((x : Int) == 0) = false := by simp; omega
      have hgt : ¬ (n : Int) < (i : Int) + 1 + (x : Int) := by have := Hl.out; omega
      have hnl : i + 1 + x ≤ n := by have := Hl.out; omega
      have hll : ((l.drop (i + 1)).take x).length = x := by rw [List.length_take, List.length_drop]; have := Hl.out; omega
      have hsrc : Reads wr w.heap.size (some ⟨b, off + (i + 1), none⟩) (byteCells ((l.drop (i + 1)).take x)) := fun _ => ⟨b, off + (i + 1), rfl, hb, fun j u hu => by
        have hj : j < x := by have := (List.getElem?_eq_some_iff.1 hu).1; rw [byteCells_length, hll] at this; exact this
        refine (hbel.cell (p := ⟨b, _, none⟩) hb).trans ?_
        rw [Nat.add_assoc]
        exact hc _ _ (by rw [← hu, take_drop_at l (i + 1) x j hj])⟩
      have p1 : (0 : Int) ≤ (i : Int) + 1 := by omega
      have p2 : (i : Int) + 1 ≤ (i : Int) + 1 + (x : Int) := by omega
      have p3 : (i : Int) + 1 + (x : Int) ≤ (c : Int) := by omega
      have p4 : ((i : Int) + 1 + (x : Int)).toNat = i + 1 + x := by omega
      have p5 : ((i : Int) + 1).toNat = i + 1 := by omega
      have p6 : ¬ c = i + 1 := by omega
      have p7 : i + 1 + x - (i + 1) = x := by omega
      have Hl1 := Lib.hid (show (byteCells ((l.drop (i + 1)).take x)).length = x * 1 by rw [byteCells_length, hll, Nat.mul_one])
      have Hb1 := Lib.hid (show out.length + x ≤ maxLen by unfold maxLen; omega)
      have Hb2 := Lib.hid (show (out.length + x) * 1 ≤ 140737488355328 by omega)
      have Hown := Lib.hid hown
      have Hbel := Lib.hid hbel
      have Hg := Lib.hid hg
      have Hho := Lib.hid ho
      have Hj2 := Lib.hid hj2
      have Hll := Lib.hid hll
      have Hsrc := Lib.hid hsrc
      have Hol := Lib.hid hol
      clear hown hbel hg ho hj2 hx hc hll hsrc hol hjn h1 h3
      have Hv := Lib.hid (show Value.int .i64 ((i : Int) + (1 + (x : Int))) = Value.int .i64 ((i + 1 + x : Nat) : Int) by congr 1; omega)
      go_upto_region 10 with (at_builtin; refine wpList_append_any rfl (.tmp 33) (.tmp 41) 25 rfl w.heap.size 5 i0 (.int .u8 0) 1 1 Try.underlying25 hi hz0 hz1 hz2 rfl (by decide) _ out.length _ rfl Hown.out w.heap.size (some ⟨b, off + (i + 1), none⟩) x (c - (i + 1)) (byteCells ((l.drop (i + 1)).take x)) rfl Hl1.out Hsrc.out (byteCells_oneCell _) Hb1.out Hb2.out Hbel.out.size ?_; intro v' w7 hown7 hgr7 hat7; have Hown7 := Lib.hid hown7; have Hgr7 := Lib.hid hgr7; clear hown7 hgr7 hat7)
      have bi : (i : Int) ≤ 16777216 := by omega
      have bx : (x : Int) ≤ 255 := by omega
      have Hnl := Lib.hid hnl
      clear p1 p2 p3 p4 p5 p6 p7 hgt hnl hd c0 hx0
      go_wp2
      go_roundg (n - (i + 1 + x))
      case measure => have := Hg.out; omega
      case rel =>
        refine ⟨i + 1 + x, out ++ (l.drop (i + 1)).take x, o2, by have := Hnl.out; omega, Hv.out, by rw [Hho.out, List.append_assoc], Hj2.out, by rw [List.length_append, Hll.out]; have := Hol.out; omega, ?_, Hbel.out.grown Hgr7.out Hbel.out.size (fun k hk => (Hown.out.lt k hk).1)⟩
        rw [List.length_append, Hll.out, byteCells_append]
        exact Hown7.out
end Go.Proofs.Ythlhcfjpijilaaa
