/- impl.Unblocks: the walk. -/
import Derived.Test.YthlhcfjpijilaaaDoorZub
import Derived.Test.YthlhcfjpijilaaaDoorConv
import Derived.Deep.RegionWith
namespace Go.Proofs.YthlhcfjpijilaaaDoor
open Go Go.ChangeShapes Go.WideShapes Go.ChangeAt Go.RowKit Go.Lib

/-- What impl.Unblocks hands back. -/
def UbOut (w : World) (m : Nat) (o : List UInt8) (e : Bool) (x : Ending) (w' : World) : Prop :=
  Below w.heap.size w w' ∧ ∃ A c, (o.length = m ∧ x = .returned (.tuple #[.slice A m c, .bool true, .bool e]) ∧ w'.ownsRow w.heap.size 5 1 (.slice A m c) m (byteCells o)) ∨
    (o.length < m ∧ ∃ b, x = .returned (.tuple #[.slice A m c, .bool false, .bool b]))

set_option maxRecDepth 100000 in
set_option maxHeartbeats 4000000 in
theorem unb_any (w : World) (a1 a2 : Addr) (n c m : Nat) (A : Option Addr) (l o s : List UInt8) (e : Bool) (hj : Jn l o e s) (hom : o.length ≤ m) (hm : m ≤ 65536) (hS : Sent w.heap.size a1 a2 w) (hA : Reads w w.heap.size A (byteCells l)) (hl : l.length = n) (hn : n ≤ 140737488355328) :
    Calls Tryd.prog 16 #[.slice A n c, .int .i64 (m : Int)] w fun x w' => UbOut w m o e x w' := by
  have HS := Lib.hid hS
  have HA := Lib.hid hA
  have Hl := Lib.hid hl
  have Hj := Lib.hid hj
  have Hom := Lib.hid hom
  clear hS hA hl hj hom
  go_enter Tryd.func16, Tryd.ntmps16
  go_wp2_with fail
  refine (clone_any A n c l w Hl.out hn HA.out).mono ?_
  rintro x w1 ⟨A1, c1, rfl, hown1, hb1⟩
  rw [Hl.out] at hown1 ⊢
  have hcap := own_cap1 hown1
  have Hcap := Lib.hid hcap
  have Hown1 := Lib.hid hown1
  have Hb1 := Lib.hid hb1
  clear hcap hown1 hb1
  go_wp2_with fail
  refine (zub_any w1 a1 a2 n c1 m A1 l o s e Hj.out Hom.out hm ((HS.out.below Hb1.out).more Hb1.out.size) (Reads.of_own Hown1.out) Hl.out Hcap.out.1 Hcap.out.2).mono ?_
  rintro x w2 ⟨hb2, O, v1, v2, cs, hO, rfl, hbO, hcs, hcase⟩
  have qnn := eql_nil_nil
  have qnr := eql_nil_right
  have Hb2 := Lib.hid (Hb1.out.trans (hb2.mono Hb1.out.size))
  have HbO := Lib.hid hbO
  have Hcs := Lib.hid hcs
  have HOl := Lib.hid hO
  clear hb2 hbO hcs hO Hown1 Hb1
  have hcl := fun (wx : World) (hx : wx.heap = w2.heap) => clone_any (some ⟨O, 0, none⟩) m m cs wx Hcs.out (by omega) (reads_blk1 (show Blk wx O 5 (byteCells cs).toArray from (congrArg (·[O]?) hx).trans HbO.out))
  rcases hcase with ⟨h1, h2, rfl, h4⟩ | ⟨h1, rfl, h3⟩
  · have Ho := Lib.hid h1
    have Hoc := Lib.hid h2
    clear h1 h2
    rcases e with _ | _
    · obtain rfl : v2 = errV a2 := h4
      go_wp2
      go_region_with (go_at_call 21; refine (hcl w2.drew rfl).mono ?_; rintro x w3 ⟨A3, c3, rfl, hown3, hb3⟩; rw [Hcs.out] at hown3 ⊢; have Hown3 := Lib.hid hown3; have Hb3 := Lib.hid (below_of_drew1 hb3); clear hown3 hb3)
      all_goals
        go_wp2
        go_ret3
        exact ⟨Hb2.out.trans (Hb3.out.mono Hb2.out.size), A3, c3, Or.inl ⟨Ho.out, rfl, by rw [← Hoc.out]; exact own_base1 Hown3.out Hb2.out.size⟩⟩
    · obtain rfl : v2 = .nilIface := h4
      go_wp2
      go_region_with (go_at_call 21; refine (hcl w2.drew rfl).mono ?_; rintro x w3 ⟨A3, c3, rfl, hown3, hb3⟩; rw [Hcs.out] at hown3 ⊢; have Hown3 := Lib.hid hown3; have Hb3 := Lib.hid (below_of_drew1 hb3); clear hown3 hb3)
      all_goals
        go_wp2
        go_ret3
        exact ⟨Hb2.out.trans (Hb3.out.mono Hb2.out.size), A3, c3, Or.inl ⟨Ho.out, rfl, by rw [← Hoc.out]; exact own_base1 Hown3.out Hb2.out.size⟩⟩
  · have Ho := Lib.hid h1
    clear h1
    rcases h3 with rfl | rfl
    all_goals
      go_wp2
      go_region_with (go_at_call 21; refine (hcl w2.drew rfl).mono ?_; rintro x w3 ⟨A3, c3, rfl, hown3, hb3⟩; rw [Hcs.out] at hown3 ⊢; have Hown3 := Lib.hid hown3; have Hb3 := Lib.hid (below_of_drew1 hb3); clear hown3 hb3)
      all_goals
        go_wp2
        go_ret3
        exact ⟨Hb2.out.trans (Hb3.out.mono Hb2.out.size), A3, c3, Or.inr ⟨Ho.out, _, rfl⟩⟩
end Go.Proofs.YthlhcfjpijilaaaDoor
