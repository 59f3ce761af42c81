/- io.ReadAtLeast over a blockReader: the walk. -/
import Derived.Test.YthlhcfjpijilaaaDoorBrL
namespace Go.Proofs.YthlhcfjpijilaaaDoor
open Go Go.ChangeShapes Go.WideShapes Go.ChangeAt Go.RowKit Go.Lib

theorem nilAhead_br (K : Nat) (w : World) : (nilAhead 241 86 (.pointer (some ⟨K, 0, none⟩)) "Read").run Tryd.prog w = .ok (some false) w := by kernel_rfl
theorem method_br (K : Nat) (w : World) : (method 241 86 (.pointer (some ⟨K, 0, none⟩)) "Read").run Tryd.prog w = .ok (72, .pointer (some ⟨K, 0, none⟩)) w := by kernel_rfl

set_option maxRecDepth 100000 in
set_option maxHeartbeats 4000000 in
theorem brl_any (w : World) (B : Nat) (a1 a2 : Addr) (K D R O n c i bi bj m mc off : Nat) (A dp : Option Addr) (l tmp total o' s : List UInt8) (e : Bool) (cur : List Value) (T : TypeId) (hE : BrEnv w B a1 a2 K D R A l n c) (hBO : B ≤ O) (hOK : O ≠ K) (hOD : O ≠ D) (hOR : O ≠ R)
    (hY : BrlYes w K D R O A n c off T cur l total e s 0 i bi bj tmp [] o' w) (hmm : m ≤ mc) (hmc : mc ≤ maxLen) (hdp : 0 < m → dp = some ⟨O, off, none⟩) (hfit : off + m ≤ cur.length) :
    Calls Tryd.prog 43 #[.iface 86 (.pointer (some ⟨K, 0, none⟩)), .slice dp m mc, .int .i64 (m : Int)] w fun x w' => BrlOut w a1 a2 K D R O A n c off T cur l total e s m x w' := by
  have hM : (maxLen : Nat) ≤ 9223372036854775807 := by decide
  have qss := eql_same
  have qnl := eql_nil_left
  have qnr := eql_nil_right
  have qnn := eql_nil_nil
  have na := nilAhead_br K
  have me := method_br K
  have HE := Lib.hid hE
  have HY := Lib.hid hY
  have Hdp := Lib.hid hdp
  have Hmc := Lib.hid hmc
  have HM := Lib.hid hM
  clear hE hY hdp hmc hM
  go_enter Tryd.func43, Tryd.ntmps43
  go_wp2
  go_loopg [6, 7] (1 + m) (fun g nv ev wr => BrlRel w a1 a2 K D R O A n c off T cur l total e s m g nv ev wr)
  case atStart => exact ⟨0, rfl, Nat.zero_le _, Or.inl ⟨rfl, by omega, i, bi, bj, tmp, [], o', HY.out⟩⟩
  case round =>
    obtain ⟨kk, rfl, hk1, hev⟩ := hrel
    rcases hev with ⟨rfl, hg, ir, bir, bjr, tmpr, outr, or', hy⟩ | ⟨a, rfl, haa, hlt2, hg, hkt, hno⟩
    · by_cases hlt : kk < m
      · have hd : decide ((kk : Int) < (m : Int)) = true := by simp; omega
        have hEr : BrEnv wr B a1 a2 K D R A l n c := HE.out.trn hy.t (by
          have h := HE.out
          have h1 := h.bk; have h2 := h.bd; have h3 := h.br
          intro x hx; simp at hx; omega)
        have hdp' := Hdp.out (by omega)
        subst hdp'
        have s2 : (0 : Int) ≤ (kk : Int) := by omega
        have s4 : (kk : Int) ≤ (m : Int) := by omega
        have s5 : kk ≤ m := by omega
        have s6 : ¬ mc = kk := by omega
        have hmax : m - kk ≤ maxLen := by have := Hmc.out; omega
        have hmm63 : (m : Int) ≤ 9223372036854775807 := by have := Hmc.out; have := HM.out; omega
        have Hmax := Lib.hid hmax
        have HEr := Lib.hid hEr
        have Hg := Lib.hid hg
        have HYr := Lib.hid hy
        clear hmax hEr hg hy
        by_cases hij : bir = bjr
        · subst hij
          by_cases hz : ir < n ∧ 0 < (l.getD ir 0).toNat ∧ ir + 1 + (l.getD ir 0).toNat ≤ n
          · obtain ⟨x, hx⟩ : ∃ x, x = (l.getD ir 0).toNat := ⟨_, rfl⟩
            have hz' := hz
            rw [← hx] at hz'
            have hx255 : x ≤ 255 := by rw [hx]; have := (l.getD ir 0).toNat_lt; omega
            obtain ⟨k, hk⟩ : ∃ k, k = Nat.min x (m - kk) := ⟨_, rfl⟩
            have hkx : k ≤ x := by rw [hk]; exact Nat.min_le_left _ _
            have hkm : k ≤ m - kk := by rw [hk]; exact Nat.min_le_right _ _
            have hk0 : 0 < k := by rcases nmin x (m - kk) with h2 | h2 <;> omega
            have hj4 : ∃ o2, or' = (l.drop (ir + 1)).take x ++ o2 ∧ Jn (l.drop (ir + 1 + x)) o2 e s := by
              rcases HYr.out.jn.at with ⟨h1, _⟩ | ⟨_, h1, _⟩ | ⟨_, _, h1, _⟩ | ⟨_, _, _, h4⟩
              · have := HEr.out.l; omega
              · omega
              · have := HEr.out.l; omega
              · rw [← hx] at h4; exact h4
            obtain ⟨o2, ho2, hj2⟩ := hj4
            have Hx := Lib.hid hx
            have Hk := Lib.hid hk
            have Ho2 := Lib.hid ho2
            have Hj2 := Lib.hid hj2
            have Hz := Lib.hid hz
            have Hz' := Lib.hid hz'
            have Hkx := Lib.hid hkx
            have Hx255 := Lib.hid hx255
            clear hx hk ho2 hj2 hz hz' hkx hx255
            go_wp2
            go_region_with (go_at_call 72; refine (brok wr.drew B a1 a2 K D R O n c ir bir (m - kk) (mc - kk) (off + kk) k x A (some ⟨O, off + kk, none⟩) l tmpr (splice cur off (byteCells outr)) T (HEr.out.trn (Trn.refl [] wr).drew (by simp)) HYr.out.at_.drew Hx.out Hz'.out HYr.out.o hOK hOD hOR (by omega) Hmax.out Hk.out rfl (by rw [splice_length (by rw [byteCells_length, ← HYr.out.kk]; omega)]; omega)).mono ?_; rintro x1 w1 ⟨rfl, tmp', hrem, hb1, ho1, ht1⟩; have Hrem := Lib.hid hrem; have Hb1 := Lib.hid hb1; have Ho1 := Lib.hid ho1; have Ht1 := Lib.hid ht1.of_drew; clear hrem hb1 ho1 ht1)
            all_goals
              go_wp2
              go_roundg (1 + (m - (kk + k)))
            case measure => have := Hg.out; omega
            case rel => exact ⟨kk + k, by go_num, by omega, Or.inl ⟨rfl, rfl, _, _, _, _, _, _, HYr.out.step x k o2 tmp' Hx255.out Hkx.out (by rw [List.length_take, List.length_drop, HEr.out.l]; have := Hz'.out; omega) Hz'.out.2.2 (by omega) Ho2.out Hj2.out Hrem.out Hb1.out Ho1.out Ht1.out⟩⟩
          · have hen := HYr.out.end_ HEr.out.l hz
            have Hen := Lib.hid hen
            have Hz := Lib.hid hz
            clear hen hz
            go_wp2
            go_region_with (go_at_call 72; refine (brerr wr.drew B a1 a2 K D R O n c ir bir (m - kk) (mc - kk) A (some ⟨O, off + kk, none⟩) l tmpr (splice cur off (byteCells outr)) T (HEr.out.trn (Trn.refl [] wr).drew (by simp)) HYr.out.at_.drew HYr.out.ni Hz.out HYr.out.o hOK hOD hOR (by omega)).mono ?_; rintro x1 w1 ⟨ev, rfl, hev, ⟨i', bi', bj', tmp', _, hb1⟩, ho1, ht1⟩; have hea : ∃ a, ev = errV a ∧ (a = a1 ∨ a = a2) := (by rcases hev with ⟨h, _⟩ | ⟨h, _⟩ <;> exact ⟨_, h, by simp⟩); obtain ⟨a, rfl, haa⟩ := hea; have Hb1 := Lib.hid hb1; have Ht1 := Lib.hid ht1.of_drew; have Haa := Lib.hid haa; have Ho1 := Lib.hid ho1; clear hev hb1 ho1 ht1 haa)
            all_goals
              go_wp2
              go_roundg 0
            case measure => have := Hg.out; omega
            case rel => exact ⟨kk, by go_num, by omega, Or.inr ⟨a, rfl, Haa.out, by have := Hen.out; omega, rfl, Hen.out.2, ⟨by rw [Hen.out.1]; exact Ho1.out, ⟨_, _, _, _, Hb1.out⟩, HYr.out.t.trans Ht1.out⟩⟩⟩
        · obtain ⟨k, hk⟩ : ∃ k, k = Nat.min (bjr - bir) (m - kk) := ⟨_, rfl⟩
          have hkx : k ≤ bjr - bir := by rw [hk]; exact Nat.min_le_left _ _
          have hkm : k ≤ m - kk := by rw [hk]; exact Nat.min_le_right _ _
          have hlt3 : bir < bjr := by have := HYr.out.ij; omega
          have hk0 : 0 < k := by rcases nmin (bjr - bir) (m - kk) with h2 | h2 <;> omega
          have Hk := Lib.hid hk
          have Hkx := Lib.hid hkx
          have Hlt3 := Lib.hid hlt3
          clear hk hkx hlt3 hij
          go_wp2
          go_region_with (go_at_call 72; refine (brhave wr.drew B a1 a2 K D R O n c ir bir bjr (m - kk) (mc - kk) (off + kk) k A (some ⟨O, off + kk, none⟩) l tmpr (splice cur off (byteCells outr)) T (HEr.out.trn (Trn.refl [] wr).drew (by simp)) HYr.out.at_.drew Hlt3.out HYr.out.j HYr.out.o hOK hOD hOR (by omega) Hmax.out Hk.out rfl (by rw [splice_length (by rw [byteCells_length, ← HYr.out.kk]; omega)]; omega)).mono ?_; rintro x1 w1 ⟨rfl, hb1, ho1, ht1⟩; have Hb1 := Lib.hid hb1; have Ho1 := Lib.hid ho1; have Ht1 := Lib.hid ht1.of_drew; clear hb1 ho1 ht1)
          all_goals
            go_wp2
            go_roundg (1 + (m - (kk + k)))
          case measure => have := Hg.out; omega
          case rel => exact ⟨kk + k, by go_num, by omega, Or.inl ⟨rfl, rfl, _, _, _, _, _, _, HYr.out.have_ k Hkx.out (by omega) Hb1.out Ho1.out Ht1.out⟩⟩
      · have hd : decide ((kk : Int) < (m : Int)) = false := by simp; omega
        obtain rfl : kk = m := by omega
        have HYr := Lib.hid hy
        clear hy hg
        go_wp2
        go_ret2
        exact Or.inl ⟨rfl, _, _, _, _, _, _, HYr.out⟩
    · have hd : decide ((kk : Int) < (m : Int)) = true := by simp; omega
      have hsk := HE.out.s.below (hno.t.below (B := B) (by have h := HE.out; have h1 := h.bk; have h2 := h.bd; have h3 := h.br; intro x hx; simp at hx; omega) HE.out.bw)
      have q1 := hsk.g1
      have q2 := hsk.g2
      have qot := hsk.eql_other
      have hkm : kk < m := by omega
      have Hno := Lib.hid hno
      have Hkt := Lib.hid hkt
      have Hg := Lib.hid hg
      have Hl2 := Lib.hid hlt2
      clear hno hsk hkt hg hlt2
      by_cases h0 : kk = 0
      · subst h0
        go_wp2
        go_ret2
        exact Or.inr ⟨a, a, by rw [← Hkt.out]; rfl, haa, haa, Hl2.out, Hno.out⟩
      · have hg0 : decide ((0 : Int) < (kk : Int)) = true := by simp; omega
        rcases haa with rfl | rfl
        · go_wp2
          go_ret2
          exact Or.inr ⟨a2, a, by rw [← Hkt.out]; rfl, Or.inr rfl, Or.inl rfl, Hl2.out, Hno.out⟩
        · go_wp2
          go_ret2
          exact Or.inr ⟨a, a, by rw [← Hkt.out]; rfl, Or.inr rfl, Or.inr rfl, Hl2.out, Hno.out⟩
end Go.Proofs.YthlhcfjpijilaaaDoor
