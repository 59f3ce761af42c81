/- io.ReadAtLeast over a blockReader: what holds between its rounds, in words. -/
import Derived.Test.YthlhcfjpijilaaaDoorBrO
import Derived.Test.YthlhcfjpijilaaaDoorJn
namespace Go.Proofs.YthlhcfjpijilaaaDoor
open Go Go.ChangeShapes Go.WideShapes Go.ChangeAt Go.RowKit Go.Lib

theorem splice_more {cur xs ys : List Value} {off : Nat} (h : off + xs.length + ys.length ≤ cur.length) : splice (splice cur off xs) (off + xs.length) ys = splice cur off (xs ++ ys) := by
  have h1 : (cur.take off).length = off := by rw [List.length_take]; omega
  have e1 : (cur.take off ++ (xs ++ cur.drop (off + xs.length))).take (off + xs.length) = cur.take off ++ xs := by
    rw [← List.append_assoc, List.take_append_of_le_length (by rw [List.length_append, h1]; exact Nat.le_refl _), List.take_of_length_le (by rw [List.length_append, h1]; exact Nat.le_refl _)]
  have e2 : (cur.take off ++ (xs ++ cur.drop (off + xs.length))).drop (off + xs.length + ys.length) = cur.drop (off + (xs.length + ys.length)) := by
    rw [← List.append_assoc, show off + xs.length + ys.length = (cur.take off ++ xs).length + ys.length by rw [List.length_append, h1], List.drop_length_add_append, List.drop_drop]
    congr 1
    omega
  unfold splice
  rw [e1, e2, List.length_append]
  simp

theorem splice_length {cur xs : List Value} {off : Nat} (h : off + xs.length ≤ cur.length) : (splice cur off xs).length = cur.length := by
  unfold splice
  rw [List.length_append, List.length_append, List.length_take, List.length_drop]
  omega

theorem remOf_add (tmp : List UInt8) (bi bj k : Nat) : remOf tmp (bi + k) bj = (remOf tmp bi bj).drop k := by
  unfold remOf
  rw [List.drop_take, List.drop_drop]
  congr 1
  omega
theorem remOf_self (tmp : List UInt8) (b : Nat) : remOf tmp b b = [] := by simp [remOf]

/-- Between two rounds, and behind the last: no error so far. -/
structure BrlYes (w : World) (K D R O : Nat) (A : Option Addr) (n c off : Nat) (T : TypeId) (cur : List Value) (l total : List UInt8) (e : Bool) (s : List UInt8) (kk i bi bj : Nat) (tmp out o' : List UInt8) (wr : World) : Prop where
  kk : kk = out.length
  all : total = out ++ remOf tmp bi bj ++ o'
  jn : Jn (l.drop i) o' e s
  ij : bi ≤ bj
  j : bj ≤ 255
  ni : i ≤ n
  at_ : BrAt wr K D R A n c i bi bj .nilIface tmp
  o : Blk wr O T (splice cur off (byteCells out)).toArray
  t : Trn [R, D, K, O] w wr

/-- Behind the error: all is read, and it is too little. -/
structure BrlNo (w : World) (K D R : Nat) (A : Option Addr) (n c : Nat) (O off : Nat) (T : TypeId) (cur : List Value) (total : List UInt8) (ev : Value) (wr : World) : Prop where
  o : Blk wr O T (splice cur off (byteCells total)).toArray
  at_ : ∃ i bi bj tmp, BrAt wr K D R A n c i bi bj ev tmp
  t : Trn [R, D, K, O] w wr

def BrlRel (w : World) (a1 a2 : Addr) (K D R O : Nat) (A : Option Addr) (n c off : Nat) (T : TypeId) (cur : List Value) (l total : List UInt8) (e : Bool) (s : List UInt8) (m g : Nat) (nv ev : Value) (wr : World) : Prop :=
  ∃ kk, nv = .int .i64 ((kk : Nat) : Int) ∧ kk ≤ m ∧
    ((ev = .nilIface ∧ g = 1 + (m - kk) ∧ ∃ i bi bj tmp out o', BrlYes w K D R O A n c off T cur l total e s kk i bi bj tmp out o' wr) ∨
     (∃ a, ev = errV a ∧ (a = a1 ∨ a = a2) ∧ total.length < m ∧ g = 0 ∧ kk = total.length ∧ BrlNo w K D R A n c O off T cur total ev wr))

/-- What io.ReadAtLeast hands back. -/
def BrlOut (w : World) (a1 a2 : Addr) (K D R O : Nat) (A : Option Addr) (n c off : Nat) (T : TypeId) (cur : List Value) (l total : List UInt8) (e : Bool) (s : List UInt8) (m : Nat) (x : Ending) (w' : World) : Prop :=
  (x = .returned (.tuple #[.int .i64 (m : Int), .nilIface]) ∧ ∃ i bi bj tmp out o', BrlYes w K D R O A n c off T cur l total e s m i bi bj tmp out o' w') ∨
  (∃ a b : Addr, x = .returned (.tuple #[.int .i64 ((total.length : Nat) : Int), errV a]) ∧ (a = a1 ∨ a = a2) ∧ (b = a1 ∨ b = a2) ∧ total.length < m ∧ BrlNo w K D R A n c O off T cur total (errV b) w')

section
variable {w wr w' : World} {K D R O : Nat} {A : Option Addr} {n c off : Nat} {T : TypeId} {cur : List Value} {l total : List UInt8} {e : Bool} {s : List UInt8} {kk i bi bj m : Nat} {tmp out o' : List UInt8}

/-- Bytes at hand are handed out. -/
theorem BrlYes.have_ (h : BrlYes w K D R O A n c off T cur l total e s kk i bi bj tmp out o' wr) (k : Nat) (hk : k ≤ bj - bi) (hfit : off + kk + k ≤ cur.length)
    (hb : BrAt w' K D R A n c i (bi + k) bj .nilIface tmp) (ho : Blk w' O T (splice (splice cur off (byteCells out)) (off + kk) (byteCells ((remOf tmp bi bj).take k))).toArray) (ht : Trn [R, D, K, O] wr w') :
    BrlYes w K D R O A n c off T cur l total e s (kk + k) i (bi + k) bj tmp (out ++ (remOf tmp bi bj).take k) o' w' := by
  have hlen : ((remOf tmp bi bj).take k).length = k := by
    rw [List.length_take, remOf_length tmp bi bj h.at_.t h.j]
    omega
  refine ⟨by rw [List.length_append, hlen, ← h.kk], ?_, h.jn, by have := h.ij; omega, h.j, h.ni, hb, ?_, h.t.trans ht⟩
  · rw [h.all, remOf_add]
    conv => lhs; rw [← List.take_append_drop k (remOf tmp bi bj)]
    simp only [List.append_assoc]
  · rw [byteCells_append, ← splice_more (by rw [byteCells_length, byteCells_length, hlen, ← h.kk]; exact hfit), byteCells_length, ← h.kk]
    exact ho

/-- A block is brought, and bytes of it are handed out. -/
theorem BrlYes.step (h : BrlYes w K D R O A n c off T cur l total e s kk i bi bi tmp out o' wr) (x k : Nat) (o2 tmp' : List UInt8) (hx : x ≤ 255) (hk : k ≤ x) (hxl : ((l.drop (i + 1)).take x).length = x) (hi : i + 1 + x ≤ n) (hfit : off + kk + k ≤ cur.length)
    (ho' : o' = (l.drop (i + 1)).take x ++ o2) (hj : Jn (l.drop (i + 1 + x)) o2 e s) (hrem : remOf tmp' 0 x = (l.drop (i + 1)).take x)
    (hb : BrAt w' K D R A n c (i + 1 + x) k x .nilIface tmp') (ho : Blk w' O T (splice (splice cur off (byteCells out)) (off + kk) (byteCells (((l.drop (i + 1)).take x).take k))).toArray) (ht : Trn [R, D, K, O] wr w') :
    BrlYes w K D R O A n c off T cur l total e s (kk + k) (i + 1 + x) k x tmp' (out ++ ((l.drop (i + 1)).take x).take k) o2 w' := by
  have hlen : (((l.drop (i + 1)).take x).take k).length = k := by
    rw [List.length_take, hxl]
    omega
  refine ⟨by rw [List.length_append, hlen, ← h.kk], ?_, hj, hk, hx, hi, hb, ?_, h.t.trans ht⟩
  · have e0 := remOf_add tmp' 0 x k
    rw [Nat.zero_add, hrem] at e0
    rw [h.all, e0, remOf_self, ho', List.append_nil]
    conv => lhs; rw [← List.take_append_drop k ((l.drop (i + 1)).take x)]
    simp only [List.append_assoc]
  · rw [byteCells_append, ← splice_more (by rw [byteCells_length, byteCells_length, hlen, ← h.kk]; exact hfit), byteCells_length, ← h.kk]
    exact ho

/-- The filling ends it: all is read. -/
theorem BrlYes.end_ (h : BrlYes w K D R O A n c off T cur l total e s kk i bi bi tmp out o' wr) (hl : l.length = n) (hz : ¬ (i < n ∧ 0 < (l.getD i 0).toNat ∧ i + 1 + (l.getD i 0).toNat ≤ n)) : total = out ∧ kk = total.length := by
  have hn : o' = [] := by
    rcases h.jn.at with ⟨_, h1, _⟩ | ⟨_, _, h1, _⟩ | ⟨_, _, _, h1, _⟩ | ⟨h1, h2, h3, _⟩
    · exact h1
    · exact h1
    · exact h1
    · exact absurd ⟨by omega, h2, by omega⟩ hz
  have ha := h.all
  rw [remOf_self, hn, List.append_nil, List.append_nil] at ha
  exact ⟨ha, by rw [ha]; exact h.kk⟩
end
end Go.Proofs.YthlhcfjpijilaaaDoor
