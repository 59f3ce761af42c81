/- Contracts of Go's library at this translation, as the kit's tool wrote them (plain form), remarks struck. -/
import Derived.Shelf.Strconv.Itoa0
import Derived.Shelf.Bytes.Bytes
import Derived.Shelf.Bytes.WriteAny
import Derived.Test.YthlhcfjpijilaaaProg
namespace Go.Proofs
open Go.Shelf Go.RowKit
def Try.laysM181_ren : Go.Shelf.Ren := ⟨fun | 181 => 63 | n => n, fun | 130 => 58 | 3 => 3 | 0 => 0 | 93 => 54 | 37 => 25 | 91 => 52 | 5 => 5 | n => n, fun | n => n⟩
theorem Try.laysM181 : Go.Proofs.LaysM.n181 Try.prog Try.laysM181_ren := {
  mixed := by kernel_rfl
  f181 := Try.func63.trans (congrArg some (by kernel_rfl))
  t0 := Try.underlying0
  a0 := Try.isAgg0
  z0 := Try.sizeOf0
  v0 := Try.zeroValue0
  t3 := Try.underlying3
  a3 := Try.isAgg3
  z3 := Try.sizeOf3
  v3 := Try.zeroValue3
  t37 := Try.underlying25
  a37 := Try.isAgg25
  z37 := Try.sizeOf25
  v37 := Try.zeroValue25
  t93 := Try.underlying54
  a93 := Try.isAgg54
  z93 := Try.sizeOf54
  v93 := Try.zeroValue54
  t130 := Try.underlying58
  a130 := Try.isAgg58
  z130 := Try.sizeOf58
  v130 := Try.zeroValue58
  t5 := Try.underlying5
  a5 := Try.isAgg5
  z5 := Try.sizeOf5
  v5 := Try.zeroValue5
  t91 := Try.underlying52
  a91 := Try.isAgg52
  z91 := Try.sizeOf52
  v91 := Try.zeroValue52
  i0 := by kernel_rfl
  i3 := by kernel_rfl
  i5 := by kernel_rfl
  i37 := by kernel_rfl
  i91 := by kernel_rfl
  i93 := by kernel_rfl
  i130 := by kernel_rfl }
theorem Try.Buffer_Len (B b : Nat) (bs : List Value) (w : World) (h : Lib.IsBuffer 54 5 B b bs w) :
    Calls Try.prog 63 #[.pointer (some ⟨b, 0, none⟩)] w fun e w' => e = .returned (.int .i64 bs.length) ∧ ∃ n, w' = w.drewN n := Any.Buffer_Len Try.laysM181 B b bs w h
def Try.laysM251_ren : Go.Shelf.Ren := ⟨fun | 251 => 61 | n => n, fun | 130 => 58 | 3 => 3 | 4 => 4 | 0 => 0 | 93 => 54 | 37 => 25 | 91 => 52 | 5 => 5 | n => n, fun | n => n⟩
theorem Try.laysM251 : Go.Proofs.LaysM.n251 Try.prog Try.laysM251_ren := {
  mixed := by kernel_rfl
  f251 := Try.func61.trans (congrArg some (by kernel_rfl))
  t0 := Try.underlying0
  a0 := Try.isAgg0
  z0 := Try.sizeOf0
  v0 := Try.zeroValue0
  t3 := Try.underlying3
  a3 := Try.isAgg3
  z3 := Try.sizeOf3
  v3 := Try.zeroValue3
  t4 := Try.underlying4
  a4 := Try.isAgg4
  z4 := Try.sizeOf4
  v4 := Try.zeroValue4
  t37 := Try.underlying25
  a37 := Try.isAgg25
  z37 := Try.sizeOf25
  v37 := Try.zeroValue25
  t93 := Try.underlying54
  a93 := Try.isAgg54
  z93 := Try.sizeOf54
  v93 := Try.zeroValue54
  t130 := Try.underlying58
  a130 := Try.isAgg58
  z130 := Try.sizeOf58
  v130 := Try.zeroValue58
  t5 := Try.underlying5
  a5 := Try.isAgg5
  z5 := Try.sizeOf5
  v5 := Try.zeroValue5
  t91 := Try.underlying52
  a91 := Try.isAgg52
  z91 := Try.sizeOf52
  v91 := Try.zeroValue52
  i0 := by kernel_rfl
  i3 := by kernel_rfl
  i4 := by kernel_rfl
  i5 := by kernel_rfl
  i37 := by kernel_rfl
  i91 := by kernel_rfl
  i93 := by kernel_rfl
  i130 := by kernel_rfl }
theorem Try.Buffer_tryGrow_room (b : Nat) (ao : Option Addr) (l cap n : Nat) (w : World) (c0 : w.cell? ⟨b, 0, none⟩ = some (.slice ao l cap)) (f0 : w.frozen? ⟨b, 0, none⟩ = false) (hlc : l ≤ cap) (hcap : cap ≤ maxLen) (hn : n ≤ cap - l) :
    Calls Try.prog 61 #[.pointer (some ⟨b, 0, none⟩), .int .i64 n] w fun e w' => e = .returned (.tuple #[.int .i64 l, .bool true]) ∧ w' = w.setCell ⟨b, 0, none⟩ (.slice ao (l + n) cap) := Any.Buffer_tryGrow_room Try.laysM251 b ao l cap n w c0 f0 hlc hcap hn
theorem Try.Buffer_tryGrow_none (b : Nat) (ao : Option Addr) (l cap n : Nat) (w : World) (c0 : w.cell? ⟨b, 0, none⟩ = some (.slice ao l cap)) (hlc : l ≤ cap) (hcap : cap ≤ maxLen) (hn : cap - l < n) :
    Calls Try.prog 61 #[.pointer (some ⟨b, 0, none⟩), .int .i64 n] w fun e w' => e = .returned (.tuple #[.int .i64 0, .bool false]) ∧ w' = w := Any.Buffer_tryGrow_none Try.laysM251 b ao l cap n w c0 hlc hcap hn
def Try.laysM290_ren : Go.Shelf.Ren := ⟨fun | 290 => 64 | 324 => 65 | n => n, fun | 37 => 25 | 3 => 3 | 0 => 0 | 4 => 4 | 20 => 20 | 75 => 38 | 5 => 5 | 80 => 101 | 9 => 9 | n => n, fun | 14 => 1 | n => n⟩
theorem Try.laysM290 : Go.Proofs.LaysM.n290 Try.prog Try.laysM290_ren := {
  mixed := by kernel_rfl
  f290 := Try.func64.trans (congrArg some (by kernel_rfl))
  f324 := Try.func65.trans (congrArg some (by kernel_rfl))
  t0 := Try.underlying0
  a0 := Try.isAgg0
  z0 := Try.sizeOf0
  v0 := Try.zeroValue0
  t3 := Try.underlying3
  a3 := Try.isAgg3
  z3 := Try.sizeOf3
  v3 := Try.zeroValue3
  t4 := Try.underlying4
  a4 := Try.isAgg4
  z4 := Try.sizeOf4
  v4 := Try.zeroValue4
  t20 := Try.underlying20
  a20 := Try.isAgg20
  z20 := Try.sizeOf20
  v20 := Try.zeroValue20
  t37 := Try.underlying25
  a37 := Try.isAgg25
  z37 := Try.sizeOf25
  v37 := Try.zeroValue25
  t75 := Try.underlying38
  a75 := Try.isAgg38
  z75 := Try.sizeOf38
  v75 := Try.zeroValue38
  g14 := by kernel_rfl
  t5 := Try.underlying5
  a5 := Try.isAgg5
  z5 := Try.sizeOf5
  v5 := Try.zeroValue5
  t9 := Try.underlying9
  a9 := Try.isAgg9
  z9 := Try.sizeOf9
  v9 := Try.zeroValue9
  t80 := Try.underlying101
  a80 := Try.isAgg101
  z80 := Try.sizeOf101
  v80 := Try.zeroValue101
  i0 := by kernel_rfl
  i3 := by kernel_rfl
  i4 := by kernel_rfl
  i5 := by kernel_rfl
  i9 := by kernel_rfl
  i20 := by kernel_rfl
  i37 := by kernel_rfl
  i75 := by kernel_rfl
  i80 := by kernel_rfl
  m14 := by kernel_rfl }
theorem Try.bytes_growSlice_row (g l c n : Nat) (cur : Array Value) (w : World) (hg : w.heap[g]? = some (.cells cur 5 (0, 0))) (hcs : cur.size = c) (hlc : l ≤ c) (hn : 1 ≤ n) (hlim : l + n ≤ 140737488355328) (hc2 : c ≤ 140737488355328) (h1 : ∀ v ∈ cur.toList.take l, v.oneCell' = true) :
    Calls Try.prog 64 #[.slice (some ⟨g, 0, none⟩) l c, .int .i64 n] w fun e w' => ∃ cap2 cells, e = .returned (.slice (some ⟨w.heap.size, 0, none⟩) l cap2) ∧ w'.heap[w.heap.size]? = some (.cells cells 5 (0, 0)) ∧
      cells.size = cap2 ∧ cells.toList.take l = cur.toList.take l ∧ l + n ≤ cap2 ∧ cap2 ≤ maxLen ∧ Below w.heap.size w w' := Any.bytes_growSlice_row Try.laysM290 g l c n cur w hg hcs hlc hn hlim hc2 h1
theorem Try.bytes_growSlice_nil (n : Nat) (w : World) (hn : 1 ≤ n) (hlim : n ≤ 140737488355328) :
    Calls Try.prog 64 #[.slice none 0 0, .int .i64 n] w fun e w' => ∃ cap2 cells, e = .returned (.slice (some ⟨w.heap.size, 0, none⟩) 0 cap2) ∧ w'.heap[w.heap.size]? = some (.cells cells 5 (0, 0)) ∧
      cells.size = cap2 ∧ n ≤ cap2 ∧ cap2 ≤ maxLen ∧ Below w.heap.size w w' := Any.bytes_growSlice_nil Try.laysM290 n w hn hlim
def Try.laysM183_ren : Go.Shelf.Ren := ⟨fun | 183 => 25 | n => n, fun | 130 => 58 | 37 => 25 | 0 => 0 | 93 => 54 | 3 => 3 | 5 => 5 | 91 => 52 | n => n, fun | n => n⟩
theorem Try.laysM183 : Go.Proofs.LaysM.n183 Try.prog Try.laysM183_ren := {
  mixed := by kernel_rfl
  f183 := Try.func25.trans (congrArg some (by kernel_rfl))
  t0 := Try.underlying0
  a0 := Try.isAgg0
  z0 := Try.sizeOf0
  v0 := Try.zeroValue0
  t3 := Try.underlying3
  a3 := Try.isAgg3
  z3 := Try.sizeOf3
  v3 := Try.zeroValue3
  t37 := Try.underlying25
  a37 := Try.isAgg25
  z37 := Try.sizeOf25
  v37 := Try.zeroValue25
  t93 := Try.underlying54
  a93 := Try.isAgg54
  z93 := Try.sizeOf54
  v93 := Try.zeroValue54
  t130 := Try.underlying58
  a130 := Try.isAgg58
  z130 := Try.sizeOf58
  v130 := Try.zeroValue58
  t5 := Try.underlying5
  a5 := Try.isAgg5
  z5 := Try.sizeOf5
  v5 := Try.zeroValue5
  t91 := Try.underlying52
  a91 := Try.isAgg52
  z91 := Try.sizeOf52
  v91 := Try.zeroValue52
  i0 := by kernel_rfl
  i3 := by kernel_rfl
  i5 := by kernel_rfl
  i37 := by kernel_rfl
  i91 := by kernel_rfl
  i93 := by kernel_rfl
  i130 := by kernel_rfl }
theorem Try.Buffer_Bytes (B b : Nat) (bs : List Value) (w : World) (h : Lib.IsBuffer 54 5 B b bs w) :
    Calls Try.prog 25 #[.pointer (some ⟨b, 0, none⟩)] w fun e w' => ∃ v, e = .returned v ∧ w'.ownsRow B 5 1 v bs.length bs ∧ ∃ n, w' = w.drewN n := Any.Buffer_Bytes Try.laysM183 B b bs w h
end Go.Proofs
