/- Big variables: an array or a struct of many cells that the call makes, as a law for the walk: the world behind it is a variable, of which the new block is known. No program in sight. -/
import Derived.Great.BuildSlice
import Derived.Test.YthlhcfjpijilaaaMem
import Derived.Test.YthlhcfjpijilaaaCopy
namespace Go.Proofs.Ythlhcfjpijilaaa
open Go Go.RowKit

section
variable {P : Program} {w : World} {ops : Array Oper} {rest : List Oper} {o : Oper} {a : Act} {Q : Exit → Act → World → Prop}

theorem wpList_alloc_big (hg : o.guard = none) (t : TypeId) (ho : o.op = .alloc t) (i : TypeInfo) (z : Value) (cells : Array Value) (hi : P.info? t = some i) (hz : i.zero = some z) (hc : z.cells = cells)
    (h : ∀ w', Hid (Blk w' w.heap.size t cells) → w.grownBy w' none → w'.heap.size = w.heap.size + 1 → wpList P ops Q rest (a.put o.dst (.pointer (some ⟨w.heap.size, 0, none⟩))) w') : wpList P ops Q (o :: rest) a w := by
  refine wpList_plain hg fun K hK => ?_
  unfold Oper.wp execOp
  simp only [ho, Instr.alloc, zeroValue, typeInfo, Sem.run_bind, Sem.run_pure]
  simp [hi, hz, newVar, newRow]
  refine hK _ _ (h _ ?_ (World.grownBy_alloc w _ none) (by simp))
  rw [hc]
  exact Blk.new w t cells

theorem wpList_box_big (hg : o.guard = none) (t : TypeId) (x : Operand) (ho : o.op = .box t x) (cells : Array Value) (hx : (a.eval x).cells = cells)
    (h : ∀ w', Hid (Blk w' w.heap.size t cells) → w.grownBy w' none → w'.heap.size = w.heap.size + 1 → wpList P ops Q rest (a.put o.dst (.pointer (some ⟨w.heap.size, 0, none⟩))) w') : wpList P ops Q (o :: rest) a w := by
  refine wpList_plain hg fun K hK => ?_
  unfold Oper.wp execOp
  simp [ho, Instr.box, newVar, newRow, hx]
  exact hK _ _ (h _ (Blk.new w t cells) (World.grownBy_alloc w _ none) (by simp))

theorem clear_splice_run (w : World) (t ty e : TypeId) (i : TypeInfo) (z : Value) (hu : P.underlying t = some (.slice e)) (hi : P.info? e = some i) (hz : i.zero = some z) (hz1 : z.cells = #[z]) (h1 : z.oneCell' = true)
    (g off n c : Nat) (cur : List Value) (T : TypeId) (hg : Blk w g T cur.toArray) (hfit : off + n ≤ cur.length) (hn : 0 < n) :
    ∃ w', (Builtin.clear_ #[t] ty #[.slice (some ⟨g, off, none⟩) n c]).run P w = .ok (.tuple #[]) w' ∧ Blk w' g T (splice cur off (List.replicate n z)).toArray ∧ w.grownBy w' (some g) := by
  have hst := run_storeCells_at P g off T (List.replicate n z) 0 cur.toArray w hg (by simpa using hfit) (fun v hv => by rw [List.eq_of_mem_replicate hv]; exact h1)
  simp only [Nat.add_zero] at hst
  have hzc : (Builtin.zeroCells z.cells n).toList = List.replicate n z := by
    rw [hz1]
    apply List.ext_getElem?
    intro j
    by_cases hj : j < n
    · simp [Builtin.zeroCells, hj, Nat.mod_one]
    · rw [List.getElem?_eq_none (by simp [Builtin.zeroCells]; omega), List.getElem?_eq_none (by simp; omega)]
  have hzv : (zeroValue e).run P w = .ok z w := by simp [zeroValue, typeInfo, hi, hz]
  obtain ⟨m, rfl⟩ : ∃ m, n = m + 1 := ⟨n - 1, by omega⟩
  refine ⟨w.setRow g (cur.toArray.toList.take off ++ List.replicate (m + 1) z ++ cur.toArray.toList.drop (off + (List.replicate (m + 1) z).length)).toArray, ?_, ?_, grownBy_setRow _ _ _⟩
  · simp [Builtin.clear_, run_underlying hu, hzv, hzc, hst]
  · have hg' := setRow_heap w g cur.toArray (cur.toArray.toList.take off ++ List.replicate (m + 1) z ++ cur.toArray.toList.drop (off + (List.replicate (m + 1) z).length)).toArray T (0, 0) hg
    show (w.setRow g _).heap[g]? = some (.cells _ T (0, 0))
    rw [hg']
    simp [splice]

theorem wpList_clear_grown (hgd : o.guard = none) (x : Operand) (t : TypeId)
    (ho : o.op = .call { callee := .builtin .clear, args := #[x], argTypes := #[t] }) (e : TypeId) (i : TypeInfo) (z : Value) (hu : P.underlying t = some (.slice e)) (hi : P.info? e = some i) (hz : i.zero = some z) (hz1 : z.cells = #[z]) (h1 : z.oneCell' = true)
    (g off n c : Nat) (hx : a.eval x = .slice (some ⟨g, off, none⟩) n c) (cur : List Value) (T : TypeId) (hg : Blk w g T cur.toArray) (hfit : off + n ≤ cur.length) (hn : 0 < n)
    (h : ∀ w', Hid (Blk w' g T (splice cur off (List.replicate n z)).toArray) → w.grownBy w' (some g) → wpList P ops Q rest (a.put o.dst (.tuple #[])) w') : wpList P ops Q (o :: rest) a w := by
  obtain ⟨w', hrun, hb, hgr⟩ := clear_splice_run (P := P) w t o.type e i z hu hi hz hz1 h1 g off n c cur T hg hfit hn
  refine wpList_plain hgd fun K hK => ?_
  unfold Oper.wp
  simp [execOp, ho, resolve, invoke, builtin, hx, hrun, Result.andThen]
  exact hK _ _ (h w' hb hgr)
end
end Go.Proofs.Ythlhcfjpijilaaa
