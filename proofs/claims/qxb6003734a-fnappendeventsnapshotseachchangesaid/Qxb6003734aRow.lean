import Derived.Tactics
import Derived.Laws.CopyRow
import Derived.Laws.Rows
import Derived.Laws.OwnMore
namespace Go.Proofs.Qxb6003734a

theorem setRow_alloc (w : World) (cur ys : Array Value) (t : TypeId) : (w.alloc (.cells cur t)).setRow w.heap.size ys = w.alloc (.cells ys t) := by
  unfold World.setRow
  show ({ w with heap := (w.heap.push (.cells cur t)).modify w.heap.size _ } : World) = { w with heap := w.heap.push (.cells ys t) }
  congr 1
  apply Array.ext
  · simp
  · intro i h1 h2
    simp [Array.getElem_modify, Array.getElem_push]
    split <;> split <;> simp_all <;> omega

/-- A whole row stored into a block that has just been laid, as one step. -/
theorem wpList_store_new {P : Program} (w : World) {ops : Array Oper} {rest : List Oper} {o : Oper} {a : Act} {Q : Exit → Act → World → Prop} (hgd : o.guard = none) (hdst : o.dst = none) (ty : TypeId) (x y : Operand) (ho : o.op = .store ty x y)
    (hx : a.eval x = .pointer (some ⟨w.heap.size, 0, none⟩)) (t : TypeId) (cur ys : Array Value) (hy : a.eval y = .agg ys) (hl : cur.size = ys.size) (h1 : ∀ v ∈ ys.toList, v.oneCell' = true) (hi : (P.info? ty).map (·.size) = some ys.size)
    (h : wpList P ops Q rest a (w.alloc (.cells ys t))) : wpList P ops Q (o :: rest) a (w.alloc (.cells cur t)) := by
  refine wpList_plain hgd fun K hK => ?_
  obtain ⟨i, hi1, hi2⟩ := Option.map_eq_some_iff.1 hi
  have hst := run_storeCells_at P w.heap.size 0 t ys.toList 0 cur (w.alloc (.cells cur t)) (heap_alloc_new w _) (by simp [hl]) h1
  have e : (cur.toList.take (0 + 0) ++ ys.toList ++ cur.toList.drop (0 + 0 + ys.toList.length)).toArray = ys := by
    have hd : cur.toList.drop (0 + 0 + ys.toList.length) = [] := List.drop_eq_nil_of_le (by simp; omega)
    rw [hd]; simp
  rw [e, setRow_alloc] at hst
  unfold Oper.wp execOp
  simp [ho, hx, hy, Instr.storeAt, Instr.sureAddr, storeVar, sizeOf, typeInfo, hi1, hi2, hst, Value.cells]
  have hp : a.put o.dst undef = a := by rw [hdst]; rfl
  refine hK _ _ ?_
  rw [hp]; exact h
end Go.Proofs.Qxb6003734a
