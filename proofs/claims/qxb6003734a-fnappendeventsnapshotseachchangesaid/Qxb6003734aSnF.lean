import Derived.Test.Qxb6003734aRow
import Derived.Laws.Tables
import Derived.Laws.CopyOwn
namespace Go.Proofs.Qxb6003734a

/-- A whole row stored into a block that is there, as one step. -/
theorem wpList_store_row {P : Program} {w : World} {ops : Array Oper} {rest : List Oper} {o : Oper} {a : Act} {Q : Exit → Act → World → Prop} (hgd : o.guard = none) (hdst : o.dst = none) (ty : TypeId) (x y : Operand) (ho : o.op = .store ty x y)
    (g : Nat) (hx : a.eval x = .pointer (some ⟨g, 0, none⟩)) (t : TypeId) (cur ys : Array Value) (hy : a.eval y = .agg ys) (hg : w.heap[g]? = some (.cells cur t (0, 0))) (hl : cur.size = ys.size) (h1 : ∀ v ∈ ys.toList, v.oneCell' = true) (hi : (P.info? ty).map (·.size) = some ys.size)
    (h : wpList P ops Q rest a (w.setRow g ys)) : wpList P ops Q (o :: rest) a w := by
  refine wpList_plain hgd fun K hK => ?_
  have hst := run_storeVar_row (P := P) w g t ty cur ys hg hi hl (Array.all_eq_true_iff_forall_mem.2 fun v hv => h1 v (by simpa using hv))
  unfold Oper.wp execOp
  simp only [ho, hx, hy, Instr.storeAt, Instr.sureAddr, Sem.run_bind, Sem.run_pure, Result.andThen_ok, hst]
  have hp : a.put o.dst undef = a := by rw [hdst]; rfl
  refine hK _ _ ?_
  rw [hp]; exact h

/-- The same as a step of a region. -/
theorem wp_store_row {P : Program} {w : World} {o : Oper} {a : Act} {K : Act → World → Prop} {Q : Exit → Act → World → Prop} (ty : TypeId) (x y : Operand) (ho : o.op = .store ty x y)
    (g : Nat) (hx : a.eval x = .pointer (some ⟨g, 0, none⟩)) (t : TypeId) (cur ys : Array Value) (hy : a.eval y = .agg ys) (hg : w.heap[g]? = some (.cells cur t (0, 0))) (hl : cur.size = ys.size) (h1 : ∀ v ∈ ys.toList, v.oneCell' = true) (hi : (P.info? ty).map (·.size) = some ys.size)
    (h : K (a.put o.dst undef) (w.setRow g ys)) : o.wp P a w K Q := by
  have hst := run_storeVar_row (P := P) w g t ty cur ys hg hi hl (Array.all_eq_true_iff_forall_mem.2 fun v hv => h1 v (by simpa using hv))
  unfold Oper.wp execOp
  simp only [ho, hx, hy, Instr.storeAt, Instr.sureAddr, Sem.run_bind, Sem.run_pure, Result.andThen_ok, hst]
  exact h

/-- A function whose one result is a row of its own: the end. -/
theorem end_row {P : Program} {fn : Func} {R : Ending → World → Prop} {a : Act} {w : World} {g t ty : Nat} {cs : Array Value} {tt : TypeId} {fr : Nat × Nat} {d : TypeDesc}
    (hf : fn.results = #[.cell t ty]) (hp : a.tmps.getD t undef = .pointer (some ⟨g, 0, none⟩)) (hg : w.heap[g]? = some (.cells cs tt fr)) (hu : P.underlying ty = some d)
    (hd : (match d with | .struct _ | .array _ _ => true | _ => false) = true) (hi : (P.info? ty).map (·.size) = some cs.size) (hde : a.defers = []) (hR : R (.returned (.agg cs)) w) : bodyPost P fn R .normal a w := by
  refine bodyPost_end (v := .agg cs) ?_ hde hR
  have hl := run_loadVar_row (P := P) w g tt ty cs fr d hg hu hd hi
  have hp' : a.tmps[t]?.getD undef = .pointer (some ⟨g, 0, none⟩) := by simpa using hp
  simp [results, hf, hp', asAddr, hl]
theorem end_row_ret {P : Program} {fn : Func} {R : Ending → World → Prop} {a : Act} {w : World} {g t ty : Nat} {cs : Array Value} {tt : TypeId} {fr : Nat × Nat} {d : TypeDesc}
    (hf : fn.results = #[.cell t ty]) (hp : a.tmps.getD t undef = .pointer (some ⟨g, 0, none⟩)) (hg : w.heap[g]? = some (.cells cs tt fr)) (hu : P.underlying ty = some d)
    (hd : (match d with | .struct _ | .array _ _ => true | _ => false) = true) (hi : (P.info? ty).map (·.size) = some cs.size) (hde : a.defers = []) (hR : R (.returned (.agg cs)) w) : bodyPost P fn R .ret a w := by
  refine bodyPost_ret (v := .agg cs) ?_ hde hR
  have hl := run_loadVar_row (P := P) w g tt ty cs fr d hg hu hd hi
  have hp' : a.tmps[t]?.getD undef = .pointer (some ⟨g, 0, none⟩) := by simpa using hp
  simp [results, hf, hp', asAddr, hl]
end Go.Proofs.Qxb6003734a
