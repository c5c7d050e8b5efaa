import Derived.Test.Qxb6003734aSnG
import Derived.Test.Qxb6003734aSnT
import Derived.RegionTactic
namespace Go.Proofs.Qxb6003734a
open Go.RowKit Go.Lib

/-- The worlds that the region may stand in: what was there, and the new row, are as they were. -/
def In (w w' : World) : Prop := Below (w.heap.size + 1) (w.alloc (.cells evZero 66)) w'
theorem In.cell {w w' : World} {a : Addr} {v : Value} (h : In w w') (hc : w.cell? a = some v) : w'.cell? a = some v := by
  have hb := World.block_lt_of_cell? w a hc
  rw [Below.cell h (by omega), World.cell?_alloc_lt _ _ _ hb, hc]
theorem In.row {w w' : World} (h : In w w') : w'.heap[w.heap.size]? = some (.cells evZero 66 (0, 0)) := (h.block _ (by omega)).trans (heap_alloc_new w _)
theorem In.old {w w' : World} {b : Nat} {o : Obj} (h : In w w') (hb : w.heap[b]? = some o) : w'.heap[b]? = some o := by
  have hl := (Array.getElem?_eq_some_iff.1 hb).1
  exact ((h.block b (by omega)).trans (heap_alloc_old w _ hl)).trans hb
theorem In.start (w : World) : In w (w.alloc (.cells evZero 66)).drew := (Below.refl _ _).drew
theorem In.call {w w' w'' : World} (h : In w w') (hb : Below w'.heap.size w' w'') : In w w'' := h.trans (hb.mono (by have := h.size; simpa using this))
theorem In.below {w w' : World} (h : In w w') : Below w.heap.size w w' := ((Below.refl _ w).alloc (Nat.le_refl _) _).trans (h.mono (by omega))

/-- The load of a whole row. -/
theorem exec_load_row {P : Program} {o : Oper} {a : Act} {w : World} (ty : TypeId) (x : Operand) (ho : o.op = .load ty x) (b : Nat) (hx : a.eval x = .pointer (some ⟨b, 0, none⟩)) (cs : Array Value) (t : TypeId) (fr : Nat × Nat) (d : TypeDesc)
    (hg : w.heap[b]? = some (.cells cs t fr)) (hu : P.underlying ty = some d) (hd : (match d with | .struct _ | .array _ _ => true | _ => false) = true) (hi : (P.info? ty).map (·.size) = some cs.size) :
    (execOp a.eval o).run P w = .ok (.value (.agg cs)) w := by
  have hl := run_loadVar_row (P := P) w b t ty cs fr d hg hu hd hi
  unfold execOp
  simp only [ho, hx, Instr.loadAt, Instr.sureAddr, Sem.run_bind, Sem.run_pure, Result.andThen_ok, hl]

set_option maxHeartbeats 2000000 in
set_option maxRecDepth 20000 in
theorem event_core (r sp g n cap k sb : Nat) (pp : Option Addr) (typ id st est : ByteArray) (dl : Int) (fl : Value) (w : World) (hid : id.size ≤ 1048576) (hk : k < n) (hn : n ≤ 1000000)
    (hr : w.heap[r]? = some (.cells (recCells sp (.slice (some ⟨g, 0, none⟩) n cap) dl fl) 95 (0, 0)))
    (hs : w.heap[sp]? = some (.cells (subCells id st) 62 (0, 0))) (hsb : w.heap[sb]? = some (.cells (subCells id est) 62 (0, 0)))
    (hev : ∀ j v, (evCells typ (.pointer pp) sb)[j]? = some v → w.cell? ⟨g, k * 7 + j, none⟩ = some v) :
    Calls Try.prog 40 #[.pointer (some ⟨r, 0, none⟩), .int .i64 ((k : Int) + 1)] w fun e w' => e = .returned (.agg (evRow id ((k : Int) + 1) typ pp est)) ∧ Below w.heap.size w w' := by
  have c0 : ∀ w', In w w' → w'.cell? ⟨r, 0, none⟩ = some (.pointer (some ⟨sp, 0, none⟩)) := fun w' h => h.cell (cell_of_row w r 0 _ 95 (0, 0) hr)
  have d1 : w.cell? ⟨r, 1, none⟩ = some (.slice (some ⟨g, 0, none⟩) n cap) := cell_of_row w r 1 _ 95 (0, 0) hr
  have hrl : r < w.heap.size := (Array.getElem?_eq_some_iff.1 hr).1
  have p0 : ∀ w', In w w' → w'.cell? ⟨sp, 0, none⟩ = some (.string id) := fun w' h => h.cell (cell_of_row w sp 0 _ 62 (0, 0) hs)
  have s2 : ∀ w', In w w' → w'.cell? ⟨sb, 2, none⟩ = some (.string est) := fun w' h => h.cell (cell_of_row w sb 2 _ 62 (0, 0) hsb)
  have e0 : ∀ w', In w w' → w'.cell? ⟨g, k * 7, none⟩ = some (.string typ) := fun w' h => h.cell (hev 0 _ rfl)
  have e1 : ∀ w', In w w' → w'.cell? ⟨g, k * 7 + 1, none⟩ = some (.int .u64 0) := fun w' h => h.cell (hev 1 _ rfl)
  have e2 : ∀ w', In w w' → w'.cell? ⟨g, k * 7 + 2, none⟩ = some (.int .i64 0) := fun w' h => h.cell (hev 2 _ rfl)
  have e3 : ∀ w', In w w' → w'.cell? ⟨g, k * 7 + 3, none⟩ = some (.pointer none) := fun w' h => h.cell (hev 3 _ rfl)
  have e4 : ∀ w', In w w' → w'.cell? ⟨g, k * 7 + 4, none⟩ = some (.pointer pp) := fun w' h => h.cell (hev 4 _ rfl)
  have e5 : ∀ w', In w w' → w'.cell? ⟨g, k * 7 + 5, none⟩ = some (.pointer none) := fun w' h => h.cell (hev 5 _ rfl)
  have e6 : ∀ w', In w w' → w'.cell? ⟨g, k * 7 + 6, none⟩ = some (.pointer (some ⟨sb, 0, none⟩)) := fun w' h => h.cell (hev 6 _ rfl)
  have hk' : (k : Int) < (n : Int) := by omega
  have hsb' : ∀ w', In w w' → w'.heap[sb]? = some (.cells (subCells id est) 62 (0, 0)) := fun w' h => h.old hsb
  have HS : Hid (∀ w', In w w' → w'.heap[sb]? = some (.cells (subCells id est) 62 (0, 0))) := hsb'
  clear hr hs hsb hev hsb'
  go_enter Try.func40, Try.ntmps40
  go_wp2
  refine wp_region_tail (C := In w) 48 (by kernel_rfl) (by rfl) (by kernel_rfl) (In.start w) ?_
  simp only [List.take_succ_cons, List.take_zero]
  iterate 8 (
    refine quiet_one (by rfl) ?_ ?_ ?_
    rotate_left 1
    · intro w' hSw
      go_simp
      try with_reducible rfl
    simp only [Act.put, List.setIfInBounds_toArray, List.set_cons_zero, List.set_cons_succ])
  refine quiet_call (by rfl) 45 #[.string id, .int .i64 ((k : Int) + 1)] (.string (idS id ((k : Int) + 1))) ?_ (fun w' hw' => (eventID_any id _ w' hid).mono (fun e w'' h => ⟨h.1, hw'.call h.2⟩)) ?_
  · intro w' hSw
    go_simp
  simp only [Act.put, List.setIfInBounds_toArray, List.set_cons_zero, List.set_cons_succ]
  iterate 32 (
    refine quiet_one (by rfl) ?_ ?_ ?_
    rotate_left 1
    · intro w' hSw
      go_simp
      try with_reducible rfl
    simp only [Act.put, List.setIfInBounds_toArray, List.set_cons_zero, List.set_cons_succ])
  refine quiet_one (by rfl) (.agg (subCells id est)) (fun w' hSw => exec_load_row 62 (.tmp 53) rfl sb rfl _ 62 (0, 0) _ (HS.out w' hSw) Try.underlying62 rfl (size62 id est)) ?_
  simp only [Act.put, List.setIfInBounds_toArray, List.set_cons_zero, List.set_cons_succ, subCells]
  iterate 6 (
    refine quiet_one (by rfl) ?_ ?_ ?_
    rotate_left 1
    · intro w' hSw
      go_simp
      try with_reducible rfl
    simp only [Act.put, List.setIfInBounds_toArray, List.set_cons_zero, List.set_cons_succ])
  refine wpQuiet_nil ?_
  intro w' hw'
  refine wpOp_step rfl (fun K' hK => ?_)
  rw [if_pos (by rfl)]
  refine wp_store_row 66 (.tmp 4) (.tmp 60) rfl w.heap.size rfl 66 evZero (evRow id ((k : Int) + 1) typ pp est) rfl hw'.row rfl (evRow_one _ _ _ _ _) (size66 _ _ _ _ _) (hK _ _ ?_)
  clear hK K'
  have hrow := setRow_heap w' w.heap.size evZero (evRow id ((k : Int) + 1) typ pp est) 66 (0, 0) hw'.row
  have hbel : Below w.heap.size w (w'.setRow w.heap.size (evRow id ((k : Int) + 1) typ pp est)) := below_setRow hw'.below (Nat.le_refl _) _
  generalize w'.setRow w.heap.size (evRow id ((k : Int) + 1) typ pp est) = w2 at hrow hbel ⊢
  go_wp2
  refine end_row_ret rfl rfl hrow Try.underlying66 rfl (size66 _ _ _ _ _) rfl ⟨rfl, hbel⟩
end Go.Proofs.Qxb6003734a
