import Derived.Test.Qxb6003734aRcB
import Derived.Test.Qxb6003734aRow
namespace Go.Proofs.Qxb6003734a
open Go.RowKit

theorem sub_one (id st : ByteArray) : ∀ u ∈ (subCells id st).toList, u.oneCell' = true := by
  intro u hu
  simp [subCells] at hu
  rcases hu with rfl | rfl | rfl | rfl | rfl | rfl | rfl | rfl | rfl | rfl | rfl | rfl | rfl | rfl | rfl | rfl | rfl | rfl | rfl | rfl <;> rfl

theorem size62 (id st : ByteArray) : (Try.prog.info? 62).map (·.size) = some (subCells id st).size := by kernel_rfl

set_option maxHeartbeats 1000000 in
theorem unshare_core (r sp : Nat) (v : Value) (dl : Int) (fl : Value) (id st : ByteArray) (w : World)
    (hr : w.heap[r]? = some (.cells (recCells sp v dl fl) 95 (0, 0))) (hs : w.heap[sp]? = some (.cells (subCells id st) 62 (0, 0)))
    (hsh : Calls Try.prog 39 #[.pointer (some ⟨r, 0, none⟩)] w fun e w' => e = .returned (.bool true) ∧ ∃ d, w' = w.drewN d) :
    Calls Try.prog 38 #[.pointer (some ⟨r, 0, none⟩)] w fun e w' => e = .returned (.tuple #[]) ∧ ∃ d, w' = ((w.drewN d).alloc (.cells (subCells id st) 62)).setCell ⟨r, 0, none⟩ (.pointer (some ⟨w.heap.size, 0, none⟩)) := by
  have hrl : r < w.heap.size := (Array.getElem?_eq_some_iff.1 hr).1
  have hsl : sp < w.heap.size := (Array.getElem?_eq_some_iff.1 hs).1
  have c0 : w.cell? ⟨r, 0, none⟩ = some (.pointer (some ⟨sp, 0, none⟩)) := by rw [cell_of_row w r 0 _ 95 (0, 0) hr]; rfl
  have f0 := frozen_of_row w r 0 _ 95 hr
  have hr1 : ∀ d, ((w.drewN d).alloc (.cells (subCells id st) 62)).heap[r]? = some (.cells (recCells sp v dl fl) 95 (0, 0)) := fun d => (heap_alloc_old (w.drewN d) _ hrl).trans hr
  have k1 : ∀ d, ((w.drewN d).alloc (.cells (subCells id st) 62)).cell? ⟨r, 0, none⟩ = some (.pointer (some ⟨sp, 0, none⟩)) := fun d => cell_of_row _ r 0 _ 95 (0, 0) (hr1 d)
  have k2 : ∀ d, ((w.drewN d).alloc (.cells (subCells id st) 62)).frozen? ⟨r, 0, none⟩ = false := fun d => frozen_of_row _ r 0 _ 95 (hr1 d)
  clear hr1
  go_enter Try.func38, Try.ntmps38
  go_wp2_with (first
    | (go_at_call 39; refine hsh.mono ?_; rintro e w' ⟨rfl, d, rfl⟩)
    | ((with_reducible refine wpList_load_row ?g1 62 (.tmp 9) ?g2 sp ?g3 62 (subCells id st) (0, 0) _ ?g4 Try.underlying62 ?g5 (size62 id st) ?g6); (case g2 => rfl); (case g1 => rfl); (case g3 => rfl); (case g4 => exact hs); (case g5 => rfl))
    | ((with_reducible refine wpList_store_new _ ?s1 ?s2 62 (.tmp 2) (.tmp 10) ?s3 ?s4 62 _ (subCells id st) ?s5 ?s6 (sub_one id st) (size62 id st) ?s7); (case s3 => rfl); (case s1 => rfl); (case s2 => rfl); (case s4 => rfl); (case s5 => rfl); (case s6 => rfl)))
  go_end0
  exact ⟨rfl, _, rfl⟩
end Go.Proofs.Qxb6003734a
