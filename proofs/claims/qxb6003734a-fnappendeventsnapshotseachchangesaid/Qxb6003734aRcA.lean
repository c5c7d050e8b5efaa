import Derived.Test.Qxb6003734aChecked
import Derived.Test.Qxb6003734aStep
import Derived.WalkKit
import Derived.WalkSpells
import Derived.BigQuiet
import Derived.Deep.QuietTactic
import Derived.LaidEqlPtr
namespace Go.Proofs.Qxb6003734a
open Go.RowKit

theorem info107 : (Try.prog.info? 107).map (fun i => (i.zero, i.size, i.bytes)) = some (some (.agg #[.string ByteArray.empty, .int .u64 0, .int .i64 0, .pointer none, .pointer none, .pointer none, .pointer none]), 7, 64) := by kernel_rfl
theorem info62 : (Try.prog.info? 62).map (fun i => (i.size != 0)) = some true := by kernel_rfl

/-- A record's cells: its subscription's block, its events, what is delivered, its failures. -/
def recCells (sp : Nat) (v : Value) (dl : Int) (fl : Value) : Array Value :=
  #[.pointer (some ⟨sp, 0, none⟩), v, .int .i64 0, .int .u64 0, .int .i64 0, .pointer none, .bool false, .int .u64 0, .int .i64 0, .pointer none, .int .i64 0, .pointer none, .int .i64 dl, fl]
/-- A subscription's cells. -/
def subCells (id st : ByteArray) : Array Value :=
  #[.string id, .string ByteArray.empty, .string st, .string ByteArray.empty, .int .i64 0, .string ByteArray.empty, .string ByteArray.empty, .pointer none, .int .u64 0, .int .i64 0, .pointer none, .pointer none, .pointer none, .pointer none, .pointer none, .pointer none, .pointer none, .pointer none, .pointer none, .pointer none]
/-- An event's cells. -/
def evCells (typ : ByteArray) (pp : Value) (sp : Nat) : List Value :=
  [.string typ, .int .u64 0, .int .i64 0, .pointer none, pp, .pointer none, .pointer (some ⟨sp, 0, none⟩)]

theorem recordOf_any (id st : ByteArray) (dl : Int) (w : World) :
    Calls Try.prog 19 #[.string id, .string st, .int .i64 dl] w fun e w' => e = .returned (.pointer (some ⟨w.heap.size + 1, 0, none⟩)) ∧
      w' = (w.alloc (.cells (subCells id st) 62)).alloc (.cells (recCells w.heap.size (.slice none 0 0) dl (.pointer none)) 95) := by
  go_enter Try.func19, Try.ntmps19
  go_wp2
  go_ret
  exact ⟨rfl, rfl⟩

/-- No event: nothing is shared. -/
theorem shared_none (r sp : Nat) (ao : Option Addr) (cap : Nat) (dl : Int) (fl : Value) (w : World) (hr : w.heap[r]? = some (.cells (recCells sp (.slice ao 0 cap) dl fl) 95 (0, 0))) :
    Calls Try.prog 39 #[.pointer (some ⟨r, 0, none⟩)] w fun e w' => e = .returned (.bool false) ∧ ∃ d, w' = w.drewN d := by
  have c1 : w.cell? ⟨r, 1, none⟩ = some (.slice ao 0 cap) := by rw [cell_of_row w r 1 _ 95 (0, 0) hr]; rfl
  go_enter Try.func39, Try.ntmps39
  go_wp2
  go_quiet (fail)
  go_wp2
  go_ret
  exact ⟨rfl, _, rfl⟩

/-- The last event holds p as its subscription. -/
theorem shared_any (r sp p g n cap : Nat) (b : Bool) (dl : Int) (fl : Value) (w : World) (hn : n + 1 ≤ 1000000) (hr : w.heap[r]? = some (.cells (recCells sp (.slice (some ⟨g, 0, none⟩) (n + 1) cap) dl fl) 95 (0, 0)))
    (hc : w.cell? ⟨g, n * 7 + 6, none⟩ = some (.pointer (some ⟨p, 0, none⟩)))
    (hq : ∀ d, (binOp .eql 90 (.pointer (some ⟨p, 0, none⟩)) (.pointer (some ⟨sp, 0, none⟩))).run Try.prog (w.drewN d) = .ok (.bool b) (w.drewN d)) :
    Calls Try.prog 39 #[.pointer (some ⟨r, 0, none⟩)] w fun e w' => e = .returned (.bool b) ∧ ∃ d, w' = w.drewN d := by
  have c0 : w.cell? ⟨r, 0, none⟩ = some (.pointer (some ⟨sp, 0, none⟩)) := by rw [cell_of_row w r 0 _ 95 (0, 0) hr]; rfl
  have c1 : w.cell? ⟨r, 1, none⟩ = some (.slice (some ⟨g, 0, none⟩) (n + 1) cap) := by rw [cell_of_row w r 1 _ 95 (0, 0) hr]; rfl
  have hpos : decide ((0 : Int) < (n : Int) + 1) = true := by simp only [decide_eq_true_eq]; omega
  have hidx : (n : Int) < (n : Int) + 1 := by omega
  go_enter Try.func39, Try.ntmps39
  go_wp2
  go_quiet (fail)
  go_wp2
  go_ret
  exact ⟨rfl, _, rfl⟩
end Go.Proofs.Qxb6003734a
