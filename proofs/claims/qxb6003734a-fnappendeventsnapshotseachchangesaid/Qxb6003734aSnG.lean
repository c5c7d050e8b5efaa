import Derived.Test.Qxb6003734aSnC
import Derived.Test.Qxb6003734aRcF
import Derived.Test.Qxb6003734aSnF
namespace Go.Proofs.Qxb6003734a
open Go.RowKit Go.Lib

/-- An event's row, as it is made. -/
def evZero : Array Value := #[.string ByteArray.empty, .string ByteArray.empty, .string ByteArray.empty, .int .i64 0, .int .u64 0, .int .i64 0, .pointer none, .string ByteArray.empty, .pointer none, .string ByteArray.empty, .string ByteArray.empty, .string ByteArray.empty, .string ByteArray.empty, .int .i64 0, .string ByteArray.empty, .string ByteArray.empty, .pointer none, .int .u64 0, .int .i64 0, .pointer none, .pointer none, .pointer none, .pointer none, .pointer none, .pointer none, .pointer none, .pointer none, .pointer none, .pointer none, .pointer none]
/-- An event's row, as it is handed out. -/
def evRow (id : ByteArray) (q : Int) (typ : ByteArray) (pp : Option Addr) (est : ByteArray) : Array Value := #[.string (idS id q), .string typ, .string id, .int .i64 q, .int .u64 0, .int .i64 0, .pointer none, .string est, .pointer pp, .string id, .string ByteArray.empty, .string est, .string ByteArray.empty, .int .i64 0, .string ByteArray.empty, .string ByteArray.empty, .pointer none, .int .u64 0, .int .i64 0, .pointer none, .pointer none, .pointer none, .pointer none, .pointer none, .pointer none, .pointer none, .pointer none, .pointer none, .pointer none, .pointer none]

theorem evRow_one (id : ByteArray) (q : Int) (typ : ByteArray) (pp : Option Addr) (est : ByteArray) : ∀ u ∈ (evRow id q typ pp est).toList, u.oneCell' = true := by
  intro u hu
  simp [evRow] at hu
  rcases hu with rfl | rfl | rfl | rfl | rfl | rfl | rfl | rfl | rfl | rfl | rfl | rfl | rfl | rfl | rfl | rfl | rfl | rfl | rfl | rfl | rfl | rfl | rfl | rfl | rfl | rfl | rfl | rfl | rfl | rfl <;> rfl
theorem size66 (id : ByteArray) (q : Int) (typ : ByteArray) (pp : Option Addr) (est : ByteArray) : (Try.prog.info? 66).map (·.size) = some (evRow id q typ pp est).size := by kernel_rfl

/-- ZZEvent, given what event hands back. -/
theorem zzevent_core (r : Nat) (q qi : Int) (id typ est : ByteArray) (pp : Option Addr) (w : World)
    (he : ∀ W, Below w.heap.size w W → Calls Try.prog 40 #[.pointer (some ⟨r, 0, none⟩), .int .i64 q] W fun e w' => e = .returned (.agg (evRow id qi typ pp est)) ∧ Below W.heap.size W w') :
    Calls Try.prog 25 #[.pointer (some ⟨r, 0, none⟩), .int .i64 q] w fun e w' => e = .returned (.agg (evRow id qi typ pp est)) ∧ Below w.heap.size w w' := by
  go_enter Try.func25, Try.ntmps25
  go_wp2_with fail
  refine (he _ ((Below.refl _ _).alloc (Nat.le_refl _) _)).mono ?_
  rintro e w1 ⟨rfl, hb1⟩
  have hz : w1.heap[w.heap.size]? = some (.cells evZero 66 (0, 0)) := (hb1.block _ (by simp)).trans (heap_alloc_new w _)
  have hb2 : Below w.heap.size w w1 := ((Below.refl _ w).alloc (Nat.le_refl _) _).trans (hb1.mono (by simp))
  go_wp2_with ((with_reducible refine wpList_store_row ?s1 ?s2 66 (.tmp 4) (.tmp 7) ?s3 w.heap.size ?s4 66 evZero (evRow id qi typ pp est) ?s5 hz ?s6 (evRow_one id qi typ pp est) (size66 id qi typ pp est) ?s7); (case s3 => rfl); (case s1 => rfl); (case s2 => rfl); (case s4 => rfl); (case s5 => rfl); (case s6 => rfl))
  refine end_row_ret rfl rfl (setRow_heap w1 _ _ _ _ _ hz) Try.underlying66 rfl (size66 id qi typ pp est) rfl ⟨rfl, ?_⟩
  exact below_setRow hb2 (Nat.le_refl _) _
end Go.Proofs.Qxb6003734a
