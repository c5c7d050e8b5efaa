import Derived.Test.Qxb6003734aTm
import Derived.WalkSpells
import Derived.BigQuiet
import Derived.Deep.QuietTactic
import Derived.Deep.RegionLaw
namespace Go.Proofs.Qxb6003734a
open Go.RowKit

/-- The time that the law hands out at i, in nanoseconds after the zero time. -/
def nthD (i step : Int) : Int := wrap64 (i * step)
theorem nthD_lo (i s : Int) : -9223372036854775808 ≤ nthD i s := by unfold nthD wrap64; omega
theorem nthD_hi (i s : Int) : nthD i s ≤ 9223372036854775807 := by unfold nthD wrap64; omega

/-- A time's three cells. -/
def tcells (d : Int) : Array Value := #[.int .u64 (dNs d), .int .i64 (dSec d), .pointer none]

theorem nth_any (i s : Int) (w : World) :
    Calls Try.prog 17 #[.int .i64 i, .int .i64 s] w fun e w' => e = .returned (.agg #[.int .u64 (dNs (nthD i s)), .int .i64 (dSec (nthD i s)), .pointer none]) ∧
      w' = ((w.alloc (.cells #[.int .u64 (dNs (nthD i s)), .int .i64 (dSec (nthD i s)), .pointer none] 28)).alloc (.cells #[.int .u64 (dNs (nthD i s)), .int .i64 (dSec (nthD i s)), .pointer none] 28)).alloc (.cells #[.int .u64 (dNs (nthD i s)), .int .i64 (dSec (nthD i s)), .pointer none] 28) := by
  go_enter Try.func17, Try.ntmps17
  go_wp2_with fail
  refine (add_zero (nthD i s) _ (nthD_lo i s) (nthD_hi i s)).mono ?_
  rintro e w' ⟨rfl, rfl⟩
  go_wp2
  exact bodyPost_ret (v := .agg #[.int .u64 _, .int .i64 _, .pointer none]) (by simp [results, Try.results17, go_sem]) rfl ⟨rfl, rfl⟩

theorem newArena_any (w : World) :
    Calls Try.prog 15 #[] w fun e w' => e = .returned (.pointer (some ⟨w.heap.size, 0, none⟩)) ∧ w' = w.alloc (.cells #[.pointer none, .slice none 0 0, .slice none 0 0, .map none, .map none] 88) := by
  go_enter Try.func15, Try.ntmps15
  go_wp2
  go_ret
  exact ⟨rfl, rfl⟩
end Go.Proofs.Qxb6003734a
