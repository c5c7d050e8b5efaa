import Derived.Test.Qxb6003733aTm
import Derived.Deep.RegionWith
namespace Go.Proofs.Qxb6003733a
open Go.RowKit

theorem wrap_i32_in (n : Int) (h0 : 0 ≤ n) (h1 : n ≤ 2147483647) : IntKind.i32.wrap n = n := by
  have e : n % (2 ^ IntKind.i32.bits : Int) = n := by
    show n % (2 ^ 32 : Int) = n
    omega
  unfold IntKind.wrap
  rw [e]
  simp only [ge_iff_le]
  rw [if_neg]
  have : ¬ ((2 ^ (IntKind.i32.bits - 1) : Int) ≤ n) := by
    show ¬ ((2 ^ 31 : Int) ≤ n)
    omega
  simp [this]

set_option maxHeartbeats 1000000 in
theorem newDue_any (u m x : Int) (w : World) (hu0 : 0 ≤ u) (hu1 : u ≤ 2147483647) (h0 : 0 ≤ m) (h1 : m < 1000000000) (hx1 : -10000000000 ≤ x) (hx2 : x ≤ 10000000000) :
    Calls Try.prog 20 #[.int .i64 u, .agg #[.int .u64 m, .int .i64 x, .pointer none]] w fun e w' => e = .returned (.agg #[.int .i64 (x - 62135596800), .int .i32 m, .int .i32 u]) ∧ w' = ((((w.alloc (.cells #[.int .u64 m, .int .i64 x, .pointer none] 40)).alloc (.cells #[.int .i64 (x - 62135596800), .int .i32 m, .int .i32 u] 23)).alloc (.cells #[.int .u64 m, .int .i64 x, .pointer none] 40)).alloc (.cells #[.int .u64 m, .int .i64 x, .pointer none] 40)).drew := by
  have hw1 := wrap_i32_in m h0 (by omega)
  have hw2 := wrap_i32_in u hu0 hu1
  go_enter Try.func20, Try.ntmps20
  go_wp2
  go_region_with (first | (go_at_call 26; refine (unix_any _ _ _ h0 h1 hx1 hx2).mono ?_; rintro e w' ⟨rfl, rfl⟩) | (go_at_call 27; refine (nano_any _ _ _ h0 h1).mono ?_; rintro e w' ⟨rfl, rfl⟩))
  all_goals
    go_wp2
    exact bodyPost_ret (v := .agg #[.int .i64 (x - 62135596800), .int .i32 m, .int .i32 u]) (by simp [results, Try.results20, go_sem]) rfl ⟨rfl, rfl⟩

theorem zzNewDue_any (u m x : Int) (w : World) (hu0 : 0 ≤ u) (hu1 : u ≤ 2147483647) (h0 : 0 ≤ m) (h1 : m < 1000000000) (hx1 : -10000000000 ≤ x) (hx2 : x ≤ 10000000000) :
    Calls Try.prog 16 #[.int .i64 u, .agg #[.int .u64 m, .int .i64 x, .pointer none]] w fun e w' => e = .returned (.agg #[.int .i64 (x - 62135596800), .int .i32 m, .int .i32 u]) ∧
      w' = ((((((w.alloc (.cells #[.int .u64 m, .int .i64 x, .pointer none] 40)).alloc (.cells #[.int .i64 (x - 62135596800), .int .i32 m, .int .i32 u] 23)).alloc (.cells #[.int .u64 m, .int .i64 x, .pointer none] 40)).alloc (.cells #[.int .i64 (x - 62135596800), .int .i32 m, .int .i32 u] 23)).alloc (.cells #[.int .u64 m, .int .i64 x, .pointer none] 40)).alloc (.cells #[.int .u64 m, .int .i64 x, .pointer none] 40)).drew := by
  go_enter Try.func16, Try.ntmps16
  go_wp2_with (first | (go_at_call 20; refine (newDue_any _ _ _ _ hu0 hu1 h0 h1 hx1 hx2).mono ?_; rintro e w' ⟨rfl, rfl⟩))
  exact bodyPost_ret (v := .agg #[.int .i64 (x - 62135596800), .int .i32 m, .int .i32 u]) (by simp [results, Try.results16, go_sem]) rfl ⟨rfl, rfl⟩

/-- The plain law: the order of two entries is that of their times, then of their indexes. -/
theorem order_lt {d1 d2 u1 u2 : Int} (h : d1 < d2) : befB (dSec d1 - 62135596800) (dNs d1) u1 (dSec d2 - 62135596800) (dNs d2) u2 = true := by
  rw [befB_iff]; unfold dSec dNs; omega
theorem order_gt {d1 d2 u1 u2 : Int} (h : d2 < d1) : befB (dSec d1 - 62135596800) (dNs d1) u1 (dSec d2 - 62135596800) (dNs d2) u2 = false := by
  rw [befB_no]; unfold dSec dNs; omega
theorem order_eq_lt {d u1 u2 : Int} (h : u1 < u2) : befB (dSec d - 62135596800) (dNs d) u1 (dSec d - 62135596800) (dNs d) u2 = true := by
  rw [befB_iff]; omega
theorem order_eq_ge {d u1 u2 : Int} (h : ¬ u1 < u2) : befB (dSec d - 62135596800) (dNs d) u1 (dSec d - 62135596800) (dNs d) u2 = false := by
  rw [befB_no]; omega
theorem dNs_lo (d : Int) : 0 ≤ dNs d := by unfold dNs; omega
theorem dNs_hi (d : Int) : dNs d < 1000000000 := by unfold dNs; omega
theorem dSec_lo (d : Int) (h : -9223372036854775808 ≤ d) : -10000000000 ≤ dSec d := by unfold dSec; omega
theorem dSec_hi (d : Int) (h : d ≤ 9223372036854775807) : dSec d ≤ 10000000000 := by unfold dSec; omega
end Go.Proofs.Qxb6003733a
