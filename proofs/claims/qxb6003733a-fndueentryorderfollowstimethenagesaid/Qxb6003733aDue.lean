import Derived.Test.Qxb6003733aChecked
import Derived.WalkKit
namespace Go.Proofs.Qxb6003733a
open Go.RowKit

/-- The order of two entries, as plain data. -/
def befB (s n u s' n' u' : Int) : Bool := if s = s' then (if n = n' then decide (u < u') else decide (n < n')) else decide (s < s')

theorem ret_bool {a b : Bool} (h : a = b) : Ending.returned (.bool a) = .returned (.bool b) := by rw [h]

/-- An entry in memory. -/
def due (s n u : Int) : Obj := .cells #[.int .i64 s, .int .i32 n, .int .i32 u] 23

theorem before_any (s n u s' n' u' : Int) (w : World) :
    Calls Try.prog 18 #[.agg #[.int .i64 s, .int .i32 n, .int .i32 u], .agg #[.int .i64 s', .int .i32 n', .int .i32 u']] w fun e w' => e = .returned (.bool (befB s n u s' n' u')) ∧ w' = (w.alloc (.cells #[.int .i64 s, .int .i32 n, .int .i32 u] 23)).alloc (.cells #[.int .i64 s', .int .i32 n', .int .i32 u'] 23) := by
  by_cases h1 : s = s'
  · subst h1
    by_cases h2 : n = n'
    · subst h2
      go_enter Try.func18, Try.ntmps18
      go_wp2
      go_ret
      exact ⟨ret_bool (by simp [befB]), rfl⟩
    · have h2' : (n != n') = true := by simpa using h2
      go_enter Try.func18, Try.ntmps18
      go_wp2
      go_ret
      exact ⟨ret_bool (by simp [befB, h2]), rfl⟩
  · have h1' : (s != s') = true := by simpa using h1
    go_enter Try.func18, Try.ntmps18
    go_wp2
    go_ret
    exact ⟨ret_bool (by simp [befB, h1]), rfl⟩

theorem zzBefore_any (s n u s' n' u' : Int) (w : World) :
    Calls Try.prog 8 #[.agg #[.int .i64 s, .int .i32 n, .int .i32 u], .agg #[.int .i64 s', .int .i32 n', .int .i32 u']] w fun e w' => e = .returned (.bool (befB s n u s' n' u')) ∧ w' = (((w.alloc (.cells #[.int .i64 s, .int .i32 n, .int .i32 u] 23)).alloc (.cells #[.int .i64 s', .int .i32 n', .int .i32 u'] 23)).alloc (.cells #[.int .i64 s, .int .i32 n, .int .i32 u] 23)).alloc (.cells #[.int .i64 s', .int .i32 n', .int .i32 u'] 23) := by
  go_enter Try.func8, Try.ntmps8
  go_wp2_with (go_at_call 18; refine (before_any _ _ _ _ _ _ _).mono ?_; rintro e w' ⟨rfl, rfl⟩)
  go_ret
  exact ⟨rfl, rfl⟩

theorem befB_iff (a b c d e f : Int) : befB a b c d e f = true ↔ (a < d ∨ (a = d ∧ (b < e ∨ (b = e ∧ c < f)))) := by
  unfold befB
  by_cases h1 : a = d
  · by_cases h2 : b = e
    · simp [h1, h2]
    · simp [h1, h2]
  · simp [h1]
theorem befB_no (a b c d e f : Int) : befB a b c d e f = false ↔ ¬ (a < d ∨ (a = d ∧ (b < e ∨ (b = e ∧ c < f)))) := by
  rw [← befB_iff]; simp
theorem befB_irr (s n u : Int) : befB s n u s n u = false := by simp [befB]
theorem befB_asym {s n u s' n' u' : Int} (h : befB s n u s' n' u' = true) : befB s' n' u' s n u = false := by
  rw [befB_no]; rw [befB_iff] at h; omega
theorem befB_total {s n u s' n' u' : Int} (h : befB s n u s' n' u' = false) (hn : ¬ (s = s' ∧ n = n' ∧ u = u')) : befB s' n' u' s n u = true := by
  rw [befB_iff]; rw [befB_no] at h; omega
theorem befB_trans {s n u s' n' u' s2 n2 u2 : Int} (h : befB s n u s' n' u' = true) (h' : befB s' n' u' s2 n2 u2 = true) : befB s n u s2 n2 u2 = true := by
  rw [befB_iff] at *; omega

theorem dueOf_any (s n u : Int) (w : World) :
    Calls Try.prog 7 #[.int .i64 s, .int .i32 n, .int .i32 u] w fun e w' => e = .returned (.agg #[.int .i64 s, .int .i32 n, .int .i32 u]) ∧ w' = w.alloc (.cells #[.int .i64 s, .int .i32 n, .int .i32 u] 23) := by
  go_enter Try.func7, Try.ntmps7
  go_wp2
  exact bodyPost_ret (v := .agg #[.int .i64 s, .int .i32 n, .int .i32 u]) (by simp [results, Try.results7, go_sem]) rfl ⟨rfl, rfl⟩
end Go.Proofs.Qxb6003733a
