import Derived.Test.Qxb6003733aDoA
namespace Go.Proofs.Qxb6003733a
open Go.RowKit

set_option maxHeartbeats 2000000 in
theorem do_in (u1 d1 u2 d2 : Int) (w : World) (hu1 : 0 ≤ u1) (hu1' : u1 ≤ 2147483647) (hu2 : 0 ≤ u2) (hu2' : u2 ≤ 2147483647) (h1 : -9223372036854775808 ≤ d1) (h1' : d1 ≤ 9223372036854775807) (h2 : -9223372036854775808 ≤ d2) (h2' : d2 ≤ 9223372036854775807)
    (h : (d1 < d2 ∧ befB (dSec d1 - 62135596800) (dNs d1) u1 (dSec d2 - 62135596800) (dNs d2) u2 = true ∧ True ∧ True) ∨ (decide (d1 < d2) = false ∧ befB (dSec d1 - 62135596800) (dNs d1) u1 (dSec d2 - 62135596800) (dNs d2) u2 = true ∧ (d1 == d2) = true ∧ u1 < u2) ∨ (decide (d1 < d2) = false ∧ befB (dSec d1 - 62135596800) (dNs d1) u1 (dSec d2 - 62135596800) (dNs d2) u2 = false ∧ (d1 == d2) = true ∧ decide (u1 < u2) = false) ∨ (decide (d1 < d2) = false ∧ befB (dSec d1 - 62135596800) (dNs d1) u1 (dSec d2 - 62135596800) (dNs d2) u2 = false ∧ (d1 == d2) = false ∧ True)) :
    Calls Try.prog 6 #[.int .i64 u1, .int .i64 d1, .int .i64 u2, .int .i64 d2] w fun e w' => e = .returned (.bool true) ∧ Grown w w' := by
  have a0 := dNs_lo d1
  have a1 := dNs_hi d1
  have a2 := dSec_lo d1 h1
  have a3 := dSec_hi d1 h1'
  have c0 := dNs_lo d2
  have c1 := dNs_hi d2
  have c2 := dSec_lo d2 h2
  have c3 := dSec_hi d2 h2'
  rcases h with ⟨hlt, hb, he, hu⟩ | ⟨hlt, hb, he, hu⟩ | ⟨hlt, hb, he, hu⟩ | ⟨hlt, hb, he, hu⟩
  all_goals
    go_enter Try.func6, Try.ntmps6
    go_wp2_with fail
    refine (add_zero _ _ h1 h1').mono ?_
    rintro e w' ⟨rfl, rfl⟩
    go_wp2_with fail
    refine (zzNewDue_any _ _ _ _ hu1 hu1' a0 a1 a2 a3).mono ?_
    rintro e w' ⟨rfl, rfl⟩
    go_wp2_with fail
    refine (add_zero _ _ h2 h2').mono ?_
    rintro e w' ⟨rfl, rfl⟩
    go_wp2_with fail
    refine (zzNewDue_any _ _ _ _ hu2 hu2' c0 c1 c2 c3).mono ?_
    rintro e w' ⟨rfl, rfl⟩
    go_wp2_with (first | (go_at_call 8; refine (zzBefore_any _ _ _ _ _ _ _).mono ?_; rintro e w' ⟨rfl, rfl⟩))
    go_ret
    refine ⟨rfl, ?_⟩
    apply Grown.drew
    apply Grown.drew
    repeat apply Grown.alloc
    exact Grown.refl _

theorem do_out (u1 d1 u2 d2 : Int) (w : World) (h : ¬ (0 ≤ u1 ∧ u1 ≤ 2147483647 ∧ 0 ≤ u2 ∧ u2 ≤ 2147483647)) :
    Calls Try.prog 6 #[.int .i64 u1, .int .i64 d1, .int .i64 u2, .int .i64 d2] w fun e w' => e = .returned (.bool true) ∧ Grown w w' := by
  by_cases a : u1 < 0
  · clear h
    go_enter Try.func6, Try.ntmps6
    go_wp2
    go_ret
    exact ⟨rfl, Grown.refl _⟩
  · by_cases b : 2147483647 < u1
    · clear h
      go_enter Try.func6, Try.ntmps6
      go_wp2
      go_ret
      exact ⟨rfl, Grown.refl _⟩
    · by_cases c : u2 < 0
      · clear h
        go_enter Try.func6, Try.ntmps6
        go_wp2
        go_ret
        exact ⟨rfl, Grown.refl _⟩
      · have d : 2147483647 < u2 := by omega
        clear h
        go_enter Try.func6, Try.ntmps6
        go_wp2
        go_ret
        exact ⟨rfl, Grown.refl _⟩

theorem do_walk (u1 d1 u2 d2 : Int) (w : World) (h1 : -9223372036854775808 ≤ d1) (h1' : d1 ≤ 9223372036854775807) (h2 : -9223372036854775808 ≤ d2) (h2' : d2 ≤ 9223372036854775807) :
    Calls Try.prog 6 #[.int .i64 u1, .int .i64 d1, .int .i64 u2, .int .i64 d2] w fun e w' => e = .returned (.bool true) ∧ Grown w w' := by
  by_cases h : 0 ≤ u1 ∧ u1 ≤ 2147483647 ∧ 0 ≤ u2 ∧ u2 ≤ 2147483647
  · obtain ⟨x1, x2, x3, x4⟩ := h
    refine do_in u1 d1 u2 d2 w x1 x2 x3 x4 h1 h1' h2 h2' ?_
    by_cases a : d1 < d2
    · exact .inl ⟨a, order_lt a, trivial, trivial⟩
    · by_cases b : d1 = d2
      · subst b
        by_cases c : u1 < u2
        · exact .inr (.inl ⟨by simp, order_eq_lt c, by simp, c⟩)
        · exact .inr (.inr (.inl ⟨by simp, order_eq_ge c, by simp, by simpa using c⟩))
      · exact .inr (.inr (.inr ⟨by simpa using a, order_gt (by omega), by simpa using b, trivial⟩))
  · exact do_out u1 d1 u2 d2 w h
end Go.Proofs.Qxb6003733a
