import Derived.Test.Qxb6003734aChecked
import Derived.WalkKit
import Derived.Test.Qxb6003734aTmP
namespace Go.Proofs.Qxb6003734a
open Go.RowKit

theorem nsec_any (b o : Nat) (m : Int) (w : World) (h0 : 0 ≤ m) (h1 : m < 1000000000) (hc : w.cell? ⟨b, o, none⟩ = some (.int .u64 m)) :
    Calls Try.prog 32 #[.pointer (some ⟨b, o, none⟩)] w fun e w' => e = .returned (.int .i32 m) ∧ w' = w := by
  have hm := mask_ns m h0 h1
  go_enter Try.func32, Try.ntmps32
  go_wp2
  go_ret
  exact ⟨rfl, rfl⟩

set_option maxHeartbeats 400000 in
theorem addSec_any (b o : Nat) (m d : Int) (w : World) (h0 : 0 ≤ m) (h1 : m < 1000000000) (hd1 : -10000000000 ≤ d) (hd2 : d ≤ 10000000000) (hc : w.cell? ⟨b, o, none⟩ = some (.int .u64 m)) (hx : w.cell? ⟨b, o + 1, none⟩ = some (.int .i64 0)) (hf : w.frozen? ⟨b, o + 1, none⟩ = false) :
    Calls Try.prog 33 #[.pointer (some ⟨b, o, none⟩), .int .i64 d] w fun e w' => e = .returned (.tuple #[]) ∧ w' = w.setCell ⟨b, o + 1, none⟩ (.int .i64 d) := by
  have hm := mask_mono m h0 h1
  go_enter Try.func33, Try.ntmps33
  go_wp2
  go_end0
  exact ⟨rfl, rfl⟩

/-- The nanoseconds and the seconds of a duration, as Add reckons them. -/
def dNs (d : Int) : Int := d % 1000000000
def dSec (d : Int) : Int := d / 1000000000

/-- Add's walk, its arithmetic given. -/
theorem add_core (d s0 n0 ns sec : Int) (w : World) (h1 : -9223372036854775808 ≤ d) (h2 : d ≤ 9223372036854775807)
    (hns0 : 0 ≤ ns) (hns1 : ns < 1000000000) (hs1 : -10000000000 ≤ sec) (hs2 : sec ≤ 10000000000)
    (h : (0 ≤ d ∧ d / 1000000000 = sec ∧ d % 1000000000 = ns ∧ s0 = 0 ∧ n0 = 0) ∨ (d < 0 ∧ d.tdiv 1000000000 = sec ∧ d.tmod 1000000000 = 0 ∧ ns = 0 ∧ s0 = 0) ∨ (d < 0 ∧ d.tdiv 1000000000 = s0 ∧ d.tmod 1000000000 = n0 ∧ n0 < 0 ∧ (sec = s0 - 1 ∧ ns = n0 + 1000000000))) :
    Calls Try.prog 9 #[.agg #[.int .u64 0, .int .i64 0, .pointer none], .int .i64 d] w fun e w' => e = .returned (.agg #[.int .u64 ns, .int .i64 sec, .pointer none]) ∧
      w' = (w.alloc (.cells #[.int .u64 ns, .int .i64 sec, .pointer none] 28)).alloc (.cells #[.int .u64 ns, .int .i64 sec, .pointer none] 28) := by
  have b1 := mask_ns 0 (by decide) (by decide)
  have b2 := strip_ns 0 (by decide) (by decide)
  have b3 := or_zero_ns ns hns0 hns1
  have b4 := mask_mono ns hns0 hns1
  rcases h with ⟨hd, e1, e2, _, _⟩ | ⟨hd, e1, e2, rfl, _⟩ | ⟨hd, e1, e2, e3, rfl, rfl⟩
  all_goals
    go_enter Try.func9, Try.ntmps9
    go_wp2_with (first | (go_at_call 32; refine (nsec_any _ _ 0 _ (by decide) (by decide) (by simp)).mono ?_; rintro e w' ⟨rfl, rfl⟩))
    refine (addSec_any _ _ _ _ _ hns0 hns1 hs1 hs2 (by simp) (by simp) (by simp)).mono ?_
    rintro e w' ⟨rfl, rfl⟩
    go_wp2
    exact bodyPost_ret (v := .agg #[.int .u64 _, .int .i64 _, .pointer none]) (by simp [results, Try.results9, go_sem]) rfl ⟨rfl, rfl⟩

theorem tdiv_neg (d : Int) (h : d < 0) : d.tdiv 1000000000 = -((-d) / 1000000000) ∧ d.tmod 1000000000 = -((-d) % 1000000000) := by
  obtain ⟨n, rfl⟩ : ∃ n : Int, d = -n := ⟨-d, by omega⟩
  rw [Int.neg_tdiv, Int.neg_tmod, Int.tdiv_eq_ediv_of_nonneg (by omega), Int.tmod_eq_emod_of_nonneg (by omega)]
  simp

theorem add_zero (d : Int) (w : World) (h1 : -9223372036854775808 ≤ d) (h2 : d ≤ 9223372036854775807) :
    Calls Try.prog 9 #[.agg #[.int .u64 0, .int .i64 0, .pointer none], .int .i64 d] w fun e w' => e = .returned (.agg #[.int .u64 (dNs d), .int .i64 (dSec d), .pointer none]) ∧
      w' = (w.alloc (.cells #[.int .u64 (dNs d), .int .i64 (dSec d), .pointer none] 28)).alloc (.cells #[.int .u64 (dNs d), .int .i64 (dSec d), .pointer none] 28) := by
  by_cases hd : 0 ≤ d
  · exact add_core d 0 0 _ _ w h1 h2 (by unfold dNs; omega) (by unfold dNs; omega) (by unfold dSec; omega) (by unfold dSec; omega) (.inl ⟨hd, rfl, rfl, rfl, rfl⟩)
  · have hd' : d < 0 := by omega
    obtain ⟨e1, e2⟩ := tdiv_neg d hd'
    by_cases hr : (-d) % 1000000000 = 0
    · exact add_core d 0 0 _ _ w h1 h2 (by unfold dNs; omega) (by unfold dNs; omega) (by unfold dSec; omega) (by unfold dSec; omega) (.inr (.inl ⟨hd', by rw [e1]; unfold dSec; omega, by rw [e2]; omega, by unfold dNs; omega, rfl⟩))
    · exact add_core d _ _ _ _ w h1 h2 (by unfold dNs; omega) (by unfold dNs; omega) (by unfold dSec; omega) (by unfold dSec; omega) (.inr (.inr ⟨hd', e1, e2, by omega, by unfold dSec; omega, by unfold dNs; omega⟩))

end Go.Proofs.Qxb6003734a
