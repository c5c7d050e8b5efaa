import Derived.Test.Qxb6003734aArD
namespace Go.Proofs.Qxb6003734a
open Go.RowKit

theorem arena_all (n step : Int) (w : World) :
    Calls Try.prog 4 #[.int .i64 n, .int .i64 step] w fun e w' => e = .returned (.bool true) ∧ Below w.heap.size w w' := by
  by_cases a : n < 0
  · go_enter Try.func4, Try.ntmps4
    go_wp2
    go_ret
    exact ⟨rfl, Below.refl _ _⟩
  · by_cases b : 2100 < n
    · go_enter Try.func4, Try.ntmps4
      go_wp2
      go_ret
      exact ⟨rfl, Below.refl _ _⟩
    · obtain ⟨m, rfl⟩ : ∃ m : Nat, n = (m : Int) := ⟨n.toNat, by omega⟩
      exact arena_walk m step w (by omega)
end Go.Proofs.Qxb6003734a
