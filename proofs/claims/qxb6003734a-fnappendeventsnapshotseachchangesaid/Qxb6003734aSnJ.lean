import Derived.Test.Qxb6003734aSnI
namespace Go.Proofs.Qxb6003734a
open Go.RowKit Go.Lib

set_option maxHeartbeats 1000000 in
set_option maxRecDepth 20000 in
theorem sn_out (id first second typ1 prev1 typ2 : ByteArray) (q : Int) (w : World) (m0 : id.size ≤ maxLen) (m1 : first.size ≤ maxLen) (m2 : second.size ≤ maxLen) (m3 : typ1.size ≤ maxLen) (m4 : prev1.size ≤ maxLen) (m5 : typ2.size ≤ maxLen)
    (h : ¬ (id.size + first.size + second.size + typ1.size + prev1.size + typ2.size ≤ 1048576 ∧ 0 ≤ q ∧ q ≤ 64)) :
    Calls Try.prog 5 #[.string id, .int .i64 q, .string first, .string second, .string typ1, .string prev1, .string typ2] w fun e w' => e = .returned (.bool true) ∧ Below w.heap.size w w' := by
  by_cases hsz : id.size + first.size + second.size + typ1.size + prev1.size + typ2.size ≤ 1048576
  · have hd : decide (id.size + first.size + second.size + typ1.size + prev1.size + typ2.size ≤ 1048576) = true := by simpa using hsz
    have h45 : decide ((1048576 : Int) < (id.size : Int) + (first.size : Int) + (second.size : Int) + (typ1.size : Int) + (prev1.size : Int) + (typ2.size : Int)) = false := by simp; omega
    by_cases q2 : q < 0
    · have h47 : decide (q < 0) = true := by simpa using q2
      clear h q2
      go_enter Try.func5, Try.ntmps5
      go_wp2_with (first | (go_at_call 18; refine (sizes_sn _ _ _ _ _ _ _ _ m0 m1 m2 m3 m4 m5).mono ?_; rintro e w' ⟨rfl, rfl⟩))
      go_ret
      exact ⟨rfl, Below.refl _ _⟩
    · have h47 : decide (q < 0) = false := by simpa using q2
      have h50 : decide ((64 : Int) < q) = true := by simp; omega
      clear h q2
      go_enter Try.func5, Try.ntmps5
      go_wp2_with (first | (go_at_call 18; refine (sizes_sn _ _ _ _ _ _ _ _ m0 m1 m2 m3 m4 m5).mono ?_; rintro e w' ⟨rfl, rfl⟩))
      go_ret
      exact ⟨rfl, Below.refl _ _⟩
  · have hd : decide (id.size + first.size + second.size + typ1.size + prev1.size + typ2.size ≤ 1048576) = false := by simpa using hsz
    clear h hsz
    go_enter Try.func5, Try.ntmps5
    go_wp2_with (first | (go_at_call 18; refine (sizes_sn _ _ _ _ _ _ _ _ m0 m1 m2 m3 m4 m5).mono ?_; rintro e w' ⟨rfl, rfl⟩))
    go_ret
    exact ⟨rfl, Below.refl _ _⟩

theorem sn_all (id first second typ1 prev1 typ2 : ByteArray) (q : Int) (w : World) (m0 : id.size ≤ maxLen) (m1 : first.size ≤ maxLen) (m2 : second.size ≤ maxLen) (m3 : typ1.size ≤ maxLen) (m4 : prev1.size ≤ maxLen) (m5 : typ2.size ≤ maxLen) :
    Calls Try.prog 5 #[.string id, .int .i64 q, .string first, .string second, .string typ1, .string prev1, .string typ2] w fun e w' => e = .returned (.bool true) ∧ Below w.heap.size w w' := by
  by_cases h : id.size + first.size + second.size + typ1.size + prev1.size + typ2.size ≤ 1048576 ∧ 0 ≤ q ∧ q ≤ 64
  · obtain ⟨h1, h2, h3⟩ := h
    obtain ⟨N, rfl⟩ : ∃ N : Nat, q = (N : Int) := ⟨q.toNat, by omega⟩
    exact sn_in id first second typ1 prev1 typ2 N w (by omega) h1
  · exact sn_out id first second typ1 prev1 typ2 q w m0 m1 m2 m3 m4 m5 h
end Go.Proofs.Qxb6003734a
