import Derived.Test.Qxb6003734aPeD
namespace Go.Proofs.Qxb6003734a
open Go.RowKit

theorem ke_big (e d : Int) (ao : Option Addr) (n cap : Nat) (b : Bool) (s t : ByteArray) (w : World) (hn : n ≤ maxLen) (hs : s.size ≤ maxLen) (ht : t.size ≤ maxLen) (h : ¬ n + s.size + t.size ≤ 1048576) :
    Calls Try.prog 6 #[.int .i64 e, .int .i64 d, .slice ao n cap, .bool b, .string s, .string t] w fun e w' => e = .returned (.bool true) ∧ Below w.heap.size w w' := by
  have hd : decide (n + s.size + t.size ≤ 1048576) = false := by simpa using h
  clear h
  go_enter Try.func6, Try.ntmps6
  go_wp2_with (first | (go_at_call 27; refine (sizes_ke _ _ _ _ _ _ _ _ _ hn hs ht).mono ?_; rintro e w' ⟨rfl, rfl⟩))
  go_ret
  exact ⟨rfl, Below.refl _ _⟩

set_option maxHeartbeats 1000000 in
theorem ke_out (e d : Int) (ao : Option Addr) (n cap : Nat) (b : Bool) (s t : ByteArray) (w : World) (hn : n ≤ maxLen) (hs : s.size ≤ maxLen) (ht : t.size ≤ maxLen) (hsz : n + s.size + t.size ≤ 1048576)
    (h : ¬ (n * 8 + s.size + t.size ≤ 1048576 ∧ 0 ≤ e ∧ e ≤ 1024 ∧ 0 ≤ d ∧ d ≤ e ∧ (b = true → 0 < n))) :
    Calls Try.prog 6 #[.int .i64 e, .int .i64 d, .slice ao n cap, .bool b, .string s, .string t] w fun e w' => e = .returned (.bool true) ∧ Below w.heap.size w w' := by
  have hd : decide (n + s.size + t.size ≤ 1048576) = true := by simpa using hsz
  by_cases q1 : n * 8 + s.size + t.size ≤ 1048576
  · have h36 : decide ((1048576 : Int) < (n : Int) * 8 + (s.size : Int) + (t.size : Int)) = false := by simp; omega
    by_cases q2 : e < 0
    · have h38 : decide (e < 0) = true := by simpa using q2
      clear h q1 q2
      go_enter Try.func6, Try.ntmps6
      go_wp2_with (first | (go_at_call 27; refine (sizes_ke _ _ _ _ _ _ _ _ _ hn hs ht).mono ?_; rintro e w' ⟨rfl, rfl⟩))
      go_ret
      exact ⟨rfl, Below.refl _ _⟩
    · have h38 : decide (e < 0) = false := by simpa using q2
      by_cases q3 : 1024 < e
      · have h41 : decide ((1024 : Int) < e) = true := by simpa using q3
        clear h q1 q2 q3
        go_enter Try.func6, Try.ntmps6
        go_wp2_with (first | (go_at_call 27; refine (sizes_ke _ _ _ _ _ _ _ _ _ hn hs ht).mono ?_; rintro e w' ⟨rfl, rfl⟩))
        go_ret
        exact ⟨rfl, Below.refl _ _⟩
      · have h41 : decide ((1024 : Int) < e) = false := by simpa using q3
        by_cases q4 : d < 0
        · have h44 : decide (d < 0) = true := by simpa using q4
          clear h q1 q2 q3 q4
          go_enter Try.func6, Try.ntmps6
          go_wp2_with (first | (go_at_call 27; refine (sizes_ke _ _ _ _ _ _ _ _ _ hn hs ht).mono ?_; rintro e w' ⟨rfl, rfl⟩))
          go_ret
          exact ⟨rfl, Below.refl _ _⟩
        · have h44 : decide (d < 0) = false := by simpa using q4
          by_cases q5 : e < d
          · have h48 : decide (e < d) = true := by simpa using q5
            clear h q1 q2 q3 q4 q5
            go_enter Try.func6, Try.ntmps6
            go_wp2_with (first | (go_at_call 27; refine (sizes_ke _ _ _ _ _ _ _ _ _ hn hs ht).mono ?_; rintro e w' ⟨rfl, rfl⟩))
            go_ret
            exact ⟨rfl, Below.refl _ _⟩
          · have h48 : decide (e < d) = false := by simpa using q5
            obtain ⟨rfl, hn0⟩ : b = true ∧ n = 0 := by
              cases b with
              | true => exact ⟨rfl, by omega⟩
              | false => exact absurd ⟨q1, by omega, by omega, by omega, by omega, fun h => by cases h⟩ h
            have h54 : ((n : Int) == 0) = true := by simp [hn0]
            clear h q1 q2 q3 q4 q5 hn0
            go_enter Try.func6, Try.ntmps6
            go_wp2_with (first | (go_at_call 27; refine (sizes_ke _ _ _ _ _ _ _ _ _ hn hs ht).mono ?_; rintro e w' ⟨rfl, rfl⟩))
            go_ret
            exact ⟨rfl, Below.refl _ _⟩
  · have h36 : decide ((1048576 : Int) < (n : Int) * 8 + (s.size : Int) + (t.size : Int)) = true := by simp; omega
    clear h q1
    go_enter Try.func6, Try.ntmps6
    go_wp2_with (first | (go_at_call 27; refine (sizes_ke _ _ _ _ _ _ _ _ _ hn hs ht).mono ?_; rintro e w' ⟨rfl, rfl⟩))
    go_ret
    exact ⟨rfl, Below.refl _ _⟩

/-- The numbers behind a slice of integers that came in. -/
theorem ints_of_row {w : World} {x : Addr} {len : Nat} {zs : List Int} (hlen : len ≤ zs.length) (hcell : ∀ i, i < zs.length → w.cell? (x.add i) = some (.int .i64 (zs.getD i 0))) :
    ∃ l : List Int, l.length = len ∧ InpI w (some x) l := by
  by_cases h0 : len = 0
  · exact ⟨[], by simp [h0], .inr ⟨x, rfl, .inl rfl⟩⟩
  obtain ⟨b, off, spot⟩ := x
  have hc := hcell 0 (by omega)
  have hspot : spot = none := by simpa [Addr.add] using World.cell?_spot hc
  subst hspot
  refine ⟨zs.take len, by simp; omega, .inr ⟨_, rfl, .inr ⟨b, off, rfl, fun j hj => ?_⟩⟩⟩
  have hj' : j < len := by simp at hj; omega
  have hj2 : j < zs.length := by omega
  have e : (⟨b, off, none⟩ : Addr).add j = ⟨b, off + j, none⟩ := by unfold Addr.add; split <;> simp_all
  rw [← e, hcell j hj2]
  simp [hj', hj2]

theorem ke_all (e d : Int) (a0 : Option Addr) (len0 cap0 : Nat) (z0 : List Int) (b : Bool) (s t : ByteArray) (w : World) (hs : s.size ≤ maxLen) (ht : t.size ≤ maxLen)
    (h : (a0 = none ∧ len0 = 0 ∧ cap0 = 0 ∧ z0 = []) ∨ ∃ x, a0 = some x ∧ len0 ≤ cap0 ∧ cap0 ≤ maxLen ∧ z0.length = cap0 ∧ (∀ i, i < z0.length → w.cell? (x.add i) = some (.int .i64 (z0.getD i 0)))) :
    Calls Try.prog 6 #[.int .i64 e, .int .i64 d, .slice a0 len0 cap0, .bool b, .string s, .string t] w fun e w' => e = .returned (.bool true) ∧ Below w.heap.size w w' := by
  have hn : len0 ≤ maxLen := by
    rcases h with ⟨_, rfl, _⟩ | ⟨x, _, h1, h2, _⟩
    · exact Nat.zero_le _
    · exact Nat.le_trans h1 h2
  by_cases hsz : len0 + s.size + t.size ≤ 1048576
  · by_cases hin : len0 * 8 + s.size + t.size ≤ 1048576 ∧ 0 ≤ e ∧ e ≤ 1024 ∧ 0 ≤ d ∧ d ≤ e ∧ (b = true → 0 < len0)
    · obtain ⟨q1, q2, q3, q4, q5, q6⟩ := hin
      obtain ⟨E, rfl⟩ : ∃ E : Nat, e = (E : Int) := ⟨e.toNat, by omega⟩
      obtain ⟨D, rfl⟩ : ∃ D : Nat, d = (D : Int) := ⟨d.toNat, by omega⟩
      obtain ⟨l, hl, hi⟩ : ∃ l : List Int, l.length = len0 ∧ InpI w a0 l := by
        rcases h with ⟨rfl, rfl, rfl, _⟩ | ⟨x, rfl, h1, h2, h3, h4⟩
        · exact ⟨[], rfl, .inl ⟨rfl, rfl⟩⟩
        · exact ints_of_row (len := len0) (by omega) h4
      subst hl
      cases b with
      | true => exact ke_on E D a0 cap0 l s t w (by omega) (by omega) hi hs ht q1 (q6 rfl)
      | false => exact ke_off E D a0 cap0 l s t w (by omega) (by omega) hi hs ht q1 (by omega) (by omega)
    · exact ke_out e d a0 len0 cap0 b s t w hn hs ht hsz hin
  · exact ke_big e d a0 len0 cap0 b s t w hn hs ht hsz
end Go.Proofs.Qxb6003734a
