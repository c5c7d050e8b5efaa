import Derived.Test.Qxb6003772aDcF
namespace Go.Proofs.Qxb6003772a
open Go.RowKit Go.Lib

theorem dc_big (ao : Option Addr) (n cap : Nat) (w : World) (hn : n ≤ maxLen) (h : ¬ n ≤ 1048576) :
    Calls Try.prog 6 #[.slice ao n cap] w fun e w' => e = .returned (.bool true) ∧ Below w.heap.size w w' := by
  have hd : decide (n ≤ 1048576) = false := by simpa using h
  clear h
  go_enter Try.func6, Try.ntmps6
  go_wp2_with (first | (go_at_call 18; refine (sizes_dc _ _ _ _ hn).mono ?_; rintro e w' ⟨rfl, rfl⟩))
  go_ret
  exact ⟨rfl, Below.refl _ _⟩

/-- A line that ends in a newline or a carriage return. -/
theorem dc_ended (g o n cap : Nat) (x : Int) (w : World) (hn : n ≤ 1048576) (h0 : 0 < n) (c1 : w.cell? ⟨g, o + (n - 1), none⟩ = some (.int .u8 x)) (hx : ((x == 10) = true ∧ True) ∨ ((x == 10) = false ∧ (x == 13) = true)) :
    Calls Try.prog 6 #[.slice (some ⟨g, o, none⟩) n cap] w fun e w' => e = .returned (.bool true) ∧ Below w.heap.size w w' := by
  have hm : n ≤ maxLen := by unfold maxLen; omega
  have hd : decide (n ≤ 1048576) = true := by simpa using hn
  have h15 : decide ((1048576 : Int) < (n : Int)) = false := by simp; omega
  have f4 : decide ((0 : Int) < (n : Int)) = true := by simpa using h0
  have f5 : (0 : Int) < (n : Int) := by omega
  rcases hx with ⟨a, b⟩ | ⟨a, b⟩
  all_goals
    go_enter Try.func6, Try.ntmps6
    go_wp2_with (first | (go_at_call 18; refine (sizes_dc _ _ _ _ hm).mono ?_; rintro e w' ⟨rfl, rfl⟩))
    go_ret
    exact ⟨rfl, Below.refl _ _⟩

/-- The bytes behind a slice of integers that came in. -/
theorem bytes_of_row {w : World} {x : Addr} {len : Nat} {zs : List Int} (hlen : len ≤ zs.length) (hcell : ∀ i, i < zs.length → w.cell? (x.add i) = some (.int .u8 (zs.getD i 0))) (hwf : ∀ n ∈ zs, 0 ≤ n ∧ n ≤ 255) :
    ∃ l : List UInt8, l.length = len ∧ Reads w (some x) l := by
  by_cases h0 : len = 0
  · exact ⟨[], by simp [h0], .inl rfl⟩
  obtain ⟨b, off, spot⟩ := x
  have hc := hcell 0 (by omega)
  have hspot : spot = none := by simpa [Addr.add] using World.cell?_spot hc
  subst hspot
  refine ⟨(zs.take len).map fun n => UInt8.ofNat n.toNat, by simp; omega, .inr ⟨b, off, rfl, fun j hj => ?_⟩⟩
  have hj' : j < len := by simp at hj; omega
  have hj2 : j < zs.length := by omega
  have e : (⟨b, off, none⟩ : Addr).add j = ⟨b, off + j, none⟩ := by unfold Addr.add; split <;> simp_all
  rw [← e, hcell j hj2]
  have hw := hwf zs[j] (List.getElem_mem hj2)
  simp [hj', hj2]
  omega

theorem dc_all (a0 : Option Addr) (len0 cap0 : Nat) (z0 : List Int) (w : World)
    (h : (a0 = none ∧ len0 = 0 ∧ cap0 = 0 ∧ z0 = []) ∨ ∃ x, a0 = some x ∧ len0 ≤ cap0 ∧ cap0 ≤ maxLen ∧ z0.length = cap0 ∧ (∀ i, i < z0.length → w.cell? (x.add i) = some (.int .u8 (z0.getD i 0))) ∧ ∀ n ∈ z0, 0 ≤ n ∧ n ≤ 255) :
    Calls Try.prog 6 #[.slice a0 len0 cap0] w fun e w' => e = .returned (.bool true) ∧ Below w.heap.size w w' := by
  have hn : len0 ≤ maxLen := by
    rcases h with ⟨_, rfl, _⟩ | ⟨x, _, h1, h2, _⟩
    · exact Nat.zero_le _
    · exact Nat.le_trans h1 h2
  by_cases hsz : len0 ≤ 1048576
  · obtain ⟨l, hl, hin⟩ : ∃ l : List UInt8, l.length = len0 ∧ ((a0 = none ∧ l = [] ∧ cap0 = 0) ∨ ∃ x, a0 = some x ∧ Reads w (some x) l) := by
      rcases h with ⟨rfl, rfl, rfl, _⟩ | ⟨x, rfl, h1, h2, h3, h4, h5⟩
      · exact ⟨[], rfl, .inl ⟨rfl, rfl, rfl⟩⟩
      · obtain ⟨l, hl, hr⟩ := bytes_of_row (len := len0) (by omega) h4 h5
        exact ⟨l, hl, .inr ⟨x, rfl, hr⟩⟩
    subst hl
    by_cases hb : Body l
    · exact dc_walk a0 cap0 l w hin hsz hb _ rfl
    · have h0 : 0 < l.length := by
        rcases Nat.eq_zero_or_pos l.length with e | e
        · exact absurd (fun h => absurd h (by omega)) hb
        · exact e
      rcases hin with ⟨_, rfl, _⟩ | ⟨x, rfl, hr⟩
      · simp at h0
      · rcases hr with rfl | ⟨g, o, e, hc⟩
        · simp at h0
        · have e' : x = ⟨g, o, none⟩ := by simpa using e
          subst e'
          have b10 := beq_byte (l.getD (l.length - 1) 0) 10 (by decide)
          have b13 := beq_byte (l.getD (l.length - 1) 0) 13 (by decide)
          refine dc_ended g o l.length cap0 _ w hsz h0 (hc (l.length - 1) (by omega)) ?_
          by_cases h1 : l.getD (l.length - 1) 0 = 10
          · rw [show (UInt8.ofNat 10) = 10 from rfl, decide_eq_true h1] at b10
            exact .inl ⟨b10, trivial⟩
          · rw [show (UInt8.ofNat 10) = 10 from rfl, decide_eq_false h1] at b10
            by_cases h2 : l.getD (l.length - 1) 0 = 13
            · rw [show (UInt8.ofNat 13) = 13 from rfl, decide_eq_true h2] at b13
              exact .inr ⟨b10, b13⟩
            · exact absurd (fun _ => ⟨h1, h2⟩) hb
  · exact dc_big a0 len0 cap0 w hn hsz
end Go.Proofs.Qxb6003772a
