import Derived.Test.Qxb6003733aDue
namespace Go.Proofs.Qxb6003733a
open Go.RowKit

set_option maxHeartbeats 1000000 in
theorem due_walk_same (es en eu gs gn gu : Int) (w : World) :
    Calls Try.prog 3 #[.int .i64 es, .int .i32 en, .int .i32 eu, .int .i64 es, .int .i32 en, .int .i32 eu, .int .i64 gs, .int .i32 gn, .int .i32 gu] w fun e w' => e = .returned (.bool true) ∧ Grown w w' := by
  have h0 := befB_irr es en eu
  go_enter Try.func3, Try.ntmps3
  go_wp2_with (first | (go_at_call 7; refine (dueOf_any _ _ _ _).mono ?_; rintro e w' ⟨rfl, rfl⟩) | (go_at_call 8; refine (zzBefore_any _ _ _ _ _ _ _).mono ?_; rintro e w' ⟨rfl, rfl⟩))
  go_ret
  exact ⟨rfl, by repeat (first | apply Grown.alloc | exact Grown.refl _)⟩

set_option maxHeartbeats 2000000 in
theorem due_walk_other (es en eu fs fn fu gs gn gu : Int) (w : World) (hn : ((es == fs) = false ∧ True) ∨ ((es == fs) = true ∧ (en == fn) = false) ∨ ((es == fs) = true ∧ (en == fn) = true ∧ (eu == fu) = false)) :
    Calls Try.prog 3 #[.int .i64 es, .int .i32 en, .int .i32 eu, .int .i64 fs, .int .i32 fn, .int .i32 fu, .int .i64 gs, .int .i32 gn, .int .i32 gu] w fun e w' => e = .returned (.bool true) ∧ Grown w w' := by
  have h0 := befB_irr es en eu
  have hn' : ¬ (es = fs ∧ en = fn ∧ eu = fu) := by
    rcases hn with h | h | h <;> simp at h <;> omega
  have hc : (befB es en eu fs fn fu = true ∧ befB fs fn fu es en eu = false ∧ ((befB fs fn fu gs gn gu = true ∧ befB es en eu gs gn gu = true) ∨ (befB fs fn fu gs gn gu = false ∧ True))) ∨ (befB es en eu fs fn fu = false ∧ befB fs fn fu es en eu = true ∧ ((True ∧ True) ∨ (False ∧ True))) := by
    by_cases h1 : befB es en eu fs fn fu = true
    · by_cases h2 : befB fs fn fu gs gn gu = true
      · exact .inl ⟨h1, befB_asym h1, .inl ⟨h2, befB_trans h1 h2⟩⟩
      · exact .inl ⟨h1, befB_asym h1, .inr ⟨by simpa using h2, trivial⟩⟩
    · exact .inr ⟨by simpa using h1, befB_total (by simpa using h1) hn', .inl ⟨trivial, trivial⟩⟩
  clear hn'
  rcases hn with ⟨e1, e2⟩ | ⟨e1, e2⟩ | ⟨e1, e2, e3⟩ <;> rcases hc with ⟨h1, h2, ⟨h3, h4⟩ | ⟨h3, h4⟩⟩ | ⟨h1, h2, ⟨h3, h4⟩ | ⟨h3, h4⟩⟩ <;> first | exact h3.elim | skip
  all_goals
    go_enter Try.func3, Try.ntmps3
    go_wp2_with (first | (go_at_call 7; refine (dueOf_any _ _ _ _).mono ?_; rintro e w' ⟨rfl, rfl⟩) | (go_at_call 8; refine (zzBefore_any _ _ _ _ _ _ _).mono ?_; rintro e w' ⟨rfl, rfl⟩))
    go_ret
    exact ⟨rfl, by repeat (first | apply Grown.alloc | exact Grown.refl _)⟩

theorem due_walk (es en eu fs fn fu gs gn gu : Int) (w : World) :
    Calls Try.prog 3 #[.int .i64 es, .int .i32 en, .int .i32 eu, .int .i64 fs, .int .i32 fn, .int .i32 fu, .int .i64 gs, .int .i32 gn, .int .i32 gu] w fun e w' => e = .returned (.bool true) ∧ Grown w w' := by
  by_cases h1 : es = fs
  · by_cases h2 : en = fn
    · by_cases h3 : eu = fu
      · subst h1 h2 h3; exact due_walk_same _ _ _ _ _ _ _
      · exact due_walk_other _ _ _ _ _ _ _ _ _ _ (.inr (.inr ⟨by simpa using h1, by simpa using h2, by simpa using h3⟩))
    · exact due_walk_other _ _ _ _ _ _ _ _ _ _ (.inr (.inl ⟨by simpa using h1, by simpa using h2⟩))
  · exact due_walk_other _ _ _ _ _ _ _ _ _ _ (.inl ⟨by simpa using h1, trivial⟩)
end Go.Proofs.Qxb6003733a
