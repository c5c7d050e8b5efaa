import Derived.Test.Qxb6003734aArB
namespace Go.Proofs.Qxb6003734a
open Go.RowKit

theorem ownsRow_base {w : World} {b b' : Nat} {e : TypeId} {size : Nat} {v : Value} {n : Nat} {xs : List Value} (h : w.ownsRow b e size v n xs) (hb : b' ≤ b) : w.ownsRow b' e size v n xs := by
  refine ⟨h.1, ?_⟩
  rcases h.2 with h | ⟨g, cap, cur, a, c, r⟩
  · exact .inl h
  · exact .inr ⟨g, cap, cur, a, Nat.le_trans hb c, r⟩
theorem ownsRow_same {w w' : World} {b : Nat} {e : TypeId} {size : Nat} {v : Value} {n : Nat} {xs : List Value} (h : w.ownsRow b e size v n xs) (hb : ∀ k, v.ownBlock = some k → w'.heap[k]? = w.heap[k]?) : w'.ownsRow b e size v n xs := by
  refine ⟨h.1, ?_⟩
  rcases h.2 with h | ⟨g, cap, cur, rfl, c, hg, r⟩
  · exact .inl h
  · exact .inr ⟨g, cap, cur, rfl, c, (hb g rfl).trans hg, r⟩

theorem Timed.of_alloc {B bA g m : Nat} {xs : List Value} {d : Int} {w w' : World} {o : Obj} (h : Timed B bA g m xs d (w.alloc o) w') : Timed B bA g m xs d w w' :=
  ⟨h.arena, h.own, fun b hb h1 h2 => (h.other b (by simp; omega) h1 h2).trans (heap_alloc_old w o hb), h.os, h.tape, h.output, by have := h.size; simp at this; omega⟩

theorem zztime_room (bA g m B : Nat) (d : Int) (xs : List Value) (w : World) (hm : m < 1024)
    (hA : w.heap[bA]? = some (.cells #[.pointer none, .slice none 0 0, .slice (some ⟨g, 0, none⟩) m 1024, .map none, .map none] 88 (0, 0)))
    (hown : w.ownsRow B 28 3 (.slice (some ⟨g, 0, none⟩) m 1024) m xs) (hne : g ≠ bA) :
    Calls Try.prog 16 #[.pointer (some ⟨bA, 0, none⟩), .agg #[.int .u64 (dNs d), .int .i64 (dSec d), .pointer none]] w fun e w' => e = .returned (.pointer (some ⟨g, m * 3, none⟩)) ∧ Timed B bA g m xs d w w' := by
  have hbA : bA < w.heap.size := (Array.getElem?_eq_some_iff.1 hA).1
  go_enter Try.func16, Try.ntmps16
  go_wp2_with (go_at_call 36; refine (time_room bA g m B d xs _ hm ((heap_alloc_old w _ hbA).trans hA) (hown.alloc _) hne).mono ?_; rintro e w' ⟨rfl, ht⟩)
  go_ret
  exact ⟨rfl, ht.of_alloc⟩

theorem zztime_full (bA m : Nat) (ao : Option Addr) (d : Int) (w : World)
    (hA : w.heap[bA]? = some (.cells #[.pointer none, .slice none 0 0, .slice ao m m, .map none, .map none] 88 (0, 0))) :
    Calls Try.prog 16 #[.pointer (some ⟨bA, 0, none⟩), .agg #[.int .u64 (dNs d), .int .i64 (dSec d), .pointer none]] w fun e w' => ∃ g, w.heap.size ≤ g ∧ e = .returned (.pointer (some ⟨g, 0, none⟩)) ∧ Timed w.heap.size bA g 0 [] d w w' := by
  have hbA : bA < w.heap.size := (Array.getElem?_eq_some_iff.1 hA).1
  go_enter Try.func16, Try.ntmps16
  go_wp2_with (go_at_call 36; refine (time_full bA m ao d _ ((heap_alloc_old w _ hbA).trans hA)).mono ?_; rintro e w' ⟨g, hg, rfl, ht⟩)
  go_ret
  simp at hg
  refine ⟨g, by omega, rfl, ?_⟩
  have h := ht.of_alloc
  simp at h
  exact ⟨h.arena, ownsRow_base h.own (by omega), h.other, h.os, h.tape, h.output, h.size⟩

/-- A pointer to the i-th time. -/
def ptrAt (F : Nat → Nat × Nat) (i : Nat) : Value := .pointer (some ⟨(F i).1, (F i).2 * 3, none⟩)

/-- How memory stands when kt times have been handed out and kp pointers kept: B: the arena's block; B + 1: the pointers'. -/
structure Inv (W0 : World) (B n : Nat) (step : Int) (kt kp : Nat) (F : Nat → Nat × Nat) (w : World) : Prop where
  below : Below B W0 w
  arena : (kt = 0 ∧ w.heap[B]? = some (.cells #[.pointer none, .slice none 0 0, .slice none 0 0, .map none, .map none] 88 (0, 0))) ∨
    ∃ g m xs, m ≤ 1024 ∧ w.heap[B]? = some (.cells #[.pointer none, .slice none 0 0, .slice (some ⟨g, 0, none⟩) m 1024, .map none, .map none] 88 (0, 0)) ∧ w.ownsRow (B + 2) 28 3 (.slice (some ⟨g, 0, none⟩) m 1024) m xs ∧ ∀ i, i < kt → (F i).1 < g ∨ ((F i).1 = g ∧ (F i).2 < m)
  ps : w.ownsRow (B + 1) 42 1 (.slice (some ⟨B + 1, 0, none⟩) kp n) kp ((List.range kp).map (ptrAt F))
  times : ∀ i, i < kt → B + 2 ≤ (F i).1 ∧ (F i).1 < w.heap.size ∧ w.cell? ⟨(F i).1, (F i).2 * 3, none⟩ = some (.int .u64 (dNs (nthD i step))) ∧ w.cell? ⟨(F i).1, (F i).2 * 3 + 1, none⟩ = some (.int .i64 (dSec (nthD i step))) ∧ w.cell? ⟨(F i).1, (F i).2 * 3 + 2, none⟩ = some (.pointer none)
  apart : ∀ i j, i < j → j < kt → F i ≠ F j
  rows : ∀ i, i < kt → ∃ c, w.heap[(F i).1]? = some (.cells c 28 (0, 0))

theorem Inv.keep {W0 : World} {B n kt kp : Nat} {step : Int} {F : Nat → Nat × Nat} {w w' : World} (h : Inv W0 B n step kt kp F w) (hk : ∀ b, b < w.heap.size → w'.heap[b]? = w.heap[b]?) (hs : w.heap.size ≤ w'.heap.size) (h1 : w'.os = w.os) (h2 : w'.tape = w.tape) (h3 : w'.output = w.output) : Inv W0 B n step kt kp F w' := by
  have hg : w.grownBy w' none := ⟨h1, h2, h3, hs, fun k hk' _ => hk k hk'⟩
  have hB1 : B + 1 < w.heap.size := (h.ps.lt (B + 1) rfl).2
  refine ⟨h.below.grown hg (by omega) (by simp), ?_, h.ps.kept hg (.inr (by simp [Value.ownBlock])), fun i hi => ?_, h.apart, fun i hi => (h.rows i hi).elim fun c hc => ⟨c, (hk _ (h.times i hi).2.1).trans hc⟩⟩
  · rcases h.arena with ⟨a, b⟩ | ⟨g, m, xs, a, b, c, d⟩
    · exact .inl ⟨a, (hk B (by omega)).trans b⟩
    · exact .inr ⟨g, m, xs, a, (hk B (by omega)).trans b, c.kept hg (.inr (by simp [Value.ownBlock])), d⟩
  · obtain ⟨a, b, c, d, e⟩ := h.times i hi
    refine ⟨a, by omega, ?_, ?_, ?_⟩
    · rw [World.cell?_of_block (w := w) (hk _ b)]; exact c
    · rw [World.cell?_of_block (w := w) (hk _ b)]; exact d
    · rw [World.cell?_of_block (w := w) (hk _ b)]; exact e

theorem Inv.alloc {W0 : World} {B n kt kp : Nat} {step : Int} {F : Nat → Nat × Nat} {w : World} (h : Inv W0 B n step kt kp F w) (o : Obj) : Inv W0 B n step kt kp F (w.alloc o) :=
  h.keep (fun b hb => heap_alloc_old w o hb) (by simp) rfl rfl rfl

theorem three_at {w : World} {B g m : Nat} {xs : List Value} {x y z : Value} (h : w.ownsRow B 28 3 (.slice (some ⟨g, 0, none⟩) (m + 1) 1024) (m + 1) (xs ++ [x, y, z])) :
    w.cell? ⟨g, m * 3, none⟩ = some x ∧ w.cell? ⟨g, m * 3 + 1, none⟩ = some y ∧ w.cell? ⟨g, m * 3 + 2, none⟩ = some z := by
  have hl : xs.length = m * 3 := by have := h.1; simp at this; omega
  refine ⟨?_, ?_, ?_⟩
  · rw [h.cellAt _ (by omega), List.getElem?_append_right (by omega), hl]; simp
  · rw [h.cellAt _ (by omega), List.getElem?_append_right (by omega), hl]; simp
  · rw [h.cellAt _ (by omega), List.getElem?_append_right (by omega), hl]; simp

theorem old_at {w w' : World} {B g m p : Nat} {xs ys : List Value} (h : w.ownsRow B 28 3 (.slice (some ⟨g, 0, none⟩) m 1024) m xs) (h' : w'.ownsRow B 28 3 (.slice (some ⟨g, 0, none⟩) (m + 1) 1024) (m + 1) (xs ++ ys)) (hp : p < m * 3) :
    w'.cell? ⟨g, p, none⟩ = w.cell? ⟨g, p, none⟩ := by
  have hl : xs.length = m * 3 := h.1
  rw [h.cellAt _ hp, h'.cellAt _ (by omega), List.getElem?_append_left (by omega)]

/-- A family with one member more. -/
def ext (F : Nat → Nat × Nat) (k : Nat) (p : Nat × Nat) : Nat → Nat × Nat := fun i => if i = k then p else F i
theorem ext_at (F : Nat → Nat × Nat) (k : Nat) (p : Nat × Nat) : ext F k p k = p := by simp [ext]
theorem ext_lt (F : Nat → Nat × Nat) (k : Nat) (p : Nat × Nat) (i : Nat) (h : i < k) : ext F k p i = F i := by simp [ext]; omega

/-- One time more is handed out. -/
theorem Inv.time {W0 : World} {B n k g m : Nat} {step : Int} {F : Nat → Nat × Nat} {xs : List Value} {w w' : World} (h : Inv W0 B n step k k F w) (ht : Timed (B + 2) B g m xs (nthD k step) w w') (hm : m + 1 ≤ 1024)
    (hc : ∀ i, i < k → (F i).1 < g ∨ ((F i).1 = g ∧ (F i).2 < m)) (hp : ∀ i, i < k → (F i).1 = g → w.ownsRow (B + 2) 28 3 (.slice (some ⟨g, 0, none⟩) m 1024) m xs) :
    Inv W0 B n step (k + 1) k (ext F k (g, m)) w' := by
  have hB1 : B + 1 < w.heap.size := (h.ps.lt (B + 1) rfl).2
  have hg : B + 2 ≤ g ∧ g < w'.heap.size := ht.own.lt g rfl
  have e0 := ext_lt F k (g, m)
  have ek := ext_at F k (g, m)
  refine ⟨?_, .inr ⟨g, m + 1, _, hm, ht.arena, ht.own, fun i hi => ?_⟩, ?_, fun i hi => ?_, fun i j hij hj => ?_, fun i hi => ?_⟩
  · exact h.below.trans ⟨ht.os, ht.tape, ht.output, ht.size, fun b hb => ht.other b (by omega) (by omega) (by omega)⟩
  · by_cases e : i = k
    · subst e; rw [ek]; exact .inr ⟨rfl, by simp⟩
    · rw [e0 i (by omega)]
      rcases hc i (by omega) with a | ⟨a, b⟩
      · exact .inl a
      · exact .inr ⟨a, by omega⟩
  · have em : (List.range k).map (ptrAt (ext F k (g, m))) = (List.range k).map (ptrAt F) := by
      apply List.map_congr_left
      intro i hi
      have : i < k := by simpa using hi
      unfold ptrAt; rw [e0 i this]
    rw [em]
    refine ownsRow_same h.ps fun b hb => ?_
    simp [Value.ownBlock] at hb
    subst hb
    exact ht.other _ hB1 (by omega) (by omega)
  · by_cases e : i = k
    · subst e; rw [ek]
      obtain ⟨a, b, c⟩ := three_at ht.own
      exact ⟨hg.1, hg.2, a, b, c⟩
    · have hi' : i < k := by omega
      rw [e0 i hi']
      obtain ⟨a, b, c, d, e⟩ := h.times i hi'
      have same : ∀ j, j < 3 → w'.cell? ⟨(F i).1, (F i).2 * 3 + j, none⟩ = w.cell? ⟨(F i).1, (F i).2 * 3 + j, none⟩ := by
        intro j hj
        rcases hc i hi' with x | ⟨x, y⟩
        · exact World.cell?_of_block (w := w) (a := ⟨(F i).1, (F i).2 * 3 + j, none⟩) (ht.other (F i).1 b (by omega) (by omega))
        · have ho := hp i hi' x
          rw [x]; exact old_at ho ht.own (by omega)
      have hs := ht.size
      refine ⟨a, by omega, ?_, ?_, ?_⟩
      · have := same 0 (by decide); rw [Nat.add_zero] at this; rw [this]; exact c
      · rw [same 1 (by decide)]; exact d
      · rw [same 2 (by decide)]; exact e
  · have hi' : i < k := by omega
    rw [e0 i hi']
    by_cases e : j = k
    · subst e; rw [ek]
      intro x
      rcases hc i hi' with a | ⟨a, b⟩
      · rw [x] at a; simp at a
      · rw [x] at b; simp at b
    · rw [e0 j (by omega)]; exact h.apart i j hij (by omega)
  · have hrow : ∃ c, w'.heap[g]? = some (.cells c 28 (0, 0)) := by
      rcases ht.own.2 with ⟨x, _⟩ | ⟨g1, cap, cur, x, _, hh, _⟩
      · simp at x
      · simp only [Value.slice.injEq, Option.some.injEq, Addr.mk.injEq, and_true, true_and] at x
        obtain ⟨rfl, rfl⟩ := x
        exact ⟨cur, hh⟩
    by_cases e : i = k
    · subst e; rw [ek]; exact hrow
    · have hi' : i < k := by omega
      rw [e0 i hi']
      by_cases x : (F i).1 = g
      · rw [x]; exact hrow
      · obtain ⟨a, b, _⟩ := h.times i hi'
        obtain ⟨c, hcc⟩ := h.rows i hi'
        exact ⟨c, (ht.other _ b (by omega) x).trans hcc⟩

/-- One pointer more is kept. -/
theorem Inv.push {W0 : World} {B n k : Nat} {step : Int} {F : Nat → Nat × Nat} {w w' : World} (h : Inv W0 B n step (k + 1) k F w) (hg : w.grownBy w' (some (B + 1))) (ho : w'.ownsRow (B + 1) 42 1 (.slice (some ⟨B + 1, 0, none⟩) (k + 1) n) (k + 1) ((List.range k).map (ptrAt F) ++ [ptrAt F k])) :
    Inv W0 B n step (k + 1) (k + 1) F w' := by
  have hB1 : B + 1 < w.heap.size := (h.ps.lt (B + 1) rfl).2
  refine ⟨h.below.grown hg (by omega) (by simp), ?_, by rw [List.range_succ, List.map_append]; exact ho, fun i hi => ?_, h.apart, fun i hi => ?_⟩
  · rcases h.arena with ⟨a, b⟩ | ⟨g, m, xs, a, b, c, d⟩
    · omega
    · have := (c.lt g rfl).1
      exact .inr ⟨g, m, xs, a, (hg.block B (by omega) (by simp)).trans b, c.kept hg (.inr (by simp [Value.ownBlock]; omega)), d⟩
  · obtain ⟨a, b, c, d, e⟩ := h.times i hi
    have hk := hg.block (F i).1 b (by simp; omega)
    have hs := hg.size
    refine ⟨a, by omega, ?_, ?_, ?_⟩
    · rw [World.cell?_of_block (w := w) hk]; exact c
    · rw [World.cell?_of_block (w := w) hk]; exact d
    · rw [World.cell?_of_block (w := w) hk]; exact e
  · obtain ⟨a, b, _⟩ := h.times i hi
    obtain ⟨c, hc⟩ := h.rows i hi
    exact ⟨c, (hg.block (F i).1 b (by simp; omega)).trans hc⟩
end Go.Proofs.Qxb6003734a
