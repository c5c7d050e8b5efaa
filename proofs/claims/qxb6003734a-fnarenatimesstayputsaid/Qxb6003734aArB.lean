import Derived.Test.Qxb6003734aArA
import Derived.Test.Qxb6003734aStep
namespace Go.Proofs.Qxb6003734a
open Go.RowKit

theorem info28 : (Try.prog.info? 28).map (fun i => (i.zero, i.size, i.bytes)) = some (some (.agg #[.int .u64 0, .int .i64 0, .pointer none]), 3, 24) := by kernel_rfl

theorem add_flat (b j : Nat) : (⟨b, 0, none⟩ : Addr).add j = ⟨b, j, none⟩ := by unfold Addr.add; split <;> simp_all

/-- The three cells of a time in a block that has just been laid. -/
theorem three_new (W : World) (B : Nat) (a b : Value) (hs : W.heap.size = B) : ∀ j u, ([a, b, .pointer none] : List Value)[j]? = some u → (W.alloc (.cells #[a, b, .pointer none] 28)).cell? ((⟨B, 0, none⟩ : Addr).add j) = some u := by
  intro j u hj
  subst hs
  rw [add_flat, cell_of_row _ W.heap.size j _ 28 (0, 0) (heap_alloc_new W _)]
  simpa using hj
theorem kept_A {w w2 : World} {o1 o2 x : Obj} {k bA g : Nat} (hA : w.heap[bA]? = some x) (hg : (((w.alloc o1).drewN k).alloc o2).grownBy w2 (some g)) (hb : bA < w.heap.size) (hne : g ≠ bA) : w2.heap[bA]? = some x := by
  rw [hg.block bA (by simp; omega) (by simp; omega)]
  show ((w.heap.push o1).push o2)[bA]? = _
  rw [Array.getElem?_push, if_neg (by simp; omega), Array.getElem?_push, if_neg (by omega), hA]
theorem kept_A1 {w1 w2 : World} {a : Addr} {u : Value} {o2 x : Obj} {bA g : Nat} (hA : (w1.setCell a u).heap[bA]? = some x) (hg : ((w1.setCell a u).drew.alloc o2).grownBy w2 (some g)) (hb : bA < w1.heap.size) (hne : g ≠ bA) : w2.heap[bA]? = some x := by
  rw [hg.block bA (by simp; omega) (by simp; omega)]
  show ((w1.setCell a u).heap.push o2)[bA]? = _
  rw [Array.getElem?_push, if_neg (by simp; omega), hA]
theorem three_one (x y : Int) : ∀ u ∈ ([.int .u64 x, .int .i64 y, .pointer none] : List Value), u.oneCell' = true := by
  intro u hu
  simp at hu
  rcases hu with rfl | rfl | rfl <;> rfl

/-- The arena, its times' slice being v. -/
def arenaObj (v : Value) : Obj := .cells #[.pointer none, .slice none 0 0, v, .map none, .map none] 88 (0, 0)

theorem grown_setCell (w : World) (b o : Nat) (v : Value) : w.grownBy (w.setCell ⟨b, o, none⟩ v) (some b) :=
  ⟨rfl, rfl, rfl, by simp, fun k _ hk => heap_setCell_other w ⟨b, o, none⟩ k v (fun e => hk (by simp [e]))⟩

/-- What stands behind a call of time: the pointer's element is written, the arena's slice is one longer; no other block has turned. -/
structure Timed (B bA g m : Nat) (xs : List Value) (d : Int) (w w' : World) : Prop where
  arena : w'.heap[bA]? = some (.cells #[.pointer none, .slice none 0 0, .slice (some ⟨g, 0, none⟩) (m + 1) 1024, .map none, .map none] 88 (0, 0))
  own : w'.ownsRow B 28 3 (.slice (some ⟨g, 0, none⟩) (m + 1) 1024) (m + 1) (xs ++ [.int .u64 (dNs d), .int .i64 (dSec d), .pointer none])
  other : ∀ b, b < w.heap.size → b ≠ bA → b ≠ g → w'.heap[b]? = w.heap[b]?
  os : w'.os = w.os
  tape : w'.tape = w.tape
  output : w'.output = w.output
  size : w.heap.size ≤ w'.heap.size

theorem timed_end {w W w2 : World} {B bA g m nq : Nat} {xs : List Value} {d : Int} (hA2 : w2.heap[bA]? = some (.cells #[.pointer none, .slice none 0 0, .slice (some ⟨g, 0, none⟩) m 1024, .map none, .map none] 88 (0, 0)))
    (ho2 : w2.ownsRow B 28 3 (.slice (some ⟨g, 0, none⟩) (m + 1) 1024) (m + 1) (xs ++ [.int .u64 (dNs d), .int .i64 (dSec d), .pointer none]))
    (hg2 : W.grownBy w2 (some g)) (hne : g ≠ bA) (hW : ∀ b, b < w.heap.size → b ≠ bA → W.heap[b]? = w.heap[b]?) (hs : w.heap.size ≤ W.heap.size) (h1 : W.os = w.os) (h2 : W.tape = w.tape) (h3 : W.output = w.output) :
    Timed B bA g m xs d w ((w2.setCell ⟨bA, 2, none⟩ (.slice (some ⟨g, 0, none⟩) (m + 1) 1024)).drewN nq) := by
  refine ⟨?_, ?_, fun b hb h1 h2 => ?_, hg2.os.trans h1, hg2.tape.trans h2, hg2.output.trans h3, ?_⟩
  · exact heap_setCell_same w2 bA 2 _ 88 _ hA2
  · show (w2.setCell _ _).ownsRow _ _ _ _ _ _
    exact ho2.kept (grown_setCell w2 bA 2 _) (.inr (by simpa [Value.ownBlock] using hne))
  · show (w2.setCell _ _).heap[b]? = _
    rw [heap_setCell_other w2 ⟨bA, 2, none⟩ b _ (by simpa using h1), hg2.block b (by omega) (by simpa using h2), hW b hb h1]
  · show w.heap.size ≤ (w2.setCell _ _).heap.size
    simp
    exact Nat.le_trans hs hg2.size

theorem two_old {w : World} {o1 o2 : Obj} {k : Nat} : ∀ b, b < w.heap.size → (((w.alloc o1).drewN k).alloc o2).heap[b]? = w.heap[b]? := by
  intro b hb
  show ((w.heap.push o1).push o2)[b]? = _
  rw [Array.getElem?_push, if_neg (by simp; omega), Array.getElem?_push, if_neg (by omega)]

set_option maxHeartbeats 1000000 in
theorem time_room (bA g m B : Nat) (d : Int) (xs : List Value) (w : World) (hm : m < 1024)
    (hA : w.heap[bA]? = some (.cells #[.pointer none, .slice none 0 0, .slice (some ⟨g, 0, none⟩) m 1024, .map none, .map none] 88 (0, 0)))
    (hown : w.ownsRow B 28 3 (.slice (some ⟨g, 0, none⟩) m 1024) m xs) (hne : g ≠ bA) :
    Calls Try.prog 36 #[.pointer (some ⟨bA, 0, none⟩), .agg #[.int .u64 (dNs d), .int .i64 (dSec d), .pointer none]] w fun e w' => e = .returned (.pointer (some ⟨g, m * 3, none⟩)) ∧ Timed B bA g m xs d w w' := by
  obtain ⟨i0, hi, hz0, hz1, hz2⟩ := info_parts info28
  have hbA : bA < w.heap.size := (Array.getElem?_eq_some_iff.1 hA).1
  have cA : w.cell? ⟨bA, 2, none⟩ = some (.slice (some ⟨g, 0, none⟩) m 1024) := by rw [cell_of_row w bA 2 _ 88 (0, 0) hA]; rfl
  have hlt : ((m : Int) == 1024) = false := by simp; omega
  have hne1 : ¬ w.heap.size = bA := by omega
  have hne2 : ¬ bA = w.heap.size := by omega
  go_enter Try.func36, Try.ntmps36
  go_wp2
  go_quiet (fail)
  go_wp2
  go_region_law (refine step_append_fits rfl (.tmp 24) (.tmp 26) 84 rfl B 28 i0 3 Try.underlying84 hi hz1 g m 1024 xs (by simp [Act.eval]) (by exact (hown.alloc _).alloc _) ⟨w.heap.size + 1, 0, none⟩ 1 1 [.int .u64 (dNs d), .int .i64 (dSec d), .pointer none] (by simp [Act.eval]) rfl (three_new _ _ _ _ (by simp)) (three_one _ _) (by omega) ?_; intro w2 ho2 hg2; have hA2 := kept_A hA hg2 hbA hne; have cA2 := cell_of_row w2 bA 2 _ 88 (0, 0) hA2; have fA2 := frozen_of_row w2 bA 2 _ 88 hA2)
  all_goals
    go_wp2
    go_quiet (fail)
    go_wp2
    go_ret
    exact ⟨rfl, timed_end hA2 ho2 hg2 hne (fun b hb _ => two_old b hb) (by simp; omega) rfl rfl rfl⟩

theorem new_old {w w1 : World} {o1 o2 : Obj} {k b bA : Nat} {v : Value} (hb : b < w.heap.size) (hne : b ≠ bA) (hg1 : ((w.alloc o1).drewN k).grownBy w1 none) :
    (((w1.setCell ⟨bA, 2, none⟩ v).drew).alloc o2).heap[b]? = w.heap[b]? := by
  have hs : w.heap.size < w1.heap.size := by have := hg1.size; simp at this; omega
  show ((w1.setCell ⟨bA, 2, none⟩ v).heap.push o2)[b]? = _
  rw [Array.getElem?_push, if_neg (by simp; omega), heap_setCell_other w1 ⟨bA, 2, none⟩ b _ (by simpa using hne), hg1.block b (by simp; omega) (by simp)]
  exact heap_alloc_old w o1 hb

set_option maxHeartbeats 1000000 in
/-- The slice is full (nil at first): a new chunk. -/
theorem time_full (bA m : Nat) (ao : Option Addr) (d : Int) (w : World)
    (hA : w.heap[bA]? = some (.cells #[.pointer none, .slice none 0 0, .slice ao m m, .map none, .map none] 88 (0, 0))) :
    Calls Try.prog 36 #[.pointer (some ⟨bA, 0, none⟩), .agg #[.int .u64 (dNs d), .int .i64 (dSec d), .pointer none]] w fun e w' => ∃ g, w.heap.size ≤ g ∧ e = .returned (.pointer (some ⟨g, 0, none⟩)) ∧ Timed w.heap.size bA g 0 [] d w w' := by
  obtain ⟨i0, hi, hz0, hz1, hz2⟩ := info_parts info28
  have hbA : bA < w.heap.size := (Array.getElem?_eq_some_iff.1 hA).1
  have cA : w.cell? ⟨bA, 2, none⟩ = some (.slice ao m m) := by rw [cell_of_row w bA 2 _ 88 (0, 0) hA]; rfl
  have hne1 : ¬ w.heap.size = bA := by omega
  have hne2 : ¬ bA = w.heap.size := by omega
  go_enter Try.func36, Try.ntmps36
  go_wp2
  go_quiet (fail)
  go_wp2_with (at_make; refine wpList_make_own _ rfl _ _ 84 rfl w.heap.size 28 i0 (.agg #[.int .u64 0, .int .i64 0, .pointer none]) 3 Try.underlying84 hi hz0 hz1 _ _ _ 1024 rfl rfl rfl ?b2 ?b3 ?b4 ?_)
  case b2 => rw [hz2]; decide
  case b3 => decide
  case b4 => simp
  intro w1 ho1 hg1
  have k1 : ∀ b, b < w.heap.size + 1 → w1.heap[b]? = ((w.alloc (.cells #[.int .u64 (dNs d), .int .i64 (dSec d), .pointer none] 28)).drewN nq).heap[b]? := fun b hb => hg1.block b (by simpa using hb) (by simp)
  have hA1 : w1.heap[bA]? = some (.cells #[.pointer none, .slice none 0 0, .slice ao m m, .map none, .map none] 88 (0, 0)) := by
    rw [k1 bA (by omega)]; exact (heap_alloc_old w _ hbA).trans hA
  have hT1 : w1.heap[w.heap.size]? = some (.cells #[.int .u64 (dNs d), .int .i64 (dSec d), .pointer none] 28 (0, 0)) := by
    rw [k1 _ (by omega)]; exact heap_alloc_new w _
  have cA1 := cell_of_row w1 bA 2 _ 88 (0, 0) hA1
  have fA1 := frozen_of_row w1 bA 2 _ 88 hA1
  have t0 := cell_of_row w1 w.heap.size 0 _ 28 (0, 0) hT1
  have t1 := cell_of_row w1 w.heap.size 1 _ 28 (0, 0) hT1
  have t2 := cell_of_row w1 w.heap.size 2 _ 28 (0, 0) hT1
  simp at cA1 t0 t1 t2
  have hsz : w.heap.size + 2 ≤ w1.heap.size := by have := (ho1.lt (w.heap.size + 1) rfl).2; omega
  have hl1 : bA < w1.heap.size := by omega
  have hl2 : w.heap.size < w1.heap.size := by omega
  have hne3 : ¬ w1.heap.size = bA := by omega
  have hne4 : ¬ bA = w1.heap.size := by omega
  have hne5 : ¬ w.heap.size = w1.heap.size := by omega
  have hne6 : ¬ w1.heap.size = w.heap.size := by omega
  have own3 : (w1.setCell ⟨bA, 2, none⟩ (.slice (some ⟨w.heap.size + 1, 0, none⟩) 0 1024)).ownsRow w.heap.size 28 3 (.slice (some ⟨w.heap.size + 1, 0, none⟩) 0 1024) 0 [] :=
    ho1.kept (grown_setCell w1 bA 2 _) (.inr (by simp [Value.ownBlock]; omega))
  have hA3 : (w1.setCell ⟨bA, 2, none⟩ (.slice (some ⟨w.heap.size + 1, 0, none⟩) 0 1024)).heap[bA]? = some (.cells #[.pointer none, .slice none 0 0, .slice (some ⟨w.heap.size + 1, 0, none⟩) 0 1024, .map none, .map none] 88 (0, 0)) :=
    heap_setCell_same w1 bA 2 _ 88 _ hA1
  go_wp2
  go_region_law (refine step_append_fits rfl (.tmp 24) (.tmp 26) 84 rfl w.heap.size 28 i0 3 Try.underlying84 hi hz1 (w.heap.size + 1) 0 1024 [] (by simp [Act.eval]) (by exact own3.alloc _) ⟨w1.heap.size, 0, none⟩ 1 1 [.int .u64 (dNs d), .int .i64 (dSec d), .pointer none] (by simp [Act.eval]) rfl (three_new _ _ _ _ (by simp)) (three_one _ _) (by omega) ?_; intro w2 ho2 hg2; have hA2 := kept_A1 hA3 hg2 (by omega) (by simp; omega); have cA2 := cell_of_row w2 bA 2 _ 88 (0, 0) hA2; have fA2 := frozen_of_row w2 bA 2 _ 88 hA2)
  all_goals
    go_wp2
    go_quiet (fail)
    go_wp2
    go_ret
    refine ⟨w.heap.size + 1, by omega, rfl, timed_end hA2 ho2 hg2 (by omega) (fun b hb hne => ?_) (by simp; omega) hg1.os hg1.tape hg1.output⟩
    exact new_old hb hne hg1
end Go.Proofs.Qxb6003734a
