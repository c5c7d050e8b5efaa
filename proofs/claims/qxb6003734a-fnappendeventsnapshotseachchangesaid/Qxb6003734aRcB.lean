import Derived.Test.Qxb6003734aRcA
namespace Go.Proofs.Qxb6003734a
open Go.RowKit

theorem push4_old (h : Array Obj) (o1 o2 o3 o4 : Obj) {b : Nat} (hb : b < h.size) : ((((h.push o1).push o2).push o3).push o4)[b]? = h[b]? := by
  rw [Array.getElem?_push, if_neg (by simp; omega), Array.getElem?_push, if_neg (by simp; omega), Array.getElem?_push, if_neg (by simp; omega), Array.getElem?_push, if_neg (by omega)]
theorem push4_at0 (h : Array Obj) (o1 o2 o3 o4 : Obj) : ((((h.push o1).push o2).push o3).push o4)[h.size]? = some o1 := by
  rw [Array.getElem?_push, if_neg (by simp; omega), Array.getElem?_push, if_neg (by simp; omega), Array.getElem?_push, if_neg (by simp)]; simp
theorem push4_at1 (h : Array Obj) (o1 o2 o3 o4 : Obj) : ((((h.push o1).push o2).push o3).push o4)[h.size + 1]? = some o2 := by
  rw [Array.getElem?_push, if_neg (by simp), Array.getElem?_push, if_neg (by simp), Array.getElem?_push]; simp
theorem push2_old (h : Array Obj) (o1 o2 : Obj) {b : Nat} (hb : b < h.size) : ((h.push o1).push o2)[b]? = h[b]? := by
  rw [Array.getElem?_push, if_neg (by simp; omega), Array.getElem?_push, if_neg (by omega)]

theorem own_ne {w : World} {B r n : Nat} {v : Value} {xs : List Value} {c : Array Value} {t : TypeId} {fr : Nat × Nat} (h : w.ownsRow B 107 7 v n xs) (hr : w.heap[r]? = some (.cells c t fr)) (ht : t ≠ 107) : some r ≠ v.ownBlock := by
  intro e
  rcases h.2 with ⟨rfl, _⟩ | ⟨g, cap, cur, rfl, _, hg, _⟩
  · simp [Value.ownBlock] at e
  · simp [Value.ownBlock] at e
    subst e
    rw [hr] at hg
    simp at hg
    exact ht hg.2.1
theorem own_some {w : World} {B n : Nat} {v : Value} {xs : List Value} (h : w.ownsRow B 107 7 v (n + 1) xs) : ∃ g cap, v = .slice (some ⟨g, 0, none⟩) (n + 1) cap := by
  rcases h.2 with ⟨_, e⟩ | ⟨g, cap, cur, rfl, _⟩
  · omega
  · exact ⟨g, cap, rfl⟩
theorem add_flat' (b j : Nat) : (⟨b, 0, none⟩ : Addr).add j = ⟨b, j, none⟩ := by unfold Addr.add; split <;> simp_all

theorem seven_new (W : World) (B : Nat) (c : List Value) (hs : W.heap.size = B) : ∀ j u, c[j]? = some u → (W.alloc (.cells c.toArray 107)).cell? ((⟨B, 0, none⟩ : Addr).add j) = some u := by
  intro j u hj
  subst hs
  rw [add_flat', cell_of_row _ W.heap.size j _ 107 (0, 0) (heap_alloc_new W _)]
  simpa using hj
theorem seven_one (typ : ByteArray) (sp : Nat) (p : Option Addr) : ∀ u ∈ evCells typ (.pointer p) sp, u.oneCell' = true := by
  intro u hu
  simp [evCells] at hu
  rcases hu with rfl | rfl | rfl | rfl | rfl | rfl | rfl <;> rfl

/-- What appendEvent leaves. -/
structure Appended (B r sp n : Nat) (v : Value) (typ : ByteArray) (p : Option Addr) (xs : List Value) (dl : Int) (fl : Value) (prev : ByteArray) (w w' : World) : Prop where
  own : ∃ g cap, w'.heap[r]? = some (.cells (recCells sp (.slice (some ⟨g, 0, none⟩) (n + 1) cap) dl fl) 95 (0, 0)) ∧ w'.ownsRow B 107 7 (.slice (some ⟨g, 0, none⟩) (n + 1) cap) (n + 1) (xs ++ evCells typ (.pointer p) sp)
  other : ∀ b, b < w.heap.size → b ≠ r → some b ≠ v.ownBlock → w'.heap[b]? = w.heap[b]?
  prevAt : w'.heap[w.heap.size + 1]? = some (.cells #[.string prev] 55 (0, 0))
  os : w'.os = w.os
  tape : w'.tape = w.tape
  output : w'.output = w.output
  size : w.heap.size ≤ w'.heap.size

theorem appended_end {w W w2 : World} {B r sp n g cap : Nat} {v : Value} {typ prev : ByteArray} {p : Option Addr} {xs : List Value} {dl : Int} {fl : Value}
    (hr2 : w2.heap[r]? = some (.cells (recCells sp v dl fl) 95 (0, 0))) (ho2 : w2.ownsRow B 107 7 (.slice (some ⟨g, 0, none⟩) (n + 1) cap) (n + 1) (xs ++ evCells typ (.pointer p) sp)) (hg2 : W.grownBy w2 v.ownBlock)
    (hown : w.ownsRow B 107 7 v n xs) (hrl : r < w.heap.size) (hW : ∀ b, b < w.heap.size → W.heap[b]? = w.heap[b]?) (hP : W.heap[w.heap.size + 1]? = some (.cells #[.string prev] 55 (0, 0))) (hs : w.heap.size + 2 ≤ W.heap.size) (h1 : W.os = w.os) (h2 : W.tape = w.tape) (h3 : W.output = w.output) :
    Appended B r sp n v typ p xs dl fl prev w ((((w2.setCell ⟨r, 1, none⟩ (.slice (some ⟨g, 0, none⟩) (n + 1) cap)).setCell ⟨r, 3, none⟩ (.int .u64 0)).setCell ⟨r, 4, none⟩ (.int .i64 0)).setCell ⟨r, 5, none⟩ (.pointer none)) := by
  have k : ∀ b, b ≠ r → ((((w2.setCell ⟨r, 1, none⟩ (.slice (some ⟨g, 0, none⟩) (n + 1) cap)).setCell ⟨r, 3, none⟩ (.int .u64 0)).setCell ⟨r, 4, none⟩ (.int .i64 0)).setCell ⟨r, 5, none⟩ (.pointer none)).heap[b]? = w2.heap[b]? := by
    intro b hb
    rw [heap_setCell_other _ ⟨r, 5, none⟩ b _ (by simpa using hb), heap_setCell_other _ ⟨r, 4, none⟩ b _ (by simpa using hb), heap_setCell_other _ ⟨r, 3, none⟩ b _ (by simpa using hb), heap_setCell_other _ ⟨r, 1, none⟩ b _ (by simpa using hb)]
  have e1 := heap_setCell_same w2 r 1 _ 95 (.slice (some ⟨g, 0, none⟩) (n + 1) cap) hr2
  have e2 := heap_setCell_same _ r 3 _ 95 (.int .u64 0) e1
  have e3 := heap_setCell_same _ r 4 _ 95 (.int .i64 0) e2
  have e4 := heap_setCell_same _ r 5 _ 95 (.pointer none) e3
  have hgr : some r ≠ (Value.slice (some ⟨g, 0, none⟩) (n + 1) cap).ownBlock := own_ne ho2 hr2 (by decide)
  have hPo : some (w.heap.size + 1) ≠ v.ownBlock := fun e => by have := (hown.lt _ e.symm).2; omega
  refine ⟨⟨g, cap, e4, ?_⟩, fun b hb hbr hbv => ?_, ?_, hg2.os.trans h1, hg2.tape.trans h2, hg2.output.trans h3, ?_⟩
  · refine ⟨ho2.1, ?_⟩
    rcases ho2.2 with x | ⟨g', cap', cur, x, y, hh, z⟩
    · exact .inl x
    · refine .inr ⟨g', cap', cur, x, y, (k g' ?_).trans hh, z⟩
      intro e
      rw [x, e] at hgr
      exact hgr rfl
  · rw [k b hbr, hg2.block b (by omega) hbv, hW b hb]
  · rw [k _ (by omega), hg2.block _ (by omega) hPo, hP]
  · have := hg2.size
    simp
    omega

set_option maxHeartbeats 1000000 in
theorem append_core (r sp n B : Nat) (v : Value) (typ prev : ByteArray) (xs : List Value) (dl : Int) (fl : Value) (w : World) (hn : n + 1 ≤ 1000000) (hB : B ≤ w.heap.size)
    (hr : w.heap[r]? = some (.cells (recCells sp v dl fl) 95 (0, 0))) (hown : w.ownsRow B 107 7 v n xs)
    (hsh : ∀ W : World, (∀ b, b < w.heap.size → W.heap[b]? = w.heap[b]?) → w.heap.size ≤ W.heap.size → Calls Try.prog 39 #[.pointer (some ⟨r, 0, none⟩)] W fun e w' => e = .returned (.bool false) ∧ ∃ d, w' = W.drewN d) (p : Option Addr) (hp : ((prev.toList == []) = true ∧ p = none) ∨ ((prev.toList == []) = false ∧ p = some ⟨w.heap.size + 1, 0, none⟩)) :
    Calls Try.prog 37 #[.pointer (some ⟨r, 0, none⟩), .string typ, .agg #[.int .u64 0, .int .i64 0, .pointer none], .string prev] w fun e w' => e = .returned (.tuple #[]) ∧ Appended B r sp n v typ p xs dl fl prev w w' := by
  obtain ⟨i0, hi, hz0, hz1, hz2⟩ := info_parts info107
  have hrl : r < w.heap.size := (Array.getElem?_eq_some_iff.1 hr).1
  have hro := own_ne hown hr (by decide)
  rcases hp with ⟨hp, rfl⟩ | ⟨hp, rfl⟩
  all_goals
    go_enter Try.func37, Try.ntmps37
    go_wp2_with fail
    refine (hsh _ (fun b hb => push2_old _ _ _ hb) (by simp; omega)).mono ?_
    rintro e w' ⟨rfl, d, rfl⟩
    have c0 : w.cell? ⟨r, 0, none⟩ = some (.pointer (some ⟨sp, 0, none⟩)) := by rw [cell_of_row w r 0 _ 95 (0, 0) hr]; rfl
    have c1 : w.cell? ⟨r, 1, none⟩ = some v := by rw [cell_of_row w r 1 _ 95 (0, 0) hr]; rfl
    have hl1 : r < w.heap.size + 1 := by omega
    have hl2 : r < w.heap.size + 1 + 1 := by omega
    have hl3 : r < w.heap.size + 1 + 1 + 1 := by omega
    go_wp2
    go_region
    go_wp2
    go_region_law (refine step_append_own rfl (.tmp 35) (.tmp 37) 91 rfl B 107 i0 _ 7 64 Try.underlying91 hi hz0 hz1 hz2 rfl (by decide) v n xs (by simp [Act.eval]) (by exact (((hown.alloc _).alloc _).alloc _).alloc _) ⟨w.heap.size + 1 + 1 + 1, 0, none⟩ 1 1 (evCells typ (.pointer _) sp) (by simp [Act.eval]) rfl (seven_new _ _ _ (by simp)) (seven_one _ _ _) (by unfold maxLen; omega) (by omega) (by simp; omega) ?_; intro v2 w2 ho2 hg2; obtain ⟨g2, cap2, rfl⟩ := own_some ho2; have hr2 := (hg2.block r (by simp; omega) hro).trans ((push4_old _ _ _ _ _ hrl).trans hr); have d1 : w2.cell? ⟨r, 1, none⟩ = some v := (cell_of_row w2 r 1 _ 95 (0, 0) hr2); have f1 := frozen_of_row w2 r 1 _ 95 hr2)
    all_goals
      have hTo : some w.heap.size ≠ v.ownBlock := fun e => by have := (hown.lt _ e.symm).2; omega
      have hT2 := (hg2.block w.heap.size (by simp; omega) hTo).trans (push4_at0 _ _ _ _ _)
      have t0 := cell_of_row w2 w.heap.size 0 _ 28 (0, 0) hT2
      have t1 := cell_of_row w2 w.heap.size 1 _ 28 (0, 0) hT2
      have t2 := cell_of_row w2 w.heap.size 2 _ 28 (0, 0) hT2
      simp at t0 t1 t2
      have d3 : w2.cell? ⟨r, 3, none⟩ = some (.int .u64 0) := (cell_of_row w2 r 3 _ 95 (0, 0) hr2)
      have d4 : w2.cell? ⟨r, 4, none⟩ = some (.int .i64 0) := (cell_of_row w2 r 4 _ 95 (0, 0) hr2)
      have d5 : w2.cell? ⟨r, 5, none⟩ = some (.pointer none) := (cell_of_row w2 r 5 _ 95 (0, 0) hr2)
      have f3 := frozen_of_row w2 r 3 _ 95 hr2
      have f4 := frozen_of_row w2 r 4 _ 95 hr2
      have f5 := frozen_of_row w2 r 5 _ 95 hr2
      have hne : ¬ w.heap.size = r := by omega
      have hne' : ¬ r = w.heap.size := by omega
      go_wp2
      go_end0
      exact ⟨rfl, appended_end hr2 ho2 hg2 hown hrl (fun b hb => push4_old _ _ _ _ _ hb) (push4_at1 _ _ _ _ _) (by simp) rfl rfl rfl⟩
end Go.Proofs.Qxb6003734a
