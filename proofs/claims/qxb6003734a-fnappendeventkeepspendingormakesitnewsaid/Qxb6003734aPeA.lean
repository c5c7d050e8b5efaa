import Derived.Test.Qxb6003734aRcF
namespace Go.Proofs.Qxb6003734a
open Go.RowKit

/-- What failures hold. -/
def failCells (again : Value) (sending : Bool) : Array Value :=
  #[.int .u64 0, .int .i64 0, .pointer none, .slice none 0 0, again, .bool sending]

theorem setFailed_rc {B r sp : Nat} {id st : ByteArray} {evs : List Ev} {dl : Int} {fl : Value} {w : World} (h : Rc B r sp id st evs dl fl w) (ao : Option Addr) (n cap : Nat) (b : Bool) :
    Calls Try.prog 29 #[.pointer (some ⟨r, 0, none⟩), .slice ao n cap, .bool b] w fun e w' => e = .returned (.tuple #[]) ∧
      ∃ f, Rc B r sp id st evs dl (.pointer (some ⟨f, 0, none⟩)) w' ∧ w'.heap[f]? = some (.cells (failCells (.slice ao n cap) b) 101 (0, 0)) ∧ Keeps w w' ∧ Below B w w' := by
  obtain ⟨v, hv, ho⟩ := h.record
  have hrl : r < w.heap.size := (Array.getElem?_eq_some_iff.1 hv).1
  have k1 : w.cell? ⟨r, 13, none⟩ = some fl := cell_of_row _ r 13 _ 95 (0, 0) hv
  have k2 : w.frozen? ⟨r, 13, none⟩ = false := frozen_of_row _ r 13 _ 95 hv
  go_enter Try.func29, Try.ntmps29
  go_wp2
  go_end0
  have hrs : r < (w.setCell ⟨r, 13, none⟩ (.pointer (some ⟨w.heap.size, 0, none⟩))).heap.size := by simpa using hrl
  have hr2 : ((w.setCell ⟨r, 13, none⟩ (.pointer (some ⟨w.heap.size, 0, none⟩))).alloc (.cells #[.int .u64 0, .int .i64 0, .pointer none, .slice none 0 0, .slice ao n cap, .bool b] 101)).heap[r]? = some (.cells (recCells sp v dl (.pointer (some ⟨w.heap.size, 0, none⟩))) 95 (0, 0)) :=
    (heap_alloc_old _ _ hrs).trans (heap_setCell_same w r 13 _ 95 (.pointer (some ⟨w.heap.size, 0, none⟩)) hv)
  have old : ∀ x, x < w.heap.size → x ≠ r → ((w.setCell ⟨r, 13, none⟩ (.pointer (some ⟨w.heap.size, 0, none⟩))).alloc (.cells #[.int .u64 0, .int .i64 0, .pointer none, .slice none 0 0, .slice ao n cap, .bool b] 101)).heap[x]? = w.heap[x]? := by
    intro x hx hne
    rw [heap_alloc_old _ _ (by simpa using hx), heap_setCell_other _ ⟨r, 13, none⟩ x _ (by simpa using hne)]
  have hk : Keeps w ((w.setCell ⟨r, 13, none⟩ (.pointer (some ⟨w.heap.size, 0, none⟩))).alloc (.cells #[.int .u64 0, .int .i64 0, .pointer none, .slice none 0 0, .slice ao n cap, .bool b] 101)) := by
    intro x c t fr hb h1 h2
    refine (old x (Array.getElem?_eq_some_iff.1 hb).1 ?_).trans hb
    rintro rfl
    rw [hv] at hb
    simp at hb
    exact h1 hb.2.1.symm
  refine ⟨rfl, w.heap.size, ⟨h.lo, ?_, ⟨v, hr2, ho.1, ?_⟩, hk _ _ _ _ h.sub (by decide) (by decide), fun y hy => ⟨hk _ _ _ _ (h.each y hy).1 (by decide) (by decide), (h.each y hy).2.keeps hk⟩⟩, ?_, hk, ⟨rfl, rfl, rfl, ?_, fun x hx => ?_⟩⟩
  · have := h.hB; simp; omega
  · rcases ho.2 with x | ⟨g, cap, cur, a, b, c, f⟩
    · exact .inl x
    · refine .inr ⟨g, cap, cur, a, b, (old g (Array.getElem?_eq_some_iff.1 c).1 ?_).trans c, f⟩
      rintro rfl
      rw [hv] at c
      simp at c
  · have e := heap_alloc_new (w.setCell ⟨r, 13, none⟩ (.pointer (some ⟨w.heap.size, 0, none⟩))) (.cells #[.int .u64 0, .int .i64 0, .pointer none, .slice none 0 0, .slice ao n cap, .bool b] 101)
    have hs : (w.setCell ⟨r, 13, none⟩ (.pointer (some ⟨w.heap.size, 0, none⟩))).heap.size = w.heap.size := by simp
    rw [hs] at e
    exact e
  · simp
  · have := h.lo
    have := h.hB
    exact old x (by omega) (by omega)

/-- What pending answers where none is being sent again. -/
theorem pending_core (r sp n cap : Nat) (ao : Option Addr) (dl : Int) (fl : Option Addr) (w : World) (hd0 : 0 ≤ dl) (hd : dl ≤ n) (hn : n ≤ 900000)
    (hr : w.heap[r]? = some (.cells (recCells sp (.slice ao n cap) dl (.pointer fl)) 95 (0, 0)))
    (hfl : (fl = none ∧ True) ∨ (∃ f, fl = some ⟨f, 0, none⟩ ∧ ∃ ag, w.heap[f]? = some (.cells (failCells ag false) 101 (0, 0)))) :
    Calls Try.prog 41 #[.pointer (some ⟨r, 0, none⟩)] w fun e w' => e = .returned (if dl = n then .tuple #[.int .i64 0, .bool false] else .tuple #[.int .i64 (dl + 1), .bool true]) ∧ ∃ d, w' = w.drewN d := by
  have c1 : w.cell? ⟨r, 1, none⟩ = some (.slice ao n cap) := cell_of_row w r 1 _ 95 (0, 0) hr
  have c12 : w.cell? ⟨r, 12, none⟩ = some (.int .i64 dl) := cell_of_row w r 12 _ 95 (0, 0) hr
  have c13 : w.cell? ⟨r, 13, none⟩ = some (.pointer fl) := cell_of_row w r 13 _ 95 (0, 0) hr
  by_cases e : dl = n
  · rw [if_pos e]
    have hq : (dl == (n : Int)) = true := by simpa using e
    clear e
    rcases hfl with ⟨rfl, _⟩ | ⟨f, rfl, ag, hf⟩
    · go_enter Try.func41, Try.ntmps41
      go_wp2
      go_quiet (fail)
      go_wp2
      go_ret2
      exact ⟨rfl, _, rfl⟩
    · have cf : w.cell? ⟨f, 5, none⟩ = some (.bool false) := cell_of_row w f 5 _ 101 (0, 0) hf
      go_enter Try.func41, Try.ntmps41
      go_wp2
      go_quiet (fail)
      go_wp2
      go_ret2
      exact ⟨rfl, _, rfl⟩
  · rw [if_neg e]
    have hq : (dl == (n : Int)) = false := by simpa using e
    clear e
    rcases hfl with ⟨rfl, _⟩ | ⟨f, rfl, ag, hf⟩
    · go_enter Try.func41, Try.ntmps41
      go_wp2
      go_quiet (fail)
      go_wp2
      go_ret2
      exact ⟨rfl, _, rfl⟩
    · have cf : w.cell? ⟨f, 5, none⟩ = some (.bool false) := cell_of_row w f 5 _ 101 (0, 0) hf
      go_enter Try.func41, Try.ntmps41
      go_wp2
      go_quiet (fail)
      go_wp2
      go_ret2
      exact ⟨rfl, _, rfl⟩

/-- What pending answers where one is being sent again. -/
theorem pending_on (r sp f g o n cap : Nat) (v : Value) (dl a : Int) (w : World) (hn : 0 < n)
    (hr : w.heap[r]? = some (.cells (recCells sp v dl (.pointer (some ⟨f, 0, none⟩))) 95 (0, 0)))
    (hf : w.heap[f]? = some (.cells (failCells (.slice (some ⟨g, o, none⟩) n cap) true) 101 (0, 0))) (hc : w.cell? ⟨g, o, none⟩ = some (.int .i64 a)) :
    Calls Try.prog 41 #[.pointer (some ⟨r, 0, none⟩)] w fun e w' => e = .returned (.tuple #[.int .i64 a, .bool true]) ∧ w' = w := by
  have c13 : w.cell? ⟨r, 13, none⟩ = some (.pointer (some ⟨f, 0, none⟩)) := cell_of_row w r 13 _ 95 (0, 0) hr
  have c5 : w.cell? ⟨f, 5, none⟩ = some (.bool true) := cell_of_row w f 5 _ 101 (0, 0) hf
  have c4 : w.cell? ⟨f, 4, none⟩ = some (.slice (some ⟨g, o, none⟩) n cap) := cell_of_row w f 4 _ 101 (0, 0) hf
  have hlt : (0 : Int) < (n : Int) := by omega
  go_enter Try.func41, Try.ntmps41
  go_wp2
  go_ret2
  exact ⟨rfl, rfl⟩
end Go.Proofs.Qxb6003734a
