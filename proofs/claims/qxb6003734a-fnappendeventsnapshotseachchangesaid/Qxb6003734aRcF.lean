import Derived.Test.Qxb6003734aRcE
namespace Go.Proofs.Qxb6003734a
open Go.RowKit

theorem unshare_rc {B r : Nat} {id st : ByteArray} {evs : List Ev} {e : Ev} {dl : Int} {fl : Value} {w : World} (h : Rc B r e.sb id st (evs ++ [e]) dl fl w) (hn : evs.length ≤ 800000) :
    Calls Try.prog 38 #[.pointer (some ⟨r, 0, none⟩)] w fun x w' => x = .returned (.tuple #[]) ∧
      ∃ sp, Rc B r sp id st (evs ++ [e]) dl fl w' ∧ Fresh (evs ++ [e]) sp ∧ Keeps w w' ∧ Below B w w' := by
  obtain ⟨v, hv, ho⟩ := h.record
  refine (unshare_core r e.sb v dl fl id st w hv h.sub (shared_last h (by omega))).mono ?_
  rintro x w' ⟨rfl, d, rfl⟩
  have hrl : r < w.heap.size := (Array.getElem?_eq_some_iff.1 hv).1
  have hr1 : ((w.drewN d).alloc (.cells (subCells id st) 62)).heap[r]? = some (.cells (recCells e.sb v dl fl) 95 (0, 0)) := (heap_alloc_old (w.drewN d) _ hrl).trans hv
  have hr2 := heap_setCell_same _ r 0 _ 95 (.pointer (some ⟨w.heap.size, 0, none⟩)) hr1
  have old : ∀ b, b < w.heap.size → b ≠ r → (((w.drewN d).alloc (.cells (subCells id st) 62)).setCell ⟨r, 0, none⟩ (.pointer (some ⟨w.heap.size, 0, none⟩))).heap[b]? = w.heap[b]? := by
    intro b hb hne
    rw [heap_setCell_other _ ⟨r, 0, none⟩ b _ (by simpa using hne)]
    exact heap_alloc_old (w.drewN d) _ hb
  have hk : Keeps w (((w.drewN d).alloc (.cells (subCells id st) 62)).setCell ⟨r, 0, none⟩ (.pointer (some ⟨w.heap.size, 0, none⟩))) := by
    intro b c t fr hb h1 h2
    refine (old b (Array.getElem?_eq_some_iff.1 hb).1 ?_).trans hb
    rintro rfl
    rw [hv] at hb
    simp at hb
    exact h1 hb.2.1.symm
  refine ⟨rfl, w.heap.size, ⟨h.lo, ?_, ⟨v, hr2, ho.1, ?_⟩, ?_, fun y hy => ⟨hk _ _ _ _ (h.each y hy).1 (by decide) (by decide), (h.each y hy).2.keeps hk⟩⟩, fun y hy => ?_, hk, ⟨rfl, rfl, rfl, ?_, fun b hb => ?_⟩⟩
  · have := h.hB; simp; omega
  · rcases ho.2 with x | ⟨g, cap, cur, a, b, c, f⟩
    · exact .inl x
    · refine .inr ⟨g, cap, cur, a, b, (old g (Array.getElem?_eq_some_iff.1 c).1 ?_).trans c, f⟩
      rintro rfl
      rw [hv] at c
      simp at c
  · rw [heap_setCell_other _ ⟨r, 0, none⟩ _ _ (by show w.heap.size ≠ r; omega)]
    exact heap_alloc_new (w.drewN d) _
  · have := (Array.getElem?_eq_some_iff.1 (h.each y hy).1).1
    omega
  · simp
  · have := h.lo
    have := h.hB
    exact old b (by omega) (by omega)

theorem zzappend_rc {B r sp : Nat} {id st : ByteArray} {evs : List Ev} {dl : Int} {fl : Value} {w : World} (h : Rc B r sp id st evs dl fl w) (hf : Fresh evs sp) (hn : evs.length ≤ 800000) (typ prev : ByteArray) :
    Calls Try.prog 20 #[.pointer (some ⟨r, 0, none⟩), .string typ, .string prev] w fun e w' => e = .returned (.tuple #[]) ∧
      ∃ p, Rc B r sp id st (evs ++ [⟨typ, p, sp, st, prev⟩]) dl fl w' ∧ Keeps w w' ∧ Below B w w' := by
  go_enter Try.func20, Try.ntmps20
  go_wp2_with (go_at_call 37; refine (append_rc h hf hn typ prev).mono ?_; rintro e w' ⟨rfl, hx⟩)
  go_end0
  exact ⟨rfl, hx⟩

theorem zzunshare_rc {B r : Nat} {id st : ByteArray} {evs : List Ev} {e : Ev} {dl : Int} {fl : Value} {w : World} (h : Rc B r e.sb id st (evs ++ [e]) dl fl w) (hn : evs.length ≤ 800000) :
    Calls Try.prog 21 #[.pointer (some ⟨r, 0, none⟩)] w fun x w' => x = .returned (.tuple #[]) ∧
      ∃ sp, Rc B r sp id st (evs ++ [e]) dl fl w' ∧ Fresh (evs ++ [e]) sp ∧ Keeps w w' ∧ Below B w w' := by
  go_enter Try.func21, Try.ntmps21
  go_wp2_with (go_at_call 38; refine (unshare_rc h hn).mono ?_; rintro e w' ⟨rfl, hx⟩)
  go_end0
  exact ⟨rfl, hx⟩

theorem zzcount_rc {B r sp : Nat} {id st : ByteArray} {evs : List Ev} {dl : Int} {fl : Value} {w : World} (h : Rc B r sp id st evs dl fl w) :
    Calls Try.prog 24 #[.pointer (some ⟨r, 0, none⟩)] w fun e w' => e = .returned (.int .i64 evs.length) ∧ w' = w := by
  obtain ⟨v, hv, ho⟩ := h.record
  obtain ⟨ao, cap, rfl⟩ : ∃ ao cap, v = .slice ao evs.length cap := by
    rcases ho.2 with ⟨rfl, e⟩ | ⟨g, cap, cur, rfl, _⟩
    · exact ⟨none, 0, by rw [e]⟩
    · exact ⟨_, cap, rfl⟩
  have c1 : w.cell? ⟨r, 1, none⟩ = some (.slice ao evs.length cap) := cell_of_row w r 1 _ 95 (0, 0) hv
  generalize evs.length = n at *
  go_enter Try.func24, Try.ntmps24
  go_wp2
  go_ret
  exact ⟨rfl, rfl⟩

/-- A new record. -/
theorem recordOf_rc (id st : ByteArray) (dl : Int) (B : Nat) (w : World) (hB : B ≤ w.heap.size) :
    Calls Try.prog 19 #[.string id, .string st, .int .i64 dl] w fun e w' => ∃ r sp, e = .returned (.pointer (some ⟨r, 0, none⟩)) ∧ Rc B r sp id st [] dl (.pointer none) w' ∧ Keeps w w' ∧ Below B w w' := by
  refine (recordOf_any id st dl w).mono ?_
  rintro e w' ⟨rfl, rfl⟩
  refine ⟨w.heap.size + 1, w.heap.size, rfl, ⟨by omega, by simp; omega, ⟨_, ?_, World.ownsRow_nil _ _ _ _⟩, ?_, fun e he => by cases he⟩, ?_, ((Below.refl _ _).alloc hB _).alloc (by simp; omega) _⟩
  · exact heap_alloc2_new w _ _
  · exact heap_alloc2_old w _ _
  · intro b c t fr hb _ _
    have := (Array.getElem?_eq_some_iff.1 hb).1
    exact (push2_old w.heap _ _ this).trans hb
end Go.Proofs.Qxb6003734a
