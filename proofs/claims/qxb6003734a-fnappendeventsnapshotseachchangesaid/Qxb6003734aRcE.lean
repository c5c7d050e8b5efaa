import Derived.Test.Qxb6003734aRcD
namespace Go.Proofs.Qxb6003734a
open Go.RowKit

theorem appended_keeps {B r sp n : Nat} {v : Value} {typ prev : ByteArray} {p : Option Addr} {xs : List Value} {dl : Int} {fl : Value} {w w' : World} (h : Appended B r sp n v typ p xs dl fl prev w w') (hr : w.heap[r]? = some (.cells (recCells sp v dl fl) 95 (0, 0))) (ho : w.ownsRow B 107 7 v n xs) : Keeps w w' := by
  intro b c t fr hb h1 h2
  refine (h.other b (Array.getElem?_eq_some_iff.1 hb).1 ?_ (own_ne ho hb h2)).trans hb
  rintro rfl
  rw [hr] at hb
  simp at hb
  exact h1 hb.2.1.symm

theorem append_rc {B r sp : Nat} {id st : ByteArray} {evs : List Ev} {dl : Int} {fl : Value} {w : World} (h : Rc B r sp id st evs dl fl w) (hf : Fresh evs sp) (hn : evs.length ≤ 800000) (typ prev : ByteArray) :
    Calls Try.prog 37 #[.pointer (some ⟨r, 0, none⟩), .string typ, .agg #[.int .u64 0, .int .i64 0, .pointer none], .string prev] w fun e w' => e = .returned (.tuple #[]) ∧
      ∃ p, Rc B r sp id st (evs ++ [⟨typ, p, sp, st, prev⟩]) dl fl w' ∧ Keeps w w' ∧ Below B w w' := by
  obtain ⟨v, hv, ho⟩ := h.record
  have hsh : ∀ W : World, (∀ b, b < w.heap.size → W.heap[b]? = w.heap[b]?) → w.heap.size ≤ W.heap.size → Calls Try.prog 39 #[.pointer (some ⟨r, 0, none⟩)] W fun e w' => e = .returned (.bool false) ∧ ∃ d, w' = W.drewN d :=
    fun W hW hs => shared_fresh (h.same hs hW) hf (by omega)
  have fin : ∀ p, (((prev.toList == []) = true ∧ p = none) ∨ ((prev.toList == []) = false ∧ p = some ⟨w.heap.size + 1, 0, none⟩)) → ∀ (e : Ending) (w' : World), (e = .returned (.tuple #[]) ∧ Appended B r sp evs.length v typ p (cellsOf evs) dl fl prev w w') → e = .returned (.tuple #[]) ∧
      ∃ p, Rc B r sp id st (evs ++ [⟨typ, p, sp, st, prev⟩]) dl fl w' ∧ Keeps w w' ∧ Below B w w' := by
    rintro p hp e w' ⟨rfl, ha⟩
    have hk := appended_keeps ha hv ho
    obtain ⟨g, cap, hr', ho'⟩ := ha.own
    refine ⟨rfl, p, ⟨h.lo, Nat.le_trans h.hB ha.size, ⟨_, hr', ?_⟩, hk _ _ _ _ h.sub (by decide) (by decide), fun x hx => ?_⟩, hk, ⟨ha.os, ha.tape, ha.output, ha.size, fun b hb => ?_⟩⟩
    · rw [cellsOf_append, cellsOf_one, List.length_append]; exact ho'
    · rcases List.mem_append.1 hx with hx | hx
      · exact ⟨hk _ _ _ _ (h.each x hx).1 (by decide) (by decide), (h.each x hx).2.keeps hk⟩
      · simp at hx
        subst hx
        refine ⟨hk _ _ _ _ h.sub (by decide) (by decide), ?_⟩
        rcases hp with ⟨a, rfl⟩ | ⟨a, rfl⟩
        · exact .inl ⟨a, rfl⟩
        · exact .inr ⟨a, _, rfl, ha.prevAt⟩
    · have h1 := h.lo
      have h2 := h.hB
      refine ha.other b (by omega) (by omega) fun e => ?_
      have := (ho.lt b e.symm).1
      omega
  by_cases hp : (prev.toList == []) = true
  · exact (append_core r sp evs.length B v typ prev _ dl fl w (by omega) h.hB hv ho (fun W hW => hsh W hW) none (.inl ⟨hp, rfl⟩)).mono (fin none (.inl ⟨hp, rfl⟩))
  · have hp' : (prev.toList == []) = false := by simpa using hp
    exact (append_core r sp evs.length B v typ prev _ dl fl w (by omega) h.hB hv ho (fun W hW => hsh W hW) _ (.inr ⟨hp', rfl⟩)).mono (fin _ (.inr ⟨hp', rfl⟩))
end Go.Proofs.Qxb6003734a
