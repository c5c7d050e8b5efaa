import Derived.Test.Qxb6003734aRcC
namespace Go.Proofs.Qxb6003734a
open Go.RowKit

/-- An event: its type, the pointer to its previous status, its subscription's block, the status there, the previous status. -/
structure Ev where
  typ : ByteArray
  pp : Option Addr
  sb : Nat
  st : ByteArray
  prev : ByteArray

def cellsOf : List Ev → List Value
  | [] => []
  | e :: es => evCells e.typ (.pointer e.pp) e.sb ++ cellsOf es

theorem cellsOf_append (a b : List Ev) : cellsOf (a ++ b) = cellsOf a ++ cellsOf b := by
  induction a with
  | nil => rfl
  | cons e es ih => simp [cellsOf, ih]
theorem cellsOf_length (a : List Ev) : (cellsOf a).length = a.length * 7 := by
  induction a with
  | nil => rfl
  | cons e es ih => simp [cellsOf, ih, evCells]; omega
theorem cellsOf_one (e : Ev) : cellsOf [e] = evCells e.typ (.pointer e.pp) e.sb := by simp [cellsOf]

/-- The pointer to an event's previous status. -/
def PrevOk (w : World) (e : Ev) : Prop :=
  ((e.prev.toList == []) = true ∧ e.pp = none) ∨ ((e.prev.toList == []) = false ∧ ∃ b, e.pp = some ⟨b, 0, none⟩ ∧ w.heap[b]? = some (.cells #[.string e.prev] 55 (0, 0)))

/-- How memory stands of a record. -/
structure Rc (B r sp : Nat) (id st : ByteArray) (evs : List Ev) (dl : Int) (fl : Value) (w : World) : Prop where
  lo : B ≤ r
  hB : B ≤ w.heap.size
  record : ∃ v, w.heap[r]? = some (.cells (recCells sp v dl fl) 95 (0, 0)) ∧ w.ownsRow B 107 7 v evs.length (cellsOf evs)
  sub : w.heap[sp]? = some (.cells (subCells id st) 62 (0, 0))
  each : ∀ e ∈ evs, w.heap[e.sb]? = some (.cells (subCells id e.st) 62 (0, 0)) ∧ PrevOk w e

def Fresh (evs : List Ev) (sp : Nat) : Prop := ∀ e ∈ evs, e.sb ≠ sp
/-- Blocks of other types than a record's or an event row's are as they were. -/
def Keeps (w w' : World) : Prop := ∀ (b : Nat) (c : Array Value) (t : TypeId) (fr : Nat × Nat), w.heap[b]? = some (Obj.cells c t fr) → t ≠ 95 → t ≠ 107 → w'.heap[b]? = some (Obj.cells c t fr)
theorem Keeps.trans {a b c : World} (h : Keeps a b) (h' : Keeps b c) : Keeps a c := fun x y z u hx h1 h2 => h' x y z u (h x y z u hx h1 h2) h1 h2
theorem PrevOk.keeps {w w' : World} {e : Ev} (h : PrevOk w e) (hk : Keeps w w') : PrevOk w' e := by
  rcases h with h | ⟨a, b, c, d⟩
  · exact .inl h
  · exact .inr ⟨a, b, c, hk _ _ _ _ d (by decide) (by decide)⟩

theorem Rc.same {B r sp : Nat} {id st : ByteArray} {evs : List Ev} {dl : Int} {fl : Value} {w W : World} (h : Rc B r sp id st evs dl fl w) (hs : w.heap.size ≤ W.heap.size) (hk : ∀ b, b < w.heap.size → W.heap[b]? = w.heap[b]?) : Rc B r sp id st evs dl fl W := by
  have lt : ∀ b x, w.heap[b]? = some x → W.heap[b]? = some x := fun b x hx => (hk b (Array.getElem?_eq_some_iff.1 hx).1).trans hx
  obtain ⟨v, hv, ho⟩ := h.record
  refine ⟨h.lo, Nat.le_trans h.hB hs, ⟨v, lt _ _ hv, ho.1, ?_⟩, lt _ _ h.sub, fun e he => ⟨lt _ _ (h.each e he).1, ?_⟩⟩
  · rcases ho.2 with x | ⟨g, cap, cur, a, b, c, d⟩
    · exact .inl x
    · exact .inr ⟨g, cap, cur, a, b, lt _ _ c, d⟩
  · rcases (h.each e he).2 with x | ⟨a, b, c, d⟩
    · exact .inl x
    · exact .inr ⟨a, b, c, lt _ _ d⟩

theorem size62' : ∃ j, Try.prog.info? 62 = some j ∧ j.size ≠ 0 := by
  obtain ⟨j, h, e⟩ := Option.map_eq_some_iff.1 info62
  exact ⟨j, h, by simpa using e⟩

/-- The last event's pointer lies in memory. -/
theorem last_cell {B r sp : Nat} {id st : ByteArray} {evs : List Ev} {e : Ev} {dl : Int} {fl : Value} {w : World} (h : Rc B r sp id st (evs ++ [e]) dl fl w) :
    ∃ g cap, w.heap[r]? = some (.cells (recCells sp (.slice (some ⟨g, 0, none⟩) (evs.length + 1) cap) dl fl) 95 (0, 0)) ∧ w.cell? ⟨g, evs.length * 7 + 6, none⟩ = some (.pointer (some ⟨e.sb, 0, none⟩)) := by
  obtain ⟨v, hv, ho⟩ := h.record
  simp at ho
  obtain ⟨g, cap, rfl⟩ := own_some ho
  refine ⟨g, cap, hv, ?_⟩
  rw [ho.cellAt _ (by omega), cellsOf_append, List.getElem?_append_right (by rw [cellsOf_length]; omega), cellsOf_length, cellsOf_one]
  have : evs.length * 7 + 6 - evs.length * 7 = 6 := by omega
  rw [this]; rfl

theorem shared_fresh {B r sp : Nat} {id st : ByteArray} {evs : List Ev} {dl : Int} {fl : Value} {w : World} (h : Rc B r sp id st evs dl fl w) (hf : Fresh evs sp) (hn : evs.length ≤ 900000) :
    Calls Try.prog 39 #[.pointer (some ⟨r, 0, none⟩)] w fun e w' => e = .returned (.bool false) ∧ ∃ d, w' = w.drewN d := by
  rcases List.eq_nil_or_concat evs with rfl | ⟨es, e, rfl⟩
  · obtain ⟨v, hv, ho⟩ := h.record
    rcases ho.2 with ⟨rfl, _⟩ | ⟨g, cap, cur, rfl, _⟩
    · exact shared_none r sp none 0 dl fl w hv
    · exact shared_none r sp _ cap dl fl w hv
  · rw [List.concat_eq_append] at h hf hn
    obtain ⟨g, cap, hv, hc⟩ := last_cell h
    obtain ⟨j, hj, hs⟩ := size62'
    refine shared_any r sp e.sb g es.length cap false dl fl w (by simp at hn; omega) hv hc fun d => ?_
    refine run_eql_ptr_other (w.drewN d) Try.underlying90 hj hs ?_ (h.each e (by simp)).1 h.sub
    intro x
    simp at x
    exact hf e (by simp) x

theorem shared_last {B r : Nat} {id st : ByteArray} {evs : List Ev} {e : Ev} {dl : Int} {fl : Value} {w : World} (h : Rc B r e.sb id st (evs ++ [e]) dl fl w) (hn : evs.length ≤ 900000) :
    Calls Try.prog 39 #[.pointer (some ⟨r, 0, none⟩)] w fun x w' => x = .returned (.bool true) ∧ ∃ d, w' = w.drewN d := by
  obtain ⟨g, cap, hv, hc⟩ := last_cell h
  obtain ⟨j, hj, hs⟩ := size62'
  exact shared_any r e.sb e.sb g evs.length cap true dl fl w (by omega) hv hc fun d => run_eql_ptr_same (w.drewN d) _ Try.underlying90 hj
end Go.Proofs.Qxb6003734a
