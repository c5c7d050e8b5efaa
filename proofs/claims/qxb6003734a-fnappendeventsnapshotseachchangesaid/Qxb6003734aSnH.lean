import Derived.Test.Qxb6003734aSnD
namespace Go.Proofs.Qxb6003734a
open Go.RowKit Go.Lib

/-- What ZZEvent hands back of event number k + 1. -/
def ZEvent : Prop := ∀ (B r sp : Nat) (id st : ByteArray) (evs : List Ev) (dl : Int) (fl : Value) (w : World) (k : Nat) (e : Ev), Rc B r sp id st evs dl fl w → evs[k]? = some e → id.size ≤ 1048576 → evs.length ≤ 800000 →
  Calls Try.prog 25 #[.pointer (some ⟨r, 0, none⟩), .int .i64 ((k : Int) + 1)] w fun x w' => x = .returned (.agg (evRow id ((k : Int) + 1) e.typ e.pp e.st)) ∧ Below w.heap.size w w'

theorem cellsOf_at : ∀ (evs : List Ev) (k : Nat) (e : Ev) (j : Nat), evs[k]? = some e → j < 7 → (cellsOf evs)[k * 7 + j]? = (evCells e.typ (.pointer e.pp) e.sb)[j]?
  | [], k, e, j, h, _ => by simp at h
  | x :: xs, 0, e, j, h, hj => by
    have : x = e := by simpa using h
    subst this
    rw [cellsOf, Nat.zero_mul, Nat.zero_add, List.getElem?_append_left (by simpa [evCells] using hj)]
  | x :: xs, k + 1, e, j, h, hj => by
    have h' : xs[k]? = some e := by simpa using h
    rw [cellsOf, List.getElem?_append_right (by simp [evCells]; omega)]
    have : (k + 1) * 7 + j - (evCells x.typ (.pointer x.pp) x.sb).length = k * 7 + j := by simp [evCells]; omega
    rw [this]
    exact cellsOf_at xs k e j h' hj

theorem event_rc {B r sp : Nat} {id st : ByteArray} {evs : List Ev} {dl : Int} {fl : Value} {w : World} {k : Nat} {e : Ev} (h : Rc B r sp id st evs dl fl w) (he : evs[k]? = some e) (hid : id.size ≤ 1048576) (hn : evs.length ≤ 800000) :
    Calls Try.prog 40 #[.pointer (some ⟨r, 0, none⟩), .int .i64 ((k : Int) + 1)] w fun x w' => x = .returned (.agg (evRow id ((k : Int) + 1) e.typ e.pp e.st)) ∧ Below w.heap.size w w' := by
  obtain ⟨v, hv, ho⟩ := h.record
  have hk : k < evs.length := (List.getElem?_eq_some_iff.1 he).1
  have hm : e ∈ evs := List.mem_of_getElem? he
  obtain ⟨g, cap, rfl⟩ : ∃ g cap, v = .slice (some ⟨g, 0, none⟩) evs.length cap := by
    rcases ho.2 with ⟨_, e0⟩ | ⟨g, cap, cur, rfl, _⟩
    · omega
    · exact ⟨g, cap, rfl⟩
  refine event_core r sp g evs.length cap k e.sb e.pp e.typ id st e.st dl fl w hid hk (by omega) hv h.sub (h.each e hm).1 (fun j u hu => ?_)
  have hj : j < 7 := by have := (List.getElem?_eq_some_iff.1 hu).1; simpa [evCells] using this
  rw [ho.cellAt _ (by omega), cellsOf_at evs k e j he hj, hu]

theorem zevent_all : ZEvent := fun _ r _ id _ _ _ _ w _ e h he hid hn =>
  zzevent_core r _ _ id e.typ e.st e.pp w fun _ hb => event_rc (h.same hb.size hb.block) he hid hn
end Go.Proofs.Qxb6003734a
