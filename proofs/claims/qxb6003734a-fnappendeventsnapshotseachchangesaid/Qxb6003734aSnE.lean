import Derived.Test.Qxb6003734aRcF
import Derived.WalkSmall
namespace Go.Proofs.Qxb6003734a
open Go.RowKit

theorem ret_bool {a b : Bool} (h : a = b) : Ending.returned (.bool a) = .returned (.bool b) := by rw [h]

set_option maxHeartbeats 1000000 in
theorem sizes_sn (a b c d e f : ByteArray) (q : Int) (w : World) (ha : a.size ≤ maxLen) (hb : b.size ≤ maxLen) (hc : c.size ≤ maxLen) (hd : d.size ≤ maxLen) (he : e.size ≤ maxLen) (hf : f.size ≤ maxLen) :
    Calls Try.prog 18 #[.string a, .int .i64 q, .string b, .string c, .string d, .string e, .string f] w fun x w' => x = .returned (.bool (decide (a.size + b.size + c.size + d.size + e.size + f.size ≤ 1048576))) ∧ w' = w := by
  unfold maxLen at ha hb hc hd he hf
  go_enter Try.func18, Try.ntmps18
  go_wp2
  all_goals
    go_ret
    refine ⟨ret_bool ?_, rfl⟩
    simp
    omega

theorem Rc.drewN {B r sp : Nat} {id st : ByteArray} {evs : List Ev} {dl : Int} {fl : Value} {w : World} (h : Rc B r sp id st evs dl fl w) (d : Nat) : Rc B r sp id st evs dl fl (w.drewN d) :=
  h.same (Nat.le_refl _) (fun _ _ => rfl)

theorem unshare_rc2 {B r : Nat} {id st : ByteArray} {evs : List Ev} {e : Ev} {dl : Int} {fl : Value} {w : World} (h : Rc B r e.sb id st (evs ++ [e]) dl fl w) (hn : evs.length ≤ 800000) :
    Calls Try.prog 38 #[.pointer (some ⟨r, 0, none⟩)] w fun x w' => x = .returned (.tuple #[]) ∧
      ∃ sp, B ≤ sp ∧ Rc B r sp id st (evs ++ [e]) dl fl w' ∧ Fresh (evs ++ [e]) sp ∧ Keeps w w' ∧ Below B w w' := by
  obtain ⟨v, hv, ho⟩ := h.record
  refine (unshare_core r e.sb v dl fl id st w hv h.sub (shared_last h (by omega))).mono ?_
  rintro x w' ⟨rfl, d, rfl⟩
  have hrl : r < w.heap.size := (Array.getElem?_eq_some_iff.1 hv).1
  have hr1 : ((w.drewN d).alloc (.cells (subCells id st) 62)).heap[r]? = some (.cells (recCells e.sb v dl fl) 95 (0, 0)) := (heap_alloc_old (w.drewN d) _ hrl).trans hv
  have hr2 := heap_setCell_same _ r 0 _ 95 (.pointer (some ⟨w.heap.size, 0, none⟩)) hr1
  have old : ∀ b, b < w.heap.size → b ≠ r → (((w.drewN d).alloc (.cells (subCells id st) 62)).setCell ⟨r, 0, none⟩ (.pointer (some ⟨w.heap.size, 0, none⟩))).heap[b]? = w.heap[b]? := by
    intro b hb hne
    rw [heap_setCell_other _ ⟨r, 0, none⟩ b _ (by simpa using hne)]
    exact heap_alloc_old (w.drewN d) _ hb
  have hk : Keeps w (((w.drewN d).alloc (.cells (subCells id st) 62)).setCell ⟨r, 0, none⟩ (.pointer (some ⟨w.heap.size, 0, none⟩))) := by
    intro b c t fr hb h1 h2
    refine (old b (Array.getElem?_eq_some_iff.1 hb).1 ?_).trans hb
    rintro rfl
    rw [hv] at hb
    simp at hb
    exact h1 hb.2.1.symm
  refine ⟨rfl, w.heap.size, h.hB, ⟨h.lo, ?_, ⟨v, hr2, ho.1, ?_⟩, ?_, fun y hy => ⟨hk _ _ _ _ (h.each y hy).1 (by decide) (by decide), (h.each y hy).2.keeps hk⟩⟩, fun y hy => ?_, hk, ⟨rfl, rfl, rfl, ?_, fun b hb => ?_⟩⟩
  · have := h.hB; simp; omega
  · rcases ho.2 with x | ⟨g, cap, cur, a, b, c, f⟩
    · exact .inl x
    · refine .inr ⟨g, cap, cur, a, b, (old g (Array.getElem?_eq_some_iff.1 c).1 ?_).trans c, f⟩
      rintro rfl
      rw [hv] at c
      simp at c
  · rw [heap_setCell_other _ ⟨r, 0, none⟩ _ _ (by show w.heap.size ≠ r; omega)]
    exact heap_alloc_new (w.drewN d) _
  · have := (Array.getElem?_eq_some_iff.1 (h.each y hy).1).1
    omega
  · simp
  · have := h.lo
    have := h.hB
    exact old b (by omega) (by omega)

theorem zzunshare_rc2 {B r sp : Nat} {id st : ByteArray} {evs : List Ev} {e : Ev} {dl : Int} {fl : Value} {w : World} (h : Rc B r sp id st (evs ++ [e]) dl fl w) (he : e.sb = sp) (hn : evs.length ≤ 800000) :
    Calls Try.prog 21 #[.pointer (some ⟨r, 0, none⟩)] w fun x w' => x = .returned (.tuple #[]) ∧
      ∃ sp, B ≤ sp ∧ Rc B r sp id st (evs ++ [e]) dl fl w' ∧ Fresh (evs ++ [e]) sp ∧ Keeps w w' ∧ Below B w w' := by
  subst he
  go_enter Try.func21, Try.ntmps21
  go_wp2_with (go_at_call 38; refine (unshare_rc2 h hn).mono ?_; rintro e w' ⟨rfl, hx⟩)
  go_end0
  exact ⟨rfl, hx⟩

/-- ZZShared of a record whose subscription no event holds. -/
theorem zzshared_fresh {B r sp : Nat} {id st : ByteArray} {evs : List Ev} {dl : Int} {fl : Value} {w : World} (h : Rc B r sp id st evs dl fl w) (hf : Fresh evs sp) (hn : evs.length ≤ 900000) :
    Calls Try.prog 22 #[.pointer (some ⟨r, 0, none⟩)] w fun e w' => e = .returned (.bool false) ∧ ∃ d, w' = w.drewN d := by
  go_enter Try.func22, Try.ntmps22
  go_wp2_with (go_at_call 39; refine (shared_fresh h hf hn).mono ?_; rintro e w' ⟨rfl, d, rfl⟩)
  go_ret
  exact ⟨rfl, d, rfl⟩

/-- ZZShared behind an append. -/
theorem zzshared_last {B r sp : Nat} {id st : ByteArray} {evs : List Ev} {e : Ev} {dl : Int} {fl : Value} {w : World} (h : Rc B r sp id st (evs ++ [e]) dl fl w) (he : e.sb = sp) (hn : evs.length ≤ 900000) :
    Calls Try.prog 22 #[.pointer (some ⟨r, 0, none⟩)] w fun x w' => x = .returned (.bool true) ∧ ∃ d, w' = w.drewN d := by
  subst he
  go_enter Try.func22, Try.ntmps22
  go_wp2_with (go_at_call 39; refine (shared_last h hn).mono ?_; rintro e w' ⟨rfl, d, rfl⟩)
  go_ret
  exact ⟨rfl, d, rfl⟩

theorem setstatus_core (r sp : Nat) (v : Value) (dl : Int) (fl : Value) (id st s2 : ByteArray) (w : World)
    (hr : w.heap[r]? = some (.cells (recCells sp v dl fl) 95 (0, 0))) (hs : w.heap[sp]? = some (.cells (subCells id st) 62 (0, 0))) :
    Calls Try.prog 23 #[.pointer (some ⟨r, 0, none⟩), .string s2] w fun e w' => e = .returned (.tuple #[]) ∧ ∃ d, w' = (w.drewN d).setCell ⟨sp, 2, none⟩ (.string s2) := by
  have c0 : w.cell? ⟨r, 0, none⟩ = some (.pointer (some ⟨sp, 0, none⟩)) := by rw [cell_of_row w r 0 _ 95 (0, 0) hr]; rfl
  have c2 : w.cell? ⟨sp, 2, none⟩ = some (.string st) := by rw [cell_of_row w sp 2 _ 62 (0, 0) hs]; rfl
  have f2 : w.frozen? ⟨sp, 2, none⟩ = false := frozen_of_row w sp 2 _ 62 hs
  clear hr hs
  go_enter Try.func23, Try.ntmps23
  go_wp2
  go_end0
  exact ⟨rfl, 0, rfl⟩

/-- ZZSetStatus, where no event holds the record's subscription. -/
theorem setstatus_rc {B r sp : Nat} {id st : ByteArray} {evs : List Ev} {dl : Int} {fl : Value} {w : World} (h : Rc B r sp id st evs dl fl w) (hf : Fresh evs sp) (hsp : B ≤ sp) (s2 : ByteArray) :
    Calls Try.prog 23 #[.pointer (some ⟨r, 0, none⟩), .string s2] w fun e w' => e = .returned (.tuple #[]) ∧ Rc B r sp id s2 evs dl fl w' ∧ Below B w w' := by
  obtain ⟨v, hv, ho⟩ := h.record
  refine (setstatus_core r sp v dl fl id st s2 w hv h.sub).mono ?_
  rintro e w' ⟨rfl, d, rfl⟩
  have hs1 := heap_setCell_same (w.drewN d) sp 2 _ 62 (.string s2) h.sub
  have old : ∀ b, b ≠ sp → ((w.drewN d).setCell ⟨sp, 2, none⟩ (.string s2)).heap[b]? = w.heap[b]? := fun b hb => heap_setCell_other (w.drewN d) ⟨sp, 2, none⟩ b _ (by simpa using hb)
  have ne : ∀ b c t, w.heap[b]? = some (.cells c t (0, 0)) → t ≠ 62 → b ≠ sp := by
    intro b c t hb ht e
    subst e
    rw [h.sub] at hb
    simp at hb
    exact ht hb.2.symm
  refine ⟨rfl, ⟨h.lo, ?_, ⟨v, (old _ (ne _ _ _ hv (by decide))).trans hv, ho.1, ?_⟩, hs1, fun y hy => ⟨(old _ (hf y hy)).trans (h.each y hy).1, ?_⟩⟩, ⟨rfl, rfl, rfl, ?_, fun b hb => old b (by omega)⟩⟩
  · have := h.hB; simp; omega
  · rcases ho.2 with x | ⟨g, cap, cur, a, b, c, f⟩
    · exact .inl x
    · exact .inr ⟨g, cap, cur, a, b, (old g (ne _ _ _ c (by decide))).trans c, f⟩
  · rcases (h.each y hy).2 with x | ⟨a, b, c, f⟩
    · exact .inl x
    · exact .inr ⟨a, b, c, (old _ (ne _ _ _ f (by decide))).trans f⟩
  · simp

/-- zzPrevIs. -/
theorem prevIs_any {w : World} {typ : ByteArray} {pp : Option Addr} {sb : Nat} {st prev : ByteArray} (h : PrevOk w ⟨typ, pp, sb, st, prev⟩) : Calls Try.prog 26 #[.pointer pp, .string prev] w fun x w' => x = .returned (.bool true) ∧ w' = w := by
  rcases h with ⟨h1, h2⟩ | ⟨h1, b, h2, h3⟩
  · simp only at h1 h2 ⊢
    subst h2
    go_enter Try.func26, Try.ntmps26
    go_wp2
    go_ret
    exact ⟨rfl, rfl⟩
  · simp only at h1 h2 h3 ⊢
    subst h2
    have c0 : w.cell? ⟨b, 0, none⟩ = some (.string prev) := by rw [cell_of_row w b 0 _ 55 (0, 0) h3]; rfl
    have hq : (prev.toList == prev.toList) = true := by simp
    clear h3
    go_enter Try.func26, Try.ntmps26
    go_wp2
    go_ret
    exact ⟨rfl, rfl⟩
end Go.Proofs.Qxb6003734a
