import Derived.Test.Qxb6003772aDcD
namespace Go.Proofs.Qxb6003772a
open Go.RowKit Go.Lib

/-- A line body: it ends in no newline and no carriage return. -/
def Body (l : List UInt8) : Prop := 0 < l.length → l.getD (l.length - 1) 0 ≠ 10 ∧ l.getD (l.length - 1) 0 ≠ 13

theorem trim_body {l : List UInt8} (h : Body l) : trimLen l = l.length := by
  unfold trimLen
  rw [if_neg]
  rintro ⟨a, b⟩
  exact (h a).1 b
theorem getD_last (l : List UInt8) (x : UInt8) : (l ++ [x]).getD ((l ++ [x]).length - 1) 0 = x := by
  simp
theorem getD_before (l : List UInt8) (x : UInt8) (h : 0 < l.length) : (l ++ [x]).getD ((l ++ [x]).length - 1 - 1) 0 = l.getD (l.length - 1) 0 := by
  simp only [List.getD_eq_getElem?_getD, List.length_append, List.length_cons, List.length_nil]
  rw [List.getElem?_append_left (by omega)]
  congr 2
theorem trim_lf {l : List UInt8} (h : Body l) : trimLen (l ++ [10]) = l.length := by
  unfold trimLen
  rw [if_pos ⟨by simp, getD_last l 10⟩]
  by_cases h0 : 0 < l.length
  · rw [if_neg]
    · simp
    · rintro ⟨_, b⟩
      rw [getD_before l 10 h0] at b
      exact (h h0).2 b
  · rw [if_neg]
    · simp
    · rintro ⟨a, _⟩
      simp at a
      exact h0 a
theorem trim_crlf (l : List UInt8) : trimLen (l ++ [13, 10]) = l.length := by
  have e : l ++ [13, 10] = (l ++ [13]) ++ [10] := by simp
  rw [e]
  unfold trimLen
  rw [if_pos ⟨by simp, getD_last _ 10⟩, if_pos ⟨by simp, by rw [getD_before (l ++ [13]) 10 (by simp)]; exact getD_last l 13⟩]
  simp

theorem doc_body {l : List UInt8} (h : Body l) : doc l = docBody l := by
  unfold doc; rw [trim_body h, List.take_length]
theorem doc_lf {l : List UInt8} (h : Body l) : doc (l ++ [10]) = docBody l := by
  unfold doc; rw [trim_lf h, List.take_left]
theorem doc_crlf (l : List UInt8) : doc (l ++ [13, 10]) = docBody l := by
  unfold doc; rw [trim_crlf l, List.take_left]

theorem body_pre {l : List UInt8} (h : Body l) (x : UInt8) (h1 : x ≠ 10) (h2 : x ≠ 13) : Body ([64, x] ++ l) := by
  intro _
  by_cases h0 : 0 < l.length
  · have e : ([64, x] ++ l).getD (([64, x] ++ l).length - 1) 0 = l.getD (l.length - 1) 0 := by
      simp only [List.getD_eq_getElem?_getD, List.length_append, List.length_cons, List.length_nil]
      rw [List.getElem?_append_right (by simp; omega)]
      congr 2
      simp; omega
    rw [e]; exact h h0
  · have : l = [] := List.eq_nil_of_length_eq_zero (by omega)
    subst this
    exact ⟨h1, h2⟩
theorem docBody_pre (l : List UInt8) (x : UInt8) : docBody ([64, x] ++ l) = (decide (x = 32) || decide (x = 9)) := by
  unfold docBody
  simp
theorem docBody_at {l : List UInt8} (h : docBody l = true) : 0 < l.length ∧ l.getD 0 0 = 64 := by
  unfold docBody at h
  simp only [Bool.and_eq_true, decide_eq_true_eq] at h
  exact h.1

theorem doc_one : doc [64] = true := by decide
theorem doc_crlf1 : doc [64, 13, 10] = true := by decide
theorem doc_cr : doc [64, 13] = false := by decide

/-- ZZIsDocumentation, its answer named. -/
theorem zzDoc_val (ao : Option Addr) (cap : Nat) (l : List UInt8) (v : Bool) (hv : doc l = v) (w : World) (hr : Reads w ao l) (hnc : l.length ≤ cap) (hcap : l.length ≤ 4000000) :
    Calls Try.prog 13 #[.slice ao l.length cap] w fun e w' => e = .returned (.bool v) ∧ w = w' := by
  subst hv
  refine (zzDoc_any ao cap l w hr hnc hcap).mono ?_
  rintro e w' ⟨rfl, rfl⟩
  exact ⟨rfl, rfl⟩

/-- The same, the world behind it a new name. -/
theorem zzDoc_new (ao : Option Addr) (cap : Nat) (l : List UInt8) (v : Bool) (hv : doc l = v) (w : World) (hr : Reads w ao l) (hnc : l.length ≤ cap) (hcap : l.length ≤ 4000000) :
    Calls Try.prog 13 #[.slice ao l.length cap] w fun e w' => e = .returned (.bool v) ∧ Below w.heap.size w w' := by
  refine (zzDoc_val ao cap l v hv w hr hnc hcap).mono ?_
  rintro e w' ⟨rfl, rfl⟩
  exact ⟨rfl, Below.refl _ _⟩

/-- zzJoin, its answer's bytes named. -/
theorem join_val (ao bo : Option Addr) (ca cb : Nat) (l l' L : List UInt8) (hL : Hid (L = l ++ l')) (w : World) (hl : l.length ≤ 2000000) (hl' : l'.length ≤ 2000000) (h : Reads w ao l) (h' : Reads w bo l') :
    Calls Try.prog 14 #[.slice ao l.length ca, .slice bo l'.length cb] w fun e w' => ∃ g, e = .returned (.slice (some ⟨g, 0, none⟩) L.length L.length) ∧ Reads w' (some ⟨g, 0, none⟩) L ∧ Below w.heap.size w w' := by
  have e := hL.out
  subst e
  refine (join_any ao bo ca cb l l' w hl hl' h h').mono ?_
  rintro e w' ⟨rfl, a, b⟩
  rw [List.length_append]
  exact ⟨_, rfl, a, b⟩

theorem reads_const (W : World) (l : List UInt8) (fr : Nat × Nat) : Reads (W.alloc (.cells (bv l).toArray 5 fr)) (some ⟨W.heap.size, 0, none⟩) l := by
  refine .inr ⟨_, 0, rfl, fun j hj => ?_⟩
  rw [Nat.zero_add, World.cell?_alloc_mark]
  simp [bv, hj]
theorem below_alloc (W : World) (o : Obj) : Below W.heap.size W (W.alloc o) := (Below.refl _ _).alloc (Nat.le_refl _) _
end Go.Proofs.Qxb6003772a
