import Derived.Test.Qxb6003733aEvC
import Derived.WalkSmall
namespace Go.Proofs.Qxb6003733a
open Go.RowKit Go.Lib

theorem zzAppendID_any (v : Value) (n : Nat) (xs : List Value) (s : ByteArray) (q : Int) (w : World) (hs : s.size ≤ maxLen) (hn : n + s.size ≤ 4000000) (hfirst : First v n xs w) :
    Calls Try.prog 11 #[v, .string s, .int .i64 q] w fun e w' => ∃ v', e = .returned v' ∧ w'.ownsRow w.heap.size 5 1 v' (n + 4 + (trimS s).size + 16) (xs ++ bv (idB (trimS s) q)) ∧ Below w.heap.size w w' := by
  go_enter Try.func11, Try.ntmps11
  go_wp2_with (go_at_call 19; refine (appendID_any _ n xs _ _ _ hs hn hfirst).mono ?_; rintro e w' ⟨v', rfl, ho, hb⟩)
  go_ret
  exact ⟨v', rfl, ho, hb⟩

/-- What is owned is read. -/
theorem reads_own {w : World} {B : Nat} {v : Value} {n : Nat} {l : List UInt8} (h : w.ownsRow B 5 1 v n (bv l)) (hl : l.length ≠ 0) : ∃ g cap, v = .slice (some ⟨g, 0, none⟩) l.length cap ∧ B ≤ g ∧ g < w.heap.size ∧ Reads w (some ⟨g, 0, none⟩) l := by
  have hn : l.length = n := by have := h.1; rw [bv_length] at this; omega
  rcases h.2 with ⟨rfl, h0⟩ | ⟨g, cap, cur, rfl, hb, hg, _⟩
  · omega
  · refine ⟨g, cap, by rw [hn], hb, (Array.getElem?_eq_some_iff.1 hg).1, .inr ⟨g, 0, rfl, fun j hj => ?_⟩⟩
    have := h.cellAt j (by omega)
    rw [Nat.zero_add, this]
    simp [bv, hj]

theorem reads_below {w w' : World} {g o : Nat} {l : List UInt8} {B : Nat} (h : Reads w (some ⟨g, o, none⟩) l) (hb : Below B w w') (hg : g < B) : Reads w' (some ⟨g, o, none⟩) l := by
  rcases h with h | ⟨g1, o1, e, hc⟩
  · exact .inl h
  · simp at e; obtain ⟨rfl, rfl⟩ := e
    exact .inr ⟨_, _, rfl, fun j hj => (hb.cell (p := ⟨g, o + j, none⟩) hg).trans (hc j hj)⟩

set_option maxHeartbeats 400000 in
theorem sizes_ev (a c : ByteArray) (s t : Int) (w : World) (ha : a.size ≤ maxLen) (hc : c.size ≤ maxLen) :
    Calls Try.prog 15 #[.string a, .int .i64 s, .string c, .int .i64 t] w fun e w' => e = .returned (.bool (decide (a.size + c.size ≤ 1048576))) ∧ w' = w := by
  unfold maxLen at ha hc
  go_enter Try.func15, Try.ntmps15
  go_wp2
  all_goals
    go_ret
    refine ⟨ret_bool ?_, rfl⟩
    simp
    omega

/-- The plain law: two ids are one just where the trimmed ids and the numbers are. -/
theorem id_yes {t t' : ByteArray} {q q' : Int} (h : (t.toList == t'.toList) = true) (hq : (q == q') = true) : (idB t q == idB t' q') = true := by
  have e : t.toList = t'.toList := by simpa using h
  have eq : q = q' := by simpa using hq
  rw [ByteArray.toList_eq, ByteArray.toList_eq] at e
  simp [idB, e, eq]
theorem id_no {t t' : ByteArray} {q q' : Int} (h : (t.toList == t'.toList) = false) : (idB t q == idB t' q') = false := by
  rw [beq_eq_false_iff_ne] at *
  intro e; apply h
  rw [ByteArray.toList_eq, ByteArray.toList_eq]; exact (idB_inj e).1
theorem id_no' {t t' : ByteArray} {q q' : Int} (h : (q == q') = false) (h1 : -9223372036854775808 ≤ q) (h2 : q ≤ 9223372036854775807) (h3 : -9223372036854775808 ≤ q') (h4 : q' ≤ 9223372036854775807) : (idB t q == idB t' q') = false := by
  rw [beq_eq_false_iff_ne] at *
  intro e; exact h (uq_inj (hexL_inj (idB_inj e).2) h1 h2 h3 h4)

set_option maxHeartbeats 1000000 in
theorem ev_walk_small (a c : ByteArray) (s t : Int) (w : World) (ha : a.size ≤ maxLen) (hc : c.size ≤ maxLen) (hsz : a.size + c.size ≤ 1048576)
    (h : (((trimS a).toList == (trimS c).toList) = true ∧ (s == t) = true ∧ (idB (trimS a) s == idB (trimS c) t) = true) ∨ (((trimS a).toList == (trimS c).toList) = true ∧ (s == t) = false ∧ (idB (trimS a) s == idB (trimS c) t) = false) ∨ (((trimS a).toList == (trimS c).toList) = false ∧ True ∧ (idB (trimS a) s == idB (trimS c) t) = false)) :
    Calls Try.prog 5 #[.string a, .int .i64 s, .string c, .int .i64 t] w fun e w' => e = .returned (.bool true) ∧ Below w.heap.size w w' := by
  have hd : decide (a.size + c.size ≤ 1048576) = true := by simpa using hsz
  have ta := trimS_size a
  have tc := trimS_size c
  rcases h with ⟨e1, e2, e3⟩ | ⟨e1, e2, e3⟩ | ⟨e1, e2, e3⟩
  all_goals
    go_enter Try.func5, Try.ntmps5
    go_wp2_with (first | (go_at_call 15; refine (sizes_ev _ _ _ _ _ ha hc).mono ?_; rintro e w' ⟨rfl, rfl⟩))
    refine (zzAppendID_any _ 0 [] _ _ _ ha (by omega) (first_nil _)).mono ?_
    rintro e w1 ⟨v1, rfl, ho1, hb1⟩
    obtain ⟨g1, cap1, rfl, hg1, hl1, hr1⟩ := reads_own (by simpa using ho1) (by rw [idB_length]; omega)
    go_wp2_with fail
    refine (zzAppendID_any _ 0 [] _ _ _ hc (by omega) (first_nil _)).mono ?_
    rintro e w2 ⟨v2, rfl, ho2, hb2⟩
    obtain ⟨g2, cap2, rfl, hg2, hl2, hr2⟩ := reads_own (by simpa using ho2) (by rw [idB_length]; omega)
    have hr1' := reads_below hr1 hb2 hl1
    go_wp2_with fail
    refine (sameBytes_any _ _ _ _ _ _ _ (by rw [idB_length]; omega) (by rw [idB_length]; omega) hr1' hr2).mono ?_
    rintro e w3 ⟨rfl, d, rfl⟩
    go_wp2_with fail
    refine (zzTrimSub_any _ _ ha).mono ?_
    rintro e w3 ⟨rfl, rfl⟩
    go_wp2_with fail
    refine (zzTrimSub_any _ _ hc).mono ?_
    rintro e w3 ⟨rfl, rfl⟩
    go_wp2
    go_ret
    exact ⟨rfl, below_drewN (hb1.trans (hb2.mono hb1.size)) _⟩

theorem ev_walk (a c : ByteArray) (s t : Int) (w : World) (ha : a.size ≤ maxLen) (hc : c.size ≤ maxLen) (hs1 : -9223372036854775808 ≤ s) (hs2 : s ≤ 9223372036854775807) (ht1 : -9223372036854775808 ≤ t) (ht2 : t ≤ 9223372036854775807) :
    Calls Try.prog 5 #[.string a, .int .i64 s, .string c, .int .i64 t] w fun e w' => e = .returned (.bool true) ∧ Below w.heap.size w w' := by
  by_cases hsz : a.size + c.size ≤ 1048576
  · refine ev_walk_small a c s t w ha hc hsz ?_
    cases h1 : (trimS a).toList == (trimS c).toList
    · exact .inr (.inr ⟨rfl, trivial, id_no h1⟩)
    · cases h2 : s == t
      · exact .inr (.inl ⟨rfl, rfl, id_no' h2 hs1 hs2 ht1 ht2⟩)
      · exact .inl ⟨rfl, rfl, id_yes h1 h2⟩
  · have hd : decide (a.size + c.size ≤ 1048576) = false := by simpa using hsz
    clear hsz
    go_enter Try.func5, Try.ntmps5
    go_wp2_with (first | (go_at_call 15; refine (sizes_ev _ _ _ _ _ ha hc).mono ?_; rintro e w' ⟨rfl, rfl⟩))
    go_ret
    exact ⟨rfl, Below.refl _ _⟩
end Go.Proofs.Qxb6003733a
