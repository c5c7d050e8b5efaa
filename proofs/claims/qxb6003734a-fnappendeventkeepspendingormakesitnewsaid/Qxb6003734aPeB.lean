import Derived.Test.Qxb6003734aPeA
namespace Go.Proofs.Qxb6003734a
open Go.RowKit

/-- No failure is being sent again. -/
def Off (w : World) (fl : Option Addr) : Prop := (fl = none ∧ True) ∨ (∃ f, fl = some ⟨f, 0, none⟩ ∧ ∃ ag, w.heap[f]? = some (.cells (failCells ag false) 101 (0, 0)))

theorem Off.keeps {w w' : World} {fl : Option Addr} (h : Off w fl) (hk : Keeps w w') : Off w' fl := by
  rcases h with h | ⟨f, e, ag, hf⟩
  · exact .inl h
  · exact .inr ⟨f, e, ag, hk _ _ _ _ hf (by decide) (by decide)⟩

theorem Rc.slice {B r sp : Nat} {id st : ByteArray} {evs : List Ev} {dl : Int} {fl : Value} {w : World} (h : Rc B r sp id st evs dl fl w) : ∃ ao cap, w.heap[r]? = some (.cells (recCells sp (.slice ao evs.length cap) dl fl) 95 (0, 0)) := by
  obtain ⟨v, hv, ho⟩ := h.record
  rcases ho.2 with ⟨rfl, e⟩ | ⟨g, cap, cur, rfl, _⟩
  · exact ⟨none, 0, by rw [e]; exact hv⟩
  · exact ⟨_, cap, hv⟩

theorem zzpend_all {B r sp : Nat} {id st : ByteArray} {evs : List Ev} {dl : Int} {fl : Option Addr} {w : World} (h : Rc B r sp id st evs dl (.pointer fl) w) (ho : Off w fl) (hd0 : 0 ≤ dl) (hd : dl < evs.length) (hn : evs.length ≤ 900000) :
    Calls Try.prog 30 #[.pointer (some ⟨r, 0, none⟩)] w fun e w' => e = .returned (.tuple #[.int .i64 (dl + 1), .bool true]) ∧ ∃ d, w' = w.drewN d := by
  obtain ⟨ao, cap, hv⟩ := h.slice
  have hc := pending_core r sp evs.length cap ao dl fl w hd0 (by omega) hn hv ho
  rw [if_neg (by omega)] at hc
  go_enter Try.func30, Try.ntmps30
  go_wp2_with (go_at_call 41; refine hc.mono ?_; rintro e w' ⟨rfl, d, rfl⟩)
  go_ret2
  exact ⟨rfl, d, rfl⟩

theorem zzpend_none {B r sp : Nat} {id st : ByteArray} {evs : List Ev} {fl : Option Addr} {w : World} (h : Rc B r sp id st evs evs.length (.pointer fl) w) (ho : Off w fl) (hn : evs.length ≤ 900000) :
    Calls Try.prog 30 #[.pointer (some ⟨r, 0, none⟩)] w fun e w' => e = .returned (.tuple #[.int .i64 0, .bool false]) ∧ ∃ d, w' = w.drewN d := by
  obtain ⟨ao, cap, hv⟩ := h.slice
  have hc := pending_core r sp evs.length cap ao evs.length fl w (by omega) (by omega) hn hv ho
  rw [if_pos rfl] at hc
  go_enter Try.func30, Try.ntmps30
  go_wp2_with (go_at_call 41; refine hc.mono ?_; rintro e w' ⟨rfl, d, rfl⟩)
  go_ret2
  exact ⟨rfl, d, rfl⟩

/-- A failure is being sent again: its first number is a. -/
def On (w : World) (fl : Option Addr) (a : Int) : Prop := ∃ f g n cap c, fl = some ⟨f, 0, none⟩ ∧ 0 < n ∧ w.heap[f]? = some (.cells (failCells (.slice (some ⟨g, 0, none⟩) n cap) true) 101 (0, 0)) ∧ w.heap[g]? = some (.cells c 3 (0, 0)) ∧ c[0]? = some (.int .i64 a)

theorem On.keeps {w w' : World} {fl : Option Addr} {a : Int} (h : On w fl a) (hk : Keeps w w') : On w' fl a := by
  obtain ⟨f, g, n, cap, c, e, hn, hf, hg, hc⟩ := h
  exact ⟨f, g, n, cap, c, e, hn, hk _ _ _ _ hf (by decide) (by decide), hk _ _ _ _ hg (by decide) (by decide), hc⟩

theorem zzpend_on {B r sp : Nat} {id st : ByteArray} {evs : List Ev} {dl a : Int} {fl : Option Addr} {w : World} (h : Rc B r sp id st evs dl (.pointer fl) w) (ho : On w fl a) :
    Calls Try.prog 30 #[.pointer (some ⟨r, 0, none⟩)] w fun e w' => e = .returned (.tuple #[.int .i64 a, .bool true]) ∧ ∃ d, w' = w.drewN d := by
  obtain ⟨v, hv, _⟩ := h.record
  obtain ⟨f, g, n, cap, c, rfl, hn, hf, hg, hc⟩ := ho
  have hp := pending_on r sp f g 0 n cap v dl a w hn hv hf ((cell_of_row w g 0 c 3 (0, 0) hg).trans hc)
  go_enter Try.func30, Try.ntmps30
  go_wp2_with (go_at_call 41; refine hp.mono ?_; rintro e w' ⟨rfl, rfl⟩)
  go_ret2
  exact ⟨rfl, 0, rfl⟩

theorem info3 : (Try.prog.info? 3).map (fun i => (i.zero, i.size, i.bytes)) = some (some (.int .i64 0), 1, 8) := by kernel_rfl

/-- Numbers as cells. -/
def iv (l : List Int) : List Value := l.map (Value.int .i64)
def filledI (l : List Int) (k : Nat) : List Value := iv (l.take k) ++ List.replicate (l.length - k) (.int .i64 0)
theorem iv_append (a b : List Int) : iv (a ++ b) = iv a ++ iv b := by simp [iv]
theorem filledI_step {l : List Int} {k : Nat} (hk : k < l.length) : (filledI l k).set k (.int .i64 (l.getD k 0)) = filledI l (k + 1) := by
  unfold filledI
  have e1 : (iv (l.take k)).length = k := by simp [iv]; omega
  have e2 : l.length - k = (l.length - (k + 1)) + 1 := by omega
  rw [List.set_append_right _ _ (by omega), e1, Nat.sub_self, e2, List.replicate_succ, List.set_cons_zero, List.take_succ_eq_append_getElem hk, iv_append, List.append_assoc]
  simp only [iv, List.map_cons, List.map_nil, List.cons_append, List.nil_append]
  simp [hk]
theorem filledI_zero (l : List Int) : filledI l 0 = List.replicate l.length (.int .i64 0) := by simp [filledI, iv]
theorem filledI_all (l : List Int) : filledI l l.length = iv l := by simp [filledI]

/-- What came in: nil, or numbers in memory. -/
def InpI (w : World) (ao : Option Addr) (l : List Int) : Prop := (ao = none ∧ l = []) ∨ ∃ x, ao = some x ∧ (l = [] ∨ ∃ g o, x = ⟨g, o, none⟩ ∧ ∀ j, j < l.length → w.cell? ⟨g, o + j, none⟩ = some (.int .i64 (l.getD j 0)))

set_option maxHeartbeats 400000 in
theorem cloneI_some (x : Addr) (cap : Nat) (l : List Int) (w : World) (hl : l.length ≤ 1048576) (hx : l.length = 0 ∨ ∃ g o, x = ⟨g, o, none⟩ ∧ ∀ j, j < l.length → w.cell? ⟨g, o + j, none⟩ = some (.int .i64 (l.getD j 0))) :
    Calls Try.prog 28 #[.slice (some x) l.length cap] w fun e w' => e = .returned (.slice (some ⟨w.heap.size, 0, none⟩) l.length l.length) ∧ w'.ownsRow w.heap.size 3 1 (.slice (some ⟨w.heap.size, 0, none⟩) l.length l.length) l.length (iv l) ∧ Below w.heap.size w w' := by
  obtain ⟨i0, hi, hz0, hz1, hz2⟩ := info_parts info3
  have q69 : ∀ (w : World) (a : Option Addr) (n c n' c' : Nat), (binOp .eql 69 (.slice a n c) (.slice none n' c')).run Try.prog w = .ok (.bool a.isNone) w := fun w a n c n' c' => Lib.run_eql_slice_nil w _ _ a n c n' c' Try.underlying69
  have H0 := filledI_zero l
  have H1 := filledI_all l
  have HS := @filledI_step l
  generalize hn : l.length = n at *
  have F0 : Hid (filledI l 0 = List.replicate n (.int .i64 0)) := H0
  have F1 : Hid (filledI l n = iv l) := H1
  have FS : Hid (∀ {k : Nat}, k < n → (filledI l k).set k (.int .i64 (l.getD k 0)) = filledI l (k + 1)) := HS
  clear hn H0 H1 HS
  rcases hx with hx | ⟨g, o, rfl, hc⟩
  · subst hx
    go_enter Try.func28, Try.ntmps28
    go_wp2_with (at_make; refine wpList_make_full _ rfl _ _ 69 rfl w.heap.size 3 i0 (.int .i64 0) 1 Try.underlying69 hi hz0 hz1 _ _ _ _ 0 rfl rfl rfl rfl ?b2 ?b3 ?b4 ?_)
    case b2 => rw [hz2]; omega
    case b3 => unfold maxLen; omega
    case b4 => exact Nat.le_refl _
    intro w1 hown hg1
    go_wp2
    refine wp_loop_rounds 1 ?_; rw [rounds_succ]
    go_wp2
    go_ret
    refine ⟨rfl, ?_, (Below.refl _ _).grown hg1 (Nat.le_refl _) (by simp)⟩
    rw [← F1.out, F0.out]
    simpa [madeCells] using hown
  · go_enter Try.func28, Try.ntmps28
    go_wp2_with (at_make; refine wpList_make_full _ rfl _ _ 69 rfl w.heap.size 3 i0 (.int .i64 0) 1 Try.underlying69 hi hz0 hz1 _ _ _ _ n rfl rfl rfl rfl ?b2 ?b3 ?b4 ?_)
    case b2 => rw [hz2]; omega
    case b3 => unfold maxLen; omega
    case b4 => exact Nat.le_refl _
    intro w1 hown hg1
    have hb1 : Below w.heap.size w w1 := (Below.refl _ _).grown hg1 (Nat.le_refl _) (by simp)
    rw [toList_madeCells_one, ← F0.out] at hown
    clear hg1
    go_wp2
    go_loopw [4] (fun i wr => ∃ k : Nat, k ≤ n ∧ i = .int .i64 k ∧ wr.ownsRow w.heap.size 3 1 (.slice (some ⟨w.heap.size, 0, none⟩) n n) n (filledI l k) ∧ Below w.heap.size w wr) (fun i _ => n - (intOf i).toNat)
    case atStart => exact ⟨0, by omega, rfl, hown, hb1⟩
    case round =>
      obtain ⟨k, hk, rfl, hown2, hb2⟩ := hrel
      clear hown hb1
      by_cases hlt : k < n
      · have hlt' : (k : Int) < (n : Int) := by omega
        have c1 : wr.cell? ⟨g, o + k, none⟩ = some (.int .i64 (l.getD k 0)) := cell_later hb2 (hc k hlt)
        obtain ⟨v0, hv0⟩ : ∃ v0, wr.cell? ⟨w.heap.size, k, none⟩ = some v0 := by
          rw [hown2.cellAt k (by omega)]
          have : k < (filledI l k).length := by rw [hown2.1]; omega
          exact ⟨_, List.getElem?_eq_getElem this⟩
        have hf0 := hown2.frozenAt k
        have st := hown2.stored k (.int .i64 (l.getD k 0))
        rw [FS.out hlt] at st
        have hb3 : Below w.heap.size w (wr.setCell ⟨w.heap.size, k, none⟩ (.int .i64 (l.getD k 0))) := hb2.setCell (Nat.le_refl _) _
        have ST := st.1
        clear st hown2 hc
        go_wp2
        go_roundw
        case rel => exact ⟨k + 1, by omega, by go_num, ST, hb3⟩
        case measure => simp [intOf]; omega
      · have hkn : k = n := by omega
        subst hkn
        rw [F1.out] at hown2
        clear hc
        go_wp2
        go_ret
        exact ⟨rfl, hown2, hb2⟩

theorem cloneI_nil (n c : Nat) (w : World) :
    Calls Try.prog 28 #[.slice none n c] w fun e w' => e = .returned (.slice none 0 0) ∧ w' = w := by
  have q69 : ∀ (w : World) (a : Option Addr) (n c n' c' : Nat), (binOp .eql 69 (.slice a n c) (.slice none n' c')).run Try.prog w = .ok (.bool a.isNone) w := fun w a n c n' c' => Lib.run_eql_slice_nil w _ _ a n c n' c' Try.underlying69
  go_enter Try.func28, Try.ntmps28
  go_wp2
  go_ret
  exact ⟨rfl, rfl⟩

/-- What clone hands back: nothing, or a row of its own whose first number is the first of what came in. -/
theorem cloneI_uni (ao : Option Addr) (cap : Nat) (l : List Int) (w : World) (hl : l.length ≤ 1048576) (h : InpI w ao l) :
    Calls Try.prog 28 #[.slice ao l.length cap] w fun e w' => ∃ bo bc, e = .returned (.slice bo l.length bc) ∧ Below w.heap.size w w' ∧ (0 < l.length → ∃ g c, bo = some ⟨g, 0, none⟩ ∧ w'.heap[g]? = some (.cells c 3 (0, 0)) ∧ c[0]? = some (.int .i64 (l.getD 0 0))) := by
  rcases h with ⟨rfl, rfl⟩ | ⟨x, rfl, hr⟩
  · refine (cloneI_nil _ _ w).mono ?_
    rintro e w' ⟨rfl, rfl⟩
    exact ⟨none, 0, rfl, Below.refl _ _, fun h => absurd h (by simp)⟩
  · refine (cloneI_some x cap l w hl (by rcases hr with rfl | hr; exact .inl rfl; exact .inr hr)).mono ?_
    rintro e w' ⟨rfl, ho, hb⟩
    refine ⟨_, _, rfl, hb, fun hpos => ?_⟩
    rcases ho.2 with ⟨hv, _⟩ | ⟨g, cap', cur, hv, _, hg, _, _, _, ht⟩
    · simp at hv
    · simp only [Value.slice.injEq, Option.some.injEq, Addr.mk.injEq, and_true, true_and] at hv
      obtain ⟨rfl, rfl⟩ := hv
      refine ⟨w.heap.size, cur, rfl, hg, ?_⟩
      have e := congrArg (fun z => z[0]?) ht
      simp [iv, hpos] at e
      simpa [hpos] using e
end Go.Proofs.Qxb6003734a
