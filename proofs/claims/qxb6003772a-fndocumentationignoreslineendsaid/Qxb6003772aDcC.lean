import Derived.Test.Qxb6003772aDcB
namespace Go.Proofs.Qxb6003772a
open Go.RowKit Go.Lib

theorem info5 : (Try.prog.info? 5).map (fun i => (i.zero, i.size, i.bytes)) = some (some (.int .u8 0), 1, 1) := by kernel_rfl

/-- Bytes as cells. -/
def bv (l : List UInt8) : List Value := l.map fun b => Value.int .u8 b.toNat
theorem bv_append (a b : List UInt8) : bv (a ++ b) = bv a ++ bv b := by simp [bv]
theorem bv_length (a : List UInt8) : (bv a).length = a.length := by simp [bv]

/-- A row of n cells of which the first k have been filled. -/
def filled (l : List UInt8) (k : Nat) : List Value := bv (l.take k) ++ List.replicate (l.length - k) (.int .u8 0)

theorem filled_step {l : List UInt8} {k : Nat} (hk : k < l.length) : (filled l k).set k (.int .u8 (l.getD k 0).toNat) = filled l (k + 1) := by
  unfold filled
  have e1 : (bv (l.take k)).length = k := by rw [bv_length, List.length_take]; omega
  have e2 : l.length - k = (l.length - (k + 1)) + 1 := by omega
  rw [List.set_append_right _ _ (by omega), e1, Nat.sub_self, e2, List.replicate_succ, List.set_cons_zero, List.take_succ_eq_append_getElem hk, bv_append, List.append_assoc]
  simp [bv, hk]
theorem filled_zero (l : List UInt8) : filled l 0 = List.replicate l.length (.int .u8 0) := by simp [filled, bv]
theorem filled_all (l : List UInt8) : filled l l.length = bv l := by simp [filled]

set_option maxHeartbeats 400000 in
theorem clone_any (x : Addr) (cap : Nat) (l : List UInt8) (w : World) (hl : l.length ≤ 1048576) (hr : Reads w (some x) l) :
    Calls Try.prog 8 #[.slice (some x) l.length cap] w fun e w' => e = .returned (.slice (some ⟨w.heap.size, 0, none⟩) l.length l.length) ∧ w'.ownsRow w.heap.size 5 1 (.slice (some ⟨w.heap.size, 0, none⟩) l.length l.length) l.length (bv l) ∧ Below w.heap.size w w' := by
  obtain ⟨i0, hi, hz0, hz1, hz2⟩ := info_parts info5
  have q22 : ∀ (w : World) (a : Option Addr) (n c n' c' : Nat), (binOp .eql 22 (.slice a n c) (.slice none n' c')).run Try.prog w = .ok (.bool a.isNone) w := fun w a n c n' c' => Lib.run_eql_slice_nil w _ _ a n c n' c' Try.underlying22
  have H0 := filled_zero l
  have H1 := filled_all l
  have HS := @filled_step l
  have hx : l.length = 0 ∨ ∃ g o, x = ⟨g, o, none⟩ ∧ ∀ j, j < l.length → w.cell? ⟨g, o + j, none⟩ = some (.int .u8 (l.getD j 0).toNat) := by
    rcases hr with h | ⟨g, o, e, hc⟩
    · exact .inl (by simp [h])
    · exact .inr ⟨g, o, by simpa using e, hc⟩
  clear hr
  generalize hn : l.length = n at *
  have F0 : Hid (filled l 0 = List.replicate n (.int .u8 0)) := H0
  have F1 : Hid (filled l n = bv l) := H1
  have FS : Hid (∀ {k : Nat}, k < n → (filled l k).set k (.int .u8 (l.getD k 0).toNat) = filled l (k + 1)) := HS
  clear hn H0 H1 HS
  rcases hx with hx | ⟨g, o, rfl, hc⟩
  · subst hx
    go_enter Try.func8, Try.ntmps8
    go_wp2_with (at_make; refine wpList_make_full _ rfl _ _ 22 rfl w.heap.size 5 i0 (.int .u8 0) 1 Try.underlying22 hi hz0 hz1 _ _ _ _ 0 rfl rfl rfl rfl ?b2 ?b3 ?b4 ?_)
    case b2 => rw [hz2]; omega
    case b3 => unfold maxLen; omega
    case b4 => exact Nat.le_refl _
    intro w1 hown hg1
    go_wp2
    refine wp_loop_rounds 1 ?_; rw [rounds_succ]
    go_wp2
    go_ret
    refine ⟨rfl, ?_, (Below.refl _ _).grown hg1 (Nat.le_refl _) (by simp)⟩
    rw [← F1.out, F0.out]
    simpa [madeCells] using hown
  · go_enter Try.func8, Try.ntmps8
    go_wp2_with (at_make; refine wpList_make_full _ rfl _ _ 22 rfl w.heap.size 5 i0 (.int .u8 0) 1 Try.underlying22 hi hz0 hz1 _ _ _ _ n rfl rfl rfl rfl ?b2 ?b3 ?b4 ?_)
    case b2 => rw [hz2]; omega
    case b3 => unfold maxLen; omega
    case b4 => exact Nat.le_refl _
    intro w1 hown hg1
    have hb1 : Below w.heap.size w w1 := (Below.refl _ _).grown hg1 (Nat.le_refl _) (by simp)
    rw [toList_madeCells_one, ← F0.out] at hown
    clear hg1
    go_wp2
    go_loopw [4] (fun i wr => ∃ k : Nat, k ≤ n ∧ i = .int .i64 k ∧ wr.ownsRow w.heap.size 5 1 (.slice (some ⟨w.heap.size, 0, none⟩) n n) n (filled l k) ∧ Below w.heap.size w wr) (fun i _ => n - (intOf i).toNat)
    case atStart => exact ⟨0, by omega, rfl, hown, hb1⟩
    case round =>
      obtain ⟨k, hk, rfl, hown2, hb2⟩ := hrel
      clear hown hb1
      by_cases hlt : k < n
      · have hlt' : (k : Int) < (n : Int) := by omega
        have c1 : wr.cell? ⟨g, o + k, none⟩ = some (.int .u8 (l.getD k 0).toNat) := cell_later hb2 (hc k hlt)
        obtain ⟨v0, hv0⟩ : ∃ v0, wr.cell? ⟨w.heap.size, k, none⟩ = some v0 := by
          rw [hown2.cellAt k (by omega)]
          have : k < (filled l k).length := by rw [hown2.1]; omega
          exact ⟨_, List.getElem?_eq_getElem this⟩
        have hf0 := hown2.frozenAt k
        have st := hown2.stored k (.int .u8 (l.getD k 0).toNat)
        rw [FS.out hlt] at st
        have hb3 : Below w.heap.size w (wr.setCell ⟨w.heap.size, k, none⟩ (.int .u8 (l.getD k 0).toNat)) := hb2.setCell (Nat.le_refl _) _
        have ST := st.1
        clear st hown2 hc
        go_wp2
        go_roundw
        case rel => exact ⟨k + 1, by omega, by go_num, ST, hb3⟩
        case measure => simp [intOf]; omega
      · have hkn : k = n := by omega
        subst hkn
        rw [F1.out] at hown2
        clear hc
        go_wp2
        go_ret
        exact ⟨rfl, hown2, hb2⟩

theorem clone_nil (w : World) :
    Calls Try.prog 8 #[.slice none 0 0] w fun e w' => e = .returned (.slice none 0 0) ∧ w' = w := by
  have q22 : ∀ (w : World) (a : Option Addr) (n c n' c' : Nat), (binOp .eql 22 (.slice a n c) (.slice none n' c')).run Try.prog w = .ok (.bool a.isNone) w := fun w a n c n' c' => Lib.run_eql_slice_nil w _ _ a n c n' c' Try.underlying22
  go_enter Try.func8, Try.ntmps8
  go_wp2
  go_ret
  exact ⟨rfl, rfl⟩


/-- What is owned is read. -/
theorem reads_own {w : World} {B g n : Nat} {l : List UInt8} (h : w.ownsRow B 5 1 (.slice (some ⟨g, 0, none⟩) n n) n (bv l)) : Reads w (some ⟨g, 0, none⟩) l := by
  have hn : l.length = n := by have := h.1; rw [bv_length] at this; omega
  refine .inr ⟨g, 0, rfl, fun j hj => ?_⟩
  have := h.cellAt j (by omega)
  rw [Nat.zero_add, this]
  simp [bv, hj]

/-- zzCopy, of nil or not. -/
theorem copy_uni (ao : Option Addr) (cap : Nat) (l : List UInt8) (w : World) (hl : l.length ≤ 1048576) (h : (ao = none ∧ l = [] ∧ cap = 0) ∨ ∃ x, ao = some x ∧ Reads w (some x) l) :
    Calls Try.prog 8 #[.slice ao l.length cap] w fun e w' => ∃ bo bc, e = .returned (.slice bo l.length bc) ∧ Reads w' bo l ∧ l.length ≤ bc ∧ Below w.heap.size w w' := by
  rcases h with ⟨rfl, rfl, rfl⟩ | ⟨x, rfl, hr⟩
  · refine (clone_nil w).mono ?_
    rintro e w' ⟨rfl, rfl⟩
    exact ⟨none, 0, rfl, .inl rfl, Nat.le_refl _, Below.refl _ _⟩
  · refine (clone_any x cap l w hl hr).mono ?_
    rintro e w' ⟨rfl, ho, hb⟩
    exact ⟨_, _, rfl, reads_own ho, Nat.le_refl _, hb⟩

theorem sizes_dc (ao : Option Addr) (n cap : Nat) (w : World) (hn : n ≤ maxLen) :
    Calls Try.prog 18 #[.slice ao n cap] w fun e w' => e = .returned (.bool (decide (n ≤ 1048576))) ∧ w' = w := by
  unfold maxLen at hn
  go_enter Try.func18, Try.ntmps18
  go_wp2
  all_goals
    go_ret
    refine ⟨ret_bool ?_, rfl⟩
    simp
    omega
end Go.Proofs.Qxb6003772a
