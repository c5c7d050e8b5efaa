import Derived.Test.Qxb6003733aEvD
namespace Go.Proofs.Qxb6003733a
open Go.RowKit Go.Lib

/-- A row of n cells of which the first k have been filled. -/
def filled (l : List UInt8) (k : Nat) : List Value := bv (l.take k) ++ List.replicate (l.length - k) (.int .u8 0)

theorem filled_step {l : List UInt8} {k : Nat} (hk : k < l.length) : (filled l k).set k (.int .u8 (l.getD k 0).toNat) = filled l (k + 1) := by
  unfold filled
  have e1 : (bv (l.take k)).length = k := by rw [bv_length, List.length_take]; omega
  have e2 : l.length - k = (l.length - (k + 1)) + 1 := by omega
  rw [List.set_append_right _ _ (by omega), e1, Nat.sub_self, e2, List.replicate_succ, List.set_cons_zero, List.take_succ_eq_append_getElem hk, bv_append, List.append_assoc]
  simp [bv, hk]
theorem filled_zero (l : List UInt8) : filled l 0 = List.replicate l.length (.int .u8 0) := by simp [filled, bv]
theorem filled_all (l : List UInt8) : filled l l.length = bv l := by simp [filled]

set_option maxHeartbeats 400000 in
theorem clone_any (x : Addr) (cap : Nat) (l : List UInt8) (w : World) (hl : l.length ≤ 1048576) (hr : Reads w (some x) l) :
    Calls Try.prog 10 #[.slice (some x) l.length cap] w fun e w' => e = .returned (.slice (some ⟨w.heap.size, 0, none⟩) l.length l.length) ∧ w'.ownsRow w.heap.size 5 1 (.slice (some ⟨w.heap.size, 0, none⟩) l.length l.length) l.length (bv l) ∧ Below w.heap.size w w' := by
  obtain ⟨i0, hi, hz0, hz1, hz2⟩ := info_parts info5
  have q27 : ∀ (w : World) (a : Option Addr) (n c n' c' : Nat), (binOp .eql 27 (.slice a n c) (.slice none n' c')).run Try.prog w = .ok (.bool a.isNone) w := fun w a n c n' c' => Lib.run_eql_slice_nil w _ _ a n c n' c' Try.underlying27
  have H0 := filled_zero l
  have H1 := filled_all l
  have HS := @filled_step l
  have hx : l.length = 0 ∨ ∃ g o, x = ⟨g, o, none⟩ ∧ ∀ j, j < l.length → w.cell? ⟨g, o + j, none⟩ = some (.int .u8 (l.getD j 0).toNat) := by
    rcases hr with h | ⟨g, o, e, hc⟩
    · exact .inl (by simp [h])
    · exact .inr ⟨g, o, by simpa using e, hc⟩
  clear hr
  generalize hn : l.length = n at *
  have F0 : Hid (filled l 0 = List.replicate n (.int .u8 0)) := H0
  have F1 : Hid (filled l n = bv l) := H1
  have FS : Hid (∀ {k : Nat}, k < n → (filled l k).set k (.int .u8 (l.getD k 0).toNat) = filled l (k + 1)) := HS
  clear hn H0 H1 HS
  rcases hx with hx | ⟨g, o, rfl, hc⟩
  · subst hx
    go_enter Try.func10, Try.ntmps10
    go_wp2_with (at_make; refine wpList_make_full _ rfl _ _ 27 rfl w.heap.size 5 i0 (.int .u8 0) 1 Try.underlying27 hi hz0 hz1 _ _ _ _ 0 rfl rfl rfl rfl ?b2 ?b3 ?b4 ?_)
    case b2 => rw [hz2]; omega
    case b3 => unfold maxLen; omega
    case b4 => exact Nat.le_refl _
    intro w1 hown hg1
    go_wp2
    refine wp_loop_rounds 1 ?_; rw [rounds_succ]
    go_wp2
    go_ret
    refine ⟨rfl, ?_, (Below.refl _ _).grown hg1 (Nat.le_refl _) (by simp)⟩
    rw [← F1.out, F0.out]
    simpa [madeCells] using hown
  · go_enter Try.func10, Try.ntmps10
    go_wp2_with (at_make; refine wpList_make_full _ rfl _ _ 27 rfl w.heap.size 5 i0 (.int .u8 0) 1 Try.underlying27 hi hz0 hz1 _ _ _ _ n rfl rfl rfl rfl ?b2 ?b3 ?b4 ?_)
    case b2 => rw [hz2]; omega
    case b3 => unfold maxLen; omega
    case b4 => exact Nat.le_refl _
    intro w1 hown hg1
    have hb1 : Below w.heap.size w w1 := (Below.refl _ _).grown hg1 (Nat.le_refl _) (by simp)
    rw [toList_madeCells_one, ← F0.out] at hown
    clear hg1
    go_wp2
    go_loopw [4] (fun i wr => ∃ k : Nat, k ≤ n ∧ i = .int .i64 k ∧ wr.ownsRow w.heap.size 5 1 (.slice (some ⟨w.heap.size, 0, none⟩) n n) n (filled l k) ∧ Below w.heap.size w wr) (fun i _ => n - (intOf i).toNat)
    case atStart => exact ⟨0, by omega, rfl, hown, hb1⟩
    case round =>
      obtain ⟨k, hk, rfl, hown2, hb2⟩ := hrel
      clear hown hb1
      by_cases hlt : k < n
      · have hlt' : (k : Int) < (n : Int) := by omega
        have c1 : wr.cell? ⟨g, o + k, none⟩ = some (.int .u8 (l.getD k 0).toNat) := cell_later hb2 (hc k hlt)
        obtain ⟨v0, hv0⟩ : ∃ v0, wr.cell? ⟨w.heap.size, k, none⟩ = some v0 := by
          rw [hown2.cellAt k (by omega)]
          have : k < (filled l k).length := by rw [hown2.1]; omega
          exact ⟨_, List.getElem?_eq_getElem this⟩
        have hf0 := hown2.frozenAt k
        have st := hown2.stored k (.int .u8 (l.getD k 0).toNat)
        rw [FS.out hlt] at st
        have hb3 : Below w.heap.size w (wr.setCell ⟨w.heap.size, k, none⟩ (.int .u8 (l.getD k 0).toNat)) := hb2.setCell (Nat.le_refl _) _
        have ST := st.1
        clear st hown2 hc
        go_wp2
        go_roundw
        case rel => exact ⟨k + 1, by omega, by go_num, ST, hb3⟩
        case measure => simp [intOf]; omega
      · have hkn : k = n := by omega
        subst hkn
        rw [F1.out] at hown2
        clear hc
        go_wp2
        go_ret
        exact ⟨rfl, hown2, hb2⟩

theorem clone_nil (w : World) :
    Calls Try.prog 10 #[.slice none 0 0] w fun e w' => e = .returned (.slice none 0 0) ∧ w' = w := by
  have q27 : ∀ (w : World) (a : Option Addr) (n c n' c' : Nat), (binOp .eql 27 (.slice a n c) (.slice none n' c')).run Try.prog w = .ok (.bool a.isNone) w := fun w a n c n' c' => Lib.run_eql_slice_nil w _ _ a n c n' c' Try.underlying27
  go_enter Try.func10, Try.ntmps10
  go_wp2
  go_ret
  exact ⟨rfl, rfl⟩

/-- zzBytes: do the two lengths sum to at most 1<<20? -/
theorem sizes_rb (ao : Option Addr) (n cap : Nat) (s : ByteArray) (q : Int) (w : World) (hn : n ≤ maxLen) (hs : s.size ≤ maxLen) :
    Calls Try.prog 9 #[.slice ao n cap, .string s, .int .i64 q] w fun e w' => e = .returned (.bool (decide (n + s.size ≤ 1048576))) ∧ w' = w := by
  unfold maxLen at hn hs
  go_enter Try.func9, Try.ntmps9
  go_wp2
  all_goals
    go_ret
    refine ⟨ret_bool ?_, rfl⟩
    simp
    omega

theorem hex_low (n : Int) (w : World) (h1 : 48 ≤ n) (h2 : n ≤ 57) :
    Calls Try.prog 14 #[.int .u8 n] w fun e w' => e = .returned (.tuple #[.int .u64 (n - 48), .bool true]) ∧ w' = w := by
  go_enter Try.func14, Try.ntmps14
  go_wp2
  go_ret2
  exact ⟨rfl, rfl⟩
theorem hex_high (n : Int) (w : World) (h1 : 97 ≤ n) (h2 : n ≤ 102) :
    Calls Try.prog 14 #[.int .u8 n] w fun e w' => e = .returned (.tuple #[.int .u64 (n - 97 + 10), .bool true]) ∧ w' = w := by
  go_enter Try.func14, Try.ntmps14
  go_wp2
  go_ret2
  exact ⟨rfl, rfl⟩

theorem hexc_nums : ∀ d, d < 16 → (d < 10 → (hexc d).toNat = 48 + d) ∧ (10 ≤ d → (hexc d).toNat = 87 + d) := by decide +kernel

/-- zzHex at a hex digit's letter. -/
theorem hex_any (d : Nat) (hd : d < 16) (w : World) :
    Calls Try.prog 14 #[.int .u8 ((hexc d).toNat : Int)] w fun e w' => e = .returned (.tuple #[.int .u64 (d : Int), .bool true]) ∧ w' = w := by
  obtain ⟨a, b⟩ := hexc_nums d hd
  by_cases h : d < 10
  · have e := a h
    have := hex_low ((hexc d).toNat : Int) w (by omega) (by omega)
    rw [show (((hexc d).toNat : Int) - 48) = (d : Int) by omega] at this
    exact this
  · have e := b (by omega)
    have := hex_high ((hexc d).toNat : Int) w (by omega) (by omega)
    rw [show (((hexc d).toNat : Int) - 97 + 10) = (d : Int) by omega] at this
    exact this
end Go.Proofs.Qxb6003733a
