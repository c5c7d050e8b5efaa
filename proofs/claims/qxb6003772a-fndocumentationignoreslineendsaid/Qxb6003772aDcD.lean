import Derived.Test.Qxb6003772aDcC
import Derived.Deep.LoopGhost
namespace Go.Proofs.Qxb6003772a
open Go.RowKit Go.Lib

theorem reads_cases {w : World} {ao : Option Addr} {l : List UInt8} (h : Reads w ao l) : l.length ≤ 0 ∨ ∃ g o, ao = some ⟨g, o, none⟩ ∧ ∀ j, j < l.length → w.cell? ⟨g, o + j, none⟩ = some (.int .u8 (l.getD j 0).toNat) := by
  rcases h with h | h
  · exact .inl (by simp [h])
  · exact .inr h

set_option maxHeartbeats 1000000 in
theorem join_any (ao bo : Option Addr) (ca cb : Nat) (l l' : List UInt8) (w : World) (hl : l.length ≤ 2000000) (hl' : l'.length ≤ 2000000) (h : Reads w ao l) (h' : Reads w bo l') :
    Calls Try.prog 14 #[.slice ao l.length ca, .slice bo l'.length cb] w fun e w' => e = .returned (.slice (some ⟨w.heap.size, 0, none⟩) (l.length + l'.length) (l.length + l'.length)) ∧ Reads w' (some ⟨w.heap.size, 0, none⟩) (l ++ l') ∧ Below w.heap.size w w' := by
  obtain ⟨i0, hi, hz0, hz1, hz2⟩ := info_parts info5
  have hx := reads_cases h
  have hy := reads_cases h'
  clear h h'
  have F0 : Hid (filled (l ++ l') 0 = List.replicate (l.length + l'.length) (.int .u8 0)) := by
    have := filled_zero (l ++ l'); rwa [List.length_append] at this
  have F1 : Hid (filled (l ++ l') (l.length + l'.length) = bv (l ++ l')) := by
    have := filled_all (l ++ l'); rwa [List.length_append] at this
  have FA : Hid (∀ k, k < l.length → (filled (l ++ l') k).set k (.int .u8 (l.getD k 0).toNat) = filled (l ++ l') (k + 1)) := by
    intro k hk
    have := filled_step (l := l ++ l') (k := k) (by simp; omega)
    rwa [show (l ++ l').getD k 0 = l.getD k 0 by simp only [List.getD_eq_getElem?_getD]; rw [List.getElem?_append_left hk]] at this
  have FB : Hid (∀ k, k < l'.length → (filled (l ++ l') (l.length + k)).set (l.length + k) (.int .u8 (l'.getD k 0).toNat) = filled (l ++ l') (l.length + (k + 1))) := by
    intro k hk
    have := filled_step (l := l ++ l') (k := l.length + k) (by simp; omega)
    rwa [show (l ++ l').getD (l.length + k) 0 = l'.getD k 0 by simp only [List.getD_eq_getElem?_getD]; rw [List.getElem?_append_right (by omega)]; congr 2; omega] at this
  generalize hn : l.length = n at *
  generalize hm : l'.length = m at *
  clear hn hm
  rcases hx with hx | ⟨g, o, rfl, hc⟩ <;> rcases hy with hy | ⟨g', o', rfl, hc'⟩
  all_goals
    go_enter Try.func14, Try.ntmps14
    go_wp2_with (at_make; refine wpList_make_full _ rfl _ _ 22 rfl w.heap.size 5 i0 (.int .u8 0) 1 Try.underlying22 hi hz0 hz1 _ _ _ _ (n + m) rfl rfl (by omega) (by omega) (by rw [hz2]; omega) (by unfold maxLen; omega) (Nat.le_refl _) ?_)
    intro w1 hown hg1
    have hb1 : Below w.heap.size w w1 := (Below.refl _ _).grown hg1 (Nat.le_refl _) (by simp)
    rw [toList_madeCells_one, ← F0.out] at hown
    clear hg1
    go_wp2
    go_loopg [6] n (fun mm i wr => ∃ k : Nat, k + mm = n ∧ i = .int .i64 k ∧ wr.ownsRow w.heap.size 5 1 (.slice (some ⟨w.heap.size, 0, none⟩) (n + m) (n + m)) (n + m) (filled (l ++ l') k) ∧ Below w.heap.size w wr)
    case atStart => exact ⟨0, by omega, rfl, hown, hb1⟩
    case round =>
      obtain ⟨k, hk, rfl, hown2, hb2⟩ := hrel
      have HK : Hid (k + gk = n) := hk
      clear hk hown hb1
      by_cases hlt : k < n
      · first
          | (exfalso; omega)
          | (have hlt' : (k : Int) < (n : Int) := by omega
             have hlt2 : (k : Int) < (n : Int) + (m : Int) := by omega
             have c1 : wr.cell? ⟨g, o + k, none⟩ = some (.int .u8 (l.getD k 0).toNat) := cell_later hb2 (hc k hlt)
             obtain ⟨v0, hv0⟩ : ∃ v0, wr.cell? ⟨w.heap.size, k, none⟩ = some v0 := by
               rw [hown2.cellAt k (by omega)]
               have : k < (filled (l ++ l') k).length := by rw [hown2.1]; omega
               exact ⟨_, List.getElem?_eq_getElem this⟩
             have hf0 := hown2.frozenAt k
             have st := hown2.stored k (.int .u8 (l.getD k 0).toNat)
             rw [FA.out k hlt] at st
             have hb3 : Below w.heap.size w (wr.setCell ⟨w.heap.size, k, none⟩ (.int .u8 (l.getD k 0).toNat)) := hb2.setCell (Nat.le_refl _) _
             have ST := st.1
             clear st hown2
             go_wp2
             go_roundg (gk - 1)
             case measure => have := HK.out; omega
             case rel => exact ⟨k + 1, by have := HK.out; omega, by go_num, ST, hb3⟩)
      · have hkn : k = n := by have := HK.out; omega
        subst hkn
        clear HK hlt
        go_wp2
        go_loopg [7] m (fun mm i wr => ∃ j : Nat, j + mm = m ∧ i = .int .i64 j ∧ wr.ownsRow w.heap.size 5 1 (.slice (some ⟨w.heap.size, 0, none⟩) (k + m) (k + m)) (k + m) (filled (l ++ l') (k + j)) ∧ Below w.heap.size w wr)
        case atStart => exact ⟨0, by omega, rfl, hown2, hb2⟩
        case round =>
          obtain ⟨j, hj, rfl, hown3, hb3⟩ := hrel
          have HJ : Hid (j + gk = m) := hj
          clear hj hown2 hb2
          by_cases hlt : j < m
          · first
              | (exfalso; omega)
              | (have hlt' : (j : Int) < (m : Int) := by omega
                 have hlt2 : (k : Int) + (j : Int) < (k : Int) + (m : Int) := by omega
                 have c1 : wr.cell? ⟨g', o' + j, none⟩ = some (.int .u8 (l'.getD j 0).toNat) := cell_later hb3 (hc' j hlt)
                 obtain ⟨v0, hv0⟩ : ∃ v0, wr.cell? ⟨w.heap.size, k + j, none⟩ = some v0 := by
                   rw [hown3.cellAt (k + j) (by omega)]
                   have : k + j < (filled (l ++ l') (k + j)).length := by rw [hown3.1]; omega
                   exact ⟨_, List.getElem?_eq_getElem this⟩
                 have hf0 := hown3.frozenAt (k + j)
                 have st := hown3.stored (k + j) (.int .u8 (l'.getD j 0).toNat)
                 rw [FB.out j hlt] at st
                 have hb4 : Below w.heap.size w (wr.setCell ⟨w.heap.size, k + j, none⟩ (.int .u8 (l'.getD j 0).toNat)) := hb3.setCell (Nat.le_refl _) _
                 have ST := st.1
                 clear st hown3
                 go_wp2
                 go_roundg (gk - 1)
                 case measure => have := HJ.out; omega
                 case rel => exact ⟨j + 1, by have := HJ.out; omega, by go_num, ST, hb4⟩)
          · have hjm : j = m := by have := HJ.out; omega
            subst hjm
            rw [F1.out] at hown3
            clear HJ hlt
            go_wp2
            go_ret
            exact ⟨rfl, reads_own hown3, hb3⟩
end Go.Proofs.Qxb6003772a
