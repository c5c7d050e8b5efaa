import Derived.Test.Qxb6003734aSnE
import Derived.Test.Qxb6003734aSnH
import Derived.Deep.LoopGhost
import Derived.Deep.Cut
namespace Go.Proofs.Qxb6003734a
open Go.RowKit Go.Lib

theorem zevent_one {B r sp : Nat} {id st : ByteArray} {evs : List Ev} {dl : Int} {fl : Value} {w : World} {k : Nat} {typ : ByteArray} {pp : Option Addr} {sb : Nat} {est prev : ByteArray} (h : Rc B r sp id st evs dl fl w) (he : evs[k]? = some ⟨typ, pp, sb, est, prev⟩) (hid : id.size ≤ 1048576) (hn : evs.length ≤ 800000) (q : Int) (hq : q = (k : Int) + 1) :
    Calls Try.prog 25 #[.pointer (some ⟨r, 0, none⟩), .int .i64 q] w fun x w' => x = .returned (.agg (evRow id q typ pp est)) ∧ Below w.heap.size w w' := by
  subst hq
  exact zevent_all B r sp id st evs dl fl w k _ h he hid hn

theorem PrevOk.below {w w' : World} {e : Ev} (h : PrevOk w e) (hb : Below w.heap.size w w') : PrevOk w' e := by
  rcases h with h | ⟨a, b, c, d⟩
  · exact .inl h
  · exact .inr ⟨a, b, c, (hb.block _ (Array.getElem?_eq_some_iff.1 d).1).trans d⟩

set_option maxHeartbeats 2000000 in
set_option maxRecDepth 20000 in
theorem sn_in (id first second typ1 prev1 typ2 : ByteArray) (N : Nat) (w : World) (hN : N ≤ 64) (hsz : id.size + first.size + second.size + typ1.size + prev1.size + typ2.size ≤ 1048576) :
    Calls Try.prog 5 #[.string id, .int .i64 N, .string first, .string second, .string typ1, .string prev1, .string typ2] w fun e w' => e = .returned (.bool true) ∧ Below w.heap.size w w' := by
  have hd : decide (id.size + first.size + second.size + typ1.size + prev1.size + typ2.size ≤ 1048576) = true := by simpa using hsz
  have m0 : id.size ≤ maxLen := by unfold maxLen; omega
  have m1 : first.size ≤ maxLen := by unfold maxLen; omega
  have m2 : second.size ≤ maxLen := by unfold maxLen; omega
  have m3 : typ1.size ≤ maxLen := by unfold maxLen; omega
  have m4 : prev1.size ≤ maxLen := by unfold maxLen; omega
  have m5 : typ2.size ≤ maxLen := by unfold maxLen; omega
  have h45 : decide ((1048576 : Int) < (id.size : Int) + (first.size : Int) + (second.size : Int) + (typ1.size : Int) + (prev1.size : Int) + (typ2.size : Int)) = false := by simp; omega
  have h47 : decide ((N : Int) < 0) = false := by simp
  have h50 : decide ((64 : Int) < (N : Int)) = false := by simp; omega
  have hid : id.size ≤ 1048576 := by omega
  have hne : ((idS id ((N : Int) + 1)).toList == (idS id ((N : Int) + 2)).toList) = false := by
    have h := idS_ne (s := id) (q := (N : Int) + 1) (q' := (N : Int) + 2) (by omega) (by omega) (by omega) (by omega) (by omega)
    simp only [beq_eq_false_iff_ne, ne_eq]
    intro e
    apply h
    rw [ByteArray.toList_eq, ByteArray.toList_eq] at e
    cases h1 : idS id ((N : Int) + 1); cases h2 : idS id ((N : Int) + 2)
    rw [h1, h2] at e
    simp at e
    rw [e]
  go_enter Try.func5, Try.ntmps5
  go_wp2_with (first | (go_at_call 18; refine (sizes_sn _ _ _ _ _ _ _ _ m0 m1 m2 m3 m4 m5).mono ?_; rintro e w' ⟨rfl, hw⟩; rw [hw]; clear hw w'))
  refine (recordOf_rc _ _ _ w.heap.size _ (Nat.le_refl _)).mono ?_
  rintro e w2 ⟨r, sp0, rfl, R0, K0, B0⟩
  clear K0 hd m0 m1 m2 m3 m4 m5 h45 h47 h50
  go_wp2
  go_loopg [16] N (fun mm i wr => ∃ (k sp : Nat) (evs : List Ev), k + mm = N ∧ i = .int .i64 k ∧ evs.length = k ∧ Rc w.heap.size r sp id first evs 0 (.pointer none) wr ∧ Fresh evs sp ∧ Below w.heap.size w wr)
  case atStart => exact ⟨0, sp0, [], by omega, rfl, rfl, R0, (fun e he => by cases he), B0⟩
  case round =>
    obtain ⟨k, sp, evs, hk, rfl, hlen, R, F, hb3⟩ := hrel
    have HK : Hid (k + gk = N) := hk
    have HL : Hid (evs.length = k) := hlen
    clear hk hlen R0 B0
    by_cases hlt : k < N
    · have hlt' : (k : Int) < (N : Int) := by omega
      go_wp2_with fail
      refine (zzappend_rc R F (by have := HL.out; omega) _ _).mono ?_
      rintro e w3 ⟨rfl, p, R1, K1, B1⟩
      go_wp2_with fail
      refine (zzunshare_rc2 (evs := evs) R1 rfl (by have := HL.out; omega)).mono ?_
      rintro e w4 ⟨rfl, sp', _, R2, F2, K2, B2⟩
      have hb4 := (hb3.trans B1).trans B2
      clear R F R1 K1 B1 K2 B2 hb3
      go_wp2
      go_roundg (gk - 1)
      case measure => have := HK.out; omega
      case rel => exact ⟨k + 1, sp', _, by have := HK.out; omega, by go_num, by simp [HL.out], R2, F2, hb4⟩
    · have hkE : k = N := by have := HK.out; omega
      subst hkE
      clear HK hlt
      go_wp2_with fail
      refine (zzshared_fresh R F (by have := HL.out; omega)).mono ?_
      rintro e w3 ⟨rfl, d1, rfl⟩
      go_wp2_with fail
      refine (zzappend_rc (R.drewN d1) F (by have := HL.out; omega) _ _).mono ?_
      rintro e w4 ⟨rfl, p1, R1, K1, B1⟩
      have hb4 := (below_drewN hb3 d1).trans B1
      clear R K1 B1 hb3
      go_wp2_with fail
      refine (zzshared_last (evs := evs) R1 rfl (by have := HL.out; omega)).mono ?_
      rintro e w5 ⟨rfl, d2, rfl⟩
      go_wp2_with fail
      refine (zzunshare_rc2 (evs := evs) (R1.drewN d2) rfl (by have := HL.out; omega)).mono ?_
      rintro e w6 ⟨rfl, sp', hsp, R2, F2, K2, B2⟩
      have hb6 := (below_drewN hb4 d2).trans B2
      clear R1 K2 B2 hb4 F
      go_wp2_with fail
      refine (zzshared_fresh R2 F2 (by have := HL.out; simp; omega)).mono ?_
      rintro e w7 ⟨rfl, d3, rfl⟩
      go_wp2_with fail
      refine (setstatus_rc (R2.drewN d3) F2 hsp _).mono ?_
      rintro e w8 ⟨rfl, R3, B3⟩
      have hb8 := (below_drewN hb6 d3).trans B3
      clear R2 hb6 B3
      go_wp2_with fail
      refine (zzappend_rc R3 F2 (by have := HL.out; simp; omega) _ _).mono ?_
      rintro e w9 ⟨rfl, p2, R4, K4, B4⟩
      have hb9 := hb8.trans B4
      clear R3 hb8 K4 B4 F2
      go_wp2_with fail
      refine (zzshared_last R4 rfl (by have := HL.out; simp; omega)).mono ?_
      rintro e w10 ⟨rfl, d4, rfl⟩
      have R5 := R4.drewN d4
      have hb10 := below_drewN hb9 d4
      clear R4 hb9
      go_wp2_with fail
      refine (zzcount_rc R5).mono ?_
      rintro e w11 ⟨rfl, hw⟩
      rw [hw]
      clear hw w11
      rw [show ∀ (a b : Ev), (List.length (evs ++ [a] ++ [b]) : Int) = (k : Int) + 2 from fun a b => by simp [HL.out]]
      go_wp2_with fail
      refine (zevent_one (k := k) (typ := typ1) (pp := p1) (sb := sp) (est := first) (prev := prev1) R5 (by have := HL.out; simp [this]) hid (by have := HL.out; simp; omega) _ (by go_num)).mono ?_
      rintro e w12 ⟨rfl, B12⟩
      go_upto_region 26 with ((with_reducible refine wpList_store_new _ ?s1 ?s2 66 (.tmp 17) (.tmp 97) ?s3 ?s4 66 _ (evRow id ((k : Int) + 1) typ1 p1 first) ?s5 ?s6 (evRow_one _ _ _ _ _) (size66 _ _ _ _ _) ?s7); (case s3 => rfl); (case s1 => rfl); (case s2 => rfl); (case s4 => rfl); (case s5 => rfl); (case s6 => rfl))
      have B13 := B12.alloc B12.size (.cells (evRow id ((k : Int) + 1) typ1 p1 first) 66)
      have R6 := R5.same B13.size B13.block
      have P1 : PrevOk (w9.drewN d4) ⟨typ1, p1, sp, first, prev1⟩ := (R5.each _ (by simp)).2
      have P2 : PrevOk (w9.drewN d4) ⟨typ2, p2, sp', second, first⟩ := (R5.each _ (by simp)).2
      have row1 := heap_alloc_new w12 (.cells (evRow id ((k : Int) + 1) typ1 p1 first) 66)
      generalize w12.alloc (.cells (evRow id ((k : Int) + 1) typ1 p1 first) 66) = W1 at B13 R6 row1 ⊢
      clear B12 R5
      go_wp2_with fail
      refine (zevent_one (k := k + 1) (typ := typ2) (pp := p2) (sb := sp') (est := second) (prev := first) R6 (by have := HL.out; simp [this]) hid (by have := HL.out; simp; omega) _ (by simp; omega)).mono ?_
      rintro e w13 ⟨rfl, B14⟩
      go_upto_region 27 with ((with_reducible refine wpList_store_new _ ?q1 ?q2 66 (.tmp 18) (.tmp 101) ?q3 ?q4 66 _ (evRow id ((k : Int) + 2) typ2 p2 second) ?q5 ?q6 (evRow_one _ _ _ _ _) (size66 _ _ _ _ _) ?q7); (case q3 => rfl); (case q1 => rfl); (case q2 => rfl); (case q4 => rfl); (case q5 => rfl); (case q6 => rfl))
      have B15 := B14.alloc B14.size (.cells (evRow id ((k : Int) + 2) typ2 p2 second) 66)
      have row1' := (B15.block _ (Array.getElem?_eq_some_iff.1 row1).1).trans row1
      have row2 := heap_alloc_new w13 (.cells (evRow id ((k : Int) + 2) typ2 p2 second) 66)
      have B16 := B13.trans (B15.mono B13.size)
      have P1' := P1.below B16
      have P2' := P2.below B16
      have B17 := hb10.trans (B16.mono hb10.size)
      generalize w13.alloc (.cells (evRow id ((k : Int) + 2) typ2 p2 second) 66) = W2 at B15 row1' row2 B16 P1' P2' B17 ⊢
      have x0 : W2.cell? ⟨w12.heap.size, 0, none⟩ = some (.string (idS id ((k : Int) + 1))) := cell_of_row W2 _ 0 _ 66 (0, 0) row1'
      have x1 : W2.cell? ⟨w12.heap.size, 1, none⟩ = some (.string typ1) := cell_of_row W2 _ 1 _ 66 (0, 0) row1'
      have x2 : W2.cell? ⟨w12.heap.size, 2, none⟩ = some (.string id) := cell_of_row W2 _ 2 _ 66 (0, 0) row1'
      have x3 : W2.cell? ⟨w12.heap.size, 3, none⟩ = some (.int .i64 ((k : Int) + 1)) := cell_of_row W2 _ 3 _ 66 (0, 0) row1'
      have x7 : W2.cell? ⟨w12.heap.size, 7, none⟩ = some (.string first) := cell_of_row W2 _ 7 _ 66 (0, 0) row1'
      have x8 : W2.cell? ⟨w12.heap.size, 8, none⟩ = some (.pointer p1) := cell_of_row W2 _ 8 _ 66 (0, 0) row1'
      have x9 : W2.cell? ⟨w12.heap.size, 9, none⟩ = some (.string id) := cell_of_row W2 _ 9 _ 66 (0, 0) row1'
      have x11 : W2.cell? ⟨w12.heap.size, 11, none⟩ = some (.string first) := cell_of_row W2 _ 11 _ 66 (0, 0) row1'
      have y0 : W2.cell? ⟨w13.heap.size, 0, none⟩ = some (.string (idS id ((k : Int) + 2))) := cell_of_row W2 _ 0 _ 66 (0, 0) row2
      have y1 : W2.cell? ⟨w13.heap.size, 1, none⟩ = some (.string typ2) := cell_of_row W2 _ 1 _ 66 (0, 0) row2
      have y2 : W2.cell? ⟨w13.heap.size, 2, none⟩ = some (.string id) := cell_of_row W2 _ 2 _ 66 (0, 0) row2
      have y3 : W2.cell? ⟨w13.heap.size, 3, none⟩ = some (.int .i64 ((k : Int) + 2)) := cell_of_row W2 _ 3 _ 66 (0, 0) row2
      have y7 : W2.cell? ⟨w13.heap.size, 7, none⟩ = some (.string second) := cell_of_row W2 _ 7 _ 66 (0, 0) row2
      have y8 : W2.cell? ⟨w13.heap.size, 8, none⟩ = some (.pointer p2) := cell_of_row W2 _ 8 _ 66 (0, 0) row2
      have y9 : W2.cell? ⟨w13.heap.size, 9, none⟩ = some (.string id) := cell_of_row W2 _ 9 _ 66 (0, 0) row2
      have y11 : W2.cell? ⟨w13.heap.size, 11, none⟩ = some (.string second) := cell_of_row W2 _ 11 _ 66 (0, 0) row2
      clear B13 B14 B15 B16 R6 P1 P2 row1 row1' row2 hb10
      go_wp2_with fail
      refine (prevIs_any P1').mono ?_
      rintro e w' ⟨rfl, hw⟩
      rw [hw]
      clear hw w'
      go_wp2_with fail
      refine (prevIs_any P2').mono ?_
      rintro e w' ⟨rfl, hw⟩
      rw [hw]
      clear hw w'
      go_wp2
      go_ret
      exact ⟨rfl, B17⟩
end Go.Proofs.Qxb6003734a
