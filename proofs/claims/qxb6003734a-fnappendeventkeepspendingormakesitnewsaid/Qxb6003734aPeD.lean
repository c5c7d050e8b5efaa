import Derived.Test.Qxb6003734aPeC
namespace Go.Proofs.Qxb6003734a
open Go.RowKit

set_option maxHeartbeats 2000000 in
theorem ke_off (E D : Nat) (ao : Option Addr) (cap : Nat) (l : List Int) (typ prev : ByteArray) (w : World) (hE : E ≤ 1024) (hD : D ≤ E) (hin : InpI w ao l) (hs : typ.size ≤ maxLen) (ht : prev.size ≤ maxLen) (hsz : l.length * 8 + typ.size + prev.size ≤ 1048576)
    (hc : (0 < l.length) ∨ (l.length = 0)) (hD' : D < E ∨ D = E) :
    Calls Try.prog 6 #[.int .i64 E, .int .i64 D, .slice ao l.length cap, .bool false, .string typ, .string prev] w fun e w' => e = .returned (.bool true) ∧ Below w.heap.size w w' := by
  have hl : l.length ≤ maxLen := by unfold maxLen; omega
  have hd : decide (l.length + typ.size + prev.size ≤ 1048576) = true := by simp; omega
  have h36 : decide ((1048576 : Int) < (l.length : Int) * 8 + (typ.size : Int) + (prev.size : Int)) = false := by simp; omega
  have h38 : decide ((E : Int) < 0) = false := by simp
  have h41 : decide ((1024 : Int) < (E : Int)) = false := by simp; omega
  have h44 : decide ((D : Int) < 0) = false := by simp
  have h48 : decide ((E : Int) < (D : Int)) = false := by simp; omega
  go_enter Try.func6, Try.ntmps6
  go_wp2_with (first | (go_at_call 27; refine (sizes_ke _ _ _ _ _ _ _ _ _ hl hs ht).mono ?_; rintro e w' ⟨rfl, hw⟩; rw [hw]; clear hw w'))
  refine (cloneI_uni _ _ l _ (by omega) hin).mono ?_
  rintro e w1 ⟨bo, bc, rfl, hb1, hcl⟩
  clear hcl
  go_wp2_with fail
  refine (recordOf_rc _ _ _ w.heap.size _ hb1.size).mono ?_
  rintro e w2 ⟨r, sp0, rfl, R0, K0, B0⟩
  have hb2 := hb1.trans B0
  clear K0 B0 hb1
  go_wp2
  go_loopg [14] E (fun mm i wr => ∃ (k sp : Nat) (evs : List Ev), k + mm = E ∧ i = .int .i64 k ∧ evs.length = k ∧ Rc w.heap.size r sp ⟨#[115, 117, 98, 95, 120]⟩ ⟨#[97, 99, 116, 105, 118, 101]⟩ evs D (.pointer none) wr ∧ Fresh evs sp ∧ Below w.heap.size w wr)
  case atStart => exact ⟨0, sp0, [], by omega, rfl, rfl, R0, (fun e he => by cases he), hb2⟩
  case round =>
    obtain ⟨k, sp, evs, hk, rfl, hlen, R, F, hb3⟩ := hrel
    have HK : Hid (k + gk = E) := hk
    have HL : Hid (evs.length = k) := hlen
    clear hk hlen R0 hb2
    by_cases hlt : k < E
    · have hlt' : (k : Int) < (E : Int) := by omega
      go_wp2_with fail
      refine (zzappend_rc R F (by have := HL.out; omega) _ _).mono ?_
      rintro e w3 ⟨rfl, p, R1, K1, B1⟩
      go_wp2_with fail
      refine (zzunshare_rc' (evs := evs) R1 rfl (by have := HL.out; omega)).mono ?_
      rintro e w4 ⟨rfl, sp', R2, F2, K2, B2⟩
      have hb4 := (hb3.trans B1).trans B2
      clear R F R1 K1 B1 K2 B2 hb3
      go_wp2
      go_roundg (gk - 1)
      case measure => have := HK.out; omega
      case rel => exact ⟨k + 1, sp', _, by have := HK.out; omega, by go_num, by simp [HL.out], R2, F2, hb4⟩
    · have hkE : k = E := by have := HK.out; omega
      subst hkE
      clear HK hlt
      have hEL : (evs.length : Int) = (k : Int) := by rw [HL.out]
      rcases hc with hpos | h0
      · have hq : decide ((0 : Int) < (l.length : Int)) = true := by simpa using hpos
        go_wp2_with fail
        refine (setFailed_rc R _ _ _ _).mono ?_
        rintro e w3 ⟨rfl, f, R1, hf1, K1, B1⟩
        have O1 : Off w3 (some ⟨f, 0, none⟩) := .inr ⟨f, rfl, _, hf1⟩
        have hb4 := hb3.trans B1
        clear R K1 B1 hf1 hb3
        rcases hD' with hlt | heq
        · go_wp2_with fail
          refine (zzpend_all R1 O1 (by omega) (by omega) (by omega)).mono ?_
          rintro e w4 ⟨rfl, d, rfl⟩
          go_wp2_with fail
          refine (zzappend_rc (R1.drewN d) F (by omega) _ _).mono ?_
          rintro e w5 ⟨rfl, p, R2, K2, B2⟩
          have O2 := O1.keeps ((keeps_drewN w3 d).trans K2)
          have hb5 := (below_drewN hb4 d).trans B2
          clear R1 O1 hb4 K2 B2
          go_wp2_with fail
          refine (zzcount_rc R2).mono ?_
          rintro e w6 ⟨rfl, hw⟩
          rw [hw]
          clear hw w6
          rw [show (List.length (evs ++ [({ typ := typ, pp := p, sb := sp, st := ⟨#[97, 99, 116, 105, 118, 101]⟩, prev := prev } : Ev)]) : Int) = (k : Int) + 1 by simp [HL.out]]
          go_wp2_with fail
          refine (zzpend_all R2 O2 (by omega) (by simp; omega) (by simp; omega)).mono ?_
          rintro e w4 ⟨rfl, d2, rfl⟩
          go_wp2
          go_ret
          exact ⟨rfl, below_drewN hb5 d2⟩
        · have hDL : ((D : Nat) : Int) = (evs.length : Int) := by omega
          have hq2 : (((D : Int) + 1) == ((k : Int) + 1)) = true := by simp; omega
          have HD : Hid (((D : Nat) : Int) = (evs.length : Int)) := hDL
          clear hDL heq
          go_wp2_with fail
          refine (zzpend_none (by rw [HD.out] at R1; exact R1) O1 (by omega)).mono ?_
          rintro e w4 ⟨rfl, d, rfl⟩
          go_wp2_with fail
          refine (zzappend_rc (R1.drewN d) F (by omega) _ _).mono ?_
          rintro e w5 ⟨rfl, p, R2, K2, B2⟩
          have O2 := O1.keeps ((keeps_drewN w3 d).trans K2)
          have hb5 := (below_drewN hb4 d).trans B2
          clear R1 O1 hb4 K2 B2
          go_wp2_with fail
          refine (zzcount_rc R2).mono ?_
          rintro e w6 ⟨rfl, hw⟩
          rw [hw]
          clear hw w6
          rw [show (List.length (evs ++ [({ typ := typ, pp := p, sb := sp, st := ⟨#[97, 99, 116, 105, 118, 101]⟩, prev := prev } : Ev)]) : Int) = (k : Int) + 1 by simp [HL.out]]
          go_wp2_with fail
          refine (zzpend_all R2 O2 (by omega) (by simp; omega) (by simp; omega)).mono ?_
          rintro e w4 ⟨rfl, d2, rfl⟩
          go_wp2
          go_ret
          exact ⟨rfl, below_drewN hb5 d2⟩
      · have hq : decide ((0 : Int) < (l.length : Int)) = false := by simp [h0]
        have R1 := R
        have O1 : Off wr none := .inl ⟨rfl, trivial⟩
        have hb4 := hb3
        clear R hb3
        rcases hD' with hlt | heq
        · go_wp2_with fail
          refine (zzpend_all R1 O1 (by omega) (by omega) (by omega)).mono ?_
          rintro e w4 ⟨rfl, d, rfl⟩
          go_wp2_with fail
          refine (zzappend_rc (R1.drewN d) F (by omega) _ _).mono ?_
          rintro e w5 ⟨rfl, p, R2, K2, B2⟩
          have O2 := O1.keeps ((keeps_drewN wr d).trans K2)
          have hb5 := (below_drewN hb4 d).trans B2
          clear R1 O1 hb4 K2 B2
          go_wp2_with fail
          refine (zzcount_rc R2).mono ?_
          rintro e w6 ⟨rfl, hw⟩
          rw [hw]
          clear hw w6
          rw [show (List.length (evs ++ [({ typ := typ, pp := p, sb := sp, st := ⟨#[97, 99, 116, 105, 118, 101]⟩, prev := prev } : Ev)]) : Int) = (k : Int) + 1 by simp [HL.out]]
          go_wp2_with fail
          refine (zzpend_all R2 O2 (by omega) (by simp; omega) (by simp; omega)).mono ?_
          rintro e w4 ⟨rfl, d2, rfl⟩
          go_wp2
          go_ret
          exact ⟨rfl, below_drewN hb5 d2⟩
        · have hDL : ((D : Nat) : Int) = (evs.length : Int) := by omega
          have hq2 : (((D : Int) + 1) == ((k : Int) + 1)) = true := by simp; omega
          have HD : Hid (((D : Nat) : Int) = (evs.length : Int)) := hDL
          clear hDL heq
          go_wp2_with fail
          refine (zzpend_none (by rw [HD.out] at R1; exact R1) O1 (by omega)).mono ?_
          rintro e w4 ⟨rfl, d, rfl⟩
          go_wp2_with fail
          refine (zzappend_rc (R1.drewN d) F (by omega) _ _).mono ?_
          rintro e w5 ⟨rfl, p, R2, K2, B2⟩
          have O2 := O1.keeps ((keeps_drewN wr d).trans K2)
          have hb5 := (below_drewN hb4 d).trans B2
          clear R1 O1 hb4 K2 B2
          go_wp2_with fail
          refine (zzcount_rc R2).mono ?_
          rintro e w6 ⟨rfl, hw⟩
          rw [hw]
          clear hw w6
          rw [show (List.length (evs ++ [({ typ := typ, pp := p, sb := sp, st := ⟨#[97, 99, 116, 105, 118, 101]⟩, prev := prev } : Ev)]) : Int) = (k : Int) + 1 by simp [HL.out]]
          go_wp2_with fail
          refine (zzpend_all R2 O2 (by omega) (by simp; omega) (by simp; omega)).mono ?_
          rintro e w4 ⟨rfl, d2, rfl⟩
          go_wp2
          go_ret
          exact ⟨rfl, below_drewN hb5 d2⟩
end Go.Proofs.Qxb6003734a
