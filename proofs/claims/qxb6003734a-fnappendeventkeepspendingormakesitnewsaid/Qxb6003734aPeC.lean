import Derived.Test.Qxb6003734aPeB
import Derived.Deep.LoopGhost
import Derived.WalkSmall
namespace Go.Proofs.Qxb6003734a
open Go.RowKit

theorem ret_bool {a b : Bool} (h : a = b) : Ending.returned (.bool a) = .returned (.bool b) := by rw [h]

set_option maxHeartbeats 400000 in
theorem sizes_ke (e d : Int) (ao : Option Addr) (n cap : Nat) (b : Bool) (s t : ByteArray) (w : World) (hn : n ≤ maxLen) (hs : s.size ≤ maxLen) (ht : t.size ≤ maxLen) :
    Calls Try.prog 27 #[.int .i64 e, .int .i64 d, .slice ao n cap, .bool b, .string s, .string t] w fun e w' => e = .returned (.bool (decide (n + s.size + t.size ≤ 1048576))) ∧ w' = w := by
  unfold maxLen at hn hs ht
  go_enter Try.func27, Try.ntmps27
  go_wp2
  all_goals
    go_ret
    refine ⟨ret_bool ?_, rfl⟩
    simp
    omega

theorem Rc.drewN {B r sp : Nat} {id st : ByteArray} {evs : List Ev} {dl : Int} {fl : Value} {w : World} (h : Rc B r sp id st evs dl fl w) (d : Nat) : Rc B r sp id st evs dl fl (w.drewN d) :=
  h.same (Nat.le_refl _) (fun _ _ => rfl)
theorem keeps_drewN (w : World) (d : Nat) : Keeps w (w.drewN d) := fun _ _ _ _ h _ _ => h
theorem below_keeps {w w' : World} (h : Below w.heap.size w w') : Keeps w w' := fun b _ _ _ hb _ _ => (h.block b (Array.getElem?_eq_some_iff.1 hb).1).trans hb

theorem zzunshare_rc' {B r sp : Nat} {id st : ByteArray} {evs : List Ev} {e : Ev} {dl : Int} {fl : Value} {w : World} (h : Rc B r sp id st (evs ++ [e]) dl fl w) (he : e.sb = sp) (hn : evs.length ≤ 800000) :
    Calls Try.prog 21 #[.pointer (some ⟨r, 0, none⟩)] w fun x w' => x = .returned (.tuple #[]) ∧
      ∃ sp, Rc B r sp id st (evs ++ [e]) dl fl w' ∧ Fresh (evs ++ [e]) sp ∧ Keeps w w' ∧ Below B w w' := by
  subst he
  exact zzunshare_rc h hn

set_option maxHeartbeats 2000000 in
theorem ke_on (E D : Nat) (ao : Option Addr) (cap : Nat) (l : List Int) (typ prev : ByteArray) (w : World) (hE : E ≤ 1024) (hD : D ≤ E) (hin : InpI w ao l) (hs : typ.size ≤ maxLen) (ht : prev.size ≤ maxLen) (hsz : l.length * 8 + typ.size + prev.size ≤ 1048576) (hpos : 0 < l.length) :
    Calls Try.prog 6 #[.int .i64 E, .int .i64 D, .slice ao l.length cap, .bool true, .string typ, .string prev] w fun e w' => e = .returned (.bool true) ∧ Below w.heap.size w w' := by
  have hl : l.length ≤ maxLen := by unfold maxLen; omega
  have hd : decide (l.length + typ.size + prev.size ≤ 1048576) = true := by simp; omega
  have h36 : decide ((1048576 : Int) < (l.length : Int) * 8 + (typ.size : Int) + (prev.size : Int)) = false := by simp; omega
  have h38 : decide ((E : Int) < 0) = false := by simp
  have h41 : decide ((1024 : Int) < (E : Int)) = false := by simp; omega
  have h44 : decide ((D : Int) < 0) = false := by simp
  have h48 : decide ((E : Int) < (D : Int)) = false := by simp; omega
  have h54 : ((l.length : Int) == 0) = false := by simp; intro h; simp [h] at hpos
  go_enter Try.func6, Try.ntmps6
  go_wp2_with (first | (go_at_call 27; refine (sizes_ke _ _ _ _ _ _ _ _ _ hl hs ht).mono ?_; rintro e w' ⟨rfl, hw⟩; rw [hw]; clear hw w'))
  refine (cloneI_uni _ _ l _ (by omega) hin).mono ?_
  rintro e w1 ⟨bo, bc, rfl, hb1, hcl⟩
  obtain ⟨g1, c1, rfl, hg1, hc1⟩ := hcl hpos
  go_wp2_with fail
  refine (recordOf_rc _ _ _ w.heap.size _ hb1.size).mono ?_
  rintro e w2 ⟨r, sp0, rfl, R0, K0, B0⟩
  have hg2 := K0 _ _ _ _ hg1 (by decide) (by decide)
  have hb2 := hb1.trans B0
  clear K0 B0 hg1 hb1 hcl
  go_wp2
  go_loopg [14] E (fun mm i wr => ∃ (k sp : Nat) (evs : List Ev), k + mm = E ∧ i = .int .i64 k ∧ evs.length = k ∧ Rc w.heap.size r sp ⟨#[115, 117, 98, 95, 120]⟩ ⟨#[97, 99, 116, 105, 118, 101]⟩ evs D (.pointer none) wr ∧ Fresh evs sp ∧ wr.heap[g1]? = some (.cells c1 3 (0, 0)) ∧ Below w.heap.size w wr)
  case atStart => exact ⟨0, sp0, [], by omega, rfl, rfl, R0, (fun e he => by cases he), hg2, hb2⟩
  case round =>
    obtain ⟨k, sp, evs, hk, rfl, hlen, R, F, hg3, hb3⟩ := hrel
    have HK : Hid (k + gk = E) := hk
    have HL : Hid (evs.length = k) := hlen
    clear hk hlen R0 hg2 hb2
    by_cases hlt : k < E
    · have hlt' : (k : Int) < (E : Int) := by omega
      go_wp2_with fail
      refine (zzappend_rc R F (by have := HL.out; omega) _ _).mono ?_
      rintro e w3 ⟨rfl, p, R1, K1, B1⟩
      go_wp2_with fail
      refine (zzunshare_rc' (evs := evs) R1 rfl (by have := HL.out; omega)).mono ?_
      rintro e w4 ⟨rfl, sp', R2, F2, K2, B2⟩
      have hg4 := (K1.trans K2) _ _ _ _ hg3 (by decide) (by decide)
      have hb4 := (hb3.trans B1).trans B2
      clear R F R1 K1 B1 K2 B2 hg3 hb3
      go_wp2
      go_roundg (gk - 1)
      case measure => have := HK.out; omega
      case rel => exact ⟨k + 1, sp', _, by have := HK.out; omega, by go_num, by simp [HL.out], R2, F2, hg4, hb4⟩
    · have hkE : k = E := by have := HK.out; omega
      subst hkE
      clear HK hlt
      go_wp2_with fail
      refine (setFailed_rc R _ _ _ _).mono ?_
      rintro e w3 ⟨rfl, f, R1, hf1, K1, B1⟩
      have On1 : On w3 (some ⟨f, 0, none⟩) (l.getD 0 0) := ⟨f, g1, l.length, bc, c1, rfl, hpos, hf1, K1 _ _ _ _ hg3 (by decide) (by decide), hc1⟩
      have hb4 := hb3.trans B1
      go_wp2_with fail
      refine (zzpend_on R1 On1).mono ?_
      rintro e w4 ⟨rfl, d, rfl⟩
      go_wp2_with fail
      refine (zzappend_rc (R1.drewN d) F (by have := HL.out; omega) _ _).mono ?_
      rintro e w5 ⟨rfl, p, R2, K2, B2⟩
      have On2 := On1.keeps ((keeps_drewN w3 d).trans K2)
      have hb5 := (below_drewN hb4 d).trans B2
      go_wp2_with fail
      refine (zzcount_rc R2).mono ?_
      rintro e w6 ⟨rfl, hw⟩
      rw [hw]
      clear hw w6
      rw [show (List.length (evs ++ [({ typ := typ, pp := p, sb := sp, st := ⟨#[97, 99, 116, 105, 118, 101]⟩, prev := prev } : Ev)]) : Int) = (k : Int) + 1 by simp [HL.out]]
      clear R R1 F K1 B1 K2 B2 hg3 hb3 On1 hf1 hb4
      go_wp2_with fail
      refine (zzpend_on R2 On2).mono ?_
      rintro e w4 ⟨rfl, d2, rfl⟩
      go_wp2
      go_ret
      exact ⟨rfl, below_drewN hb5 d2⟩
end Go.Proofs.Qxb6003734a
