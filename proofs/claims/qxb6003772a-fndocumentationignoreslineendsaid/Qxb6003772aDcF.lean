import Derived.Test.Qxb6003772aDcE
namespace Go.Proofs.Qxb6003772a
open Go.RowKit Go.Lib

theorem hid_ex (x : List UInt8) : ∃ L, Hid (L = x) := ⟨x, (rfl : x = x)⟩
theorem reads_pos {w : World} {ao : Option Addr} {l : List UInt8} (h : Reads w ao l) (h0 : 0 < l.length) : ∃ g o, ao = some ⟨g, o, none⟩ := by
  rcases h with rfl | ⟨g, o, e, _⟩
  · simp at h0
  · exact ⟨g, o, e⟩
theorem reads_first {w : World} {g o : Nat} {l : List UInt8} (h : Reads w (some ⟨g, o, none⟩) l) (h0 : 0 < l.length) (h64 : l.getD 0 0 = 64) : w.cell? ⟨g, o, none⟩ = some (.int .u8 64) := by
  rcases h with rfl | ⟨g', o', e, hc⟩
  · simp at h0
  · simp at e
    obtain ⟨rfl, rfl⟩ := e
    have := hc 0 h0
    rw [h64] at this
    exact this

set_option maxHeartbeats 2000000 in
theorem dc_walk (ao : Option Addr) (cap : Nat) (l : List UInt8) (w : World) (hin : (ao = none ∧ l = [] ∧ cap = 0) ∨ ∃ x, ao = some x ∧ Reads w (some x) l) (hl : l.length ≤ 1048576) (hb : Body l) (v : Bool) (hv : docBody l = v) :
    Calls Try.prog 6 #[.slice ao l.length cap] w fun e w' => e = .returned (.bool true) ∧ Below w.heap.size w w' := by
  have hm : l.length ≤ maxLen := by unfold maxLen; omega
  have hd : decide (l.length ≤ 1048576) = true := by simpa using hl
  have h15 : decide ((1048576 : Int) < (l.length : Int)) = false := by simp; omega
  have kc := fun (w : World) (C : Array Value) (n c : Nat) => Lib.run_convert_bytes_const (P := Try.prog) w 22 5 C n c Try.underlying22 Try.underlying5
  have HV : Hid (docBody l = v) := hv
  have HB : Hid (Body l) := hb
  clear hv hb
  obtain ⟨L1, e1⟩ : ∃ L, Hid (L = l ++ [10]) := hid_ex _
  obtain ⟨L2, e2⟩ : ∃ L, Hid (L = l ++ [13, 10]) := hid_ex _
  obtain ⟨S1, s1⟩ : ∃ L, Hid (L = [64, 32] ++ l) := hid_ex _
  obtain ⟨S2, s2⟩ : ∃ L, Hid (L = [64, 9] ++ l) := hid_ex _
  obtain ⟨S3, s3⟩ : ∃ L, Hid (L = [64, 64] ++ l) := hid_ex _
  obtain ⟨T1, t1⟩ : ∃ L, Hid (L = S1 ++ [10]) := hid_ex _
  obtain ⟨T2, t2⟩ : ∃ L, Hid (L = S2 ++ [10]) := hid_ex _
  obtain ⟨T3, t3⟩ : ∃ L, Hid (L = S3 ++ [10]) := hid_ex _
  have D0 : Hid (doc l = v) := (doc_body HB.out).trans HV.out
  have D1 : Hid (doc L1 = v) := by show _ = _; rw [e1.out, doc_lf HB.out]; exact HV.out
  have D2 : Hid (doc L2 = v) := by show _ = _; rw [e2.out, doc_crlf]; exact HV.out
  have D3 : Hid (doc S1 = true) := by show _ = _; rw [s1.out, doc_body (body_pre HB.out 32 (by decide) (by decide)), docBody_pre]; decide
  have D4 : Hid (doc T1 = true) := by show _ = _; rw [t1.out, s1.out, doc_lf (body_pre HB.out 32 (by decide) (by decide)), docBody_pre]; decide
  have D5 : Hid (doc S2 = true) := by show _ = _; rw [s2.out, doc_body (body_pre HB.out 9 (by decide) (by decide)), docBody_pre]; decide
  have D6 : Hid (doc T2 = true) := by show _ = _; rw [t2.out, s2.out, doc_lf (body_pre HB.out 9 (by decide) (by decide)), docBody_pre]; decide
  have D7 : Hid (doc S3 = false) := by show _ = _; rw [s3.out, doc_body (body_pre HB.out 64 (by decide) (by decide)), docBody_pre]; decide
  have D8 : Hid (doc T3 = false) := by show _ = _; rw [t3.out, s3.out, doc_lf (body_pre HB.out 64 (by decide) (by decide)), docBody_pre]; decide
  have NL : Hid (L1.length = l.length + 1 ∧ L2.length = l.length + 2 ∧ S1.length = l.length + 2 ∧ S2.length = l.length + 2 ∧ S3.length = l.length + 2 ∧ T1.length = l.length + 3 ∧ T2.length = l.length + 3 ∧ T3.length = l.length + 3) := by
    show _ ∧ _
    rw [t1.out, t2.out, t3.out, e1.out, e2.out, s1.out, s2.out, s3.out]
    simp
  have hcs : (decide ((0 : Int) < (l.length : Int)) = false ∧ (l.length : Int) ≤ 0) ∨ (∃ g o x, ao = some ⟨g, o, none⟩ ∧ w.cell? ⟨g, o + (l.length - 1), none⟩ = some (.int .u8 x) ∧ (x == 10) = false ∧ (x == 13) = false ∧ decide ((0 : Int) < (l.length : Int)) = true ∧ (0 : Int) < (l.length : Int)) := by
    by_cases h0 : 0 < l.length
    · rcases hin with ⟨_, rfl, _⟩ | ⟨x, rfl, hr⟩
      · simp at h0
      · rcases hr with rfl | ⟨g, o, e, hc⟩
        · simp at h0
        · obtain ⟨b1, b2⟩ := HB.out h0
          refine .inr ⟨g, o, _, e, hc (l.length - 1) (by omega), ?_, ?_, by simpa using h0, by omega⟩
          · have := beq_byte (l.getD (l.length - 1) 0) 10 (by decide)
            rw [show (UInt8.ofNat 10) = 10 from rfl, decide_eq_false b1] at this
            exact this
          · have := beq_byte (l.getD (l.length - 1) 0) 13 (by decide)
            rw [show (UInt8.ofNat 13) = 13 from rfl, decide_eq_false b2] at this
            exact this
    · exact .inl ⟨by simpa using h0, by omega⟩
  rcases hcs with ⟨f1, f2⟩ | ⟨g, o, x, rfl, f1, f2, f3, f4, f5⟩
  all_goals
    go_enter Try.func6, Try.ntmps6
    go_wp2_with (first | (go_at_call 18; refine (sizes_dc _ _ _ _ hm).mono ?_; rintro e w' ⟨rfl, hw⟩; rw [hw]; clear hw w'))
    refine (copy_uni _ _ l _ hl hin).mono ?_
    rintro e w1 ⟨bo, bc, rfl, rb1, hbc, B1⟩
    clear hin
    go_wp2_with fail
    refine (zzDoc_val _ _ l v D0.out _ (rb1.later (below_alloc _ _)) hbc (by omega)).mono ?_
    rintro e w2 ⟨rfl, rfl⟩
    have rb2 := rb1.later (below_alloc w1 (.cells #[.int .u8 10] 5 (1, 2)))
    have rn2 : Reads _ _ [10] := reads_const w1 [10] (1, 2)
    have B2 := B1.trans ((below_alloc w1 (.cells #[.int .u8 10] 5 (1, 2))).mono B1.size)
    go_wp2_with fail
    refine (join_val _ _ _ _ l [10] L1 e1 _ (by omega) (by simp) rb2 rn2).mono ?_
    rintro e w3 ⟨g3, rfl, r1, B3⟩
    have rb3 := rb2.later B3
    have rn3 := rn2.later B3
    have C3 := B2.trans (B3.mono B2.size)
    clear rb1 rb2 rn2 B1 B2 B3
    go_wp2_with fail
    refine (zzDoc_val _ _ L1 v D1.out _ r1 (Nat.le_refl _) (by have := NL.out; omega)).mono ?_
    rintro e w4 ⟨rfl, rfl⟩
    clear r1
    -- the second join, with the two bytes
    have rb4 := rb3.later (below_alloc w3 (.cells #[.int .u8 13, .int .u8 10] 5 (2, 3)))
    have rn4 := rn3.later (below_alloc w3 (.cells #[.int .u8 13, .int .u8 10] 5 (2, 3)))
    have rc4 : Reads _ _ [13, 10] := reads_const w3 [13, 10] (2, 3)
    have C4 := C3.trans ((below_alloc w3 (.cells #[.int .u8 13, .int .u8 10] 5 (2, 3))).mono C3.size)
    clear rb3 rn3 C3
    go_wp2_with fail
    refine (join_val _ _ _ _ l [13, 10] L2 e2 _ (by omega) (by simp) rb4 rc4).mono ?_
    rintro e w5 ⟨g5, rfl, r5, B5⟩
    have rb5 := rb4.later B5
    have rn5 := rn4.later B5
    have C5 := C4.trans (B5.mono C4.size)
    clear rb4 rn4 rc4 C4 B5
    go_wp2_with fail
    refine (zzDoc_val _ _ L2 v D2.out _ r5 (Nat.le_refl _) (by have := NL.out; omega)).mono ?_
    rintro e w6 ⟨rfl, rfl⟩
    clear r5
    have hvv : (v = false) ∨ (v = true ∧ ∃ gb ob, bo = some ⟨gb, ob, none⟩ ∧ w5.cell? ⟨gb, ob, none⟩ = some (.int .u8 64) ∧ ((l.length : Int) == 0) = false ∧ (0 : Int) < (l.length : Int)) := by
      cases v with
      | false => exact .inl rfl
      | true =>
        obtain ⟨h0, h64⟩ := docBody_at HV.out
        obtain ⟨gb, ob, e⟩ := reads_pos rb5 h0
        exact .inr ⟨rfl, gb, ob, e, reads_first (by rw [← e]; exact rb5) h0 h64, by simp; intro h; simp [h] at h0, by omega⟩
    clear D0 D1 D2 HV
    rcases hvv with rfl | ⟨rfl, gb, ob, rfl, c0, k0, k1⟩
    all_goals try (exfalso; omega)
    all_goals
      have rb := rb5
      have rn := rn5
      have C := C5
      clear rb5 rn5 C5
      have rbm := rb.later (below_alloc w5 (.cells #[.int .u8 64, .int .u8 32] 5 (2, 3)))
      have rnm := rn.later (below_alloc w5 (.cells #[.int .u8 64, .int .u8 32] 5 (2, 3)))
      have rcm : Reads _ _ [64, 32] := reads_const w5 [64, 32] (2, 3)
      have Cm := C.trans ((below_alloc w5 (.cells #[.int .u8 64, .int .u8 32] 5 (2, 3))).mono C.size)
      go_wp2_with fail
      refine (join_val _ _ _ _ [64, 32] l S1 s1 _ (by simp) (by omega) rcm rbm).mono ?_
      rintro e w7 ⟨gs1, rfl, rs1, Bm⟩
      have rb' := rbm.later Bm
      have rn' := rnm.later Bm
      have C' := Cm.trans (Bm.mono Cm.size)
      clear rb rn C rbm rnm rcm Cm Bm
      have rb := rb'
      have rn := rn'
      have C := C'
      clear rb' rn' C'
      have rbm := rb.later (below_alloc w7 (.cells #[.int .u8 64, .int .u8 9] 5 (2, 3)))
      have rnm := rn.later (below_alloc w7 (.cells #[.int .u8 64, .int .u8 9] 5 (2, 3)))
      have rs1m := rs1.later (below_alloc w7 (.cells #[.int .u8 64, .int .u8 9] 5 (2, 3)))
      have rcm : Reads _ _ [64, 9] := reads_const w7 [64, 9] (2, 3)
      have Cm := C.trans ((below_alloc w7 (.cells #[.int .u8 64, .int .u8 9] 5 (2, 3))).mono C.size)
      go_wp2_with fail
      refine (join_val _ _ _ _ [64, 9] l S2 s2 _ (by simp) (by omega) rcm rbm).mono ?_
      rintro e w8 ⟨gs2, rfl, rs2, Bm⟩
      have rb' := rbm.later Bm
      have rn' := rnm.later Bm
      have rs1' := rs1m.later Bm
      have C' := Cm.trans (Bm.mono Cm.size)
      clear rb rn rs1 C rbm rnm rs1m rcm Cm Bm
      have rb := rb'
      have rn := rn'
      have rs1 := rs1'
      have C := C'
      clear rb' rn' rs1' C'
      have rbm := rb.later (below_alloc w8 (.cells #[.int .u8 64, .int .u8 64] 5 (2, 3)))
      have rnm := rn.later (below_alloc w8 (.cells #[.int .u8 64, .int .u8 64] 5 (2, 3)))
      have rs1m := rs1.later (below_alloc w8 (.cells #[.int .u8 64, .int .u8 64] 5 (2, 3)))
      have rs2m := rs2.later (below_alloc w8 (.cells #[.int .u8 64, .int .u8 64] 5 (2, 3)))
      have rcm : Reads _ _ [64, 64] := reads_const w8 [64, 64] (2, 3)
      have Cm := C.trans ((below_alloc w8 (.cells #[.int .u8 64, .int .u8 64] 5 (2, 3))).mono C.size)
      go_wp2_with fail
      refine (join_val _ _ _ _ [64, 64] l S3 s3 _ (by simp) (by omega) rcm rbm).mono ?_
      rintro e w9 ⟨gs3, rfl, rs3, Bm⟩
      have rb' := rbm.later Bm
      have rn' := rnm.later Bm
      have rs1' := rs1m.later Bm
      have rs2' := rs2m.later Bm
      have C' := Cm.trans (Bm.mono Cm.size)
      clear rb rn rs1 rs2 C rbm rnm rs1m rs2m rcm Cm Bm
      have rb := rb'
      have rn := rn'
      have rs1 := rs1'
      have rs2 := rs2'
      have C := C'
      clear rb' rn' rs1' rs2' C'
      clear rb
      go_wp2_with fail
      refine (zzDoc_val _ _ S1 true D3.out _ rs1 (Nat.le_refl _) (by have := NL.out; omega)).mono ?_
      rintro e wz ⟨rfl, rfl⟩
      go_wp2_with fail
      refine (join_val _ _ _ _ S1 [10] T1 t1 _ (by have := NL.out; omega) (by simp) rs1 rn).mono ?_
      rintro e w10 ⟨gt1, rfl, rt1, Bm⟩
      have rn' := rn.later Bm
      have rs2' := rs2.later Bm
      have rs3' := rs3.later Bm
      have C' := C.trans (Bm.mono C.size)
      clear rn rs1 rs2 rs3 C Bm
      have rn := rn'
      have rs2 := rs2'
      have rs3 := rs3'
      have C := C'
      clear rn' rs2' rs3' C'
      go_wp2_with fail
      refine (zzDoc_val _ _ T1 true D4.out _ rt1 (Nat.le_refl _) (by have := NL.out; omega)).mono ?_
      rintro e wz ⟨rfl, rfl⟩
      clear rt1
      go_wp2_with fail
      refine (zzDoc_val _ _ S2 true D5.out _ rs2 (Nat.le_refl _) (by have := NL.out; omega)).mono ?_
      rintro e wz ⟨rfl, rfl⟩
      go_wp2_with fail
      refine (join_val _ _ _ _ S2 [10] T2 t2 _ (by have := NL.out; omega) (by simp) rs2 rn).mono ?_
      rintro e w11 ⟨gt2, rfl, rt2, Bm⟩
      have rn' := rn.later Bm
      have rs3' := rs3.later Bm
      have C' := C.trans (Bm.mono C.size)
      clear rn rs2 rs3 C Bm
      have rn := rn'
      have rs3 := rs3'
      have C := C'
      clear rn' rs3' C'
      go_wp2_with fail
      refine (zzDoc_val _ _ T2 true D6.out _ rt2 (Nat.le_refl _) (by have := NL.out; omega)).mono ?_
      rintro e wz ⟨rfl, rfl⟩
      clear rt2
      go_wp2_with fail
      refine (zzDoc_val _ _ S3 false D7.out _ rs3 (Nat.le_refl _) (by have := NL.out; omega)).mono ?_
      rintro e wz ⟨rfl, rfl⟩
      go_wp2_with fail
      refine (join_val _ _ _ _ S3 [10] T3 t3 _ (by have := NL.out; omega) (by simp) rs3 rn).mono ?_
      rintro e w12 ⟨gt3, rfl, rt3, Bm⟩
      have C' := C.trans (Bm.mono C.size)
      clear rn rs3 C Bm
      have C := C'
      clear C'
      go_wp2_with fail
      refine (zzDoc_val _ _ T3 false D8.out _ rt3 (Nat.le_refl _) (by have := NL.out; omega)).mono ?_
      rintro e wz ⟨rfl, rfl⟩
      clear rt3
      go_wp2_with fail
      refine (zzDoc_new _ 1 [64] true doc_one _ (reads_const w12 [64] (1, 2)) (by simp) (by simp)).mono ?_
      rintro e w13 ⟨rfl, B13⟩
      have Ca := C.trans ((below_alloc w12 (.cells #[.int .u8 64] 5 (1, 2))).mono C.size)
      have Cb := Ca.trans (B13.mono Ca.size)
      clear C Ca B13
      go_wp2_with fail
      refine (zzDoc_new _ 3 [64, 13, 10] true doc_crlf1 _ (reads_const w13 [64, 13, 10] (3, 4)) (by simp) (by simp)).mono ?_
      rintro e w14 ⟨rfl, B14⟩
      have Cc := Cb.trans ((below_alloc w13 (.cells #[.int .u8 64, .int .u8 13, .int .u8 10] 5 (3, 4))).mono Cb.size)
      have Cd := Cc.trans (B14.mono Cc.size)
      clear Cb Cc B14
      go_wp2_with fail
      refine (zzDoc_new _ 2 [64, 13] false doc_cr _ (reads_const w14 [64, 13] (2, 3)) (by simp) (by simp)).mono ?_
      rintro e w15 ⟨rfl, B15⟩
      have Ce := Cd.trans ((below_alloc w14 (.cells #[.int .u8 64, .int .u8 13] 5 (2, 3))).mono Cd.size)
      have Cf := Ce.trans (B15.mono Ce.size)
      clear Cd Ce B15
      go_wp2
      go_ret
      exact ⟨rfl, Cf⟩
end Go.Proofs.Qxb6003772a
