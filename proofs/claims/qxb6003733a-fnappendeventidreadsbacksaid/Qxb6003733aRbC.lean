import Derived.Test.Qxb6003733aRbB
import Derived.Deep.LoopGhost
namespace Go.Proofs.Qxb6003733a
open Go.RowKit Go.Lib

/-- The parts of what was built, in memory: the prefix, the four bytes, the trimmed id, the digits. -/
theorem parts_of {w : World} {g : Nat} {l : List UInt8} {t : ByteArray} {q : Int} (h : ∀ j, j < (l ++ idB t q).length → w.cell? ⟨g, j, none⟩ = some (.int .u8 ((l ++ idB t q).getD j 0).toNat)) :
    (∀ j, j < l.length → w.cell? ⟨g, 0 + j, none⟩ = some (.int .u8 (l.getD j 0).toNat)) ∧
    (∀ j, j < 4 → w.cell? ⟨g, l.length + j, none⟩ = some (.int .u8 (([101, 118, 116, 95] : List UInt8).getD j 0).toNat)) ∧
    (∀ j, j < t.data.toList.length → w.cell? ⟨g, l.length + 4 + j, none⟩ = some (.int .u8 (t.data.toList.getD j 0).toNat)) ∧
    (∀ j, j < 16 → w.cell? ⟨g, l.length + 4 + t.size + j, none⟩ = some (.int .u8 (hexc (nib (uq q) j)).toNat)) := by
  have hs : t.data.toList.length = t.size := by rw [Array.length_toList]; rfl
  have hL : (l ++ idB t q).length = l.length + (4 + t.size + 16) := by rw [List.length_append, idB_length]
  refine ⟨fun j hj => ?_, fun j hj => ?_, fun j hj => ?_, fun j hj => ?_⟩
  · rw [Nat.zero_add, h j (by omega)]
    congr 4
    simp only [List.getD_eq_getElem?_getD]
    rw [List.getElem?_append_left hj]
  · rw [h _ (by omega)]
    congr 4
    simp only [List.getD_eq_getElem?_getD]
    rw [List.getElem?_append_right (by omega), idB, List.append_assoc, List.getElem?_append_left (by simp; omega)]
    congr 2; omega
  · rw [h _ (by omega)]
    congr 4
    simp only [List.getD_eq_getElem?_getD]
    rw [List.getElem?_append_right (by omega), idB, List.append_assoc, List.getElem?_append_right (by simp; omega), List.getElem?_append_left (by simp; omega)]
    congr 2; simp; omega
  · rw [h _ (by omega)]
    congr 4
    simp only [List.getD_eq_getElem?_getD]
    rw [List.getElem?_append_right (by omega), idB, List.getElem?_append_right (by simp; omega)]
    have e : l.length + 4 + t.size + j - l.length - ([101, 118, 116, 95] ++ t.data.toList : List UInt8).length = j := by simp; omega
    rw [e, hexL_at _ _ _ hj]
    rfl

/-- One digit more is read: the digits so far, shifted, and the new one. -/
theorem shift_or (q : Int) (k : Nat) (hk : k < 16) : bits BinOp.or IntKind.u64 (IntKind.u64.wrap ((uq q : Int) / 2 ^ (64 - 4 * k) * 16)) (nib (uq q) k : Int) = ((uq q / 2 ^ (64 - 4 * (k + 1)) : Nat) : Int) := by
  have hst := nib_step (uq q) k hk
  have hle : uq q / 2 ^ (60 - 4 * k) < 18446744073709551616 := Nat.lt_of_le_of_lt (Nat.div_le_self _ _) (uq_lt q)
  have hn := nib_lt (uq q) k
  have e : ((uq q : Int) / 2 ^ (64 - 4 * k) * 16) = ((uq q / 2 ^ (64 - 4 * k) * 16 : Nat) : Int) := by simp
  rw [e, IntKind.wrap_u64, show (((uq q / 2 ^ (64 - 4 * k) * 16 : Nat) : Int) % 18446744073709551616) = ((uq q / 2 ^ (64 - 4 * k) * 16 : Nat) : Int) by omega,
    u64_or_nat _ _ (by omega) (by omega), nat_join 4 _ _ (by omega) (by omega), show 64 - 4 * (k + 1) = 60 - 4 * k by omega, hst]
  congr 1
  omega

set_option maxHeartbeats 1000000 in
theorem rb_walk (ao : Option Addr) (cap : Nat) (l : List UInt8) (s : ByteArray) (q : Int) (w : World) (hin : Inp w ao l) (hcap : ao = none → cap = 0) (hs : s.size ≤ maxLen) (hsz : l.length + s.size ≤ 1048576) :
    Calls Try.prog 4 #[.slice ao l.length cap, .string s, .int .i64 q] w fun e w' => e = .returned (.bool true) ∧ Below w.heap.size w w' := by
  have hd : decide (l.length + s.size ≤ 1048576) = true := by simpa using hsz
  have ta := trimS_size s
  have hl : l.length ≤ maxLen := by unfold maxLen; omega
  have h25 : decide ((1048576 : Int) < (l.length : Int) + (s.size : Int)) = false := by simp; omega
  have e59 : l.length + 4 - l.length = 4 := by omega
  have e70 : l.length + 4 + (trimS s).size - (l.length + 4) = (trimS s).size := by omega
  go_enter Try.func4, Try.ntmps4
  go_wp2_with (first | (go_at_call 9; refine (sizes_rb _ _ _ _ _ _ hl hs).mono ?_; rintro e w' ⟨rfl, rfl⟩))
  refine (clone_uni _ _ l _ (by omega) hin hcap).mono ?_
  rintro e w1 ⟨bo, bc, rfl, hc1, hb1⟩
  go_wp2_with fail
  refine (clone_uni _ _ l _ (by omega) hc1.inp hc1.cap).mono ?_
  rintro e w2 ⟨oo, oc, rfl, hc2, hb2⟩
  have hc1' := hc1.below hb2
  go_wp2_with fail
  refine (zzAppendID_any _ l.length (bv l) _ _ _ hs (by omega) (hc1'.first (by omega))).mono ?_
  rintro e w3 ⟨v3, rfl, ho3, hb3⟩
  rw [← bv_append] at ho3
  obtain ⟨g, cp, rfl, hcp, hcm, hBg, hgl, hcl⟩ := own_out ho3 (by omega)
  have hc3 := (hc2.below hb3).reads
  obtain ⟨p1, p2, p3, p4⟩ := parts_of hcl
  have hb := hb1.trans ((hb2.mono hb1.size).trans (hb3.mono (Nat.le_trans hb1.size hb2.size)))
  clear hcl ho3 hc1 hc2 hc1' hb1 hb2 hb3
  go_wp2_with (first | (go_at_call 12; refine (zzTrimSub_any _ _ hs).mono ?_; rintro e w' ⟨rfl, rfl⟩))

  refine (sameBytes_any _ _ _ _ l l _ (by omega) (by omega) (.inr ⟨g, 0, rfl, p1⟩) hc3).mono ?_
  rintro e w4 ⟨rfl, d, rfl⟩
  have hC1 : ∀ c, (convert 27 9 (.slice (some ⟨g, l.length, none⟩) 4 c)).run Try.prog (w'.drewN d) = .ok (.string ⟨#[101, 118, 116, 95]⟩) (w'.drewN d) :=
    fun c => conv_bytes _ _ _ c [101, 118, 116, 95] fun j hj => p2 j hj
  have hC2 : ∀ c, (convert 27 9 (.slice (some ⟨g, l.length + 4, none⟩) (trimS s).size c)).run Try.prog (w'.drewN d) = .ok (.string (trimS s)) (w'.drewN d) := by
    intro c
    have h := conv_bytes (w'.drewN d) g (l.length + 4) c (trimS s).data.toList fun j hj => p3 j hj
    have e1 : (trimS s).data.toList.length = (trimS s).size := by rw [Array.length_toList]; rfl
    rw [e1] at h
    rw [h]
  clear p2 p3 hc3
  go_wp2
  clear hC1 hC2
  simp only [e59, e70]
  clear e59 e70 h25
  go_loopg [11, 12] 16 (fun m v i wr => ∃ k : Nat, k + m = 16 ∧ i = .int .i64 k ∧ v = .int .u64 ((uq q / 2 ^ (64 - 4 * k) : Nat) : Int) ∧ wr = w'.drewN d)
  case atStart => exact ⟨0, by omega, rfl, by rw [Nat.div_eq_of_lt (uq_lt q)]; rfl, rfl⟩
  case round =>
    obtain ⟨k, hk, rfl, rfl, rfl⟩ := hrel
    have HK : Hid (k + gk = 16) := hk
    clear hk
    by_cases hlt : k < 16
    · have hlt' : (k : Int) < 16 := by omega
      have c1 := p4 k hlt
      clear p4
      have hnl := nib_lt (uq q) k
      go_wp2_with (go_at_call 14; refine (hex_any _ hnl _).mono ?_; rintro e w5 ⟨rfl, rfl⟩)
      go_roundg (gk - 1)
      case measure => have := HK.out; omega
      case rel =>
        refine ⟨k + 1, by have := HK.out; omega, by go_num, ?_, rfl⟩
        rw [shift_or q k hlt]
    · have hk16 : k = 16 := by have := HK.out; omega
      subst hk16
      have hz : ((uq q / 2 ^ (64 - 4 * 16) : Nat) : Int) = (uq q : Int) := by simp
      rw [hz]
      have hw := uq_cast q
      have he : ((uq q : Int) == IntKind.u64.wrap q) = true := by rw [hw]; simp
      clear hz p4
      go_wp2
      go_ret
      exact ⟨rfl, below_drewN hb _⟩

theorem rb_walk_long (ao : Option Addr) (n cap : Nat) (s : ByteArray) (q : Int) (w : World) (hn : n ≤ maxLen) (hs : s.size ≤ maxLen) (hsz : ¬ n + s.size ≤ 1048576) :
    Calls Try.prog 4 #[.slice ao n cap, .string s, .int .i64 q] w fun e w' => e = .returned (.bool true) ∧ Below w.heap.size w w' := by
  have hd : decide (n + s.size ≤ 1048576) = false := by simpa using hsz
  clear hsz
  go_enter Try.func4, Try.ntmps4
  go_wp2_with (first | (go_at_call 9; refine (sizes_rb _ _ _ _ _ _ hn hs).mono ?_; rintro e w' ⟨rfl, rfl⟩))
  go_ret
  exact ⟨rfl, Below.refl _ _⟩

/-- The whole law, of a slice as it comes in. -/
theorem rb_all (a0 : Option Addr) (len0 cap0 : Nat) (z0 : List Int) (s : ByteArray) (q : Int) (w : World) (hs : s.size ≤ maxLen)
    (h : (a0 = none ∧ len0 = 0 ∧ cap0 = 0 ∧ z0 = []) ∨ ∃ x, a0 = some x ∧ len0 ≤ cap0 ∧ cap0 ≤ maxLen ∧ z0.length = cap0 ∧ (∀ i, i < z0.length → w.cell? (x.add i) = some (.int .u8 (z0.getD i 0))) ∧ ∀ n ∈ z0, 0 ≤ n ∧ n ≤ 255) :
    Calls Try.prog 4 #[.slice a0 len0 cap0, .string s, .int .i64 q] w fun e w' => e = .returned (.bool true) ∧ Below w.heap.size w w' := by
  by_cases hsz : len0 + s.size ≤ 1048576
  · obtain ⟨l, hl, hin, hcap⟩ : ∃ l : List UInt8, l.length = len0 ∧ Inp w a0 l ∧ (a0 = none → cap0 = 0) := by
      rcases h with ⟨rfl, rfl, rfl, _⟩ | ⟨x, rfl, h1, h2, h3, h4, h5⟩
      · exact ⟨[], rfl, .inl ⟨rfl, rfl⟩, fun _ => rfl⟩
      · obtain ⟨l, hl, hr⟩ := bytes_of_row (len := len0) (by omega) h4 h5
        exact ⟨l, hl, .inr ⟨x, rfl, hr⟩, fun h => by cases h⟩
    subst hl
    exact rb_walk a0 cap0 l s q w hin hcap hs hsz
  · have hn : len0 ≤ maxLen := by
      rcases h with ⟨_, rfl, _⟩ | ⟨x, _, h1, h2, _⟩
      · exact Nat.zero_le _
      · exact Nat.le_trans h1 h2
    exact rb_walk_long a0 len0 cap0 s q w hn hs hsz
end Go.Proofs.Qxb6003733a
