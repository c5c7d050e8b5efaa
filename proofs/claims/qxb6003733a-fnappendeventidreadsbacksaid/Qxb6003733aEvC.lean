import Derived.Test.Qxb6003733aEvB
namespace Go.Proofs.Qxb6003733a
open Go.RowKit Go.Lib

theorem ret_bool {a b : Bool} (h : a = b) : Ending.returned (.bool a) = .returned (.bool b) := by rw [h]

/-- A slice's bytes lie in memory from its address on. -/
def Reads (w : World) (ao : Option Addr) (l : List UInt8) : Prop :=
  l = [] ∨ ∃ g o, ao = some ⟨g, o, none⟩ ∧ ∀ j, j < l.length → w.cell? ⟨g, o + j, none⟩ = some (.int .u8 (l.getD j 0).toNat)

theorem take_snoc' {l l' : List UInt8} {k : Nat} (hk : k < l.length) (hk' : k < l'.length) (h : l.take k = l'.take k) (e : l.getD k 0 = l'.getD k 0) : l.take (k + 1) = l'.take (k + 1) := by
  have e1 : l[k] = l'[k] := by simpa [hk, hk'] using e
  rw [List.take_succ_eq_append_getElem hk, List.take_succ_eq_append_getElem hk', h, e1]

set_option maxHeartbeats 400000 in
theorem sameBytes_any (ao bo : Option Addr) (ca cb : Nat) (l l' : List UInt8) (w : World) (hl : l.length ≤ 4000000) (hl' : l'.length ≤ 4000000) (h : Reads w ao l) (h' : Reads w bo l') :
    Calls Try.prog 13 #[.slice ao l.length ca, .slice bo l'.length cb] w fun e w' => e = .returned (.bool (l == l')) ∧ ∃ d, w' = w.drewN d := by
  by_cases hlen : l.length = l'.length
  · by_cases h0 : l.length = 0
    · have e1 : l = [] := List.eq_nil_of_length_eq_zero h0
      have e2 : l' = [] := List.eq_nil_of_length_eq_zero (by omega)
      subst e1 e2
      go_enter Try.func13, Try.ntmps13
      go_wp2
      refine wp_loop_rounds 1 ?_; rw [rounds_succ]
      go_wp2
      go_ret
      exact ⟨rfl, 0, rfl⟩
    · rcases h with h | ⟨g, o, rfl, hc⟩
      · simp [h] at h0
      rcases h' with h' | ⟨g', o', rfl, hc'⟩
      · rw [h'] at hlen; simp at hlen; rw [hlen] at h0; simp at h0
      generalize hn : l.length = n at *
      generalize hn' : l'.length = n' at *
      subst hlen
      have HN : Hid (l.length = n) := hn
      have HN' : Hid (l'.length = n) := hn'
      clear hn hn'
      go_enter Try.func13, Try.ntmps13
      go_wp2
      go_loopw [5] (fun i wr => ∃ k d : Nat, k ≤ n ∧ i = .int .i64 k ∧ l.take k = l'.take k ∧ wr = w.drewN d) (fun i _ => n - (intOf i).toNat)
      case atStart => exact ⟨0, 0, by omega, rfl, by simp, rfl⟩
      case round =>
        obtain ⟨k, d, hk, rfl, htk, rfl⟩ := hrel
        have HT : Hid (l.take k = l'.take k) := htk
        clear htk
        by_cases hlt : k < n
        · have c1 := hc k hlt
          have c2 := hc' k hlt
          have hlt' : (k : Int) < (n : Int) := by omega
          clear hc hc'
          by_cases he : l.getD k 0 = l'.getD k 0
          · have HE : Hid (l.getD k 0 = l'.getD k 0) := he
            rw [← he] at c2
            clear he
            go_wp2
            go_quiet (fail)
            go_wp2
            go_roundw
            case rel => exact ⟨k + 1, d + nq, by omega, by go_num, take_snoc' (by rw [HN.out]; exact hlt) (by rw [HN'.out]; exact hlt) HT.out HE.out, rfl⟩
            case measure => simp [intOf]; omega
          · have hb : (((l[k]?.getD 0).toNat : Int) != ((l'[k]?.getD 0).toNat : Int)) = true := by
              simp only [bne_iff_ne, ne_eq]; intro h; apply he; apply UInt8.toNat_inj.1; simp only [List.getD_eq_getElem?_getD]; omega
            have hf : (l == l') = false := by
              rw [beq_eq_false_iff_ne]; intro h; exact he (by rw [h])
            clear he
            have HF : Hid ((l == l') = false) := hf
            clear hf
            go_wp2
            go_quiet (fail)
            go_wp2
            go_ret
            exact ⟨ret_bool HF.out.symm, d + nq, by simp⟩
        · have hkn : k = n := by omega
          have hf : (l == l') = true := by
            rw [beq_iff_eq]
            have e := HT.out
            rwa [List.take_of_length_le (by rw [HN.out]; omega), List.take_of_length_le (by rw [HN'.out]; omega)] at e
          clear hc hc' hkn
          have HF : Hid ((l == l') = true) := hf
          clear hf
          go_wp2
          go_ret
          exact ⟨ret_bool HF.out.symm, d, rfl⟩
  · have hf : (l == l') = false := by
      rw [beq_eq_false_iff_ne]; intro h; exact hlen (by rw [h])
    have HF : Hid ((l == l') = false) := hf
    clear hf
    have hb : ((l.length : Int) != (l'.length : Int)) = true := by simp only [bne_iff_ne, ne_eq]; omega
    go_enter Try.func13, Try.ntmps13
    go_wp2
    go_ret
    exact ⟨ret_bool HF.out.symm, 0, rfl⟩
end Go.Proofs.Qxb6003733a
