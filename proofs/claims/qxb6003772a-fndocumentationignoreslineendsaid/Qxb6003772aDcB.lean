import Derived.Test.Qxb6003772aDcA
namespace Go.Proofs.Qxb6003772a
open Go.RowKit Go.Lib

set_option maxHeartbeats 400000 in
/-- isDocumentation where the body's length is m, its first two bytes x and y. -/
theorem doc_core (ao : Option Addr) (g o n cap m : Nat) (x y : Int) (b : Bool) (w : World) (hm : m ≤ 4000000)
    (ht : Calls Try.prog 28 #[.slice ao n cap, .bool false] w fun e w' => e = .returned (.slice ao m cap) ∧ w' = w)
    (ha : 0 < m → ao = some ⟨g, o, none⟩) (c1 : 0 < m → w.cell? ⟨g, o, none⟩ = some (.int .u8 x)) (c2 : 1 < m → w.cell? ⟨g, o + 1, none⟩ = some (.int .u8 y))
    (h : (m = 0 ∧ b = false) ∨ (0 < m ∧ (x == 64) = false ∧ b = false) ∨ (m = 1 ∧ (x == 64) = true ∧ b = true) ∨ (1 < m ∧ (x == 64) = true ∧ (y == 32) = true ∧ b = true) ∨ (1 < m ∧ (x == 64) = true ∧ (y == 32) = false ∧ (y == 9) = b)) :
    Calls Try.prog 22 #[.slice ao n cap] w fun e w' => e = .returned (.bool b) ∧ w' = w := by
  rcases h with ⟨h0, rfl⟩ | ⟨h0, h1, rfl⟩ | ⟨h0, h1, rfl⟩ | ⟨h0, h1, h2, rfl⟩ | ⟨h0, h1, h2, h3⟩
  · have hd : decide ((0 : Int) < (m : Int)) = false := by simp [h0]
    have hle : (m : Int) ≤ 0 := by omega
    clear h0 ha c1 c2
    go_enter Try.func22, Try.ntmps22
    go_wp2_with (go_at_call 28; refine ht.mono ?_; rintro e w' ⟨rfl, rfl⟩)
    go_ret
    exact ⟨rfl, rfl⟩
  · have k1 := c1 h0
    have hd : decide ((0 : Int) < (m : Int)) = true := by simpa using h0
    have hp : (0 : Int) < (m : Int) := by omega
    rw [ha h0] at ht ⊢
    clear ha c1 c2
    go_enter Try.func22, Try.ntmps22
    go_wp2_with (go_at_call 28; refine ht.mono ?_; rintro e w' ⟨rfl, rfl⟩)
    go_ret
    exact ⟨rfl, rfl⟩
  · have k1 := c1 (by omega)
    have hd : decide ((0 : Int) < (m : Int)) = true := by simp; omega
    have hp : (0 : Int) < (m : Int) := by omega
    have hq : ((m : Int) == 1) = true := by simp; omega
    rw [ha (by omega)] at ht ⊢
    clear ha c1 c2 h0
    go_enter Try.func22, Try.ntmps22
    go_wp2_with (go_at_call 28; refine ht.mono ?_; rintro e w' ⟨rfl, rfl⟩)
    go_ret
    exact ⟨rfl, rfl⟩
  · have k1 := c1 (by omega)
    have k2 := c2 h0
    have hd : decide ((0 : Int) < (m : Int)) = true := by simp; omega
    have hp : (0 : Int) < (m : Int) := by omega
    have hp1 : (1 : Int) < (m : Int) := by omega
    have hq : ((m : Int) == 1) = false := by simp; omega
    rw [ha (by omega)] at ht ⊢
    clear ha c1 c2
    go_enter Try.func22, Try.ntmps22
    go_wp2_with (go_at_call 28; refine ht.mono ?_; rintro e w' ⟨rfl, rfl⟩)
    go_ret
    exact ⟨rfl, rfl⟩
  · have k1 := c1 (by omega)
    have k2 := c2 h0
    have hd : decide ((0 : Int) < (m : Int)) = true := by simp; omega
    have hp : (0 : Int) < (m : Int) := by omega
    have hp1 : (1 : Int) < (m : Int) := by omega
    have hq : ((m : Int) == 1) = false := by simp; omega
    rw [ha (by omega)] at ht ⊢
    clear ha c1 c2
    go_enter Try.func22, Try.ntmps22
    go_wp2_with (go_at_call 28; refine ht.mono ?_; rintro e w' ⟨rfl, rfl⟩)
    go_ret
    exact ⟨rfl, rfl⟩

theorem docBody_take (l : List UInt8) (m : Nat) (hm : m ≤ l.length) :
    docBody (l.take m) = (decide (0 < m) && decide (l.getD 0 0 = 64) && (decide (m = 1) || (decide (1 < m) && decide (l.getD 1 0 = 32)) || (decide (1 < m) && decide (l.getD 1 0 = 9)))) := by
  have hl : (l.take m).length = m := by simp; omega
  unfold docBody
  rw [hl]
  by_cases h0 : m = 0
  · subst h0; simp
  by_cases h1 : m = 1
  · subst h1; simp
  · have e0 : (l.take m).getD 0 0 = l.getD 0 0 := by simp only [List.getD_eq_getElem?_getD, List.getElem?_take]; rw [if_pos (by omega)]
    have e1 : (l.take m).getD 1 0 = l.getD 1 0 := by simp only [List.getD_eq_getElem?_getD, List.getElem?_take]; rw [if_pos (by omega)]
    have : 1 < m := by omega
    rw [e0, e1]; simp [this]

theorem isDoc_any (ao : Option Addr) (cap : Nat) (l : List UInt8) (w : World) (hr : Reads w ao l) (hnc : l.length ≤ cap) (hcap : l.length ≤ 4000000) :
    Calls Try.prog 22 #[.slice ao l.length cap] w fun e w' => e = .returned (.bool (doc l)) ∧ w' = w := by
  have hle := trimLen_le l
  have ht := trim_any ao cap l w hr hnc hcap
  obtain ⟨g, o, ha, hc⟩ : ∃ g o, (0 < trimLen l → ao = some ⟨g, o, none⟩) ∧ ∀ j, j < trimLen l → w.cell? ⟨g, o + j, none⟩ = some (.int .u8 (l.getD j 0).toNat) := by
    rcases hr with h | ⟨g, o, e, hc⟩
    · refine ⟨0, 0, fun h' => ?_, fun j hj => ?_⟩
      · rw [h] at hle h'; simp at hle; omega
      · rw [h] at hle hj; simp at hle; omega
    · exact ⟨g, o, fun _ => e, fun j hj => hc j (by omega)⟩
  refine doc_core ao g o l.length cap (trimLen l) (l.getD 0 0).toNat (l.getD 1 0).toNat (doc l) w (by omega) ht ha (fun h => hc 0 h) (fun h => hc 1 h) ?_
  have b64 := beq_byte (l.getD 0 0) 64 (by decide)
  have b32 := beq_byte (l.getD 1 0) 32 (by decide)
  have b9 := beq_byte (l.getD 1 0) 9 (by decide)
  have hd := docBody_take l (trimLen l) hle
  have hdoc : doc l = docBody (l.take (trimLen l)) := rfl
  rw [hdoc, hd]
  generalize trimLen l = m at *
  by_cases h0 : m = 0
  · exact .inl ⟨h0, by simp [h0]⟩
  by_cases h64 : l.getD 0 0 = 64
  · rw [show (UInt8.ofNat 64) = 64 from rfl, decide_eq_true h64] at b64
    by_cases h1 : m = 1
    · exact .inr (.inr (.inl ⟨h1, b64, by simp only [h1, h64, decide_true, Bool.true_or]; simp⟩))
    · have hm : 1 < m := by omega
      have hm0 : 0 < m := by omega
      by_cases h32 : l.getD 1 0 = 32
      · rw [show (UInt8.ofNat 32) = 32 from rfl, decide_eq_true h32] at b32
        exact .inr (.inr (.inr (.inl ⟨hm, b64, b32, by simp only [h64, h32, hm, hm0, decide_true, Bool.and_self, Bool.or_true, Bool.true_or]⟩)))
      · rw [show (UInt8.ofNat 32) = 32 from rfl, decide_eq_false h32] at b32
        refine .inr (.inr (.inr (.inr ⟨hm, b64, b32, ?_⟩)))
        rw [show ((9 : Int)) = ((9 : Nat) : Int) from rfl, b9]
        simp only [h64, h32, hm, hm0, h1, decide_true, decide_false, Bool.and_self, Bool.false_or, Bool.true_and, Bool.and_false]
        rfl
  · rw [show (UInt8.ofNat 64) = 64 from rfl, decide_eq_false h64] at b64
    exact .inr (.inl ⟨by omega, b64, by simp only [h64, decide_false, Bool.and_false, Bool.false_and]⟩)

theorem zzDoc_any (ao : Option Addr) (cap : Nat) (l : List UInt8) (w : World) (hr : Reads w ao l) (hnc : l.length ≤ cap) (hcap : l.length ≤ 4000000) :
    Calls Try.prog 13 #[.slice ao l.length cap] w fun e w' => e = .returned (.bool (doc l)) ∧ w' = w := by
  have h := isDoc_any ao cap l w hr hnc hcap
  go_enter Try.func13, Try.ntmps13
  go_wp2_with (go_at_call 22; refine h.mono ?_; rintro e w' ⟨rfl, rfl⟩)
  go_ret
  exact ⟨rfl, rfl⟩
end Go.Proofs.Qxb6003772a
