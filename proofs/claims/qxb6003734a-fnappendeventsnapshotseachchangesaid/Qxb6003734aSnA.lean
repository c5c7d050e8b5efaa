import Derived.Test.Qxb6003734aChecked
import Derived.WalkKit
import Derived.WalkSpells
namespace Go.Proofs.Qxb6003734a
open Go.RowKit

/-- Does the string open with the four bytes of the prefix? -/
def hasSub (s : ByteArray) : Bool := decide (4 ≤ s.size) && ((s.extract 0 4).toList == [115, 117, 98, 95])
/-- The string without that prefix. -/
def trimS (s : ByteArray) : ByteArray := if hasSub s then s.extract 4 s.size else s

theorem ret_string {a b : ByteArray} (h : a = b) : Ending.returned (.string a) = .returned (.string b) := by rw [h]

theorem trimS_yes {s : ByteArray} (h4 : 4 ≤ s.size) (h : ((s.extract 0 4).toList == [115, 117, 98, 95]) = true) : s.extract 4 s.size = trimS s := by
  unfold trimS; rw [if_pos (by simp only [hasSub, h, h4, decide_true, Bool.and_self])]
theorem trimS_no {s : ByteArray} (h : ((s.extract 0 4).toList == [115, 117, 98, 95]) = false) : s = trimS s := by
  unfold trimS; rw [if_neg (by simp only [hasSub, h, Bool.and_false]; simp)]
theorem trimS_short {s : ByteArray} (h : ¬ 4 ≤ s.size) : s = trimS s := by
  unfold trimS; rw [if_neg (by simp only [hasSub, h, decide_false, Bool.false_and]; simp)]

theorem four_list (l : List UInt8) (h : 4 ≤ l.length) : l.take 4 = [l[0], l[1], l[2], l[3]] := by
  match l, h with
  | a :: b :: c :: d :: r, _ => rfl
  | [], h => simp at h
  | [_], h => simp at h
  | [_, _], h => simp at h
  | [_, _, _], h => simp at h

theorem first4 {s : ByteArray} (h4 : 4 ≤ s.size) : (s.extract 0 4).toList = [s[0], s[1], s[2], s[3]] := by
  have hl : 4 ≤ s.data.toList.length := by simpa using h4
  have e : (s.extract 0 4).toList = s.data.toList.take 4 := by
    rw [ByteArray.toList_eq, ByteArray.data_extract]; simp
  rw [e, four_list _ hl]
  rfl

theorem byte_of {a : UInt8} {n : Nat} (h : (a.toNat : Int) = (n : Int)) (hn : n < 256) : a = UInt8.ofNat n := by
  apply UInt8.toNat_inj.1
  have : a.toNat = n := by omega
  rw [this, UInt8.toNat_ofNat', Nat.mod_eq_of_lt hn]
theorem byte_ne {a : UInt8} {n : Nat} (h : ¬ (a.toNat : Int) = (n : Int)) (hn : n < 256) : a ≠ UInt8.ofNat n := by
  intro e; apply h; rw [e, UInt8.toNat_ofNat', Nat.mod_eq_of_lt hn]

theorem trimS_bytes {s : ByteArray} (h4 : 4 ≤ s.size) (e0 : (s[0].toNat : Int) = 115) (e1 : (s[1].toNat : Int) = 117) (e2 : (s[2].toNat : Int) = 98) (e3 : ((s[3].toNat : Int) == 95) = true) : s.extract 4 s.size = trimS s := by
  refine trimS_yes h4 ?_
  rw [first4 h4, byte_of (n := 115) e0 (by decide), byte_of (n := 117) e1 (by decide), byte_of (n := 98) e2 (by decide), byte_of (a := s[3]) (n := 95) (by simpa using e3) (by decide)]
  decide
theorem trimS_ne0 {s : ByteArray} (h4 : 4 ≤ s.size) (e : ¬ (s[0].toNat : Int) = 115) : s = trimS s := by
  refine trimS_no ?_
  have := byte_ne (n := 115) e (by decide)
  rw [first4 h4]; simp; intro h; exact absurd h this
theorem trimS_ne1 {s : ByteArray} (h4 : 4 ≤ s.size) (e : ¬ (s[1].toNat : Int) = 117) : s = trimS s := by
  refine trimS_no ?_
  have := byte_ne (n := 117) e (by decide)
  rw [first4 h4]; simp; intro _ h; exact absurd h this
theorem trimS_ne2 {s : ByteArray} (h4 : 4 ≤ s.size) (e : ¬ (s[2].toNat : Int) = 98) : s = trimS s := by
  refine trimS_no ?_
  have := byte_ne (n := 98) e (by decide)
  rw [first4 h4]; simp; intro _ _ h; exact absurd h this
theorem trimS_ne3 {s : ByteArray} (h4 : 4 ≤ s.size) (e : ((s[3].toNat : Int) == 95) = false) : s = trimS s := by
  refine trimS_no ?_
  have := byte_ne (n := 95) (a := s[3]) (by simpa using e) (by decide)
  rw [first4 h4]; simp; intro _ _ _ h; exact absurd h this

theorem trimS_size (s : ByteArray) : (trimS s).size ≤ s.size := by
  unfold trimS; split
  · simp
  · exact Nat.le_refl _

/-- strings.TrimPrefix at the prefix "sub_". -/
theorem trimPrefix_any (s : ByteArray) (w : World) (hs : s.size ≤ maxLen) :
    Calls Try.prog 52 #[.string s, .string ⟨#[115, 117, 98, 95]⟩] w fun e w' => e = .returned (.string (trimS s)) ∧ w' = w := by
  unfold maxLen at hs
  by_cases h4 : 4 ≤ s.size
  · go_enter Try.func52, Try.ntmps52
    go_wp2
    · have h1 : ((s.extract 0 4).toList == [115, 117, 98, 95]) = true := by assumption
      go_ret
      exact ⟨ret_string (trimS_yes h4 h1), rfl⟩
    · have h1 : ((s.extract 0 4).toList == [115, 117, 98, 95]) = false := by assumption
      go_ret
      exact ⟨ret_string (trimS_no h1), rfl⟩
  · go_enter Try.func52, Try.ntmps52
    go_wp2
    go_ret
    exact ⟨ret_string (trimS_short h4), rfl⟩

end Go.Proofs.Qxb6003734a
