import Derived.Test.Qxb6003772aChecked
import Derived.WalkKit
import Derived.WalkSpells
import Derived.BigQuiet
import Derived.Deep.QuietTactic
import Derived.Lib.SlBytesConst
namespace Go.Proofs.Qxb6003772a
open Go.RowKit Go.Lib

theorem ret_bool {a b : Bool} (h : a = b) : Ending.returned (.bool a) = .returned (.bool b) := by rw [h]

/-- TrimEOL at an empty line. -/
theorem trim_empty (ao : Option Addr) (cap : Nat) (w : World) :
    Calls Try.prog 28 #[.slice ao 0 cap, .bool false] w fun e w' => e = .returned (.slice ao 0 cap) ∧ w' = w := by
  go_enter Try.func28, Try.ntmps28
  go_wp2
  go_ret
  exact ⟨rfl, rfl⟩

/-- TrimEOL where the last byte is x, the one ahead of it y. -/
theorem trim_core (g o n cap m : Nat) (x y : Int) (w : World) (hn : 0 < n) (hnc : n ≤ cap) (hcap : n ≤ 4000000)
    (c1 : w.cell? ⟨g, o + (n - 1), none⟩ = some (.int .u8 x)) (c2 : 1 < n → w.cell? ⟨g, o + (n - 1 - 1), none⟩ = some (.int .u8 y))
    (h : ((x == 10) = false ∧ m = n ∧ True) ∨ ((x == 10) = true ∧ n = 1 ∧ m = n - 1) ∨ ((x == 10) = true ∧ 1 < n ∧ ((y == 13) = false ∧ m = n - 1)) ∨ ((x == 10) = true ∧ 1 < n ∧ ((y == 13) = true ∧ m = n - 1 - 1))) :
    Calls Try.prog 28 #[.slice (some ⟨g, o, none⟩) n cap, .bool false] w fun e w' => e = .returned (.slice (some ⟨g, o, none⟩) m cap) ∧ w' = w := by
  have hp : (0 : Int) < (n : Int) := by omega
  have hpd : decide ((0 : Int) < (n : Int)) = true := by simpa using hp
  rcases h with ⟨h1, rfl, _⟩ | ⟨h1, h2, rfl⟩ | ⟨h1, h2, h3, rfl⟩ | ⟨h1, h2, h3, rfl⟩
  · go_enter Try.func28, Try.ntmps28
    go_wp2
    go_ret
    exact ⟨rfl, rfl⟩
  · have hle : (n : Int) ≤ 1 := by omega
    have hq : decide ((1 : Int) < (n : Int)) = false := by simp; omega
    clear h2 c2
    go_enter Try.func28, Try.ntmps28
    go_wp2
    go_ret
    exact ⟨rfl, rfl⟩
  · have k2 := c2 h2
    have hq : decide ((0 : Int) < (n : Int) - 1) = true := by simp; omega
    go_enter Try.func28, Try.ntmps28
    go_wp2
    go_ret
    exact ⟨rfl, rfl⟩
  · have k2 := c2 h2
    have hq : decide ((0 : Int) < (n : Int) - 1) = true := by simp; omega
    go_enter Try.func28, Try.ntmps28
    go_wp2
    go_ret
    exact ⟨rfl, rfl⟩

/-- A slice's bytes lie in memory from its address on. -/
def Reads (w : World) (ao : Option Addr) (l : List UInt8) : Prop :=
  l = [] ∨ ∃ g o, ao = some ⟨g, o, none⟩ ∧ ∀ j, j < l.length → w.cell? ⟨g, o + j, none⟩ = some (.int .u8 (l.getD j 0).toNat)

theorem Reads.later {w w' : World} {ao : Option Addr} {l : List UInt8} (h : Reads w ao l) (hb : Below w.heap.size w w') : Reads w' ao l := by
  rcases h with h | ⟨g, o, e, hc⟩
  · exact .inl h
  · exact .inr ⟨g, o, e, fun j hj => cell_later hb (hc j hj)⟩

/-- A line's length without its end. -/
def trimLen (l : List UInt8) : Nat :=
  if 0 < l.length ∧ l.getD (l.length - 1) 0 = 10 then (if 1 < l.length ∧ l.getD (l.length - 1 - 1) 0 = 13 then l.length - 1 - 1 else l.length - 1) else l.length
theorem trimLen_le (l : List UInt8) : trimLen l ≤ l.length := by unfold trimLen; split <;> (try split) <;> omega

theorem beq_byte (a : UInt8) (n : Nat) (hn : n < 256) : ((a.toNat : Int) == (n : Int)) = decide (a = UInt8.ofNat n) := by
  rw [Bool.eq_iff_iff]
  simp only [beq_iff_eq, decide_eq_true_eq]
  constructor
  · intro h; apply UInt8.toNat_inj.1; rw [UInt8.toNat_ofNat', Nat.mod_eq_of_lt hn]; omega
  · rintro rfl; rw [UInt8.toNat_ofNat', Nat.mod_eq_of_lt hn]

theorem trim_any (ao : Option Addr) (cap : Nat) (l : List UInt8) (w : World) (hr : Reads w ao l) (hnc : l.length ≤ cap) (hcap : l.length ≤ 4000000) :
    Calls Try.prog 28 #[.slice ao l.length cap, .bool false] w fun e w' => e = .returned (.slice ao (trimLen l) cap) ∧ w' = w := by
  by_cases h0 : l.length = 0
  · have e : l = [] := List.eq_nil_of_length_eq_zero h0
    subst e
    exact trim_empty ao cap w
  · rcases hr with h | ⟨g, o, rfl, hc⟩
    · simp [h] at h0
    · refine trim_core g o l.length cap (trimLen l) (l.getD (l.length - 1) 0).toNat (l.getD (l.length - 1 - 1) 0).toNat w (by omega) hnc hcap (hc _ (by omega)) (fun _ => hc _ (by omega)) ?_
      have b10 := beq_byte (l.getD (l.length - 1) 0) 10 (by decide)
      have b13 := beq_byte (l.getD (l.length - 1 - 1) 0) 13 (by decide)
      by_cases h1 : l.getD (l.length - 1) 0 = 10
      · rw [show (UInt8.ofNat 10) = 10 from rfl, decide_eq_true h1] at b10
        by_cases h2 : 1 < l.length
        · by_cases h3 : l.getD (l.length - 1 - 1) 0 = 13
          · rw [show (UInt8.ofNat 13) = 13 from rfl, decide_eq_true h3] at b13
            exact .inr (.inr (.inr ⟨b10, h2, b13, by unfold trimLen; rw [if_pos ⟨by omega, h1⟩, if_pos ⟨h2, h3⟩]⟩))
          · rw [show (UInt8.ofNat 13) = 13 from rfl, decide_eq_false h3] at b13
            exact .inr (.inr (.inl ⟨b10, h2, b13, by unfold trimLen; rw [if_pos ⟨by omega, h1⟩, if_neg (fun h => h3 h.2)]⟩))
        · exact .inr (.inl ⟨b10, by omega, by unfold trimLen; rw [if_pos ⟨by omega, h1⟩, if_neg (fun h => h2 h.1)]⟩)
      · rw [show (UInt8.ofNat 10) = 10 from rfl, decide_eq_false h1] at b10
        exact .inl ⟨b10, by unfold trimLen; rw [if_neg (fun h => h1 h.2)], trivial⟩

/-- Does a body start documentation? -/
def docBody (l : List UInt8) : Bool := decide (0 < l.length) && decide (l.getD 0 0 = 64) && (decide (l.length = 1) || decide (l.getD 1 0 = 32) || decide (l.getD 1 0 = 9))
def doc (l : List UInt8) : Bool := docBody (l.take (trimLen l))
end Go.Proofs.Qxb6003772a
