import Derived.Laws.BitsAllLaws
import Derived.Lib.AppendStr
namespace Go.Proofs.Qxb6003734a
open Go.Lib

/-- uint64(seq). -/
def uq (q : Int) : Nat := (IntKind.u64.wrap q).toNat
/-- The k-th hex digit from the left, of sixteen. -/
def nib (u k : Nat) : Nat := u / 2 ^ (60 - 4 * k) % 16
/-- A hex digit's letter. -/
def hexc (d : Nat) : UInt8 := [48, 49, 50, 51, 52, 53, 54, 55, 56, 57, 97, 98, 99, 100, 101, 102].getD d 0
def hexL (q : Int) (k : Nat) : List UInt8 := (List.range k).map fun j => hexc (nib (uq q) j)
/-- Bytes as cells. -/
def bv (l : List UInt8) : List Value := l.map fun b => Value.int .u8 b.toNat

theorem uq_cast (q : Int) : IntKind.u64.wrap q = (uq q : Int) := by
  unfold uq; rw [IntKind.wrap_u64]; omega
theorem uq_lt (q : Int) : uq q < 2 ^ 64 := by
  have := uq_cast q; rw [IntKind.wrap_u64] at this; omega
theorem uq_inj {q q' : Int} (h : uq q = uq q') (h1 : -9223372036854775808 ≤ q) (h2 : q ≤ 9223372036854775807) (h3 : -9223372036854775808 ≤ q') (h4 : q' ≤ 9223372036854775807) : q = q' := by
  have a := uq_cast q; have b := uq_cast q'; rw [IntKind.wrap_u64] at a b; omega
theorem nib_lt (u k : Nat) : nib u k < 16 := Nat.mod_lt _ (by decide)
theorem nib_and (q : Int) (k : Nat) : bits BinOp.and IntKind.u64 (IntKind.u64.wrap q / 2 ^ (60 - 4 * k)) 15 = (nib (uq q) k : Int) := by
  have e : (IntKind.u64.wrap q / 2 ^ (60 - 4 * k) : Int) = ((uq q / 2 ^ (60 - 4 * k) : Nat) : Int) := by
    rw [uq_cast]; simp
  have hl : uq q / 2 ^ (60 - 4 * k) < 18446744073709551616 := Nat.lt_of_le_of_lt (Nat.div_le_self _ _) (uq_lt q)
  rw [e, show (15 : Int) = ((15 : Nat) : Int) from rfl, u64_and_nat _ 15 hl (by decide)]
  have := Nat.and_two_pow_sub_one_eq_mod (uq q / 2 ^ (60 - 4 * k)) 4
  unfold nib
  rw [show (15 : Nat) = 2 ^ 4 - 1 from rfl, this]
theorem hexc_at (d : Nat) (hd : d < 16) (h : d < (ByteArray.mk #[48, 49, 50, 51, 52, 53, 54, 55, 56, 57, 97, 98, 99, 100, 101, 102]).size) :
    (ByteArray.mk #[48, 49, 50, 51, 52, 53, 54, 55, 56, 57, 97, 98, 99, 100, 101, 102])[d]'h = hexc d := by
  rcases (show d = 0 ∨ d = 1 ∨ d = 2 ∨ d = 3 ∨ d = 4 ∨ d = 5 ∨ d = 6 ∨ d = 7 ∨ d = 8 ∨ d = 9 ∨ d = 10 ∨ d = 11 ∨ d = 12 ∨ d = 13 ∨ d = 14 ∨ d = 15 by omega) with rfl | rfl | rfl | rfl | rfl | rfl | rfl | rfl | rfl | rfl | rfl | rfl | rfl | rfl | rfl | rfl <;> rfl
theorem hexc_inj : ∀ d, d < 16 → ∀ e, e < 16 → hexc d = hexc e → d = e := by decide +kernel

theorem nib_step (u k : Nat) (hk : k < 16) : u / 2 ^ (60 - 4 * k) = 16 * (u / 2 ^ (64 - 4 * k)) + nib u k := by
  unfold nib
  have e : 2 ^ (64 - 4 * k) = 2 ^ (60 - 4 * k) * 16 := by
    rw [show (16 : Nat) = 2 ^ 4 from rfl, ← Nat.pow_add]; congr 1; omega
  rw [e, ← Nat.div_div_eq_div_mul]
  omega

theorem nibs_inj (u v : Nat) (hu : u < 2 ^ 64) (hv : v < 2 ^ 64) (h : ∀ k, k < 16 → nib u k = nib v k) : u = v := by
  have key : ∀ k, k ≤ 16 → u / 2 ^ (64 - 4 * k) = v / 2 ^ (64 - 4 * k) := by
    intro k
    induction k with
    | zero => intro _; rw [Nat.div_eq_of_lt hu, Nat.div_eq_of_lt hv]
    | succ k ih =>
      intro hk
      have a := nib_step u k (by omega); have b := nib_step v k (by omega)
      rw [show 64 - 4 * (k + 1) = 60 - 4 * k by omega, a, b, ih (by omega), h k (by omega)]
  have := key 16 (by decide)
  simpa using this

theorem hexL_length (q : Int) (k : Nat) : (hexL q k).length = k := by simp [hexL]
theorem hexL_succ (q : Int) (k : Nat) : hexL q (k + 1) = hexL q k ++ [hexc (nib (uq q) k)] := by simp [hexL, List.range_succ]
theorem hexL_at (q : Int) (n k : Nat) (h : k < n) : (hexL q n)[k]? = some (hexc (nib (uq q) k)) := by simp [hexL, h]
theorem hexL_inj {q q' : Int} (h : hexL q 16 = hexL q' 16) : uq q = uq q' := by
  refine nibs_inj _ _ (uq_lt q) (uq_lt q') fun k hk => ?_
  have a := hexL_at q 16 k hk; have b := hexL_at q' 16 k hk
  rw [h, b] at a
  exact (hexc_inj _ (nib_lt _ _) _ (nib_lt _ _) (Option.some.inj a)).symm

theorem bv_append (a b : List UInt8) : bv (a ++ b) = bv a ++ bv b := by simp [bv]
theorem bv_length (a : List UInt8) : (bv a).length = a.length := by simp [bv]
theorem bv_str (s : ByteArray) : strCells s = bv s.data.toList := rfl
theorem bv_oneCell (l : List UInt8) : ∀ u ∈ bv l, u.oneCell' = true := by
  intro u hu
  simp only [bv, List.mem_map] at hu
  obtain ⟨b, _, rfl⟩ := hu
  rfl

/-- An event's id, of a subscription's id that is trimmed already. -/
def idB (t : ByteArray) (q : Int) : List UInt8 := [101, 118, 116, 95] ++ t.data.toList ++ hexL q 16
theorem idB_length (t : ByteArray) (q : Int) : (idB t q).length = 4 + t.size + 16 := by
  simp only [idB, List.length_append, hexL_length]; rfl
theorem idB_inj {t t' : ByteArray} {q q' : Int} (h : idB t q = idB t' q') : t.data.toList = t'.data.toList ∧ hexL q 16 = hexL q' 16 := by
  simp only [idB, List.append_assoc] at h
  have h1 := List.append_cancel_left h
  have hl := congrArg List.length h1
  simp only [List.length_append, hexL_length] at hl
  exact List.append_inj h1 (by omega)
end Go.Proofs.Qxb6003734a
