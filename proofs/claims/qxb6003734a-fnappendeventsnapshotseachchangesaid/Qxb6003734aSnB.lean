import Derived.Test.Qxb6003734aSnA
import Derived.Test.Qxb6003734aSnP
import Derived.BigQuiet
import Derived.Deep.QuietTactic
namespace Go.Proofs.Qxb6003734a
open Go.RowKit Go.Lib
theorem info5 : (Try.prog.info? 5).map (fun i => (i.zero, i.size, i.bytes)) = some (some (.int .u8 0), 1, 1) := by kernel_rfl

theorem own_start {w2 : World} {B n : Nat} {v2 : Value} {xs : List Value} {t : ByteArray} {q : Int} (h : w2.ownsRow B 5 1 v2 (n + 4 + t.size) (xs ++ (strCells { data := #[101, 118, 116, 95] } ++ strCells t))) :
    w2.ownsRow B 5 1 v2 (n + 4 + t.size + 0) (xs ++ bv ([101, 118, 116, 95] ++ t.data.toList ++ hexL q 0)) := by
  simpa [hexL, bv, strCells] using h
theorem own_step {wr : World} {B m : Nat} {v : Value} {xs : List Value} {t : List UInt8} {q : Int} {k : Nat} (h : wr.ownsRow B 5 1 v (m + k + 1) (xs ++ (bv (101 :: 118 :: 116 :: 95 :: (t ++ hexL q k)) ++ [.int .u8 (hexc (nib (uq q) k)).toNat]))) :
    wr.ownsRow B 5 1 v (m + (k + 1)) (xs ++ bv ([101, 118, 116, 95] ++ t ++ hexL q (k + 1))) := by
  rw [hexL_succ]
  simpa [bv, Nat.add_assoc] using h

set_option maxHeartbeats 400000 in
set_option maxRecDepth 20000 in
theorem appendID_any (v : Value) (n : Nat) (xs : List Value) (s : ByteArray) (q : Int) (w : World) (hs : s.size ≤ maxLen) (hn : n + s.size ≤ 4000000) (B : Nat) (hB : B ≤ w.heap.size) (hown : w.ownsRow B 5 1 v n xs) :
    Calls Try.prog 50 #[v, .string s, .int .i64 q] w fun e w' => ∃ v', e = .returned v' ∧ w'.ownsRow B 5 1 v' (n + 4 + (trimS s).size + 16) (xs ++ bv (idB (trimS s) q)) ∧ Below B w w' := by
  obtain ⟨i0, hi, hz0, hz1, hz2⟩ := info_parts info5
  have ht := trimS_size s
  go_enter Try.func50, Try.ntmps50
  go_wp2_with (at_builtin; refine wpList_append_own_string _ rfl (.tmp 8) _ 22 9 rfl B 5 i0 Try.underlying22 Try.underlying9 hi hz0 hz1 hz2 _ _ _ rfl hown ⟨#[101, 118, 116, 95]⟩ rfl ?d1 ?d2 hB ?_)
  case d1 => show n + 4 ≤ maxLen; unfold maxLen; omega
  case d2 => show (n + 4) ≤ 140737488355328; omega
  intro v1 w1 hown1' hg1 _
  have hown1 : w1.ownsRow B 5 1 v1 (n + 4) (xs ++ strCells ⟨#[101, 118, 116, 95]⟩) := hown1'
  have hb1 : Below B w w1 := (Below.refl _ w).grown hg1 hB (fun k hk => (hown.lt k hk).1)
  clear hown1' hg1 hown
  go_wp2_with (first
    | (go_at_call 52; refine (trimPrefix_any _ _ hs).mono ?_; rintro e w' ⟨rfl, rfl⟩)
    | (at_builtin; refine wpList_append_own_string _ rfl (.tmp 10) _ 22 9 rfl B 5 i0 Try.underlying22 Try.underlying9 hi hz0 hz1 hz2 _ _ _ rfl hown1 (trimS s) rfl ?d1 ?d2 ?d3 ?_))
  case d1 => unfold maxLen; omega
  case d2 => omega
  case d3 => exact Nat.le_trans hB hb1.size
  intro v2 w2 hown2 hg2 _
  have hown3 := own_start (q := q) hown2
  have hb2 : Below B w w2 := hb1.grown hg2 (Nat.le_trans hB hb1.size) (fun k hk => (hown1.lt k hk).1)
  clear hown2 hown1 hg2 hb1
  go_wp2
  go_loopw [0, 7] (fun v i wr => ∃ k : Nat, k ≤ 16 ∧ i = .int .i64 (60 - 4 * (k : Int)) ∧ wr.ownsRow B 5 1 v (n + 4 + (trimS s).size + k) (xs ++ bv ([101, 118, 116, 95] ++ (trimS s).data.toList ++ hexL q k)) ∧ Below B w wr)
    (fun _ i _ => (intOf i + 4).toNat)
  case atStart => exact ⟨0, by omega, rfl, hown3, hb2⟩
  case round =>
    obtain ⟨k, hk, rfl, hown4, hb4⟩ := hrel
    clear hown3 hb2
    have HB : Hid (B ≤ w.heap.size) := hB
    clear hB
    by_cases hlt : k < 16
    · have hsh : (0 : Int) ≤ 60 - 4 * (k : Int) := by omega
      have hsh2 : 60 - 4 * (k : Int) ≤ 60 := by omega
      have hd := nib_and q k
      have hdl : nib (uq q) k < 16 := nib_lt _ _
      have hdl' : ((nib (uq q) k : Nat) : Int) < 16 := by omega
      have hcx := hexc_at (nib (uq q) k) hdl
      go_wp2_with (at_builtin; refine wpList_append_own _ rfl (.tmp 18) (.tmp 25) 22 rfl B 5 i0 (.int .u8 0) 1 1 Try.underlying22 hi hz0 hz1 hz2 rfl (by decide) _ _ _ rfl (hown4.alloc _) ⟨wr.heap.size, 0, none⟩ 1 1 [.int .u8 (hexc (nib (uq q) k)).toNat] rfl rfl ?c1 ?c2 ?c3 ?c4 ?c5 ?_)
      case c1 =>
        intro j u hj
        match j, hj with
        | 0, hj => simp at hj; subst hj; simp [Addr.add]
      case c2 => intro u hu; simp at hu; subst hu; rfl
      case c3 => unfold maxLen; omega
      case c4 => omega
      case c5 => have := hb4.size; have := HB.out; simp; omega
      intro v' w' hown' hg' _
      have hown5 := own_step hown'
      have hb5 : Below B w w' := (hb4.alloc (Nat.le_trans HB.out hb4.size) _).grown hg' (by have := hb4.size; have := HB.out; simp; omega) (fun k hk => (hown4.lt k hk).1)
      clear hown' hown4 hg' hb4 hcx hd
      go_wp2
      go_roundw
      case rel => exact ⟨k + 1, by omega, by go_num, hown5, hb5⟩
      case measure => simp [intOf]; omega
    · have hk16 : k = 16 := by omega
      subst hk16
      go_wp2
      go_ret
      exact ⟨_, rfl, hown4, hb4⟩
end Go.Proofs.Qxb6003734a
