import Derived.Test.Qxb6003733aEvA
import Derived.Test.Qxb6003733aEvP
import Derived.BigQuiet
import Derived.Deep.QuietTactic
namespace Go.Proofs.Qxb6003733a
open Go.RowKit Go.Lib
theorem info5 : (Try.prog.info? 5).map (fun i => (i.zero, i.size, i.bytes)) = some (some (.int .u8 0), 1, 1) := by kernel_rfl

/-- An append whose run is known, at the operation. -/
theorem wpList_append_run {P : Program} {w w' : World} {ops : Array Oper} {rest : List Oper} {o : Oper} {a : Act} {Q : Exit → Act → World → Prop} (hgd : o.guard = none) (sl x : Operand) (t u : TypeId)
    (ho : o.op = .call { callee := .builtin .append, args := #[sl, x], argTypes := #[t, u] }) (v v' z : Value) (hs : a.eval sl = v) (hx : a.eval x = z)
    (hr : (Builtin.append_ #[t, u] o.type #[v, z]).run P w = .ok v' w') (h : wpList P ops Q rest (a.put o.dst v') w') : wpList P ops Q (o :: rest) a w := by
  refine wpList_plain hgd fun K hK => ?_
  unfold Oper.wp execOp
  simp only [ho, resolve, invoke, builtin, Sem.run_bind, Sem.run_pure, Result.andThen_ok, List.map_toArray, List.map_cons, List.map_nil, hs, hx, hr]
  exact hK _ _ h

theorem own_start {w2 : World} {B n : Nat} {v2 : Value} {xs : List Value} {t : ByteArray} {q : Int} (h : w2.ownsRow B 5 1 v2 (n + 4 + t.size) (xs ++ (strCells { data := #[101, 118, 116, 95] } ++ strCells t))) :
    w2.ownsRow B 5 1 v2 (n + 4 + t.size + 0) (xs ++ bv ([101, 118, 116, 95] ++ t.data.toList ++ hexL q 0)) := by
  simpa [hexL, bv, strCells] using h
theorem own_step {wr : World} {B m : Nat} {v : Value} {xs : List Value} {t : List UInt8} {q : Int} {k : Nat} (h : wr.ownsRow B 5 1 v (m + k + 1) (xs ++ (bv (101 :: 118 :: 116 :: 95 :: (t ++ hexL q k)) ++ [.int .u8 (hexc (nib (uq q) k)).toNat]))) :
    wr.ownsRow B 5 1 v (m + (k + 1)) (xs ++ bv ([101, 118, 116, 95] ++ t ++ hexL q (k + 1))) := by
  rw [hexL_succ]
  simpa [bv, Nat.add_assoc] using h

/-- What the first append, of the four bytes, leaves: a row of the call's own, behind all that was there. -/
def First (v : Value) (n : Nat) (xs : List Value) (w : World) : Prop :=
  ∃ v1 w1, (Builtin.append_ #[27, 9] 27 #[v, .string ⟨#[101, 118, 116, 95]⟩]).run Try.prog w = .ok v1 w1 ∧ w1.ownsRow w.heap.size 5 1 v1 (n + 4) (xs ++ strCells ⟨#[101, 118, 116, 95]⟩) ∧ Below w.heap.size w w1

theorem first_nil (w : World) : First (.slice none 0 0) 0 [] w := by
  obtain ⟨i0, hi, hz0, hz1, hz2⟩ := info_parts info5
  obtain ⟨v', w', hr, ho, hg, _⟩ := run_append_own_string (P := Try.prog) w w.heap.size 27 9 27 5 i0 Try.underlying27 Try.underlying9 hi hz0 hz1 hz2 (.slice none 0 0) 0 [] (World.ownsRow_nil _ _ _ _) ⟨#[101, 118, 116, 95]⟩ (by decide) (by decide) (Nat.le_refl _)
  exact ⟨v', w', hr, ho, (Below.refl _ _).grown hg (Nat.le_refl _) (fun k hk => by simp [Value.ownBlock] at hk)⟩

theorem first_full (w : World) (g n : Nat) (l : List UInt8) (hl : l.length = n) (hn : n ≤ 4000000) (hc : ∀ j u, (bv l)[j]? = some u → w.cell? ((⟨g, 0, none⟩ : Addr).add j) = some u) : First (.slice (some ⟨g, 0, none⟩) n n) n (bv l) w := by
  obtain ⟨i0, hi, hz0, hz1, hz2⟩ := info_parts info5
  have h4 : (ByteArray.mk #[101, 118, 116, 95]).size = 4 := rfl
  have hr := run_append_grow_string (P := Try.prog) w 27 9 27 5 i0 (.int .u8 0) Try.underlying27 Try.underlying9 hi hz0 ⟨g, 0, none⟩ n n (bv l) (by rw [hz1, bv_length]; omega) hc ⟨#[101, 118, 116, 95]⟩ (by omega) (by omega) (by rw [hz2]; exact growslice_fits (by omega) (by omega))
  rw [h4] at hr
  have hge := grownCap_ge w (n + 4) n 5
  have hcm : grownCap w (n + 4) n 5 ≤ maxLen := grownCap_le_maxLen w (n + 4) n 5 (by unfold maxLen; omega)
  refine ⟨_, _, hr, ⟨by simp [bv_length, strCells_length, hl, h4], .inr ⟨w.heap.size, _, _, rfl, Nat.le_refl _, heap_alloc_new w.drew _, hge, hcm, ?_, ?_⟩⟩, ((Below.refl _ w).drew).alloc (Nat.le_refl _) _⟩
  · have hz1 : (Value.int IntKind.u8 0).cells.size = 1 := rfl
    simp only [Array.size_append, List.size_toArray, size_zeroCells, hz1, bv_length, strCells_length]
    omega
  · have hlen : (bv l ++ strCells ⟨#[101, 118, 116, 95]⟩).length = (n + 4) * 1 := by simp [bv_length, strCells_length, hl, h4]
    simp only [Array.toList_append, List.append_assoc]
    rw [← List.append_assoc, ← hlen]
    exact List.take_left

set_option maxHeartbeats 400000 in
theorem appendID_any (v : Value) (n : Nat) (xs : List Value) (s : ByteArray) (q : Int) (w : World) (hs : s.size ≤ maxLen) (hn : n + s.size ≤ 4000000) (hfirst : First v n xs w) :
    Calls Try.prog 19 #[v, .string s, .int .i64 q] w fun e w' => ∃ v', e = .returned v' ∧ w'.ownsRow w.heap.size 5 1 v' (n + 4 + (trimS s).size + 16) (xs ++ bv (idB (trimS s) q)) ∧ Below w.heap.size w w' := by
  obtain ⟨i0, hi, hz0, hz1, hz2⟩ := info_parts info5
  have ht := trimS_size s
  obtain ⟨v1, w1, hr1, hown1, hb1⟩ := hfirst
  go_enter Try.func19, Try.ntmps19
  go_wp2_with (at_builtin; refine wpList_append_run rfl (.tmp 8) _ 27 9 rfl _ _ _ rfl rfl hr1 ?_; clear hr1)
  go_wp2_with (first
    | (go_at_call 25; refine (trimPrefix_any _ _ hs).mono ?_; rintro e w' ⟨rfl, rfl⟩)
    | (at_builtin; refine wpList_append_own_string _ rfl (.tmp 10) _ 27 9 rfl w.heap.size 5 i0 Try.underlying27 Try.underlying9 hi hz0 hz1 hz2 _ _ _ rfl hown1 (trimS s) rfl ?d1 ?d2 ?d3 ?_))
  case d1 => unfold maxLen; omega
  case d2 => omega
  case d3 => exact hb1.size
  intro v2 w2 hown2 hg2 _
  have hown3 := own_start (q := q) hown2
  have hb2 : Below w.heap.size w w2 := hb1.grown hg2 hb1.size (fun k hk => (hown1.lt k hk).1)
  clear hown2 hown1 hg2 hb1
  go_wp2
  go_loopw [0, 7] (fun v i wr => ∃ k : Nat, k ≤ 16 ∧ i = .int .i64 (60 - 4 * (k : Int)) ∧ wr.ownsRow w.heap.size 5 1 v (n + 4 + (trimS s).size + k) (xs ++ bv ([101, 118, 116, 95] ++ (trimS s).data.toList ++ hexL q k)) ∧ Below w.heap.size w wr)
    (fun _ i _ => (intOf i + 4).toNat)
  case atStart => exact ⟨0, by omega, rfl, hown3, hb2⟩
  case round =>
    obtain ⟨k, hk, rfl, hown4, hb4⟩ := hrel
    clear hown3 hb2
    by_cases hlt : k < 16
    · have hsh : (0 : Int) ≤ 60 - 4 * (k : Int) := by omega
      have hsh2 : 60 - 4 * (k : Int) ≤ 60 := by omega
      have hd := nib_and q k
      have hdl : nib (uq q) k < 16 := nib_lt _ _
      have hdl' : ((nib (uq q) k : Nat) : Int) < 16 := by omega
      have hcx := hexc_at (nib (uq q) k) hdl
      go_wp2_with (at_builtin; refine wpList_append_own _ rfl (.tmp 18) (.tmp 25) 27 rfl w.heap.size 5 i0 (.int .u8 0) 1 1 Try.underlying27 hi hz0 hz1 hz2 rfl (by decide) _ _ _ rfl (hown4.alloc _) ⟨wr.heap.size, 0, none⟩ 1 1 [.int .u8 (hexc (nib (uq q) k)).toNat] rfl rfl ?c1 ?c2 ?c3 ?c4 ?c5 ?_)
      case c1 =>
        intro j u hj
        match j, hj with
        | 0, hj => simp at hj; subst hj; simp [Addr.add]
      case c2 => intro u hu; simp at hu; subst hu; rfl
      case c3 => unfold maxLen; omega
      case c4 => omega
      case c5 => have := hb4.size; simp; omega
      intro v' w' hown' hg' _
      have hown5 := own_step hown'
      have hb5 : Below w.heap.size w w' := (hb4.alloc hb4.size _).grown hg' (by have := hb4.size; simp; omega) (fun k hk => (hown4.lt k hk).1)
      clear hown' hown4 hg' hb4 hcx hd
      go_wp2
      go_roundw
      case rel => exact ⟨k + 1, by omega, by go_num, hown5, hb5⟩
      case measure => simp [intOf]; omega
    · have hk16 : k = 16 := by omega
      subst hk16
      go_wp2
      go_ret
      exact ⟨_, rfl, hown4, hb4⟩
end Go.Proofs.Qxb6003733a
