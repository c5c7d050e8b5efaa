import Derived.Test.Qxb6003734aSnB
import Derived.Laws.OwnMore
namespace Go.Proofs.Qxb6003734a
open Go.RowKit Go.Lib

theorem conv_bytes (w : World) (g o c : Nat) (m : List UInt8) (hc : ∀ j, j < m.length → w.cell? ⟨g, o + j, none⟩ = some (.int .u8 (m.getD j 0).toNat)) :
    (convert 22 9 (.slice (some ⟨g, o, none⟩) m.length c)).run Try.prog w = .ok (.string ⟨m.toArray⟩) w := by
  have h := run_convert_bytes_arg (P := Try.prog) w 22 5 Try.underlying22 Try.underlying5 g o m.length c (m.map fun b => (b.toNat : Int)) (by simp) (fun j hj => by rw [hc j hj]; simp [hj]) 9 Try.underlying9
  have e : strOfNums (m.map fun b => (b.toNat : Int)) = ⟨m.toArray⟩ := by simp [strOfNums, Function.comp_def]
  rw [h, e]

theorem own_out {w : World} {B : Nat} {v : Value} {n : Nat} {l : List UInt8} (h : w.ownsRow B 5 1 v n (bv l)) (hl : n ≠ 0) : ∃ g cap, v = .slice (some ⟨g, 0, none⟩) n cap ∧ l.length = n ∧ ∀ j, j < l.length → w.cell? ⟨g, 0 + j, none⟩ = some (.int .u8 (l.getD j 0).toNat) := by
  have hn : l.length = n := by have := h.1; rw [bv_length] at this; omega
  rcases h.2 with ⟨rfl, h0⟩ | ⟨g, cap, cur, rfl, hb, hg, h1, h2, _⟩
  · omega
  · refine ⟨g, cap, rfl, hn, fun j hj => ?_⟩
    rw [Nat.zero_add, h.cellAt j (by omega)]; simp [bv, hj]

/-- eventID. -/
def idS (s : ByteArray) (q : Int) : ByteArray := ⟨(idB (trimS s) q).toArray⟩

theorem idS_ne {s : ByteArray} {q q' : Int} (h : q ≠ q') (h1 : -9223372036854775808 ≤ q) (h2 : q ≤ 9223372036854775807) (h3 : -9223372036854775808 ≤ q') (h4 : q' ≤ 9223372036854775807) : idS s q ≠ idS s q' := by
  intro e
  unfold idS at e
  have e1 : (idB (trimS s) q).toArray = (idB (trimS s) q').toArray := by injection e
  have e2 : idB (trimS s) q = idB (trimS s) q' := by simpa using e1
  exact h (uq_inj (hexL_inj (idB_inj e2).2) h1 h2 h3 h4)

set_option maxHeartbeats 400000 in
theorem eventID_any (s : ByteArray) (q : Int) (w : World) (hs : s.size ≤ 1048576) :
    Calls Try.prog 45 #[.string s, .int .i64 q] w fun e w' => e = .returned (.string (idS s q)) ∧ Below w.heap.size w w' := by
  obtain ⟨i0, hi, hz0, hz1, hz2⟩ := info_parts info5
  have hc1 : IntKind.i64.wrap (4 + (s.size : Int)) = 4 + (s.size : Int) := by rw [IntKind.wrap_i64]; omega
  have hc2 : IntKind.i64.wrap (4 + (s.size : Int) + 16) = 4 + (s.size : Int) + 16 := by rw [IntKind.wrap_i64]; omega
  go_enter Try.func45, Try.ntmps45
  go_wp2_with (at_make; refine wpList_make_own _ rfl _ _ 22 rfl w.heap.size 5 i0 (.int .u8 0) 1 Try.underlying22 hi hz0 hz1 _ _ _ (4 + s.size + 16) rfl rfl ?b1 ?b2 ?b3 ?b4 ?_)
  case b1 => go_num
  case b2 => rw [hz2]; omega
  case b3 => unfold maxLen; omega
  case b4 => simp
  intro w1 ho1 hg1
  have hb1 : Below w.heap.size w w1 := (Below.refl _ w).grown hg1 (Nat.le_refl _) (fun k hk => by cases hk)
  go_wp2_with fail
  refine (appendID_any _ 0 [] s q w1 (by unfold maxLen; omega) (by omega) w.heap.size hb1.size ho1).mono ?_
  rintro e w2 ⟨v2, rfl, ho2, hb2⟩
  simp only [List.nil_append] at ho2
  obtain ⟨g, cap, rfl, hl, hcell⟩ := own_out ho2 (by omega)
  rw [← hl]
  have hcv := conv_bytes w2 g 0 cap _ hcell
  clear hcell ho2 hl ho1 hg1
  go_wp2
  go_ret
  exact ⟨rfl, hb1.trans hb2⟩
end Go.Proofs.Qxb6003734a
