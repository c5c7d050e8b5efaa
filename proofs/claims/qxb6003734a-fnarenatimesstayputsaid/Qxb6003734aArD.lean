import Derived.Test.Qxb6003734aArC
import Derived.Test.Qxb6003734aEq
import Derived.Deep.RegionWith
import Derived.LaidEqlPtr
import Derived.Deep.LoopGhost
import Derived.Deep.DeepCutAuto
namespace Go.Proofs.Qxb6003734a
open Go.RowKit

/-- ArenaTime, wherever the arena stands. -/
theorem zztime_inv {W0 : World} {B n k : Nat} {step : Int} {F : Nat → Nat × Nat} {w : World} (h : Inv W0 B n step k k F w) :
    Calls Try.prog 16 #[.pointer (some ⟨B, 0, none⟩), .agg #[.int .u64 (dNs (nthD k step)), .int .i64 (dSec (nthD k step)), .pointer none]] w fun e w' =>
      ∃ F' : Nat → Nat × Nat, e = .returned (.pointer (some ⟨(F' k).1, (F' k).2 * 3, none⟩)) ∧ Inv W0 B n step (k + 1) k F' w' := by
  have full : ∀ (m : Nat) (ao : Option Addr), w.heap[B]? = some (.cells #[.pointer none, .slice none 0 0, .slice ao m m, .map none, .map none] 88 (0, 0)) →
      Calls Try.prog 16 #[.pointer (some ⟨B, 0, none⟩), .agg #[.int .u64 (dNs (nthD k step)), .int .i64 (dSec (nthD k step)), .pointer none]] w fun e w' =>
      ∃ F' : Nat → Nat × Nat, e = .returned (.pointer (some ⟨(F' k).1, (F' k).2 * 3, none⟩)) ∧ Inv W0 B n step (k + 1) k F' w' := by
    intro m ao hA
    have hB1 : B + 1 < w.heap.size := (h.ps.lt (B + 1) rfl).2
    refine (zztime_full B m ao _ w hA).mono ?_
    rintro e w' ⟨g, hg, rfl, ht⟩
    have lt : ∀ i, i < k → (F i).1 < g := fun i hi => by have := (h.times i hi).2.1; omega
    refine ⟨ext F k (g, 0), by rw [ext_at]; simp, h.time ⟨ht.arena, ownsRow_base ht.own (by omega), ht.other, ht.os, ht.tape, ht.output, ht.size⟩ (by decide) (fun i hi => .inl (lt i hi)) (fun i hi e => ?_)⟩
    have := lt i hi
    omega
  rcases h.arena with ⟨_, hA⟩ | ⟨g, m, xs, hm, hA, ho, hc⟩
  · exact full 0 none hA
  · by_cases e : m = 1024
    · subst e; exact full 1024 _ hA
    · have hg := (ho.lt g rfl).1
      refine (zztime_room B g m (B + 2) _ xs w (by omega) hA ho (by omega)).mono ?_
      rintro e w' ⟨rfl, ht⟩
      exact ⟨ext F k (g, m), by rw [ext_at], h.time ht (by omega) hc (fun _ _ _ => ho)⟩

theorem info28' : ∃ j, Try.prog.info? 28 = some j ∧ j.size ≠ 0 := by
  obtain ⟨i, h, _, h1, _⟩ := info_parts info28
  exact ⟨i, h, by rw [h1]; decide⟩

/-- Two pointers that were handed out differ. -/
theorem ptr_ne {W0 : World} {B n kt kp i j : Nat} {step : Int} {F : Nat → Nat × Nat} {w : World} (h : Inv W0 B n step kt kp F w) (hij : i < j) (hj : j < kt) :
    ∀ d, (binOp .eql 42 (.pointer (some ⟨(F i).1, (F i).2 * 3, none⟩)) (.pointer (some ⟨(F j).1, (F j).2 * 3, none⟩))).run Try.prog (w.drewN d) = .ok (.bool false) (w.drewN d) := by
  intro d
  obtain ⟨x, hx, hs⟩ := info28'
  obtain ⟨c, hc⟩ := h.rows i (by omega)
  obtain ⟨c', hc'⟩ := h.rows j hj
  refine run_eql_ptr_other (w.drewN d) Try.underlying42 hx hs ?_ hc hc'
  intro e
  simp at e
  exact h.apart i j hij hj (Prod.ext e.1 (by omega))

theorem info42 : (Try.prog.info? 42).map (fun i => (i.zero, i.size, i.bytes)) = some (some (.pointer none), 1, 8) := by kernel_rfl

theorem inv_start {w w1 : World} {n : Nat} {step : Int} (ho : w1.ownsRow (w.heap.size + 1) 42 1 (.slice (some ⟨w.heap.size + 1, 0, none⟩) 0 n) 0 []) (hg : (w.alloc (.cells #[.pointer none, .slice none 0 0, .slice none 0 0, .map none, .map none] 88)).grownBy w1 none) :
    Inv w w.heap.size n step 0 0 (fun _ => (0, 0)) w1 := by
  refine ⟨((Below.refl _ w).alloc (Nat.le_refl _) _).grown hg (by simp) (by simp), .inl ⟨rfl, ?_⟩, ho, fun i hi => absurd hi (by omega), fun i j _ hj => absurd hj (by omega), fun i hi => absurd hi (by omega)⟩
  rw [hg.block _ (by simp) (by simp)]; exact heap_alloc_new w _

set_option maxRecDepth 20000 in
set_option maxHeartbeats 2000000 in
theorem arena_walk (n : Nat) (step : Int) (w : World) (hn : n ≤ 2100) :
    Calls Try.prog 4 #[.int .i64 n, .int .i64 step] w fun e w' => e = .returned (.bool true) ∧ Below w.heap.size w w' := by
  obtain ⟨i0, hi, hz0, hz1, hz2⟩ := info_parts info42
  have h0 : decide ((n : Int) < 0) = false := by simp
  have h1 : decide ((2100 : Int) < (n : Int)) = false := by simp; omega
  go_enter Try.func4, Try.ntmps4
  go_wp2_with (first | (go_at_call 15; refine (newArena_any _).mono ?_; rintro e w' ⟨rfl, rfl⟩) | (at_make; refine wpList_make_own _ rfl _ _ 41 rfl (w.heap.size + 1) 42 i0 (.pointer none) 1 Try.underlying41 hi hz0 hz1 _ _ _ n rfl rfl rfl ?b2 ?b3 ?b4 ?_))
  case b2 => rw [hz2]; omega
  case b3 => unfold maxLen; omega
  case b4 => simp
  intro w1 ho1 hg1
  have I0 := inv_start (step := step) (by simpa using ho1) hg1
  clear ho1 hg1
  go_wp2
  go_loopg [6, 7] n (fun mm v i wr => ∃ (k : Nat) (F : Nat → Nat × Nat), k + mm = n ∧ i = .int .i64 k ∧ v = .slice (some ⟨w.heap.size + 1, 0, none⟩) k n ∧ Inv w w.heap.size n step k k F wr)
  case atStart => exact ⟨0, _, by omega, rfl, by simp, I0⟩
  case round =>
    obtain ⟨k, F, hk, rfl, rfl, I⟩ := hrel
    have HK : Hid (k + gk = n) := hk
    clear hk I0
    by_cases hlt : k < n
    · have hlt' : (k : Int) < (n : Int) := by omega
      go_wp2_with fail
      refine (nth_any _ _ _).mono ?_
      rintro e w2 ⟨rfl, rfl⟩
      go_wp2_with fail
      refine (zztime_inv (((I.alloc _).alloc _).alloc _)).mono ?_
      rintro e w2 ⟨F', rfl, I2⟩
      clear I
      generalize hg : (F' k).1 = g at *
      generalize ho : (F' k).2 * 3 = o at *
      have HP : Hid (ptrAt F' k = .pointer (some ⟨g, o, none⟩)) := by show _ = _; unfold ptrAt; rw [hg, ho]
      clear hg ho
      have I3 := I2.alloc (.cells #[.pointer (some ⟨g, o, none⟩)] 42)
      go_wp2_with (at_builtin; refine wpList_append_fits _ rfl (.tmp 24) (.tmp 30) 41 rfl (w.heap.size + 1) 42 i0 1 Try.underlying41 hi hz1 (w.heap.size + 1) k n _ rfl I3.ps ⟨w2.heap.size, 0, none⟩ 1 1 [.pointer (some ⟨g, o, none⟩)] rfl rfl ?c1 ?c2 ?c3 ?_)
      case c1 =>
        intro j u hj
        match j, hj with
        | 0, hj => simp at hj; subst hj; simp [Addr.add]
      case c2 => intro u hu; simp at hu; subst hu; rfl
      case c3 => omega
      intro w3 ho3 hg3
      have I4 := I3.push hg3 (by rw [HP.out]; exact ho3)
      clear I3 I2 ho3 hg3
      go_wp2
      go_roundg (gk - 1)
      case measure => have := HK.out; omega
      case rel => exact ⟨k + 1, F', by have := HK.out; omega, by go_num, rfl, I4⟩
    · have hkn : k = n := by have := HK.out; omega
      subst hkn
      clear HK hlt
      go_wp2
      go_loopg [8] k (fun mm i wr => ∃ (j : Nat), j + mm = k ∧ i = .int .i64 j ∧ Inv w w.heap.size k step k k F wr)
      case atStart => exact ⟨0, by omega, rfl, I⟩
      case round =>
        obtain ⟨j, hj, rfl, J⟩ := hrel
        have HJ : Hid (j + gk = k) := hj
        clear hj I
        by_cases hlt : j < k
        · have hlt' : (j : Int) < (k : Int) := by omega
          have c1 : wr.cell? ⟨w.heap.size + 1, j, none⟩ = some (ptrAt F j) := by
            rw [J.ps.cellAt j (by omega)]; simp [hlt]
          have hl1 : w.heap.size + 1 < wr.heap.size := (J.ps.lt _ rfl).2
          obtain ⟨hl0, hl2, t0, t1, t2⟩ := J.times j hlt
          unfold ptrAt at c1
          generalize hg : (F j).1 = g at *
          generalize ho : (F j).2 * 3 = o at *
          have HG : Hid ((F j).1 = g) := hg
          have HO : Hid ((F j).2 * 3 = o) := ho
          clear hg ho
          go_wp2
          have hl3 : g < wr.heap.size + 1 := by omega
          have hl4 : g < wr.heap.size + 1 + 1 := by omega
          have hl5 : w.heap.size + 1 < wr.heap.size + 1 := by omega
          have hl6 : w.heap.size + 1 < wr.heap.size + 1 + 1 := by omega
          have q28 := neq28 (dNs (nthD j step)) (dSec (nthD j step))
          have hgd := guard28
          go_cut [53] (fun v wc => v = .bool false ∧ Inv w w.heap.size k step k k F wc)
          case first =>
            go_region_with (go_at_call 17; refine (nth_any _ _ _).mono ?_; rintro e w' ⟨rfl, rfl⟩)
            all_goals
              go_wp2
              go_meet
              case rel => exact ⟨rfl, Inv.keep (((J.alloc _).alloc _).alloc _) (fun _ _ => rfl) (Nat.le_refl _) rfl rfl rfl⟩
          case rest =>
            obtain ⟨rfl, J2⟩ := hcut
            clear c1 t0 t1 t2 hl1 hl2 hl3 hl4 hl5 hl6 q28 hgd J
            go_wp2
            go_loopg [9] j (fun mm i wr => ∃ (l d : Nat), l + mm = j ∧ i = .int .i64 l ∧ wr = wc.drewN d)
            case atStart => exact ⟨0, 0, by omega, rfl, rfl⟩
            case round =>
              obtain ⟨l, d, hl, rfl, rfl⟩ := hrel
              have HL : Hid (l + gk = j) := hl
              clear hl
              by_cases hlt2 : l < j
              · have hlt2' : (l : Int) < (j : Int) := by omega
                have hlt3 : (l : Int) < (k : Int) := by omega
                have c1 : wc.cell? ⟨w.heap.size + 1, j, none⟩ = some (ptrAt F j) := by
                  rw [J2.ps.cellAt j (by omega)]; simp [hlt]
                have c2 : wc.cell? ⟨w.heap.size + 1, l, none⟩ = some (ptrAt F l) := by
                  rw [J2.ps.cellAt l (by omega)]; simp [show l < k by omega]
                have hq := ptr_ne J2 hlt2 hlt
                unfold ptrAt at c1 c2
                go_wp2
                go_quiet (fail)
                go_wp2
                go_roundg (gk - 1)
                case measure => have := HL.out; omega
                case rel => exact ⟨l + 1, d + nq, by have := HL.out; omega, by go_num, rfl⟩
              · have J3 := J2.keep (w' := wc.drewN d) (fun _ _ => rfl) (Nat.le_refl _) rfl rfl rfl
                go_wp2
                go_roundg (k - j - 1)
                case measure => have := HJ.out; omega
                case rel => exact ⟨j + 1, by have := HJ.out; omega, by go_num, J3⟩
        · go_wp2
          go_ret
          exact ⟨rfl, J.below⟩
end Go.Proofs.Qxb6003734a
