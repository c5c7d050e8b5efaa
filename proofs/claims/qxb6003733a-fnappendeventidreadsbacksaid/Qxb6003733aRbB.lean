import Derived.Test.Qxb6003733aRbA
namespace Go.Proofs.Qxb6003733a
open Go.RowKit Go.Lib

/-- What clone hands back: nil, or a row of its own, full. -/
def Cl (w : World) (bo : Option Addr) (bc : Nat) (l : List UInt8) : Prop :=
  (bo = none ∧ l = [] ∧ bc = 0) ∨ ∃ g, bo = some ⟨g, 0, none⟩ ∧ bc = l.length ∧ g < w.heap.size ∧ ∀ j, j < l.length → w.cell? ⟨g, j, none⟩ = some (.int .u8 (l.getD j 0).toNat)
/-- What clone takes. -/
def Inp (w : World) (ao : Option Addr) (l : List UInt8) : Prop := (ao = none ∧ l = []) ∨ ∃ x, ao = some x ∧ Reads w (some x) l

theorem Cl.inp {w : World} {bo : Option Addr} {bc : Nat} {l : List UInt8} (h : Cl w bo bc l) : Inp w bo l := by
  rcases h with ⟨a, b, _⟩ | ⟨g, a, _, _, c⟩
  · exact .inl ⟨a, b⟩
  · exact .inr ⟨_, a, .inr ⟨g, 0, rfl, fun j hj => by rw [Nat.zero_add]; exact c j hj⟩⟩
theorem Cl.reads {w : World} {bo : Option Addr} {bc : Nat} {l : List UInt8} (h : Cl w bo bc l) : Reads w bo l := by
  rcases h with ⟨a, b, _⟩ | ⟨g, a, _, _, c⟩
  · exact .inl b
  · exact .inr ⟨g, 0, a, fun j hj => by rw [Nat.zero_add]; exact c j hj⟩
theorem Cl.below {w w' : World} {bo : Option Addr} {bc : Nat} {l : List UInt8} (h : Cl w bo bc l) (hb : Below w.heap.size w w') : Cl w' bo bc l := by
  rcases h with h | ⟨g, a, b, hg, c⟩
  · exact .inl h
  · exact .inr ⟨g, a, b, Nat.lt_of_lt_of_le hg hb.size, fun j hj => cell_later hb (c j hj)⟩
theorem Cl.first {w : World} {bo : Option Addr} {bc : Nat} {l : List UInt8} (h : Cl w bo bc l) (hl : l.length ≤ 4000000) : First (.slice bo l.length bc) l.length (bv l) w := by
  rcases h with ⟨rfl, rfl, rfl⟩ | ⟨g, rfl, rfl, hg, c⟩
  · exact first_nil w
  · refine first_full w g l.length l rfl hl fun j u hu => ?_
    have hj : j < l.length := by
      have := (List.getElem?_eq_some_iff.1 hu).1; rwa [bv_length] at this
    have e : (⟨g, 0, none⟩ : Addr).add j = ⟨g, j, none⟩ := by unfold Addr.add; split <;> simp_all
    rw [e, c j hj, ← hu]
    simp [bv, hj]

theorem clone_uni (ao : Option Addr) (cap : Nat) (l : List UInt8) (w : World) (hl : l.length ≤ 1048576) (h : Inp w ao l) (hcap : ao = none → cap = 0) :
    Calls Try.prog 10 #[.slice ao l.length cap] w fun e w' => ∃ bo bc, e = .returned (.slice bo l.length bc) ∧ Cl w' bo bc l ∧ Below w.heap.size w w' := by
  rcases h with ⟨rfl, rfl⟩ | ⟨x, rfl, hr⟩
  · rw [hcap rfl]
    refine (clone_nil w).mono ?_
    rintro e w' ⟨rfl, rfl⟩
    exact ⟨none, 0, rfl, .inl ⟨rfl, rfl, rfl⟩, Below.refl _ _⟩
  · refine (clone_any x cap l w hl hr).mono ?_
    rintro e w' ⟨rfl, ho, hb⟩
    refine ⟨_, _, rfl, .inr ⟨w.heap.size, rfl, rfl, ?_, fun j hj => ?_⟩, hb⟩
    · exact (ho.lt w.heap.size rfl).2
    · rw [ho.cellAt j (by omega)]; simp [bv, hj]

theorem Cl.cap {w : World} {bo : Option Addr} {bc : Nat} {l : List UInt8} (h : Cl w bo bc l) : bo = none → bc = 0 := by
  rcases h with ⟨_, _, h⟩ | ⟨g, rfl, _⟩
  · exact fun _ => h
  · intro h; cases h

/-- The bytes behind a slice of integers that came in. -/
theorem bytes_of_row {w : World} {x : Addr} {len : Nat} {zs : List Int} (hlen : len ≤ zs.length) (hcell : ∀ i, i < zs.length → w.cell? (x.add i) = some (.int .u8 (zs.getD i 0))) (hwf : ∀ n ∈ zs, 0 ≤ n ∧ n ≤ 255) :
    ∃ l : List UInt8, l.length = len ∧ Reads w (some x) l := by
  by_cases h0 : len = 0
  · exact ⟨[], by simp [h0], .inl rfl⟩
  obtain ⟨b, off, spot⟩ := x
  have hc := hcell 0 (by omega)
  have hspot : spot = none := by simpa [Addr.add] using World.cell?_spot hc
  subst hspot
  refine ⟨(zs.take len).map fun n => UInt8.ofNat n.toNat, by simp; omega, .inr ⟨b, off, rfl, fun j hj => ?_⟩⟩
  have hj' : j < len := by simp at hj; omega
  have hj2 : j < zs.length := by omega
  have e : (⟨b, off, none⟩ : Addr).add j = ⟨b, off + j, none⟩ := by unfold Addr.add; split <;> simp_all
  rw [← e, hcell j hj2]
  have hw := hwf zs[j] (List.getElem_mem hj2)
  simp [hj', hj2]
  omega

/-- A slice's bytes as a string. -/
theorem conv_bytes (w : World) (g o c : Nat) (m : List UInt8) (hc : ∀ j, j < m.length → w.cell? ⟨g, o + j, none⟩ = some (.int .u8 (m.getD j 0).toNat)) :
    (convert 27 9 (.slice (some ⟨g, o, none⟩) m.length c)).run Try.prog w = .ok (.string ⟨m.toArray⟩) w := by
  have h := run_convert_bytes_arg (P := Try.prog) w 27 5 Try.underlying27 Try.underlying5 g o m.length c (m.map fun b => (b.toNat : Int)) (by simp) (fun j hj => by rw [hc j hj]; simp [hj]) 9 Try.underlying9
  rw [h]
  congr 2
  simp [strOfNums, Function.comp_def]

theorem own_out {w : World} {B : Nat} {v : Value} {n : Nat} {l : List UInt8} (h : w.ownsRow B 5 1 v n (bv l)) (hl : n ≠ 0) : ∃ g cap, v = .slice (some ⟨g, 0, none⟩) n cap ∧ n ≤ cap ∧ cap ≤ maxLen ∧ B ≤ g ∧ g < w.heap.size ∧ ∀ j, j < l.length → w.cell? ⟨g, j, none⟩ = some (.int .u8 (l.getD j 0).toNat) := by
  have hn : l.length = n := by have := h.1; rw [bv_length] at this; omega
  rcases h.2 with ⟨rfl, h0⟩ | ⟨g, cap, cur, rfl, hb, hg, h1, h2, _⟩
  · omega
  · refine ⟨g, cap, rfl, h1, h2, hb, (Array.getElem?_eq_some_iff.1 hg).1, fun j hj => ?_⟩
    rw [h.cellAt j (by omega)]
    simp [bv, hj]
end Go.Proofs.Qxb6003733a
