import Derived.Deep.Quiet
namespace Go.Proofs.Qxb6003734a
open Go

section
variable {P : Program} {ops : Array Oper} {md : Region.Mode} {C : World → Prop}

/-- Whatever order is picked from here on, each operation quiet in C, till the last one, number s, alone is left. -/
def wpAnyT (P : Program) (md : Region.Mode) (ops : Array Oper) (C : World → Prop) (s : Nat) (R : Act → Prop) : Nat → Array Bool → Act → Prop
  | 0, listed, a => Region.ready md ops listed = [s] ∧ Region.ready md ops (listed.setIfInBounds s true) = [] ∧ R a
  | fuel + 1, listed, a => Region.ready md ops listed ≠ [] ∧ ∀ i ∈ Region.ready md ops listed, qOp P ops C i (wpAnyT P md ops C s R fuel (listed.setIfInBounds i true)) a

theorem wpAny_of_T {R : Act → Prop} {Q' : Exit → Act → World → Prop} {s : Nat} (hR : ∀ a w, C w → R a → wpOp P ops Q' s (fun a' w' => Q' .normal a' w') a w) :
    ∀ (fuel : Nat) (listed : Array Bool) (a : Act) (w : World), C w → wpAnyT P md ops C s R fuel listed a → wpAny P md ops Q' (fuel + 1) listed a w
  | 0, listed, a, w, hw, h => ⟨fun h0 => (by rw [h.1] at h0; cases h0), fun i hi => by
      rw [h.1] at hi
      have e : i = s := by simpa using hi
      subst e
      exact wpOp_mono (fun a' w' h' => ⟨h.2.1, h'⟩) (hR a w hw h.2.2)⟩
  | fuel + 1, _, _, _, hw, h => ⟨fun h0 => absurd h0 h.1, fun i hi => wpOp_of_qOp hw (fun a' w' hw' h' => wpAny_of_T hR fuel _ a' w' hw' h') (h.2 i hi)⟩

/-- The last operation waits for number i. -/
def waits (md : Region.Mode) (ops : Array Oper) (s i : Nat) : Bool :=
  match ops[s]? with
  | some o => o.after.any (fun e => Region.binds md e && e.on == i)
  | none => false

theorem not_ready {s i : Nat} {listed : Array Bool} (hsw : waits md ops s i = true) (hr : i ∈ Region.ready md ops listed) : ¬ s ∈ Region.ready md ops listed := by
  intro hj
  obtain ⟨_, oj, hoj, hall⟩ := mem_ready.1 hj
  unfold waits at hsw
  rw [hoj] at hsw
  simp only [Array.any_eq_true, Bool.and_eq_true, beq_iff_eq] at hsw
  obtain ⟨n, hn, hb, heq⟩ := hsw
  have h1 := hall _ (Array.getElem_mem hn) hb
  have h0 := (mem_ready.1 hr).1
  rw [heq] at h1
  rcases Nat.lt_or_ge i listed.size with h' | h'
  · simp [h'] at h0 h1; rw [h0] at h1; cases h1
  · simp [Array.getElem?_eq_none h'] at h1

/-- An operation that may come up now may be taken first. -/
theorem wpAnyT_first {R : Act → Prop} {s i : Nat} {oi : Oper} {v : Value} (hi : ops[i]? = some oi) (hsel : ∀ (j : Nat) (o : Oper) cs b, ops[j]? = some o → o.op ≠ .select cs b) (hsw : waits md ops s i = true) :
    ∀ (fuel : Nat) (listed : Array Bool) (a : Act),
      (∀ j oj, ops[j]? = some oj → j ≠ i → listed.getD j true = false → (∀ e ∈ oj.after, Region.binds md e = true → e.on ≠ i) → oi.apart ops oj = true) →
      i ∈ Region.ready md ops listed → YieldsIn P ops C oi v a →
      wpAnyT P md ops C s R fuel (listed.setIfInBounds i true) (a.put oi.dst v) → wpAnyT P md ops C s R (fuel + 1) listed a := by
  intro fuel
  induction fuel with
  | zero =>
    intro listed a _ hr hy H
    refine ⟨fun h => (by rw [h] at hr; cases hr), fun j hj => ?_⟩
    by_cases hji : j = i
    · subst hji; exact hy.qOp hi H
    · have h1 := ready_mono hj hji
      rw [H.1] at h1
      have hjs : j = s := by simpa using h1
      subst hjs
      exact absurd hj (not_ready hsw hr)
  | succ fuel ih =>
    intro listed a hfree hr hy H
    refine ⟨fun h => (by rw [h] at hr; cases hr), fun j hj => ?_⟩
    by_cases hji : j = i
    · subst hji; exact hy.qOp hi H
    · have h1 := H.2 j (ready_mono hj hji)
      obtain ⟨hjun, oj, hoj, hall⟩ := mem_ready.1 hj
      have hnot : ∀ e ∈ oj.after, Region.binds md e = true → e.on ≠ i := fun e he hb heq => by
        have h1 := hall e he hb
        have h0 := (mem_ready.1 hr).1
        rw [heq] at h1
        rcases Nat.lt_or_ge i listed.size with h' | h'
        · simp [h'] at h0 h1; rw [h0] at h1; cases h1
        · simp [Array.getElem?_eq_none h'] at h1
      have h2 := qOp_put hoj (hfree j oj hoj hji hjun hnot) (fun cs b => hsel i oi cs b hi) (fun cs b => hsel j oj cs b hoj) hy h1
      have hfree' : ∀ k ok, ops[k]? = some ok → k ≠ i → (listed.setIfInBounds j true).getD k true = false →
          (∀ e ∈ ok.after, Region.binds md e = true → e.on ≠ i) → oi.apart ops ok = true := fun k ok hk hki hun hno => by
        refine hfree k ok hk hki ?_ hno
        by_cases hjk : j = k
        · subst hjk; exact hjun
        · rw [getD_set_ne true hjk] at hun; exact hun
      refine qOp_mono (fun a' h3 => ih (listed.setIfInBounds j true) a' hfree' (ready_mono hr (Ne.symm hji)) h3.1 ?_) h2
      rw [Array.setIfInBounds_comm _ _ hji]
      exact h3.2

/-- The order of the text serves, up to the last operation. -/
def lexT (md : Region.Mode) (ops : Array Oper) (s : Nat) : Nat → Nat → Array Bool → Bool
  | 0, _, listed => (Region.ready md ops listed) == [s] && (Region.ready md ops (listed.setIfInBounds s true)).isEmpty
  | fuel + 1, k, listed => (Region.ready md ops listed).contains k && Region.free md ops listed k && waits md ops s k && lexT md ops s fuel (k + 1) (listed.setIfInBounds k true)

theorem wpAnyT_lex {R : Act → Prop} {s : Nat} (hs : Region.noSelect ops = true) : ∀ (l : List Oper) (k : Nat) (listed : Array Bool) (a : Act), (∀ j o, l[j]? = some o → ops[k + j]? = some o) →
    lexT md ops s l.length k listed = true → wpQuiet P ops C R l a → wpAnyT P md ops C s R l.length listed a
  | [], _, _, _, _, hB, h => by
    simp only [List.length_nil, lexT, Bool.and_eq_true, beq_iff_eq, List.isEmpty_iff] at hB
    exact ⟨hB.1, hB.2, h⟩
  | o :: l, k, listed, a, hl, hB, h => by
    have h0 : ops[k]? = some o := by simpa using hl 0 o rfl
    simp only [List.length_cons, lexT, Bool.and_eq_true] at hB
    obtain ⟨⟨⟨hr, hf⟩, hw⟩, hB'⟩ := hB
    have hst : qOp P ops C k (wpQuiet P ops C R l) a := by unfold qOp; simp only [h0]; exact h
    obtain ⟨v, hy, hK⟩ := yieldsIn_of_qOp h0 hst
    exact wpAnyT_first h0 (Region.noSelect_spec hs) hw l.length listed a (Region.free_spec h0 hf) (by simpa using hr) hy
      (wpAnyT_lex hs l (k + 1) _ _ (fun j o' h' => by have := hl (j + 1) o' (by simpa using h'); simpa [Nat.add_assoc, Nat.add_comm 1 j] using this) hB' hK)

/-- A region that draws, all of whose operations but the last are quiet in a set C of worlds, and whose last waits for all the others. -/
theorem wp_region_tail {id : Nat} {Q : Exit → Act → World → Prop} {a : Act} {w : World} {L : List Oper} (n : Nat) (hm : P.follows .mixedOrders = true) (hn : L.length = n + 1)
    (hB : (Region.noSelect L.toArray && lexT .any L.toArray n n 0 (Array.replicate (n + 1) false)) = true) (hC : C { w with drawn := w.drawn + 1 })
    (h : wpQuiet P L.toArray C (fun a' => ∀ w', C w' → wpOp P L.toArray Q n (fun a'' w'' => Q .normal a'' w'') a' w') (L.take n) a) : (Code.region id L.toArray true).wp P Q a w := by
  simp only [Bool.and_eq_true] at hB
  have hl : (L.take n).length = n := by simp; omega
  refine wp_region_any hm ?_
  have h1 := wpAnyT_lex (C := C) (md := .any) (s := n) hB.1 (L.take n) 0 (Array.replicate (n + 1) false) a (fun j o ho => by
    have : j < n := by have := (List.getElem?_eq_some_iff.1 ho).1; omega
    rw [List.getElem?_take_of_lt this] at ho
    simpa using ho) (by rw [hl]; exact hB.2) h
  rw [hl] at h1
  have h2 := wpAny_of_T (Q' := Q) (fun _ w' hw' h => h w' hw') n _ _ _ hC h1
  have hsz : L.toArray.size = n + 1 := by simpa using hn
  rw [hsz]
  exact h2

/-- One quiet operation that yields a value. -/
theorem quiet_one {R : Act → Prop} {a : Act} {o : Oper} {rest : List Oper} (hw : Region.wanted o (yielded ops a.tmps) = true) (v : Value) (hv : ∀ w, C w → (execOp a.eval o).run P w = .ok (.value v) w)
    (h : wpQuiet P ops C R rest (a.put o.dst v)) : wpQuiet P ops C R (o :: rest) a := by
  refine wpQuiet_step fun K hK => ?_
  rw [if_pos hw]
  exact ⟨v, fun w hc => by unfold Oper.quietAt; rw [hv w hc]; exact ⟨rfl, rfl⟩, hK _ h⟩

/-- A call, by its contract. -/
theorem quiet_call {R : Act → Prop} {a : Act} {o : Oper} {rest : List Oper} (hw : Region.wanted o (yielded ops a.tmps) = true) (f : FuncId) (args : Array Value) (v : Value) (hv : ∀ w, C w → (execOp a.eval o).run P w = .ok (.enter f args) w)
    (hc : ∀ w, C w → Calls P f args w fun e w' => e = .returned v ∧ C w') (h : wpQuiet P ops C R rest (a.put o.dst v)) : wpQuiet P ops C R (o :: rest) a := by
  refine wpQuiet_step fun K hK => ?_
  rw [if_pos hw]
  exact ⟨v, fun w hcw => by unfold Oper.quietAt; rw [hv w hcw]; exact ⟨rfl, hc w hcw⟩, hK _ h⟩
end
end Go.Proofs.Qxb6003734a
