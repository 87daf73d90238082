/-
  A region that draws its order, whose last operation waits for all others: the others first, in whatever order, then the last. Conditions: those that stand in each theorem.
-/
import Derived.Test.YtdlnmkpojiofoaaDoorGMem
import Derived.Deep.RegionHeld3
namespace Go.Proofs.YtdlnmkpojiofoaaDoor
open Go.RowKit
set_option linter.unusedVariables false

section
variable {P : Program} {md : Region.Mode} {l : List Oper} {st : Oper} {Q : Exit → Act → World → Prop} {S : World → Prop}

/-- Each operation waits for earlier ones alone, each but the last is waited for by a later one, and none is guarded. -/
def lastB (md : Region.Mode) (ops : Array Oper) : Bool :=
  ((List.range ops.size).all fun k => (ops[k]?.map fun o => o.guard.isNone && o.after.all fun e => decide (e.on < k)).getD false) &&
  ((List.range (ops.size - 1)).all fun j => (List.range ops.size).any fun k => decide (j < k) && (ops[k]?.map fun o => o.after.any fun e => Region.binds md e && e.on == j).getD false)

/-- The post of the region without its last operation. -/
def Rest (P : Program) (st : Oper) (Q : Exit → Act → World → Prop) : Exit → Act → World → Prop
  | .normal, a, w => ∀ K' : Act → World → Prop, (∀ a w, Q .normal a w → K' a w) → Oper.wp P st a w K' Q
  | e, a, w => Q e a w

structure Lst (md : Region.Mode) (ops : Array Oper) (n : Nat) : Prop where
  free : ∀ (k : Nat) (o : Oper), ops[k]? = some o → o.guard = none
  back : ∀ (k : Nat) (o : Oper), ops[k]? = some o → ∀ e ∈ o.after, e.on < k
  use : ∀ j, j < n → ∃ (k : Nat) (o : Oper) (e : _), j < k ∧ ops[k]? = some o ∧ e ∈ o.after ∧ Region.binds md e = true ∧ e.on = j

theorem lst_of {ops : Array Oper} (h : lastB md ops = true) : Lst md ops (ops.size - 1) := by
  unfold lastB at h
  rw [Bool.and_eq_true, List.all_eq_true, List.all_eq_true] at h
  obtain ⟨h1, h2⟩ := h
  have h1' : ∀ (k : Nat) (o : Oper), ops[k]? = some o → o.guard = none ∧ ∀ e ∈ o.after, e.on < k := fun k o hk => by
    have := h1 k (List.mem_range.2 (Array.getElem?_eq_some_iff.1 hk).1)
    rw [hk] at this
    simp only [Option.map_some, Option.getD_some, Bool.and_eq_true, Option.isNone_iff_eq_none] at this
    refine ⟨this.1, fun e he => ?_⟩
    have := Array.all_eq_true_iff_forall_mem.1 this.2 e he
    simpa using this
  refine ⟨fun k o hk => (h1' k o hk).1, fun k o hk => (h1' k o hk).2, fun j hj => ?_⟩
  have := h2 j (List.mem_range.2 hj)
  rw [List.any_eq_true] at this
  obtain ⟨k, _, hk⟩ := this
  rw [Bool.and_eq_true] at hk
  obtain ⟨a1, a2⟩ := hk
  cases ho : ops[k]? with
  | none => rw [ho] at a2; simp at a2
  | some o =>
    rw [ho] at a2
    simp only [Option.map_some, Option.getD_some, Array.any_eq_true] at a2
    obtain ⟨i, hi, he⟩ := a2
    simp only [Bool.and_eq_true, beq_iff_eq] at he
    exact ⟨k, o, o.after[i], by simpa using a1, ho, Array.getElem_mem _, he.1, he.2⟩

/-- What has come up waits for nothing that has not. -/
def Down (md : Region.Mode) (ops : Array Oper) (L : Array Bool) : Prop :=
  ∀ (k : Nat) (o : Oper), ops[k]? = some o → L.getD k true = true → ∀ e ∈ o.after, Region.binds md e = true → L.getD e.on false = true

theorem getD_eq {L : Array Bool} {k : Nat} (h : k < L.size) (d : Bool) : L.getD k d = L[k] := by simp [Array.getD, h]

/-- If the last may come up, all others have. -/
theorem all_listed {ops : Array Oper} {n : Nat} (H : Lst md ops n) {L : Array Bool} (hsz : L.size = ops.size) (hD : Down md ops L) (hn : ops.size = n + 1) (hr : n ∈ Region.ready md ops L) :
    ∀ (m j : Nat), j < n → n - j ≤ m → L.getD j true = true := by
  intro m
  induction m with
  | zero => intro j hj hm; omega
  | succ m ih =>
    intro j hj hm
    obtain ⟨k, o, e, hjk, ho, he, hb, hon⟩ := H.use j hj
    have hks := (Array.getElem?_eq_some_iff.1 ho).1
    have hj2 : j < L.size := by omega
    by_cases hkn : k = n
    · subst hkn
      obtain ⟨_, o', ho', hall⟩ := mem_ready.1 hr
      rw [ho] at ho'
      injection ho' with ho'
      subst ho'
      have := hall e he hb
      rw [hon, getD_eq hj2] at this
      rw [getD_eq hj2]; exact this
    · have hk := ih k (by omega) (by omega)
      have := hD k o ho hk e he hb
      rw [hon, getD_eq hj2] at this
      rw [getD_eq hj2]; exact this

/-- Where nothing may come up, all have. -/
theorem none_ready {ops : Array Oper} (hback : ∀ (k : Nat) (o : Oper), ops[k]? = some o → ∀ e ∈ o.after, e.on < k) {L : Array Bool} (hsz : L.size = ops.size) (hr : Region.ready md ops L = []) : ∀ (m j : Nat), j < ops.size → j < m → L.getD j true = true := by
  intro m
  induction m with
  | zero => intro j _ h; omega
  | succ m ih =>
    intro j hj hm
    cases hb : L.getD j true
    · exfalso
      have ho : ops[j]? = some ops[j] := Array.getElem?_eq_getElem hj
      have : j ∈ Region.ready md ops L := mem_ready.2 ⟨hb, _, ho, fun e he hbe => by
        have hlt := hback j _ ho e he
        have := ih e.on (by omega) (by omega)
        rw [getD_eq (by omega)] at this
        rw [getD_eq (by omega)]; exact this⟩
      rw [hr] at this
      cases this
    · rfl

theorem upon_rest {o : Oper} {a : Act} {w : World} {K K' : Act → World → Prop} (hk : ∀ a w, K a w → K' a w) (h : Oper.wp P o a w K (Rest P st Q)) : Oper.wp P o a w K' Q := by
  have h' : Oper.wp P o a w K Q := by
    unfold Oper.wp at *
    generalize (execOp a.eval o).run P w = r at *
    cases r with
    | ok n w' =>
      cases n <;> simp only [Oper.upon] at h ⊢
      case value u => exact h
      case skip => exact h
      case defer d => exact h
      case enter f args =>
        refine Calls.mono h fun e w'' he => ?_
        cases e with
        | returned u => exact he
        | panicked c => exact he
        | outgrown =>
          obtain ⟨a', w3, h3⟩ := he
          exact ⟨a', w3, h3⟩
      case row row args => exact h
    | halt x w' =>
      cases x <;> simp only [Oper.upon] at h ⊢
      case panic u => exact h
  exact Oper.wp_mono hk h'

theorem wpOp_rest {ops ops1 : Array Oper} {i : Nat} {o : Oper} {a : Act} {w : World} {K K' : Act → World → Prop} (hi : ops[i]? = some o) (hi1 : ops1[i]? = some o) (hg : o.guard = none) (hk : ∀ a w, K a w → K' a w)
    (h : wpOp P ops (Rest P st Q) i K a w) : wpOp P ops1 Q i K' a w := by
  have w1 : ∀ y, Region.wanted o y = true := fun y => by simp [Region.wanted, hg]
  unfold wpOp at *
  simp only [hi, hi1, w1, if_true] at *
  rcases h with h | ⟨h1, a', w', h2⟩
  · exact .inl (upon_rest hk h)
  · exact .inr ⟨h1, a', w', h2⟩

theorem wpOp_last {ops1 : Array Oper} {i : Nat} {a : Act} {w : World} {K : Act → World → Prop} (hi1 : ops1[i]? = some st) (hg : st.guard = none) (hk : ∀ a w, Q .normal a w → K a w) (h : Rest P st Q .normal a w) : wpOp P ops1 Q i K a w := by
  have w1 : ∀ y, Region.wanted st y = true := fun y => by simp [Region.wanted, hg]
  unfold wpOp
  simp only [hi1, w1, if_true]
  exact .inl (h K hk)

theorem any_last (H : Lst md (l ++ [st]).toArray l.length) :
    ∀ (fuel : Nat) (L : Array Bool) (a : Act) (w : World), L.size = l.length → Down md (l ++ [st]).toArray (L.push false) →
      wpAny P md l.toArray (Rest P st Q) fuel L a w → wpAny P md (l ++ [st]).toArray Q (fuel + 1) (L.push false) a w := by
  have hsz1 : (l ++ [st]).toArray.size = l.length + 1 := by simp
  have hst : (l ++ [st]).toArray[l.length]? = some st := by simp
  have hop : ∀ i, i < l.length → (l ++ [st]).toArray[i]? = l.toArray[i]? := fun i hi => by simp [List.getElem?_append_left hi]
  have hpush : ∀ (L : Array Bool) (k : Nat) (d : Bool), L.size = l.length → k < l.length → (L.push false).getD k d = L.getD k d := fun L k d hL hk => by
    rw [getD_eq (by simp; omega), getD_eq (by omega), Array.getElem_push_lt (by omega)]
  -- what may come up, but the last, may come up in the shorter one
  have hready : ∀ (L : Array Bool) (i : Nat), L.size = l.length → i < l.length → (i ∈ Region.ready md (l ++ [st]).toArray (L.push false) ↔ i ∈ Region.ready md l.toArray L) := fun L i hL hi => by
    rw [mem_ready, mem_ready, hpush L i true hL hi, hop i hi]
    constructor
    · rintro ⟨h0, o, ho, hall⟩
      refine ⟨h0, o, ho, fun e he hb => ?_⟩
      have hlt := H.back i o (by rw [hop i hi]; exact ho) e he
      have := hall e he hb
      rwa [hpush L e.on false hL (by omega)] at this
    · rintro ⟨h0, o, ho, hall⟩
      refine ⟨h0, o, ho, fun e he hb => ?_⟩
      have hlt := H.back i o (by rw [hop i hi]; exact ho) e he
      rw [hpush L e.on false hL (by omega)]
      exact hall e he hb
  have hlast : ∀ (L : Array Bool), L.size = l.length → (∀ j, j < l.length → L.getD j true = true) → l.length ∈ Region.ready md (l ++ [st]).toArray (L.push false) := fun L hL hall => by
    rw [mem_ready]
    refine ⟨by rw [getD_eq (by simp; omega)]; simp [← hL], st, hst, fun e he hb => ?_⟩
    have hlt := H.back _ _ hst e he
    have := hall e.on hlt
    rw [getD_eq (by omega)] at this
    rw [hpush L e.on false hL hlt, getD_eq (by omega)]
    exact this
  have hempty : ∀ (L : Array Bool), L.size = l.length → (∀ j, j < l.length → L.getD j true = true) → Region.ready md l.toArray L = [] := fun L hL hall => by
    refine List.eq_nil_iff_forall_not_mem.2 fun j hj => ?_
    obtain ⟨h0, o, ho, _⟩ := mem_ready.1 hj
    have hlt : j < l.length := by simpa using (Array.getElem?_eq_some_iff.1 ho).1
    rw [hall j hlt] at h0
    cases h0
  have hdone : ∀ (L : Array Bool), L.size = l.length → (∀ j, j < l.length → L.getD j true = true) → Region.ready md (l ++ [st]).toArray ((L.push false).setIfInBounds l.length true) = [] := fun L hL hall => by
    refine List.eq_nil_iff_forall_not_mem.2 fun j hj => ?_
    obtain ⟨h0, o, ho, _⟩ := mem_ready.1 hj
    have hlt : j < l.length + 1 := by simpa using (Array.getElem?_eq_some_iff.1 ho).1
    by_cases hjn : j = l.length
    · subst hjn
      rw [getD_eq (by simp; omega)] at h0
      simp at h0
    · have := hall j (by omega)
      rw [getD_set_ne true (by omega), hpush L j true hL (by omega), this] at h0
      cases h0
  have hallOf : ∀ (L : Array Bool), L.size = l.length → Region.ready md l.toArray L = [] → (∀ j, j < l.length → L.getD j true = true) := fun L hL hr j hj => by
    exact none_ready (fun k o hk => H.back k o (by rw [hop k (by simpa using (Array.getElem?_eq_some_iff.1 hk).1)]; exact hk)) (by simp [hL]) hr (j + 1) j (by simpa using hj) (by omega)
  have hall1 : ∀ (L : Array Bool), L.size = l.length → Down md (l ++ [st]).toArray (L.push false) → l.length ∈ Region.ready md (l ++ [st]).toArray (L.push false) → (∀ j, j < l.length → L.getD j true = true) := fun L hL hD hr j hj => by
    have := all_listed H (by simp [hL]) hD hsz1 hr l.length j hj (by omega)
    rwa [hpush L j true hL hj] at this
  have hne : ∀ (L : Array Bool), L.size = l.length → Region.ready md (l ++ [st]).toArray (L.push false) ≠ [] := fun L hL h0 => by
    by_cases hr : Region.ready md l.toArray L = []
    · have := hlast L hL (hallOf L hL hr)
      rw [h0] at this
      cases this
    · obtain ⟨j, hj⟩ := List.exists_mem_of_ne_nil _ hr
      have hlt : j < l.length := by
        obtain ⟨_, o, ho, _⟩ := mem_ready.1 hj
        simpa using (Array.getElem?_eq_some_iff.1 ho).1
      have := (hready L j hL hlt).2 hj
      rw [h0] at this
      cases this
  have hmem : ∀ (L : Array Bool) (i : Nat), i ∈ Region.ready md (l ++ [st]).toArray (L.push false) → i ≠ l.length → i < l.length := fun L i hi hne => by
    obtain ⟨_, o, ho, _⟩ := mem_ready.1 hi
    have : i < l.length + 1 := by simpa using (Array.getElem?_eq_some_iff.1 ho).1
    omega
  intro fuel
  induction fuel with
  | zero =>
    intro L a w hL hD h
    refine ⟨fun h0 => absurd h0 (hne L hL), fun i hi => ?_⟩
    have hA := hallOf L hL h.1
    by_cases hin : i = l.length
    · subst hin
      refine wpOp_last hst (H.free _ _ hst) (fun a' w' hq => ?_) h.2
      exact ⟨hdone L hL hA, hq⟩
    · have := (hready L i hL (hmem L i hi hin)).1 hi
      rw [h.1] at this
      cases this
  | succ fuel ih =>
    intro L a w hL hD h
    refine ⟨fun h0 => absurd h0 (hne L hL), fun i hi => ?_⟩
    by_cases hin : i = l.length
    · subst hin
      have hA := hall1 L hL hD hi
      refine wpOp_last hst (H.free _ _ hst) (fun a' w' hq => ?_) (h.1 (hempty L hL hA))
      have hd := hdone L hL hA
      exact ⟨fun _ => hq, by rw [hd]; simp⟩
    · have hil := hmem L i hi hin
      have hi' := (hready L i hL hil).1 hi
      have hs : (L.push false).setIfInBounds i true = (L.setIfInBounds i true).push false := by
        rw [← Array.toList_inj]
        simp only [Array.toList_setIfInBounds, Array.toList_push]
        rw [List.set_append_left _ _ (by simpa [hL] using hil)]
      refine wpOp_rest (o := l[i]) (by simp [hil]) (by rw [hop i hil]; simp [hil]) (H.free i _ (by rw [hop i hil]; simp [hil])) (fun a' w' hk => ?_) (h.2 i hi')
      rw [hs]
      refine ih _ a' w' (by simp [hL]) ?_ hk
      rw [← hs]
      intro k o ho hk' e he hb
      by_cases hki : k = i
      · subst hki
        obtain ⟨_, o', ho', hall⟩ := mem_ready.1 hi
        rw [ho] at ho'
        injection ho' with ho'
        subst ho'
        exact getD_set_true (hall e he hb)
      · rw [getD_set_ne true (Ne.symm hki)] at hk'
        exact getD_set_true (hD k o ho hk' e he hb)

/-- THE LAW. -/
theorem region_last {id : Nat} {a : Act} {w : World} (hm : P.follows .mixedOrders = true) (hb : lastB .any (l ++ [st]).toArray = true) (hS : S w.drew)
    (h : S w.drew → wpAnyH P .any l.toArray (Rest P st Q) S l.length (Array.replicate l.length false) a w.drew) : (Code.region id (l ++ [st]).toArray true).wp P Q a w := by
  have H := lst_of hb
  rw [show (l ++ [st]).toArray.size - 1 = l.length by simp] at H
  refine wp_region_any hm ?_
  have h1 := any_last (Q := Q) H l.length (Array.replicate l.length false) a w.drew (by simp) (fun k o ho hk e he hbb => by
    have hks := (Array.getElem?_eq_some_iff.1 ho).1
    rw [getD_eq (by simp at hks ⊢; omega)] at hk
    exfalso
    rw [Array.getElem_push] at hk
    split at hk
    · simp at hk
    · cases hk) (wpAny_of_held _ _ _ _ (h hS))
  have e1 : (Array.replicate l.length false).push false = Array.replicate (l.length + 1) false := by
    apply Array.ext
    · simp
    · intro j h1 h2
      rw [Array.getElem_push]
      split <;> simp
  rw [e1] at h1
  rw [show (l ++ [st]).toArray.size = l.length + 1 by simp]
  exact h1
/-- The same, of a region as it is written. -/
theorem region_last' {ops : List Oper} {id : Nat} {a : Act} {w : World} (hm : P.follows .mixedOrders = true) (hb : lastB .any ops.toArray = true) (hl : ops.dropLast = l) (hs : ops.getLast? = some st) (hS : S w.drew)
    (h : S w.drew → wpAnyH P .any l.toArray (Rest P st Q) S l.length (Array.replicate l.length false) a w.drew) : (Code.region id ops.toArray true).wp P Q a w := by
  have e : ops = l ++ [st] := by
    rw [← hl]
    have hne : ops ≠ [] := by rintro rfl; simp at hs
    rw [List.getLast?_eq_some_getLast hne] at hs
    injection hs with hs
    rw [← hs]
    exact (List.dropLast_concat_getLast hne).symm
  rw [e] at hb ⊢
  exact region_last hm hb hS h
end
end Go.Proofs.YtdlnmkpojiofoaaDoor
