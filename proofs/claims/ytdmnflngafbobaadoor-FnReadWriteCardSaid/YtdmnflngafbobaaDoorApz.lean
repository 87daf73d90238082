/-
  append of noughts whose number is given (append of a make), to bytes of the call's own. Conditions: those that stand in each theorem.
-/
import Derived.Test.YtdmnflngafbobaaDoorClone
import Derived.Lib.AppendZerosOnto
namespace Go.Proofs.YtdmnflngafbobaaDoor
open Go.RowKit
set_option linter.unusedVariables false
set_option linter.unusedSimpArgs false
set_option maxRecDepth 20000

section
variable {P : Program} (w : World)
theorem zeroCells_u8 (k : Nat) : Builtin.zeroCells (Value.int .u8 0).cells k = (List.replicate k (Value.int .u8 0)).toArray := by
  rw [show (Value.int .u8 0).cells = #[.int .u8 0] from rfl]
  apply Array.ext
  · simp [Builtin.zeroCells]
  · intro i h1 h2
    simp [Builtin.zeroCells, Nat.mod_one]

theorem run_appz {t tn e : TypeId} {kq kn : IntKind} (T : ET P t e (.int .u8 0) 1 1) (htn : P.underlying tn = some (.int kn)) (ty : TypeId)
    {B : Nat} {v : Value} {n : Nat} {xs : List Value} (hown : Own w B e 1 v n xs) (h0 : 0 < n) (k : Nat) (hk : k ≤ 65535) (hn : n ≤ 70368744177664) (hB : B ≤ w.heap.size) :
    ∃ v' w', (Builtin.append_ #[t, tn] ty #[v, .int kq k]).run P w = .ok v' w' ∧ Own w' B e 1 v' (n + k) (xs ++ List.replicate k (.int .u8 0)) ∧ Keep w w' (fun k => v.ownBlock = some k) ∧
      (v'.ownBlock = v.ownBlock ∨ v'.ownBlock = some w.heap.size) ∧ w'.heap.size ≤ w.heap.size + 1 := by
  obtain ⟨ht, hi, hzs, hsz⟩ := T
  cases hI : P.info? e with
  | none => rw [hI] at hi; cases hi
  | some i =>
    rw [hI] at hi
    simp at hi
    obtain ⟨hz, hs1, hb1⟩ := hi
    have hml : maxLen = 9223372036854775807 := rfl
    rcases hown.2 with ⟨rfl, hn0⟩ | ⟨g, cap, cur, fr, rfl, hBg, hg, hnc, hcm, hcs, hfr, htake⟩
    · omega
    · have hlx : xs.length = n := by have := hown.1; omega
      by_cases hroom : n + k ≤ cap
      · have hst := run_storeCells_cells (P := P) g (0 + n * 1) (List.replicate k (Value.int .u8 0)) 0 w (by
            intro j hj
            simp only [List.length_replicate] at hj
            rw [cell_of_row w g _ cur e fr hg, Array.getElem?_eq_getElem (by omega)]
            rfl) (by
            intro j hj
            simp only [List.length_replicate] at hj
            have h := hfr (0 + n * 1 + (0 + j)) (by omega)
            obtain ⟨lo, hi'⟩ := fr
            unfold World.frozen?
            rw [hg]
            simp only [Bool.and_eq_false_iff, decide_eq_false_iff_not] at h ⊢
            omega) (by intro v hv; rw [List.eq_of_mem_replicate hv]; rfl)
        simp only [Nat.add_zero, Nat.zero_add, Nat.mul_one] at hst
        have hr : (Builtin.append_ #[t, tn] ty #[.slice (some ⟨g, 0, none⟩) n cap, .int kq k]).run P w = .ok (.slice (some ⟨g, 0, none⟩) (n + k) cap) (w.setCells g n (List.replicate k (.int .u8 0))) := by
          have hw : IntKind.i64.wrap (k : Int) = k := by rw [IntKind.wrap_i64]; omega
          have hneg : ¬ ((k : Int) < 0) := by omega
          have h48i : ¬ (281474976710656 < (k : Int) * (i.bytes : Int)) := by rw [hb1]; omega
          by_cases hk0 : k = 0
          · subst hk0
            have hw0 : IntKind.i64.wrap 0 = 0 := by rw [IntKind.wrap_i64]; rfl
            simp [hw0, hnc, Builtin.append_, run_underlying ht, run_underlying htn, sizeOf, typeInfo, zeroValue, hI, hz, asInt, asIntOf, hw, hs1, hroom, Addr.add_lit, World.setCells, storeCells]
          · have hns : ¬ (k * i.size = 0) := by rw [hs1]; omega
            have hzc : (Builtin.zeroCells (Value.int .u8 0).cells k).toList = List.replicate k (Value.int .u8 0) := by rw [zeroCells_u8]
            simp [Builtin.append_, run_underlying ht, run_underlying htn, sizeOf, typeInfo, zeroValue, hI, hz, asInt, asIntOf, hw, hneg, hns, hs1, h48i, hk0, hroom, Addr.add_lit, hzc, hst]
        have hh := heap_setCells (b := g) (List.replicate k (Value.int .u8 0)) n cur w hg (by simp; omega)
        refine ⟨_, _, hr, ⟨by simp [hlx], .inr ⟨g, cap, _, fr, rfl, hBg, hh, hroom, hcm, ?_, ?_, ?_⟩⟩, (keep_setCells _ _ w).mono fun k _ e => (by rw [e]; rfl), .inl rfl, ?_⟩
        · simp only [List.size_toArray, List.length_append, List.length_take, List.length_drop, Array.length_toList, List.length_replicate]
          omega
        · intro j hj
          refine hfr j ?_
          simp only [List.size_toArray, List.length_append, List.length_take, List.length_drop, Array.length_toList, List.length_replicate] at hj
          omega
        · simp only [Nat.mul_one]
          rw [Nat.mul_one] at htake
          rw [htake]
          refine List.take_left' ?_
          simp [hlx]
        · rw [size_setCells]; omega
      · have hf : (Builtin.firstCells i.size n (.slice (some ⟨g, 0, none⟩) n cap)).run P w.drew = .ok xs.toArray w.drew := by
          refine run_firstCells_some w.drew i.size n ⟨g, 0, none⟩ n cap xs (by rw [hs1]; omega) fun j u hu => ?_
          obtain ⟨_, A, c, hv, _, _, _, h5⟩ := hown.rd
          obtain ⟨ad, e1, _, hc⟩ := h5 j u hu
          injection hv with hv
          rw [e1] at hv
          injection hv with hv
          subst hv
          exact hc
        have hr := Lib.run_append_grow_zeros (P := P) w t tn ty e i (.int .u8 0) kq kn ht htn hI hz (some ⟨g, 0, none⟩) n cap xs hf k (by omega) (by omega) (by omega) (by omega) (by rw [hb1]; omega) (growslice_fits (by omega) (by rw [hb1]; omega))
        have hge := grownCap_ge w (n + k) cap e
        have hcm' := grownCap_le_maxLen w (n + k) cap e (by omega)
        refine ⟨_, _, hr, ⟨by simp [hlx], .inr ⟨w.heap.size, _, _, (0, 0), rfl, hB, heap_alloc_new w.drew _, hge, hcm', ?_, fun j _ => by simp, ?_⟩⟩, ((Keep.refl w _).drew).alloc _, .inr rfl, by simp⟩
        · rw [zeroCells_u8, zeroCells_u8]
          simp [hlx]
          omega
        · rw [zeroCells_u8, zeroCells_u8]
          simp only [Array.toList_append, Nat.mul_one]
          refine List.take_left' ?_
          simp [hlx]
end

/-- The same, as a step of a region that draws its order. -/
theorem step_appz {P : Program} {w : World} {ops : Array Oper} {o : Oper} {a : Act} {K : Act → World → Prop} {Q : Exit → Act → World → Prop} {E : Prop} {t tn e : TypeId} {kn : IntKind} (T : ET P t e (.int .u8 0) 1 1) (htn : P.underlying tn = some (.int kn)) (hgd : o.guard = none) (s x : Operand)
    (ho : o.op = .call { callee := .builtin .append, args := #[s, x], argTypes := #[t, tn] })
    {B : Nat} {v : Value} {n : Nat} {xs : List Value} (hown : Own w B e 1 v n xs) (hv : a.eval s = v) (h0 : 0 < n) {kq : IntKind} (k : Nat) {z : Int} (hz : z = (k : Int)) (hx : a.eval x = .int kq z) (hk : k ≤ 65535) (hn : n ≤ 70368744177664) (hB : B ≤ w.heap.size)
    (h : ∀ v' w', Own w' B e 1 v' (n + k) (xs ++ List.replicate k (.int .u8 0)) → Keep w w' (fun k => v.ownBlock = some k) → (v'.ownBlock = v.ownBlock ∨ v'.ownBlock = some w.heap.size) → w'.heap.size ≤ w.heap.size + 1 → w.heap.size ≤ w'.heap.size → K (a.put o.dst v') w') :
    if Region.wanted o (yielded ops a.tmps) = true then Oper.wp P o a w K Q else E := by
  have hw : Region.wanted o (yielded ops a.tmps) = true := by simp [Region.wanted, hgd]
  rw [if_pos hw]
  subst hz
  obtain ⟨v', w', hr, h1, h2, h3, h4⟩ := run_appz (P := P) w (kq := kq) T htn o.type hown h0 k hk hn hB
  unfold Oper.wp execOp
  simp only [ho, resolve, invoke, builtin, Sem.run_bind, Sem.run_pure, Result.andThen_ok, List.map_toArray, List.map_cons, List.map_nil, hv, hx, hr]
  exact h v' w' h1 h2 h3 h4 h2.size
end Go.Proofs.YtdmnflngafbobaaDoor
