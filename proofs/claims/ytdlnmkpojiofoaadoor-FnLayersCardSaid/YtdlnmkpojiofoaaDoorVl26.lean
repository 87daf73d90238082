/-
  Layers read: the sizes, plainly. Conditions: those that stand in each theorem.
-/
import Derived.Test.YtdlnmkpojiofoaaDoorVl25
namespace Go.Proofs.YtdlnmkpojiofoaaDoor
open Go.RowKit
set_option linter.unusedVariables false
set_option linter.unusedSimpArgs false
set_option maxRecDepth 100000

/-- One cell of the call's own slice turned. -/
theorem Own.setc {w : World} {B : Nat} {e : TypeId} {sz g c n : Nat} {xs : List Value} (h : Own w B e sz (.slice (some ⟨g, 0, none⟩) n c) n xs) (i : Nat) (u : Value) (hi : i < n * sz) :
    Own (w.setCell ⟨g, i, none⟩ u) B e sz (.slice (some ⟨g, 0, none⟩) n c) n (xs.set i u) ∧ (∃ v, w.cell? ⟨g, i, none⟩ = some v) ∧ w.frozen? ⟨g, i, none⟩ = false := by
  have hl := h.1
  rcases h.2 with ⟨h0, _⟩ | ⟨g', cap, cur, fr, hv, hB, hg, hnc, hcm, hcs, hfr, htk⟩
  · cases h0
  · injection hv with e1 e2 e3
    injection e1 with e1
    injection e1 with e1
    subst e1 e3
    have hm : n * sz ≤ c * sz := Nat.mul_le_mul_right _ hnc
    refine ⟨⟨by simpa using hl, .inr ⟨g, c, cur.setIfInBounds i u, fr, rfl, hB, ?_, hnc, hcm, by simpa using hcs, by simpa using hfr, ?_⟩⟩, ?_, ?_⟩
    · simp [World.setCell, Array.getElem?_modify, hg]
    · rw [Array.toList_setIfInBounds, List.take_set, htk]
    · exact ⟨cur[i]'(by omega), by rw [cell_of_row w g i cur e fr hg]; exact Array.getElem?_eq_getElem _⟩
    · have h := hfr i (by omega)
      obtain ⟨lo, hi'⟩ := fr
      unfold World.frozen?
      rw [hg]
      simp only [Bool.and_eq_false_iff, decide_eq_false_iff_not] at h ⊢
      omega

/-- One cell of layer l turned. -/
def setF (f : Nat → Value → List Value) (l j : Nat) (u : Value) : Nat → Value → List Value := fun i d => if i = l then (f i d).set j u else f i d
theorem setF_len {f : Nat → Value → List Value} (h6 : ∀ i d, (f i d).length = 6) (l j : Nat) (u : Value) (i : Nat) (d : Value) : (setF f l j u i d).length = 6 := by
  unfold setF
  split
  · rw [List.length_set, h6]
  · exact h6 _ _
theorem lcsF_congr {f f' : Nat → Value → List Value} : ∀ (ds : List Value) (i : Nat), (∀ x d, i ≤ x → x < i + ds.length → f x d = f' x d) → lcsF f i ds = lcsF f' i ds
  | [], _, _ => rfl
  | d :: ds, i, h => by
    rw [lcsF, lcsF, h i d (by omega) (by simp), lcsF_congr ds (i + 1) (fun x d h1 h2 => h x d (by omega) (by simp; omega))]
theorem lcsF_set {f : Nat → Value → List Value} (h6 : ∀ i d, (f i d).length = 6) (j : Nat) (u : Value) (hj : j < 6) : ∀ (ds : List Value) (i l : Nat), l < ds.length → (lcsF f i ds).set (l * 6 + j) u = lcsF (setF f (i + l) j u) i ds
  | [], _, _, h => by simp at h
  | d :: ds, i, 0, h => by
    rw [lcsF, lcsF, Nat.zero_mul, Nat.zero_add, List.set_append_left _ _ (by rw [h6]; exact hj)]
    congr 1
    · unfold setF; rw [Nat.add_zero, if_pos rfl]
    · exact lcsF_congr ds (i + 1) (fun x d h1 _ => by unfold setF; rw [if_neg (by omega)])
  | d :: ds, i, l + 1, h => by
    rw [lcsF, lcsF, List.set_append_right _ _ (by rw [h6]; omega), h6, show (l + 1) * 6 + j - 6 = l * 6 + j by omega, lcsF_set h6 j u hj ds (i + 1) l (by simpa using h)]
    congr 1
    · unfold setF; rw [if_neg (by omega)]
    · rw [show i + 1 + l = i + (l + 1) by omega]
theorem LQ.setF_ {w : World} {B gb c L : Nat} {f : Nat → Value → List Value} (h6 : ∀ i d, (f i d).length = 6) {T : Nat} {gs : List Nat} {val : Nat → List Nat} (h : LQ w B f T (.slice (some ⟨gb, 0, none⟩) L c) L gs val) {l j : Nat} (hl : l < L) (hj : j < 6) (u : Value) :
    LQ (w.setCell ⟨gb, l * 6 + j, none⟩ u) B (setF f l j u) T (.slice (some ⟨gb, 0, none⟩) L c) L gs val ∧ (∃ v, w.cell? ⟨gb, l * 6 + j, none⟩ = some v) ∧ w.frozen? ⟨gb, l * 6 + j, none⟩ = false := by
  obtain ⟨h1, h2, h3⟩ := h.own.setc (l * 6 + j) u (by have : (l + 1) * 6 ≤ L * 6 := Nat.mul_le_mul_right _ hl; omega)
  rw [lcsF_set h6 j u hj _ 0 l (by rw [List.length_map, h.gl]; exact hl), Nat.zero_add] at h1
  have k : Keep w (w.setCell ⟨gb, l * 6 + j, none⟩ u) (· = gb) := Keep.set1 _ _ _ _
  exact ⟨⟨h1, h.gl, h.ge, h.inj, fun i g hg => (h.blk i g hg).keep k (fun e => by have e' : g = gb := e; subst e'; exact (h.own.ne_ (h.blk i g hg) (by decide)) rfl)⟩, h2, h3⟩
theorem LQ.congrF {w : World} {B : Nat} {f f' : Nat → Value → List Value} {T : Nat} {v : Value} {l : Nat} {gs : List Nat} {val : Nat → List Nat} (h : LQ w B f T v l gs val) (hf : ∀ i d, i < l → f i d = f' i d) : LQ w B f' T v l gs val :=
  ⟨by rw [← lcsF_congr (f := f) (f' := f') _ 0 (fun x d _ h2 => hf x d (by rw [List.length_map, h.gl] at h2; omega))]; exact h.own, h.gl, h.ge, h.inj, h.blk⟩

/-- The cells of layers when the sizes of l are read. -/
def Pv.fS (P : Pv) (l i : Nat) (d : Value) : List Value := if i < l then P.lc i d else P.l0 i d
theorem fS_len (P : Pv) (l i : Nat) (d : Value) : (P.fS l i d).length = 6 := by unfold Pv.fS; split <;> rfl
theorem fS_zero (P : Pv) : P.fS 0 = P.l0 := by funext i d; unfold Pv.fS; rw [if_neg (by omega)]
theorem fS_next (P : Pv) (l : Nat) : setF (setF (setF (P.fS l) l 3 (.int .i64 (P.W l : Nat))) l 4 (.int .i64 (P.H l : Nat))) l 5 (.int .i64 (P.F : Nat)) = P.fS (l + 1) := by
  funext i d
  by_cases h : i = l
  · subst h
    simp only [setF, if_true, Pv.fS]
    rw [if_neg (by omega), if_pos (by omega)]
    rfl
  · simp only [setF, if_neg h, Pv.fS]
    by_cases h2 : i < l
    · rw [if_pos h2, if_pos (by omega)]
    · rw [if_neg h2, if_neg (by omega)]
theorem l0_unsized {P : Pv} (h : P.sized = false) (i : Nat) (d : Value) : P.l0 i d = P.lc i d := by
  unfold Pv.l0 Pv.lc Pv.W Pv.H Pv.F
  simp [h]
theorem szs_at (P : Pv) {j : Nat} (hj : j < 5) : ∀ (n l : Nat), l < n → (P.szs n)[l * 5 + j]? = (P.sz5 l)[j]?
  | 0, _, h => by omega
  | n + 1, l, h => by
    have h1 := P.szs_len n
    rw [Pv.szs_succ]
    by_cases hl : l < n
    · rw [List.getElem?_append_left (by have : (l + 1) * 5 ≤ n * 5 := Nat.mul_le_mul_right _ hl; omega)]
      exact szs_at P hj n l hl
    · obtain rfl : l = n := by omega
      rw [List.getElem?_append_right (by omega), h1, show l * 5 + j - l * 5 = j by omega]
/-- The bytes of a layer's sizes. -/
theorem out_sz {P : Pv} (hs : P.sized = true) {l j : Nat} (hl : l < P.L) (hj : j < 5) : P.out[1 + P.tl + P.L * sumN P.rs + l * 5 + j]? = (P.sz5 l)[j]? := by
  have h1 := P.front_len
  unfold Pv.out
  rw [hs, if_pos rfl, List.getElem?_append_right (by omega), h1, show 1 + P.tl + P.L * sumN P.rs + l * 5 + j - (1 + P.tl + P.L * sumN P.rs) = l * 5 + j by omega]
  exact szs_at P hj _ _ hl
theorem len_sized {P : Pv} (hs : P.sized = true) : P.len = 1 + P.tl + P.L * sumN P.rs + P.L * 5 := by unfold Pv.len; rw [hs, if_pos rfl]
theorem len_unsized {P : Pv} (hs : P.sized = false) : P.len = 1 + P.tl + P.L * sumN P.rs := by unfold Pv.len; rw [hs]; simp
end Go.Proofs.YtdlnmkpojiofoaaDoor
