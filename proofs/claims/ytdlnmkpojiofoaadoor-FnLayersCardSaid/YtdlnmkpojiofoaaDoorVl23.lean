/-
  Layers read: the rates, plainly. Conditions: those that stand in each theorem.
-/
import Derived.Test.YtdlnmkpojiofoaaDoorVl22
namespace Go.Proofs.YtdlnmkpojiofoaaDoor
open Go.RowKit
set_option linter.unusedVariables false
set_option linter.unusedSimpArgs false
set_option maxRecDepth 100000

/-- What the blocks of rates hold when l layers are read, and j rates of the next. -/
def valF (rs : List Nat) (l j i : Nat) : List Nat := if i < l then rs else if i = l then rs.take j ++ List.replicate (rs.length - j) 0 else List.replicate rs.length 0
theorem valF_zero (rs : List Nat) : valF rs 0 0 = val0 rs.length := by
  funext i
  unfold valF val0
  rw [if_neg (by omega)]
  split <;> simp
theorem valF_next (rs : List Nat) (l : Nat) : valF rs l rs.length = valF rs (l + 1) 0 := by
  funext i
  unfold valF
  by_cases h1 : i < l
  · rw [if_pos h1, if_pos (by omega)]
  · rw [if_neg h1]
    by_cases h2 : i = l
    · rw [if_pos h2, if_pos (by omega)]; simp
    · rw [if_neg h2, if_neg (by omega)]
      split <;> simp
theorem valF_set (rs : List Nat) (l j : Nat) {r : Nat} (h : rs[j]? = some r) : (fun i => if i = l then (valF rs l j l).set j r else valF rs l j i) = valF rs l (j + 1) := by
  have hj := (List.getElem?_eq_some_iff.1 h).1
  funext i
  by_cases h1 : i = l
  · subst h1
    rw [if_pos rfl]
    unfold valF
    rw [if_neg (by omega), if_pos rfl, if_neg (by omega), if_pos rfl]
    have e : List.replicate (rs.length - j) 0 = 0 :: List.replicate (rs.length - (j + 1)) 0 := by
      rw [← List.replicate_succ]; congr 1; omega
    rw [e, List.set_append_right _ _ (by rw [List.length_take]; omega), List.length_take, Nat.min_eq_left (by omega), Nat.sub_self, List.set_cons_zero, List.take_add_one, h]
    simp
  · rw [if_neg h1]
    unfold valF
    by_cases h2 : i < l
    · rw [if_pos h2, if_pos h2]
    · rw [if_neg h2, if_neg h1, if_neg h2, if_neg h1]
theorem valF_len (rs : List Nat) (l : Nat) {j : Nat} (h : j ≤ rs.length) : (valF rs l j l).length = rs.length := by
  unfold valF
  rw [if_neg (by omega), if_pos rfl, List.length_append, List.length_take, List.length_replicate]; omega
theorem valF_full (rs : List Nat) (L : Nat) {i : Nat} (h : i < L) : valF rs L 0 i = rs := by unfold valF; rw [if_pos h]

theorem LQ.setv {w : World} {B : Nat} {f : Nat → Value → List Value} {T : Nat} {v : Value} {l : Nat} {gs : List Nat} {val : Nat → List Nat} (h : LQ w B f T v l gs val) {i g : Nat} (hg : gs[i]? = some g) (j r : Nat) : LQ (w.setCell ⟨g, j, none⟩ (.int .i64 (r : Int))) B f T v l gs (fun x => if x = i then (val i).set j r else val x) := by
  have hb := h.blk i g hg
  have k : Keep w (w.setCell ⟨g, j, none⟩ (.int .i64 (r : Int))) (· = g) := Keep.set1 _ _ _ _
  refine ⟨h.own.keep k (fun q hq e => by have e' : q = g := e; subst e'; exact (h.own.ne_ hb (by decide)) hq), h.gl, h.ge, h.inj, fun x gx hx => ?_⟩
  by_cases hxi : x = i
  · subst hxi
    rw [hg] at hx
    injection hx with hx
    subst hx
    rw [if_pos rfl]
    have h2 := hb.set_ j (.int .i64 (r : Int))
    rw [List.setIfInBounds_toArray] at h2
    have e : (I64 (val x)).set j (.int .i64 (r : Int)) = I64 ((val x).set j r) := by unfold I64; rw [List.map_set]
    rw [e] at h2
    exact h2
  · rw [if_neg hxi]
    exact (h.blk x gx hx).keep k (fun e => hxi (by have e' : gx = g := e; subst e'; exact h.inj x i gx hx hg))

theorem rbs_split (l m : Nat) (rs : List Nat) : rbs (l + m) rs = rbs l rs ++ rbs m rs := by
  unfold rbs
  rw [← List.flatten_append, List.replicate_append_replicate]
/-- The bytes from a layer's rate on. -/
theorem out_drop {P : Pv} {l j r : Nat} (hl : l < P.L) (hj : P.rs[j]? = some r) : ∃ rest, P.out.drop (1 + P.tl + l * sumN P.rs + sumN (P.rs.take j)) = leb r ++ rest := by
  have hjl := (List.getElem?_eq_some_iff.1 hj).1
  have hrs : P.rs = P.rs.take j ++ (r :: P.rs.drop (j + 1)) := by
    conv => lhs; rw [← List.take_append_drop j P.rs]
    rw [List.drop_eq_getElem_cons hjl, (List.getElem?_eq_some_iff.1 hj).2]
  have e1 : rb P.rs = rb (P.rs.take j) ++ (leb r ++ rb (P.rs.drop (j + 1))) := by
    conv => lhs; rw [hrs]
    simp [rb]
  have e2 : rbs P.L P.rs = rbs l P.rs ++ (rb P.rs ++ rbs (P.L - l - 1) P.rs) := by
    have h1 : P.L = l + (1 + (P.L - l - 1)) := by omega
    conv => lhs; rw [h1]
    rw [rbs_split, rbs_split]
    congr 2
    simp [rbs]
  refine ⟨rb (P.rs.drop (j + 1)) ++ rbs (P.L - l - 1) P.rs ++ (if P.sized then P.szs P.L else []), ?_⟩
  have e3 : P.out = ((P.b0 :: tbL (P.rs.length - 1) P.L P.tl) ++ rbs l P.rs ++ rb (P.rs.take j)) ++ (leb r ++ (rb (P.rs.drop (j + 1)) ++ rbs (P.L - l - 1) P.rs ++ (if P.sized then P.szs P.L else []))) := by
    unfold Pv.out Pv.front
    rw [e2, e1]
    simp only [List.append_assoc, List.cons_append]
  rw [e3]
  refine List.drop_left' ?_
  rw [List.length_append, List.length_append, List.length_cons, tbL_len, rbs_len, rb_len]
  omega
theorem RD.rd {w : World} {P : Pv} {b o gv gu B n c x : Nat} (R : RD w P b o gv gu B) (hn : n = P.len) (hc : n ≤ c) (hm : c ≤ maxLen) (hx : x ≤ n) : Rd w (fun q => q = b) 1 (.slice (some ⟨b, o + x, none⟩) (n - x) (c - x)) (n - x) (B8 (P.out.drop x)) := by
  refine ⟨by rw [B8_len, List.length_drop, P.out_len]; omega, some ⟨b, o + x, none⟩, c - x, rfl, by omega, by omega, (fun h => by cases h), fun j u hu => ⟨_, rfl, rfl, ?_⟩⟩
  unfold B8 at hu
  rw [List.getElem?_map, List.getElem?_drop] at hu
  cases hz : P.out[x + j]? with
  | none => rw [hz] at hu; cases hu
  | some z =>
    rw [hz] at hu
    simp at hu
    subst hu
    rw [add_lit, Nat.add_assoc]
    exact R.dat _ _ hz
/-- A layer's cells, in memory. -/
theorem LQ.at_ {w : World} {B : Nat} {f : Nat → Value → List Value} (h6 : ∀ i d, (f i d).length = 6) {T : Nat} {v : Value} {L : Nat} {gs : List Nat} {val : Nat → List Nat} (h : LQ w B f T v L gs val) {l : Nat} (hl : l < L) :
    ∃ (gb c g : Nat), v = .slice (some ⟨gb, 0, none⟩) L c ∧ B ≤ gb ∧ gb < w.heap.size ∧ L ≤ c ∧ gs[l]? = some g ∧ B ≤ g ∧ ∀ (j : Nat) (u : Value), (f l (slI T g))[j]? = some u → w.cell? ⟨gb, l * 6 + j, none⟩ = some u := by
  obtain ⟨gb, o, c, hv, h1, h2, h3, h4, h5⟩ := h.own.rd.lit (by omega)
  rcases h.own.2 with ⟨h0, _⟩ | ⟨g', _, _, _, hv', hB, _⟩
  · rw [h0] at hv; cases hv
  · rw [hv'] at hv
    injection hv with e1 e2 e3
    injection e1 with e1
    injection e1 with e1 e4
    subst e1 e3 e4
    have hg : gs[l]? = some (gs[l]'(by rw [h.gl]; exact hl)) := List.getElem?_eq_getElem _
    refine ⟨g', _, _, hv', hB, h4, h1, hg, h.ge _ (List.getElem_mem _), fun j u hu => ?_⟩
    have := h5 _ _ (lcsF_at f h6 (gs.map (slI T)) 0 l (slI T (gs[l]'(by rw [h.gl]; exact hl))) (by rw [List.getElem?_map, hg]; rfl) j u (by rw [Nat.zero_add]; exact hu))
    rw [Nat.zero_add] at this
    exact this
theorem l0_len (P : Pv) (i : Nat) (d : Value) : (P.l0 i d).length = 6 := rfl
end Go.Proofs.YtdlnmkpojiofoaaDoor
