/-
  Layers that a call itself gathers. Conditions: those that stand in each theorem.
-/
import Derived.Test.YtdlnmkpojiofoaaDoorVl15
namespace Go.Proofs.YtdlnmkpojiofoaaDoor
open Go.RowKit
set_option linter.unusedVariables false
set_option linter.unusedSimpArgs false
set_option maxRecDepth 100000

/-- The cells of layers from number i on, each's rates given. -/
def lcsF (f : Nat → Value → List Value) : Nat → List Value → List Value
  | _, [] => []
  | i, d :: ds => f i d ++ lcsF f (i + 1) ds
theorem lcsF_snoc (f : Nat → Value → List Value) : ∀ (ds : List Value) (i : Nat) (d : Value), lcsF f i (ds ++ [d]) = lcsF f i ds ++ f (i + ds.length) d
  | [], i, d => by simp [lcsF]
  | e :: ds, i, d => by
    rw [List.cons_append, lcsF, lcsF, lcsF_snoc f ds (i + 1) d, List.append_assoc, List.length_cons]
    congr 3
    omega
theorem lcsF_at (f : Nat → Value → List Value) (h6 : ∀ i d, (f i d).length = 6) : ∀ (ds : List Value) (i l : Nat) (d : Value), ds[l]? = some d → ∀ (j : Nat) (u : Value), (f (i + l) d)[j]? = some u → (lcsF f i ds)[l * 6 + j]? = some u
  | [], _, _, _, h, _, _, _ => by simp at h
  | e :: ds, i, 0, d, h, j, u, hu => by
    simp at h
    subst h
    have hj := (List.getElem?_eq_some_iff.1 hu).1
    rw [lcsF, Nat.zero_mul, Nat.zero_add, List.getElem?_append_left (by exact hj)]
    exact hu
  | e :: ds, i, l + 1, d, h, j, u, hu => by
    rw [lcsF, List.getElem?_append_right (by rw [h6]; omega), h6, show (l + 1) * 6 + j - 6 = l * 6 + j by omega]
    exact lcsF_at f h6 ds (i + 1) l d (by simpa using h) j u (by rw [show i + 1 + l = i + (l + 1) by omega]; exact hu)
theorem lc_len (P : Pv) (i : Nat) (d : Value) : (P.lc i d).length = 6 := rfl

theorem LR.mono {w : World} {p q : Nat → Prop} {P : Pv} {b o : Nat} {ds : List Value} (h : LR w p P b o ds) (hq : ∀ k, k < w.heap.size → p k → q k) : LR w q P b o ds :=
  ⟨h.dl, h.blt, hq b h.blt h.pb, h.cell, fun l d hd => (h.rate l d hd).mono hq⟩

/-- Layers that the call itself made. -/
structure LO (w : World) (B : Nat) (e : TypeId) (f : Nat → Value → List Value) (rs : List Nat) (v : Value) (l : Nat) (ds : List Value) : Prop where
  own : Own w B e 6 v l (lcsF f 0 ds)
  dl : ds.length = l
  rate : ∀ (i : Nat) (d : Value), ds[i]? = some d → Rd w (fun q => B ≤ q ∧ v.ownBlock ≠ some q) 1 d rs.length (I64 rs)
theorem LO.keep0 {w w' : World} {B : Nat} {e : TypeId} {f : Nat → Value → List Value} {rs : List Nat} {v : Value} {l : Nat} {ds : List Value} (h : LO w B e f rs v l ds) (k : Keep w w' Nul) : LO w' B e f rs v l ds :=
  ⟨h.own.keep0 k, h.dl, fun i d hd => (h.rate i d hd).keep0 k⟩
theorem LO.keep {w w' : World} {B : Nat} {S : Nat → Prop} {e : TypeId} {f : Nat → Value → List Value} {rs : List Nat} {v : Value} {l : Nat} {ds : List Value} (h : LO w B e f rs v l ds) (k : Keep w w' S) (hs : ∀ q, q < w.heap.size → S q → q < B) : LO w' B e f rs v l ds :=
  ⟨h.own.keep k (fun g hg hq => by obtain ⟨h1, h2, _⟩ := h.own.at_ g hg; have := hs g h2 hq; omega), h.dl, fun i d hd => (h.rate i d hd).keep k (fun q hq hp e => by have := hs q hq e; have := hp.1; omega)⟩
theorem LO.nil_ (w : World) (B : Nat) (e : TypeId) (f : Nat → Value → List Value) (rs : List Nat) : LO w B e f rs (.slice none 0 0) 0 [] := ⟨Own.nil_ _ _ _ _, rfl, fun i d h => by simp at h⟩
/-- One layer more. -/
theorem LO.more {w wa w' : World} {B : Nat} {e : TypeId} {f : Nat → Value → List Value} {rs : List Nat} {v v' : Value} {l : Nat} {ds : List Value} {d : Value} (h : LO w B e f rs v l ds) (k : Keep w wa Nul) (k' : Keep wa w' (fun q => v.ownBlock = some q))
    (ho : Own w' B e 6 v' (l + 1) (lcsF f 0 ds ++ f l d)) (hv : ∀ q, v'.ownBlock = some q → v.ownBlock = some q ∨ wa.heap.size ≤ q)
    (hd : Rd wa (fun q => w.heap.size ≤ q ∧ q < wa.heap.size) 1 d rs.length (I64 rs)) (hB : B ≤ w.heap.size) : LO w' B e f rs v' (l + 1) (ds ++ [d]) := by
  have hz := k.size
  refine ⟨?_, by rw [List.length_append, h.dl]; rfl, fun i x hx => ?_⟩
  · rw [lcsF_snoc, Nat.zero_add, h.dl]; exact ho
  · by_cases hi : i < ds.length
    · rw [List.getElem?_append_left hi] at hx
      refine ((((h.rate i x hx).mono (q := fun q => (B ≤ q ∧ v.ownBlock ≠ some q) ∧ q < w.heap.size) (fun q hq hp => ⟨hp, hq⟩)).keep0 k).keep k' (fun q _ hp e => hp.1.2 e)).mono (fun q _ hp => ⟨hp.1.1, fun e => ?_⟩)
      rcases hv q e with h1 | h1
      · exact hp.1.2 h1
      · omega
    · rw [List.getElem?_append_right (by omega)] at hx
      have h0 : i - ds.length = 0 := by have := (List.getElem?_eq_some_iff.1 hx).1; simpa using this
      rw [h0] at hx
      simp at hx
      subst hx
      have hol : ∀ q, v.ownBlock = some q → q < w.heap.size := fun q e => (h.own.at_ q e).2.1
      refine (hd.keep k' (fun q _ hp e => by have := hol q e; omega)).mono (fun q _ hp => ⟨by omega, fun e => ?_⟩)
      rcases hv q e with h1 | h1
      · have := hol q h1; omega
      · omega
theorem LO.lr {w : World} {B : Nat} {e : TypeId} {P : Pv} {v : Value} {ds : List Value} (h : LO w B e P.lc P.rs v P.L ds) (hL : 1 ≤ P.L) : ∃ b c, v = .slice (some ⟨b, 0, none⟩) P.L c ∧ P.L ≤ c ∧ LR w (B ≤ ·) P b 0 ds := by
  obtain ⟨b, o, c, hv, h1, h2, h3, h4, h5⟩ := h.own.rd.lit (by omega)
  rcases h.own.2 with ⟨h0, _⟩ | ⟨g', _, _, _, hv', hB, _⟩
  · rw [h0] at hv; cases hv
  · rw [hv'] at hv
    injection hv with e1 e2 e3
    injection e1 with e1
    injection e1 with e1 e4
    subst e1 e3 e4
    exact ⟨g', _, hv', h1, ⟨h.dl, h4, hB, fun l d hd j u hu => by
      rw [Nat.add_assoc]
      exact h5 _ _ (lcsF_at P.lc (lc_len P) ds 0 l d hd j u (by rw [Nat.zero_add]; exact hu)), fun l d hd => (h.rate l d hd).mono (fun q _ hq => hq.1)⟩⟩
end Go.Proofs.YtdlnmkpojiofoaaDoor
