/-
  Layers read: what the numbers of rates say; layers under way. Conditions: those that stand in each theorem.
-/
import Derived.Test.YtdlnmkpojiofoaaDoorVl19
namespace Go.Proofs.YtdlnmkpojiofoaaDoor
open Go.RowKit
set_option linter.unusedVariables false
set_option linter.unusedSimpArgs false
set_option maxRecDepth 100000

theorem andK_all : ((List.range 5).all fun K => (List.range 4).all fun k => (bits .and .u8 (2 ^ K - 1) (IntKind.u8.wrap (2 ^ k)) == 0) == decide (K ≤ k)) = true := by decide +kernel
theorem andK {K k : Nat} (hK : K < 5) (hk : k < 4) : (bits .and .u8 (2 ^ K - 1) (IntKind.u8.wrap (2 ^ k)) == 0) = decide (K ≤ k) := by
  have h0 := andK_all
  rw [List.all_eq_true] at h0
  have h1 := h0 K (List.mem_range.2 hK)
  rw [List.all_eq_true] at h1
  have h2 := h1 k (List.mem_range.2 hk)
  simpa using h2
def tgChk (T L n : Nat) : Bool := match (tbL T L ((L - 1) / 4 + 1))[n / 4]? with
  | some z => decide (0 ≤ z) && decide (z < 256) && (bits .and .u8 (z / 2 ^ (2 * (3 - n % 4))) 3 == (T : Int))
  | none => false
theorem tg_all : ((List.range 4).all fun T => (List.range 17).all fun L => (List.range L).all fun n => tgChk T L n) = true := by decide +kernel
theorem tg {T L n : Nat} (hT : T < 4) (hL : L < 17) (hn : n < L) : ∃ z : Int, (tbL T L ((L - 1) / 4 + 1))[n / 4]? = some z ∧ 0 ≤ z ∧ z < 256 ∧ bits .and .u8 (z / 2 ^ (2 * (3 - n % 4))) 3 = (T : Int) := by
  have h0 := tg_all
  rw [List.all_eq_true] at h0
  have h1 := h0 T (List.mem_range.2 hT)
  rw [List.all_eq_true] at h1
  have h2 := h1 L (List.mem_range.2 hL)
  rw [List.all_eq_true] at h2
  have h3 := h2 n (List.mem_range.2 hn)
  unfold tgChk at h3
  split at h3
  · rename_i z hz
    simp only [Bool.and_eq_true, decide_eq_true_eq, beq_iff_eq] at h3
    exact ⟨z, hz, h3.1.1, h3.1.2, h3.2⟩
  · cases h3

/-- A slice of a block of ints. -/
def slI (T : Nat) (g : Nat) : Value := .slice (some ⟨g, 0, none⟩) T T
/-- The cells of a layer that has no sizes yet. -/
def Pv.l0 (P : Pv) (l : Nat) (d : Value) : List Value := [.int .i64 (l / P.K : Nat), .int .i64 (l % P.K : Nat), d, .int .i64 0, .int .i64 0, .int .i64 0]
/-- Layers that are being read: the blocks of their rates, and what these hold. -/
structure LQ (w : World) (B : Nat) (f : Nat → Value → List Value) (T : Nat) (v : Value) (l : Nat) (gs : List Nat) (val : Nat → List Nat) : Prop where
  own : Own w B 72 6 v l (lcsF f 0 (gs.map (slI T)))
  gl : gs.length = l
  ge : ∀ g ∈ gs, B ≤ g
  inj : ∀ (i j g : Nat), gs[i]? = some g → gs[j]? = some g → i = j
  blk : ∀ (i g : Nat), gs[i]? = some g → Blk w g 3 (I64 (val i)).toArray
theorem LQ.nil_ (w : World) (B : Nat) (f : Nat → Value → List Value) (T : Nat) (val : Nat → List Nat) : LQ w B f T (.slice none 0 0) 0 [] val := ⟨Own.nil_ _ _ _ _, rfl, by simp, by simp, by simp⟩
theorem LQ.keep {w w' : World} {B : Nat} {S : Nat → Prop} {f : Nat → Value → List Value} {T : Nat} {v : Value} {l : Nat} {gs : List Nat} {val : Nat → List Nat} (h : LQ w B f T v l gs val) (k : Keep w w' S) (hs : ∀ q, q < w.heap.size → S q → q < B) : LQ w' B f T v l gs val :=
  ⟨h.own.keep k (fun g hg hq => by obtain ⟨h1, h2, _⟩ := h.own.at_ g hg; have := hs g h2 hq; omega), h.gl, h.ge, h.inj, fun i g hg => (h.blk i g hg).keep k (fun e => by have h1 := h.ge g (List.mem_of_getElem? hg); have := hs g (h.blk i g hg).lt e; omega)⟩
theorem LQ.keep0 {w w' : World} {B : Nat} {f : Nat → Value → List Value} {T : Nat} {v : Value} {l : Nat} {gs : List Nat} {val : Nat → List Nat} (h : LQ w B f T v l gs val) (k : Keep w w' Nul) : LQ w' B f T v l gs val := h.keep k (fun _ _ e => e.elim)
/-- One layer more: its block of rates is new. -/
theorem LQ.more {w wa w' : World} {B g : Nat} {f : Nat → Value → List Value} {T : Nat} {v v' : Value} {l : Nat} {gs : List Nat} {val : Nat → List Nat} (h : LQ w B f T v l gs val) (k : Keep w wa Nul) (k' : Keep wa w' (fun q => v.ownBlock = some q))
    (ho : Own w' B 72 6 v' (l + 1) (lcsF f 0 (gs.map (slI T)) ++ f l (slI T g))) (hg : w.heap.size ≤ g) (hb : Blk wa g 3 (I64 (val l)).toArray) (hB : B ≤ w.heap.size) : LQ w' B f T v' (l + 1) (gs ++ [g]) val := by
  have hn : ∀ {g : Nat} {cs : Array Value}, Blk w g 3 cs → v.ownBlock ≠ some g := fun hb => h.own.ne_ hb (by decide)
  have hg2 : v.ownBlock ≠ some g := fun e => by have := (h.own.at_ g e).2.1; omega
  refine ⟨?_, by rw [List.length_append, h.gl]; rfl, fun x hx => ?_, fun i j x hi hj => ?_, fun i x hi => ?_⟩
  · rw [List.map_append, List.map_cons, List.map_nil, lcsF_snoc, Nat.zero_add, List.length_map, h.gl]; exact ho
  · rcases List.mem_append.1 hx with hx | hx
    · exact h.ge x hx
    · simp at hx; omega
  · have hlast : ∀ (i x : Nat), (gs ++ [g])[i]? = some x → (i < gs.length ∧ gs[i]? = some x ∧ x < w.heap.size) ∨ (i = gs.length ∧ x = g) := fun i x hx => by
      by_cases hi : i < gs.length
      · rw [List.getElem?_append_left hi] at hx
        exact .inl ⟨hi, hx, (h.blk i x hx).lt⟩
      · rw [List.getElem?_append_right (by omega)] at hx
        have h0 : i - gs.length = 0 := by have := (List.getElem?_eq_some_iff.1 hx).1; simpa using this
        rw [h0] at hx
        simp at hx
        exact .inr ⟨by omega, hx.symm⟩
    rcases hlast i x hi with ⟨a1, a2, a3⟩ | ⟨a1, a2⟩
    · rcases hlast j x hj with ⟨b1, b2, b3⟩ | ⟨b1, b2⟩
      · exact h.inj i j x a2 b2
      · omega
    · rcases hlast j x hj with ⟨b1, b2, b3⟩ | ⟨b1, b2⟩
      · omega
      · omega
  · by_cases hil : i < gs.length
    · rw [List.getElem?_append_left hil] at hi
      exact ((h.blk i x hi).keep k (fun e => e)).keep k' (fun e => hn (h.blk i x hi) e)
    · rw [List.getElem?_append_right (by omega)] at hi
      have h0 : i - gs.length = 0 := by have := (List.getElem?_eq_some_iff.1 hi).1; simpa using this
      rw [h0] at hi
      simp at hi
      subst hi
      have hie : i = l := by have := h.gl; omega
      subst hie
      exact hb.keep k' (fun e => hg2 e)
end Go.Proofs.YtdlnmkpojiofoaaDoor
