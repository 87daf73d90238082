/-
  A part of a function's body, found by the number of the region that it begins with: so a long walk is cut into theorems. Conditions: none.
-/
import Derived.Test.YtdlnmkpojiofoaaDoorGMem
namespace Go.Proofs.YtdlnmkpojiofoaaDoor
open Go.RowKit

def isRg (n : Nat) : Code → Bool
  | .region m _ _ => m == n
  | _ => false
/-- The first sequence that begins with region n. -/
def navF (n : Nat) : Code → Option Code
  | .seq a b => if isRg n a then some (.seq a b) else match navF n a with
    | some c => some c
    | none => navF n b
  | .block _ c => navF n c
  | .loop c => navF n c
  | .scope c => navF n c
  | .cond _ a b => match navF n a with
    | some c => some c
    | none => navF n b
  | _ => none
noncomputable def fromR (f : Func) (n : Nat) : Code := ((f.body.bind (navF n)).getD .skip)
def xOf : Code → Code
  | .seq a _ => a
  | c => c
def yOf : Code → Code
  | .seq _ b => b
  | _ => .skip
/-- From region n on to the end of its sequence, with Q behind it. -/
def Part (P : Program) (f : Func) (n : Nat) (Q : Exit → Act → World → Prop) (a : Act) (w : World) : Prop :=
  (xOf (fromR f n)).wp P (Exit.then ((yOf (fromR f n)).wp P Q) Q) a w

section
variable {P : Program} {f : Func} {n : Nat} {Q : Exit → Act → World → Prop} {a : Act} {w : World}
theorem part_open (h : ∀ c, c = fromR f n → ∀ K : Act → World → Prop, (∀ a w, (yOf c).wp P Q a w → K a w) → (xOf c).wp P (Exit.then K Q) a w) : Part P f n Q a w := h _ rfl _ (fun _ _ h => h)
theorem part_use {x y : Code} {K : Act → World → Prop} (T : Part P f n Q a w) (hx : xOf (fromR f n) = x) (hy : yOf (fromR f n) = y) (hK : ∀ a w, y.wp P Q a w → K a w) : x.wp P (Exit.then K Q) a w := by
  subst hx hy
  refine wp_mono T ?_
  intro e a' w' h
  cases e with
  | normal => exact hK _ _ h
  | exit id => exact h
  | goto l => exact h
  | ret => exact h
  | panic ch => exact h
  | outgrown => exact h
end
end Go.Proofs.YtdlnmkpojiofoaaDoor
