/-
  A buffer of bytes that is written from its head on, noughts behind (the plain part). Conditions: those that stand in each theorem.
-/
import Derived.Test.YtdlnmkpojiofoaaDoorBe
import Derived.Test.YtdlnmkpojiofoaaDoorCopy
namespace Go.Proofs.YtdlnmkpojiofoaaDoor
open Go.RowKit
set_option linter.unusedVariables false
set_option linter.unusedSimpArgs false
set_option maxRecDepth 20000

theorem Z8_succ {m : Nat} (h : 0 < m) : Z8 m = Value.int .u8 0 :: Z8 (m - 1) := by
  cases m with
  | zero => omega
  | succ m => rfl
theorem Z8_cut (m k : Nat) (h : k ≤ m) : Z8 m = B8 (List.replicate k 0) ++ Z8 (m - k) := by
  unfold Z8 B8
  rw [List.map_replicate, List.replicate_append_replicate]
  congr 1
  omega
theorem made_z (n : Nat) : (madeCells (Value.int .u8 0).cells n) = (B8 [] ++ Z8 n).toArray := by
  rw [show (Value.int .u8 0).cells = #[.int .u8 0] from rfl, made_one]
  rfl

section
variable {w w' : World} {g : Nat} {done : List Int} {m : Nat}
theorem Buf.mk' (h : Blk w g 5 (madeCells (Value.int .u8 0).cells m)) : Buf w g [] (Z8 m) := by
  rw [made_z] at h
  exact h
theorem Buf.z1 (h : Buf w g done (Z8 m)) (hm : 0 < m) {k : Nat} (hk : k = done.length) (u : Int) : Buf (w.setCell ⟨g, k, none⟩ (.int .u8 u)) g (done ++ [u]) (Z8 (m - 1)) := by
  subst hk
  rw [Z8_succ hm] at h
  exact h.set u
theorem Buf.zero (h : Buf w g done (Z8 m)) (k : Nat) (hk : k ≤ m) : Buf w g (done ++ List.replicate k 0) (Z8 (m - k)) := by
  unfold Buf at *
  rw [Z8_cut m k hk] at h
  rw [B8_app, List.append_assoc]
  exact h
theorem Buf.mid {d1 d2 : List Int} {y : Int} {rest : List Value} (h : Buf w g (d1 ++ y :: d2) rest) {k : Nat} (hk : k = d1.length) (u : Int) : Buf (w.setCell ⟨g, k, none⟩ (.int .u8 u)) g (d1 ++ u :: d2) rest := by
  subst hk
  have h1 := Blk.set_ h d1.length (.int .u8 u)
  unfold Buf
  have e : ((B8 (d1 ++ y :: d2) ++ rest).toArray.setIfInBounds d1.length (.int .u8 u)) = (B8 (d1 ++ u :: d2) ++ rest).toArray := by
    rw [List.setIfInBounds_toArray]
    congr 1
    simp only [B8, List.map_append, List.map_cons, List.append_assoc, List.cons_append]
    rw [List.set_append_right _ _ (by simp)]
    simp
  rw [e] at h1
  exact h1
theorem Buf.zcell (h : Buf w g done (Z8 m)) {k : Nat} (hk : done.length ≤ k) (hm : k < done.length + m) : w.cell? ⟨g, k, none⟩ = some (.int .u8 0) := by
  refine Blk.cell h k ?_
  simp only [List.getElem?_toArray]
  rw [List.getElem?_append_right (by rw [B8_len]; exact hk), B8_len]
  unfold Z8
  rw [List.getElem?_replicate]
  simp
  omega
end
end Go.Proofs.YtdlnmkpojiofoaaDoor
