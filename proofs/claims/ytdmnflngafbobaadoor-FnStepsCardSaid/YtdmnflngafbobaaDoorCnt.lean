/-
  How many extensions a header that can be written has. Conditions: those that stand in each theorem.
-/
import Derived.Test.YtdmnflngafbobaaDoorFnHeaderWritten
namespace Go.Proofs.YtdmnflngafbobaaDoor
open Go.RowKit
set_option linter.unusedVariables false
set_option linter.unusedSimpArgs false

theorem xsb_count (prof : Int) : ∀ xs : List Ex, xs.length ≤ (xsb prof xs).length
  | [] => Nat.zero_le _
  | x :: xs => by
    have ih := xsb_count prof xs
    have e : xsb prof (x :: xs) = xb prof x ++ xsb prof xs := by simp [xsb]
    rw [e, List.length_append, List.length_cons]
    have : 1 ≤ (xb prof x).length := by unfold xb; split <;> simp
    omega
theorem exts_count {hd : Hd} (hg : Good hd) : hd.exts.length ≤ 900000 := by
  cases he : hd.ext with
  | false => rw [hg.noExt he]; simp
  | true =>
    obtain ⟨e, h1, h2⟩ := hg.ext he
    unfold extsB at h1
    split at h1
    · cases h1
    · split at h1
      · unfold own1 at h1
        split at h1
        · rename_i hx
          rw [hx]; simp
        · cases h1
      · split at h1
        · injection h1 with h1
          have := xsb_count hd.prof hd.exts
          rw [← h1, List.length_append] at h2
          omega
        · cases h1
end Go.Proofs.YtdmnflngafbobaaDoor
