/-
  The bytes of a header that is written. Conditions: those that stand in each theorem.
-/
import Derived.Test.YtdmnflngafbobaaDoorFmt
namespace Go.Proofs.YtdmnflngafbobaaDoor
open Go.RowKit
set_option linter.unusedVariables false
set_option linter.unusedSimpArgs false
set_option maxRecDepth 20000

/-- What is written of a header. -/
def outB (h : Hd) : List Int := headB h ++ if h.ext then (match extsB h.prof h.exts with
  | some e => by16 h.prof ++ by16 (e.length / 4) ++ e
  | none => []) else []
/-- A header that is written. -/
structure Good (h : Hd) : Prop where
  ok : h.Ok
  v : h.v = 2
  srcs : h.srcs.length ≤ 15
  ty : h.ty ≤ 127
  noExt : h.ext = false → h.exts = []
  ext : h.ext = true → ∃ e, extsB h.prof h.exts = some e ∧ e.length ≤ 262140

theorem or_128 : ∀ n : Nat, n < 16 → bits .or .u8 128 (n : Int) = 128 + (n : Int) := by decide +kernel

theorem by32s_len : ∀ xs : List Int, (xs.flatMap by32).length = 4 * xs.length
  | [] => rfl
  | x :: xs => by simp [List.flatMap_cons, by32, by16, by32s_len xs]; omega

theorem headB_len (h : Hd) : (headB h).length = 12 + 4 * h.srcs.length := by
  have a : ∀ x, (by16 x).length = 2 := fun _ => rfl
  have b : ∀ x, (by32 x).length = 4 := fun _ => rfl
  simp only [headB, List.length_cons, List.length_append, by32s_len, a, b]
  omega

/-- What the reference writes is that, of a header that is written. -/
theorem good_fmt {hd : Hd} {bs : List Int} (hok : hd.Ok) (h : fmtB hd = some bs) : Good hd ∧ outB hd = bs ∧ hd.pad = decide (0 < hd.padn) := by
  unfold fmtB at h
  split at h
  · cases h
  · rename_i hb
    obtain ⟨a1, a2, a3, a4, a5⟩ := good_of hb
    have a6 : hd.pad = decide (0 < hd.padn) := by
      cases hp : hd.pad <;> rw [hp] at a5 <;> revert a5 <;> cases decide (0 < hd.padn) <;> simp
    split at h
    · rename_i he
      injection h with h
      refine ⟨⟨hok, a1, by omega, a3, a4, fun h' => by rw [he] at h'; cases h'⟩, ?_, a6⟩
      rw [← h]; simp [outB, he]
    · rename_i he
      have he : hd.ext = true := by cases h : hd.ext <;> simp_all
      split at h
      · cases h
      · rename_i e hx
        split at h
        · cases h
        · rename_i hl
          injection h with h
          refine ⟨⟨hok, a1, by omega, a3, a4, fun _ => ⟨e, hx, by omega⟩⟩, ?_, a6⟩
          rw [← h]; simp [outB, he, hx]
theorem extsB_len {prof : Int} {xs : List Ex} {e : List Int} (h : extsB prof xs = some e) : e.length % 4 = 0 := by
  unfold extsB at h
  split at h
  · cases h
  · split at h
    · unfold own1 at h
      split at h
      · split at h
        · rename_i h2
          injection h with h
          subst h
          exact h2.2
        · cases h
      · cases h
    · split at h
      · injection h with h
        subst h
        simp [pad4]
        omega
      · cases h

theorem isB_by16 {x : Int} (h : 0 ≤ x ∧ x < 65536) : IsB (by16 x) := by
  intro y hy
  simp [by16] at hy
  omega
theorem isB_by32 {x : Int} (h : 0 ≤ x ∧ x < 4294967296) : IsB (by32 x) := by
  intro y hy
  simp [by32, by16] at hy
  omega
theorem isB_app {a b : List Int} (ha : IsB a) (hb : IsB b) : IsB (a ++ b) := fun x hx => (List.mem_append.1 hx).elim (ha x) (hb x)
theorem isB_xsb {prof : Int} (hp : prof = 48862 ∨ prof = 4096) : ∀ xs : List Ex, (∀ x ∈ xs, (0 ≤ x.id ∧ x.id < 256) ∧ IsB x.data) → fitsAll prof xs = true → IsB (xsb prof xs)
  | [], _, _ => by intro y hy; simp [xsb] at hy
  | x :: xs, ho, h => by
    simp only [fitsAll, List.all_cons, Bool.and_eq_true] at h
    have ih := isB_xsb hp xs (fun y hy => ho y (by simp [hy])) h.2
    have hx := ho x (by simp)
    have e : xsb prof (x :: xs) = xb prof x ++ xsb prof xs := rfl
    rw [e]
    refine isB_app ?_ ih
    intro y hy
    rcases hp with rfl | rfl
    · have hf : 1 ≤ x.id ∧ x.id ≤ 14 ∧ 1 ≤ x.data.length ∧ x.data.length ≤ 16 := by simpa [fitsB] using h.1
      simp only [xb, if_true, List.mem_cons] at hy
      rcases hy with rfl | hy
      · omega
      · exact hx.2 y hy
    · have hf : 1 ≤ x.id ∧ x.data.length ≤ 255 := by simpa [fitsB] using h.1
      simp only [xb, show ¬ (4096 : Int) = 48862 by decide, if_false, List.mem_cons] at hy
      rcases hy with rfl | rfl | hy
      · exact hx.1
      · omega
      · exact hx.2 y hy
theorem isB_exts {prof : Int} {xs : List Ex} {e : List Int} (ho : ∀ x ∈ xs, (0 ≤ x.id ∧ x.id < 256) ∧ IsB x.data) (h : extsB prof xs = some e) : IsB e := by
  unfold extsB at h
  split at h
  · cases h
  · split at h
    · unfold own1 at h
      split at h
      · rename_i x
        split at h
        · injection h with h
          subst h
          exact (ho x (by simp)).2
        · cases h
      · cases h
    · rename_i h1
      split at h
      · rename_i h2
        injection h with h
        subst h
        refine isB_app (isB_xsb (by omega) _ ho h2) ?_
        intro y hy
        simp [pad4] at hy
        omega
      · cases h
theorem isB_out {hd : Hd} (hg : Good hd) : IsB (outB hd) := by
  have h1 : IsB (headB hd) := by
    have hs := hg.srcs
    have ht := hg.ty
    have ht0 := hg.ok.ty
    have e : headB hd = [hb0 hd, hb1 hd] ++ (by16 hd.seq ++ by32 hd.time ++ by32 hd.ssrc ++ hd.srcs.flatMap by32) := rfl
    rw [e]
    refine isB_app ?_ (isB_app (isB_app (isB_app (isB_by16 hg.ok.seq) (isB_by32 hg.ok.time)) (isB_by32 hg.ok.ssrc)) ?_)
    · intro y hy
      simp only [List.mem_cons, List.not_mem_nil, or_false] at hy
      rcases hy with rfl | rfl
      · unfold hb0
        cases hd.pad <;> cases hd.ext <;> simp <;> omega
      · unfold hb1
        cases hd.mark <;> simp <;> omega
    · intro y hy
      obtain ⟨x, hx, hy⟩ := List.mem_flatMap.1 hy
      exact isB_by32 (hg.ok.srcs x hx) y hy
  unfold outB
  refine isB_app h1 ?_
  split
  · rename_i he
    obtain ⟨e, hx, hl⟩ := hg.ext he
    rw [hx]
    exact isB_app (isB_app (isB_by16 hg.ok.prof) (isB_by16 (by omega))) (isB_exts hg.ok.exts hx)
  · intro y hy
    simp at hy
end Go.Proofs.YtdmnflngafbobaaDoor
