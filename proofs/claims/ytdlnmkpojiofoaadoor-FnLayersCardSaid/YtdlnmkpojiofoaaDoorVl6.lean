/-
  commonSLBMValues, calcTargetBitratesSize. Conditions: those that stand in each theorem.
-/
import Derived.Test.YtdlnmkpojiofoaaDoorVl5
namespace Go.Proofs.YtdlnmkpojiofoaaDoor
open Go.RowKit
set_option linter.unusedVariables false
set_option linter.unusedSimpArgs false
set_option maxRecDepth 100000

/-- The bits that all streams have. -/
def Pv.cm (P : Pv) : Int := 2 ^ P.K - 1
theorem cm_all : ((List.range 5).all fun K => (List.range 5).all fun S => (List.range 4).all fun i => (mbL K (S * K))[i]? == some (if i < S then (2 : Int) ^ K - 1 else 0)) = true := by decide +kernel
theorem cm_at {P : Pv} (h : P.Ok) {i : Nat} (hi : i < 4) : (mbL P.K P.L)[i]? = some (if i < P.S then P.cm else 0) := by
  have h0 := cm_all
  rw [List.all_eq_true] at h0
  have h1 := h0 P.K (List.mem_range.2 (by have := h.k4; omega))
  rw [List.all_eq_true] at h1
  have h2 := h1 P.S (List.mem_range.2 (by have := h.s4; omega))
  rw [List.all_eq_true] at h2
  have h3 := h2 i (List.mem_range.2 hi)
  simp only [beq_iff_eq] at h3
  exact h3
theorem cm_b {P : Pv} (h : P.Ok) : 1 ≤ P.cm ∧ P.cm ≤ 15 := by
  have h1 := h.k1; have h2 := h.k4
  unfold Pv.cm
  generalize P.K = K at *
  match K, h1, h2 with
  | 1, _, _ => decide
  | 2, _, _ => decide
  | 3, _, _ => decide
  | 4, _, _ => decide

set_option maxHeartbeats 1600000 in
theorem com_walk {P : Pv} {g : Nat} {T : TypeId} {ixs : List Int} {cm0 rl0 : Int} (w : World) (hP : P.Ok) (hg : Blk w g T (ctxV (mbL P.K P.L) ixs cm0 rl0)) :
    Calls Tryd.prog 69 #[.slice (some ⟨g, 0, none⟩) 4 4] w fun e w' => e = .returned (.int .u8 P.cm) ∧ w = w' := by
  have hcb := cm_b hP
  have hS1 := hP.s1
  have hS4 := hP.s4
  have HAT := hide (show ∀ i : Nat, i < 4 → w.cell? ⟨g, i, none⟩ = some (.int .u8 (if i < P.S then P.cm else 0)) from fun i hi => hg.cell i (ctx_mb (mbL_len _ _) (cm_at hP hi)))
  have hgl := hg.lt
  clear hg
  generalize P.cm = C at *
  generalize P.S = S at *
  clear hP
  go_enter Tryd.func69, Tryd.ntmps69
  go_wp2_with fail
  go_loopw [3, 7] (fun s3 s7 wr => ∃ i : Nat, i ≤ 4 ∧ s7 = .int .i64 (i : Int) ∧ s3 = .int .u8 (if i = 0 then 0 else C) ∧ wr = w) (fun _ s7 _ => 4 - (intOf s7).toNat)
  case atStart => exact ⟨0, by omega, rfl, rfl, rfl⟩
  case round =>
    obtain ⟨i, hi, rfl, rfl, rfl⟩ := hrel
    by_cases hlt : i < 4
    · have hc := HAT.out i hlt
      have kl : (i : Int) < 4 := by omega
      by_cases hs : i < S
      · rw [if_pos hs] at hc
        have e0 : (C == 0) = false := beq_eq_false_iff_ne.2 (by omega)
        by_cases h0 : i = 0
        · subst h0
          simp only [if_pos]
          go_wp2_with fail
          go_roundw
          case rel => exact ⟨1, by omega, rfl, by simp, by first | rfl | trivial⟩
          case measure => simp [intOf]
        · simp only [if_neg h0]
          have e1 : (C != C) = false := by simp
          have H0 := hide h0
          clear h0
          go_wp2_with fail
          go_roundw
          case rel => exact ⟨i + 1, by omega, by go_num, by rw [if_neg (by omega)], by first | rfl | trivial⟩
          case measure => simp [intOf]; omega
      · rw [if_neg hs] at hc
        have h0 : ¬ i = 0 := by omega
        simp only [if_neg h0]
        clear h0
        go_wp2_with fail
        go_roundw
        case rel => exact ⟨i + 1, by omega, by go_num, by rw [if_neg (by omega)], by first | rfl | trivial⟩
        case measure => simp [intOf]; omega
    · obtain rfl : i = 4 := by omega
      simp only [if_neg (show ¬ (4 : Nat) = 0 by decide)]
      go_wp2_with fail
      go_ret
      exact ⟨rfl, rfl⟩
end Go.Proofs.YtdlnmkpojiofoaaDoor
