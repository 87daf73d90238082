/-
  slices.Clone of bytes: a copy in new memory. Conditions: those that stand in each theorem.
-/
import Derived.Test.YtdmnflngafbobaaDoorMem
namespace Go.Proofs.YtdmnflngafbobaaDoor
open Go.RowKit
set_option linter.unusedVariables false
set_option maxRecDepth 20000

theorem etB : ET Tryd.prog 29 5 (.int .u8 0) 1 1 := ⟨Tryd.underlying29, by kernel_rfl, rfl, by decide⟩

/-- slices.Clone of bytes. -/
theorem clone_b {p : Nat → Prop} {v : Value} {n : Nat} {xs : List Value} (w : World) (h : Rd w p 1 v n xs) (h1 : ∀ u ∈ xs, u.oneCell' = true) (hn : n ≤ 140737488355328) :
    Calls Tryd.prog 65 #[v] w fun e w' => ∃ v', e = .returned v' ∧ Own w' w.heap.size 5 1 v' n xs ∧ Keep w w' Nul ∧ (v' = .slice none 0 0 ↔ v.ownBlock = none) := by
  have hS := src_of_rd (P := Tryd.prog) w Tryd.underlying29 h h1
  have hSA := fun o => src_of_rd (P := Tryd.prog) (w.alloc o) Tryd.underlying29 (h.alloc o) h1
  obtain ⟨hl, A, c, rfl, h2, h3, h4, h5⟩ := h
  have kn := fun w => Lib.run_eql_slice_nil (P := Tryd.prog) w 29 5 A n c 0 0 Tryd.underlying29
  cases A with
  | none =>
    have hn0 : n = 0 := by have := h4 rfl; omega
    subst hn0
    have hx : xs = [] := List.eq_nil_of_length_eq_zero (by simpa using hl)
    subst hx
    clear hS hSA h5 h4 hl
    go_enter Tryd.func65, Tryd.ntmps65
    go_wp2
    go_ret
    exact ⟨_, rfl, Own.nil_ _ _ _ _, Keep.refl _ _, by simp [Value.ownBlock]⟩
  | some ad =>
    clear hS h5 h4 hl
    have h0 := Own.of_lit (e := 5) (sz := 1) w #[] 0 (by simp [maxLen]) rfl
    go_enter Tryd.func65, Tryd.ntmps65
    go_wp2_with (at_builtin; refine wpList_app etB rfl _ _ rfl h0 rfl (hSA _) rfl (by omega) (by omega) (by simp) ?_; intro v' w' ho hk hb hz _)
    go_ret
    refine ⟨_, rfl, ?_, ?_, ?_⟩
    · simpa using ho
    · exact ((Keep.refl w Nul).alloc _).trans hk (fun i hi e => by simp [Value.ownBlock] at e; omega)
    · constructor
      · rintro rfl
        rcases hb with hb | hb <;> simp [Value.ownBlock] at hb
      · intro hc
        simp [Value.ownBlock] at hc
end Go.Proofs.YtdmnflngafbobaaDoor
