/-
  The law FnCheck. Conditions: those that stand in each theorem.
-/
import Derived.Test.YtdmnflngafbobaaDoorChk
namespace Go.Proofs.YtdmnflngafbobaaDoor
open Go.RowKit
set_option linter.unusedVariables false
set_option linter.unusedSimpArgs false
set_option maxRecDepth 20000

theorem fchk_law {p id : Int} {v : Value} {n : Nat} {xs : List Int} {q : Nat → Prop} (w : World) (hR : Rd w q 1 v n (B8 xs)) (he : Errs w) (hh : HErrs w) :
    Calls Tryd.prog 10 #[.int .u16 p, .int .u8 id, v] w fun e w' => e = .returned (.bool true) ∧ Below w.heap.size w w' := by
  obtain ⟨A, c, rfl⟩ := hR.shape
  have K0 := hide (Keep.refl w Nul)
  by_cases hbig : (2147483647 : Int) < (n : Int)
  · clear hR he hh
    go_enter Tryd.func10, Tryd.ntmps10
    go_wp2_with fail
    go_ret
    exact ⟨rfl, K0.out.below0⟩
  by_cases hz : n = 0
  · subst hz
    clear hR he hh
    go_enter Tryd.func10, Tryd.ntmps10
    go_wp2_with fail
    go_ret
    exact ⟨rfl, K0.out.below0⟩
  have hz' : ¬ (n : Int) = 0 := by omega
  by_cases hk : (1000 : Int) < (n : Int)
  · clear hR he hh
    go_enter Tryd.func10, Tryd.ntmps10
    go_wp2_with fail
    go_ret
    exact ⟨rfl, K0.out.below0⟩
  have hP := hide (plain_walk w p)
  have hCk := hide (check_walk (p := p) (id := id) w hR (by omega) (by omega) hh)
  have HF := hide (fun w1 : World => fits_walk w1 p id A n c)
  have HW := hide (fun (w1 : World) (k : Keep w w1 Nul) => works_walk w1 (he.keep0 k))
  clear hR he hh hz
  go_enter Tryd.func10, Tryd.ntmps10
  go_wp2_with fail
  refine (hP.out).mono ?_
  rintro e w1 ⟨rfl, rfl⟩
  by_cases hpl : plainB p = true
  · rw [hpl]
    go_wp2_with fail
    refine (hCk.out).mono ?_
    rintro e w1 ⟨rfl, k1⟩
    have K1 := hide k1
    have HF1 := hide (HF.out w1)
    clear k1
    go_wp2_with fail
    refine (HF1.out).mono ?_
    rintro e w2 ⟨rfl, rfl⟩
    have HW1 := hide (HW.out w1 K1.out)
    generalize fitsB p id n = b
    cases b
    all_goals
      go_wp2_with fail
      refine (HW1.out).mono ?_
      rintro e w2 ⟨rfl, k2⟩
      have K2 := hide (K1.out.trans0 k2)
      clear k2
      go_wp2_with fail
      go_ret
      exact ⟨rfl, K2.out.below0⟩
  · have hpf : plainB p = false := by simpa using hpl
    rw [hpf]
    clear hpl hpf
    go_wp2_with fail
    go_ret
    exact ⟨rfl, K0.out.below0⟩
end Go.Proofs.YtdmnflngafbobaaDoor
