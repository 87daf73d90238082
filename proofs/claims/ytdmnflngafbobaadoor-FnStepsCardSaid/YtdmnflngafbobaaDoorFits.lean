/-
  The sizes of a header (zzFits1, 2, 3). Conditions: those that stand in each theorem.
-/
import Derived.Test.YtdmnflngafbobaaDoorGMem
namespace Go.Proofs.YtdmnflngafbobaaDoor
open Go.RowKit
set_option linter.unusedVariables false
set_option linter.unusedSimpArgs false
set_option maxRecDepth 20000

theorem fits3 (w : World) (id : Int) (A : Option Addr) (n c : Nat) :
    Calls Tryd.prog 91 #[.agg #[.int .u8 id, .slice A n c]] w fun e w' => e = .returned (.bool (decide (n ≤ 2147483647))) ∧ Keep w w' Nul := by
  by_cases h : n ≤ 2147483647
  · have h' : ¬ (2147483647 : Int) < n := by omega
    go_enter Tryd.func91, Tryd.ntmps91
    go_wp2_with fail
    go_ret
    exact ⟨by simp [h], (Keep.refl w Nul).alloc _⟩
  · have h' : (2147483647 : Int) < n := by omega
    go_enter Tryd.func91, Tryd.ntmps91
    go_wp2_with fail
    go_ret
    exact ⟨by simp [h], (Keep.refl w Nul).alloc _⟩

theorem fits2 {p : Nat → Prop} {v : Value} {xs : List Ex} (w : World) (h : XR w p v xs) :
    Calls Tryd.prog 50 #[v] w fun e w' => ∃ b, e = .returned (.bool b) ∧ Keep w w' Nul ∧ (b = true → xs.length ≤ 2147483647 ∧ ∀ x ∈ xs, x.data.length ≤ 2147483647) := by
  obtain ⟨A, c, rfl⟩ := h.shape
  by_cases h1 : (2147483647 : Int) < xs.length
  · clear h
    go_enter Tryd.func50, Tryd.ntmps50
    go_wp2_with fail
    go_ret
    exact ⟨_, rfl, Keep.refl _ _, fun e => by cases e⟩
  · have H := hide h
    clear h
    go_enter Tryd.func50, Tryd.ntmps50
    go_wp2_with fail
    go_loopw [10] (fun i wr => ∃ k : Nat, k ≤ xs.length ∧ i = .int .i64 k ∧ Keep w wr Nul ∧ ∀ x ∈ xs.take k, x.data.length ≤ 2147483647) (fun i _ => xs.length - (intOf i).toNat)
    case atStart => exact ⟨0, Nat.zero_le _, rfl, Keep.refl _ _, by simp⟩
    case round =>
      obtain ⟨k, hk, rfl, hK, hx⟩ := hrel
      by_cases hlt : k < xs.length
      · have hg : xs[k]? = some xs[k] := List.getElem?_eq_getElem _
        obtain ⟨b, o, c', d, hv, q1, q2, q3, q4, q5, q6, q7⟩ := (H.out.keep0 hK).at_ hg
        injection hv with e1 _ e3
        subst e1 e3
        have HX := hide hx
        have HG := hide hg
        clear hx hg
        generalize xs[k] = x at *
        obtain ⟨A', c2, rfl⟩ := q7.shape
        clear q7
        have HK := hide hK
        clear hK
        go_wp2_with fail
        refine (fits3 _ _ _ _ _).mono ?_
        rintro e w1 ⟨rfl, k1⟩
        have HK1 := hide ((HK.out.alloc _).trans0 k1)
        clear k1
        by_cases hb : x.data.length ≤ 2147483647
        · have hd : decide (x.data.length ≤ 2147483647) = true := by simpa using hb
          go_wp2_with fail
          go_roundw
          case rel =>
            refine ⟨k + 1, by omega, by go_num, HK1.out, fun y hy => ?_⟩
            rw [List.take_add_one, HG.out] at hy
            rcases List.mem_append.1 hy with hy | hy
            · exact HX.out y hy
            · obtain rfl : y = x := by simpa using hy
              exact hb
          case measure => simp [intOf]; omega
        · have hd : decide (x.data.length ≤ 2147483647) = false := by simpa using hb
          go_wp2_with fail
          go_ret
          exact ⟨_, rfl, HK1.out, fun e => by cases e⟩
      · have hkn : k = xs.length := by omega
        have HX := hide hx
        have HK := hide hK
        clear hx hK
        go_wp2_with fail
        go_ret
        exact ⟨_, rfl, HK.out, fun _ => ⟨by omega, fun x hx => HX.out x (by rw [hkn, List.take_length]; exact hx)⟩⟩

theorem fits1 {p : Nat → Prop} {v : Value} {h : Hd} (w : World) (hh : HV w p v h) :
    Calls Tryd.prog 17 #[v] w fun e w' => ∃ b, e = .returned (.bool b) ∧ Keep w w' Nul ∧ (b = true → h.srcs.length ≤ 2147483647 ∧ h.exts.length ≤ 2147483647 ∧ ∀ x ∈ h.exts, x.data.length ≤ 2147483647) := by
  obtain ⟨sv, xv, rfl, h1, h2⟩ := hh
  obtain ⟨A, c, rfl⟩ := h1.shape
  unfold hcells
  by_cases c1 : (2147483647 : Int) < h.srcs.length
  · clear h1 h2
    go_enter Tryd.func17, Tryd.ntmps17
    go_wp2_with fail
    go_ret
    exact ⟨_, rfl, (Keep.refl _ _).alloc _, fun e => by cases e⟩
  · have H := hide h2
    clear h1 h2
    go_enter Tryd.func17, Tryd.ntmps17
    go_wp2_with fail
    refine (fits2 _ (H.out.keep0 ((Keep.refl w Nul).alloc _))).mono ?_
    rintro e w1 ⟨b, rfl, k1, hb⟩
    have K1 := hide (((Keep.refl w Nul).alloc _).trans0 k1)
    have HB := hide hb
    clear k1 hb
    cases b
    · go_wp2_with fail
      go_ret
      exact ⟨_, rfl, K1.out, fun e => by cases e⟩
    · go_wp2_with fail
      go_ret
      exact ⟨_, rfl, K1.out, fun _ => ⟨by omega, HB.out (by simp)⟩⟩
end Go.Proofs.YtdmnflngafbobaaDoor
