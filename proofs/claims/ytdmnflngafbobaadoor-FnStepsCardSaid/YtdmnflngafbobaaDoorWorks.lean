/-
  works: a packet is written and read at all. Conditions: those that stand in each theorem.
-/
import Derived.Test.YtdmnflngafbobaaDoorGPun
import Derived.Lib.SlBytesConst
namespace Go.Proofs.YtdmnflngafbobaaDoor
open Go.RowKit
set_option linter.unusedVariables false
set_option linter.unusedSimpArgs false
set_option maxRecDepth 100000

def hdW : Hd := ⟨2, false, false, false, 96, 5, 0, 0, [], 0, [], 0⟩
def bsW : List Int := [128, 96, 0, 5, 0, 0, 0, 0, 0, 0, 0, 0, 97, 98]
theorem goodW : Good hdW := ⟨⟨by decide, by decide, by decide, by decide, by decide, by simp [hdW], by decide, by simp [hdW], by decide⟩, rfl, by decide, by decide, fun _ => rfl, fun h => by cases h⟩
theorem outW : outP hdW [97, 98] = bsW := by decide
theorem readBW : readB bsW = .good hdW 12 := by kernel_rfl
theorem readPW : readP bsW = .good hdW [97, 98] := by kernel_rfl
theorem isBW : IsB bsW := by intro x hx; simp [bsW] at hx; omega

set_option maxHeartbeats 1600000 in
theorem works_walk (w : World) (he : Errs w) :
    Calls Tryd.prog 29 #[] w fun e w' => e = .returned (.bool true) ∧ Keep w w' Nul := by
  have HE := hide he
  clear he
  go_enter Tryd.func29, Tryd.ntmps29
  have hcv := Lib.run_convert_bytes_const (P := Tryd.prog) w 29 5 #[.int .u8 97, .int .u8 98] 2 2 Tryd.underlying29 Tryd.underlying5
  simp only [List.size_toArray, List.length_cons, List.length_nil, Nat.zero_add, Nat.reduceAdd] at hcv
  go_wp2_with fail
  clear hcv
  generalize hwa : World.alloc w _ = wa
  have KA := hide (show Keep w wa Nul by subst hwa; exact (Keep.refl w Nul).alloc _)
  have OA := hide (show Own wa w.heap.size 5 1 (.slice (some ⟨w.heap.size, 0, none⟩) 2 2) 2 (B8 [97, 98]) by
    subst hwa
    exact ⟨rfl, .inr ⟨w.heap.size, 2, _, (2, 3), rfl, Nat.le_refl _, heap_alloc_new w _, Nat.le_refl _, by simp [maxLen], rfl, fun j hj => by simp at hj ⊢; omega, rfl⟩⟩)
  have PVa := hide (show PV wa (w.heap.size ≤ ·) (.agg (kcells hdW (.slice none 0 0) (.slice none 0 0) (.slice (some ⟨w.heap.size, 0, none⟩) 2 2))) hdW [97, 98] from ⟨_, _, _, _, rfl, Rd.nil_ _ _ _, XR.nil_ _ _, OA.out.rdB⟩)
  have hF := hide (fmtp_walk wa PVa.out goodW rfl ⟨by decide, by decide, by decide, fun x hx => by cases hx⟩)
  clear hwa
  refine Calls.mono (show Calls _ _ #[.agg (kcells hdW (.slice none 0 0) (.slice none 0 0) (.slice (some ⟨w.heap.size, 0, none⟩) 2 2))] _ _ from hF.out) ?_
  rw [outW]
  rintro e w1 ⟨g, c, rfl, o1, k1⟩
  have O1 := hide o1
  have K1 := hide (KA.out.trans0 k1)
  have hP := hide (parse_good w1 (n := bsW.length) o1.rd isBW (by decide) (HE.out.keep0 K1.out) (hsSpec0 (fun _ => by decide)) (unSpec0 isBW (fun _ => by decide) (by rw [readBW]; exact (fun e => by cases e))) readPW)
  clear o1 k1
  go_wp2_with fail
  refine Calls.mono (show Calls _ _ #[.slice (some ⟨g, 0, none⟩) bsW.length c] _ _ from hP.out) ?_
  rintro e w2 ⟨k2, hhs, sv, xv, A', c', rfl, hpv⟩
  obtain ⟨q1, q2, q3⟩ := hpv.parts
  obtain ⟨A5, c5, rfl⟩ := q1.shape
  obtain ⟨A6, c6, rfl⟩ := q2.shape
  have K2 := hide (K1.out.trans0 k2)
  have r1 := fun o => run_str (P := Tryd.prog) (tb := 29) (ts := 9) Tryd.underlying29 Tryd.underlying5 Tryd.underlying9 (q3.alloc o) (xs := [97, 98]) (by intro x hx; simp at hx; omega)
  have e1 : bstr [97, 98] = { data := #[97, 98] } := by decide +kernel
  have e14 : bsW.length = 14 := rfl
  rw [e1] at r1
  simp only [List.length_cons, List.length_nil, Nat.zero_add, Nat.reduceAdd] at r1
  clear q1 q2 q3 hpv hhs k2 hP hF PVa OA e1
  simp only [e14, List.length_cons, List.length_nil, Nat.zero_add, Nat.reduceAdd, kcells, hdW]
  clear e14
  go_wp2_with (refine wpList_stA rfl _ _ rfl rfl rfl (by kernel_rfl) rfl (by simp [Value.oneCell']) ?_)
  go_ret
  exact ⟨rfl, K2.out.alloc _⟩
end Go.Proofs.YtdmnflngafbobaaDoor
