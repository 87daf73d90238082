/-
  (rtp.Header).MarshalSize. Conditions: those that stand in each theorem.
-/
import Derived.Test.YtdmnflngafbobaaDoorClone
namespace Go.Proofs.YtdmnflngafbobaaDoor
open Go.RowKit
set_option linter.unusedVariables false
set_option linter.unusedSimpArgs false
set_option maxRecDepth 20000

def xsum (c : Nat) (xs : List Ex) : Nat := (xs.map fun x => c + x.data.length).sum
def xsize (h : Hd) : Nat := if h.prof = 48862 then xsum 1 h.exts else if h.prof = 4096 then xsum 2 h.exts else match h.exts with
  | [] => 0
  | x :: _ => x.data.length
/-- How many bytes a header has. -/
def hsize (h : Hd) : Nat := 12 + h.srcs.length * 4 + if h.ext then (4 + xsize h + 3) / 4 * 4 else 0

theorem xsum_snoc (c : Nat) (xs : List Ex) (k : Nat) (x : Ex) (h : xs[k]? = some x) : xsum c (xs.take (k + 1)) = xsum c (xs.take k) + (c + x.data.length) := by
  obtain ⟨hk, rfl⟩ := List.getElem?_eq_some_iff.1 h
  unfold xsum
  rw [List.take_succ_eq_append_getElem hk, List.map_append, List.sum_append]
  simp
theorem xsum_le (c : Nat) (xs : List Ex) (m : Nat) (h : ∀ x ∈ xs, x.data.length ≤ m) : xsum c xs ≤ (c + m) * xs.length := by
  unfold xsum
  induction xs with
  | nil => simp
  | cons x xs ih =>
    have a := h x (by simp)
    have b := ih (fun y hy => h y (by simp [hy]))
    simp only [List.map_cons, List.sum_cons, List.length_cons, Nat.mul_add, Nat.mul_one]
    omega
theorem xsum_take (c : Nat) (xs : List Ex) (h : ∀ x ∈ xs, x.data.length ≤ 2147483647) (hc : c ≤ 2) (hn : xs.length ≤ 2147483647) (k : Nat) : xsum c (xs.take k) ≤ 4611686018427387904 + 2147483648 := by
  have := xsum_le c (xs.take k) 2147483647 (fun x hx => h x (List.mem_of_mem_take hx))
  rw [List.length_take] at this
  have h2 : (c + 2147483647) * min k xs.length ≤ 2147483649 * 2147483647 := Nat.mul_le_mul (by omega) (by omega)
  omega

theorem msize_plain {p : Nat → Prop} {hd : Hd} {sv xv : Value} {off : Int} (w : World) (hS : Rd w p 1 sv hd.srcs.length (U32 hd.srcs)) (hs : hd.srcs.length ≤ 2147483647) (he : hd.ext = false) :
    Calls Tryd.prog 57 #[.agg (rcells hd sv xv off)] w fun e w' => e = .returned (.int .i64 (hsize hd)) ∧ Keep w w' Nul := by
  obtain ⟨A1, c1, rfl⟩ := hS.shape
  clear hS
  unfold rcells
  rw [he]
  go_enter Tryd.func57, Tryd.ntmps57
  go_wp2_with fail
  go_ret
  exact ⟨by simp [hsize, he], (Keep.refl _ _).alloc _⟩

theorem hsize_ext {hd : Hd} (he : hd.ext = true) : ((hsize hd : Nat) : Int) = 12 + (hd.srcs.length : Int) * 4 + (4 + (xsize hd : Int) + 3) / 4 * 4 := by
  unfold hsize
  rw [he]
  simp

set_option maxHeartbeats 1600000 in
theorem msize_one {p : Nat → Prop} {hd : Hd} {sv xv : Value} {off : Int} (w : World) (hS : Rd w p 1 sv hd.srcs.length (U32 hd.srcs)) (hX : XR w p xv hd.exts) (hs : hd.srcs.length ≤ 2147483647) (hn : hd.exts.length ≤ 2147483647) (hdn : ∀ x ∈ hd.exts, x.data.length ≤ 2147483647) (he : hd.ext = true) (hp : hd.prof = 48862) :
    Calls Tryd.prog 57 #[.agg (rcells hd sv xv off)] w fun e w' => e = .returned (.int .i64 (hsize hd)) ∧ Keep w w' Nul := by
  obtain ⟨A1, c1, rfl⟩ := hS.shape
  obtain ⟨A2, c2, rfl⟩ := hX.shape
  have H2 := hide hX
  have HD := hide hdn
  have hm := xsum_take 1 hd.exts hdn (by omega) hn
  clear hS hX hdn
  unfold rcells at *
  rw [he, hp]
  go_enter Tryd.func57, Tryd.ntmps57
  go_upto_region 1 with fail
  generalize hwa : World.alloc w _ = wa
  have BX := hide (show Blk wa w.heap.size 108 (rcells { hd with ext := true, prof := 48862 } (.slice A1 hd.srcs.length c1) (.slice A2 hd.exts.length c2) off) by subst hwa; exact Blk.new w _ _)
  have HK := hide (show Keep w wa Nul by subst hwa; exact (Keep.refl w Nul).alloc _)
  generalize hv0 : Value.agg _ = v0
  clear hwa hv0
  have x8 := BX.out.cell 8 (v := .slice A1 hd.srcs.length c1) rfl
  have x2 := BX.out.cell 2 (v := .bool true) rfl
  have x9 := BX.out.cell 9 (v := .int .u16 48862) rfl
  have x10 := BX.out.cell 10 (v := .slice A2 hd.exts.length c2) rfl
  have HM := hide hm
  clear hm
  go_wp2_with fail
  go_loopw [4, 35] (fun s i wr => ∃ k : Nat, k ≤ hd.exts.length ∧ i = .int .i64 k ∧ s = .int .i64 ((4 + xsum 1 (hd.exts.take k) : Nat) : Int) ∧ Keep wa wr Nul) (fun _ i _ => hd.exts.length - (intOf i).toNat)
  case atStart => exact ⟨0, Nat.zero_le _, rfl, by simp [xsum], Keep.refl _ _⟩
  case round =>
    obtain ⟨k, hk, rfl, rfl, hK⟩ := hrel
    have hmk := HM.out k
    by_cases hlt : k < hd.exts.length
    · have hg' : hd.exts[k]? = some hd.exts[k] := List.getElem?_eq_getElem _
      obtain ⟨b, o, c', d, hv, q1, q2, q3, q4, p5, p6, q7⟩ := H2.out.at_ hg'
      injection hv with e1 _ e3
      subst e1 e3
      have HG := hide hg'
      have hxl := HD.out _ (List.mem_of_getElem? hg')
      clear hg'
      generalize hd.exts[k] = x at *
      have hKw : Keep w wr Nul := HK.out.trans0 hK
      have q5 := hKw.cell id p5
      have q6 := hKw.cell id p6
      obtain ⟨A', c2', rfl⟩ := q7.shape
      have HKr := hide hK
      clear q7 p5 p6 hKw hK
      go_wp2_with fail
      go_roundw
      case rel => exact ⟨k + 1, by omega, by go_num, by rw [xsum_snoc _ _ _ _ HG.out]; go_num, HKr.out.alloc _⟩
      case measure => simp [intOf]; omega
    · obtain rfl : k = hd.exts.length := by omega
      rw [List.take_length] at *
      have HKr := hide (HK.out.trans0 hK)
      clear hK
      go_wp2_with fail
      go_ret
      refine ⟨?_, HKr.out⟩
      rw [hsize_ext he, show xsize hd = xsum 1 hd.exts by simp [xsize, hp]]
      rfl
set_option maxHeartbeats 1600000 in
theorem msize_two {p : Nat → Prop} {hd : Hd} {sv xv : Value} {off : Int} (w : World) (hS : Rd w p 1 sv hd.srcs.length (U32 hd.srcs)) (hX : XR w p xv hd.exts) (hs : hd.srcs.length ≤ 2147483647) (hn : hd.exts.length ≤ 2147483647) (hdn : ∀ x ∈ hd.exts, x.data.length ≤ 2147483647) (he : hd.ext = true) (hp : hd.prof = 4096) :
    Calls Tryd.prog 57 #[.agg (rcells hd sv xv off)] w fun e w' => e = .returned (.int .i64 (hsize hd)) ∧ Keep w w' Nul := by
  obtain ⟨A1, c1, rfl⟩ := hS.shape
  obtain ⟨A2, c2, rfl⟩ := hX.shape
  have H2 := hide hX
  have HD := hide hdn
  have hm := xsum_take 2 hd.exts hdn (by omega) hn
  clear hS hX hdn
  unfold rcells at *
  rw [he, hp]
  go_enter Tryd.func57, Tryd.ntmps57
  go_upto_region 1 with fail
  generalize hwa : World.alloc w _ = wa
  have BX := hide (show Blk wa w.heap.size 108 (rcells { hd with ext := true, prof := 4096 } (.slice A1 hd.srcs.length c1) (.slice A2 hd.exts.length c2) off) by subst hwa; exact Blk.new w _ _)
  have HK := hide (show Keep w wa Nul by subst hwa; exact (Keep.refl w Nul).alloc _)
  generalize hv0 : Value.agg _ = v0
  clear hwa hv0
  have x8 := BX.out.cell 8 (v := .slice A1 hd.srcs.length c1) rfl
  have x2 := BX.out.cell 2 (v := .bool true) rfl
  have x9 := BX.out.cell 9 (v := .int .u16 4096) rfl
  have x10 := BX.out.cell 10 (v := .slice A2 hd.exts.length c2) rfl
  have HM := hide hm
  clear hm
  go_wp2_with fail
  go_loopw [4, 51] (fun s i wr => ∃ k : Nat, k ≤ hd.exts.length ∧ i = .int .i64 k ∧ s = .int .i64 ((4 + xsum 2 (hd.exts.take k) : Nat) : Int) ∧ Keep wa wr Nul) (fun _ i _ => hd.exts.length - (intOf i).toNat)
  case atStart => exact ⟨0, Nat.zero_le _, rfl, by simp [xsum], Keep.refl _ _⟩
  case round =>
    obtain ⟨k, hk, rfl, rfl, hK⟩ := hrel
    have hmk := HM.out k
    by_cases hlt : k < hd.exts.length
    · have hg' : hd.exts[k]? = some hd.exts[k] := List.getElem?_eq_getElem _
      obtain ⟨b, o, c', d, hv, q1, q2, q3, q4, p5, p6, q7⟩ := H2.out.at_ hg'
      injection hv with e1 _ e3
      subst e1 e3
      have HG := hide hg'
      have hxl := HD.out _ (List.mem_of_getElem? hg')
      clear hg'
      generalize hd.exts[k] = x at *
      have hKw : Keep w wr Nul := HK.out.trans0 hK
      have q5 := hKw.cell id p5
      have q6 := hKw.cell id p6
      obtain ⟨A', c2', rfl⟩ := q7.shape
      have HKr := hide hK
      clear q7 p5 p6 hKw hK
      go_wp2_with fail
      go_roundw
      case rel => exact ⟨k + 1, by omega, by go_num, by rw [xsum_snoc _ _ _ _ HG.out]; go_num, HKr.out.alloc _⟩
      case measure => simp [intOf]; omega
    · obtain rfl : k = hd.exts.length := by omega
      rw [List.take_length] at *
      have HKr := hide (HK.out.trans0 hK)
      clear hK
      go_wp2_with fail
      go_ret
      refine ⟨?_, HKr.out⟩
      rw [hsize_ext he, show xsize hd = xsum 2 hd.exts by simp [xsize, hp]]
      rfl
set_option maxHeartbeats 1600000 in
theorem msize_oth {p : Nat → Prop} {hd : Hd} {sv xv : Value} {off : Int} (w : World) (hS : Rd w p 1 sv hd.srcs.length (U32 hd.srcs)) (hX : XR w p xv hd.exts) (hs : hd.srcs.length ≤ 2147483647) (hn : hd.exts.length ≤ 2147483647) (hdn : ∀ x ∈ hd.exts, x.data.length ≤ 2147483647) (he : hd.ext = true) (h1 : hd.prof ≠ 48862) (h2 : hd.prof ≠ 4096) :
    Calls Tryd.prog 57 #[.agg (rcells hd sv xv off)] w fun e w' => e = .returned (.int .i64 (hsize hd)) ∧ Keep w w' Nul := by
  obtain ⟨A1, c1, rfl⟩ := hS.shape
  obtain ⟨A2, c2, rfl⟩ := hX.shape
  have H2 := hide hX
  have HD := hide hdn
  clear hS hX hdn
  have g1 : (hd.prof == 48862) = false := by simpa using h1
  have g2 : (hd.prof == 4096) = false := by simpa using h2
  unfold rcells at *
  rw [he]
  go_enter Tryd.func57, Tryd.ntmps57
  go_upto_region 1 with fail
  generalize hwa : World.alloc w _ = wa
  have BX := hide (show Blk wa w.heap.size 108 (rcells { hd with ext := true } (.slice A1 hd.srcs.length c1) (.slice A2 hd.exts.length c2) off) by subst hwa; exact Blk.new w _ _)
  have HK := hide (show Keep w wa Nul by subst hwa; exact (Keep.refl w Nul).alloc _)
  generalize hv0 : Value.agg _ = v0
  clear hwa hv0
  have x8 := BX.out.cell 8 (v := .slice A1 hd.srcs.length c1) rfl
  have x2 := BX.out.cell 2 (v := .bool true) rfl
  have x9 := BX.out.cell 9 (v := .int .u16 hd.prof) rfl
  have x10 := BX.out.cell 10 (v := .slice A2 hd.exts.length c2) rfl
  cases hx : hd.exts with
  | nil =>
    have hx0 : hd.exts.length = 0 := by rw [hx]; rfl
    have HXX := hide hx
    clear hx
    go_wp2_with fail
    go_ret
    refine ⟨?_, HK.out⟩
    rw [hsize_ext he, show xsize hd = 0 by simp [xsize, h1, h2, HXX.out]]
    rfl
  | cons x xs =>
    have hg' : hd.exts[0]? = some x := by rw [hx]; rfl
    obtain ⟨b, o, c', d, hv, q1, q2, q3, q4, p5, p6, q7⟩ := H2.out.at_ hg'
    injection hv with e1 _ e3
    subst e1 e3
    have hxl := HD.out _ (List.mem_of_getElem? hg')
    have hxp : 0 < hd.exts.length := by rw [hx]; simp
    have hxp' : (0 : Int) < (hd.exts.length : Int) := by omega
    have q5 := HK.out.cell id p5
    have q6 := HK.out.cell id p6
    simp only [Nat.zero_mul, Nat.add_zero] at q5 q6
    obtain ⟨A', c2', rfl⟩ := q7.shape
    clear q7 p5 p6 hg'
    have HXX := hide hx
    clear hx
    go_wp2_with fail
    go_ret
    refine ⟨?_, HK.out⟩
    rw [hsize_ext he, show xsize hd = x.data.length by simp [xsize, h1, h2, HXX.out]]
    rfl

/-- (rtp.Header).MarshalSize. -/
theorem msize_walk {p : Nat → Prop} {hd : Hd} {sv xv : Value} {off : Int} (w : World) (hS : Rd w p 1 sv hd.srcs.length (U32 hd.srcs)) (hX : XR w p xv hd.exts) (hs : hd.srcs.length ≤ 2147483647) (hn : hd.exts.length ≤ 2147483647) (hdn : ∀ x ∈ hd.exts, x.data.length ≤ 2147483647) :
    Calls Tryd.prog 57 #[.agg (rcells hd sv xv off)] w fun e w' => e = .returned (.int .i64 (hsize hd)) ∧ Keep w w' Nul := by
  cases he : hd.ext
  · exact msize_plain w hS hs he
  · by_cases h1 : hd.prof = 48862
    · exact msize_one w hS hX hs hn hdn he h1
    · by_cases h2 : hd.prof = 4096
      · exact msize_two w hS hX hs hn hdn he h2
      · exact msize_oth w hS hX hs hn hdn he h1 h2
end Go.Proofs.YtdmnflngafbobaaDoor
