/-
  The law FnSteps. Conditions: those that stand in each theorem.
-/
import Derived.Test.YtdmnflngafbobaaDoorGTq
import Derived.Test.YtdmnflngafbobaaDoorCnt
import Derived.Test.YtdmnflngafbobaaDoorFnHeaderWritten
import Derived.Test.YtdmnflngafbobaaDoorGPr
import Derived.Deep.DeepCutAuto
namespace Go.Proofs.YtdmnflngafbobaaDoor
open Go.RowKit
set_option linter.unusedVariables false
set_option linter.unusedSimpArgs false
set_option maxRecDepth 100000

set_option maxHeartbeats 6400000 in
theorem fst_law {p : Nat → Prop} {v u : Value} {hd : Hd} {ss : List St} (w : World) (hh : HV w p v hd) (hok : hd.Ok) (hsr : SR w p u ss) (hss : ∀ s ∈ ss, StOk s) (he : Errs w) (hhe : HErrs w) (hde : DErrs w) :
    Calls Tryd.prog 12 #[v, u] w fun e w' => e = .returned (.bool true) ∧ Below w.heap.size w w' := by
  obtain ⟨As, cs, rfl⟩ := hsr.shape
  obtain ⟨sv, xv, rfl, h1, h2⟩ := hh.mono (q := (· < w.heap.size)) (fun k hk _ => hk)
  obtain ⟨A1, c1, rfl⟩ := h1.shape
  obtain ⟨A2, c2, rfl⟩ := h2.shape
  have HH := hide (show HV w (· < w.heap.size) (.agg (hcells hd (.slice A1 hd.srcs.length c1) (.slice A2 hd.exts.length c2))) hd from ⟨_, _, rfl, h1, h2⟩)
  have HSR := hide (hsr.mono (q := (· < w.heap.size)) (fun k hk _ => hk))
  have HSS := hide hss
  have HOK := hide hok
  have HE := hide he
  have HSE := hide (show SErrs w from ⟨hhe, hde⟩)
  clear hh h1 h2 hsr hss hok he hhe hde
  have HC : hcells hd (.slice A1 hd.srcs.length c1) (.slice A2 hd.exts.length c2) = #[.int .u8 hd.v, .bool hd.pad, .bool hd.ext, .bool hd.mark, .int .u8 hd.ty, .int .u16 hd.seq, .int .u32 hd.time, .int .u32 hd.ssrc, .slice A1 hd.srcs.length c1, .int .u16 hd.prof, .slice A2 hd.exts.length c2, .int .u8 hd.padn] := rfl
  rw [HC]
  go_enter Tryd.func12, Tryd.ntmps12
  go_upto_region 1 with fail
  generalize hwa : World.alloc w _ = wa
  have BX := hide (show Blk wa w.heap.size 27 (hcells hd (.slice A1 hd.srcs.length c1) (.slice A2 hd.exts.length c2)) by subst hwa; exact Blk.new w _ _)
  have KA := hide (show Keep w wa Nul by subst hwa; exact (Keep.refl w Nul).alloc _)
  have hza : wa.heap.size = w.heap.size + 1 := by subst hwa; exact World.size_alloc _ _
  have HVa := hide (HH.out.keep0 KA.out)
  have hF := hide (fits1 wa HVa.out)
  generalize hv0 : Value.agg _ = v0
  clear hwa HC hv0
  obtain ⟨x0, x1, x2, x3, x4, x5, x6, x7, x8, x9, x10, x11⟩ := hc12 BX.out
  go_wp2_with fail
  refine Calls.mono (show Calls _ _ #[.agg (hcells hd (.slice A1 hd.srcs.length c1) (.slice A2 hd.exts.length c2))] _ _ from hF.out) ?_
  rintro e w1 ⟨b, rfl, k1, hb⟩
  have HK1 := hide (KA.out.trans0 k1)
  have BX1 := hide (BX.out.keep k1 (fun e => e))
  have hz1 : w.heap.size + 1 ≤ w1.heap.size := by have := k1.size; omega
  clear k1 x0 x1 x2 x3 x4 x5 x6 x7 x8 x9 x10 x11
  cases b with
  | false =>
    go_wp2_with fail
    go_ret
    exact ⟨rfl, HK1.out.below0⟩
  | true =>
  obtain ⟨b1, b2, b3⟩ := hb rfl
  have HB3 := hide b3
  clear b3 hb
  have hZ := hide (fits4 w1 (HSR.out.keep HK1.out (fun _ _ _ e => e)))
  go_wp2_with fail
  refine (hZ.out).mono ?_
  rintro e w2 ⟨b, rfl, k2, hb⟩
  have HK2 := hide (HK1.out.trans0 k2)
  have BX2 := hide (BX1.out.keep k2 (fun e => e))
  have hz2 : w.heap.size + 1 ≤ w2.heap.size := by have := k2.size; omega
  clear k2 hZ
  cases b with
  | false =>
    go_wp2_with fail
    go_ret
    exact ⟨rfl, HK2.out.below0⟩
  | true =>
  obtain ⟨c1', c2'⟩ := hb rfl
  have HC2 := hide c2'
  clear c2' hb
  have HV2 := hide (HH.out.keep0 HK2.out)
  have hL := hide (legal_walk w2 HV2.out HOK.out b2)
  obtain ⟨x0, x1, x2, x3, x4, x5, x6, x7, x8, x9, x10, x11⟩ := hc12 BX2.out
  go_wp2_with fail
  refine Calls.mono (show Calls _ _ #[.agg (hcells hd (.slice A1 hd.srcs.length c1) (.slice A2 hd.exts.length c2))] _ _ from hL.out) ?_
  rintro e w3 ⟨k3, A9, n9, c9, rfl, -⟩
  have HK3 := hide (HK2.out.trans0 k3)
  have BX3 := hide (BX2.out.keep k3 (fun e => e))
  have hz3 : w.heap.size + 1 ≤ w3.heap.size := by have := k3.size; omega
  clear k3 hL x0 x1 x2 x3 x4 x5 x6 x7 x8 x9 x10 x11
  cases hs : legalB hd with
  | none =>
    have hs' : (legalB hd).isSome = false := by rw [hs]; rfl
    clear hs
    go_wp2_with fail
    go_ret
    exact ⟨rfl, HK3.out.below0⟩
  | some bs =>
    obtain ⟨hg, rfl, hlen, hpd⟩ := legal_good HOK.out hs
    have hs' : (legalB hd).isSome = true := by rw [hs]; rfl
    have HG := hide hg
    clear hg hs hpd hlen
    clear hs'
    simp only [Option.isSome_some]
    by_cases h100 : (100 : Int) < (ss.length : Int)
    · go_wp2_with fail
      go_ret
      exact ⟨rfl, HK3.out.below0⟩
    · have hOn := hide (once_walk w3 (HH.out.keep0 HK3.out) b2)
      obtain ⟨x0, x1, x2, x3, x4, x5, x6, x7, x8, x9, x10, x11⟩ := hc12 BX3.out
      go_wp2_with fail
      refine Calls.mono (show Calls _ _ #[.agg (hcells hd (.slice A1 hd.srcs.length c1) (.slice A2 hd.exts.length c2))] _ _ from hOn.out) ?_
      rintro e w4 ⟨k4, hcase⟩
      have HK4 := hide (HK3.out.trans0 k4)
      have BX4 := hide (BX3.out.keep k4 (fun e => e))
      have hz4 : w.heap.size + 1 ≤ w4.heap.size := by have := k4.size; omega
      clear k4 hOn x0 x1 x2 x3 x4 x5 x6 x7 x8 x9 x10 x11
      rcases hcase with ⟨rfl, ho⟩ | rfl
      · clear ho
        obtain ⟨x0, x1, x2, x3, x4, x5, x6, x7, x8, x9, x10, x11⟩ := hc12 BX4.out
        have l4 := BX4.out.lt
        go_upto_region 7 with (refine wpList_stA rfl _ _ rfl rfl rfl (by kernel_rfl) rfl (by simp [Value.oneCell']) ?_)
        generalize hw5 : World.alloc (World.alloc w4 _) _ = w5
        obtain ⟨g7, hg7⟩ : ∃ g7, g7 = w4.heap.size + 1 := ⟨_, rfl⟩
        obtain ⟨g8, hg8⟩ : ∃ g8, g8 = w4.heap.size := ⟨_, rfl⟩
        have B7 := hide (show Blk w5 g7 27 (hcells hd (.slice A1 hd.srcs.length c1) (.slice A2 hd.exts.length c2)) by subst hw5 hg7; exact Blk.new' (by simp only [World.size_alloc]))
        have O8 := hide (show Own w5 w4.heap.size 76 4 (.slice (some ⟨g8, 0, none⟩) 0 0) 0 [] by subst hw5 hg8; exact (Own.of_lit w4 #[] 0 (by decide) rfl).alloc _)
        have k5 : Keep w4 w5 Nul := by subst hw5; exact ((Keep.refl w4 Nul).alloc _).alloc _
        have hz5 := k5.size
        have HK5 := hide (HK4.out.trans0 k5)
        have BX5 := hide (BX4.out.keep k5 (fun e => e))
        have hx := exts_count HG.out
        have L0 : LS w5 w5 w4.heap.size g7 hd ss 0 hd A1 hd.srcs.length c1 A2 hd.exts.length c2 (some ⟨g8, 0, none⟩) 0 none 0 [] := ⟨Keep.refl _ _, by omega, hz5, ⟨rfl, fun _ => rfl, fun h => HG.out.noExt h⟩, B7.out, (HH.out.keep0 HK5.out).mono (fun q hq (h : q < w.heap.size) => ⟨by omega, fun e => by have e' : some g8 = some q := e; injection e' with e'; omega, fun e => by cases e⟩), Own.nil_ _ _ _ _, O8.out, rfl, fun j s d h1 h2 => by simp at h1, fun s hs => by simp at hs⟩
        have HL0 := hide L0
        rw [← hg7, ← hg8]
        have hg2 : w.heap.size < w4.heap.size := by omega
        clear hw5 hg7 hg8 k5 L0 x0 x1 x2 x3 x4 x5 x6 x7 x8 x9 x10 x11
        go_upto_region 8 with fail
        refine part_use (stp_p8 w5 _ _ _ _ _ _ _ _ _ _ _ _ _ _ _ _ _ _ _ _ _ _ _ _ _ _ _ _ _ _ _ _ _ _ _ _ _ _ _ _ _ _ _ _ _ _ _ _ _ _ _ _ _ _ _ _ _ _ _ _ _ _ _ _ _ _ _ _ _ _ _ _ _ _ _ _ _ _ _ _ _ _ _ _ _ _ _ _ _ _ _ _ _ _ _ _ _ _ _ _ _ _ _ _ _ _ _ _ _ _ _ _ _ _ _ _ _ HL0.out ((HSR.out.keep HK5.out (fun _ _ _ e => e)).mono (fun q hq (h : q < w.heap.size) => by show q < w4.heap.size; omega)) (by omega) hx ?_) rfl rfl (by assumption)
        intros
        rename_i w' k b' Y1 m1 d1 Y2 m2 d2 Y8 d8 Y9 d9 ds hk hL
        refine (show ∀ a w, _ → _ by assumption) _ _ ?_
        go_upto_region 16 with fail
        exact part_use (stp_p16 w w5 w' _ _ _ _ _ _ _ _ _ _ _ _ _ _ _ _ _ _ _ _ _ _ _ _ _ _ _ _ _ _ _ _ _ _ _ _ _ _ _ _ _ _ _ _ _ _ _ _ _ _ _ _ _ _ _ _ _ _ _ _ _ _ _ _ _ _ _ _ _ _ _ _ _ _ _ _ _ _ _ _ _ _ _ _ _ _ _ _ _ _ _ _ _ _ _ _ _ _ _ _ _ _ _ _ _ _ _ _ _ _ _ _ _ _ _ _ _ HK5.out (by omega) hL hk BX5.out hg2 ((HH.out.keep0 HK5.out).mono (fun q hq (h : q < w.heap.size) => by show q < w4.heap.size; omega)) HOK.out HSS.out (by omega) hx b1 HB3.out HC2.out HE.out HSE.out) rfl rfl (by assumption)
      · go_wp2_with fail
        go_ret
        exact ⟨rfl, HK4.out.below0⟩
end Go.Proofs.YtdmnflngafbobaaDoor
