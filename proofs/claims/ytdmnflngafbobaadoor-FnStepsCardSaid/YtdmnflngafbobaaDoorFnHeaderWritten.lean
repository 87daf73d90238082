/-
  The law FnHeaderWritten: its walk. Conditions: those that stand in each theorem.
-/
import Derived.Test.YtdmnflngafbobaaDoorFmh
import Derived.Test.YtdmnflngafbobaaDoorGFmt
import Derived.Test.YtdmnflngafbobaaDoorFits
namespace Go.Proofs.YtdmnflngafbobaaDoor
open Go.RowKit
set_option linter.unusedVariables false
set_option linter.unusedSimpArgs false
set_option maxRecDepth 100000

theorem legal_good {hd : Hd} {bs : List Int} (hok : hd.Ok) (h : legalB hd = some bs) : Good hd ∧ bs = outB hd ∧ bs.length ≤ 131072 ∧ hd.pad = decide (0 < hd.padn) := by
  unfold legalB at h
  cases hf : fmtB hd with
  | none => rw [hf] at h; cases h
  | some b =>
    rw [hf] at h
    simp only at h
    split at h
    · injection h with h
      subst h
      obtain ⟨h1, h2, h3⟩ := good_fmt hok hf
      exact ⟨h1, h2.symm, by assumption, h3⟩
    · cases h

set_option maxHeartbeats 3200000 in
theorem fhw_law {p : Nat → Prop} {v : Value} {hd : Hd} (w : World) (hh : HV w p v hd) (hok : hd.Ok) :
    Calls Tryd.prog 3 #[v] w fun e w' => e = .returned (.bool true) ∧ Below w.heap.size w w' := by
  have HH := hide hh
  have HOK := hide hok
  obtain ⟨sv, xv, rfl, h1, h2⟩ := hh
  obtain ⟨A1, c1, rfl⟩ := h1.shape
  obtain ⟨A2, c2, rfl⟩ := h2.shape
  clear h1 h2 hok
  have HC : hcells hd (.slice A1 hd.srcs.length c1) (.slice A2 hd.exts.length c2) = #[.int .u8 hd.v, .bool hd.pad, .bool hd.ext, .bool hd.mark, .int .u8 hd.ty, .int .u16 hd.seq, .int .u32 hd.time, .int .u32 hd.ssrc, .slice A1 hd.srcs.length c1, .int .u16 hd.prof, .slice A2 hd.exts.length c2, .int .u8 hd.padn] := rfl
  rw [HC]
  go_enter Tryd.func3, Tryd.ntmps3
  go_upto_region 1 with fail
  generalize hwa : World.alloc w _ = wa
  have BX := hide (show Blk wa w.heap.size 27 (hcells hd (.slice A1 hd.srcs.length c1) (.slice A2 hd.exts.length c2)) by subst hwa; exact Blk.new w _ _)
  have HK := hide (show Keep w wa Nul by subst hwa; exact (Keep.refl w Nul).alloc _)
  have HVa := hide (HH.out.keep0 HK.out)
  have hF := hide (fits1 wa HVa.out)
  generalize hv0 : Value.agg _ = v0
  clear hwa HC hv0
  obtain ⟨x0, x1, x2, x3, x4, x5, x6, x7, x8, x9, x10, x11⟩ := hc12 BX.out
  go_wp2_with fail
  refine Calls.mono (show Calls _ _ #[.agg (hcells hd (.slice A1 hd.srcs.length c1) (.slice A2 hd.exts.length c2))] _ _ from hF.out) ?_
  rintro e w1 ⟨b, rfl, k1, hb⟩
  have HK1 := hide (HK.out.trans0 k1)
  have BX1 := hide (BX.out.keep k1 id)
  have HV1 := hide (HVa.out.keep0 k1)
  clear k1 x0 x1 x2 x3 x4 x5 x6 x7 x8 x9 x10 x11
  cases b with
  | false =>
    go_wp2_with fail
    go_ret
    exact ⟨rfl, HK1.out.below0⟩
  | true =>
  obtain ⟨b1, b2, b3⟩ := hb rfl
  have HB3 := hide b3
  clear b3 hb
  have hL := hide (legal_walk w1 HV1.out HOK.out b2)
  obtain ⟨x0, x1, x2, x3, x4, x5, x6, x7, x8, x9, x10, x11⟩ := hc12 BX1.out
  go_wp2_with fail
  refine Calls.mono (show Calls _ _ #[.agg (hcells hd (.slice A1 hd.srcs.length c1) (.slice A2 hd.exts.length c2))] _ _ from hL.out) ?_
  rintro e w2 ⟨k2, A, n, c, rfl, ho⟩
  have HK2 := hide (HK1.out.trans0 k2)
  have BX2 := hide (BX1.out.keep k2 id)
  have HV2 := hide (HV1.out.keep0 k2)
  clear k2 x0 x1 x2 x3 x4 x5 x6 x7 x8 x9 x10 x11
  cases hs : legalB hd with
  | none =>
    clear ho
    have hs' : (legalB hd).isSome = false := by rw [hs]; rfl
    clear hs
    go_wp2_with fail
    go_ret
    exact ⟨rfl, HK2.out.below0⟩
  | some bs =>
    have ho := ho bs hs
    obtain ⟨hg, rfl, hl, -⟩ := legal_good HOK.out hs
    have hn : n = (outB hd).length := by
      obtain ⟨_, _, _, e, _⟩ := ho.rd
      injection e
    subst hn
    have HO := hide ho
    have HG := hide hg
    clear ho hg hs
    have HVg := hide (given_walk _ HV2.out b2)
    obtain ⟨x0, x1, x2, x3, x4, x5, x6, x7, x8, x9, x10, x11⟩ := hc12 BX2.out
    go_wp2_with fail
    refine Calls.mono (show Calls _ _ #[.agg (hcells hd (.slice A1 hd.srcs.length c1) (.slice A2 hd.exts.length c2))] _ _ from HVg.out) ?_
    rintro e w3 ⟨k3, sv3, xv3, rfl, h3⟩
    have HK3 := hide (HK2.out.trans0 k3)
    have BX3 := hide (BX2.out.keep k3 id)
    have HV3 := hide (HV2.out.keep0 k3)
    have HO3 := hide (HO.out.keep0 k3)
    have hFm := hide (fmth_walk _ h3 HG.out b2 HB3.out)
    clear k3 h3 x0 x1 x2 x3 x4 x5 x6 x7 x8 x9 x10 x11
    go_wp2_with fail
    refine (hFm.out).mono ?_
    rintro e w4 ⟨A4, c4, rfl, o4, k4⟩
    have HK4 := hide (HK3.out.trans0 k4)
    have BX4 := hide (BX3.out.keep k4 id)
    have HV4 := hide (HV3.out.keep0 k4)
    have HO4 := hide (HO3.out.keep0 k4)
    have OO4 := hide o4
    have r1 := run_str (P := Tryd.prog) (tb := 29) (ts := 9) Tryd.underlying29 Tryd.underlying5 Tryd.underlying9 o4.rd (isB_out HG.out)
    have r2 := run_str (P := Tryd.prog) (tb := 29) (ts := 9) Tryd.underlying29 Tryd.underlying5 Tryd.underlying9 HO4.out.rd (isB_out HG.out)
    have HVg4 := hide (given_walk _ HV4.out b2)
    clear k4 o4
    obtain ⟨x0, x1, x2, x3, x4, x5, x6, x7, x8, x9, x10, x11⟩ := hc12 BX4.out
    go_wp2_with fail
    refine Calls.mono (show Calls _ _ #[.agg (hcells hd (.slice A1 hd.srcs.length c1) (.slice A2 hd.exts.length c2))] _ _ from HVg4.out) ?_
    rintro e w5 ⟨k5, sv5, xv5, rfl, h5⟩
    have HK5 := hide (HK4.out.trans0 k5)
    have hSz := hide (hsz_walk _ h5 (by have := HG.out.srcs; omega) b2 HB3.out)
    clear k5 h5 x0 x1 x2 x3 x4 x5 x6 x7 x8 x9 x10 x11 r1 r2
    go_wp2_with fail
    refine (hSz.out).mono ?_
    rintro e w6 ⟨rfl, k6⟩
    have HK6 := hide (HK5.out.trans0 k6)
    have hso := hsize_out HG.out
    clear k6
    go_wp2_with fail
    go_ret
    exact ⟨rfl, HK6.out.below0⟩
end Go.Proofs.YtdmnflngafbobaaDoor
