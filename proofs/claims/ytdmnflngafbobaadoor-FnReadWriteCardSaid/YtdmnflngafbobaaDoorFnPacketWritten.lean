/-
  The law FnPacketWritten: its walk. Conditions: those that stand in each theorem.
-/
import Derived.Test.YtdmnflngafbobaaDoorSfm
import Derived.Test.YtdmnflngafbobaaDoorFnHeaderWritten
namespace Go.Proofs.YtdmnflngafbobaaDoor
open Go.RowKit
set_option linter.unusedVariables false
set_option linter.unusedSimpArgs false
set_option maxRecDepth 100000

theorem isB_padB {hd : Hd} (h0 : 0 ≤ hd.padn ∧ hd.padn < 256) : IsB (padB hd) := by
  intro x hx
  unfold padB at hx
  split at hx
  · rcases List.mem_append.1 hx with h | h
    · rw [List.eq_of_mem_replicate h]; omega
    · simp at h; omega
  · simp at hx
theorem isB_outP {hd : Hd} {data : List Int} (hg : Good hd) (hI : IsB data) : IsB (outP hd data) := isB_app (isB_app (isB_out hg) hI) (isB_padB hg.ok.padn)

set_option maxHeartbeats 3200000 in
theorem fpw_law {p q : Nat → Prop} {v u : Value} {hd : Hd} {data : List Int} {n : Nat} (w : World) (hh : HV w p v hd) (hok : hd.Ok) (hr : Rd w q 1 u n (B8 data)) (hI : IsB data) :
    Calls Tryd.prog 4 #[v, u] w fun e w' => e = .returned (.bool true) ∧ Below w.heap.size w w' := by
  have hnl : n = data.length := by have := hr.len; rw [B8_len] at this; exact this.symm
  obtain ⟨A0, c0, rfl⟩ := hr.shape
  replace hr := hr.mono (q := fun _ => True) (fun _ _ _ => trivial)
  replace hh := hh.mono (q := fun _ => True) (fun _ _ _ => trivial)
  have HR := hide hr
  have HH := hide hh
  have HOK := hide hok
  have HI := hide hI
  have HNL := hide hnl
  obtain ⟨sv, xv, rfl, h1, h2⟩ := hh
  obtain ⟨A1, c1, rfl⟩ := h1.shape
  obtain ⟨A2, c2, rfl⟩ := h2.shape
  have hle := hr.le
  clear h1 h2 hok hr hI hnl
  have HC : hcells hd (.slice A1 hd.srcs.length c1) (.slice A2 hd.exts.length c2) = #[.int .u8 hd.v, .bool hd.pad, .bool hd.ext, .bool hd.mark, .int .u8 hd.ty, .int .u16 hd.seq, .int .u32 hd.time, .int .u32 hd.ssrc, .slice A1 hd.srcs.length c1, .int .u16 hd.prof, .slice A2 hd.exts.length c2, .int .u8 hd.padn] := rfl
  rw [HC]
  go_enter Tryd.func4, Tryd.ntmps4
  go_upto_region 1 with fail
  generalize hwa : World.alloc w _ = wa
  have BX := hide (show Blk wa w.heap.size 27 (hcells hd (.slice A1 hd.srcs.length c1) (.slice A2 hd.exts.length c2)) by subst hwa; exact Blk.new w _ _)
  have HK := hide (show Keep w wa Nul by subst hwa; exact (Keep.refl w Nul).alloc _)
  have HVa := hide (HH.out.keep0 HK.out)
  have hF := hide (fits1 wa HVa.out)
  generalize hv0 : Value.agg _ = v0
  clear hwa HC hv0
  obtain ⟨x0, x1, x2, x3, x4, x5, x6, x7, x8, x9, x10, x11⟩ := hc12 BX.out
  go_wp2_with fail
  refine Calls.mono (show Calls _ _ #[.agg (hcells hd (.slice A1 hd.srcs.length c1) (.slice A2 hd.exts.length c2))] _ _ from hF.out) ?_
  rintro e w1 ⟨b, rfl, k1, hb⟩
  have HK1 := hide (HK.out.trans0 k1)
  have BX1 := hide (BX.out.keep k1 id)
  have HV1 := hide (HVa.out.keep0 k1)
  clear k1 x0 x1 x2 x3 x4 x5 x6 x7 x8 x9 x10 x11
  cases b with
  | false =>
    go_wp2_with fail
    go_ret
    exact ⟨rfl, HK1.out.below0⟩
  | true =>
  obtain ⟨b1, b2, b3⟩ := hb rfl
  have HB3 := hide b3
  clear b3 hb
  by_cases hbig : (2147483647 : Int) < (n : Int)
  · go_wp2_with fail
    go_ret
    exact ⟨rfl, HK1.out.below0⟩
  have hnn : n ≤ 2147483647 := by omega
  have HDL := hide (show data.length ≤ 2147483647 by have := HNL.out; omega)
  have HR1 := hide (show Rd w1 (fun _ => True) 1 (.slice A0 data.length c0) data.length (B8 data) by rw [← HNL.out]; exact HR.out.keep0 HK1.out)
  have hSF := hide (sfmt_walk (p := fun _ => True) (data := data) w1 (PV.of_hv HV1.out HR1.out) HOK.out b2 HDL.out)
  obtain ⟨x0, x1, x2, x3, x4, x5, x6, x7, x8, x9, x10, x11⟩ := hc12 BX1.out
  go_wp2_with fail
  refine Calls.mono (show Calls _ _ #[.agg (kcells hd (.slice A1 hd.srcs.length c1) (.slice A2 hd.exts.length c2) (.slice A0 n c0))] _ _ from (by rw [HNL.out]; exact hSF.out)) ?_
  rintro e w2 ⟨k2, A, m, c, rfl, ho⟩
  have HK2 := hide (HK1.out.trans0 k2)
  have BX2 := hide (BX1.out.keep k2 id)
  have HV2 := hide (HV1.out.keep0 k2)
  have HR2 := hide (HR1.out.keep0 k2)
  clear k2 x0 x1 x2 x3 x4 x5 x6 x7 x8 x9 x10 x11
  cases hs : fmtB hd with
  | none =>
    clear ho
    have hs' : (fmtB hd).isSome = false := by rw [hs]; rfl
    clear hs
    go_wp2_with fail
    go_ret
    exact ⟨rfl, HK2.out.below0⟩
  | some bs =>
    replace ho := ho bs hs
    obtain ⟨hg, rfl, hpd⟩ := good_fmt HOK.out hs
    replace ho : Own w2 w1.heap.size 5 1 (.slice A m c) (outP hd data).length (B8 (outP hd data)) := ho
    have hn : m = (outP hd data).length := by
      obtain ⟨_, _, _, e, _⟩ := ho.rd
      injection e
    rw [← hn] at ho
    have hs' : (fmtB hd).isSome = true := by rw [hs]; rfl
    have HO := hide ho
    have HG := hide hg
    have HPD := hide hpd
    have HPL := hide (hn.trans (outP_len hg hpd data))
    clear ho hg hs hpd hn
    by_cases hbig2 : (131072 : Int) < (m : Int)
    · go_wp2_with fail
      go_ret
      exact ⟨rfl, HK2.out.below0⟩
    have HVg := hide (given_walk _ HV2.out b2)
    obtain ⟨x0, x1, x2, x3, x4, x5, x6, x7, x8, x9, x10, x11⟩ := hc12 BX2.out
    go_wp2_with fail
    refine Calls.mono (show Calls _ _ #[.agg (hcells hd (.slice A1 hd.srcs.length c1) (.slice A2 hd.exts.length c2))] _ _ from HVg.out) ?_
    rintro e w3 ⟨k3, sv3, xv3, rfl, h3⟩
    obtain ⟨q1, q2⟩ := h3.parts
    obtain ⟨A3, c3, rfl⟩ := q1.shape
    obtain ⟨A4, c4, rfl⟩ := q2.shape
    have HK3 := hide (HK2.out.trans0 k3)
    have HO3 := hide (HO.out.keep0 k3)
    have PV3 := hide (show PV w3 (fun _ => True) (.agg (kcells hd (.slice A3 hd.srcs.length c3) (.slice A4 hd.exts.length c4) (.slice A0 data.length c0))) hd data from PV.of_hv h3 (HR2.out.keep0 k3))
    clear k3 q1 q2 h3 x0 x1 x2 x3 x4 x5 x6 x7 x8 x9 x10 x11
    unfold hcells
    go_upto_region 7 with (refine wpList_stA rfl _ _ rfl rfl rfl (by kernel_rfl) rfl (by simp [Value.oneCell']) ?_)
    generalize hw4 : World.alloc w3 _ = w4
    have B4 := hide (show Blk w4 w3.heap.size 42 (kcells hd (.slice A3 hd.srcs.length c3) (.slice A4 hd.exts.length c4) (.slice A0 n c0)) by subst hw4; exact Blk.new w3 _ _)
    have HK4 := hide (show Keep w w4 Nul by subst hw4; exact HK3.out.alloc _)
    have k34 : Keep w3 w4 Nul := by subst hw4; exact (Keep.refl _ _).alloc _
    have HO4 := hide (HO3.out.keep0 k34)
    have PV4 := hide (PV3.out.keep0 k34)
    clear hw4 k34
    have HSZ := hide (show Sz hd data from ⟨b1, HDL.out, b2, HB3.out⟩)
    have hFm := hide (fmtp_walk w4 PV4.out HG.out HPD.out HSZ.out)
    obtain ⟨x0, x1, x2, x3, x4, x5, x6, x7, x8, x9, x10, x11, x12⟩ := kc13 B4.out
    go_wp2_with fail
    refine Calls.mono (show Calls _ _ #[.agg (kcells hd (.slice A3 hd.srcs.length c3) (.slice A4 hd.exts.length c4) (.slice A0 n c0))] _ _ from (by rw [HNL.out]; exact hFm.out)) ?_
    rintro e w5 ⟨g5, c5, rfl, o5, k5⟩
    have HK5 := hide (HK4.out.trans0 k5)
    have B5 := hide (B4.out.keep k5 id)
    have HO5 := hide (HO4.out.keep0 k5)
    have PV5 := hide (PV4.out.keep0 k5)
    have r1 := run_str (P := Tryd.prog) (tb := 29) (ts := 9) Tryd.underlying29 Tryd.underlying5 Tryd.underlying9 o5.rd (isB_outP HG.out HI.out)
    have r2 := run_str (P := Tryd.prog) (tb := 29) (ts := 9) Tryd.underlying29 Tryd.underlying5 Tryd.underlying9 HO5.out.rd (isB_outP HG.out HI.out)
    have hSz := hide (psz_walk w5 PV5.out HG.out HSZ.out)
    clear k5 o5 x0 x1 x2 x3 x4 x5 x6 x7 x8 x9 x10 x11 x12
    obtain ⟨x0, x1, x2, x3, x4, x5, x6, x7, x8, x9, x10, x11, x12⟩ := kc13 B5.out
    go_wp2_with fail
    refine Calls.mono (show Calls _ _ #[.agg (kcells hd (.slice A3 hd.srcs.length c3) (.slice A4 hd.exts.length c4) (.slice A0 n c0))] _ _ from (by rw [HNL.out]; exact hSz.out)) ?_
    rintro e w6 ⟨rfl, k6⟩
    have HK6 := hide (HK5.out.trans0 k6)
    clear k6 r1 r2 x0 x1 x2 x3 x4 x5 x6 x7 x8 x9 x10 x11 x12
    have hpl := HPL.out
    go_wp2_with fail
    go_ret
    exact ⟨rfl, HK6.out.below0⟩
end Go.Proofs.YtdmnflngafbobaaDoor
