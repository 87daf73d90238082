/-
  The law FnReadWrite. Conditions: those that stand in each theorem.
-/
import Derived.Test.YtdmnflngafbobaaDoorFnPacket
import Derived.Test.YtdmnflngafbobaaDoorFnPacketWritten
namespace Go.Proofs.YtdmnflngafbobaaDoor
open Go.RowKit
set_option linter.unusedVariables false
set_option linter.unusedSimpArgs false
set_option maxRecDepth 100000

theorem readP_len2 {bs : List Int} {h : Hd} {pay : List Int} (hr : readP bs = .good h pay) : pay.length ≤ bs.length := readP_len hr

set_option maxHeartbeats 3200000 in
theorem frw_law {q : Nat → Prop} {u : Value} {bs : List Int} {n : Nat} (w : World) (hr : Rd w q 1 u n (B8 bs)) (hI : IsB bs) (he : Errs w) :
    Calls Tryd.prog 7 #[u] w fun e w' => e = .returned (.bool true) ∧ Below w.heap.size w w' := by
  obtain ⟨A0, c0, rfl⟩ := hr.shape
  have hl : bs.length = n := by have := hr.len; rwa [B8_len] at this
  have HL := hide hl
  have HR := hide (hr.mono (q := fun _ => True) (fun _ _ _ => trivial))
  have HI := hide hI
  have HE := hide he
  clear hr hI he hl
  by_cases hbig : (131072 : Int) < (n : Int)
  · by_cases hbig2 : (2147483647 : Int) < (n : Int)
    · go_enter Tryd.func7, Tryd.ntmps7
      go_wp2_with fail
      go_ret
      exact ⟨rfl, (Keep.refl w Nul).below0⟩
    · go_enter Tryd.func7, Tryd.ntmps7
      go_wp2_with fail
      go_ret
      exact ⟨rfl, (Keep.refl w Nul).below0⟩
  have hbig2 : ¬ (2147483647 : Int) < (n : Int) := by omega
  have hn : n ≤ 2147483647 := by omega
  have hRp := hide (rp_walk w HR.out HI.out hn)
  go_enter Tryd.func7, Tryd.ntmps7
  go_wp2_with fail
  refine (hRp.out).mono ?_
  rintro e w1 ⟨k1, hcase⟩
  have K1 := hide k1
  clear k1 hRp
  rcases hcase with ⟨hb, rfl⟩ | ⟨hb, rfl⟩ | ⟨h, pay, A1, n1, c1, A2, n2, c2, A3, c3, hb, rfl, hv⟩
  · clear hb
    unfold kcells hd0
    go_upto_region 6 with (refine wpList_stA rfl _ _ rfl rfl rfl (by kernel_rfl) rfl (by simp [Value.oneCell']) ?_)
    generalize hw2 : World.alloc w1 _ = w2
    obtain ⟨gh, hgh⟩ : ∃ gh, gh = w1.heap.size := ⟨_, rfl⟩
    rw [← hgh]
    have B2 := hide (show Blk w2 gh 40 (kcells hd0 (.slice none 0 0) (.slice none 0 0) (.slice none 0 0)) by subst hw2 hgh; exact Blk.new w1 _ _)
    have K2 := hide (show Keep w w2 Nul by subst hw2; exact K1.out.alloc _)
    clear hw2 hgh
    have hpz : PV w2 (fun _ => True) (.agg (kcells hd0 (.slice none 0 0) (.slice none 0 0) (.slice none 0 0))) hd0 [] := ⟨_, _, none, 0, rfl, Rd.nil_ _ _ _, XR.nil_ _ _, Rd.nil_ _ _ _⟩
    have hok0 : hd0.Ok := ⟨by decide, by decide, by decide, by decide, by decide, by simp [hd0], by decide, by simp [hd0], by decide⟩
    have hSF := hide (sfmt_walk w2 hpz hok0 (by decide) (by decide))
    obtain ⟨x0, x1, x2, x3, x4, x5, x6, x7, x8, x9, x10, x11, x12⟩ := kc13 B2.out
    unfold hd0 at x0 x1 x2 x3 x4 x5 x6 x7 x9 x11
    clear hpz hok0
    go_wp2_with fail
    refine Calls.mono (show Calls _ _ #[.agg (kcells hd0 (.slice none 0 0) (.slice none 0 0) (.slice none 0 0))] _ _ from hSF.out) ?_
    rintro e w3 ⟨k3, A9, n9, c9, rfl, -⟩
    have K3 := hide (K2.out.trans0 k3)
    clear k3 hSF x0 x1 x2 x3 x4 x5 x6 x7 x8 x9 x10 x11 x12
    go_wp2_with fail
    go_ret
    exact ⟨rfl, K3.out.below0⟩
  · clear hb
    unfold kcells hd0
    go_upto_region 6 with (refine wpList_stA rfl _ _ rfl rfl rfl (by kernel_rfl) rfl (by simp [Value.oneCell']) ?_)
    generalize hw2 : World.alloc w1 _ = w2
    obtain ⟨gh, hgh⟩ : ∃ gh, gh = w1.heap.size := ⟨_, rfl⟩
    rw [← hgh]
    have B2 := hide (show Blk w2 gh 40 (kcells hd0 (.slice none 0 0) (.slice none 0 0) (.slice none 0 0)) by subst hw2 hgh; exact Blk.new w1 _ _)
    have K2 := hide (show Keep w w2 Nul by subst hw2; exact K1.out.alloc _)
    clear hw2 hgh
    have hpz : PV w2 (fun _ => True) (.agg (kcells hd0 (.slice none 0 0) (.slice none 0 0) (.slice none 0 0))) hd0 [] := ⟨_, _, none, 0, rfl, Rd.nil_ _ _ _, XR.nil_ _ _, Rd.nil_ _ _ _⟩
    have hok0 : hd0.Ok := ⟨by decide, by decide, by decide, by decide, by decide, by simp [hd0], by decide, by simp [hd0], by decide⟩
    have hSF := hide (sfmt_walk w2 hpz hok0 (by decide) (by decide))
    obtain ⟨x0, x1, x2, x3, x4, x5, x6, x7, x8, x9, x10, x11, x12⟩ := kc13 B2.out
    unfold hd0 at x0 x1 x2 x3 x4 x5 x6 x7 x9 x11
    clear hpz hok0
    go_wp2_with fail
    refine Calls.mono (show Calls _ _ #[.agg (kcells hd0 (.slice none 0 0) (.slice none 0 0) (.slice none 0 0))] _ _ from hSF.out) ?_
    rintro e w3 ⟨k3, A9, n9, c9, rfl, -⟩
    have K3 := hide (K2.out.trans0 k3)
    clear k3 hSF x0 x1 x2 x3 x4 x5 x6 x7 x8 x9 x10 x11 x12
    go_wp2_with fail
    go_ret
    exact ⟨rfl, K3.out.below0⟩
  · obtain ⟨hok, hip⟩ := readP_ok HI.out hb
    have HOK := hide hok
    have HIP := hide hip
    have HHS := hide (readP_hs HI.out hb)
    have HPL := hide (show pay.length ≤ 2147483647 by have := readP_len hb; have := HL.out; omega)
    have hnw := readP_nw (bs := bs) (by rw [hb]; exact fun e => by cases e)
    have hPh := hide (fun (w2 : World) (k : Keep w1 w2 Nul) => parse_good w2 (HR.out.keep0 (K1.out.trans0 k)) HI.out hn (HE.out.keep0 (K1.out.trans0 k)) (hsSpec HI.out) (unSpec HI.out hnw) hb)
    have HV1 := hide hv
    obtain ⟨m, hm⟩ : ∃ m, m = pay.length := ⟨_, rfl⟩
    have HM := hide hm
    rw [← hm]
    clear hb hnw hv hok hip hm
    unfold kcells
    go_upto_region 6 with (refine wpList_stA rfl _ _ rfl rfl rfl (by kernel_rfl) rfl (by simp [Value.oneCell']) ?_)
    generalize hw2 : World.alloc w1 _ = w2
    obtain ⟨gh, hgh⟩ : ∃ gh, gh = w1.heap.size := ⟨_, rfl⟩
    rw [← hgh]
    have B2 := hide (show Blk w2 gh 40 (kcells h (.slice A1 n1 c1) (.slice A2 n2 c2) (.slice A3 m c3)) by subst hw2 hgh; exact Blk.new w1 _ _)
    have K12 := hide (show Keep w1 w2 Nul by subst hw2; exact (Keep.refl w1 Nul).alloc _)
    have HV2 := hide (HV1.out.keep0 K12.out)
    clear hw2 hgh
    have hSF := hide (sfmt_walk w2 HV2.out HOK.out HHS.out.2.1 HPL.out)
    obtain ⟨x0, x1, x2, x3, x4, x5, x6, x7, x8, x9, x10, x11, x12⟩ := kc13 B2.out
    go_wp2_with fail
    refine Calls.mono (show Calls _ _ #[.agg (kcells h (.slice A1 n1 c1) (.slice A2 n2 c2) (.slice A3 m c3))] _ _ from (by rw [HM.out]; exact hSF.out)) ?_
    rintro e w3 ⟨k3, A9, n9, c9, rfl, ho⟩
    have K13 := hide (K12.out.trans0 k3)
    clear k3 hSF x0 x1 x2 x3 x4 x5 x6 x7 x8 x9 x10 x11 x12
    cases hs : fmtB h with
    | none =>
      clear ho
      have hs' : (fmtB h).isSome = false := by rw [hs]; rfl
      clear hs
      go_wp2_with fail
      go_ret
      exact ⟨rfl, (K1.out.trans0 K13.out).below0⟩
    | some ob =>
      replace ho := ho ob hs
      obtain ⟨hg, rfl, hpd⟩ := good_fmt HOK.out hs
      replace ho : Own w3 w2.heap.size 5 1 (.slice A9 n9 c9) (outP h pay).length (B8 (outP h pay)) := ho
      have hn9 : n9 = (outP h pay).length := by
        obtain ⟨_, _, _, e, _⟩ := ho.rd
        injection e
      rw [← hn9] at ho
      have hs' : (fmtB h).isSome = true := by rw [hs]; rfl
      have HO := hide ho
      have HG := hide hg
      have HPD := hide hpd
      have r1 := run_str (P := Tryd.prog) (tb := 29) (ts := 9) Tryd.underlying29 Tryd.underlying5 Tryd.underlying9 ho.rd (isB_outP hg HIP.out)
      have r2 := run_str (P := Tryd.prog) (tb := 29) (ts := 9) Tryd.underlying29 Tryd.underlying5 Tryd.underlying9 (HR.out.keep0 (K1.out.trans0 K13.out)) HI.out
      clear ho hg hs hpd hn9
      generalize hsx : bstr (outP h pay) = sx at r1
      generalize hsy : bstr bs = sy at r2
      have HSX := hide hsx
      have HSY := hide hsy
      clear hsx hsy
      cases hq : (sx.toList == sy.toList) with
      | true =>
        go_wp2_with fail
        refine (hPh.out _ K13.out).mono ?_
        rintro e w4 ⟨k4, -, sv4, xv5, A6, c6, rfl, hv4⟩
        obtain ⟨q1, q2, q3⟩ := hv4.parts
        obtain ⟨A4, c4, rfl⟩ := q1.shape
        obtain ⟨A5, c5, rfl⟩ := q2.shape
        have K4 := hide ((K1.out.trans0 K13.out).trans0 k4)
        have HV4 := hide hv4
        clear k4 hPh hv4 q1 q2 q3 r1 r2
        rw [← HM.out]
        unfold kcells
        go_upto_region 10 with (refine wpList_stA rfl _ _ rfl rfl rfl (by kernel_rfl) rfl (by simp [Value.oneCell']) ?_)
        generalize hw5 : World.alloc w4 _ = w5
        obtain ⟨gp, hgp⟩ : ∃ gp, gp = w4.heap.size := ⟨_, rfl⟩
        rw [← hgp]
        have B5 := hide (show Blk w5 gp 42 (kcells h (.slice A4 h.srcs.length c4) (.slice A5 h.exts.length c5) (.slice A6 m c6)) by subst hw5 hgp; exact Blk.new w4 _ _)
        have k45 : Keep w4 w5 Nul := by subst hw5; exact (Keep.refl _ _).alloc _
        have K5 := hide (K4.out.trans0 k45)
        have HV5 := hide (HV4.out.keep0 k45)
        clear hw5 hgp k45
        have HSZ := hide (show Sz h pay from ⟨HHS.out.1, HPL.out, HHS.out.2.1, HHS.out.2.2⟩)
        have hFm := hide (fmtp_walk w5 HV5.out HG.out HPD.out HSZ.out)
        obtain ⟨x0, x1, x2, x3, x4, x5, x6, x7, x8, x9, x10, x11, x12⟩ := kc13 B5.out
        go_wp2_with fail
        refine Calls.mono (show Calls _ _ #[.agg (kcells h (.slice A4 h.srcs.length c4) (.slice A5 h.exts.length c5) (.slice A6 m c6))] _ _ from (by rw [HM.out]; exact hFm.out)) ?_
        rintro e w6 ⟨g6, c7, rfl, o6, k6⟩
        have K6 := hide (K5.out.trans0 k6)
        have r1 := run_str (P := Tryd.prog) (tb := 29) (ts := 9) Tryd.underlying29 Tryd.underlying5 Tryd.underlying9 o6.rd (isB_outP HG.out HIP.out)
        have r2 := run_str (P := Tryd.prog) (tb := 29) (ts := 9) Tryd.underlying29 Tryd.underlying5 Tryd.underlying9 (HR.out.keep0 K6.out) HI.out
        rw [HSX.out] at r1
        rw [HSY.out] at r2
        clear k6 o6 hFm x0 x1 x2 x3 x4 x5 x6 x7 x8 x9 x10 x11 x12
        go_wp2_with fail
        go_ret
        exact ⟨rfl, K6.out.below0⟩
      | false =>
        go_wp2_with fail
        go_ret
        exact ⟨rfl, (K1.out.trans0 K13.out).below0⟩
end Go.Proofs.YtdmnflngafbobaaDoor
