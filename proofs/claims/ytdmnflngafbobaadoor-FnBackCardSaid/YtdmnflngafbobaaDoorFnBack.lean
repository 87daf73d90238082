/-
  The law FnBack. Conditions: those that stand in each theorem.
-/
import Derived.Test.YtdmnflngafbobaaDoorFnPacketWritten
import Derived.Test.YtdmnflngafbobaaDoorGPun
import Derived.Test.YtdmnflngafbobaaDoorGUz
import Derived.Test.YtdmnflngafbobaaDoorRdP
import Derived.Test.YtdmnflngafbobaaDoorSame
namespace Go.Proofs.YtdmnflngafbobaaDoor
open Go.RowKit
set_option linter.unusedVariables false
set_option linter.unusedSimpArgs false
set_option maxRecDepth 100000

set_option maxHeartbeats 3200000 in
theorem fb_law {p q : Nat → Prop} {v u : Value} {hd : Hd} {data : List Int} {n : Nat} (w : World) (hh : HV w p v hd) (hok : hd.Ok) (hr : Rd w q 1 u n (B8 data)) (hI : IsB data) (he : Errs w) :
    Calls Tryd.prog 5 #[v, u] w fun e w' => e = .returned (.bool true) ∧ Below w.heap.size w w' := by
  have hnl : n = data.length := by have := hr.len; rw [B8_len] at this; exact this.symm
  obtain ⟨A0, c0, rfl⟩ := hr.shape
  replace hr := hr.mono (q := fun _ => True) (fun _ _ _ => trivial)
  replace hh := hh.mono (q := fun _ => True) (fun _ _ _ => trivial)
  have HR := hide hr
  have HH := hide hh
  have HOK := hide hok
  have HI := hide hI
  have HNL := hide hnl
  have HE := hide he
  obtain ⟨sv, xv, rfl, h1, h2⟩ := hh
  obtain ⟨A1, c1, rfl⟩ := h1.shape
  obtain ⟨A2, c2, rfl⟩ := h2.shape
  have hle := hr.le
  clear h1 h2 hok hr hI hnl he
  have HC : hcells hd (.slice A1 hd.srcs.length c1) (.slice A2 hd.exts.length c2) = #[.int .u8 hd.v, .bool hd.pad, .bool hd.ext, .bool hd.mark, .int .u8 hd.ty, .int .u16 hd.seq, .int .u32 hd.time, .int .u32 hd.ssrc, .slice A1 hd.srcs.length c1, .int .u16 hd.prof, .slice A2 hd.exts.length c2, .int .u8 hd.padn] := rfl
  rw [HC]
  go_enter Tryd.func5, Tryd.ntmps5
  go_upto_region 1 with fail
  generalize hwa : World.alloc w _ = wa
  have BX := hide (show Blk wa w.heap.size 27 (hcells hd (.slice A1 hd.srcs.length c1) (.slice A2 hd.exts.length c2)) by subst hwa; exact Blk.new w _ _)
  have HK := hide (show Keep w wa Nul by subst hwa; exact (Keep.refl w Nul).alloc _)
  have HVa := hide (HH.out.keep0 HK.out)
  have hF := hide (fits1 wa HVa.out)
  generalize hv0 : Value.agg _ = v0
  clear hwa HC hv0
  obtain ⟨x0, x1, x2, x3, x4, x5, x6, x7, x8, x9, x10, x11⟩ := hc12 BX.out
  go_wp2_with fail
  refine Calls.mono (show Calls _ _ #[.agg (hcells hd (.slice A1 hd.srcs.length c1) (.slice A2 hd.exts.length c2))] _ _ from hF.out) ?_
  rintro e w1 ⟨b, rfl, k1, hb⟩
  have HK1 := hide (HK.out.trans0 k1)
  have BX1 := hide (BX.out.keep k1 id)
  have HV1 := hide (HVa.out.keep0 k1)
  clear k1 x0 x1 x2 x3 x4 x5 x6 x7 x8 x9 x10 x11
  cases b with
  | false =>
    go_wp2_with fail
    go_ret
    exact ⟨rfl, HK1.out.below0⟩
  | true =>
  obtain ⟨b1, b2, b3⟩ := hb rfl
  have HB3 := hide b3
  clear b3 hb
  by_cases hbig : (2147483647 : Int) < (n : Int)
  · go_wp2_with fail
    go_ret
    exact ⟨rfl, HK1.out.below0⟩
  have hL := hide (legal_walk w1 HV1.out HOK.out b2)
  obtain ⟨x0, x1, x2, x3, x4, x5, x6, x7, x8, x9, x10, x11⟩ := hc12 BX1.out
  go_wp2_with fail
  refine Calls.mono (show Calls _ _ #[.agg (hcells hd (.slice A1 hd.srcs.length c1) (.slice A2 hd.exts.length c2))] _ _ from hL.out) ?_
  rintro e w2 ⟨k2, A, n2, c, rfl, -⟩
  have HK2 := hide (HK1.out.trans0 k2)
  have BX2 := hide (BX1.out.keep k2 id)
  have HV2 := hide (HV1.out.keep0 k2)
  clear k2 x0 x1 x2 x3 x4 x5 x6 x7 x8 x9 x10 x11
  cases hs : legalB hd with
  | none =>
    have hs' : (legalB hd).isSome = false := by rw [hs]; rfl
    clear hs
    go_wp2_with fail
    go_ret
    exact ⟨rfl, HK2.out.below0⟩
  | some bs =>
    obtain ⟨hg, rfl, hlen, hpd⟩ := legal_good HOK.out hs
    have hs' : (legalB hd).isSome = true := by rw [hs]; rfl
    have HG := hide hg
    have HPD := hide hpd
    have HLE := hide hlen
    clear hg hs hpd hlen
    by_cases hbig2 : (131072 : Int) < (n : Int)
    · go_wp2_with fail
      go_ret
      exact ⟨rfl, HK2.out.below0⟩
    have hnn : n ≤ 131072 := by omega
    have HDL := hide (show data.length ≤ 2147483647 by have := HNL.out; omega)
    have HR2 := hide (show Rd w2 (fun _ => True) 1 (.slice A0 data.length c0) data.length (B8 data) by rw [← HNL.out]; exact HR.out.keep0 HK2.out)
    have HVg := hide (given_walk _ HV2.out b2)
    obtain ⟨x0, x1, x2, x3, x4, x5, x6, x7, x8, x9, x10, x11⟩ := hc12 BX2.out
    go_wp2_with fail
    refine Calls.mono (show Calls _ _ #[.agg (hcells hd (.slice A1 hd.srcs.length c1) (.slice A2 hd.exts.length c2))] _ _ from HVg.out) ?_
    rintro e w3 ⟨k3, sv3, xv3, rfl, h3⟩
    obtain ⟨q1, q2⟩ := h3.parts
    obtain ⟨A3, c3, rfl⟩ := q1.shape
    obtain ⟨A4, c4, rfl⟩ := q2.shape
    have HK3 := hide (HK2.out.trans0 k3)
    have BX3 := hide (BX2.out.keep k3 id)
    have HV3 := hide (HV2.out.keep0 k3)
    have PV3 := hide (show PV w3 (fun _ => True) (.agg (kcells hd (.slice A3 hd.srcs.length c3) (.slice A4 hd.exts.length c4) (.slice A0 data.length c0))) hd data from PV.of_hv h3 (HR2.out.keep0 k3))
    have HR3 := hide (HR2.out.keep0 k3)
    clear k3 q1 q2 h3 x0 x1 x2 x3 x4 x5 x6 x7 x8 x9 x10 x11
    have HSZ := hide (show Sz hd data from ⟨b1, HDL.out, b2, HB3.out⟩)
    have hFm := hide (fmtp_walk w3 PV3.out HG.out HPD.out HSZ.out)
    unfold hcells
    go_wp2_with fail
    refine Calls.mono (show Calls _ _ #[.agg (kcells hd (.slice A3 hd.srcs.length c3) (.slice A4 hd.exts.length c4) (.slice A0 n c0))] _ _ from (by rw [HNL.out]; exact hFm.out)) ?_
    rintro e w4 ⟨g4, c4', rfl, o4, k4⟩
    have HK4 := hide (HK3.out.trans0 k4)
    have BX4 := hide (BX3.out.keep k4 id)
    have HV4 := hide (HV3.out.keep0 k4)
    have HR4 := hide (HR3.out.keep0 k4)
    have hpl := outP_len HG.out HPD.out data
    have hps := psize_le HG.out HDL.out
    have hol : (outP hd data).length ≤ 2147483647 := by
      have := HLE.out
      have h0 := HG.out.ok.padn
      have hpb := padB_len HPD.out h0
      have := HNL.out
      unfold outP
      rw [List.length_append, List.length_append, hpb]
      omega
    have hrp := readP_out HG.out HPD.out data
    obtain ⟨pr, hpr⟩ : ∃ pr, pr = (if hd.ext then hd.prof else 0) := ⟨_, rfl⟩
    rw [← hpr] at hrp
    have HPR := hide hpr
    have hib := isB_outP HG.out HI.out
    have hnw : readB (outP hd data) ≠ .wide := fun hw => by
      unfold readP at hrp
      rw [hw] at hrp
      cases hrp
    have hPa := hide (parse_good w4 o4.rd hib hol (HE.out.keep0 HK4.out) (hsSpec hib) (unSpec hib hnw) hrp)
    clear k4 o4 hpl hps hol hrp hib hnw hpr
    go_wp2_with fail
    refine (hPa.out).mono ?_
    rintro e w5 ⟨k5, hhs, sv5, xv5, A7, c7, rfl, pv5⟩
    obtain ⟨q1, q2, q3⟩ := pv5.parts
    obtain ⟨A5, c5, rfl⟩ := q1.shape
    obtain ⟨A6, c6, rfl⟩ := q2.shape
    have HK5 := hide (HK4.out.trans0 k5)
    have BX5 := hide (BX4.out.keep k5 id)
    have HV5 := hide (HV4.out.keep0 k5)
    have HR5 := hide (HR4.out.keep0 k5)
    have PV5 := hide pv5
    have HN : data.length = n := HNL.out.symm
    rw [HN]
    clear k5 pv5 q1 q2 q3 hhs HN
    unfold kcells
    simp only
    go_upto_region 8 with (refine wpList_stA rfl _ _ rfl rfl rfl (by kernel_rfl) rfl (by simp [Value.oneCell']) ?_)
    generalize hw6 : World.alloc w5 _ = w6
    obtain ⟨gp, hgp⟩ : ∃ gp, gp = w5.heap.size := ⟨_, rfl⟩
    rw [← hgp]
    have B6 := hide (show Blk w6 gp 42 (kcells { hd with prof := pr } (.slice A5 hd.srcs.length c5) (.slice A6 hd.exts.length c6) (.slice A7 n c7)) by subst hw6 hgp; exact Blk.new w5 _ _)
    have K6 := hide (show Keep w5 w6 Nul by subst hw6; exact (Keep.refl _ _).alloc _)
    clear hw6 hgp
    have HK6 := hide (HK5.out.trans0 K6.out)
    have BX6 := hide (BX5.out.keep K6.out id)
    have HV6 := hide (HV5.out.keep0 K6.out)
    have HR6 := hide (HR5.out.keep0 K6.out)
    have PV6 := hide (PV5.out.keep0 K6.out)
    have bx0 := hide BX6.out.drew
    have by0 := hide B6.out.drew
    have KD := hide ((Keep.refl w6 Nul).drew)
    have pvd := hide (PV6.out.keep0 KD.out)
    have hvq : HV w6.drew (w4.heap.size ≤ ·) (.agg (hcells { hd with prof := pr } (.slice A5 hd.srcs.length c5) (.slice A6 hd.exts.length c6))) { hd with prof := pr } := ⟨_, _, rfl, pvd.out.parts.1, pvd.out.parts.2.1⟩
    have HVQ := hide hvq
    have rpay := hide (show Rd w6.drew (w4.heap.size ≤ ·) 1 (.slice A7 n c7) n (B8 data) by have := pvd.out.parts.2.2; rw [← HNL.out] at this; exact this)
    have rdat := hide (show Rd w6.drew (fun _ => True) 1 (.slice A0 n c0) n (B8 data) by have := HR6.out.keep0 KD.out; rw [← HNL.out] at this; exact this)
    have HVd := hide (HV6.out.keep0 KD.out)
    clear hvq
    have SOf : ∀ w', Keep w6.drew w' Nul → (w'.cell? ⟨w.heap.size, 0, none⟩ = some (.int .u8 hd.v) ∧ w'.cell? ⟨w.heap.size, 1, none⟩ = some (.bool hd.pad) ∧ w'.cell? ⟨w.heap.size, 2, none⟩ = some (.bool hd.ext) ∧ w'.cell? ⟨w.heap.size, 3, none⟩ = some (.bool hd.mark) ∧ w'.cell? ⟨w.heap.size, 4, none⟩ = some (.int .u8 hd.ty) ∧ w'.cell? ⟨w.heap.size, 5, none⟩ = some (.int .u16 hd.seq) ∧ w'.cell? ⟨w.heap.size, 6, none⟩ = some (.int .u32 hd.time) ∧ w'.cell? ⟨w.heap.size, 7, none⟩ = some (.int .u32 hd.ssrc) ∧ w'.cell? ⟨w.heap.size, 8, none⟩ = some (.slice A1 hd.srcs.length c1) ∧ w'.cell? ⟨w.heap.size, 9, none⟩ = some (.int .u16 hd.prof) ∧ w'.cell? ⟨w.heap.size, 10, none⟩ = some (.slice A2 hd.exts.length c2) ∧ w'.cell? ⟨w.heap.size, 11, none⟩ = some (.int .u8 hd.padn) ∧ w'.cell? ⟨gp, 0, none⟩ = some (.int .u8 hd.v) ∧ w'.cell? ⟨gp, 1, none⟩ = some (.bool hd.pad) ∧ w'.cell? ⟨gp, 2, none⟩ = some (.bool hd.ext) ∧ w'.cell? ⟨gp, 3, none⟩ = some (.bool hd.mark) ∧ w'.cell? ⟨gp, 4, none⟩ = some (.int .u8 hd.ty) ∧ w'.cell? ⟨gp, 5, none⟩ = some (.int .u16 hd.seq) ∧ w'.cell? ⟨gp, 6, none⟩ = some (.int .u32 hd.time) ∧ w'.cell? ⟨gp, 7, none⟩ = some (.int .u32 hd.ssrc) ∧ w'.cell? ⟨gp, 8, none⟩ = some (.slice A5 hd.srcs.length c5) ∧ w'.cell? ⟨gp, 9, none⟩ = some (.int .u16 pr) ∧ w'.cell? ⟨gp, 10, none⟩ = some (.slice A6 hd.exts.length c6) ∧ w'.cell? ⟨gp, 11, none⟩ = some (.int .u8 hd.padn) ∧ w'.cell? ⟨gp, 12, none⟩ = some (.slice A7 n c7) ∧ (convert 29 9 (.slice A7 n c7)).run Tryd.prog w' = .ok (.string (bstr data)) w' ∧ (convert 29 9 (.slice A0 n c0)).run Tryd.prog w' = .ok (.string (bstr data)) w') := fun w' k => by
      have h := bx0.out.keep k id
      have h' := by0.out.keep k id
      exact ⟨h.cell 0 rfl, h.cell 1 rfl, h.cell 2 rfl, h.cell 3 rfl, h.cell 4 rfl, h.cell 5 rfl, h.cell 6 rfl, h.cell 7 rfl, h.cell 8 rfl, h.cell 9 rfl, h.cell 10 rfl, h.cell 11 rfl, h'.cell 0 rfl, h'.cell 1 rfl, h'.cell 2 rfl, h'.cell 3 rfl, h'.cell 4 rfl, h'.cell 5 rfl, h'.cell 6 rfl, h'.cell 7 rfl, h'.cell 8 rfl, h'.cell 9 rfl, h'.cell 10 rfl, h'.cell 11 rfl, h'.cell 12 rfl, run_str Tryd.underlying29 Tryd.underlying5 Tryd.underlying9 (rpay.out.keep0 k) HI.out, run_str Tryd.underlying29 Tryd.underlying5 Tryd.underlying9 (rdat.out.keep0 k) HI.out⟩
    have SO := hide SOf
    have K00 := hide (Keep.refl w6.drew Nul)
    clear SOf
    have HOKP := hide (show Hd.Ok { hd with prof := pr } from ⟨HOK.out.v, HOK.out.ty, HOK.out.seq, HOK.out.time, HOK.out.ssrc, HOK.out.srcs, (by show 0 ≤ pr ∧ pr < 65536; rw [HPR.out]; split; exact HOK.out.prof; omega), HOK.out.exts, HOK.out.padn⟩)
    have HPX := hide (show hd.ext = true → hd.prof = pr from fun hx => by rw [HPR.out, if_pos hx])
    have hsm : ∀ (wp : World) (svp xvp : Value), HV wp (fun _ => True) (.agg (hcells { hd with prof := pr } svp xvp)) { hd with prof := pr } → HV wp (fun _ => True) (.agg (hcells hd (.slice A1 hd.srcs.length c1) (.slice A2 hd.exts.length c2))) hd →
        Calls Tryd.prog 26 #[.agg (hcells { hd with prof := pr } svp xvp), .agg #[.int .u8 hd.v, .bool hd.pad, .bool hd.ext, .bool hd.mark, .int .u8 hd.ty, .int .u16 hd.seq, .int .u32 hd.time, .int .u32 hd.ssrc, .slice A1 hd.srcs.length c1, .int .u16 hd.prof, .slice A2 hd.exts.length c2, .int .u8 hd.padn]] wp fun e w' => e = .returned (.bool true) ∧ Keep wp w' Nul :=
      fun wp svp xvp a b => same_walk (a := { hd with prof := pr }) (pr := hd.prof) wp a b HOKP.out HPX.out
    have HSM := hide hsm
    clear hsm
    go_region_held3 (fun w' => w'.cell? ⟨w.heap.size, 0, none⟩ = some (.int .u8 hd.v) ∧ w'.cell? ⟨w.heap.size, 1, none⟩ = some (.bool hd.pad) ∧ w'.cell? ⟨w.heap.size, 2, none⟩ = some (.bool hd.ext) ∧ w'.cell? ⟨w.heap.size, 3, none⟩ = some (.bool hd.mark) ∧ w'.cell? ⟨w.heap.size, 4, none⟩ = some (.int .u8 hd.ty) ∧ w'.cell? ⟨w.heap.size, 5, none⟩ = some (.int .u16 hd.seq) ∧ w'.cell? ⟨w.heap.size, 6, none⟩ = some (.int .u32 hd.time) ∧ w'.cell? ⟨w.heap.size, 7, none⟩ = some (.int .u32 hd.ssrc) ∧ w'.cell? ⟨w.heap.size, 8, none⟩ = some (.slice A1 hd.srcs.length c1) ∧ w'.cell? ⟨w.heap.size, 9, none⟩ = some (.int .u16 hd.prof) ∧ w'.cell? ⟨w.heap.size, 10, none⟩ = some (.slice A2 hd.exts.length c2) ∧ w'.cell? ⟨w.heap.size, 11, none⟩ = some (.int .u8 hd.padn) ∧ w'.cell? ⟨gp, 0, none⟩ = some (.int .u8 hd.v) ∧ w'.cell? ⟨gp, 1, none⟩ = some (.bool hd.pad) ∧ w'.cell? ⟨gp, 2, none⟩ = some (.bool hd.ext) ∧ w'.cell? ⟨gp, 3, none⟩ = some (.bool hd.mark) ∧ w'.cell? ⟨gp, 4, none⟩ = some (.int .u8 hd.ty) ∧ w'.cell? ⟨gp, 5, none⟩ = some (.int .u16 hd.seq) ∧ w'.cell? ⟨gp, 6, none⟩ = some (.int .u32 hd.time) ∧ w'.cell? ⟨gp, 7, none⟩ = some (.int .u32 hd.ssrc) ∧ w'.cell? ⟨gp, 8, none⟩ = some (.slice A5 hd.srcs.length c5) ∧ w'.cell? ⟨gp, 9, none⟩ = some (.int .u16 pr) ∧ w'.cell? ⟨gp, 10, none⟩ = some (.slice A6 hd.exts.length c6) ∧ w'.cell? ⟨gp, 11, none⟩ = some (.int .u8 hd.padn) ∧ w'.cell? ⟨gp, 12, none⟩ = some (.slice A7 n c7) ∧ (convert 29 9 (.slice A7 n c7)).run Tryd.prog w' = .ok (.string (bstr data)) w' ∧ (convert 29 9 (.slice A0 n c0)).run Tryd.prog w' = .ok (.string (bstr data)) w')
      (first | with_reducible exact SO.out _ K00.out | with_reducible exact SO.out _ kp1.out | with_reducible exact SO.out _ ks1.out)
      (first
        | (go_at_call 27; refine Calls.mono (show Calls _ _ #[.agg (hcells { hd with prof := pr } (.slice A5 hd.srcs.length c5) (.slice A6 hd.exts.length c6))] _ _ from lplain_walk _ HVQ.out b2) ?_; rintro e wp ⟨kp, svp, xvp, rfl, hvp⟩; have HVp := hide (HVd.out.keep0 kp); have kp1 := hide kp; have hvp := hide hvp; clear kp)
        | (go_at_call 26; refine Calls.mono (HSM.out _ _ _ hvp.out HVp.out) ?_; rintro e ws ⟨rfl, ks⟩; have ks1 := hide (kp1.out.trans0 ks); clear ks))
    go_wp2_with fail
    go_ret
    exact ⟨rfl, ((HK6.out.trans0 KD.out).trans0 ks1.out).below0⟩
end Go.Proofs.YtdmnflngafbobaaDoor
