/-
  The law FnPacket. Conditions: those that stand in each theorem.
-/
import Derived.Test.YtdmnflngafbobaaDoorGSq
import Derived.Test.YtdmnflngafbobaaDoorGUz
import Derived.Test.YtdmnflngafbobaaDoorWorks
import Derived.Test.YtdmnflngafbobaaDoorRok
import Derived.Test.YtdmnflngafbobaaDoorSame
namespace Go.Proofs.YtdmnflngafbobaaDoor
open Go.RowKit
set_option linter.unusedVariables false
set_option linter.unusedSimpArgs false
set_option maxRecDepth 100000

theorem readP_hs {bs : List Int} (hI : IsB bs) {h : Hd} {pay : List Int} (hr : readP bs = .good h pay) : Hs h := by
  unfold readP at hr
  cases hb : readB bs with
  | bad => rw [hb] at hr; cases hr
  | wide => rw [hb] at hr; cases hr
  | good h0 n =>
    obtain ⟨h1, -, -, -⟩ := hsSpec hI _ _ hb
    rw [hb] at hr
    simp only at hr
    split at hr
    · cases hr; exact h1
    · split at hr
      · cases hr
      · split at hr
        · cases hr
        · split at hr
          · cases hr
          · cases hr; exact h1
theorem readP_nw {bs : List Int} (hr : readP bs ≠ .wide) : readB bs ≠ .wide := fun e => hr (by unfold readP; rw [e])

set_option maxHeartbeats 3200000 in
theorem fp_law {q : Nat → Prop} {u : Value} {bs : List Int} {n : Nat} (w : World) (hr : Rd w q 1 u n (B8 bs)) (hI : IsB bs) (he : Errs w) :
    Calls Tryd.prog 6 #[u] w fun e w' => e = .returned (.bool true) ∧ Below w.heap.size w w' := by
  obtain ⟨A0, c0, rfl⟩ := hr.shape
  have HR := hide (hr.mono (q := fun _ => True) (fun _ _ _ => trivial))
  have HI := hide hI
  have HE := hide he
  clear hr hI he
  by_cases hbig : (131072 : Int) < (n : Int)
  · by_cases hbig2 : (2147483647 : Int) < (n : Int)
    · go_enter Tryd.func6, Tryd.ntmps6
      go_wp2_with fail
      go_ret
      exact ⟨rfl, (Keep.refl w Nul).below0⟩
    · go_enter Tryd.func6, Tryd.ntmps6
      go_wp2_with fail
      go_ret
      exact ⟨rfl, (Keep.refl w Nul).below0⟩
  have hbig2 : ¬ (2147483647 : Int) < (n : Int) := by omega
  have hn : n ≤ 2147483647 := by omega
  have hRp := hide (rp_walk w HR.out HI.out hn)
  go_enter Tryd.func6, Tryd.ntmps6
  go_wp2_with fail
  refine (hRp.out).mono ?_
  rintro e w1 ⟨k1, hcase⟩
  have K1 := hide k1
  clear k1 hRp
  rcases hcase with ⟨hb, rfl⟩ | ⟨hb, rfl⟩ | ⟨h, pay, A1, n1, c1, A2, n2, c2, A3, c3, hb, rfl, hv⟩
  · have hnw := readP_nw (bs := bs) (by rw [hb]; exact fun e => by cases e)
    have hPh := hide (fun (w2 : World) (k : Keep w1 w2 Nul) => parse_bad w2 (HR.out.keep0 (K1.out.trans0 k)) HI.out hn (HE.out.keep0 (K1.out.trans0 k)) (hsSpec HI.out) (unSpec HI.out hnw) hb)
    clear hb hnw
    unfold kcells hd0
    go_upto_region 8 with (refine wpList_stA rfl _ _ rfl rfl rfl (by kernel_rfl) rfl (by simp [Value.oneCell']) ?_)
    generalize hw2 : World.alloc w1 _ = w2
    have K12 := hide (show Keep w1 w2 Nul by subst hw2; exact (Keep.refl w1 Nul).alloc _)
    clear hw2
    go_wp2_with fail
    refine (hPh.out _ K12.out).mono ?_
    rintro e w3 ⟨k3, rfl⟩
    have K3 := hide ((K1.out.trans0 K12.out).trans0 k3)
    clear k3 hPh
    unfold kcells hd0
    go_upto_region 10 with (refine wpList_stA rfl _ _ rfl rfl rfl (by kernel_rfl) rfl (by simp [Value.oneCell']) ?_)
    generalize hw4 : World.alloc w3 _ = w4
    have K4 := hide (show Keep w w4 Nul by subst hw4; exact K3.out.alloc _)
    clear hw4
    have hW := hide (works_walk w4 (HE.out.keep0 K4.out))
    go_wp2_with fail
    refine (hW.out).mono ?_
    rintro e w5 ⟨rfl, k5⟩
    have K5 := hide (K4.out.trans0 k5)
    clear k5
    go_wp2_with fail
    go_ret
    exact ⟨rfl, K5.out.below0⟩
  · unfold kcells hd0
    go_wp2_with (refine wpList_stA rfl _ _ rfl rfl rfl (by kernel_rfl) rfl (by simp [Value.oneCell']) ?_)
    go_ret
    exact ⟨rfl, (K1.out.alloc _).below0⟩
  · obtain ⟨hok, hip⟩ := readP_ok HI.out hb
    have HOK := hide hok
    have HIP := hide hip
    have HHS := hide (readP_hs HI.out hb)
    have hnw := readP_nw (bs := bs) (by rw [hb]; exact fun e => by cases e)
    have hPh := hide (fun (w2 : World) (k : Keep w1 w2 Nul) => parse_good w2 (HR.out.keep0 (K1.out.trans0 k)) HI.out hn (HE.out.keep0 (K1.out.trans0 k)) (hsSpec HI.out) (unSpec HI.out hnw) hb)
    have HV1 := hide hv
    obtain ⟨m, hm⟩ : ∃ m, m = pay.length := ⟨_, rfl⟩
    have HM := hide hm
    rw [← hm]
    clear hb hnw hv hok hip hm
    unfold kcells
    go_upto_region 8 with (refine wpList_stA rfl _ _ rfl rfl rfl (by kernel_rfl) rfl (by simp [Value.oneCell']) ?_)
    generalize hw2 : World.alloc w1 _ = w2
    obtain ⟨gh, hgh⟩ : ∃ gh, gh = w1.heap.size := ⟨_, rfl⟩
    rw [← hgh]
    have B2 := hide (show Blk w2 gh 40 (kcells h (.slice A1 n1 c1) (.slice A2 n2 c2) (.slice A3 m c3)) by subst hw2 hgh; exact Blk.new w1 _ _)
    have K12 := hide (show Keep w1 w2 Nul by subst hw2; exact (Keep.refl w1 Nul).alloc _)
    have HV2 := hide (HV1.out.keep0 K12.out)
    clear hw2
    go_wp2_with fail
    refine (hPh.out _ K12.out).mono ?_
    rintro e w3 ⟨k3, -, sv4, xv5, A6, c6, rfl, hv3⟩
    obtain ⟨q1, q2, q3⟩ := hv3.parts
    obtain ⟨A4, c4, rfl⟩ := q1.shape
    obtain ⟨A5, c5, rfl⟩ := q2.shape
    obtain ⟨n4, hn4⟩ : ∃ n4, n4 = h.srcs.length := ⟨_, rfl⟩
    obtain ⟨n5, hn5⟩ : ∃ n5, n5 = h.exts.length := ⟨_, rfl⟩
    have K3 := hide ((K1.out.trans0 K12.out).trans0 k3)
    have B3 := hide (B2.out.keep k3 id)
    have HV3 := hide (HV2.out.keep0 k3)
    have HG3 := hide hv3
    clear k3 hPh hv3 hgh q1 q2 q3
    rw [← HM.out, ← hn4, ← hn5]
    have HN4 := hide hn4
    have HN5 := hide hn5
    clear hn4 hn5
    unfold kcells
    go_upto_region 11 with (refine wpList_stA rfl _ _ rfl rfl rfl (by kernel_rfl) rfl (by simp [Value.oneCell']) ?_)
    generalize hw4 : World.alloc w3 _ = w4
    obtain ⟨gp, hgp⟩ : ∃ gp, gp = w3.heap.size := ⟨_, rfl⟩
    rw [← hgp]
    have P4 := hide (show Blk w4 gp 42 (kcells h (.slice A4 n4 c4) (.slice A5 n5 c5) (.slice A6 m c6)) by subst hw4 hgp; exact Blk.new w3 _ _)
    have k34 : Keep w3 w4 Nul := by subst hw4; exact (Keep.refl _ _).alloc _
    have K4 := hide (K3.out.trans0 k34)
    have B4 := hide (B3.out.keep k34 id)
    have KD := hide ((Keep.refl w4 Nul).drew)
    have PW := hide ((HV3.out.keep0 k34).keep0 KD.out)
    have PP := hide ((HG3.out.keep0 k34).keep0 KD.out)
    have HVW := hide (show HV w4.drew (fun _ => True) (.agg (hcells h (.slice A1 n1 c1) (.slice A2 n2 c2))) h from ⟨_, _, rfl, PW.out.parts.1, PW.out.parts.2.1⟩)
    have HVQ := hide (show HV w4.drew (w2.heap.size ≤ ·) (.agg (hcells h (.slice A4 n4 c4) (.slice A5 n5 c5))) h from ⟨_, _, rfl, by rw [HN4.out]; exact PP.out.parts.1, by rw [HN5.out]; exact PP.out.parts.2.1⟩)
    have RP4 := hide (show Rd w4.drew (w2.heap.size ≤ ·) 1 (.slice A6 m c6) m (B8 pay) by rw [HM.out]; exact PP.out.parts.2.2)
    have RW4 := hide (show Rd w4.drew (fun _ => True) 1 (.slice A3 m c3) m (B8 pay) by rw [HM.out]; exact PW.out.parts.2.2)
    clear hw4 hgp k34
    have SOf : ∀ w', Keep w4.drew w' Nul → (w'.cell? ⟨gh, 0, none⟩ = some (.int .u8 h.v) ∧ w'.cell? ⟨gh, 1, none⟩ = some (.bool h.pad) ∧ w'.cell? ⟨gh, 2, none⟩ = some (.bool h.ext) ∧ w'.cell? ⟨gh, 3, none⟩ = some (.bool h.mark) ∧ w'.cell? ⟨gh, 4, none⟩ = some (.int .u8 h.ty) ∧ w'.cell? ⟨gh, 5, none⟩ = some (.int .u16 h.seq) ∧ w'.cell? ⟨gh, 6, none⟩ = some (.int .u32 h.time) ∧ w'.cell? ⟨gh, 7, none⟩ = some (.int .u32 h.ssrc) ∧ w'.cell? ⟨gh, 8, none⟩ = some (.slice A1 n1 c1) ∧ w'.cell? ⟨gh, 9, none⟩ = some (.int .u16 h.prof) ∧ w'.cell? ⟨gh, 10, none⟩ = some (.slice A2 n2 c2) ∧ w'.cell? ⟨gh, 11, none⟩ = some (.int .u8 h.padn) ∧ w'.cell? ⟨gh, 12, none⟩ = some (.slice A3 m c3) ∧ w'.cell? ⟨gp, 0, none⟩ = some (.int .u8 h.v) ∧ w'.cell? ⟨gp, 1, none⟩ = some (.bool h.pad) ∧ w'.cell? ⟨gp, 2, none⟩ = some (.bool h.ext) ∧ w'.cell? ⟨gp, 3, none⟩ = some (.bool h.mark) ∧ w'.cell? ⟨gp, 4, none⟩ = some (.int .u8 h.ty) ∧ w'.cell? ⟨gp, 5, none⟩ = some (.int .u16 h.seq) ∧ w'.cell? ⟨gp, 6, none⟩ = some (.int .u32 h.time) ∧ w'.cell? ⟨gp, 7, none⟩ = some (.int .u32 h.ssrc) ∧ w'.cell? ⟨gp, 8, none⟩ = some (.slice A4 n4 c4) ∧ w'.cell? ⟨gp, 9, none⟩ = some (.int .u16 h.prof) ∧ w'.cell? ⟨gp, 10, none⟩ = some (.slice A5 n5 c5) ∧ w'.cell? ⟨gp, 11, none⟩ = some (.int .u8 h.padn) ∧ w'.cell? ⟨gp, 12, none⟩ = some (.slice A6 m c6) ∧ (convert 29 9 (.slice A6 m c6)).run Tryd.prog w' = .ok (.string (bstr pay)) w' ∧ (convert 29 9 (.slice A3 m c3)).run Tryd.prog w' = .ok (.string (bstr pay)) w') := fun w' k => by
      have hB := (B4.out.keep KD.out id).keep k id
      have hP := (P4.out.keep KD.out id).keep k id
      exact ⟨hB.cell 0 rfl, hB.cell 1 rfl, hB.cell 2 rfl, hB.cell 3 rfl, hB.cell 4 rfl, hB.cell 5 rfl, hB.cell 6 rfl, hB.cell 7 rfl, hB.cell 8 rfl, hB.cell 9 rfl, hB.cell 10 rfl, hB.cell 11 rfl, hB.cell 12 rfl, hP.cell 0 rfl, hP.cell 1 rfl, hP.cell 2 rfl, hP.cell 3 rfl, hP.cell 4 rfl, hP.cell 5 rfl, hP.cell 6 rfl, hP.cell 7 rfl, hP.cell 8 rfl, hP.cell 9 rfl, hP.cell 10 rfl, hP.cell 11 rfl, hP.cell 12 rfl, run_str Tryd.underlying29 Tryd.underlying5 Tryd.underlying9 (RP4.out.keep0 k) HIP.out, run_str Tryd.underlying29 Tryd.underlying5 Tryd.underlying9 (RW4.out.keep0 k) HIP.out⟩
    have SO := hide SOf
    have K00 := hide (Keep.refl w4.drew Nul)
    have hexl := HHS.out.2.1
    have hsm : ∀ (wp : World) (svp xvp : Value), HV wp (fun _ => True) (.agg (hcells h svp xvp)) h → HV wp (fun _ => True) (.agg (hcells h (.slice A1 n1 c1) (.slice A2 n2 c2))) h →
        Calls Tryd.prog 26 #[.agg (hcells h svp xvp), .agg #[.int .u8 h.v, .bool h.pad, .bool h.ext, .bool h.mark, .int .u8 h.ty, .int .u16 h.seq, .int .u32 h.time, .int .u32 h.ssrc, .slice A1 n1 c1, .int .u16 h.prof, .slice A2 n2 c2, .int .u8 h.padn]] wp fun e w' => e = .returned (.bool true) ∧ Keep wp w' Nul :=
      fun wp svp xvp a b => same_walk (a := h) (pr := h.prof) wp a b HOK.out (fun _ => rfl)
    have HSM := hide hsm
    clear SOf hsm
    go_region_held3 (fun w' => w'.cell? ⟨gh, 0, none⟩ = some (.int .u8 h.v) ∧ w'.cell? ⟨gh, 1, none⟩ = some (.bool h.pad) ∧ w'.cell? ⟨gh, 2, none⟩ = some (.bool h.ext) ∧ w'.cell? ⟨gh, 3, none⟩ = some (.bool h.mark) ∧ w'.cell? ⟨gh, 4, none⟩ = some (.int .u8 h.ty) ∧ w'.cell? ⟨gh, 5, none⟩ = some (.int .u16 h.seq) ∧ w'.cell? ⟨gh, 6, none⟩ = some (.int .u32 h.time) ∧ w'.cell? ⟨gh, 7, none⟩ = some (.int .u32 h.ssrc) ∧ w'.cell? ⟨gh, 8, none⟩ = some (.slice A1 n1 c1) ∧ w'.cell? ⟨gh, 9, none⟩ = some (.int .u16 h.prof) ∧ w'.cell? ⟨gh, 10, none⟩ = some (.slice A2 n2 c2) ∧ w'.cell? ⟨gh, 11, none⟩ = some (.int .u8 h.padn) ∧ w'.cell? ⟨gh, 12, none⟩ = some (.slice A3 m c3) ∧ w'.cell? ⟨gp, 0, none⟩ = some (.int .u8 h.v) ∧ w'.cell? ⟨gp, 1, none⟩ = some (.bool h.pad) ∧ w'.cell? ⟨gp, 2, none⟩ = some (.bool h.ext) ∧ w'.cell? ⟨gp, 3, none⟩ = some (.bool h.mark) ∧ w'.cell? ⟨gp, 4, none⟩ = some (.int .u8 h.ty) ∧ w'.cell? ⟨gp, 5, none⟩ = some (.int .u16 h.seq) ∧ w'.cell? ⟨gp, 6, none⟩ = some (.int .u32 h.time) ∧ w'.cell? ⟨gp, 7, none⟩ = some (.int .u32 h.ssrc) ∧ w'.cell? ⟨gp, 8, none⟩ = some (.slice A4 n4 c4) ∧ w'.cell? ⟨gp, 9, none⟩ = some (.int .u16 h.prof) ∧ w'.cell? ⟨gp, 10, none⟩ = some (.slice A5 n5 c5) ∧ w'.cell? ⟨gp, 11, none⟩ = some (.int .u8 h.padn) ∧ w'.cell? ⟨gp, 12, none⟩ = some (.slice A6 m c6) ∧ (convert 29 9 (.slice A6 m c6)).run Tryd.prog w' = .ok (.string (bstr pay)) w' ∧ (convert 29 9 (.slice A3 m c3)).run Tryd.prog w' = .ok (.string (bstr pay)) w')
      (first | with_reducible exact SO.out _ K00.out | with_reducible exact SO.out _ kp1.out | with_reducible exact SO.out _ ks1.out)
      (first
        | (go_at_call 27; refine Calls.mono (show Calls _ _ #[.agg (hcells h (.slice A4 n4 c4) (.slice A5 n5 c5))] _ _ from lplain_walk _ HVQ.out hexl) ?_; rintro e wp ⟨kp, svp, xvp, rfl, hvp⟩; have HVp := hide (HVW.out.keep0 kp); have kp1 := hide kp; have hvp := hide hvp; clear kp)
        | (go_at_call 26; refine Calls.mono (HSM.out _ _ _ hvp.out HVp.out) ?_; rintro e ws ⟨rfl, ks⟩; have ks1 := hide (kp1.out.trans0 ks); clear ks))
    go_wp2_with fail
    go_ret
    exact ⟨rfl, ((K4.out.trans0 KD.out).trans0 ks1.out).below0⟩
end Go.Proofs.YtdmnflngafbobaaDoor
