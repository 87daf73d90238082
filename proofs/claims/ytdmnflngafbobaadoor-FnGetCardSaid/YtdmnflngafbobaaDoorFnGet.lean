/-
  The law FnGet. Conditions: those that stand in each theorem.
-/
import Derived.Test.YtdmnflngafbobaaDoorGetw
import Derived.Test.YtdmnflngafbobaaDoorIds
import Derived.Test.YtdmnflngafbobaaDoorWorks
import Derived.BigQuiet
import Derived.Deep.QuietTactic
import Derived.Test.YtdmnflngafbobaaDoorFnHeaderWritten
namespace Go.Proofs.YtdmnflngafbobaaDoor
open Go.RowKit
set_option linter.unusedVariables false
set_option linter.unusedSimpArgs false
set_option maxRecDepth 100000

theorem fdd_isB {hd : Hd} (id : Int) (h : hd.Ok) : IsB (fdd hd id) := by
  unfold fdd
  cases hF : Fd hd id with
  | none => intro x hx; cases hx
  | some x =>
    refine (h.exts x ?_).2
    unfold Fd at hF
    split at hF
    · cases hf : fi hd.exts id with
      | none => rw [hf] at hF; cases hF
      | some k => rw [hf] at hF; exact List.mem_of_getElem? hF
    · cases hF

set_option maxHeartbeats 6400000 in
theorem fget_law {p : Nat → Prop} {v : Value} {hd : Hd} {id : Int} (w : World) (hh : HV w p v hd) (hok : hd.Ok) (he : Errs w) :
    Calls Tryd.prog 11 #[v, .int .u8 id] w fun e w' => e = .returned (.bool true) ∧ Below w.heap.size w w' := by
  have HH := hide hh
  have HOK := hide hok
  have HE := hide he
  obtain ⟨sv, xv, rfl, h1, h2⟩ := hh
  obtain ⟨A1, c1, rfl⟩ := h1.shape
  obtain ⟨A2, c2, rfl⟩ := h2.shape
  clear h1 h2 hok he
  have HC : hcells hd (.slice A1 hd.srcs.length c1) (.slice A2 hd.exts.length c2) = #[.int .u8 hd.v, .bool hd.pad, .bool hd.ext, .bool hd.mark, .int .u8 hd.ty, .int .u16 hd.seq, .int .u32 hd.time, .int .u32 hd.ssrc, .slice A1 hd.srcs.length c1, .int .u16 hd.prof, .slice A2 hd.exts.length c2, .int .u8 hd.padn] := rfl
  rw [HC]
  go_enter Tryd.func11, Tryd.ntmps11
  go_upto_region 1 with fail
  generalize hwa : World.alloc w _ = wa
  have BX := hide (show Blk wa w.heap.size 27 (hcells hd (.slice A1 hd.srcs.length c1) (.slice A2 hd.exts.length c2)) by subst hwa; exact Blk.new w _ _)
  have HK := hide (show Keep w wa Nul by subst hwa; exact (Keep.refl w Nul).alloc _)
  have HVa := hide (HH.out.keep0 HK.out)
  have hF := hide (fits1 wa HVa.out)
  generalize hv0 : Value.agg _ = v0
  clear hwa HC hv0
  obtain ⟨x0, x1, x2, x3, x4, x5, x6, x7, x8, x9, x10, x11⟩ := hc12 BX.out
  go_wp2_with fail
  refine Calls.mono (show Calls _ _ #[.agg (hcells hd (.slice A1 hd.srcs.length c1) (.slice A2 hd.exts.length c2))] _ _ from hF.out) ?_
  rintro e w1 ⟨b, rfl, k1, hb⟩
  have HK1 := hide (HK.out.trans0 k1)
  have BX1 := hide (BX.out.keep k1 (fun h => h))
  have HV1 := hide (HVa.out.keep0 k1)
  clear k1 x0 x1 x2 x3 x4 x5 x6 x7 x8 x9 x10 x11
  cases b with
  | false =>
    go_wp2_with fail
    go_ret
    exact ⟨rfl, HK1.out.below0⟩
  | true =>
  obtain ⟨b1, b2, b3⟩ := hb rfl
  have HB3 := hide b3
  clear b3 hb
  have hL := hide (legal_walk w1 HV1.out HOK.out b2)
  obtain ⟨x0, x1, x2, x3, x4, x5, x6, x7, x8, x9, x10, x11⟩ := hc12 BX1.out
  go_wp2_with fail
  refine Calls.mono (show Calls _ _ #[.agg (hcells hd (.slice A1 hd.srcs.length c1) (.slice A2 hd.exts.length c2))] _ _ from hL.out) ?_
  rintro e w2 ⟨k2, A, n, c, rfl, ho⟩
  have HK2 := hide (HK1.out.trans0 k2)
  have BX2 := hide (BX1.out.keep k2 (fun h => h))
  have HV2 := hide (HV1.out.keep0 k2)
  clear k2 x0 x1 x2 x3 x4 x5 x6 x7 x8 x9 x10 x11
  cases hs : legalB hd with
  | none =>
    clear ho
    have hs' : (legalB hd).isSome = false := by rw [hs]; rfl
    clear hs
    go_wp2_with fail
    go_ret
    exact ⟨rfl, HK2.out.below0⟩
  | some bs =>
    have ho := ho bs hs
    obtain ⟨hg, rfl, hl, -⟩ := legal_good HOK.out hs
    have hn : n = (outB hd).length := by
      obtain ⟨_, _, _, e, _⟩ := ho.rd
      injection e
    subst hn
    have HO := hide ho
    have HG := hide hg
    clear ho hg hs
    have hdl := fdd_len id HB3.out
    have hidI : IsB (fdd hd id) := fdd_isB id HOK.out
    have HSG := hide (sget_walk (id := id) _ HV2.out b2)
    obtain ⟨x0, x1, x2, x3, x4, x5, x6, x7, x8, x9, x10, x11⟩ := hc12 BX2.out
    clear hidI
    go_wp2_with fail
    refine Calls.mono (show Calls _ _ #[.agg (hcells hd (.slice A1 hd.srcs.length c1) (.slice A2 hd.exts.length c2)), _] _ _ from HSG.out) ?_
    rintro e w3 ⟨A5, c5, rfl, k3, rd5⟩
    have HK3 := hide (HK2.out.trans0 k3)
    have BX3 := hide (BX2.out.keep k3 (fun h => h))
    have HV3 := hide (HV2.out.keep0 k3)
    have RD3 := hide (rd5.keep0 k3)
    have HVg := hide (given_walk _ HV3.out b2)
    clear k3 rd5 x0 x1 x2 x3 x4 x5 x6 x7 x8 x9 x10 x11
    obtain ⟨x0, x1, x2, x3, x4, x5, x6, x7, x8, x9, x10, x11⟩ := hc12 BX3.out
    go_wp2_with fail
    refine Calls.mono (show Calls _ _ #[.agg (hcells hd (.slice A1 hd.srcs.length c1) (.slice A2 hd.exts.length c2))] _ _ from HVg.out) ?_
    rintro e w4 ⟨k4, sv4, xv4, rfl, h4⟩
    have HK4 := hide (HK3.out.trans0 k4)
    have BX4 := hide (BX3.out.keep k4 (fun h => h))
    have HV4 := hide (HV3.out.keep0 k4)
    have RD4 := hide (RD3.out.keep0 k4)
    have hGt := hide (get_walk (id := id) _ h4 (by have := HG.out.srcs; omega) b2 HB3.out)
    clear k4 h4 x0 x1 x2 x3 x4 x5 x6 x7 x8 x9 x10 x11
    go_wp2_with fail
    refine (hGt.out).mono ?_
    rintro e w5 ⟨hgr, k5⟩
    have HK5 := hide (HK4.out.trans0 k5)
    have BX5 := hide (BX4.out.keep k5 (fun h => h))
    have HV5 := hide (HV4.out.keep0 k5)
    have r5 := run_str (P := Tryd.prog) (tb := 29) (ts := 9) Tryd.underlying29 Tryd.underlying5 Tryd.underlying9 (RD4.out.keep0 k5) (fdd_isB id HOK.out)
    have r0 := run_str (P := Tryd.prog) (tb := 29) (ts := 9) Tryd.underlying29 Tryd.underlying5 Tryd.underlying9 (Rd.nil_ w5 (fun _ => True) 1) (xs := []) (by intro x hx; cases hx)
    have HVg5 := hide (given_walk _ HV5.out b2)
    clear k5
    obtain ⟨x0, x1, x2, x3, x4, x5, x6, x7, x8, x9, x10, x11⟩ := hc12 BX5.out
    have HXx := hide HH.out.parts.2
    rcases hgr with ⟨hf, rfl⟩ | ⟨hsm, A6, c6, rfl, rd6⟩
    · rw [hf] at r5 ⊢
      simp only [List.length_nil] at r5 ⊢
      clear hf hdl
      generalize (Fd hd id).isSome = bF
      cases bF
      all_goals
        go_wp2_with fail
        clear r5 r0
        refine Calls.mono (show Calls _ _ #[.agg (hcells hd (.slice A1 hd.srcs.length c1) (.slice A2 hd.exts.length c2))] _ _ from HVg5.out) ?_
        rintro e w6 ⟨k6, sv6, xv6, rfl, h6⟩
        have HK6 := hide (HK5.out.trans0 k6)
        have BX6 := hide (BX5.out.keep k6 (fun h => h))
        have hIds := hide (ids_walk w6 h6 (by have := HG.out.srcs; omega) b2 HB3.out)
        clear k6 h6 x0 x1 x2 x3 x4 x5 x6 x7 x8 x9 x10 x11
        go_wp2_with fail
        refine (hIds.out).mono ?_
        rintro e w7 ⟨A7, c7, rfl, k7, rd7⟩
        have HK7 := hide (HK6.out.trans0 k7)
        have BX7 := hide (BX6.out.keep k7 (fun h => h))
        have HWk := hide (fun (wq : World) (k : Keep w wq Nul) => works_walk wq (HE.out.keep0 k))
        have RD7 := hide rd7
        clear k7 rd7
        obtain ⟨x0, x1, x2, x3, x4, x5, x6, x7, x8, x9, x10, x11⟩ := hc12 BX7.out
        clear x0 x1 x3 x4 x5 x6 x7 x8 x9 x11
        cases he : hd.ext with
        | false =>
          have hil : (idsOf hd).length = 0 := by simp [idsOf, he]
          rw [he] at x2
          rw [hil]
          have hW := hide (HWk.out _ HK7.out)
          clear he hil
          go_wp2_with fail
          refine (hW.out).mono ?_
          rintro e w8 ⟨rfl, k8⟩
          have HK8 := hide (HK7.out.trans0 k8)
          clear k8
          go_wp2_with fail
          go_ret
          exact ⟨rfl, HK8.out.below0⟩
        | true =>
          have hil : (idsOf hd).length = hd.exts.length := by simp [idsOf, he]
          have hids : idsOf hd = hd.exts.map (·.id) := by simp [idsOf, he]
          rw [hil, hids] at RD7
          rw [he] at x2
          rw [hil]
          clear he hil hids
          go_wp2_with fail
          clear x2 x10
          go_loopw [86] (fun i wr => ∃ k : Nat, k ≤ hd.exts.length ∧ i = .int .i64 k ∧ Keep w7 wr Nul) (fun i _ => hd.exts.length - (intOf i).toNat)
          case atStart => exact ⟨0, Nat.zero_le _, rfl, Keep.refl _ _⟩
          case round =>
            obtain ⟨k, hk, rfl, hK⟩ := hrel
            by_cases hlt : k < hd.exts.length
            · have hg : hd.exts[k]? = some hd.exts[k] := List.getElem?_eq_getElem _
              obtain ⟨b, o, c', d, hv, q1, q2, q3, q4, q5, q6, q7⟩ := (HXx.out.keep0 (HK7.out.trans0 hK)).at_ hg
              injection hv with e1 _ e3
              subst e1 e3
              obtain ⟨bI, oI, cI, hvI, i2, i3, i4, i5, hI⟩ := (RD7.out.keep0 hK).lit (by omega)
              injection hvI with e1 _ e3
              subst e1 e3
              have g1 := hI k (.int .u8 hd.exts[k].id) (by simp [B8, hg])
              clear hg hI
              generalize hd.exts[k] = x at *
              obtain ⟨A', c3, rfl⟩ := q7.shape
              clear q7
              have HKr := hide hK
              have kl : (k : Int) < (hd.exts.length : Int) := by omega
              clear hK
              go_upto_region 18 with fail
              generalize hwb : World.alloc wr _ = wb
              have KB := hide (show Keep wr wb Nul by subst hwb; exact (Keep.refl wr Nul).alloc _)
              have BB := hide (show Blk wb wr.heap.size 66 #[.int .u8 x.id, .slice A' x.data.length c3] by subst hwb; exact Blk.new wr _ _)
              have f1 : ∀ m, (wb.drewN m).cell? ⟨bI, oI + k, none⟩ = some (.int .u8 x.id) := fun m => (KB.out.drewN m).cell (fun h => h) g1
              have f2 : ∀ m, (wb.drewN m).cell? ⟨wr.heap.size, 0, none⟩ = some (.int .u8 x.id) := fun m => (BB.out.keep ((Keep.refl wb Nul).drewN m) (fun h => h)).cell 0 rfl
              clear hwb
              go_quiet (fail)
              go_wp2_with fail
              go_roundw
              case rel => exact ⟨k + 1, by omega, by go_num, HKr.out.trans0 (KB.out.drewN _)⟩
              case measure => simp [intOf]; omega
            · have hkn : k = hd.exts.length := by omega
              have HKr := hide (HK7.out.trans0 hK)
              have hW := hide (HWk.out _ HKr.out)
              clear hK
              go_wp2_with fail
              refine (hW.out).mono ?_
              rintro e w8 ⟨rfl, k8⟩
              have HK8 := hide (HKr.out.trans0 k8)
              clear k8
              go_wp2_with fail
              go_ret
              exact ⟨rfl, HK8.out.below0⟩
    · rw [hsm]
      have r6 := run_str (P := Tryd.prog) (tb := 29) (ts := 9) Tryd.underlying29 Tryd.underlying5 Tryd.underlying9 rd6 (fdd_isB id HOK.out)
      clear hsm rd6
      generalize bstr (fdd hd id) = S at *
      generalize (fdd hd id).length = nf at *
      by_cases hnf : (0 : Int) < (nf : Int)
      all_goals
        go_wp2_with fail
        clear r5 r0 r6
        refine Calls.mono (show Calls _ _ #[.agg (hcells hd (.slice A1 hd.srcs.length c1) (.slice A2 hd.exts.length c2))] _ _ from HVg5.out) ?_
        rintro e w6 ⟨k6, sv6, xv6, rfl, h6⟩
        have HK6 := hide (HK5.out.trans0 k6)
        have BX6 := hide (BX5.out.keep k6 (fun h => h))
        have hIds := hide (ids_walk w6 h6 (by have := HG.out.srcs; omega) b2 HB3.out)
        clear k6 h6 x0 x1 x2 x3 x4 x5 x6 x7 x8 x9 x10 x11
        go_wp2_with fail
        refine (hIds.out).mono ?_
        rintro e w7 ⟨A7, c7, rfl, k7, rd7⟩
        have HK7 := hide (HK6.out.trans0 k7)
        have BX7 := hide (BX6.out.keep k7 (fun h => h))
        have HWk := hide (fun (wq : World) (k : Keep w wq Nul) => works_walk wq (HE.out.keep0 k))
        have RD7 := hide rd7
        clear k7 rd7
        obtain ⟨x0, x1, x2, x3, x4, x5, x6, x7, x8, x9, x10, x11⟩ := hc12 BX7.out
        clear x0 x1 x3 x4 x5 x6 x7 x8 x9 x11
        cases he : hd.ext with
        | false =>
          have hil : (idsOf hd).length = 0 := by simp [idsOf, he]
          rw [he] at x2
          rw [hil]
          have hW := hide (HWk.out _ HK7.out)
          clear he hil
          go_wp2_with fail
          refine (hW.out).mono ?_
          rintro e w8 ⟨rfl, k8⟩
          have HK8 := hide (HK7.out.trans0 k8)
          clear k8
          go_wp2_with fail
          go_ret
          exact ⟨rfl, HK8.out.below0⟩
        | true =>
          have hil : (idsOf hd).length = hd.exts.length := by simp [idsOf, he]
          have hids : idsOf hd = hd.exts.map (·.id) := by simp [idsOf, he]
          rw [hil, hids] at RD7
          rw [he] at x2
          rw [hil]
          clear he hil hids
          go_wp2_with fail
          clear x2 x10
          go_loopw [86] (fun i wr => ∃ k : Nat, k ≤ hd.exts.length ∧ i = .int .i64 k ∧ Keep w7 wr Nul) (fun i _ => hd.exts.length - (intOf i).toNat)
          case atStart => exact ⟨0, Nat.zero_le _, rfl, Keep.refl _ _⟩
          case round =>
            obtain ⟨k, hk, rfl, hK⟩ := hrel
            by_cases hlt : k < hd.exts.length
            · have hg : hd.exts[k]? = some hd.exts[k] := List.getElem?_eq_getElem _
              obtain ⟨b, o, c', d, hv, q1, q2, q3, q4, q5, q6, q7⟩ := (HXx.out.keep0 (HK7.out.trans0 hK)).at_ hg
              injection hv with e1 _ e3
              subst e1 e3
              obtain ⟨bI, oI, cI, hvI, i2, i3, i4, i5, hI⟩ := (RD7.out.keep0 hK).lit (by omega)
              injection hvI with e1 _ e3
              subst e1 e3
              have g1 := hI k (.int .u8 hd.exts[k].id) (by simp [B8, hg])
              clear hg hI
              generalize hd.exts[k] = x at *
              obtain ⟨A', c3, rfl⟩ := q7.shape
              clear q7
              have HKr := hide hK
              have kl : (k : Int) < (hd.exts.length : Int) := by omega
              clear hK
              go_upto_region 18 with fail
              generalize hwb : World.alloc wr _ = wb
              have KB := hide (show Keep wr wb Nul by subst hwb; exact (Keep.refl wr Nul).alloc _)
              have BB := hide (show Blk wb wr.heap.size 66 #[.int .u8 x.id, .slice A' x.data.length c3] by subst hwb; exact Blk.new wr _ _)
              have f1 : ∀ m, (wb.drewN m).cell? ⟨bI, oI + k, none⟩ = some (.int .u8 x.id) := fun m => (KB.out.drewN m).cell (fun h => h) g1
              have f2 : ∀ m, (wb.drewN m).cell? ⟨wr.heap.size, 0, none⟩ = some (.int .u8 x.id) := fun m => (BB.out.keep ((Keep.refl wb Nul).drewN m) (fun h => h)).cell 0 rfl
              clear hwb
              go_quiet (fail)
              go_wp2_with fail
              go_roundw
              case rel => exact ⟨k + 1, by omega, by go_num, HKr.out.trans0 (KB.out.drewN _)⟩
              case measure => simp [intOf]; omega
            · have hkn : k = hd.exts.length := by omega
              have HKr := hide (HK7.out.trans0 hK)
              have hW := hide (HWk.out _ HKr.out)
              clear hK
              go_wp2_with fail
              refine (hW.out).mono ?_
              rintro e w8 ⟨rfl, k8⟩
              have HK8 := hide (HKr.out.trans0 k8)
              clear k8
              go_wp2_with fail
              go_ret
              exact ⟨rfl, HK8.out.below0⟩
end Go.Proofs.YtdmnflngafbobaaDoor
