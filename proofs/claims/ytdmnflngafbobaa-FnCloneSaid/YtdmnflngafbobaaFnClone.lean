/-
  The law FnClone: its walk. Conditions: those that stand in each theorem.
-/
import Derived.Test.YtdmnflngafbobaaCopyOf
import Derived.Test.YtdmnflngafbobaaLegal
import Derived.Test.YtdmnflngafbobaaFits
import Derived.Test.YtdmnflngafbobaaSame
namespace Go.Proofs.Ytdmnflngafbobaa
open Go.RowKit
set_option linter.unusedVariables false
set_option linter.unusedSimpArgs false
set_option maxRecDepth 20000

set_option maxHeartbeats 3200000 in
theorem fclone_law {p : Nat → Prop} {v : Value} {hd : Hd} (w : World) (hh : HV w p v hd) (hok : hd.Ok) :
    Calls Try.prog 3 #[v] w fun e w' => e = .returned (.bool true) ∧ Keep w w' Nul := by
  have HH := hide hh
  have HOK := hide hok
  obtain ⟨sv, xv, rfl, h1, h2⟩ := hh
  obtain ⟨A1, c1, rfl⟩ := h1.shape
  obtain ⟨A2, c2, rfl⟩ := h2.shape
  clear h1 h2 hok
  have HC : hcells hd (.slice A1 hd.srcs.length c1) (.slice A2 hd.exts.length c2) = #[.int .u8 hd.v, .bool hd.pad, .bool hd.ext, .bool hd.mark, .int .u8 hd.ty, .int .u16 hd.seq, .int .u32 hd.time, .int .u32 hd.ssrc, .slice A1 hd.srcs.length c1, .int .u16 hd.prof, .slice A2 hd.exts.length c2, .int .u8 hd.padn] := rfl
  rw [HC]
  go_enter Try.func3, Try.ntmps3
  go_upto_region 1 with fail
  generalize hwa : World.alloc w _ = wa
  have BX := hide (show Blk wa w.heap.size 27 (hcells hd (.slice A1 hd.srcs.length c1) (.slice A2 hd.exts.length c2)) by subst hwa; exact Blk.new w _ _)
  have HK := hide (show Keep w wa Nul by subst hwa; exact (Keep.refl w Nul).alloc _)
  have HVa := hide (HH.out.keep0 HK.out)
  have hF := hide (fits1 wa HVa.out)
  generalize hv0 : Value.agg _ = v0
  have HV0 := hide hv0
  clear hwa HC hv0
  have x0 := BX.out.cell 0 (v := .int .u8 hd.v) rfl
  have x1 := BX.out.cell 1 (v := .bool hd.pad) rfl
  have x2 := BX.out.cell 2 (v := .bool hd.ext) rfl
  have x3 := BX.out.cell 3 (v := .bool hd.mark) rfl
  have x4 := BX.out.cell 4 (v := .int .u8 hd.ty) rfl
  have x5 := BX.out.cell 5 (v := .int .u16 hd.seq) rfl
  have x6 := BX.out.cell 6 (v := .int .u32 hd.time) rfl
  have x7 := BX.out.cell 7 (v := .int .u32 hd.ssrc) rfl
  have x8 := BX.out.cell 8 (v := .slice A1 hd.srcs.length c1) rfl
  have x9 := BX.out.cell 9 (v := .int .u16 hd.prof) rfl
  have x10 := BX.out.cell 10 (v := .slice A2 hd.exts.length c2) rfl
  have x11 := BX.out.cell 11 (v := .int .u8 hd.padn) rfl
  go_wp2_with fail
  refine Calls.mono (show Calls _ _ #[.agg (hcells hd (.slice A1 hd.srcs.length c1) (.slice A2 hd.exts.length c2))] _ _ from hF.out) ?_
  rintro e w1 ⟨b, rfl, k1, hb⟩
  have HK1 := hide (HK.out.trans0 k1)
  have BX1 := hide (BX.out.keep k1 id)
  have HV1 := hide (HVa.out.keep0 k1)
  clear k1 x0 x1 x2 x3 x4 x5 x6 x7 x8 x9 x10 x11
  cases b with
  | false =>
    go_wp2_with fail
    go_ret
    exact ⟨rfl, HK1.out⟩
  | true =>
  obtain ⟨b1, b2, b3⟩ := hb rfl
  have HB3 := hide b3
  clear b3 hb
  have hL := hide (legal_walk w1 HV1.out HOK.out b2)
  have x0 := BX1.out.cell 0 (v := .int .u8 hd.v) rfl
  have x1 := BX1.out.cell 1 (v := .bool hd.pad) rfl
  have x2 := BX1.out.cell 2 (v := .bool hd.ext) rfl
  have x3 := BX1.out.cell 3 (v := .bool hd.mark) rfl
  have x4 := BX1.out.cell 4 (v := .int .u8 hd.ty) rfl
  have x5 := BX1.out.cell 5 (v := .int .u16 hd.seq) rfl
  have x6 := BX1.out.cell 6 (v := .int .u32 hd.time) rfl
  have x7 := BX1.out.cell 7 (v := .int .u32 hd.ssrc) rfl
  have x8 := BX1.out.cell 8 (v := .slice A1 hd.srcs.length c1) rfl
  have x9 := BX1.out.cell 9 (v := .int .u16 hd.prof) rfl
  have x10 := BX1.out.cell 10 (v := .slice A2 hd.exts.length c2) rfl
  have x11 := BX1.out.cell 11 (v := .int .u8 hd.padn) rfl
  go_wp2_with fail
  refine Calls.mono (show Calls _ _ #[.agg (hcells hd (.slice A1 hd.srcs.length c1) (.slice A2 hd.exts.length c2))] _ _ from hL.out) ?_
  rintro e w2 ⟨k2, A, n, c, rfl, -⟩
  have HK2 := hide (HK1.out.trans0 k2)
  have BX2 := hide (BX1.out.keep k2 id)
  have HV2 := hide (HV1.out.keep0 k2)
  clear k2 x0 x1 x2 x3 x4 x5 x6 x7 x8 x9 x10 x11
  have SOf : ∀ w', Blk w' w.heap.size 27 (hcells hd (.slice A1 hd.srcs.length c1) (.slice A2 hd.exts.length c2)) → (w'.cell? ⟨w.heap.size, 0, none⟩ = some (.int .u8 hd.v) ∧ w'.cell? ⟨w.heap.size, 1, none⟩ = some (.bool hd.pad) ∧ w'.cell? ⟨w.heap.size, 2, none⟩ = some (.bool hd.ext) ∧ w'.cell? ⟨w.heap.size, 3, none⟩ = some (.bool hd.mark) ∧ w'.cell? ⟨w.heap.size, 4, none⟩ = some (.int .u8 hd.ty) ∧ w'.cell? ⟨w.heap.size, 5, none⟩ = some (.int .u16 hd.seq) ∧ w'.cell? ⟨w.heap.size, 6, none⟩ = some (.int .u32 hd.time) ∧ w'.cell? ⟨w.heap.size, 7, none⟩ = some (.int .u32 hd.ssrc) ∧ w'.cell? ⟨w.heap.size, 8, none⟩ = some (.slice A1 hd.srcs.length c1) ∧ w'.cell? ⟨w.heap.size, 9, none⟩ = some (.int .u16 hd.prof) ∧ w'.cell? ⟨w.heap.size, 10, none⟩ = some (.slice A2 hd.exts.length c2) ∧ w'.cell? ⟨w.heap.size, 11, none⟩ = some (.int .u8 hd.padn)) := fun w' h => ⟨h.cell 0 rfl, h.cell 1 rfl, h.cell 2 rfl, h.cell 3 rfl, h.cell 4 rfl, h.cell 5 rfl, h.cell 6 rfl, h.cell 7 rfl, h.cell 8 rfl, h.cell 9 rfl, h.cell 10 rfl, h.cell 11 rfl⟩
  have SO := hide SOf
  have bx0 := hide BX2.out.drew
  have HVd := hide (HV2.out.keep0 ((Keep.refl w2 Nul).drew))
  clear SOf
  cases hs : (legalB hd).isSome
  · go_upto_region 4 with fail
    go_quiet (fail)
    go_wp2_with fail
    go_ret
    exact ⟨rfl, HK2.out.drewN _⟩
  · clear hs
    go_upto_region 4 with fail
    go_region_held3 (fun w' => w'.cell? ⟨w.heap.size, 0, none⟩ = some (.int .u8 hd.v) ∧ w'.cell? ⟨w.heap.size, 1, none⟩ = some (.bool hd.pad) ∧ w'.cell? ⟨w.heap.size, 2, none⟩ = some (.bool hd.ext) ∧ w'.cell? ⟨w.heap.size, 3, none⟩ = some (.bool hd.mark) ∧ w'.cell? ⟨w.heap.size, 4, none⟩ = some (.int .u8 hd.ty) ∧ w'.cell? ⟨w.heap.size, 5, none⟩ = some (.int .u16 hd.seq) ∧ w'.cell? ⟨w.heap.size, 6, none⟩ = some (.int .u32 hd.time) ∧ w'.cell? ⟨w.heap.size, 7, none⟩ = some (.int .u32 hd.ssrc) ∧ w'.cell? ⟨w.heap.size, 8, none⟩ = some (.slice A1 hd.srcs.length c1) ∧ w'.cell? ⟨w.heap.size, 9, none⟩ = some (.int .u16 hd.prof) ∧ w'.cell? ⟨w.heap.size, 10, none⟩ = some (.slice A2 hd.exts.length c2) ∧ w'.cell? ⟨w.heap.size, 11, none⟩ = some (.int .u8 hd.padn))
      (first | with_reducible exact SO.out _ bx0.out | with_reducible exact SO.out _ bg.out | with_reducible exact SO.out _ bc.out | with_reducible exact SO.out _ bp.out | with_reducible exact SO.out _ bs.out)
      (first
        | (go_at_call 9; refine Calls.mono (show Calls _ _ #[.agg (hcells hd (.slice A1 hd.srcs.length c1) (.slice A2 hd.exts.length c2))] _ _ from given_walk _ HVd.out b2) ?_; rintro e wg ⟨kg, svg, xvg, rfl, hvg⟩; have bg := hide (bx0.out.keep kg id); have HVg := hide (HVd.out.keep0 kg); have HKg := hide (HK2.out.drew.trans0 kg); have hvg := hide hvg; clear kg)
        | (go_at_call 8; refine (cloneof_walk _ hvg.out b2 b1 HB3.out).mono ?_; rintro e wc ⟨kc, svc, xvc, rfl, hvc⟩; have bc := hide (bg.out.keep kc id); have HVc := hide (HVg.out.keep0 kc); have HKc := hide (HKg.out.trans0 kc); have hvc := hide hvc; clear kc)
        | (go_at_call 7; refine (lplain_walk _ hvc.out b2).mono ?_; rintro e wp ⟨kp, svp, xvp, rfl, hvp⟩; have bp := hide (bc.out.keep kp id); have HVp := hide (HVc.out.keep0 kp); have HKp := hide (HKc.out.trans0 kp); have hvp := hide hvp; clear kp)
        | (go_at_call 6; refine Calls.mono (show Calls _ _ #[.agg (hcells hd svp xvp), .agg (hcells hd (.slice A1 hd.srcs.length c1) (.slice A2 hd.exts.length c2))] _ _ from same_walk (pr := hd.prof) _ hvp.out HVp.out HOK.out (fun _ => rfl)) ?_; rintro e ws ⟨rfl, ks⟩; have bs := hide (bp.out.keep ks id); have HKs := hide (HKp.out.trans0 ks); clear ks))
    go_wp2_with fail
    go_ret
    exact ⟨rfl, HKs.out⟩
end Go.Proofs.Ytdmnflngafbobaa
