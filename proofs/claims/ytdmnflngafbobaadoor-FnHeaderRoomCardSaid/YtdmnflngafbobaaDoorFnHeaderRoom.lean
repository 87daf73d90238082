/-
  The law FnHeaderRoom. Conditions: those that stand in each theorem.
-/
import Derived.Test.YtdmnflngafbobaaDoorRoom
import Derived.Test.YtdmnflngafbobaaDoorWorks
import Derived.Test.YtdmnflngafbobaaDoorFnHeaderWritten
namespace Go.Proofs.YtdmnflngafbobaaDoor
open Go.RowKit
set_option linter.unusedVariables false
set_option linter.unusedSimpArgs false
set_option maxRecDepth 100000

set_option maxHeartbeats 3200000 in
theorem fhr_law {p : Nat → Prop} {v : Value} {hd : Hd} {k : Int} (w : World) (hh : HV w p v hd) (hok : hd.Ok) (he : Errs w) {te : TypeId} {ve : Value} (he4 : w.cell? ⟨4, 0, none⟩ = some (.iface te ve)) :
    Calls Tryd.prog 9 #[v, .int .i64 k] w fun e w' => e = .returned (.bool true) ∧ Below w.heap.size w w' := by
  have HH := hide hh
  have HOK := hide hok
  have HE := hide he
  have HE4 := hide he4
  obtain ⟨sv, xv, rfl, h1, h2⟩ := hh
  obtain ⟨A1, c1, rfl⟩ := h1.shape
  obtain ⟨A2, c2, rfl⟩ := h2.shape
  clear h1 h2 hok he he4
  have HC : hcells hd (.slice A1 hd.srcs.length c1) (.slice A2 hd.exts.length c2) = #[.int .u8 hd.v, .bool hd.pad, .bool hd.ext, .bool hd.mark, .int .u8 hd.ty, .int .u16 hd.seq, .int .u32 hd.time, .int .u32 hd.ssrc, .slice A1 hd.srcs.length c1, .int .u16 hd.prof, .slice A2 hd.exts.length c2, .int .u8 hd.padn] := rfl
  rw [HC]
  go_enter Tryd.func9, Tryd.ntmps9
  go_upto_region 1 with fail
  generalize hwa : World.alloc w _ = wa
  have BX := hide (show Blk wa w.heap.size 27 (hcells hd (.slice A1 hd.srcs.length c1) (.slice A2 hd.exts.length c2)) by subst hwa; exact Blk.new w _ _)
  have HK := hide (show Keep w wa Nul by subst hwa; exact (Keep.refl w Nul).alloc _)
  have HVa := hide (HH.out.keep0 HK.out)
  have hF := hide (fits1 wa HVa.out)
  generalize hv0 : Value.agg _ = v0
  clear hwa HC hv0
  obtain ⟨x0, x1, x2, x3, x4, x5, x6, x7, x8, x9, x10, x11⟩ := hc12 BX.out
  go_wp2_with fail
  refine Calls.mono (show Calls _ _ #[.agg (hcells hd (.slice A1 hd.srcs.length c1) (.slice A2 hd.exts.length c2))] _ _ from hF.out) ?_
  rintro e w1 ⟨b, rfl, k1, hb⟩
  have HK1 := hide (HK.out.trans0 k1)
  have BX1 := hide (BX.out.keep k1 id)
  have HV1 := hide (HVa.out.keep0 k1)
  clear k1 x0 x1 x2 x3 x4 x5 x6 x7 x8 x9 x10 x11
  cases b with
  | false =>
    go_wp2_with fail
    go_ret
    exact ⟨rfl, HK1.out.below0⟩
  | true =>
  obtain ⟨b1, b2, b3⟩ := hb rfl
  have HB3 := hide b3
  clear b3 hb
  have hL := hide (legal_walk w1 HV1.out HOK.out b2)
  obtain ⟨x0, x1, x2, x3, x4, x5, x6, x7, x8, x9, x10, x11⟩ := hc12 BX1.out
  go_wp2_with fail
  refine Calls.mono (show Calls _ _ #[.agg (hcells hd (.slice A1 hd.srcs.length c1) (.slice A2 hd.exts.length c2))] _ _ from hL.out) ?_
  rintro e w2 ⟨k2, A, n, c, rfl, ho⟩
  have HK2 := hide (HK1.out.trans0 k2)
  have BX2 := hide (BX1.out.keep k2 id)
  have HV2 := hide (HV1.out.keep0 k2)
  clear k2 x0 x1 x2 x3 x4 x5 x6 x7 x8 x9 x10 x11
  cases hs : legalB hd with
  | none =>
    clear ho
    have hs' : (legalB hd).isSome = false := by rw [hs]; rfl
    clear hs
    go_wp2_with fail
    go_ret
    exact ⟨rfl, HK2.out.below0⟩
  | some bs =>
    have ho := ho bs hs
    obtain ⟨hg, rfl, hl, -⟩ := legal_good HOK.out hs
    have hn : n = (outB hd).length := by
      obtain ⟨_, _, _, e, _⟩ := ho.rd
      injection e
    subst hn
    have HO := hide ho
    have HG := hide hg
    clear ho hg hs
    by_cases hk0 : k < 0
    · go_wp2_with fail
      go_ret
      exact ⟨rfl, HK2.out.below0⟩
    by_cases hk4 : (4096 : Int) < k
    · go_wp2_with fail
      go_ret
      exact ⟨rfl, HK2.out.below0⟩
    obtain ⟨L, rfl⟩ : ∃ L : Nat, k = (L : Int) := ⟨k.toNat, by omega⟩
    have HVg := hide (given_walk _ HV2.out b2)
    obtain ⟨x0, x1, x2, x3, x4, x5, x6, x7, x8, x9, x10, x11⟩ := hc12 BX2.out
    go_wp2_with fail
    refine Calls.mono (show Calls _ _ #[.agg (hcells hd (.slice A1 hd.srcs.length c1) (.slice A2 hd.exts.length c2))] _ _ from HVg.out) ?_
    rintro e w3 ⟨k3, sv3, xv3, rfl, h3⟩
    have HK3 := hide (HK2.out.trans0 k3)
    have HO3 := hide (HO.out.keep0 k3)
    have H3 := hide h3
    clear k3 h3 x0 x1 x2 x3 x4 x5 x6 x7 x8 x9 x10 x11
    have hso := hsize_out HG.out
    by_cases hr : L < (outB hd).length
    · have hS := hide (room_short (L := L) w3 H3.out (by have := HG.out.srcs; omega) b2 HB3.out (by omega) (by omega) (HK3.out.cell id HE4.out))
      have hrI : (L : Int) < ((outB hd).length : Nat) := by omega
      clear hso
      go_wp2_with fail
      refine (hS.out).mono ?_
      rintro e w4 ⟨rfl, k4⟩
      have HK4 := hide (HK3.out.trans0 k4)
      have hW := hide (works_walk w4 (HE.out.keep0 HK4.out))
      clear k4
      go_wp2_with fail
      refine (hW.out).mono ?_
      rintro e w5 ⟨rfl, k5⟩
      have HK5 := hide (HK4.out.trans0 k5)
      clear k5
      go_wp2_with fail
      go_ret
      exact ⟨rfl, HK5.out.below0⟩
    · have hS := hide (room_good (L := L) w3 H3.out HG.out b2 HB3.out (by omega) (by omega))
      have hrI : ¬ (L : Int) < ((outB hd).length : Nat) := by omega
      clear hso
      go_wp2_with fail
      refine (hS.out).mono ?_
      rintro e w4 ⟨A4, c4, rfl, o4, k4⟩
      have HK4 := hide (HK3.out.trans0 k4)
      have HO4 := hide (HO3.out.keep0 k4)
      have r1 := run_str (P := Tryd.prog) (tb := 29) (ts := 9) Tryd.underlying29 Tryd.underlying5 Tryd.underlying9 o4.rd (isB_out HG.out)
      have r2 := run_str (P := Tryd.prog) (tb := 29) (ts := 9) Tryd.underlying29 Tryd.underlying5 Tryd.underlying9 HO4.out.rd (isB_out HG.out)
      clear k4 o4
      go_wp2_with fail
      go_ret
      exact ⟨rfl, HK4.out.below0⟩
end Go.Proofs.YtdmnflngafbobaaDoor
