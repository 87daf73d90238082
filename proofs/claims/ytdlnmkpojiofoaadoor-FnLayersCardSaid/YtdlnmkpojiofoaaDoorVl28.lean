/-
  VLA.Unmarshal of what was written. Conditions: those that stand in each theorem.
-/
import Derived.Test.YtdlnmkpojiofoaaDoorVl27
namespace Go.Proofs.YtdlnmkpojiofoaaDoor
open Go.RowKit
set_option linter.unusedVariables false
set_option linter.unusedSimpArgs false
set_option maxRecDepth 100000

theorem out_0 (P : Pv) : P.out[0]? = some P.b0 := by simp [Pv.out, Pv.front]

set_option maxHeartbeats 3200000 in
theorem vun_walk {P : Pv} {b o n c gv : Nat} (w : World) (hP : P.Ok) (hdat : ∀ (i : Nat) (z : Int), P.out[i]? = some z → w.cell? ⟨b, o + i, none⟩ = some (.int .u8 z)) (hn : n = P.len) (hnc : n ≤ c) (hcm : c ≤ maxLen) (hbl : b < w.heap.size) (hbv : b ≠ gv)
    (hv : Blk w gv 69 #[.int .i64 0, .int .i64 0, .slice none 0 0, .bool false]) :
    Calls Tryd.prog 26 #[.pointer (some ⟨gv, 0, none⟩), .slice (some ⟨b, o, none⟩) n c] w fun e w' => e = .returned (.tuple #[.int .i64 (n : Int), .nilIface]) ∧ (∃ (A2 : Option Addr) (c2 : Nat) (gs : List Nat), Blk w' gv 69 (P.vv (.slice A2 P.L c2) P.sized) ∧ LQ w' (w.heap.size + 1) P.lc P.rs.length (.slice A2 P.L c2) P.L gs (fun _ => P.rs)) ∧ Keep w w' (fun x => x = gv) := by
  have hlb := hP.lenB
  have hn4 : n ≤ 400 := by omega
  have hgvl := hv.lt
  have HP := hide hP
  have HN := hide hn
  have HDAT := hide hdat
  have HVV := hide hv
  clear hP hn hdat hv
  go_enter Tryd.func26, Tryd.ntmps26
  go_upto_region 2 with fail
  generalize hwa : World.alloc w _ = wa
  obtain ⟨gu, hgu⟩ : ∃ gu, gu = w.heap.size := ⟨_, rfl⟩
  obtain ⟨B, hBe⟩ : ∃ B, B = w.heap.size + 1 := ⟨_, rfl⟩
  rw [← hgu]
  have hu : Blk wa gu 88 (uctV (some ⟨b, o, none⟩) n c 0 0 (List.replicate 4 0)) := by subst hwa hgu; exact Blk.new w _ _
  have KA := hide (show Keep w wa Nul by subst hwa; exact (Keep.refl w Nul).alloc _)
  have hza : wa.heap.size = B := by subst hwa; rw [World.size_alloc, hBe]
  have hv := HVV.out.keep KA.out (fun e => e)
  have hR : RD wa P b o gv gu B := ⟨HP.out, fun i z hz => KA.out.cell (fun e => e) (HDAT.out i z hz), by omega, by omega, by omega, by omega, hbv, by omega, by omega, by omega⟩
  have HR := hide hR
  have hb0 := hR.dat 0 P.b0 (out_0 P)
  rw [Nat.add_zero] at hb0
  have hUs := hide (us_walk wa HP.out hb0 HN.out hnc hv hu hbv (by omega) (by omega))
  have m1 : w.heap.size ≤ gu := by omega
  have HBE := hide hBe
  have m2 : w.heap.size ≤ B := by omega
  clear hwa hgu hBe hu hv hR hb0
  go_wp2_with fail
  refine Calls.mono (show Calls _ _ #[.pointer (some ⟨gv, 0, none⟩), .pointer (some ⟨gu, 0, none⟩)] _ _ from hUs.out) ?_
  rintro e w1 ⟨rfl, hv1, hu1, hk1⟩
  have hR1 := HR.out.keep hk1 (fun e => by rcases e with e | e; exact hbv e; exact HR.out.bu e)
  have HR1 := hide hR1
  have HK1 := hide ((KA.out.nul (fun x => (x = gv ∨ x = gu) ∨ B ≤ x)).trans hk1 (fun _ _ e => .inl e))
  have hUt := hide (ut_walk w1 hR1 HN.out hnc hcm hv1 hu1)
  clear hUs hv1 hu1 hk1 hR1
  go_wp2_with fail
  refine Calls.mono (show Calls _ _ #[.pointer (some ⟨gv, 0, none⟩), .pointer (some ⟨gu, 0, none⟩)] _ _ from hUt.out) ?_
  rintro e w2 ⟨rfl, ⟨A2, c2, gs, hv2, hl2⟩, hu2, hk2⟩
  have HR2 := hide (HR1.out.keep hk2 (fun e => by rcases e with (e | e) | e; exact hbv e; exact HR.out.bu e; have := HR.out.bB; omega))
  have HK2 := hide (HK1.out.trans hk2 (fun _ _ e => e))
  have HV2 := hide hv2
  have HU2 := hide hu2
  have HL2 := hide hl2
  have u0 := hu2.cell 0 uct_0
  have u1 := hu2.cell 1 uct_1
  have hgul := hu2.lt
  clear hUt hv2 hu2 hl2 hk2
  cases hsz : P.sized with
  | false =>
    have hfl : 1 + P.tl + P.L * sumN P.rs = n := by rw [HN.out]; exact (len_unsized hsz).symm
    rw [hfl] at u1
    have HS := hide hsz
    clear hsz hfl
    go_upto_region 8 with fail
    go_quiet (fail)
    go_wp2_with fail
    go_ret2
    refine ⟨rfl, ⟨A2, c2, gs, by rw [HS.out]; exact HV2.out.keep ((Keep.refl _ Nul).drewN _) (fun e => e), ?_⟩, ?_⟩
    · rw [← HBE.out]; exact HL2.out.congrF (fun i d _ => l0_unsized HS.out i d) |>.keep0 ((Keep.refl _ Nul).drewN _)
    · exact (HK2.out.mono (fun i hi e => by rcases e with (e | e) | e; exact e; omega; omega)).drewN _
  | true =>
    have hle := len_sized hsz
    have hL16 := HP.out.L16
    have kd := fun m => (Keep.refl w2 Nul).drewN m
    have hUr := hide (fun m => ur_walk (w2.drewN m) (HR2.out.keep (kd m) (fun e => e)) HN.out hnc hcm hsz (HV2.out.keep (kd m) (fun e => e)) (HU2.out.keep (kd m) (fun e => e)) (HL2.out.keep0 (kd m)))
    have HS := hide hsz
    obtain ⟨fl, hfl⟩ : ∃ fl, fl = 1 + P.tl + P.L * sumN P.rs := ⟨_, rfl⟩
    rw [← hfl] at u1
    have kne : ¬ (n : Int) = (fl : Int) := by have := HN.out; omega
    clear hsz hle hfl kd
    go_upto_region 8 with fail
    go_quiet (fail)
    go_wp2_with fail
    refine Calls.mono (show Calls _ _ #[.pointer (some ⟨gv, 0, none⟩), .pointer (some ⟨gu, 0, none⟩)] _ _ from hUr.out _) ?_
    rintro e w3 ⟨rfl, hv3, hl3, hu3, hk3⟩
    have HK3 := hide ((HK2.out.drewN nq).trans hk3 (fun _ _ e => e))
    have HV3 := hide hv3
    have HL3 := hide hl3
    have u0 := hu3.cell 0 uct_0
    have u1 := hu3.cell 1 uct_1
    have hgul := hu3.lt
    clear hv3 hu3 hl3 hk3
    go_wp2_with fail
    go_ret2
    refine ⟨rfl, ⟨A2, c2, gs, by rw [HS.out]; exact HV3.out, ?_⟩, ?_⟩
    · rw [← HBE.out]; exact HL3.out.congrF (fun i d h => by unfold Pv.fS; rw [if_pos h])
    · exact HK3.out.mono (fun i hi e => by rcases e with (e | e) | e; exact e; omega; omega)
end Go.Proofs.YtdlnmkpojiofoaaDoor
