/-
  VLA.unmarshalTemporalLayers. Conditions: those that stand in each theorem.
-/
import Derived.Test.YtdlnmkpojiofoaaDoorVl24
namespace Go.Proofs.YtdlnmkpojiofoaaDoor
open Go.RowKit
set_option linter.unusedVariables false
set_option linter.unusedSimpArgs false
set_option maxRecDepth 100000

theorem LQ.congr {w : World} {B : Nat} {f : Nat → Value → List Value} {T : Nat} {v : Value} {l : Nat} {gs : List Nat} {val val' : Nat → List Nat} (h : LQ w B f T v l gs val) (hv : ∀ i, i < l → val i = val' i) : LQ w B f T v l gs val' :=
  ⟨h.own, h.gl, h.ge, h.inj, fun i g hg => by rw [← hv i (by have := (List.getElem?_eq_some_iff.1 hg).1; have := h.gl; omega)]; exact h.blk i g hg⟩

set_option maxHeartbeats 3200000 in
theorem ut_walk {P : Pv} {b o n c gv gu B : Nat} (w : World) (R : RD w P b o gv gu B) (hn : n = P.len) (hnc : n ≤ c) (hcm : c ≤ maxLen) (hv : Blk w gv 69 (P.vv (.slice none 0 0) false)) (hu : Blk w gu 88 (uctV (some ⟨b, o, none⟩) n c 1 P.cm (mbL P.K P.L))) :
    Calls Tryd.prog 32 #[.pointer (some ⟨gv, 0, none⟩), .pointer (some ⟨gu, 0, none⟩)] w fun e w' => e = .returned .nilIface ∧ (∃ (A2 : Option Addr) (c2 : Nat) (gs : List Nat), Blk w' gv 69 (P.vv (.slice A2 P.L c2) false) ∧ LQ w' B P.l0 P.rs.length (.slice A2 P.L c2) P.L gs (fun _ => P.rs)) ∧ Blk w' gu 88 (uctV (some ⟨b, o, none⟩) n c ((1 + P.tl + P.L * sumN P.rs : Nat) : Int) P.cm (mbL P.K P.L)) ∧ Keep w w' (fun x => (x = gv ∨ x = gu) ∨ B ≤ x) := by
  have RR := hide R
  have HV := hide hv
  have HU := hide hu
  have hlb := R.ok.lenB
  have hlen : P.tl + 1 ≤ n := by rw [hn]; unfold Pv.len; omega
  have HNN := hide hn
  have hn4 : n ≤ 400 := by omega
  have nvu := R.vu
  have nbv := R.bv
  have nbu := R.bu
  have hBv := R.vB
  have hBu := R.uB
  have hbB := R.bB
  have htl1 : 1 ≤ P.tl := by have := R.ok.L16; unfold Pv.tl; omega
  have hChk := hide (chk_walk (off := 1) (m := 1) w hu (by omega) (by omega))
  clear R hv hu hn
  go_enter Tryd.func32, Tryd.ntmps32
  go_wp2_with fail
  refine Calls.mono (show Calls _ _ #[.pointer (some ⟨gu, 0, none⟩), .int .i64 1] _ _ from hChk.out) ?_
  rintro e w1 ⟨rfl, k1⟩
  have RR1 := hide (RR.out.keep k1 (fun e => e))
  have HV1 := hide (HV.out.keep k1 (fun e => e))
  have HU1 := hide (HU.out.keep k1 (fun e => e))
  have HK1 := hide k1
  clear k1 hChk
  go_upto_region 4 with fail
  refine part_use (ut_p4 w1 _ _ _ _ _ _ _ _ _ _ _ _ _ _ _ _ _ _ _ _ _ _ _ _ _ _ _ _ _ _ _ _ _ _ _ _ _ _ _ _ _ _ _ _ _ _ _ _ _ _ _ _ _ _ _ _ _ _ _ _ _ _ _ _ _ _ _ _ _ _ _ _ _ _ _ _ _ _ _ _ _ _ _ _ _ _ _ _ _ _ _ _ _ _ _ _ _ _ _ _ _ _ _ _ _ _ _ _ _ _ _ _ _ _ _ _ _ _ _ _ _ _ _ _ _ _ _ _ _ _ _ _ _ _ _ _ _ _ _ _ _ _ _ _ _ _ _ _ _ _ _ _ _ _ _ _ RR1.out HNN.out hnc HV1.out HU1.out ?_) rfl rfl (by assumption)
  intro w2
  intros
  rename_i A2 c2 gs hv2 hu2 hl2 hk2
  have RR2 := hide (RR1.out.keep hk2 (fun e => by rcases e with (e | e) | e <;> omega))
  have HV2 := hide hv2
  have HU2 := hide hu2
  have HL2 := hide hl2
  have HK2 := hide ((HK1.out.nul (fun x => (x = gv ∨ x = gu) ∨ B ≤ x)).trans hk2 (fun _ _ e => e))
  have u1 := hu2.cell 1 uct_1
  have fu := hu2.free 1
  have hgu := hu2.lt
  clear hv2 hu2 hl2 hk2
  refine (show ∀ a w, _ → _ by assumption) _ _ ?_
  go_upto_region 22 with fail
  generalize hw3 : World.setCell _ _ _ = w3
  have hk3 : Keep w2 w3 (· = gu) := by subst hw3; exact Keep.set1 _ _ _ _
  have hu3 : Blk w3 gu 88 (uctV (some ⟨b, o, none⟩) n c ((1 + P.tl : Nat) : Int) P.cm (mbL P.K P.L)) := by subst hw3; rw [show ((1 + P.tl : Nat) : Int) = (P.tl : Int) + 1 by omega, ← uct_s1 (off := ((P.tl : Nat) : Int))]; exact HU2.out.set_ 1 _
  have HU3 := hide hu3
  have HV3 := hide (HV2.out.keep hk3 (fun e => nvu e))
  have HL3 := hide (HL2.out.keep hk3 (fun q _ e => by have : q = gu := e; omega))
  have RR3 := hide (RR2.out.keep hk3 (fun e => nbu e))
  have HK3 := hide (HK2.out.trans hk3 (fun _ _ e => .inl (.inr e)))
  clear hw3 hk3 hu3 u1 fu
  refine part_use (ut_p22 w3 _ _ _ _ _ _ _ _ _ _ _ _ _ _ _ _ _ _ _ _ _ _ _ _ _ _ _ _ _ _ _ _ _ _ _ _ _ _ _ _ _ _ _ _ _ _ _ _ _ _ _ _ _ _ _ _ _ _ _ _ _ _ _ _ _ _ _ _ _ _ _ _ _ _ _ _ _ _ _ _ _ _ _ _ _ _ _ _ _ _ _ _ _ _ _ _ _ _ _ _ _ _ _ _ _ _ _ _ _ _ _ _ _ _ _ _ _ _ _ _ _ _ _ _ _ _ _ _ _ _ _ _ _ _ _ _ _ _ _ _ _ _ _ _ _ _ _ _ _ _ _ _ _ _ _ _ _ RR3.out HNN.out hnc hcm HV3.out HU3.out HL3.out ?_) rfl rfl (by assumption)
  intro w4
  intros
  rename_i hv4 hu4 hl4 hk4
  have HV4 := hide hv4
  have HU4 := hide hu4
  have HL4 := hide (hl4.congr (val' := fun _ => P.rs) (fun i hi => valF_full P.rs P.L hi))
  have HK4 := hide (HK3.out.trans hk4 (fun _ _ e => by rcases e with e | e; exact .inl (.inr e); exact .inr e))
  clear hv4 hu4 hl4 hk4
  refine (show ∀ a w, _ → _ by assumption) _ _ ?_
  go_wp2_with fail
  go_ret
  exact ⟨rfl, ⟨A2, c2, gs, HV4.out, HL4.out⟩, HU4.out, HK4.out⟩
end Go.Proofs.YtdlnmkpojiofoaaDoor
