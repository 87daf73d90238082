/-
  VLA.MarshalTo. Conditions: those that stand in each theorem.
-/
import Derived.Test.YtdlnmkpojiofoaaDoorVl13
namespace Go.Proofs.YtdlnmkpojiofoaaDoor
open Go.RowKit
set_option linter.unusedVariables false
set_option linter.unusedSimpArgs false
set_option maxRecDepth 100000

theorem Blk.new2 {w : World} {g : Nat} {t : TypeId} {cs : Array Value} (h : g = w.heap.size) : Blk (w.alloc (.cells cs t)) g t cs := h ▸ Blk.new w t cs

set_option maxHeartbeats 3200000 in
theorem mto_walk {p : Nat → Prop} {P : Pv} {b o c gb bn : Nat} {ds : List Value} (w : World) (hP : P.Ok) (hL : LR w p P b o ds) (hc : P.L ≤ c) (hpl : ∀ i, p i → i < gb) (hb : Buf w gb [] (Z8 P.len)) (hbn : bn = P.len) :
    Calls Tryd.prog 65 #[.agg (P.vla b o c), .slice (some ⟨gb, 0, none⟩) bn bn] w fun e w' => e = .returned (.tuple #[.int .i64 (bn : Int), .nilIface]) ∧ Buf w' gb P.out (Z8 0) ∧ Keep w w' (· = gb) := by
  have HP := hide hP
  have hlb := hP.lenB
  have hS1 := hP.s1
  have hS4 := hP.s4
  have hst := hP.st
  have hL16 := hP.L16
  have HLR := hide hL
  have HPL := hide hpl
  have HB := hide hb
  have hgl := hb.lt
  have HBN := hide hbn
  have hbnb : bn ≤ 400 := by omega
  have hlen1 : 1 + P.tl + P.L * sumN P.rs ≤ P.len := by unfold Pv.len; omega
  clear hP hL hpl hb hbn
  have HC : P.vla b o c = #[.int .i64 (P.st : Nat), .int .i64 (P.S : Nat), .slice (some ⟨b, o, none⟩) P.L c, .bool P.sized] := rfl
  rw [HC]
  go_enter Tryd.func65, Tryd.ntmps65
  go_upto_region 2 with fail
  generalize hwa : World.alloc (World.alloc w _) _ = wa
  obtain ⟨g2, hg2⟩ : ∃ g2, g2 = w.heap.size := ⟨_, rfl⟩
  obtain ⟨g6, hg6⟩ : ∃ g6, g6 = w.heap.size + 1 := ⟨_, rfl⟩
  have BX := hide (show Blk wa g2 69 (P.vla b o c) by subst hwa hg2; exact (Blk.new w _ _).alloc _)
  have B6 := hide (show Blk wa g6 120 ctx0 by subst hwa hg6; exact Blk.new2 (by simp only [World.size_alloc]))
  have KA := hide (show Keep w wa Nul by subst hwa; exact ((Keep.refl w Nul).alloc _).alloc _)
  rw [← hg6, ← hg2]
  have n26 : g2 ≠ g6 := by omega
  have m6 : w.heap.size ≤ g6 := by omega
  have m2 : w.heap.size ≤ g2 := by omega
  have n2 : g2 ≠ gb := by omega
  have n6 : g6 ≠ gb := by omega
  have hp6 : ∀ i, i < wa.heap.size → p i → ¬ i = g6 := fun i _ hi e => by have := HPL.out i hi; omega
  have hAna := hide (ana_walk wa HP.out (HLR.out.keep KA.out (fun _ _ _ e => e)) B6.out hp6 hc hst)
  generalize hv0 : Value.agg _ = v0
  have x0 := BX.out.cell 0 (v := .int .i64 (P.st : Nat)) rfl
  have x1 := BX.out.cell 1 (v := .int .i64 (P.S : Nat)) rfl
  have x2 := BX.out.cell 2 (v := .slice (some ⟨b, o, none⟩) P.L c) rfl
  have x3 := BX.out.cell 3 (v := .bool P.sized) rfl
  have hl2 := BX.out.lt
  clear hwa hv0 HC hg2 hg6 hp6
  go_wp2_with fail
  refine Calls.mono (show Calls _ _ #[.agg (P.vla b o c), .pointer (some ⟨g6, 0, none⟩)] _ _ from hAna.out) ?_
  rintro e w1 ⟨rfl, hb1, hk1⟩
  have HB6 := hide hb1
  have HK1 := hide (KA.out.nul (· = g6) |>.trans hk1 (fun _ _ e => e))
  have BX1 := hide (BX.out.keep hk1 (fun e => n26 e))
  have HBuf := hide ((HB.out.keep KA.out (fun e => e)).keep hk1 (fun e => n6 e.symm))
  have hK0 : Keep w w1 (fun i => i = gb) := (KA.out.nul (· = gb)).trans (hk1.mono (S' := fun i => i = g6) (fun _ _ e => e)) (fun i hi e => by have e' : i = g6 := e; omega)
  have HK0 := hide hK0
  have hbl := HBuf.out.lt
  have c20 := hb1.cell 20 (ctx_cm (mbL_len _ _) (ixL_len _ _))
  have c21 := hb1.cell 21 (ctx_rl (mbL_len _ _) (ixL_len _ _))
  have hl6 := hb1.lt
  rw [← HBN.out] at c21
  have y0 := BX1.out.cell 0 (v := .int .i64 (P.st : Nat)) rfl
  have y1 := BX1.out.cell 1 (v := .int .i64 (P.S : Nat)) rfl
  have hl21 := BX1.out.lt
  have hzc := HBuf.out.zcell (k := 0) (by simp) (by simp; omega)
  have hfr := HBuf.out.free 0
  have hcb := cm_b HP.out
  have kb : (0 : Int) < (bn : Int) := by have := HBN.out; omega
  generalize hCM : P.cm = C at *
  have HCM := hide hCM
  have e0 : (C == 0) = false := beq_eq_false_iff_ne.2 (by omega)
  clear hb1 hk1 hK0 hAna hCM x0 x1 x2 x3
  go_upto_region 9 with fail
  have q1 : bits .or .u8 ((P.st : Int) * 64) (((P.S : Int) - 1) * 16) = (P.st : Int) * 64 + ((P.S : Int) - 1) * 16 := or8 6 _ _ (by omega) (by omega) (by omega) (by omega) (by decide) (by omega)
  have q2 : bits .or .u8 ((P.st : Int) * 64 + ((P.S : Int) - 1) * 16) C = (P.st : Int) * 64 + ((P.S : Int) - 1) * 16 + C := or8 4 _ _ (by omega) (by omega) (by omega) (by omega) (by decide) (by omega)
  have qb : P.b0 = (P.st : Int) * 64 + ((P.S : Int) - 1) * 16 + C := by unfold Pv.b0; rw [HCM.out]; omega
  rw [q1, q2, ← qb]
  generalize hw2 : World.setCell w1 _ _ = w2
  have hb2 : Buf w2 gb ([] ++ [P.b0]) (Z8 (P.len - 1)) := by subst hw2; exact HBuf.out.z1 (by omega) rfl _
  have hb3 := hb2.zero P.tl (by omega)
  rw [← tbL_zero (P.rs.length - 1)] at hb3
  have hk2 : Keep w1 w2 (· = gb) := by subst hw2; exact Keep.set1 _ _ _ _
  have hM : MS p P b o c ds 120 g2 g6 gb w2 := ⟨HP.out, hc, BX1.out.keep hk2 (fun e => n2 e), (show Blk w1 g6 _ P.ctx from HB6.out).keep hk2 (fun e => n6 e), (HLR.out.keep HK0.out (fun i _ hi e => by have := HPL.out i hi; have : i = gb := e; omega)).keep hk2 (fun i _ hi e => by have := HPL.out i hi; have : i = gb := e; omega), HPL.out, n2, n6⟩
  have HM := hide hM
  have HB3 := hide (show Buf w2 gb (P.b0 :: tbL (P.rs.length - 1) 0 P.tl) (Z8 (P.len - 1 - P.tl)) from hb3)
  have HK2 := hide (HK0.out.trans hk2 (fun _ _ e => e))
  have c20 := hM.k6.cell 20 (ctx_cm (mbL_len _ _) (ixL_len _ _))
  rw [HCM.out] at c20
  have hl6 := hM.k6.lt
  clear hw2 hb2 hb3 hk2 hM q1 q2 qb hzc hfr y0 y1 c21
  go_upto_region 20 with fail
  refine part_use (mt_p20 w2 _ _ _ _ _ _ _ _ _ _ _ _ _ _ _ _ _ _ _ _ _ _ _ _ _ _ _ _ _ _ _ _ _ _ _ _ _ _ _ _ _ _ _ _ _ _ _ _ _ _ _ _ _ _ _ _ _ _ _ _ _ _ _ _ _ _ _ _ _ _ _ _ _ _ _ _ _ _ _ _ _ _ _ _ _ _ _ _ _ _ _ _ _ _ _ _ _ _ _ _ _ _ _ _ _ _ _ _ _ _ _ _ _ _ _ _ _ _ _ _ _ _ _ _ _ _ _ _ _ _ _ _ _ _ _ _ _ _ _ _ _ _ _ _ _ _ _ _ _ _ _ _ _ _ _ _ _ _ _ _ _ _ _ _ _ _ _ _ _ _ _ _ _ _ _ _ _ _ _ _ _ _ _ _ _ _ _ _ _ _ _ _ _ _ _ _ _ _ _ _ _ _ _ _ _ _ _ _ _ _ _ _ _ _ HM.out HB3.out (by have := HBN.out; omega) ?_) rfl rfl (by assumption)
  intro w3
  intros
  rename_i hb4 hk3
  have HM3 := hide (HM.out.keep hk3)
  have HB4 := hide hb4
  have HK3 := hide (HK2.out.trans hk3 (fun _ _ e => e))
  clear hb4 hk3 c20
  refine (show ∀ a w, _ → _ by assumption) _ _ ?_
  have hd0 : (P.b0 :: tbL (P.rs.length - 1) P.L P.tl).length = 1 + P.tl := by rw [List.length_cons, tbL_len]; omega
  have HD0 := hide hd0
  clear hd0
  have hbn2 := HBN.out
  go_upto_region 35 with fail
  refine part_use (mt_p35 w3 _ _ _ _ _ _ _ _ _ _ _ _ _ _ _ _ _ _ _ _ _ _ _ _ _ _ _ _ _ _ _ _ _ _ _ _ _ _ _ _ _ _ _ _ _ _ _ _ _ _ _ _ _ _ _ _ _ _ _ _ _ _ _ _ _ _ _ _ _ _ _ _ _ _ _ _ _ _ _ _ _ _ _ _ _ _ _ _ _ _ _ _ _ _ _ _ _ _ _ _ _ _ _ _ _ _ _ _ _ _ _ _ _ _ _ _ _ _ _ _ _ _ _ _ _ _ _ _ _ _ _ _ _ _ _ _ _ _ _ _ _ _ _ _ _ _ _ _ _ _ _ _ _ _ _ _ _ _ _ _ _ _ _ _ _ _ _ _ _ _ _ _ _ _ _ _ _ _ _ _ _ _ _ _ _ _ _ _ _ _ _ _ _ _ _ _ _ _ _ _ _ _ _ _ _ _ _ _ _ _ _ _ _ _ _ HM3.out HB4.out (by rw [HD0.out]; omega) (by omega) (by omega) (by rw [HD0.out]; push_cast; omega) ?_) rfl rfl (by assumption)
  intro w4
  intros
  rename_i hb5 hk4
  have HM4 := hide (HM3.out.keep hk4)
  have HB5 := hide (show Buf w4 gb P.front (Z8 (P.len - 1 - P.tl - P.L * sumN P.rs)) from hb5)
  have HK4 := hide (HK3.out.trans hk4 (fun _ _ e => e))
  clear hb5 hk4
  refine (show ∀ a w, _ → _ by assumption) _ _ ?_
  rw [HD0.out]
  have y3 := HM4.out.k2.cell 3 (v := .bool P.sized) rfl
  have hl24 := HM4.out.k2.lt
  have hl64 := HM4.out.k6.lt
  have c21 := HM4.out.k6.cell 21 (ctx_rl (mbL_len _ _) (ixL_len _ _))
  rw [← hbn2] at c21
  cases hsz : P.sized with
  | false =>
    rw [hsz] at y3
    have hz : P.len - 1 - P.tl - P.L * sumN P.rs = 0 := by
      have : P.len = 1 + P.tl + P.L * sumN P.rs := by unfold Pv.len; rw [hsz]; rfl
      omega
    rw [hz] at HB5
    have HF := hide (show P.out = P.front by unfold Pv.out; rw [hsz]; simp)
    clear hsz hz
    go_wp2_with fail
    go_ret2
    exact ⟨by rw [hbn2]; rfl, by rw [HF.out]; exact HB5.out, HK4.out⟩
  | true =>
    rw [hsz] at y3
    have hz : P.len - 1 - P.tl - P.L * sumN P.rs = P.L * 5 := by
      have : P.len = 1 + P.tl + P.L * sumN P.rs + P.L * 5 := by unfold Pv.len; rw [hsz]; rfl
      omega
    have HF := hide (show P.out = P.front ++ P.szs P.L by unfold Pv.out; rw [hsz]; simp)
    have HSZ := hide hsz
    have HZ := hide hz
    clear hsz hz c21
    go_upto_region 50 with fail
    refine part_use (mt_p50 w4 _ _ _ _ _ _ _ _ _ _ _ _ _ _ _ _ _ _ _ _ _ _ _ _ _ _ _ _ _ _ _ _ _ _ _ _ _ _ _ _ _ _ _ _ _ _ _ _ _ _ _ _ _ _ _ _ _ _ _ _ _ _ _ _ _ _ _ _ _ _ _ _ _ _ _ _ _ _ _ _ _ _ _ _ _ _ _ _ _ _ _ _ _ _ _ _ _ _ _ _ _ _ _ _ _ _ _ _ _ _ _ _ _ _ _ _ _ _ _ _ _ _ _ _ _ _ _ _ _ _ _ _ _ _ _ _ _ _ _ _ _ _ _ _ _ _ _ _ _ _ _ _ _ _ _ _ _ _ _ _ _ _ _ _ _ _ _ _ _ _ _ _ _ _ _ _ _ _ _ _ _ _ _ _ _ _ _ _ _ _ _ _ _ _ _ _ _ _ _ _ _ _ _ _ _ _ _ _ _ _ _ _ _ _ _ HM4.out HSZ.out HB5.out (by have := HZ.out; rw [Pv.front_len]; omega) HZ.out (by omega) (by rw [Pv.front_len]) ?_) rfl rfl (by assumption)
    intro w5
    intros
    rename_i hb6 hk5
    have HM5 := hide (HM4.out.keep hk5)
    have HB6' := hide hb6
    have HK5 := hide (HK4.out.trans hk5 (fun _ _ e => e))
    have c21 := HM5.out.k6.cell 21 (ctx_rl (mbL_len _ _) (ixL_len _ _))
    rw [← hbn2] at c21
    have hl65 := HM5.out.k6.lt
    clear hb6 hk5
    refine (show ∀ a w, _ → _ by assumption) _ _ ?_
    go_wp2_with fail
    go_ret2
    exact ⟨by rw [hbn2]; rfl, by rw [HF.out]; exact HB6'.out, HK5.out⟩
end Go.Proofs.YtdlnmkpojiofoaaDoor
