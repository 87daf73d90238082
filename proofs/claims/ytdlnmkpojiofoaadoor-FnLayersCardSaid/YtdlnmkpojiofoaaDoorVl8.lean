/-
  VLA.analyzeVLAForMarshaling. Conditions: those that stand in each theorem.
-/
import Derived.Test.YtdlnmkpojiofoaaDoorVl7
namespace Go.Proofs.YtdlnmkpojiofoaaDoor
open Go.RowKit
set_option linter.unusedVariables false
set_option linter.unusedSimpArgs false
set_option maxRecDepth 100000

/-- How many bytes there are of the numbers of rates. -/
def Pv.tl (P : Pv) : Nat := (P.L - 1) / 4 + 1
/-- How many bytes there are. -/
def Pv.len (P : Pv) : Nat := 1 + P.tl + P.L * sumN P.rs + (if P.sized then P.L * 5 else 0)
theorem Pv.Ok.lenB {P : Pv} (h : P.Ok) : P.tl ≤ 4 ∧ P.L * sumN P.rs ≤ 256 ∧ P.len ≤ 400 := by
  have h1 := h.L16
  have h2 := sumN_b P.rs
  have h3 := h.t4
  have h4 : P.L * sumN P.rs ≤ 16 * 16 := Nat.mul_le_mul h1.2 (by omega)
  unfold Pv.len Pv.tl
  split <;> omega
def ctx0 : Array Value := ctxV (List.replicate 4 0) (List.replicate 16 0) 0 0
/-- The context when it is known. -/
def Pv.ctx (P : Pv) : Array Value := ctxV (mbL P.K P.L) (ixL P.K P.L) P.cm (P.len : Nat)

set_option maxHeartbeats 3200000 in
theorem ana_walk {p : Nat → Prop} {P : Pv} {b o c g : Nat} {T : TypeId} {ds : List Value} (w : World) (hP : P.Ok) (hL : LR w p P b o ds) (hg : Blk w g T ctx0) (hpg : ∀ i, i < w.heap.size → p i → ¬ i = g) (hc : P.L ≤ c) (hst : P.st < P.S) :
    Calls Tryd.prog 66 #[.agg (P.vla b o c), .pointer (some ⟨g, 0, none⟩)] w fun e w' => e = .returned .nilIface ∧ Blk w' g T P.ctx ∧ Keep w w' (· = g) := by
  have HP := hide hP
  have hL16 := hP.L16
  have hlb := hP.lenB
  have HG := hide hg
  have hgl := hg.lt
  have HLR := hide hL
  have HPG := hide hpg
  have hS4 := hP.s4
  have hS1 := hP.s1
  clear hL hg hP hpg
  have HC : P.vla b o c = #[.int .i64 (P.st : Nat), .int .i64 (P.S : Nat), .slice (some ⟨b, o, none⟩) P.L c, .bool P.sized] := rfl
  rw [HC]
  go_enter Tryd.func66, Tryd.ntmps66
  go_upto_region 1 with fail
  generalize hwa : World.alloc w _ = wa
  have BX := hide (show Blk wa w.heap.size 69 (P.vla b o c) by subst hwa; exact Blk.new w _ _)
  have KA := hide (show Keep w wa Nul by subst hwa; exact (Keep.refl w Nul).alloc _)
  have GA := hide (HG.out.keep KA.out (fun e => e))
  generalize hv0 : Value.agg _ = v0
  clear hwa hv0 HC
  have hng : w.heap.size ≠ g := by omega
  obtain ⟨g2, hg2⟩ : ∃ g2, g2 = w.heap.size := ⟨_, rfl⟩
  rw [← hg2] at BX hng ⊢
  have hpw : ∀ wq : World, Keep wa wq (· = g) → LR wq p P b o ds := fun wq hk => (HLR.out.keep KA.out (fun _ _ _ e => e)).keep hk (fun i hi hpi e => by
    by_cases hiw : i < w.heap.size
    · exact HPG.out i hiw hpi e
    · have : i = g := e; omega)
  have HPW := hide hpw
  have hpg : ∀ wq : World, Keep wa wq (· = g) → ∀ i, i < wq.heap.size → p i → ¬ i = g := fun wq hk i hi hpi e => by
    by_cases hiw : i < w.heap.size
    · exact HPG.out i hiw hpi e
    · omega
  have HPG2 := hide hpg
  clear hg2 hpw hpg
  have x0 := BX.out.cell 0 (v := .int .i64 (P.st : Nat)) rfl
  have x1 := BX.out.cell 1 (v := .int .i64 (P.S : Nat)) rfl
  have x2 := BX.out.cell 2 (v := .slice (some ⟨b, o, none⟩) P.L c) rfl
  have x3 := BX.out.cell 3 (v := .bool P.sized) rfl
  have hl2 := BX.out.lt
  have i1 : ¬ (P.S : Int) ≤ 0 := by omega
  have i2 : ¬ (4 : Int) < (P.S : Int) := by omega
  have i3 : ¬ (P.S : Int) ≤ (P.st : Int) := by omega
  have hPre := hide (pre_walk wa HP.out (HPW.out _ (Keep.refl _ _)) GA.out (HPG2.out _ (Keep.refl _ _)) hc)
  go_wp2_with fail
  refine Calls.mono (show Calls _ _ #[.agg (P.vla b o c), .pointer (some ⟨g, 0, none⟩)] _ _ from hPre.out) ?_
  rintro e w1 ⟨rfl, hb1, hk1⟩
  have HB1 := hide hb1
  have HK1 := hide hk1
  have BX1 := hide (BX.out.keep hk1 (fun e => hng e))
  have hCom := hide (com_walk w1 HP.out hb1)
  have hgl1 := hb1.lt
  have hcm := hb1.cell 20 (ctx_cm (mbL_len _ _) (ixL_len _ _))
  have hrl := hb1.cell 21 (ctx_rl (mbL_len _ _) (ixL_len _ _))
  have hfr := fun z => hb1.free z
  clear hb1 hk1 hPre x0 x1 x2 x3
  go_wp2_with fail
  refine (hCom.out).mono ?_
  rintro e w1' ⟨rfl, rfl⟩
  have hcb := cm_b HP.out
  generalize hCM : P.cm = C at *
  have HCM := hide hCM
  have e0 : (C != 0) = true := by simp; omega
  clear hCM hCom
  go_upto_region 12 with fail
  generalize hw2 : World.setCell (World.setCell w1 _ _) _ _ = w2
  have hb2 : Blk w2 g T (ctxV (mbL P.K P.L) (ixL P.K P.L) C 1) := by subst hw2; rw [← ctx_srl (cm := C) (rl := 0) (mbL_len _ _) (ixL_len _ _), ← ctx_scm (cm := 0) (rl := 0) (mbL_len _ _) (ixL_len _ _)]; exact (HB1.out.set_ 20 _).set_ 21 _
  have hk2 : Keep w1 w2 (· = g) := by subst hw2; exact ((Keep.refl w1 (· = g)).setg 20 (fun _ => rfl) _).setg 21 (fun _ => rfl) _
  have HB2 := hide hb2
  have HK2 := hide (HK1.out.trans hk2 (fun _ _ e => e))
  have BX2 := hide (BX1.out.keep hk2 (fun e => hng e))
  have x2 := BX2.out.cell 2 (v := .slice (some ⟨b, o, none⟩) P.L c) rfl
  have hrl := hb2.cell 21 (ctx_rl (mbL_len _ _) (ixL_len _ _))
  have hfr := fun z => hb2.free z
  have hgl2 := hb2.lt
  have hl22 := BX2.out.lt
  clear hb2 hk2 hw2
  have qd : (((P.L : Int) - 1).tdiv 4) = (((P.L - 1) / 4 : Nat) : Int) := by rw [Int.tdiv_eq_ediv_of_nonneg (by omega)]; omega
  refine wp_region_noPanic ?_
  refine region_last2' (S := fun w' => w'.cell? ⟨g, 21, none⟩ = some (.int .i64 1) ∧ w'.cell? ⟨g2, 2, none⟩ = some (.slice (some ⟨b, o, none⟩) P.L c)) (by kernel_rfl) (by kernel_rfl) (by simp only [List.dropLast_cons_cons, List.dropLast_singleton]; rfl) (by simp only [List.getLast?_cons_cons, List.getLast?_singleton]; rfl) (⟨hrl, x2⟩) (fun hHeld => ?_)
  simp only [List.length_cons, List.length_nil, Nat.reduceAdd, Nat.zero_add]
  refine wpAnyH_take (i := 0) (v := ?_) (by simp only [List.getElem?_toArray, List.getElem?_cons_succ, List.getElem?_cons_zero]; rfl) (by kernel_rfl) (by kernel_rfl) (by kernel_rfl) (fun _ _ _ h => h) (Or.inl ⟨by rfl, ?_⟩) (by assumption) ?_
  rotate_left 1
  · (intro w hSw; (try dsimp only at hSw); go_simp; (try with_reducible rfl))
  try simp only [Act.put, List.setIfInBounds_toArray, List.set_cons_zero, List.set_cons_succ]
  refine wpAnyH_take (i := 1) (v := ?_) (by simp only [List.getElem?_toArray, List.getElem?_cons_succ, List.getElem?_cons_zero]; rfl) (by kernel_rfl) (by kernel_rfl) (by kernel_rfl) (fun _ _ _ h => h) (Or.inl ⟨by rfl, ?_⟩) (by assumption) ?_
  rotate_left 1
  · (intro w hSw; (try dsimp only at hSw); go_simp; (try with_reducible rfl))
  try simp only [Act.put, List.setIfInBounds_toArray, List.set_cons_zero, List.set_cons_succ]
  refine wpAnyH_take (i := 2) (v := ?_) (by simp only [List.getElem?_toArray, List.getElem?_cons_succ, List.getElem?_cons_zero]; rfl) (by kernel_rfl) (by kernel_rfl) (by kernel_rfl) (fun _ _ _ h => h) (Or.inl ⟨by rfl, ?_⟩) (by assumption) ?_
  rotate_left 1
  · (intro w hSw; (try dsimp only at hSw); go_simp; (try with_reducible rfl))
  try simp only [Act.put, List.setIfInBounds_toArray, List.set_cons_zero, List.set_cons_succ]
  refine wpAnyH_take (i := 3) (v := ?_) (by simp only [List.getElem?_toArray, List.getElem?_cons_succ, List.getElem?_cons_zero]; rfl) (by kernel_rfl) (by kernel_rfl) (by kernel_rfl) (fun _ _ _ h => h) (Or.inl ⟨by rfl, ?_⟩) (by assumption) ?_
  rotate_left 1
  · (intro w hSw; (try dsimp only at hSw); go_simp; (try with_reducible rfl))
  try simp only [Act.put, List.setIfInBounds_toArray, List.set_cons_zero, List.set_cons_succ]
  refine wpAnyH_take (i := 4) (v := ?_) (by simp only [List.getElem?_toArray, List.getElem?_cons_succ, List.getElem?_cons_zero]; rfl) (by kernel_rfl) (by kernel_rfl) (by kernel_rfl) (fun _ _ _ h => h) (Or.inl ⟨by rfl, ?_⟩) (by assumption) ?_
  rotate_left 1
  · (intro w hSw; (try dsimp only at hSw); go_simp; (try with_reducible rfl))
  try simp only [Act.put, List.setIfInBounds_toArray, List.set_cons_zero, List.set_cons_succ]
  refine wpAnyH_take (i := 5) (v := ?_) (by simp only [List.getElem?_toArray, List.getElem?_cons_succ, List.getElem?_cons_zero]; rfl) (by kernel_rfl) (by kernel_rfl) (by kernel_rfl) (fun _ _ _ h => h) (Or.inl ⟨by rfl, ?_⟩) (by assumption) ?_
  rotate_left 1
  · (intro w hSw; (try dsimp only at hSw); go_simp; (try with_reducible rfl))
  try simp only [Act.put, List.setIfInBounds_toArray, List.set_cons_zero, List.set_cons_succ]
  refine wpAnyH_take (i := 6) (v := ?_) (by simp only [List.getElem?_toArray, List.getElem?_cons_succ, List.getElem?_cons_zero]; rfl) (by kernel_rfl) (by kernel_rfl) (by kernel_rfl) (fun _ _ _ h => h) (Or.inl ⟨by rfl, ?_⟩) (by assumption) ?_
  rotate_left 1
  · (intro w hSw; (try dsimp only at hSw); go_simp; (try with_reducible rfl))
  try simp only [Act.put, List.setIfInBounds_toArray, List.set_cons_zero, List.set_cons_succ]
  refine wpAnyH_take (i := 7) (v := ?_) (by simp only [List.getElem?_toArray, List.getElem?_cons_succ, List.getElem?_cons_zero]; rfl) (by kernel_rfl) (by kernel_rfl) (by kernel_rfl) (fun _ _ _ h => h) (Or.inl ⟨by rfl, ?_⟩) (by assumption) ?_
  rotate_left 1
  · (intro w hSw; (try dsimp only at hSw); go_simp; (try with_reducible rfl))
  try simp only [Act.put, List.setIfInBounds_toArray, List.set_cons_zero, List.set_cons_succ]
  refine wpAnyH_take (i := 8) (v := ?_) (by simp only [List.getElem?_toArray, List.getElem?_cons_succ, List.getElem?_cons_zero]; rfl) (by kernel_rfl) (by kernel_rfl) (by kernel_rfl) (fun _ _ _ h => h) (Or.inl ⟨by rfl, ?_⟩) (by assumption) ?_
  rotate_left 1
  · (intro w hSw; (try dsimp only at hSw); go_simp; (try with_reducible rfl))
  try simp only [Act.put, List.setIfInBounds_toArray, List.set_cons_zero, List.set_cons_succ]
  refine wpAnyH_take (i := 9) (v := ?_) (by simp only [List.getElem?_toArray, List.getElem?_cons_succ, List.getElem?_cons_zero]; rfl) (by kernel_rfl) (by kernel_rfl) (by kernel_rfl) (fun _ _ _ h => h) (Or.inl ⟨by rfl, ?_⟩) (by assumption) ?_
  rotate_left 1
  · (intro w hSw; (try dsimp only at hSw); go_simp; (try with_reducible rfl))
  try simp only [Act.put, List.setIfInBounds_toArray, List.set_cons_zero, List.set_cons_succ]
  refine wpAnyH_take (i := 10) (v := ?_) (by simp only [List.getElem?_toArray, List.getElem?_cons_succ, List.getElem?_cons_zero]; rfl) (by kernel_rfl) (by kernel_rfl) (by kernel_rfl) (fun _ _ _ h => h) (Or.inl ⟨by rfl, ?_⟩) (by assumption) ?_
  rotate_left 1
  · (intro w hSw; (try dsimp only at hSw); go_simp; (try with_reducible rfl))
  try simp only [Act.put, List.setIfInBounds_toArray, List.set_cons_zero, List.set_cons_succ]
  refine wpAnyH_take (i := 11) (v := ?_) (by simp only [List.getElem?_toArray, List.getElem?_cons_succ, List.getElem?_cons_zero]; rfl) (by kernel_rfl) (by kernel_rfl) (by kernel_rfl) (fun _ _ _ h => h) (Or.inl ⟨by rfl, ?_⟩) (by assumption) ?_
  rotate_left 1
  · (intro w hSw; (try dsimp only at hSw); go_simp; (try with_reducible rfl))
  try simp only [Act.put, List.setIfInBounds_toArray, List.set_cons_zero, List.set_cons_succ]
  refine wpAnyH_take (i := 12) (v := ?_) (by simp only [List.getElem?_toArray, List.getElem?_cons_succ, List.getElem?_cons_zero]; rfl) (by kernel_rfl) (by kernel_rfl) (by kernel_rfl) (fun _ _ _ h => h) (Or.inl ⟨by rfl, ?_⟩) (by assumption) ?_
  rotate_left 1
  · (intro w hSw; (try dsimp only at hSw); go_simp; (try with_reducible rfl))
  try simp only [Act.put, List.setIfInBounds_toArray, List.set_cons_zero, List.set_cons_succ]
  refine wpAnyH_done (by kernel_rfl) ?_ _
  intro K hK
  go_simp
  refine hK _ _ (NoPanic.normal ?_)
  clear hK K
  have qv : IntKind.i64.wrap (1 + IntKind.i64.wrap (IntKind.i64.wrap ((IntKind.i64.wrap ((P.L : Int) - 1)).tdiv 4) + 1)) = ((1 + P.tl : Nat) : Int) := by
    rw [show IntKind.i64.wrap ((P.L : Int) - 1) = (P.L : Int) - 1 by rw [IntKind.wrap_i64]; omega, qd, show IntKind.i64.wrap (((P.L - 1) / 4 : Nat) : Int) = (((P.L - 1) / 4 : Nat) : Int) by rw [IntKind.wrap_i64]; omega, show IntKind.i64.wrap ((((P.L - 1) / 4 : Nat) : Int) + 1) = (((P.L - 1) / 4 : Nat) : Int) + 1 by rw [IntKind.wrap_i64]; omega, IntKind.wrap_i64]
    unfold Pv.tl; omega
  rw [qv]
  generalize hw3 : World.drew _ = w3
  have hb3 : Blk w3 g T (ctxV (mbL P.K P.L) (ixL P.K P.L) C ((1 + P.tl : Nat) : Int)) := by subst hw3; rw [← ctx_srl (rl := 1) (mbL_len _ _) (ixL_len _ _)]; exact (HB2.out.set_ 21 _).drew
  have hk3 : Keep w2 w3 (· = g) := by subst hw3; exact ((Keep.refl w2 (· = g)).setg 21 (fun _ => rfl) _).drew
  have HB3 := hide hb3
  have HK3 := hide (HK2.out.trans hk3 (fun _ _ e => e))
  have BX3 := hide (BX2.out.keep hk3 (fun e => hng e))
  have x0 := BX3.out.cell 0 (v := .int .i64 (P.st : Nat)) rfl
  have x1 := BX3.out.cell 1 (v := .int .i64 (P.S : Nat)) rfl
  have x2 := BX3.out.cell 2 (v := .slice (some ⟨b, o, none⟩) P.L c) rfl
  have x3 := BX3.out.cell 3 (v := .bool P.sized) rfl
  have hl3 := BX3.out.lt
  have hCalc := hide (calc_walk w3 HP.out (HPW.out _ HK3.out) (mbL_len _ _) hb3 (HPG2.out _ HK3.out) hc (by omega))
  clear hw3 hb3 hk3 qv qd hHeld hrl hfr hcm
  refine (show ∀ a w, _ → _ by assumption) _ _ ?_
  go_wp2_with fail
  refine Calls.mono (show Calls _ _ #[.agg (P.vla b o c), .pointer (some ⟨g, 0, none⟩)] _ _ from hCalc.out) ?_
  rintro e w4 ⟨rfl, hb4, hk4⟩
  have HB4 := hide hb4
  have HK4 := hide (HK3.out.trans hk4 (fun _ _ e => e))
  have BX4 := hide (BX3.out.keep hk4 (fun e => hng e))
  have x2 := BX4.out.cell 2 (v := .slice (some ⟨b, o, none⟩) P.L c) rfl
  have x3 := BX4.out.cell 3 (v := .bool P.sized) rfl
  have hl4 := BX4.out.lt
  have hgl4 := hb4.lt
  have hfr := fun z => hb4.free z
  have hrl := hb4.cell 21 (ctx_rl (mbL_len _ _) (ixL_len _ _))
  obtain ⟨n0, hn0⟩ : ∃ n0 : Nat, n0 = 1 + P.tl + P.L * sumN P.rs := ⟨_, rfl⟩
  rw [← hn0] at hrl HB4
  have hn0b : n0 ≤ 300 := by omega
  have HN0 := hide hn0
  clear hn0 hb4 hk4 hCalc x0 x1
  cases hsz : P.sized with
  | false =>
    rw [hsz] at x3
    have hlen : P.len = n0 := by unfold Pv.len; rw [hsz, HN0.out]; rfl
    have HLEN := hide hlen
    clear hsz hlen
    go_wp2_with fail
    go_ret
    exact ⟨rfl, by unfold Pv.ctx; rw [HCM.out, HLEN.out]; exact HB4.out, (KA.out.nul (· = g)).trans HK4.out (fun _ _ e => e)⟩
  | true =>
    rw [hsz] at x3
    have hlen : P.len = n0 + P.L * 5 := by unfold Pv.len; rw [hsz, HN0.out]; rfl
    have HLEN := hide hlen
    clear hsz hlen
    go_upto_region 15 with fail
    refine wp_region_noPanic ?_
    refine region_last2' (S := fun w' => w'.cell? ⟨g, 21, none⟩ = some (.int .i64 (n0 : Int)) ∧ w'.cell? ⟨g2, 2, none⟩ = some (.slice (some ⟨b, o, none⟩) P.L c)) (by kernel_rfl) (by kernel_rfl) (by simp only [List.dropLast_cons_cons, List.dropLast_singleton]; rfl) (by simp only [List.getLast?_cons_cons, List.getLast?_singleton]; rfl) (⟨hrl, x2⟩) (fun hHeld => ?_)
    simp only [List.length_cons, List.length_nil, Nat.reduceAdd, Nat.zero_add]
    refine wpAnyH_take (i := 0) (v := ?_) (by simp only [List.getElem?_toArray, List.getElem?_cons_succ, List.getElem?_cons_zero]; rfl) (by kernel_rfl) (by kernel_rfl) (by kernel_rfl) (fun _ _ _ h => h) (Or.inl ⟨by rfl, ?_⟩) (by assumption) ?_
    rotate_left 1
    · (intro w hSw; (try dsimp only at hSw); go_simp; (try with_reducible rfl))
    try simp only [Act.put, List.setIfInBounds_toArray, List.set_cons_zero, List.set_cons_succ]
    refine wpAnyH_take (i := 1) (v := ?_) (by simp only [List.getElem?_toArray, List.getElem?_cons_succ, List.getElem?_cons_zero]; rfl) (by kernel_rfl) (by kernel_rfl) (by kernel_rfl) (fun _ _ _ h => h) (Or.inl ⟨by rfl, ?_⟩) (by assumption) ?_
    rotate_left 1
    · (intro w hSw; (try dsimp only at hSw); go_simp; (try with_reducible rfl))
    try simp only [Act.put, List.setIfInBounds_toArray, List.set_cons_zero, List.set_cons_succ]
    refine wpAnyH_take (i := 2) (v := ?_) (by simp only [List.getElem?_toArray, List.getElem?_cons_succ, List.getElem?_cons_zero]; rfl) (by kernel_rfl) (by kernel_rfl) (by kernel_rfl) (fun _ _ _ h => h) (Or.inl ⟨by rfl, ?_⟩) (by assumption) ?_
    rotate_left 1
    · (intro w hSw; (try dsimp only at hSw); go_simp; (try with_reducible rfl))
    try simp only [Act.put, List.setIfInBounds_toArray, List.set_cons_zero, List.set_cons_succ]
    refine wpAnyH_take (i := 3) (v := ?_) (by simp only [List.getElem?_toArray, List.getElem?_cons_succ, List.getElem?_cons_zero]; rfl) (by kernel_rfl) (by kernel_rfl) (by kernel_rfl) (fun _ _ _ h => h) (Or.inl ⟨by rfl, ?_⟩) (by assumption) ?_
    rotate_left 1
    · (intro w hSw; (try dsimp only at hSw); go_simp; (try with_reducible rfl))
    try simp only [Act.put, List.setIfInBounds_toArray, List.set_cons_zero, List.set_cons_succ]
    refine wpAnyH_take (i := 4) (v := ?_) (by simp only [List.getElem?_toArray, List.getElem?_cons_succ, List.getElem?_cons_zero]; rfl) (by kernel_rfl) (by kernel_rfl) (by kernel_rfl) (fun _ _ _ h => h) (Or.inl ⟨by rfl, ?_⟩) (by assumption) ?_
    rotate_left 1
    · (intro w hSw; (try dsimp only at hSw); go_simp; (try with_reducible rfl))
    try simp only [Act.put, List.setIfInBounds_toArray, List.set_cons_zero, List.set_cons_succ]
    refine wpAnyH_take (i := 5) (v := ?_) (by simp only [List.getElem?_toArray, List.getElem?_cons_succ, List.getElem?_cons_zero]; rfl) (by kernel_rfl) (by kernel_rfl) (by kernel_rfl) (fun _ _ _ h => h) (Or.inl ⟨by rfl, ?_⟩) (by assumption) ?_
    rotate_left 1
    · (intro w hSw; (try dsimp only at hSw); go_simp; (try with_reducible rfl))
    try simp only [Act.put, List.setIfInBounds_toArray, List.set_cons_zero, List.set_cons_succ]
    refine wpAnyH_take (i := 6) (v := ?_) (by simp only [List.getElem?_toArray, List.getElem?_cons_succ, List.getElem?_cons_zero]; rfl) (by kernel_rfl) (by kernel_rfl) (by kernel_rfl) (fun _ _ _ h => h) (Or.inl ⟨by rfl, ?_⟩) (by assumption) ?_
    rotate_left 1
    · (intro w hSw; (try dsimp only at hSw); go_simp; (try with_reducible rfl))
    try simp only [Act.put, List.setIfInBounds_toArray, List.set_cons_zero, List.set_cons_succ]
    refine wpAnyH_take (i := 7) (v := ?_) (by simp only [List.getElem?_toArray, List.getElem?_cons_succ, List.getElem?_cons_zero]; rfl) (by kernel_rfl) (by kernel_rfl) (by kernel_rfl) (fun _ _ _ h => h) (Or.inl ⟨by rfl, ?_⟩) (by assumption) ?_
    rotate_left 1
    · (intro w hSw; (try dsimp only at hSw); go_simp; (try with_reducible rfl))
    try simp only [Act.put, List.setIfInBounds_toArray, List.set_cons_zero, List.set_cons_succ]
    refine wpAnyH_take (i := 8) (v := ?_) (by simp only [List.getElem?_toArray, List.getElem?_cons_succ, List.getElem?_cons_zero]; rfl) (by kernel_rfl) (by kernel_rfl) (by kernel_rfl) (fun _ _ _ h => h) (Or.inl ⟨by rfl, ?_⟩) (by assumption) ?_
    rotate_left 1
    · (intro w hSw; (try dsimp only at hSw); go_simp; (try with_reducible rfl))
    try simp only [Act.put, List.setIfInBounds_toArray, List.set_cons_zero, List.set_cons_succ]
    refine wpAnyH_take (i := 9) (v := ?_) (by simp only [List.getElem?_toArray, List.getElem?_cons_succ, List.getElem?_cons_zero]; rfl) (by kernel_rfl) (by kernel_rfl) (by kernel_rfl) (fun _ _ _ h => h) (Or.inl ⟨by rfl, ?_⟩) (by assumption) ?_
    rotate_left 1
    · (intro w hSw; (try dsimp only at hSw); go_simp; (try with_reducible rfl))
    try simp only [Act.put, List.setIfInBounds_toArray, List.set_cons_zero, List.set_cons_succ]
    refine wpAnyH_take (i := 10) (v := ?_) (by simp only [List.getElem?_toArray, List.getElem?_cons_succ, List.getElem?_cons_zero]; rfl) (by kernel_rfl) (by kernel_rfl) (by kernel_rfl) (fun _ _ _ h => h) (Or.inl ⟨by rfl, ?_⟩) (by assumption) ?_
    rotate_left 1
    · (intro w hSw; (try dsimp only at hSw); go_simp; (try with_reducible rfl))
    try simp only [Act.put, List.setIfInBounds_toArray, List.set_cons_zero, List.set_cons_succ]
    refine wpAnyH_done (by kernel_rfl) ?_ _
    intro K hK
    go_simp
    refine hK _ _ (NoPanic.normal ?_)
    clear hK K
    rw [show IntKind.i64.wrap ((n0 : Int) + IntKind.i64.wrap ((P.L : Int) * 5)) = ((n0 + P.L * 5 : Nat) : Int) by rw [show IntKind.i64.wrap ((P.L : Int) * 5) = (P.L : Int) * 5 by rw [IntKind.wrap_i64]; omega, IntKind.wrap_i64]; omega]
    generalize hw5 : World.drew _ = w5
    have hb5 : Blk w5 g T (ctxV (mbL P.K P.L) (ixL P.K P.L) C ((n0 + P.L * 5 : Nat) : Int)) := by subst hw5; rw [← ctx_srl (rl := (n0 : Int)) (mbL_len _ _) (ixL_len _ _)]; exact (HB4.out.set_ 21 _).drew
    have hk5 : Keep w4 w5 (· = g) := by subst hw5; exact ((Keep.refl w4 (· = g)).setg 21 (fun _ => rfl) _).drew
    have HB5 := hide hb5
    have HK5 := hide (HK4.out.trans hk5 (fun _ _ e => e))
    clear hw5 hb5 hk5 hHeld hrl hfr x2 x3
    refine (show ∀ a w, _ → _ by assumption) _ _ ?_
    go_wp2_with fail
    go_ret
    exact ⟨rfl, by unfold Pv.ctx; rw [HCM.out, HLEN.out]; exact HB5.out, (KA.out.nul (· = g)).trans HK5.out (fun _ _ e => e)⟩
end Go.Proofs.YtdlnmkpojiofoaaDoor
