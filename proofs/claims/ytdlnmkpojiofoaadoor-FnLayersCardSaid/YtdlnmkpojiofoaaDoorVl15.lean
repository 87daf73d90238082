/-
  VLA.MarshalSize, VLA.Marshal; slices.Clone of ints. Conditions: those that stand in each theorem.
-/
import Derived.Test.YtdlnmkpojiofoaaDoorVl14
import Derived.Test.YtdlnmkpojiofoaaDoorTry
namespace Go.Proofs.YtdlnmkpojiofoaaDoor
open Go.RowKit
set_option linter.unusedVariables false
set_option linter.unusedSimpArgs false
set_option maxRecDepth 100000

theorem etI : ET Tryd.prog 45 3 (.int .i64 0) 1 8 := ⟨Tryd.underlying45, by kernel_rfl, rfl, by decide⟩
/-- slices.Clone of ints. -/
theorem clone_i {p : Nat → Prop} {v : Value} {n : Nat} {xs : List Value} (w : World) (h : Rd w p 1 v n xs) (h1 : ∀ u ∈ xs, u.oneCell' = true) (hn : n ≤ 1000) :
    Calls Tryd.prog 24 #[v] w fun e w' => ∃ v', e = .returned v' ∧ Own w' w.heap.size 3 1 v' n xs ∧ Keep w w' Nul ∧ (v' = .slice none 0 0 ↔ v.ownBlock = none) := by
  have hS := src_of_rd (P := Tryd.prog) w Tryd.underlying45 h h1
  have hSA := fun o => src_of_rd (P := Tryd.prog) (w.alloc o) Tryd.underlying45 (h.alloc o) h1
  obtain ⟨hl, A, c, rfl, h2, h3, h4, h5⟩ := h
  have kn := fun w => Lib.run_eql_slice_nil (P := Tryd.prog) w 45 3 A n c 0 0 Tryd.underlying45
  cases A with
  | none =>
    have hn0 : n = 0 := by have := h4 rfl; omega
    subst hn0
    have hx : xs = [] := List.eq_nil_of_length_eq_zero (by simpa using hl)
    subst hx
    clear hS hSA h5 h4 hl
    go_enter Tryd.func24, Tryd.ntmps24
    go_wp2
    go_ret
    exact ⟨_, rfl, Own.nil_ _ _ _ _, Keep.refl _ _, by simp [Value.ownBlock]⟩
  | some ad =>
    clear hS h5 h4 hl
    have h0 := Own.of_lit (e := 3) (sz := 1) w #[] 0 (by simp [maxLen]) rfl
    go_enter Tryd.func24, Tryd.ntmps24
    go_wp2_with (at_builtin; refine wpList_app etI rfl _ _ rfl h0 rfl (hSA _) rfl (by omega) (by omega) (by simp) ?_; intro v' w' ho hk hb hz _)
    go_ret
    refine ⟨_, rfl, ?_, ?_, ?_⟩
    · simpa using ho
    · exact ((Keep.refl w Nul).alloc _).trans hk (fun i hi e => by simp [Value.ownBlock] at e; omega)
    · constructor
      · rintro rfl
        rcases hb with hb | hb <;> simp [Value.ownBlock] at hb
      · intro hc
        simp [Value.ownBlock] at hc

set_option maxHeartbeats 1600000 in
theorem vsz_walk {p : Nat → Prop} {P : Pv} {b o c : Nat} {ds : List Value} (w : World) (hP : P.Ok) (hL : LR w p P b o ds) (hc : P.L ≤ c) (hpl : ∀ i, p i → i < w.heap.size) :
    Calls Tryd.prog 64 #[.agg (P.vla b o c)] w fun e w' => e = .returned (.tuple #[.int .i64 (P.len : Nat), .nilIface]) ∧ Keep w w' Nul := by
  have HP := hide hP
  have hst := hP.st
  have HLR := hide hL
  have HPL := hide hpl
  clear hP hL hpl
  have HC : P.vla b o c = #[.int .i64 (P.st : Nat), .int .i64 (P.S : Nat), .slice (some ⟨b, o, none⟩) P.L c, .bool P.sized] := rfl
  rw [HC]
  go_enter Tryd.func64, Tryd.ntmps64
  go_upto_region 2 with fail
  generalize hwa : World.alloc (World.alloc w _) _ = wa
  obtain ⟨g2, hg2⟩ : ∃ g2, g2 = w.heap.size := ⟨_, rfl⟩
  obtain ⟨g6, hg6⟩ : ∃ g6, g6 = w.heap.size + 1 := ⟨_, rfl⟩
  have BX := hide (show Blk wa g2 69 (P.vla b o c) by subst hwa hg2; exact (Blk.new w _ _).alloc _)
  have B6 := hide (show Blk wa g6 120 ctx0 by subst hwa hg6; exact Blk.new2 (by simp only [World.size_alloc]))
  have KA := hide (show Keep w wa Nul by subst hwa; exact ((Keep.refl w Nul).alloc _).alloc _)
  rw [← hg6, ← hg2]
  have m6 : w.heap.size ≤ g6 := by omega
  have hp6 : ∀ i, i < wa.heap.size → p i → ¬ i = g6 := fun i _ hi e => by have := HPL.out i hi; omega
  have hAna := hide (ana_walk wa HP.out (HLR.out.keep KA.out (fun _ _ _ e => e)) B6.out hp6 hc hst)
  generalize hv0 : Value.agg _ = v0
  have x0 := BX.out.cell 0 (v := .int .i64 (P.st : Nat)) rfl
  have x1 := BX.out.cell 1 (v := .int .i64 (P.S : Nat)) rfl
  have x2 := BX.out.cell 2 (v := .slice (some ⟨b, o, none⟩) P.L c) rfl
  have x3 := BX.out.cell 3 (v := .bool P.sized) rfl
  have hl2 := BX.out.lt
  clear hwa hv0 HC hg2 hg6 hp6
  go_wp2_with fail
  refine Calls.mono (show Calls _ _ #[.agg (P.vla b o c), .pointer (some ⟨g6, 0, none⟩)] _ _ from hAna.out) ?_
  rintro e w1 ⟨rfl, hb1, hk1⟩
  have hK0 : Keep w w1 Nul := KA.out.trans hk1 (fun i hi e => by have e' : i = g6 := e; omega)
  have c21 := hb1.cell 21 (ctx_rl (mbL_len _ _) (ixL_len _ _))
  have hl6 := hb1.lt
  have HK0 := hide hK0
  clear hb1 hk1 hK0 hAna x0 x1 x2 x3
  go_wp2_with fail
  go_ret2
  exact ⟨rfl, HK0.out⟩

set_option maxHeartbeats 1600000 in
theorem vmar_walk {p : Nat → Prop} {P : Pv} {b o c : Nat} {ds : List Value} (w : World) (hP : P.Ok) (hL : LR w p P b o ds) (hc : P.L ≤ c) (hpl : ∀ i, p i → i < w.heap.size) :
    Calls Tryd.prog 62 #[.agg (P.vla b o c)] w fun e w' => ∃ out, e = .returned (.tuple #[out, .nilIface]) ∧ Keep w w' Nul ∧ Rd w' (w.heap.size ≤ ·) 1 out P.len (B8 P.out) := by
  have HP := hide hP
  have hlb := hP.lenB
  have HLR := hide hL
  have HPL := hide hpl
  clear hP hL hpl
  have HC : P.vla b o c = #[.int .i64 (P.st : Nat), .int .i64 (P.S : Nat), .slice (some ⟨b, o, none⟩) P.L c, .bool P.sized] := rfl
  rw [HC]
  go_enter Tryd.func62, Tryd.ntmps62
  go_upto_region 1 with fail
  generalize hwa : World.alloc w _ = wa
  have BX := hide (show Blk wa w.heap.size 69 (P.vla b o c) by subst hwa; exact Blk.new w _ _)
  have KA := hide (show Keep w wa Nul by subst hwa; exact (Keep.refl w Nul).alloc _)
  obtain ⟨g2, hg2⟩ : ∃ g2, g2 = w.heap.size := ⟨_, rfl⟩
  rw [← hg2] at BX ⊢
  have m2 : w.heap.size ≤ g2 := by omega
  have hza := KA.out.size
  have hSz := hide (vsz_walk wa HP.out (HLR.out.keep KA.out (fun _ _ _ e => e)) hc (fun i hi => by have := HPL.out i hi; omega))
  generalize hv0 : Value.agg _ = v0
  have x0 := BX.out.cell 0 (v := .int .i64 (P.st : Nat)) rfl
  have x1 := BX.out.cell 1 (v := .int .i64 (P.S : Nat)) rfl
  have x2 := BX.out.cell 2 (v := .slice (some ⟨b, o, none⟩) P.L c) rfl
  have x3 := BX.out.cell 3 (v := .bool P.sized) rfl
  have hl2 := BX.out.lt
  clear hwa hv0 HC hg2
  go_wp2_with fail
  refine Calls.mono (show Calls _ _ #[.agg (P.vla b o c)] _ _ from hSz.out) ?_
  rintro e w1 ⟨rfl, hk1⟩
  have HK1 := hide (KA.out.trans0 hk1)
  have BX1 := hide (BX.out.keep hk1 (fun e => e))
  have mkB := run_mk (P := Tryd.prog) etB P.len (by omega) (by omega)
  clear hk1 hSz x0 x1 x2 x3
  generalize hn : P.len = n at *
  have HN := hide hn
  clear hn
  go_upto_region 5 with fail
  generalize hw2 : World.alloc w1 _ = w2
  have hb2 : Buf w2 w1.heap.size [] (Z8 n) := by subst hw2; exact Buf.mk' (show Blk _ _ _ (madeCells (Value.int .u8 0).cells n) from Blk.new w1 5 _)
  have hk2 : Keep w1 w2 Nul := by subst hw2; exact (Keep.refl w1 Nul).alloc _
  obtain ⟨gb, hgb⟩ : ∃ gb, gb = w1.heap.size := ⟨_, rfl⟩
  rw [← hgb] at hb2 ⊢
  have hz1 := HK1.out.size
  have HK2 := hide (HK1.out.trans0 hk2)
  have BX2 := hide (BX1.out.keep hk2 (fun e => e))
  have hMt := hide (mto_walk (gb := gb) (bn := n) w2 HP.out (HLR.out.keep HK2.out (fun _ _ _ e => e)) hc (fun i hi => by have := HPL.out i hi; omega) (by rw [HN.out]; exact hb2) HN.out.symm)
  have x0 := BX2.out.cell 0 (v := .int .i64 (P.st : Nat)) rfl
  have x1 := BX2.out.cell 1 (v := .int .i64 (P.S : Nat)) rfl
  have x2 := BX2.out.cell 2 (v := .slice (some ⟨b, o, none⟩) P.L c) rfl
  have x3 := BX2.out.cell 3 (v := .bool P.sized) rfl
  have hl22 := BX2.out.lt
  have mgb : w.heap.size ≤ gb := by omega
  clear hw2 hb2 hk2 hgb mkB
  go_wp2_with fail
  refine Calls.mono (show Calls _ _ #[.agg (P.vla b o c), .slice (some ⟨gb, 0, none⟩) n n] _ _ from hMt.out) ?_
  rintro e w3 ⟨rfl, hb3, hk3⟩
  have HB3 := hide hb3
  have HK3 := hide (HK2.out.trans hk3 (fun i hi e => by have e' : i = gb := e; omega))
  clear hb3 hk3 hMt x0 x1 x2 x3
  go_wp2_with fail
  go_ret2
  have hol : P.out.length = n := by rw [Pv.out_len, HN.out]
  refine ⟨.slice (some ⟨gb, 0, none⟩) n n, rfl, HK3.out, ?_⟩
  rw [HN.out]
  exact ((HB3.out.own (B := w.heap.size) mgb hol.symm (cap := n) (by simp [hol, Z8_len]) (by simp only [maxLen]; omega)).rdB).mono (fun _ _ h => h)
end Go.Proofs.YtdlnmkpojiofoaaDoor
