/-
  impl.ParseVLA. Conditions: those that stand in each theorem.
-/
import Derived.Test.YtdlnmkpojiofoaaDoorVl29
namespace Go.Proofs.YtdlnmkpojiofoaaDoor
open Go.RowKit
set_option linter.unusedVariables false
set_option linter.unusedSimpArgs false
set_option maxRecDepth 100000

set_option maxHeartbeats 3200000 in
theorem vpar_walk {p : Nat → Prop} {P : Pv} {v : Value} (w : World) (hP : P.Ok) (h : Rd w p 1 v P.len (B8 P.out)) :
    Calls Tryd.prog 14 #[v] w fun e w' => ∃ (A : Option Addr) (c : Nat) (ds : List Value), e = .returned (.tuple #[.agg #[.int .i64 (P.st : Nat), .int .i64 (P.S : Nat), .slice A P.L c, .bool P.sized], .int .i64 (P.len : Nat), .bool true]) ∧ LO w' w.heap.size 47 P.lc P.rs (.slice A P.L c) P.L ds ∧ Keep w w' Nul := by
  have hv := h
  obtain ⟨_, A, c, rfl, _⟩ := hv
  have b1 := ((Blk.new w 23 #[.slice A P.len c]).alloc (.cells #[.int .i64 0, .int .i64 0, .slice none 0 0, .bool false] 44)).alloc (.cells #[.int .i64 0] 3)
  have b2 := (Blk.new (w.alloc (.cells #[.slice A P.len c] 23)) 44 #[.int .i64 0, .int .i64 0, .slice none 0 0, .bool false]).alloc (.cells #[.int .i64 0] 3)
  have b3 := Blk.new ((w.alloc (.cells #[.slice A P.len c] 23)).alloc (.cells #[.int .i64 0, .int .i64 0, .slice none 0 0, .bool false] 44)) 3 #[.int .i64 0]
  simp only [World.size_alloc] at b2 b3
  have kW : Keep w (((w.alloc (.cells #[.slice A P.len c] 23)).alloc (.cells #[.int .i64 0, .int .i64 0, .slice none 0 0, .bool false] 44)).alloc (.cells #[.int .i64 0] 3)) Nul := (((Keep.refl w _).alloc _).alloc _).alloc _
  have hT := hide (try_keep 25 _ true (fun w' => (∃ (A : Option Addr) (c : Nat) (ds : List Value), Blk w' (w.heap.size + 1) 44 #[.int .i64 (P.st : Nat), .int .i64 (P.S : Nat), .slice A P.L c, .bool P.sized] ∧ LO w' (w.heap.size + 1 + 1 + 1 + 1) 47 P.lc P.rs (.slice A P.L c) P.L ds) ∧ Blk w' (w.heap.size + 1 + 1) 3 #[.int .i64 (P.len : Nat)] ∧ Keep w w' Nul) _ (fun _ => by kernel_rfl)
    (fun w1 w2 ⟨⟨A, c, ds, hb, hlo⟩, hb', hk⟩ k => ⟨⟨A, c, ds, hb.keep k (by simp), hlo.keep k (fun q _ e => by simp at e; omega)⟩, hb'.keep k (by simp), hk.trans k (fun i hi e => by simp at e; omega)⟩)
    ((vcl_walk _ (g1 := w.heap.size) (gl := w.heap.size + 1) (gn := w.heap.size + 1 + 1) hP ((((h.alloc _).alloc _).alloc _).alloc _) (b1.alloc _) (b2.alloc _) (b3.alloc _)).mono (by
      rintro e w' ⟨rfl, ⟨A, c, ds, hb, hlo⟩, hb', hk⟩
      simp only [World.size_alloc] at hlo
      exact ⟨rfl, (Blk.new _ _ _).keep hk (by simp only [World.size_alloc]; omega), ⟨A, c, ds, hb, hlo⟩, hb', (kW.alloc _).trans hk (fun i hi e => by omega)⟩)))
  clear b1 b2 b3 kW
  go_enter Tryd.func14, Tryd.ntmps14
  go_wp2_with (refine (hT.out).mono ?_; rintro e w' ⟨rfl, ⟨A, c, ds, hb, hlo⟩, hb', hk⟩; have c0 := hb.cell 0 (v := .int .i64 (P.st : Nat)) rfl; have c1 := hb.cell 1 (v := .int .i64 (P.S : Nat)) rfl; have c2 := hb.cell 2 (v := .slice A P.L c) rfl; have c3 := hb.cell 3 (v := .bool P.sized) rfl; have f0 := hb.free 0; have f1 := hb.free 1; have f2 := hb.free 2; have f3 := hb.free 3; have d0 := hb'.cell 0 (v := .int .i64 (P.len : Nat)) rfl; have e0 := hb'.free 0; have hlb := hb.lt; have hlb' := hb'.lt; have HB := hide hb; have HB' := hide hb'; have HLO := hide hlo; have HK := hide hk; clear hb hb' hlo hk)
  go_region
  all_goals go_wp2
  all_goals
    generalize hw2 : World.drew _ = w2
    have hbl : Blk w2 (w.heap.size + 1) 44 #[.int .i64 (P.st : Nat), .int .i64 (P.S : Nat), .slice A P.L c, .bool P.sized] := by
      subst hw2
      first
        | exact (((((HB.out.set_ 0 (.int .i64 (P.st : Nat))).set_ 1 (.int .i64 (P.S : Nat))).set_ 2 (.slice A P.L c)).set_ 3 (.bool P.sized)).far (p := ⟨w.heap.size + 1 + 1, 0, none⟩) (by simp) _).drew
        | exact (((((HB.out.far (p := ⟨w.heap.size + 1 + 1, 0, none⟩) (by simp) _).set_ 0 (.int .i64 (P.st : Nat))).set_ 1 (.int .i64 (P.S : Nat))).set_ 2 (.slice A P.L c)).set_ 3 (.bool P.sized)).drew
    have hbn : Blk w2 (w.heap.size + 1 + 1) 3 #[.int .i64 (P.len : Nat)] := by
      subst hw2
      first
        | exact (((((HB'.out.far (p := ⟨w.heap.size + 1, 0, none⟩) (by simp) _).far (p := ⟨w.heap.size + 1, 1, none⟩) (by simp) _).far (p := ⟨w.heap.size + 1, 2, none⟩) (by simp) _).far (p := ⟨w.heap.size + 1, 3, none⟩) (by simp) _).set_ 0 (.int .i64 (P.len : Nat))).drew
        | exact (((((HB'.out.set_ 0 (.int .i64 (P.len : Nat))).far (p := ⟨w.heap.size + 1, 0, none⟩) (by simp) _).far (p := ⟨w.heap.size + 1, 1, none⟩) (by simp) _).far (p := ⟨w.heap.size + 1, 2, none⟩) (by simp) _).far (p := ⟨w.heap.size + 1, 3, none⟩) (by simp) _).drew
    have hk2 : Keep w' w2 (fun q => q = w.heap.size + 1 ∨ q = w.heap.size + 1 + 1) := by
      subst hw2
      first
        | exact ((((((Keep.refl w' _).setg 0 (fun _ => .inl rfl) _).setg 1 (fun _ => .inl rfl) _).setg 2 (fun _ => .inl rfl) _).setg 3 (fun _ => .inl rfl) _).setg 0 (fun _ => .inr rfl) _).drew
        | exact ((((((Keep.refl w' _).setg 0 (fun _ => .inr rfl) _).setg 0 (fun _ => .inl rfl) _).setg 1 (fun _ => .inl rfl) _).setg 2 (fun _ => .inl rfl) _).setg 3 (fun _ => .inl rfl) _).drew
    have r0 := hbl.cell 0 (v := .int .i64 (P.st : Nat)) rfl
    have r1 := hbl.cell 1 (v := .int .i64 (P.S : Nat)) rfl
    have r2 := hbl.cell 2 (v := .slice A P.L c) rfl
    have r3 := hbl.cell 3 (v := .bool P.sized) rfl
    have r4 := hbn.cell 0 (v := .int .i64 (P.len : Nat)) rfl
    refine bodyPost_ret (v := .tuple #[.agg #[.int .i64 (P.st : Nat), .int .i64 (P.S : Nat), .slice A P.L c, .bool P.sized], .int .i64 (P.len : Nat), .bool true]) (by simp [results, Tryd.results14, go_sem, r0, r1, r2, r3, r4]) rfl ⟨A, c, ds, rfl, ?_, ?_⟩
    all_goals first
      | exact (HLO.out.keep hk2 (fun q _ e => by omega)).low (by omega)
      | exact HK.out.trans hk2 (fun i hi e => by omega)
end Go.Proofs.YtdlnmkpojiofoaaDoor
