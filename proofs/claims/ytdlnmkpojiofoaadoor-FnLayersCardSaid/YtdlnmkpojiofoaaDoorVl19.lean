/-
  VLA.unmarshalSpatialLayers. Conditions: those that stand in each theorem.
-/
import Derived.Test.YtdlnmkpojiofoaaDoorVl18
namespace Go.Proofs.YtdlnmkpojiofoaaDoor
open Go.RowKit
set_option linter.unusedVariables false
set_option linter.unusedSimpArgs false
set_option maxRecDepth 100000

def mpL (C : Int) (s : Nat) : List Int := (List.range 4).map fun i => if i < s then C else 0
theorem mpL_len (C : Int) (s : Nat) : (mpL C s).length = 4 := by simp [mpL]
theorem mpL_next (C : Int) {s : Nat} (h : s < 4) : mpL C (s + 1) = (mpL C s).set s C ∧ (mpL C s)[s]? = some 0 := by
  match s, h with
  | 0, _ => exact ⟨rfl, rfl⟩
  | 1, _ => exact ⟨rfl, rfl⟩
  | 2, _ => exact ⟨rfl, rfl⟩
  | 3, _ => exact ⟨rfl, rfl⟩
theorem mpL_full {P : Pv} (h : P.Ok) : mpL P.cm P.S = mbL P.K P.L := by
  apply List.ext_getElem?
  intro i
  by_cases hi : i < 4
  · rw [cm_at h hi]
    simp [mpL, hi]
  · rw [List.getElem?_eq_none (by rw [mpL_len]; omega), List.getElem?_eq_none (by rw [mbL_len]; omega)]

set_option maxHeartbeats 3200000 in
theorem us_walk {P : Pv} {b o n c gv gu : Nat} (w : World) (hP : P.Ok) (hb0 : w.cell? ⟨b, o, none⟩ = some (.int .u8 P.b0)) (hn : n = P.len) (hnc : n ≤ c)
    (hv : Blk w gv 69 #[.int .i64 0, .int .i64 0, .slice none 0 0, .bool false]) (hu : Blk w gu 88 (uctV (some ⟨b, o, none⟩) n c 0 0 (List.replicate 4 0))) (hbv : ¬ b = gv) (hbu : ¬ b = gu) (hbl : b < w.heap.size) :
    Calls Tryd.prog 31 #[.pointer (some ⟨gv, 0, none⟩), .pointer (some ⟨gu, 0, none⟩)] w fun e w' => e = .returned .nilIface ∧ Blk w' gv 69 #[.int .i64 (P.st : Nat), .int .i64 (P.S : Nat), .slice none 0 0, .bool false] ∧ Blk w' gu 88 (uctV (some ⟨b, o, none⟩) n c 1 P.cm (mbL P.K P.L)) ∧ Keep w w' (fun q => q = gv ∨ q = gu) := by
  have HP := hide hP
  have hlb := hP.lenB
  have hS1 := hP.s1
  have hS4 := hP.s4
  have hst := hP.st
  have hcb := cm_b hP
  have hl1 : 1 ≤ n := by rw [hn]; unfold Pv.len; omega
  have hn4 : n ≤ 400 := by omega
  have nvu : gv ≠ gu := hv.ne_ hu (by decide)
  have HV := hide hv
  have HU := hide hu
  have hz : P.b0 = (P.st : Int) * 64 + ((P.S : Int) - 1) * 16 + P.cm := by unfold Pv.b0; omega
  generalize hzz : P.b0 = z at *
  have hgu := hu.lt
  have hgv := hv.lt
  have hChk := hide (chk_walk (off := 0) (m := 1) w hu (by omega) (by omega))
  generalize hCM : P.cm = C at *
  have HCM := hide hCM
  have q1 : bits .and .u8 (z / 64) 3 = (P.st : Int) := by
    have h : bits .and .u8 (z / 64) 3 = z / 64 % 4 := and8 2 _ 3 (by omega) (by omega) (by decide) (by decide)
    rw [h]; omega
  have q2 : bits .and .u8 (z / 16) 3 = (P.S : Int) - 1 := by
    have h : bits .and .u8 (z / 16) 3 = z / 16 % 4 := and8 2 _ 3 (by omega) (by omega) (by decide) (by decide)
    rw [h]; omega
  have q3 : bits .and .u8 z 15 = C := by
    have h : bits .and .u8 z 15 = z % 16 := and8 4 _ 15 (by omega) (by omega) (by decide) (by decide)
    rw [h]; omega
  have e0 : (C != 0) = true := by simp; omega
  have r1 : IntKind.i64.wrap (P.st : Int) = (P.st : Int) := by rw [IntKind.wrap_i64]; omega
  have r2 : IntKind.i64.wrap ((P.S : Int) - 1) = (P.S : Int) - 1 := by rw [IntKind.wrap_i64]; omega
  have r3 : IntKind.i64.wrap ((P.S : Int) - 1 + 1) = (P.S : Int) := by rw [IntKind.wrap_i64]; omega
  have r4 : IntKind.i64.wrap (P.S : Int) = (P.S : Int) := by rw [IntKind.wrap_i64]; omega
  have hzb : 0 ≤ z ∧ z < 256 := by omega
  clear hv hu hz hzz hCM hn
  go_enter Tryd.func31, Tryd.ntmps31
  go_wp2_with fail
  refine Calls.mono (show Calls _ _ #[.pointer (some ⟨gu, 0, none⟩), .int .i64 1] _ _ from hChk.out) ?_
  rintro e w1 ⟨rfl, k1⟩
  have HV1 := hide (HV.out.keep k1 (fun e => e))
  have HU1 := hide (HU.out.keep k1 (fun e => e))
  have hb1 := k1.cell (fun e => e) hb0
  have HK1 := hide k1
  have u0 := HU1.out.cell 0 uct_0
  have u1 := HU1.out.cell 1 uct_1
  have v0 := HV1.out.cell 0 (v := .int .i64 0) rfl
  have f0 := HV1.out.free 0
  have hgu1 := HU1.out.lt
  have hgv1 := HV1.out.lt
  have hbl1 : b < w1.heap.size := Nat.lt_of_lt_of_le hbl k1.size
  clear k1 hChk hb0
  have kn : (0 : Int) < (n : Int) := by omega
  have kn0 : 0 < n := by omega
  go_upto_region 3 with fail
  refine wp_region_noPanic ?_
  refine region_last2' (S := fun w' => w'.cell? ⟨gu, 0, none⟩ = some (.slice (some ⟨b, o, none⟩) n c) ∧ w'.cell? ⟨gu, 1, none⟩ = some (.int .i64 0) ∧ w'.cell? ⟨b, o, none⟩ = some (.int .u8 z)) (by kernel_rfl) (by kernel_rfl) (by simp only [List.dropLast_cons_cons, List.dropLast_singleton]; rfl) (by simp only [List.getLast?_cons_cons, List.getLast?_singleton]; rfl) (⟨u0, u1, hb1⟩) (fun hHeld => ?_)
  simp only [List.length_cons, List.length_nil, Nat.reduceAdd, Nat.zero_add]
  refine wpAnyH_take (i := 0) (v := ?_) (by simp only [List.getElem?_toArray, List.getElem?_cons_succ, List.getElem?_cons_zero]; rfl) (by kernel_rfl) (by kernel_rfl) (by kernel_rfl) (fun _ _ _ h => h) (Or.inl ⟨by rfl, ?_⟩) (by assumption) ?_
  rotate_left 1
  · (intro w hSw; (try dsimp only at hSw); go_simp; (try with_reducible rfl))
  try simp only [Act.put, List.setIfInBounds_toArray, List.set_cons_zero, List.set_cons_succ]
  refine wpAnyH_take (i := 1) (v := ?_) (by simp only [List.getElem?_toArray, List.getElem?_cons_succ, List.getElem?_cons_zero]; rfl) (by kernel_rfl) (by kernel_rfl) (by kernel_rfl) (fun _ _ _ h => h) (Or.inl ⟨by rfl, ?_⟩) (by assumption) ?_
  rotate_left 1
  · (intro w hSw; (try dsimp only at hSw); go_simp; (try with_reducible rfl))
  try simp only [Act.put, List.setIfInBounds_toArray, List.set_cons_zero, List.set_cons_succ]
  refine wpAnyH_take (i := 2) (v := ?_) (by simp only [List.getElem?_toArray, List.getElem?_cons_succ, List.getElem?_cons_zero]; rfl) (by kernel_rfl) (by kernel_rfl) (by kernel_rfl) (fun _ _ _ h => h) (Or.inl ⟨by rfl, ?_⟩) (by assumption) ?_
  rotate_left 1
  · (intro w hSw; (try dsimp only at hSw); go_simp; (try with_reducible rfl))
  try simp only [Act.put, List.setIfInBounds_toArray, List.set_cons_zero, List.set_cons_succ]
  refine wpAnyH_take (i := 3) (v := ?_) (by simp only [List.getElem?_toArray, List.getElem?_cons_succ, List.getElem?_cons_zero]; rfl) (by kernel_rfl) (by kernel_rfl) (by kernel_rfl) (fun _ _ _ h => h) (Or.inl ⟨by rfl, ?_⟩) (by assumption) ?_
  rotate_left 1
  · (intro w hSw; (try dsimp only at hSw); go_simp; (try with_reducible rfl))
  try simp only [Act.put, List.setIfInBounds_toArray, List.set_cons_zero, List.set_cons_succ]
  refine wpAnyH_take (i := 4) (v := ?_) (by simp only [List.getElem?_toArray, List.getElem?_cons_succ, List.getElem?_cons_zero]; rfl) (by kernel_rfl) (by kernel_rfl) (by kernel_rfl) (fun _ _ _ h => h) (Or.inl ⟨by rfl, ?_⟩) (by assumption) ?_
  rotate_left 1
  · (intro w hSw; (try dsimp only at hSw); go_simp; (try with_reducible rfl))
  try simp only [Act.put, List.setIfInBounds_toArray, List.set_cons_zero, List.set_cons_succ]
  refine wpAnyH_take (i := 5) (v := ?_) (by simp only [List.getElem?_toArray, List.getElem?_cons_succ, List.getElem?_cons_zero]; rfl) (by kernel_rfl) (by kernel_rfl) (by kernel_rfl) (fun _ _ _ h => h) (Or.inl ⟨by rfl, ?_⟩) (by assumption) ?_
  rotate_left 1
  · (intro w hSw; (try dsimp only at hSw); go_simp; (try with_reducible rfl))
  try simp only [Act.put, List.setIfInBounds_toArray, List.set_cons_zero, List.set_cons_succ]
  refine wpAnyH_take (i := 6) (v := ?_) (by simp only [List.getElem?_toArray, List.getElem?_cons_succ, List.getElem?_cons_zero]; rfl) (by kernel_rfl) (by kernel_rfl) (by kernel_rfl) (fun _ _ _ h => h) (Or.inl ⟨by rfl, ?_⟩) (by assumption) ?_
  rotate_left 1
  · (intro w hSw; (try dsimp only at hSw); go_simp; (try with_reducible rfl))
  try simp only [Act.put, List.setIfInBounds_toArray, List.set_cons_zero, List.set_cons_succ]
  refine wpAnyH_take (i := 7) (v := ?_) (by simp only [List.getElem?_toArray, List.getElem?_cons_succ, List.getElem?_cons_zero]; rfl) (by kernel_rfl) (by kernel_rfl) (by kernel_rfl) (fun _ _ _ h => h) (Or.inl ⟨by rfl, ?_⟩) (by assumption) ?_
  rotate_left 1
  · (intro w hSw; (try dsimp only at hSw); go_simp; (try with_reducible rfl))
  try simp only [Act.put, List.setIfInBounds_toArray, List.set_cons_zero, List.set_cons_succ]
  refine wpAnyH_take (i := 8) (v := ?_) (by simp only [List.getElem?_toArray, List.getElem?_cons_succ, List.getElem?_cons_zero]; rfl) (by kernel_rfl) (by kernel_rfl) (by kernel_rfl) (fun _ _ _ h => h) (Or.inl ⟨by rfl, ?_⟩) (by assumption) ?_
  rotate_left 1
  · (intro w hSw; (try dsimp only at hSw); go_simp; (try with_reducible rfl))
  try simp only [Act.put, List.setIfInBounds_toArray, List.set_cons_zero, List.set_cons_succ]
  refine wpAnyH_take (i := 9) (v := ?_) (by simp only [List.getElem?_toArray, List.getElem?_cons_succ, List.getElem?_cons_zero]; rfl) (by kernel_rfl) (by kernel_rfl) (by kernel_rfl) (fun _ _ _ h => h) (Or.inl ⟨by rfl, ?_⟩) (by assumption) ?_
  rotate_left 1
  · (intro w hSw; (try dsimp only at hSw); go_simp; (try with_reducible rfl))
  try simp only [Act.put, List.setIfInBounds_toArray, List.set_cons_zero, List.set_cons_succ]
  refine wpAnyH_take (i := 10) (v := ?_) (by simp only [List.getElem?_toArray, List.getElem?_cons_succ, List.getElem?_cons_zero]; rfl) (by kernel_rfl) (by kernel_rfl) (by kernel_rfl) (fun _ _ _ h => h) (Or.inl ⟨by rfl, ?_⟩) (by assumption) ?_
  rotate_left 1
  · (intro w hSw; (try dsimp only at hSw); go_simp; (try with_reducible rfl))
  try simp only [Act.put, List.setIfInBounds_toArray, List.set_cons_zero, List.set_cons_succ]
  refine wpAnyH_take (i := 11) (v := ?_) (by simp only [List.getElem?_toArray, List.getElem?_cons_succ, List.getElem?_cons_zero]; rfl) (by kernel_rfl) (by kernel_rfl) (by kernel_rfl) (fun _ _ _ h => h) (Or.inl ⟨by rfl, ?_⟩) (by assumption) ?_
  rotate_left 1
  · (intro w hSw; (try dsimp only at hSw); go_simp; (try with_reducible rfl))
  try simp only [Act.put, List.setIfInBounds_toArray, List.set_cons_zero, List.set_cons_succ]
  refine wpAnyH_take (i := 12) (v := ?_) (by simp only [List.getElem?_toArray, List.getElem?_cons_succ, List.getElem?_cons_zero]; rfl) (by kernel_rfl) (by kernel_rfl) (by kernel_rfl) (fun _ _ _ h => h) (Or.inl ⟨by rfl, ?_⟩) (by assumption) ?_
  rotate_left 1
  · (intro w hSw; (try dsimp only at hSw); go_simp; (try with_reducible rfl))
  try simp only [Act.put, List.setIfInBounds_toArray, List.set_cons_zero, List.set_cons_succ]
  refine wpAnyH_take (i := 13) (v := ?_) (by simp only [List.getElem?_toArray, List.getElem?_cons_succ, List.getElem?_cons_zero]; rfl) (by kernel_rfl) (by kernel_rfl) (by kernel_rfl) (fun _ _ _ h => h) (Or.inl ⟨by rfl, ?_⟩) (by assumption) ?_
  rotate_left 1
  · (intro w hSw; (try dsimp only at hSw); go_simp; (try with_reducible rfl))
  try simp only [Act.put, List.setIfInBounds_toArray, List.set_cons_zero, List.set_cons_succ]
  refine wpAnyH_take (i := 14) (v := ?_) (by simp only [List.getElem?_toArray, List.getElem?_cons_succ, List.getElem?_cons_zero]; rfl) (by kernel_rfl) (by kernel_rfl) (by kernel_rfl) (fun _ _ _ h => h) (Or.inl ⟨by rfl, ?_⟩) (by assumption) ?_
  rotate_left 1
  · (intro w hSw; (try dsimp only at hSw); go_simp; (try with_reducible rfl))
  try simp only [Act.put, List.setIfInBounds_toArray, List.set_cons_zero, List.set_cons_succ]
  refine wpAnyH_take (i := 15) (v := ?_) (by simp only [List.getElem?_toArray, List.getElem?_cons_succ, List.getElem?_cons_zero]; rfl) (by kernel_rfl) (by kernel_rfl) (by kernel_rfl) (fun _ _ _ h => h) (Or.inl ⟨by rfl, ?_⟩) (by assumption) ?_
  rotate_left 1
  · (intro w hSw; (try dsimp only at hSw); go_simp; (try with_reducible rfl))
  try simp only [Act.put, List.setIfInBounds_toArray, List.set_cons_zero, List.set_cons_succ]
  refine wpAnyH_done (by kernel_rfl) ?_ _
  intro K hK
  go_simp
  refine hK _ _ (NoPanic.normal ?_)
  clear hK K
  generalize hw2 : World.drew _ = w2
  have hv2 : Blk w2 gv 69 #[.int .i64 (P.st : Nat), .int .i64 0, .slice none 0 0, .bool false] := by subst hw2; exact (HV1.out.set_ 0 _).drew
  have k2 : Keep w1 w2 (· = gv) := by subst hw2; exact (Keep.set1 w1 gv 0 _).drew
  have HV2 := hide hv2
  have HU2 := hide (HU1.out.keep k2 (fun e => nvu e.symm))
  have hb2 := k2.cell (a := ⟨b, o, none⟩) hbv hb1
  have HK2 := hide ((HK1.out.nul (fun q => q = gv ∨ q = gu)).trans k2 (fun _ _ e => .inl e))
  have hgu2 := HU2.out.lt
  have hgv2 := HV2.out.lt
  have hbl2 : b < w2.heap.size := Nat.lt_of_lt_of_le hbl1 k2.size
  have u0 := HU2.out.cell 0 uct_0
  have u1 := HU2.out.cell 1 uct_1
  have v1 := HV2.out.cell 1 (v := .int .i64 0) rfl
  have f1 := HV2.out.free 1
  clear hw2 hv2 k2 hHeld v0 f0 hb1
  refine (show ∀ a w, _ → _ by assumption) _ _ ?_
  go_upto_region 4 with fail
  refine wp_region_noPanic ?_
  refine region_last2' (S := fun w' => w'.cell? ⟨gu, 0, none⟩ = some (.slice (some ⟨b, o, none⟩) n c) ∧ w'.cell? ⟨gu, 1, none⟩ = some (.int .i64 0) ∧ w'.cell? ⟨b, o, none⟩ = some (.int .u8 z)) (by kernel_rfl) (by kernel_rfl) (by simp only [List.dropLast_cons_cons, List.dropLast_singleton]; rfl) (by simp only [List.getLast?_cons_cons, List.getLast?_singleton]; rfl) (⟨u0, u1, hb2⟩) (fun hHeld => ?_)
  simp only [List.length_cons, List.length_nil, Nat.reduceAdd, Nat.zero_add]
  refine wpAnyH_take (i := 0) (v := ?_) (by simp only [List.getElem?_toArray, List.getElem?_cons_succ, List.getElem?_cons_zero]; rfl) (by kernel_rfl) (by kernel_rfl) (by kernel_rfl) (fun _ _ _ h => h) (Or.inl ⟨by rfl, ?_⟩) (by assumption) ?_
  rotate_left 1
  · (intro w hSw; (try dsimp only at hSw); go_simp; (try with_reducible rfl))
  try simp only [Act.put, List.setIfInBounds_toArray, List.set_cons_zero, List.set_cons_succ]
  refine wpAnyH_take (i := 1) (v := ?_) (by simp only [List.getElem?_toArray, List.getElem?_cons_succ, List.getElem?_cons_zero]; rfl) (by kernel_rfl) (by kernel_rfl) (by kernel_rfl) (fun _ _ _ h => h) (Or.inl ⟨by rfl, ?_⟩) (by assumption) ?_
  rotate_left 1
  · (intro w hSw; (try dsimp only at hSw); go_simp; (try with_reducible rfl))
  try simp only [Act.put, List.setIfInBounds_toArray, List.set_cons_zero, List.set_cons_succ]
  refine wpAnyH_take (i := 2) (v := ?_) (by simp only [List.getElem?_toArray, List.getElem?_cons_succ, List.getElem?_cons_zero]; rfl) (by kernel_rfl) (by kernel_rfl) (by kernel_rfl) (fun _ _ _ h => h) (Or.inl ⟨by rfl, ?_⟩) (by assumption) ?_
  rotate_left 1
  · (intro w hSw; (try dsimp only at hSw); go_simp; (try with_reducible rfl))
  try simp only [Act.put, List.setIfInBounds_toArray, List.set_cons_zero, List.set_cons_succ]
  refine wpAnyH_take (i := 3) (v := ?_) (by simp only [List.getElem?_toArray, List.getElem?_cons_succ, List.getElem?_cons_zero]; rfl) (by kernel_rfl) (by kernel_rfl) (by kernel_rfl) (fun _ _ _ h => h) (Or.inl ⟨by rfl, ?_⟩) (by assumption) ?_
  rotate_left 1
  · (intro w hSw; (try dsimp only at hSw); go_simp; (try with_reducible rfl))
  try simp only [Act.put, List.setIfInBounds_toArray, List.set_cons_zero, List.set_cons_succ]
  refine wpAnyH_take (i := 4) (v := ?_) (by simp only [List.getElem?_toArray, List.getElem?_cons_succ, List.getElem?_cons_zero]; rfl) (by kernel_rfl) (by kernel_rfl) (by kernel_rfl) (fun _ _ _ h => h) (Or.inl ⟨by rfl, ?_⟩) (by assumption) ?_
  rotate_left 1
  · (intro w hSw; (try dsimp only at hSw); go_simp; (try with_reducible rfl))
  try simp only [Act.put, List.setIfInBounds_toArray, List.set_cons_zero, List.set_cons_succ]
  refine wpAnyH_take (i := 5) (v := ?_) (by simp only [List.getElem?_toArray, List.getElem?_cons_succ, List.getElem?_cons_zero]; rfl) (by kernel_rfl) (by kernel_rfl) (by kernel_rfl) (fun _ _ _ h => h) (Or.inl ⟨by rfl, ?_⟩) (by assumption) ?_
  rotate_left 1
  · (intro w hSw; (try dsimp only at hSw); go_simp; (try with_reducible rfl))
  try simp only [Act.put, List.setIfInBounds_toArray, List.set_cons_zero, List.set_cons_succ]
  refine wpAnyH_take (i := 6) (v := ?_) (by simp only [List.getElem?_toArray, List.getElem?_cons_succ, List.getElem?_cons_zero]; rfl) (by kernel_rfl) (by kernel_rfl) (by kernel_rfl) (fun _ _ _ h => h) (Or.inl ⟨by rfl, ?_⟩) (by assumption) ?_
  rotate_left 1
  · (intro w hSw; (try dsimp only at hSw); go_simp; (try with_reducible rfl))
  try simp only [Act.put, List.setIfInBounds_toArray, List.set_cons_zero, List.set_cons_succ]
  refine wpAnyH_take (i := 7) (v := ?_) (by simp only [List.getElem?_toArray, List.getElem?_cons_succ, List.getElem?_cons_zero]; rfl) (by kernel_rfl) (by kernel_rfl) (by kernel_rfl) (fun _ _ _ h => h) (Or.inl ⟨by rfl, ?_⟩) (by assumption) ?_
  rotate_left 1
  · (intro w hSw; (try dsimp only at hSw); go_simp; (try with_reducible rfl))
  try simp only [Act.put, List.setIfInBounds_toArray, List.set_cons_zero, List.set_cons_succ]
  refine wpAnyH_take (i := 8) (v := ?_) (by simp only [List.getElem?_toArray, List.getElem?_cons_succ, List.getElem?_cons_zero]; rfl) (by kernel_rfl) (by kernel_rfl) (by kernel_rfl) (fun _ _ _ h => h) (Or.inl ⟨by rfl, ?_⟩) (by assumption) ?_
  rotate_left 1
  · (intro w hSw; (try dsimp only at hSw); go_simp; (try with_reducible rfl))
  try simp only [Act.put, List.setIfInBounds_toArray, List.set_cons_zero, List.set_cons_succ]
  refine wpAnyH_take (i := 9) (v := ?_) (by simp only [List.getElem?_toArray, List.getElem?_cons_succ, List.getElem?_cons_zero]; rfl) (by kernel_rfl) (by kernel_rfl) (by kernel_rfl) (fun _ _ _ h => h) (Or.inl ⟨by rfl, ?_⟩) (by assumption) ?_
  rotate_left 1
  · (intro w hSw; (try dsimp only at hSw); go_simp; (try with_reducible rfl))
  try simp only [Act.put, List.setIfInBounds_toArray, List.set_cons_zero, List.set_cons_succ]
  refine wpAnyH_take (i := 10) (v := ?_) (by simp only [List.getElem?_toArray, List.getElem?_cons_succ, List.getElem?_cons_zero]; rfl) (by kernel_rfl) (by kernel_rfl) (by kernel_rfl) (fun _ _ _ h => h) (Or.inl ⟨by rfl, ?_⟩) (by assumption) ?_
  rotate_left 1
  · (intro w hSw; (try dsimp only at hSw); go_simp; (try with_reducible rfl))
  try simp only [Act.put, List.setIfInBounds_toArray, List.set_cons_zero, List.set_cons_succ]
  refine wpAnyH_take (i := 11) (v := ?_) (by simp only [List.getElem?_toArray, List.getElem?_cons_succ, List.getElem?_cons_zero]; rfl) (by kernel_rfl) (by kernel_rfl) (by kernel_rfl) (fun _ _ _ h => h) (Or.inl ⟨by rfl, ?_⟩) (by assumption) ?_
  rotate_left 1
  · (intro w hSw; (try dsimp only at hSw); go_simp; (try with_reducible rfl))
  try simp only [Act.put, List.setIfInBounds_toArray, List.set_cons_zero, List.set_cons_succ]
  refine wpAnyH_take (i := 12) (v := ?_) (by simp only [List.getElem?_toArray, List.getElem?_cons_succ, List.getElem?_cons_zero]; rfl) (by kernel_rfl) (by kernel_rfl) (by kernel_rfl) (fun _ _ _ h => h) (Or.inl ⟨by rfl, ?_⟩) (by assumption) ?_
  rotate_left 1
  · (intro w hSw; (try dsimp only at hSw); go_simp; (try with_reducible rfl))
  try simp only [Act.put, List.setIfInBounds_toArray, List.set_cons_zero, List.set_cons_succ]
  refine wpAnyH_take (i := 13) (v := ?_) (by simp only [List.getElem?_toArray, List.getElem?_cons_succ, List.getElem?_cons_zero]; rfl) (by kernel_rfl) (by kernel_rfl) (by kernel_rfl) (fun _ _ _ h => h) (Or.inl ⟨by rfl, ?_⟩) (by assumption) ?_
  rotate_left 1
  · (intro w hSw; (try dsimp only at hSw); go_simp; (try with_reducible rfl))
  try simp only [Act.put, List.setIfInBounds_toArray, List.set_cons_zero, List.set_cons_succ]
  refine wpAnyH_take (i := 14) (v := ?_) (by simp only [List.getElem?_toArray, List.getElem?_cons_succ, List.getElem?_cons_zero]; rfl) (by kernel_rfl) (by kernel_rfl) (by kernel_rfl) (fun _ _ _ h => h) (Or.inl ⟨by rfl, ?_⟩) (by assumption) ?_
  rotate_left 1
  · (intro w hSw; (try dsimp only at hSw); go_simp; (try with_reducible rfl))
  try simp only [Act.put, List.setIfInBounds_toArray, List.set_cons_zero, List.set_cons_succ]
  refine wpAnyH_take (i := 15) (v := ?_) (by simp only [List.getElem?_toArray, List.getElem?_cons_succ, List.getElem?_cons_zero]; rfl) (by kernel_rfl) (by kernel_rfl) (by kernel_rfl) (fun _ _ _ h => h) (Or.inl ⟨by rfl, ?_⟩) (by assumption) ?_
  rotate_left 1
  · (intro w hSw; (try dsimp only at hSw); go_simp; (try with_reducible rfl))
  try simp only [Act.put, List.setIfInBounds_toArray, List.set_cons_zero, List.set_cons_succ]
  refine wpAnyH_take (i := 16) (v := ?_) (by simp only [List.getElem?_toArray, List.getElem?_cons_succ, List.getElem?_cons_zero]; rfl) (by kernel_rfl) (by kernel_rfl) (by kernel_rfl) (fun _ _ _ h => h) (Or.inl ⟨by rfl, ?_⟩) (by assumption) ?_
  rotate_left 1
  · (intro w hSw; (try dsimp only at hSw); go_simp; (try with_reducible rfl))
  try simp only [Act.put, List.setIfInBounds_toArray, List.set_cons_zero, List.set_cons_succ]
  refine wpAnyH_done (by kernel_rfl) ?_ _
  intro K hK
  go_simp
  refine hK _ _ (NoPanic.normal ?_)
  clear hK K
  generalize hw3 : World.drew _ = w3
  have hv3 : Blk w3 gv 69 #[.int .i64 (P.st : Nat), .int .i64 (P.S : Nat), .slice none 0 0, .bool false] := by subst hw3; exact (HV2.out.set_ 1 _).drew
  have k3 : Keep w2 w3 (· = gv) := by subst hw3; exact (Keep.set1 w2 gv 1 _).drew
  have HV3 := hide hv3
  have HU3 := hide (HU2.out.keep k3 (fun e => nvu e.symm))
  have hb3 := k3.cell (a := ⟨b, o, none⟩) hbv hb2
  have HK3 := hide (HK2.out.trans k3 (fun _ _ e => .inl e))
  have hgu3 := HU3.out.lt
  have hgv3 := HV3.out.lt
  have hbl3 : b < w3.heap.size := Nat.lt_of_lt_of_le hbl2 k3.size
  have u0 := HU3.out.cell 0 uct_0
  have u1 := HU3.out.cell 1 uct_1
  have u2 := HU3.out.cell 2 uct_2
  have fu := fun i => HU3.out.free i
  clear hw3 hv3 k3 hHeld v1 f1 hb2
  refine (show ∀ a w, _ → _ by assumption) _ _ ?_
  go_upto_region 5 with fail
  refine wp_region_noPanic ?_
  refine region_last2' (S := fun w' => w'.cell? ⟨gu, 0, none⟩ = some (.slice (some ⟨b, o, none⟩) n c) ∧ w'.cell? ⟨gu, 1, none⟩ = some (.int .i64 0) ∧ w'.cell? ⟨b, o, none⟩ = some (.int .u8 z)) (by kernel_rfl) (by kernel_rfl) (by simp only [List.dropLast_cons_cons, List.dropLast_singleton]; rfl) (by simp only [List.getLast?_cons_cons, List.getLast?_singleton]; rfl) (⟨u0, u1, hb3⟩) (fun hHeld => ?_)
  simp only [List.length_cons, List.length_nil, Nat.reduceAdd, Nat.zero_add]
  refine wpAnyH_take (i := 0) (v := ?_) (by simp only [List.getElem?_toArray, List.getElem?_cons_succ, List.getElem?_cons_zero]; rfl) (by kernel_rfl) (by kernel_rfl) (by kernel_rfl) (fun _ _ _ h => h) (Or.inl ⟨by rfl, ?_⟩) (by assumption) ?_
  rotate_left 1
  · (intro w hSw; (try dsimp only at hSw); go_simp; (try with_reducible rfl))
  try simp only [Act.put, List.setIfInBounds_toArray, List.set_cons_zero, List.set_cons_succ]
  refine wpAnyH_take (i := 1) (v := ?_) (by simp only [List.getElem?_toArray, List.getElem?_cons_succ, List.getElem?_cons_zero]; rfl) (by kernel_rfl) (by kernel_rfl) (by kernel_rfl) (fun _ _ _ h => h) (Or.inl ⟨by rfl, ?_⟩) (by assumption) ?_
  rotate_left 1
  · (intro w hSw; (try dsimp only at hSw); go_simp; (try with_reducible rfl))
  try simp only [Act.put, List.setIfInBounds_toArray, List.set_cons_zero, List.set_cons_succ]
  refine wpAnyH_take (i := 2) (v := ?_) (by simp only [List.getElem?_toArray, List.getElem?_cons_succ, List.getElem?_cons_zero]; rfl) (by kernel_rfl) (by kernel_rfl) (by kernel_rfl) (fun _ _ _ h => h) (Or.inl ⟨by rfl, ?_⟩) (by assumption) ?_
  rotate_left 1
  · (intro w hSw; (try dsimp only at hSw); go_simp; (try with_reducible rfl))
  try simp only [Act.put, List.setIfInBounds_toArray, List.set_cons_zero, List.set_cons_succ]
  refine wpAnyH_take (i := 3) (v := ?_) (by simp only [List.getElem?_toArray, List.getElem?_cons_succ, List.getElem?_cons_zero]; rfl) (by kernel_rfl) (by kernel_rfl) (by kernel_rfl) (fun _ _ _ h => h) (Or.inl ⟨by rfl, ?_⟩) (by assumption) ?_
  rotate_left 1
  · (intro w hSw; (try dsimp only at hSw); go_simp; (try with_reducible rfl))
  try simp only [Act.put, List.setIfInBounds_toArray, List.set_cons_zero, List.set_cons_succ]
  refine wpAnyH_take (i := 4) (v := ?_) (by simp only [List.getElem?_toArray, List.getElem?_cons_succ, List.getElem?_cons_zero]; rfl) (by kernel_rfl) (by kernel_rfl) (by kernel_rfl) (fun _ _ _ h => h) (Or.inl ⟨by rfl, ?_⟩) (by assumption) ?_
  rotate_left 1
  · (intro w hSw; (try dsimp only at hSw); go_simp; (try with_reducible rfl))
  try simp only [Act.put, List.setIfInBounds_toArray, List.set_cons_zero, List.set_cons_succ]
  refine wpAnyH_take (i := 5) (v := ?_) (by simp only [List.getElem?_toArray, List.getElem?_cons_succ, List.getElem?_cons_zero]; rfl) (by kernel_rfl) (by kernel_rfl) (by kernel_rfl) (fun _ _ _ h => h) (Or.inl ⟨by rfl, ?_⟩) (by assumption) ?_
  rotate_left 1
  · (intro w hSw; (try dsimp only at hSw); go_simp; (try with_reducible rfl))
  try simp only [Act.put, List.setIfInBounds_toArray, List.set_cons_zero, List.set_cons_succ]
  refine wpAnyH_take (i := 6) (v := ?_) (by simp only [List.getElem?_toArray, List.getElem?_cons_succ, List.getElem?_cons_zero]; rfl) (by kernel_rfl) (by kernel_rfl) (by kernel_rfl) (fun _ _ _ h => h) (Or.inl ⟨by rfl, ?_⟩) (by assumption) ?_
  rotate_left 1
  · (intro w hSw; (try dsimp only at hSw); go_simp; (try with_reducible rfl))
  try simp only [Act.put, List.setIfInBounds_toArray, List.set_cons_zero, List.set_cons_succ]
  refine wpAnyH_take (i := 7) (v := ?_) (by simp only [List.getElem?_toArray, List.getElem?_cons_succ, List.getElem?_cons_zero]; rfl) (by kernel_rfl) (by kernel_rfl) (by kernel_rfl) (fun _ _ _ h => h) (Or.inl ⟨by rfl, ?_⟩) (by assumption) ?_
  rotate_left 1
  · (intro w hSw; (try dsimp only at hSw); go_simp; (try with_reducible rfl))
  try simp only [Act.put, List.setIfInBounds_toArray, List.set_cons_zero, List.set_cons_succ]
  refine wpAnyH_take (i := 8) (v := ?_) (by simp only [List.getElem?_toArray, List.getElem?_cons_succ, List.getElem?_cons_zero]; rfl) (by kernel_rfl) (by kernel_rfl) (by kernel_rfl) (fun _ _ _ h => h) (Or.inl ⟨by rfl, ?_⟩) (by assumption) ?_
  rotate_left 1
  · (intro w hSw; (try dsimp only at hSw); go_simp; (try with_reducible rfl))
  try simp only [Act.put, List.setIfInBounds_toArray, List.set_cons_zero, List.set_cons_succ]
  refine wpAnyH_take (i := 9) (v := ?_) (by simp only [List.getElem?_toArray, List.getElem?_cons_succ, List.getElem?_cons_zero]; rfl) (by kernel_rfl) (by kernel_rfl) (by kernel_rfl) (fun _ _ _ h => h) (Or.inl ⟨by rfl, ?_⟩) (by assumption) ?_
  rotate_left 1
  · (intro w hSw; (try dsimp only at hSw); go_simp; (try with_reducible rfl))
  try simp only [Act.put, List.setIfInBounds_toArray, List.set_cons_zero, List.set_cons_succ]
  refine wpAnyH_take (i := 10) (v := ?_) (by simp only [List.getElem?_toArray, List.getElem?_cons_succ, List.getElem?_cons_zero]; rfl) (by kernel_rfl) (by kernel_rfl) (by kernel_rfl) (fun _ _ _ h => h) (Or.inl ⟨by rfl, ?_⟩) (by assumption) ?_
  rotate_left 1
  · (intro w hSw; (try dsimp only at hSw); go_simp; (try with_reducible rfl))
  try simp only [Act.put, List.setIfInBounds_toArray, List.set_cons_zero, List.set_cons_succ]
  refine wpAnyH_take (i := 11) (v := ?_) (by simp only [List.getElem?_toArray, List.getElem?_cons_succ, List.getElem?_cons_zero]; rfl) (by kernel_rfl) (by kernel_rfl) (by kernel_rfl) (fun _ _ _ h => h) (Or.inl ⟨by rfl, ?_⟩) (by assumption) ?_
  rotate_left 1
  · (intro w hSw; (try dsimp only at hSw); go_simp; (try with_reducible rfl))
  try simp only [Act.put, List.setIfInBounds_toArray, List.set_cons_zero, List.set_cons_succ]
  refine wpAnyH_take (i := 12) (v := ?_) (by simp only [List.getElem?_toArray, List.getElem?_cons_succ, List.getElem?_cons_zero]; rfl) (by kernel_rfl) (by kernel_rfl) (by kernel_rfl) (fun _ _ _ h => h) (Or.inl ⟨by rfl, ?_⟩) (by assumption) ?_
  rotate_left 1
  · (intro w hSw; (try dsimp only at hSw); go_simp; (try with_reducible rfl))
  try simp only [Act.put, List.setIfInBounds_toArray, List.set_cons_zero, List.set_cons_succ]
  refine wpAnyH_take (i := 13) (v := ?_) (by simp only [List.getElem?_toArray, List.getElem?_cons_succ, List.getElem?_cons_zero]; rfl) (by kernel_rfl) (by kernel_rfl) (by kernel_rfl) (fun _ _ _ h => h) (Or.inl ⟨by rfl, ?_⟩) (by assumption) ?_
  rotate_left 1
  · (intro w hSw; (try dsimp only at hSw); go_simp; (try with_reducible rfl))
  try simp only [Act.put, List.setIfInBounds_toArray, List.set_cons_zero, List.set_cons_succ]
  refine wpAnyH_done (by kernel_rfl) ?_ _
  intro K hK
  go_simp
  refine hK _ _ (NoPanic.normal ?_)
  clear hK K
  generalize hw4 : World.drew _ = w4
  have hu4 : Blk w4 gu 88 (uctV (some ⟨b, o, none⟩) n c 0 C (List.replicate 4 0)) := by subst hw4; rw [← uct_s2 (f := 0)]; exact (HU3.out.set_ 2 _).drew
  have k4 : Keep w3 w4 (· = gu) := by subst hw4; exact (Keep.set1 w3 gu 2 _).drew
  have HU4 := hide hu4
  have HV4 := hide (HV3.out.keep k4 (fun e => nvu e))
  have HK4 := hide (HK3.out.trans k4 (fun _ _ e => .inr e))
  have hgu4 := HU4.out.lt
  have hgv4 := HV4.out.lt
  have u1 := HU4.out.cell 1 uct_1
  have u2 := HU4.out.cell 2 uct_2
  have fu := fun i => HU4.out.free i
  clear hw4 hu4 k4 hHeld hb3 u0 fu
  have fu := fun i => HU4.out.free i
  refine (show ∀ a w, _ → _ by assumption) _ _ ?_
  go_upto_region 8 with fail
  generalize hw5 : World.setCell w4 _ _ = w5
  have hu5 : Blk w5 gu 88 (uctV (some ⟨b, o, none⟩) n c 1 C (mpL C 0)) := by subst hw5; rw [← uct_s1 (off := 0)]; exact HU4.out.set_ 1 _
  have k5 : Keep w4 w5 (· = gu) := by subst hw5; exact Keep.set1 w4 gu 1 _
  have HU5 := hide hu5
  have HV5 := hide (HV4.out.keep k5 (fun e => nvu e))
  have HK5 := hide (HK4.out.trans k5 (fun _ _ e => .inr e))
  clear hw5 hu5 k5 u1 u2 fu
  go_wp2_with fail
  go_loopw [5] (fun s5 wr => ∃ s : Nat, s ≤ P.S ∧ s5 = .int .i64 (s : Int) ∧ Blk wr gu 88 (uctV (some ⟨b, o, none⟩) n c 1 C (mpL C s)) ∧ Keep w5 wr (· = gu)) (fun s5 _ => P.S - (intOf s5).toNat)
  case atStart => exact ⟨0, by omega, rfl, HU5.out, Keep.refl _ _⟩
  case round =>
    obtain ⟨s, hs, rfl, hbu, hk⟩ := hrel
    have HU6 := hide hbu
    have HK6 := hide hk
    have HV6 := hide (HV5.out.keep hk (fun e => nvu e))
    have v1 := HV6.out.cell 1 (v := .int .i64 (P.S : Nat)) rfl
    have hgv6 := HV6.out.lt
    have hgu6 := hbu.lt
    clear hbu hk
    by_cases hlt : s < P.S
    · have kl : (s : Int) < (P.S : Int) := by omega
      have ks4 : (s : Int) < 4 := by omega
      obtain ⟨m1, m2⟩ := mpL_next C (s := s) (by omega)
      have u2 := HU6.out.cell 2 uct_2
      have um := HU6.out.cell (3 + s) (uct_m m2)
      have fu := fun i => HU6.out.free i
      have M1 := hide m1
      clear m1 m2
      go_upto_region 11 with fail
      refine wp_region_noPanic ?_
      refine region_last2' (S := fun w' => w'.cell? ⟨gu, 2, none⟩ = some (.int .u8 C)) (by kernel_rfl) (by kernel_rfl) (by simp only [List.dropLast_cons_cons, List.dropLast_singleton]; rfl) (by simp only [List.getLast?_cons_cons, List.getLast?_singleton]; rfl) (u2) (fun hHeld => ?_)
      simp only [List.length_cons, List.length_nil, Nat.reduceAdd, Nat.zero_add]
      refine wpAnyH_take (i := 0) (v := ?_) (by simp only [List.getElem?_toArray, List.getElem?_cons_succ, List.getElem?_cons_zero]; rfl) (by kernel_rfl) (by kernel_rfl) (by kernel_rfl) (fun _ _ _ h => h) (Or.inl ⟨by rfl, ?_⟩) (by assumption) ?_
      rotate_left 1
      · (intro w hSw; (try dsimp only at hSw); go_simp; (try with_reducible rfl))
      try simp only [Act.put, List.setIfInBounds_toArray, List.set_cons_zero, List.set_cons_succ]
      refine wpAnyH_take (i := 1) (v := ?_) (by simp only [List.getElem?_toArray, List.getElem?_cons_succ, List.getElem?_cons_zero]; rfl) (by kernel_rfl) (by kernel_rfl) (by kernel_rfl) (fun _ _ _ h => h) (Or.inl ⟨by rfl, ?_⟩) (by assumption) ?_
      rotate_left 1
      · (intro w hSw; (try dsimp only at hSw); go_simp; (try with_reducible rfl))
      try simp only [Act.put, List.setIfInBounds_toArray, List.set_cons_zero, List.set_cons_succ]
      refine wpAnyH_take (i := 2) (v := ?_) (by simp only [List.getElem?_toArray, List.getElem?_cons_succ, List.getElem?_cons_zero]; rfl) (by kernel_rfl) (by kernel_rfl) (by kernel_rfl) (fun _ _ _ h => h) (Or.inl ⟨by rfl, ?_⟩) (by assumption) ?_
      rotate_left 1
      · (intro w hSw; (try dsimp only at hSw); go_simp; (try with_reducible rfl))
      try simp only [Act.put, List.setIfInBounds_toArray, List.set_cons_zero, List.set_cons_succ]
      refine wpAnyH_take (i := 3) (v := ?_) (by simp only [List.getElem?_toArray, List.getElem?_cons_succ, List.getElem?_cons_zero]; rfl) (by kernel_rfl) (by kernel_rfl) (by kernel_rfl) (fun _ _ _ h => h) (Or.inl ⟨by rfl, ?_⟩) (by assumption) ?_
      rotate_left 1
      · (intro w hSw; (try dsimp only at hSw); go_simp; (try with_reducible rfl))
      try simp only [Act.put, List.setIfInBounds_toArray, List.set_cons_zero, List.set_cons_succ]
      refine wpAnyH_take (i := 4) (v := ?_) (by simp only [List.getElem?_toArray, List.getElem?_cons_succ, List.getElem?_cons_zero]; rfl) (by kernel_rfl) (by kernel_rfl) (by kernel_rfl) (fun _ _ _ h => h) (Or.inl ⟨by rfl, ?_⟩) (by assumption) ?_
      rotate_left 1
      · (intro w hSw; (try dsimp only at hSw); go_simp; (try with_reducible rfl))
      try simp only [Act.put, List.setIfInBounds_toArray, List.set_cons_zero, List.set_cons_succ]
      refine wpAnyH_take (i := 5) (v := ?_) (by simp only [List.getElem?_toArray, List.getElem?_cons_succ, List.getElem?_cons_zero]; rfl) (by kernel_rfl) (by kernel_rfl) (by kernel_rfl) (fun _ _ _ h => h) (Or.inl ⟨by rfl, ?_⟩) (by assumption) ?_
      rotate_left 1
      · (intro w hSw; (try dsimp only at hSw); go_simp; (try with_reducible rfl))
      try simp only [Act.put, List.setIfInBounds_toArray, List.set_cons_zero, List.set_cons_succ]
      refine wpAnyH_take (i := 6) (v := ?_) (by simp only [List.getElem?_toArray, List.getElem?_cons_succ, List.getElem?_cons_zero]; rfl) (by kernel_rfl) (by kernel_rfl) (by kernel_rfl) (fun _ _ _ h => h) (Or.inl ⟨by rfl, ?_⟩) (by assumption) ?_
      rotate_left 1
      · (intro w hSw; (try dsimp only at hSw); go_simp; (try with_reducible rfl))
      try simp only [Act.put, List.setIfInBounds_toArray, List.set_cons_zero, List.set_cons_succ]
      refine wpAnyH_take (i := 7) (v := ?_) (by simp only [List.getElem?_toArray, List.getElem?_cons_succ, List.getElem?_cons_zero]; rfl) (by kernel_rfl) (by kernel_rfl) (by kernel_rfl) (fun _ _ _ h => h) (Or.inl ⟨by rfl, ?_⟩) (by assumption) ?_
      rotate_left 1
      · (intro w hSw; (try dsimp only at hSw); go_simp; (try with_reducible rfl))
      try simp only [Act.put, List.setIfInBounds_toArray, List.set_cons_zero, List.set_cons_succ]
      refine wpAnyH_take (i := 8) (v := ?_) (by simp only [List.getElem?_toArray, List.getElem?_cons_succ, List.getElem?_cons_zero]; rfl) (by kernel_rfl) (by kernel_rfl) (by kernel_rfl) (fun _ _ _ h => h) (Or.inl ⟨by rfl, ?_⟩) (by assumption) ?_
      rotate_left 1
      · (intro w hSw; (try dsimp only at hSw); go_simp; (try with_reducible rfl))
      try simp only [Act.put, List.setIfInBounds_toArray, List.set_cons_zero, List.set_cons_succ]
      refine wpAnyH_done (by kernel_rfl) ?_ _
      intro K hK
      go_simp
      refine hK _ _ (NoPanic.normal ?_)
      clear hK K
      generalize hw7 : World.drew _ = w7
      have hu7 : Blk w7 gu 88 (uctV (some ⟨b, o, none⟩) n c 1 C (mpL C (s + 1))) := by subst hw7; rw [M1.out, ← uct_sm]; exact (HU6.out.set_ _ _).drew
      have k7 : Keep wr w7 (· = gu) := by subst hw7; exact (Keep.set1 wr gu _ _).drew
      have HU7 := hide hu7
      have HK7 := hide (HK6.out.trans k7 (fun _ _ e => e))
      clear hw7 hu7 k7 hHeld u2 um fu
      refine (show ∀ a w, _ → _ by assumption) _ _ ?_
      go_wp2_with fail
      go_roundw
      case rel => exact ⟨s + 1, by omega, by go_num, HU7.out, HK7.out⟩
      case measure => simp [intOf]; omega
    · obtain rfl : s = P.S := by omega
      have hm := mpL_full HP.out
      rw [HCM.out] at hm
      have hu9 := HU6.out
      rw [hm] at hu9
      have HU9 := hide hu9
      clear hm hu9
      go_wp2_with fail
      go_ret
      exact ⟨rfl, HV6.out, HU9.out, HK5.out.trans HK6.out (fun _ _ e => .inr e)⟩
end Go.Proofs.YtdlnmkpojiofoaaDoor
