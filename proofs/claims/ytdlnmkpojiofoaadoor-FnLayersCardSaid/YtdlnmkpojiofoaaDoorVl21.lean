/-
  VLA.unmarshalTemporalLayers: a layer is made. Conditions: those that stand in each theorem.
-/
import Derived.Test.YtdlnmkpojiofoaaDoorVl20
namespace Go.Proofs.YtdlnmkpojiofoaaDoor
open Go.RowKit
set_option linter.unusedVariables false
set_option linter.unusedSimpArgs false
set_option maxRecDepth 100000

/-- The bytes that are read, and where the blocks lie. -/
structure RD (w : World) (P : Pv) (b o gv gu B : Nat) : Prop where
  ok : P.Ok
  dat : ∀ (i : Nat) (z : Int), P.out[i]? = some z → w.cell? ⟨b, o + i, none⟩ = some (.int .u8 z)
  bl : b < w.heap.size
  bB : b < B
  vB : gv < B
  uB : gu < B
  bv : b ≠ gv
  bu : b ≠ gu
  vu : gv ≠ gu
  Bw : B ≤ w.heap.size
theorem RD.keep {w w' : World} {P : Pv} {b o gv gu B : Nat} {S : Nat → Prop} (h : RD w P b o gv gu B) (k : Keep w w' S) (hb : ¬ S b) : RD w' P b o gv gu B :=
  ⟨h.ok, fun i z hz => k.cell (a := ⟨b, o + i, none⟩) hb (h.dat i z hz), Nat.lt_of_lt_of_le h.bl k.size, h.bB, h.vB, h.uB, h.bv, h.bu, h.vu, Nat.le_trans h.Bw k.size⟩
theorem out_tl {P : Pv} {q : Nat} (h : q < P.tl) : P.out[1 + q]? = (tbL (P.rs.length - 1) P.L P.tl)[q]? := by
  unfold Pv.out Pv.front
  rw [List.append_assoc, List.getElem?_append_left (by rw [List.length_cons, tbL_len]; omega), Nat.add_comm, List.getElem?_cons_succ]
/-- The value of a VLA that is being read. -/
def Pv.vv (P : Pv) (v : Value) (sz : Bool) : Array Value := #[.int .i64 (P.st : Nat), .int .i64 (P.S : Nat), v, .bool sz]
def val0 (T : Nat) : Nat → List Nat := fun _ => List.replicate T 0

set_option maxHeartbeats 3200000 in
theorem ut_p16 {P : Pv} {b o n c gv gu B m s k q r c' : Nat} {A' : Option Addr} {gs : List Nat} {mbs : List Int} {C : Int} {Q : Exit → Act → World → Prop} (w : World) (u2 u3 u4 u8 u9 u10 u11 u12 u13 u14 u15 u16 u17 u18 u19 u20 u21 u22 u23 u24 u25 u26 u27 u28 u29 u30 u31 u32 u33 u34 u35 u36 u37 u38 u39 u40 u41 u42 u43 u44 u45 u46 u47 u48 u49 u50 u51 u52 u53 u54 u55 u56 u57 u58 u59 u60 u61 u62 u63 u64 u65 u66 u67 u68 u69 u70 u71 u72 u73 u74 u75 u76 u77 u78 u79 u80 u81 u82 u83 u84 u85 u86 u87 u88 u89 u90 u91 u92 u93 u94 u95 u96 u97 u98 u99 u100 u101 u102 u103 u104 u105 u106 u107 u108 u109 u110 u111 u112 u113 u114 u115 u116 u117 u118 u119 u120 u121 u122 u123 u124 u125 u126 u127 u128 u129 u130 u131 u132 u133 u134 u135 u136 u137 u138 u139 u140 u141 u142 u143 u144 u145 u146 u147 u148 u149 u150 u151 u152 u153 u154 u155 u156 u157 u158 : Value)
    (R : RD w P b o gv gu B) (hn : n = P.len) (hnc : n ≤ c) (hv : Blk w gv 69 (P.vv (.slice A' m c') false)) (hu : Blk w gu 88 (uctV (some ⟨b, o, none⟩) n c (1 + (q : Int)) C mbs))
    (hlq : LQ w B P.l0 P.rs.length (.slice A' m c') m gs (val0 P.rs.length)) (hm : m < P.L) (hq : q = m / 4) (hr : r = m % 4) {z5 : Int} (h5 : z5 = (r : Int)) (hs : s = m / P.K) (hk : k = m % P.K)
    (hQ : ∀ (w' : World) (v8 v9 v55 v56 v57 v58 v59 v60 v61 v62 v63 v64 v65 v66 v67 v68 v69 v70 v71 v72 v73 v74 v75 v76 v77 v78 v79 v80 v81 v82 v83 v84 v85 v86 v87 v88 : Value) (A2 : Option Addr) (c2 : Nat) (g : Nat), Blk w' gv 69 (P.vv (.slice A2 (m + 1) c2) false) → LQ w' B P.l0 P.rs.length (.slice A2 (m + 1) c2) (m + 1) (gs ++ [g]) (val0 P.rs.length) → Keep w w' (fun x => x = gv ∨ B ≤ x) → Q .normal ⟨List.toArray (.pointer (some ⟨gv, 0, none⟩) :: .pointer (some ⟨gu, 0, none⟩) :: u2 :: u3 :: u4 :: .int .i64 ((r : Int) + 1) :: .int .i64 (s : Int) :: .int .i64 (k : Int) :: v8 :: v9 :: u10 :: u11 :: u12 :: u13 :: u14 :: u15 :: u16 :: u17 :: u18 :: u19 :: u20 :: u21 :: u22 :: u23 :: u24 :: u25 :: u26 :: u27 :: u28 :: u29 :: u30 :: u31 :: u32 :: u33 :: u34 :: u35 :: u36 :: u37 :: u38 :: u39 :: u40 :: u41 :: u42 :: u43 :: u44 :: u45 :: u46 :: u47 :: u48 :: u49 :: u50 :: u51 :: u52 :: u53 :: u54 :: v55 :: v56 :: v57 :: v58 :: v59 :: v60 :: v61 :: v62 :: v63 :: v64 :: v65 :: v66 :: v67 :: v68 :: v69 :: v70 :: v71 :: v72 :: v73 :: v74 :: v75 :: v76 :: v77 :: v78 :: v79 :: v80 :: v81 :: v82 :: v83 :: v84 :: v85 :: v86 :: v87 :: v88 :: u89 :: u90 :: u91 :: u92 :: u93 :: u94 :: u95 :: u96 :: u97 :: u98 :: u99 :: u100 :: u101 :: u102 :: u103 :: u104 :: u105 :: u106 :: u107 :: u108 :: u109 :: u110 :: u111 :: u112 :: u113 :: u114 :: u115 :: u116 :: u117 :: u118 :: u119 :: u120 :: u121 :: u122 :: u123 :: u124 :: u125 :: u126 :: u127 :: u128 :: u129 :: u130 :: u131 :: u132 :: u133 :: u134 :: u135 :: u136 :: u137 :: u138 :: u139 :: u140 :: u141 :: u142 :: u143 :: u144 :: u145 :: u146 :: u147 :: u148 :: u149 :: u150 :: u151 :: u152 :: u153 :: u154 :: u155 :: u156 :: u157 :: u158 :: []), []⟩ w') :
    Part Tryd.prog Tryd.f32 16 Q ⟨List.toArray (.pointer (some ⟨gv, 0, none⟩) :: .pointer (some ⟨gu, 0, none⟩) :: u2 :: u3 :: u4 :: .int .i64 z5 :: .int .i64 (s : Int) :: .int .i64 (k : Int) :: u8 :: u9 :: u10 :: u11 :: u12 :: u13 :: u14 :: u15 :: u16 :: u17 :: u18 :: u19 :: u20 :: u21 :: u22 :: u23 :: u24 :: u25 :: u26 :: u27 :: u28 :: u29 :: u30 :: u31 :: u32 :: u33 :: u34 :: u35 :: u36 :: u37 :: u38 :: u39 :: u40 :: u41 :: u42 :: u43 :: u44 :: u45 :: u46 :: u47 :: u48 :: u49 :: u50 :: u51 :: u52 :: u53 :: u54 :: u55 :: u56 :: u57 :: u58 :: u59 :: u60 :: u61 :: u62 :: u63 :: u64 :: u65 :: u66 :: u67 :: u68 :: u69 :: u70 :: u71 :: u72 :: u73 :: u74 :: u75 :: u76 :: u77 :: u78 :: u79 :: u80 :: u81 :: u82 :: u83 :: u84 :: u85 :: u86 :: u87 :: u88 :: u89 :: u90 :: u91 :: u92 :: u93 :: u94 :: u95 :: u96 :: u97 :: u98 :: u99 :: u100 :: u101 :: u102 :: u103 :: u104 :: u105 :: u106 :: u107 :: u108 :: u109 :: u110 :: u111 :: u112 :: u113 :: u114 :: u115 :: u116 :: u117 :: u118 :: u119 :: u120 :: u121 :: u122 :: u123 :: u124 :: u125 :: u126 :: u127 :: u128 :: u129 :: u130 :: u131 :: u132 :: u133 :: u134 :: u135 :: u136 :: u137 :: u138 :: u139 :: u140 :: u141 :: u142 :: u143 :: u144 :: u145 :: u146 :: u147 :: u148 :: u149 :: u150 :: u151 :: u152 :: u153 :: u154 :: u155 :: u156 :: u157 :: u158 :: []), []⟩ w := by
  subst h5
  have HQ := hide hQ
  have RR := hide R
  have HV := hide hv
  have HU := hide hu
  have HLQ := hide hlq
  have hL16 := R.ok.L16
  have hlb := R.ok.lenB
  have ht1 := R.ok.t1
  have ht4 := R.ok.t4
  have htl : q < P.tl ∧ P.tl = (P.L - 1) / 4 + 1 := ⟨by unfold Pv.tl; omega, rfl⟩
  have hr4 : r < 4 := by omega
  obtain ⟨z, z1, z2, z3, z4⟩ := tg (T := P.rs.length - 1) (L := P.L) (n := m) (by omega) (by omega) hm
  rw [← htl.2, ← hq, ← out_tl htl.1] at z1
  rw [← hr] at z4
  have hz := R.dat _ _ z1
  have hlen : P.tl + 1 ≤ n := by rw [hn]; unfold Pv.len; omega
  have hn4 : n ≤ 400 := by omega
  obtain ⟨u, hue⟩ : ∃ u : Nat, u = 3 - r := ⟨_, rfl⟩
  obtain ⟨v, hve⟩ : ∃ v : Nat, v = 2 * u := ⟨_, rfl⟩
  have e3 : IntKind.i64.wrap (3 - (r : Int)) = (u : Int) := by rw [IntKind.wrap_i64]; omega
  have e4 : IntKind.i64.wrap (2 * (u : Int)) = (v : Int) := by rw [IntKind.wrap_i64]; omega
  have hmin : min v 8 = v := by omega
  rw [← hue, ← hve] at z4
  obtain ⟨T1, hT1⟩ : ∃ T1, T1 = P.rs.length - 1 := ⟨_, rfl⟩
  rw [← hT1] at z4
  obtain ⟨T, hT⟩ : ∃ T, T = P.rs.length := ⟨_, rfl⟩
  have e5 : IntKind.i64.wrap (T1 : Int) = (T1 : Int) := by rw [IntKind.wrap_i64]; omega
  have e6 : IntKind.i64.wrap ((T1 : Int) + 1) = (T : Int) := by rw [IntKind.wrap_i64]; omega
  have hTb : T ≤ 4 ∧ 1 ≤ T := by omega
  have u0 := hu.cell 0 uct_0
  have u1 := hu.cell 1 uct_1
  have hgu := hu.lt
  have hgv := hv.lt
  have hbl := R.bl
  have kq : (1 : Int) + (q : Int) < (n : Int) := by omega
  have kq0 : (0 : Int) ≤ 1 + (q : Int) := by omega
  have kq1 : ((1 : Int) + (q : Int)).toNat = 1 + q := by omega
  have hmk := hide (fun w => run_mk (P := Tryd.prog) etI T (by omega) (by omega) w)
  rw [← hT] at hQ hlq
  have HQ := hide hQ
  have HLQ := hide hlq
  have HT := hide hT
  have HS := hide hs
  have HK := hide hk
  have HM := hide hm
  clear R hv hu hQ hlq hq hr hs hk hm htl hn hue hve hT1 hT z1 z2 z3
  refine part_open (fun c0 hc K hK => ?_)
  conv at hc => rhs; whnf
  subst hc
  dsimp only [xOf, yOf] at hK ⊢
  have KK := hide hK
  clear hK
  refine wp_region_noPanic ?_
  refine region_last2' (S := fun w' => w'.cell? ⟨gu, 0, none⟩ = some (.slice (some ⟨b, o, none⟩) n c) ∧ w'.cell? ⟨gu, 1, none⟩ = some (.int .i64 (1 + (q : Int))) ∧ w'.cell? ⟨b, o + (1 + q), none⟩ = some (.int .u8 z)) (by kernel_rfl) (by kernel_rfl) (by simp only [List.dropLast_cons_cons, List.dropLast_singleton]; rfl) (by simp only [List.getLast?_cons_cons, List.getLast?_singleton]; rfl) (⟨u0, u1, hz⟩) (fun hHeld => ?_)
  simp only [List.length_cons, List.length_nil, Nat.reduceAdd, Nat.zero_add]
  refine wpAnyH_take (i := 0) (v := ?_) (by simp only [List.getElem?_toArray, List.getElem?_cons_succ, List.getElem?_cons_zero]; rfl) (by kernel_rfl) (by kernel_rfl) (by kernel_rfl) (fun _ _ _ h => h) (Or.inl ⟨by rfl, ?_⟩) (by assumption) ?_
  rotate_left 1
  · (intro w hSw; (try dsimp only at hSw); go_simp; (try with_reducible rfl))
  try simp only [Act.put, List.setIfInBounds_toArray, List.set_cons_zero, List.set_cons_succ]
  refine wpAnyH_take (i := 1) (v := ?_) (by simp only [List.getElem?_toArray, List.getElem?_cons_succ, List.getElem?_cons_zero]; rfl) (by kernel_rfl) (by kernel_rfl) (by kernel_rfl) (fun _ _ _ h => h) (Or.inl ⟨by rfl, ?_⟩) (by assumption) ?_
  rotate_left 1
  · (intro w hSw; (try dsimp only at hSw); go_simp; (try with_reducible rfl))
  try simp only [Act.put, List.setIfInBounds_toArray, List.set_cons_zero, List.set_cons_succ]
  refine wpAnyH_take (i := 2) (v := ?_) (by simp only [List.getElem?_toArray, List.getElem?_cons_succ, List.getElem?_cons_zero]; rfl) (by kernel_rfl) (by kernel_rfl) (by kernel_rfl) (fun _ _ _ h => h) (Or.inl ⟨by rfl, ?_⟩) (by assumption) ?_
  rotate_left 1
  · (intro w hSw; (try dsimp only at hSw); go_simp; (try with_reducible rfl))
  try simp only [Act.put, List.setIfInBounds_toArray, List.set_cons_zero, List.set_cons_succ]
  refine wpAnyH_take (i := 3) (v := ?_) (by simp only [List.getElem?_toArray, List.getElem?_cons_succ, List.getElem?_cons_zero]; rfl) (by kernel_rfl) (by kernel_rfl) (by kernel_rfl) (fun _ _ _ h => h) (Or.inl ⟨by rfl, ?_⟩) (by assumption) ?_
  rotate_left 1
  · (intro w hSw; (try dsimp only at hSw); go_simp; (try with_reducible rfl))
  try simp only [Act.put, List.setIfInBounds_toArray, List.set_cons_zero, List.set_cons_succ]
  refine wpAnyH_take (i := 4) (v := ?_) (by simp only [List.getElem?_toArray, List.getElem?_cons_succ, List.getElem?_cons_zero]; rfl) (by kernel_rfl) (by kernel_rfl) (by kernel_rfl) (fun _ _ _ h => h) (Or.inl ⟨by rfl, ?_⟩) (by assumption) ?_
  rotate_left 1
  · (intro w hSw; (try dsimp only at hSw); go_simp; (try with_reducible rfl))
  try simp only [Act.put, List.setIfInBounds_toArray, List.set_cons_zero, List.set_cons_succ]
  refine wpAnyH_take (i := 5) (v := ?_) (by simp only [List.getElem?_toArray, List.getElem?_cons_succ, List.getElem?_cons_zero]; rfl) (by kernel_rfl) (by kernel_rfl) (by kernel_rfl) (fun _ _ _ h => h) (Or.inl ⟨by rfl, ?_⟩) (by assumption) ?_
  rotate_left 1
  · (intro w hSw; (try dsimp only at hSw); go_simp; (try with_reducible rfl))
  try simp only [Act.put, List.setIfInBounds_toArray, List.set_cons_zero, List.set_cons_succ]
  refine wpAnyH_take (i := 6) (v := ?_) (by simp only [List.getElem?_toArray, List.getElem?_cons_succ, List.getElem?_cons_zero]; rfl) (by kernel_rfl) (by kernel_rfl) (by kernel_rfl) (fun _ _ _ h => h) (Or.inl ⟨by rfl, ?_⟩) (by assumption) ?_
  rotate_left 1
  · (intro w hSw; (try dsimp only at hSw); go_simp; (try with_reducible rfl))
  try simp only [Act.put, List.setIfInBounds_toArray, List.set_cons_zero, List.set_cons_succ]
  refine wpAnyH_take (i := 7) (v := ?_) (by simp only [List.getElem?_toArray, List.getElem?_cons_succ, List.getElem?_cons_zero]; rfl) (by kernel_rfl) (by kernel_rfl) (by kernel_rfl) (fun _ _ _ h => h) (Or.inl ⟨by rfl, ?_⟩) (by assumption) ?_
  rotate_left 1
  · (intro w hSw; (try dsimp only at hSw); go_simp; (try with_reducible rfl))
  try simp only [Act.put, List.setIfInBounds_toArray, List.set_cons_zero, List.set_cons_succ]
  refine wpAnyH_take (i := 8) (v := ?_) (by simp only [List.getElem?_toArray, List.getElem?_cons_succ, List.getElem?_cons_zero]; rfl) (by kernel_rfl) (by kernel_rfl) (by kernel_rfl) (fun _ _ _ h => h) (Or.inl ⟨by rfl, ?_⟩) (by assumption) ?_
  rotate_left 1
  · (intro w hSw; (try dsimp only at hSw); go_simp; (try with_reducible rfl))
  try simp only [Act.put, List.setIfInBounds_toArray, List.set_cons_zero, List.set_cons_succ]
  refine wpAnyH_take (i := 9) (v := ?_) (by simp only [List.getElem?_toArray, List.getElem?_cons_succ, List.getElem?_cons_zero]; rfl) (by kernel_rfl) (by kernel_rfl) (by kernel_rfl) (fun _ _ _ h => h) (Or.inl ⟨by rfl, ?_⟩) (by assumption) ?_
  rotate_left 1
  · (intro w hSw; (try dsimp only at hSw); go_simp; (try with_reducible rfl))
  try simp only [Act.put, List.setIfInBounds_toArray, List.set_cons_zero, List.set_cons_succ]
  refine wpAnyH_take (i := 10) (v := ?_) (by simp only [List.getElem?_toArray, List.getElem?_cons_succ, List.getElem?_cons_zero]; rfl) (by kernel_rfl) (by kernel_rfl) (by kernel_rfl) (fun _ _ _ h => h) (Or.inl ⟨by rfl, ?_⟩) (by assumption) ?_
  rotate_left 1
  · (intro w hSw; (try dsimp only at hSw); go_simp; (try with_reducible rfl))
  try simp only [Act.put, List.setIfInBounds_toArray, List.set_cons_zero, List.set_cons_succ]
  refine wpAnyH_take (i := 11) (v := ?_) (by simp only [List.getElem?_toArray, List.getElem?_cons_succ, List.getElem?_cons_zero]; rfl) (by kernel_rfl) (by kernel_rfl) (by kernel_rfl) (fun _ _ _ h => h) (Or.inl ⟨by rfl, ?_⟩) (by assumption) ?_
  rotate_left 1
  · (intro w hSw; (try dsimp only at hSw); go_simp; (try with_reducible rfl))
  try simp only [Act.put, List.setIfInBounds_toArray, List.set_cons_zero, List.set_cons_succ]
  refine wpAnyH_take (i := 12) (v := ?_) (by simp only [List.getElem?_toArray, List.getElem?_cons_succ, List.getElem?_cons_zero]; rfl) (by kernel_rfl) (by kernel_rfl) (by kernel_rfl) (fun _ _ _ h => h) (Or.inl ⟨by rfl, ?_⟩) (by assumption) ?_
  rotate_left 1
  · (intro w hSw; (try dsimp only at hSw); go_simp; (try with_reducible rfl))
  try simp only [Act.put, List.setIfInBounds_toArray, List.set_cons_zero, List.set_cons_succ]
  refine wpAnyH_take (i := 13) (v := ?_) (by simp only [List.getElem?_toArray, List.getElem?_cons_succ, List.getElem?_cons_zero]; rfl) (by kernel_rfl) (by kernel_rfl) (by kernel_rfl) (fun _ _ _ h => h) (Or.inl ⟨by rfl, ?_⟩) (by assumption) ?_
  rotate_left 1
  · (intro w hSw; (try dsimp only at hSw); go_simp; (try with_reducible rfl))
  try simp only [Act.put, List.setIfInBounds_toArray, List.set_cons_zero, List.set_cons_succ]
  refine wpAnyH_take (i := 14) (v := ?_) (by simp only [List.getElem?_toArray, List.getElem?_cons_succ, List.getElem?_cons_zero]; rfl) (by kernel_rfl) (by kernel_rfl) (by kernel_rfl) (fun _ _ _ h => h) (Or.inl ⟨by rfl, ?_⟩) (by assumption) ?_
  rotate_left 1
  · (intro w hSw; (try dsimp only at hSw); go_simp; (try with_reducible rfl))
  try simp only [Act.put, List.setIfInBounds_toArray, List.set_cons_zero, List.set_cons_succ]
  refine wpAnyH_take (i := 15) (v := ?_) (by simp only [List.getElem?_toArray, List.getElem?_cons_succ, List.getElem?_cons_zero]; rfl) (by kernel_rfl) (by kernel_rfl) (by kernel_rfl) (fun _ _ _ h => h) (Or.inl ⟨by rfl, ?_⟩) (by assumption) ?_
  rotate_left 1
  · (intro w hSw; (try dsimp only at hSw); go_simp; (try with_reducible rfl))
  try simp only [Act.put, List.setIfInBounds_toArray, List.set_cons_zero, List.set_cons_succ]
  refine wpAnyH_take (i := 16) (v := ?_) (by simp only [List.getElem?_toArray, List.getElem?_cons_succ, List.getElem?_cons_zero]; rfl) (by kernel_rfl) (by kernel_rfl) (by kernel_rfl) (fun _ _ _ h => h) (Or.inl ⟨by rfl, ?_⟩) (by assumption) ?_
  rotate_left 1
  · (intro w hSw; (try dsimp only at hSw); go_simp; (try with_reducible rfl))
  try simp only [Act.put, List.setIfInBounds_toArray, List.set_cons_zero, List.set_cons_succ]
  refine wpAnyH_done (by kernel_rfl) ?_ _
  intro K hK
  go_simp
  refine hK _ _ (NoPanic.normal ?_)
  clear hK K
  have mk := hmk.out
  clear hHeld u0 u1 hz e3 e4 hmin z4 kq kq0 kq1 e5 e6
  refine KK.out _ _ ?_
  clear KK
  go_upto_region 19 with fail
  generalize hw2 : World.drew _ = w2
  obtain ⟨g, hg⟩ : ∃ g, g = w.heap.size := ⟨_, rfl⟩
  obtain ⟨g9, hg9⟩ : ∃ g9, g9 = w.heap.size + 1 := ⟨_, rfl⟩
  have BI := hide (show Blk w2 g 3 (I64 (List.replicate T 0)).toArray by
    subst hw2 hg
    have e : (I64 (List.replicate T 0)).toArray = madeCells #[Value.int .i64 0] T := by rw [made_one]; simp [I64]
    rw [e]
    exact ((Blk.new w 3 _).alloc _).drew)
  have B9 := hide (show Blk w2 g9 72 #[.int .i64 (s : Int), .int .i64 (k : Int), .slice (some ⟨g, 0, none⟩) T T, .int .i64 0, .int .i64 0, .int .i64 0] by subst hw2 hg9 hg; exact (Blk.new2 (by simp only [World.size_alloc])).drew)
  have k2 : Keep w w2 Nul := by subst hw2; exact (((Keep.refl w Nul).alloc _).alloc _).drew
  have hz2 : w2.heap.size = w.heap.size + 2 := by subst hw2; show ((w.alloc _).alloc _).heap.size = _; simp only [World.size_alloc]
  rw [← hg9]
  have K2 := hide k2
  have HV2 := hide (HV.out.keep k2 (fun e => e))
  have HNE := hide (show ¬ (Value.slice A' m c').ownBlock = some gv from HLQ.out.own.ne_ HV.out (by decide))
  have hgw : w.heap.size ≤ g := by omega
  have hg9w : w.heap.size ≤ g9 := by omega
  have hBw := RR.out.Bw
  have hvB := RR.out.vB
  have hmb := HM.out
  have hg9l := B9.out.lt
  have hgv2 := HV2.out.lt
  clear hw2 hg hg9 k2 mk hz2
  have SO := hide (show ∀ w', Blk w' gv 69 (P.vv (.slice A' m c') false) → Blk w' g9 72 #[.int .i64 (s : Int), .int .i64 (k : Int), .slice (some ⟨g, 0, none⟩) T T, .int .i64 0, .int .i64 0, .int .i64 0] → (w'.cell? ⟨gv, 2, none⟩ = some (.slice A' m c') ∧ w'.cell? ⟨g9, 0, none⟩ = some (.int .i64 (s : Int)) ∧ w'.cell? ⟨g9, 1, none⟩ = some (.int .i64 (k : Int)) ∧ w'.cell? ⟨g9, 2, none⟩ = some (.slice (some ⟨g, 0, none⟩) T T) ∧ w'.cell? ⟨g9, 3, none⟩ = some (.int .i64 0) ∧ w'.cell? ⟨g9, 4, none⟩ = some (.int .i64 0) ∧ w'.cell? ⟨g9, 5, none⟩ = some (.int .i64 0)) from fun w' h4 h9 => ⟨h4.cell 2 rfl, h9.cell 0 rfl, h9.cell 1 rfl, h9.cell 2 rfl, h9.cell 3 rfl, h9.cell 4 rfl, h9.cell 5 rfl⟩)
  refine wp_region_noPanic ?_
  refine region_last2' (S := fun w' => w'.cell? ⟨gv, 2, none⟩ = some (.slice A' m c') ∧ w'.cell? ⟨g9, 0, none⟩ = some (.int .i64 (s : Int)) ∧ w'.cell? ⟨g9, 1, none⟩ = some (.int .i64 (k : Int)) ∧ w'.cell? ⟨g9, 2, none⟩ = some (.slice (some ⟨g, 0, none⟩) T T) ∧ w'.cell? ⟨g9, 3, none⟩ = some (.int .i64 0) ∧ w'.cell? ⟨g9, 4, none⟩ = some (.int .i64 0) ∧ w'.cell? ⟨g9, 5, none⟩ = some (.int .i64 0)) (by kernel_rfl) (by kernel_rfl) (by simp only [List.dropLast_cons_cons, List.dropLast_singleton]; rfl) (by simp only [List.getLast?_cons_cons, List.getLast?_singleton]; rfl) (SO.out _ HV2.out.drew B9.out.drew) (fun hHeld => ?_)
  simp only [List.length_cons, List.length_nil, Nat.reduceAdd, Nat.zero_add]
  refine wpAnyH_take (i := 0) (v := ?_) (by simp only [List.getElem?_toArray, List.getElem?_cons_succ, List.getElem?_cons_zero]; rfl) (by kernel_rfl) (by kernel_rfl) (by kernel_rfl) (fun _ _ _ h => h) (Or.inl ⟨by rfl, ?_⟩) (by assumption) ?_
  rotate_left 1
  · (intro w hSw; (try dsimp only at hSw); go_simp; (try with_reducible rfl))
  try simp only [Act.put, List.setIfInBounds_toArray, List.set_cons_zero, List.set_cons_succ]
  refine wpAnyH_take (i := 1) (v := ?_) (by simp only [List.getElem?_toArray, List.getElem?_cons_succ, List.getElem?_cons_zero]; rfl) (by kernel_rfl) (by kernel_rfl) (by kernel_rfl) (fun _ _ _ h => h) (Or.inl ⟨by rfl, ?_⟩) (by assumption) ?_
  rotate_left 1
  · (intro w hSw; (try dsimp only at hSw); go_simp; (try with_reducible rfl))
  try simp only [Act.put, List.setIfInBounds_toArray, List.set_cons_zero, List.set_cons_succ]
  refine wpAnyH_take (i := 2) (v := ?_) (by simp only [List.getElem?_toArray, List.getElem?_cons_succ, List.getElem?_cons_zero]; rfl) (by kernel_rfl) (by kernel_rfl) (by kernel_rfl) (fun _ _ _ h => h) (Or.inl ⟨by rfl, ?_⟩) (by assumption) ?_
  rotate_left 1
  · (intro w hSw; (try dsimp only at hSw); go_simp; (try with_reducible rfl))
  try simp only [Act.put, List.setIfInBounds_toArray, List.set_cons_zero, List.set_cons_succ]
  refine wpAnyH_take (i := 3) (v := ?_) (by simp only [List.getElem?_toArray, List.getElem?_cons_succ, List.getElem?_cons_zero]; rfl) (by kernel_rfl) (by kernel_rfl) (by kernel_rfl) (fun _ _ _ h => h) (Or.inl ⟨by rfl, ?_⟩) (by assumption) ?_
  rotate_left 1
  · (intro w hSw; (try dsimp only at hSw); go_simp; (try with_reducible rfl))
  try simp only [Act.put, List.setIfInBounds_toArray, List.set_cons_zero, List.set_cons_succ]
  refine wpAnyH_take (i := 4) (v := ?_) (by simp only [List.getElem?_toArray, List.getElem?_cons_succ, List.getElem?_cons_zero]; rfl) (by kernel_rfl) (by kernel_rfl) (by kernel_rfl) (fun _ _ _ h => h) (Or.inl ⟨by rfl, ?_⟩) (by assumption) ?_
  rotate_left 1
  · (intro w hSw; (try dsimp only at hSw); go_simp; (try with_reducible rfl))
  try simp only [Act.put, List.setIfInBounds_toArray, List.set_cons_zero, List.set_cons_succ]
  refine wpAnyH_take (i := 5) (v := ?_) (by simp only [List.getElem?_toArray, List.getElem?_cons_succ, List.getElem?_cons_zero]; rfl) (by kernel_rfl) (by kernel_rfl) (by kernel_rfl) (fun _ _ _ h => h) (Or.inl ⟨by rfl, ?_⟩) (by assumption) ?_
  rotate_left 1
  · (intro w hSw; (try dsimp only at hSw); go_simp; (try with_reducible rfl))
  try simp only [Act.put, List.setIfInBounds_toArray, List.set_cons_zero, List.set_cons_succ]
  refine wpAnyH_ready (rs := [6]) (by kernel_rfl) (by simp) ?_
  refine AllReadyH.cons (by simp only [List.getElem?_toArray, List.getElem?_cons_succ, List.getElem?_cons_zero]; rfl) (fun K hK => ?_) AllReadyH.nil
  go_simp
  refine hK.out _ _ (SO.out _ (HV2.out.alloc _).drew (B9.out.alloc _).drew) (fun hHeld => ?_)
  clear hK K
  try simp only [Act.put, List.setIfInBounds_toArray, List.set_cons_zero, List.set_cons_succ]
  refine wpAnyH_ready (rs := [7]) (by kernel_rfl) (by simp) ?_
  refine AllReadyH.cons (by simp only [List.getElem?_toArray, List.getElem?_cons_succ, List.getElem?_cons_zero]; rfl) (fun K hK => ?_) AllReadyH.nil
  refine step_app etSL (by rfl) _ _ (by rfl) (((HLQ.out.keep0 K2.out).own.alloc (.cells #[.int .i64 (s : Int), .int .i64 (k : Int), .slice (some ⟨g, 0, none⟩) T T, .int .i64 0, .int .i64 0, .int .i64 0] 72)).keep0 ((Keep.refl _ Nul).drew)) (by rfl) (src_one (g := w2.heap.size) (w := w2.drew) (cs := #[.int .i64 (s : Int), .int .i64 (k : Int), .slice (some ⟨g, 0, none⟩) T T, .int .i64 0, .int .i64 0, .int .i64 0]) Tryd.underlying67 rfl rfl (by simp [Value.oneCell'])) (by rfl) (by simp only [maxLen]; omega) (by omega) (by have h1 := World.size_alloc w2 (.cells #[.int .i64 (s : Int), .int .i64 (k : Int), .slice (some ⟨g, 0, none⟩) T T, .int .i64 0, .int .i64 0, .int .i64 0] 72); have h2 : (w2.alloc (.cells #[.int .i64 (s : Int), .int .i64 (k : Int), .slice (some ⟨g, 0, none⟩) T T, .int .i64 0, .int .i64 0, .int .i64 0] 72)).drew.heap.size = (w2.alloc (.cells #[.int .i64 (s : Int), .int .i64 (k : Int), .slice (some ⟨g, 0, none⟩) T T, .int .i64 0, .int .i64 0, .int .i64 0] 72)).heap.size := rfl; have h3 := K2.out.size; omega) ?_
  intro v5 w5 o5 k5 b5 z5 _
  have B45 := (HV2.out.alloc (.cells #[.int .i64 (s : Int), .int .i64 (k : Int), .slice (some ⟨g, 0, none⟩) T T, .int .i64 0, .int .i64 0, .int .i64 0] 72)).drew.keep k5 HNE.out
  have B95 := (B9.out.alloc (.cells #[.int .i64 (s : Int), .int .i64 (k : Int), .slice (some ⟨g, 0, none⟩) T T, .int .i64 0, .int .i64 0, .int .i64 0] 72)).drew.keep k5 (fun e => by have := (HLQ.out.own.at_ _ e).2.1; omega)
  have f10 := B45.free 2
  have g10 := B45.cell 2 (v := .slice A' m c') rfl
  have l5 := B45.lt
  obtain ⟨A5, c5, rfl⟩ := o5.rd.shape
  refine hK.out _ _ (SO.out _ B45 B95) (fun hHeld => ?_)
  clear hK K
  try simp only [Act.put, List.setIfInBounds_toArray, List.set_cons_zero, List.set_cons_succ]
  refine wpAnyH_take (i := 8) (v := ?_) (by simp only [List.getElem?_toArray, List.getElem?_cons_succ, List.getElem?_cons_zero]; rfl) (by kernel_rfl) (by kernel_rfl) (by kernel_rfl) (fun _ _ _ h => h) (Or.inl ⟨by rfl, ?_⟩) (by assumption) ?_
  rotate_left 1
  · (intro w hSw; (try dsimp only at hSw); go_simp; (try with_reducible rfl))
  try simp only [Act.put, List.setIfInBounds_toArray, List.set_cons_zero, List.set_cons_succ]
  refine wpAnyH_take (i := 9) (v := ?_) (by simp only [List.getElem?_toArray, List.getElem?_cons_succ, List.getElem?_cons_zero]; rfl) (by kernel_rfl) (by kernel_rfl) (by kernel_rfl) (fun _ _ _ h => h) (Or.inl ⟨by rfl, ?_⟩) (by assumption) ?_
  rotate_left 1
  · (intro w hSw; (try dsimp only at hSw); go_simp; (try with_reducible rfl))
  try simp only [Act.put, List.setIfInBounds_toArray, List.set_cons_zero, List.set_cons_succ]
  refine wpAnyH_done (by kernel_rfl) ?_ _
  intro K hK
  go_simp
  refine hK _ _ (NoPanic.normal ?_)
  clear hK K
  have hza := World.size_alloc w2 (.cells #[.int .i64 (s : Int), .int .i64 (k : Int), .slice (some ⟨g, 0, none⟩) T T, .int .i64 0, .int .i64 0, .int .i64 0] 72)
  have hzd : (w2.alloc (.cells #[.int .i64 (s : Int), .int .i64 (k : Int), .slice (some ⟨g, 0, none⟩) T T, .int .i64 0, .int .i64 0, .int .i64 0] 72)).drew.heap.size = (w2.alloc (.cells #[.int .i64 (s : Int), .int .i64 (k : Int), .slice (some ⟨g, 0, none⟩) T T, .int .i64 0, .int .i64 0, .int .i64 0] 72)).heap.size := rfl
  have hl0 : P.l0 m (slI T g) = [.int .i64 (s : Int), .int .i64 (k : Int), .slice (some ⟨g, 0, none⟩) T T, .int .i64 0, .int .i64 0, .int .i64 0] := by unfold Pv.l0 slI; rw [← HS.out, ← HK.out]
  have hLQ := HLQ.out.more (g := g) (wa := (w2.alloc (.cells #[.int .i64 (s : Int), .int .i64 (k : Int), .slice (some ⟨g, 0, none⟩) T T, .int .i64 0, .int .i64 0, .int .i64 0] 72)).drew) ((K2.out.alloc _).drew) k5 (by rw [hl0]; exact o5) hgw ((BI.out.alloc _).drew) hBw
  have kst : Keep w5 (w5.setCell ⟨gv, 2, none⟩ (.slice A5 (m + 1) c5)) (· = gv) := Keep.set1 _ _ _ _
  have HLQ5 := hide (hLQ.keep kst (fun q _ e => by have : q = gv := e; omega))
  have HB5 := hide (B45.set_ 2 (.slice A5 (m + 1) c5))
  have HK5 := hide ((((K2.out.alloc (.cells #[.int .i64 (s : Int), .int .i64 (k : Int), .slice (some ⟨g, 0, none⟩) T T, .int .i64 0, .int .i64 0, .int .i64 0] 72)).drew).nul (fun x => x = gv ∨ B ≤ x)).trans k5 (fun q _ e => .inr (HLQ.out.own.at_ q e).1) |>.trans kst (fun _ _ e => .inl e))
  exact HQ.out _ _ _ _ _ _ _ _ _ _ _ _ _ _ _ _ _ _ _ _ _ _ _ _ _ _ _ _ _ _ _ _ _ _ _ _ _ A5 c5 g HB5.out HLQ5.out HK5.out
end Go.Proofs.YtdlnmkpojiofoaaDoor
