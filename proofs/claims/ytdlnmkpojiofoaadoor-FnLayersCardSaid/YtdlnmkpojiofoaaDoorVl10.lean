/-
  VLA.MarshalTo: the numbers of rates. Conditions: those that stand in each theorem.
-/
import Derived.Test.YtdlnmkpojiofoaaDoorVl9
namespace Go.Proofs.YtdlnmkpojiofoaaDoor
open Go.RowKit
set_option linter.unusedVariables false
set_option linter.unusedSimpArgs false
set_option maxRecDepth 100000

theorem orW {T r u v : Nat} (hT : T < 4) (hr : r < 4) (hu : u = 3 - r) (hv : v = 2 * u) : bits .or .u8 ((T : Int) * (wgt r : Nat)) (IntKind.u8.wrap ((T : Int) * 2 ^ v)) = (T : Int) * (wgt (r + 1) : Nat) := by
  have h := orT hT hr
  have e : IntKind.u8.wrap ((T : Int) * 2 ^ v) = ((T * 4 ^ (3 - r) : Nat) : Int) := by
    subst hu hv
    match r, hr, T, hT with
    | 0, _, 0, _ => decide
    | 0, _, 1, _ => decide
    | 0, _, 2, _ => decide
    | 0, _, 3, _ => decide
    | 1, _, 0, _ => decide
    | 1, _, 1, _ => decide
    | 1, _, 2, _ => decide
    | 1, _, 3, _ => decide
    | 2, _, 0, _ => decide
    | 2, _, 1, _ => decide
    | 2, _, 2, _ => decide
    | 2, _, 3, _ => decide
    | 3, _, 0, _ => decide
    | 3, _, 1, _ => decide
    | 3, _, 2, _ => decide
    | 3, _, 3, _ => decide
  rw [e]
  simpa using h

set_option maxHeartbeats 3200000 in
theorem mt_p31 {p : Nat → Prop} {P : Pv} {b o c g2 g6 gb m n bn bc q r : Nat} {T : TypeId} {ds : List Value} {Q : Exit → Act → World → Prop} (w : World) (u0 u3 u4 u5 u7 u9 u11 u12 u14 u15 u16 u17 u18 u19 u20 u21 u22 u23 u24 u25 u26 u27 u28 u29 u30 u31 u32 u33 u34 u35 u36 u37 u38 u39 u40 u41 u42 u43 u44 u45 u46 u47 u48 u49 u50 u51 u52 u53 u54 u55 u56 u57 u58 u59 u60 u61 u62 u63 u64 u65 u66 u67 u68 u69 u70 u71 u72 u73 u74 u75 u76 u77 u78 u79 u80 u81 u82 u83 u84 u85 u86 u87 u88 u89 u90 u91 u92 u93 u94 u95 u96 u97 u98 u99 u100 u101 u102 u103 u104 u105 u106 u107 u108 u109 u110 u111 u112 u113 u114 u115 u116 u117 u118 u119 u120 u121 u122 u123 u124 u125 u126 u127 u128 u129 u130 u131 u132 u133 u134 u135 u136 u137 u138 u139 u140 u141 u142 u143 u144 u145 u146 u147 u148 u149 u150 u151 u152 u153 u154 u155 u156 u157 u158 u159 u160 u161 u162 u163 u164 u165 u166 u167 u168 u169 u170 u171 u172 u173 u174 u175 u176 u177 u178 u179 u180 u181 u182 u183 u184 u185 u186 u187 u188 u189 u190 u191 u192 u193 u194 u195 u196 u197 u198 u199 u200 u201 u202 u203 u204 u205 u206 u207 u208 u209 u210 u211 u212 u213 u214 u215 u216 u217 u218 : Value)
    (M : MS p P b o c ds T g2 g6 gb w) (hb : Buf w gb (P.b0 :: tbL (P.rs.length - 1) n P.tl) (Z8 m)) (hn : n < P.L) (hbn : bn = 1 + P.tl + m) (hq : q = n / 4) (hr : r = n % 4) {z8 z10 : Int} (h8 : z8 = 1 + (q : Int)) (h10 : z10 = (r : Int))
    (hQ : ∀ (w' : World) (v118 v119 v120 v121 v122 v123 v124 v125 v126 v127 v128 v129 v130 v131 v132 v133 v134 v135 v136 : Value), Buf w' gb (P.b0 :: tbL (P.rs.length - 1) (n + 1) P.tl) (Z8 m) → Keep w w' (· = gb) → (yOf (fromR Tryd.f65 31)).wp Tryd.prog Q ⟨List.toArray (u0 :: .slice (some ⟨gb, 0, none⟩) bn bc :: .pointer (some ⟨g2, 0, none⟩) :: u3 :: u4 :: u5 :: .pointer (some ⟨g6, 0, none⟩) :: u7 :: .int .i64 z8 :: u9 :: .int .i64 z10 :: u11 :: u12 :: .int .i64 (n : Int) :: u14 :: u15 :: u16 :: u17 :: u18 :: u19 :: u20 :: u21 :: u22 :: u23 :: u24 :: u25 :: u26 :: u27 :: u28 :: u29 :: u30 :: u31 :: u32 :: u33 :: u34 :: u35 :: u36 :: u37 :: u38 :: u39 :: u40 :: u41 :: u42 :: u43 :: u44 :: u45 :: u46 :: u47 :: u48 :: u49 :: u50 :: u51 :: u52 :: u53 :: u54 :: u55 :: u56 :: u57 :: u58 :: u59 :: u60 :: u61 :: u62 :: u63 :: u64 :: u65 :: u66 :: u67 :: u68 :: u69 :: u70 :: u71 :: u72 :: u73 :: u74 :: u75 :: u76 :: u77 :: u78 :: u79 :: u80 :: u81 :: u82 :: u83 :: u84 :: u85 :: u86 :: u87 :: u88 :: u89 :: u90 :: u91 :: u92 :: u93 :: u94 :: u95 :: u96 :: u97 :: u98 :: u99 :: u100 :: u101 :: u102 :: u103 :: u104 :: u105 :: u106 :: u107 :: u108 :: u109 :: u110 :: u111 :: u112 :: u113 :: u114 :: u115 :: u116 :: u117 :: v118 :: v119 :: v120 :: v121 :: v122 :: v123 :: v124 :: v125 :: v126 :: v127 :: v128 :: v129 :: v130 :: v131 :: v132 :: v133 :: v134 :: v135 :: v136 :: u137 :: u138 :: u139 :: u140 :: u141 :: u142 :: u143 :: u144 :: u145 :: u146 :: u147 :: u148 :: u149 :: u150 :: u151 :: u152 :: u153 :: u154 :: u155 :: u156 :: u157 :: u158 :: u159 :: u160 :: u161 :: u162 :: u163 :: u164 :: u165 :: u166 :: u167 :: u168 :: u169 :: u170 :: u171 :: u172 :: u173 :: u174 :: u175 :: u176 :: u177 :: u178 :: u179 :: u180 :: u181 :: u182 :: u183 :: u184 :: u185 :: u186 :: u187 :: u188 :: u189 :: u190 :: u191 :: u192 :: u193 :: u194 :: u195 :: u196 :: u197 :: u198 :: u199 :: u200 :: u201 :: u202 :: u203 :: u204 :: u205 :: u206 :: u207 :: u208 :: u209 :: u210 :: u211 :: u212 :: u213 :: u214 :: u215 :: u216 :: u217 :: u218 :: []), []⟩ w') :
    Part Tryd.prog Tryd.f65 31 Q ⟨List.toArray (u0 :: .slice (some ⟨gb, 0, none⟩) bn bc :: .pointer (some ⟨g2, 0, none⟩) :: u3 :: u4 :: u5 :: .pointer (some ⟨g6, 0, none⟩) :: u7 :: .int .i64 z8 :: u9 :: .int .i64 z10 :: u11 :: u12 :: .int .i64 (n : Int) :: u14 :: u15 :: u16 :: u17 :: u18 :: u19 :: u20 :: u21 :: u22 :: u23 :: u24 :: u25 :: u26 :: u27 :: u28 :: u29 :: u30 :: u31 :: u32 :: u33 :: u34 :: u35 :: u36 :: u37 :: u38 :: u39 :: u40 :: u41 :: u42 :: u43 :: u44 :: u45 :: u46 :: u47 :: u48 :: u49 :: u50 :: u51 :: u52 :: u53 :: u54 :: u55 :: u56 :: u57 :: u58 :: u59 :: u60 :: u61 :: u62 :: u63 :: u64 :: u65 :: u66 :: u67 :: u68 :: u69 :: u70 :: u71 :: u72 :: u73 :: u74 :: u75 :: u76 :: u77 :: u78 :: u79 :: u80 :: u81 :: u82 :: u83 :: u84 :: u85 :: u86 :: u87 :: u88 :: u89 :: u90 :: u91 :: u92 :: u93 :: u94 :: u95 :: u96 :: u97 :: u98 :: u99 :: u100 :: u101 :: u102 :: u103 :: u104 :: u105 :: u106 :: u107 :: u108 :: u109 :: u110 :: u111 :: u112 :: u113 :: u114 :: u115 :: u116 :: u117 :: u118 :: u119 :: u120 :: u121 :: u122 :: u123 :: u124 :: u125 :: u126 :: u127 :: u128 :: u129 :: u130 :: u131 :: u132 :: u133 :: u134 :: u135 :: u136 :: u137 :: u138 :: u139 :: u140 :: u141 :: u142 :: u143 :: u144 :: u145 :: u146 :: u147 :: u148 :: u149 :: u150 :: u151 :: u152 :: u153 :: u154 :: u155 :: u156 :: u157 :: u158 :: u159 :: u160 :: u161 :: u162 :: u163 :: u164 :: u165 :: u166 :: u167 :: u168 :: u169 :: u170 :: u171 :: u172 :: u173 :: u174 :: u175 :: u176 :: u177 :: u178 :: u179 :: u180 :: u181 :: u182 :: u183 :: u184 :: u185 :: u186 :: u187 :: u188 :: u189 :: u190 :: u191 :: u192 :: u193 :: u194 :: u195 :: u196 :: u197 :: u198 :: u199 :: u200 :: u201 :: u202 :: u203 :: u204 :: u205 :: u206 :: u207 :: u208 :: u209 :: u210 :: u211 :: u212 :: u213 :: u214 :: u215 :: u216 :: u217 :: u218 :: []), []⟩ w := by
  subst h8 h10
  have MM := hide M
  have HB := hide hb
  have hL16 := M.ok.L16
  have ht1 := M.ok.t1
  have ht4 := M.ok.t4
  have hlc := M.lc
  have htl : P.tl ≤ 4 ∧ n / 4 < P.tl := ⟨M.ok.lenB.1, by unfold Pv.tl; omega⟩
  obtain ⟨t1, t2⟩ := tbL_next (T := P.rs.length - 1) (n := n) (tl := P.tl) (by omega) (by omega) htl.1 htl.2
  have x2 := M.k2.cell 2 (v := .slice (some ⟨b, o, none⟩) P.L c) rfl
  have hds : ds[n]? = some (ds[n]'(by rw [M.lr.dl]; exact hn)) := List.getElem?_eq_getElem _
  have c2 := M.lr.cell n _ hds 2 _ rfl
  obtain ⟨Ad, cd, hd⟩ := (M.lr.rate n _ hds).shape
  rw [hd] at c2
  have hbb := M.lr.blt
  have hl2 := M.k2.lt
  have hbl := hb.lt
  have hfr := fun z => hb.free z
  rw [← hq] at t1 t2 htl
  rw [← hr] at t1 t2
  have hr4 : r < 4 := by omega
  have HQ := hide hQ
  have hcq := hb.at_ (i := 1 + q) (y := (((P.rs.length - 1) * wgt r : Nat) : Int)) (by rw [Nat.add_comm]; exact t2)
  have hnew := hb.seti (i := 1 + q) (by rw [List.length_cons, tbL_len]; omega) (((P.rs.length - 1) * wgt (r + 1) : Nat) : Int)
  rw [Nat.add_comm 1 q, List.set_cons_succ, ← t1, Nat.add_comm q 1] at hnew
  have HNEW := hide hnew
  have kn : (n : Int) < (P.L : Int) := by omega
  have kq : ((1 : Int) + (q : Int)) < (bn : Int) := by omega
  have kq0 : (0 : Int) ≤ (1 : Int) + (q : Int) := by omega
  have kq2 : ((1 : Int) + (q : Int)).toNat = 1 + q := by omega
  obtain ⟨T1, hT1⟩ : ∃ T1, T1 = P.rs.length - 1 := ⟨_, rfl⟩
  have hT4 : T1 < 4 := by omega
  rw [← hT1] at hcq HNEW HQ
  have e1 : IntKind.i64.wrap ((P.rs.length : Int) - 1) = (T1 : Int) := by rw [IntKind.wrap_i64]; omega
  have e2 : IntKind.u8.wrap (T1 : Int) = (T1 : Int) := by rw [IntKind.wrap_u8]; omega
  obtain ⟨u, hu⟩ : ∃ u : Nat, u = 3 - r := ⟨_, rfl⟩
  obtain ⟨v, hv⟩ : ∃ v : Nat, v = 2 * u := ⟨_, rfl⟩
  have e3 : IntKind.i64.wrap (3 - (r : Int)) = (u : Int) := by rw [IntKind.wrap_i64]; omega
  have e4 : IntKind.i64.wrap (2 * (u : Int)) = (v : Int) := by rw [IntKind.wrap_i64]; omega
  have hor := orW hT4 hr4 hu hv
  have hmin : min v 8 = v := by omega
  have HT1 := hide hT1
  have HU := hide hu
  have HV := hide hv
  clear M hb hQ t1 t2 hq hr hnew hds hd hbn hu hv hT1
  refine part_open (fun c0 hc K hK => ?_)
  have HK := hide hK
  clear hK
  generalize hfr2 : yOf c0 = yy at HK
  have hyy : yOf (fromR Tryd.f65 31) = yy := by rw [← hc]; exact hfr2
  conv at hc => rhs; whnf
  subst hc
  clear hfr2
  dsimp only [xOf, yOf]
  refine wp_region_noPanic ?_
  refine region_last2' (S := fun w' => w'.cell? ⟨gb, 1 + q, none⟩ = some (.int .u8 ((T1 * wgt r : Nat) : Int)) ∧ w'.cell? ⟨g2, 2, none⟩ = some (.slice (some ⟨b, o, none⟩) P.L c) ∧ w'.cell? ⟨b, o + n * 6 + 2, none⟩ = some (.slice Ad P.rs.length cd)) (by kernel_rfl) (by kernel_rfl) (by simp only [List.dropLast_cons_cons, List.dropLast_singleton]; rfl) (by simp only [List.getLast?_cons_cons, List.getLast?_singleton]; rfl) (⟨hcq, x2, c2⟩) (fun hHeld => ?_)
  simp only [List.length_cons, List.length_nil, Nat.reduceAdd, Nat.zero_add]
  refine wpAnyH_take (i := 0) (v := ?_) (by simp only [List.getElem?_toArray, List.getElem?_cons_succ, List.getElem?_cons_zero]; rfl) (by kernel_rfl) (by kernel_rfl) (by kernel_rfl) (fun _ _ _ h => h) (Or.inl ⟨by rfl, ?_⟩) (by assumption) ?_
  rotate_left 1
  · (intro w hSw; (try dsimp only at hSw); go_simp; (try with_reducible rfl))
  try simp only [Act.put, List.setIfInBounds_toArray, List.set_cons_zero, List.set_cons_succ]
  refine wpAnyH_take (i := 1) (v := ?_) (by simp only [List.getElem?_toArray, List.getElem?_cons_succ, List.getElem?_cons_zero]; rfl) (by kernel_rfl) (by kernel_rfl) (by kernel_rfl) (fun _ _ _ h => h) (Or.inl ⟨by rfl, ?_⟩) (by assumption) ?_
  rotate_left 1
  · (intro w hSw; (try dsimp only at hSw); go_simp; (try with_reducible rfl))
  try simp only [Act.put, List.setIfInBounds_toArray, List.set_cons_zero, List.set_cons_succ]
  refine wpAnyH_take (i := 2) (v := ?_) (by simp only [List.getElem?_toArray, List.getElem?_cons_succ, List.getElem?_cons_zero]; rfl) (by kernel_rfl) (by kernel_rfl) (by kernel_rfl) (fun _ _ _ h => h) (Or.inl ⟨by rfl, ?_⟩) (by assumption) ?_
  rotate_left 1
  · (intro w hSw; (try dsimp only at hSw); go_simp; (try with_reducible rfl))
  try simp only [Act.put, List.setIfInBounds_toArray, List.set_cons_zero, List.set_cons_succ]
  refine wpAnyH_take (i := 3) (v := ?_) (by simp only [List.getElem?_toArray, List.getElem?_cons_succ, List.getElem?_cons_zero]; rfl) (by kernel_rfl) (by kernel_rfl) (by kernel_rfl) (fun _ _ _ h => h) (Or.inl ⟨by rfl, ?_⟩) (by assumption) ?_
  rotate_left 1
  · (intro w hSw; (try dsimp only at hSw); go_simp; (try with_reducible rfl))
  try simp only [Act.put, List.setIfInBounds_toArray, List.set_cons_zero, List.set_cons_succ]
  refine wpAnyH_take (i := 4) (v := ?_) (by simp only [List.getElem?_toArray, List.getElem?_cons_succ, List.getElem?_cons_zero]; rfl) (by kernel_rfl) (by kernel_rfl) (by kernel_rfl) (fun _ _ _ h => h) (Or.inl ⟨by rfl, ?_⟩) (by assumption) ?_
  rotate_left 1
  · (intro w hSw; (try dsimp only at hSw); go_simp; (try with_reducible rfl))
  try simp only [Act.put, List.setIfInBounds_toArray, List.set_cons_zero, List.set_cons_succ]
  refine wpAnyH_take (i := 5) (v := ?_) (by simp only [List.getElem?_toArray, List.getElem?_cons_succ, List.getElem?_cons_zero]; rfl) (by kernel_rfl) (by kernel_rfl) (by kernel_rfl) (fun _ _ _ h => h) (Or.inl ⟨by rfl, ?_⟩) (by assumption) ?_
  rotate_left 1
  · (intro w hSw; (try dsimp only at hSw); go_simp; (try with_reducible rfl))
  try simp only [Act.put, List.setIfInBounds_toArray, List.set_cons_zero, List.set_cons_succ]
  refine wpAnyH_take (i := 6) (v := ?_) (by simp only [List.getElem?_toArray, List.getElem?_cons_succ, List.getElem?_cons_zero]; rfl) (by kernel_rfl) (by kernel_rfl) (by kernel_rfl) (fun _ _ _ h => h) (Or.inl ⟨by rfl, ?_⟩) (by assumption) ?_
  rotate_left 1
  · (intro w hSw; (try dsimp only at hSw); go_simp; (try with_reducible rfl))
  try simp only [Act.put, List.setIfInBounds_toArray, List.set_cons_zero, List.set_cons_succ]
  refine wpAnyH_take (i := 7) (v := ?_) (by simp only [List.getElem?_toArray, List.getElem?_cons_succ, List.getElem?_cons_zero]; rfl) (by kernel_rfl) (by kernel_rfl) (by kernel_rfl) (fun _ _ _ h => h) (Or.inl ⟨by rfl, ?_⟩) (by assumption) ?_
  rotate_left 1
  · (intro w hSw; (try dsimp only at hSw); go_simp; (try with_reducible rfl))
  try simp only [Act.put, List.setIfInBounds_toArray, List.set_cons_zero, List.set_cons_succ]
  refine wpAnyH_take (i := 8) (v := ?_) (by simp only [List.getElem?_toArray, List.getElem?_cons_succ, List.getElem?_cons_zero]; rfl) (by kernel_rfl) (by kernel_rfl) (by kernel_rfl) (fun _ _ _ h => h) (Or.inl ⟨by rfl, ?_⟩) (by assumption) ?_
  rotate_left 1
  · (intro w hSw; (try dsimp only at hSw); go_simp; (try with_reducible rfl))
  try simp only [Act.put, List.setIfInBounds_toArray, List.set_cons_zero, List.set_cons_succ]
  refine wpAnyH_take (i := 9) (v := ?_) (by simp only [List.getElem?_toArray, List.getElem?_cons_succ, List.getElem?_cons_zero]; rfl) (by kernel_rfl) (by kernel_rfl) (by kernel_rfl) (fun _ _ _ h => h) (Or.inl ⟨by rfl, ?_⟩) (by assumption) ?_
  rotate_left 1
  · (intro w hSw; (try dsimp only at hSw); go_simp; (try with_reducible rfl))
  try simp only [Act.put, List.setIfInBounds_toArray, List.set_cons_zero, List.set_cons_succ]
  refine wpAnyH_take (i := 10) (v := ?_) (by simp only [List.getElem?_toArray, List.getElem?_cons_succ, List.getElem?_cons_zero]; rfl) (by kernel_rfl) (by kernel_rfl) (by kernel_rfl) (fun _ _ _ h => h) (Or.inl ⟨by rfl, ?_⟩) (by assumption) ?_
  rotate_left 1
  · (intro w hSw; (try dsimp only at hSw); go_simp; (try with_reducible rfl))
  try simp only [Act.put, List.setIfInBounds_toArray, List.set_cons_zero, List.set_cons_succ]
  refine wpAnyH_take (i := 11) (v := ?_) (by simp only [List.getElem?_toArray, List.getElem?_cons_succ, List.getElem?_cons_zero]; rfl) (by kernel_rfl) (by kernel_rfl) (by kernel_rfl) (fun _ _ _ h => h) (Or.inl ⟨by rfl, ?_⟩) (by assumption) ?_
  rotate_left 1
  · (intro w hSw; (try dsimp only at hSw); go_simp; (try with_reducible rfl))
  try simp only [Act.put, List.setIfInBounds_toArray, List.set_cons_zero, List.set_cons_succ]
  refine wpAnyH_take (i := 12) (v := ?_) (by simp only [List.getElem?_toArray, List.getElem?_cons_succ, List.getElem?_cons_zero]; rfl) (by kernel_rfl) (by kernel_rfl) (by kernel_rfl) (fun _ _ _ h => h) (Or.inl ⟨by rfl, ?_⟩) (by assumption) ?_
  rotate_left 1
  · (intro w hSw; (try dsimp only at hSw); go_simp; (try with_reducible rfl))
  try simp only [Act.put, List.setIfInBounds_toArray, List.set_cons_zero, List.set_cons_succ]
  refine wpAnyH_take (i := 13) (v := ?_) (by simp only [List.getElem?_toArray, List.getElem?_cons_succ, List.getElem?_cons_zero]; rfl) (by kernel_rfl) (by kernel_rfl) (by kernel_rfl) (fun _ _ _ h => h) (Or.inl ⟨by rfl, ?_⟩) (by assumption) ?_
  rotate_left 1
  · (intro w hSw; (try dsimp only at hSw); go_simp; (try with_reducible rfl))
  try simp only [Act.put, List.setIfInBounds_toArray, List.set_cons_zero, List.set_cons_succ]
  refine wpAnyH_take (i := 14) (v := ?_) (by simp only [List.getElem?_toArray, List.getElem?_cons_succ, List.getElem?_cons_zero]; rfl) (by kernel_rfl) (by kernel_rfl) (by kernel_rfl) (fun _ _ _ h => h) (Or.inl ⟨by rfl, ?_⟩) (by assumption) ?_
  rotate_left 1
  · (intro w hSw; (try dsimp only at hSw); go_simp; (try with_reducible rfl))
  try simp only [Act.put, List.setIfInBounds_toArray, List.set_cons_zero, List.set_cons_succ]
  refine wpAnyH_take (i := 15) (v := ?_) (by simp only [List.getElem?_toArray, List.getElem?_cons_succ, List.getElem?_cons_zero]; rfl) (by kernel_rfl) (by kernel_rfl) (by kernel_rfl) (fun _ _ _ h => h) (Or.inl ⟨by rfl, ?_⟩) (by assumption) ?_
  rotate_left 1
  · (intro w hSw; (try dsimp only at hSw); go_simp; (try with_reducible rfl))
  try simp only [Act.put, List.setIfInBounds_toArray, List.set_cons_zero, List.set_cons_succ]
  refine wpAnyH_take (i := 16) (v := ?_) (by simp only [List.getElem?_toArray, List.getElem?_cons_succ, List.getElem?_cons_zero]; rfl) (by kernel_rfl) (by kernel_rfl) (by kernel_rfl) (fun _ _ _ h => h) (Or.inl ⟨by rfl, ?_⟩) (by assumption) ?_
  rotate_left 1
  · (intro w hSw; (try dsimp only at hSw); go_simp; (try with_reducible rfl))
  try simp only [Act.put, List.setIfInBounds_toArray, List.set_cons_zero, List.set_cons_succ]
  refine wpAnyH_take (i := 17) (v := ?_) (by simp only [List.getElem?_toArray, List.getElem?_cons_succ, List.getElem?_cons_zero]; rfl) (by kernel_rfl) (by kernel_rfl) (by kernel_rfl) (fun _ _ _ h => h) (Or.inl ⟨by rfl, ?_⟩) (by assumption) ?_
  rotate_left 1
  · (intro w hSw; (try dsimp only at hSw); go_simp; (try with_reducible rfl))
  try simp only [Act.put, List.setIfInBounds_toArray, List.set_cons_zero, List.set_cons_succ]
  refine wpAnyH_take (i := 18) (v := ?_) (by simp only [List.getElem?_toArray, List.getElem?_cons_succ, List.getElem?_cons_zero]; rfl) (by kernel_rfl) (by kernel_rfl) (by kernel_rfl) (fun _ _ _ h => h) (Or.inl ⟨by rfl, ?_⟩) (by assumption) ?_
  rotate_left 1
  · (intro w hSw; (try dsimp only at hSw); go_simp; (try with_reducible rfl))
  try simp only [Act.put, List.setIfInBounds_toArray, List.set_cons_zero, List.set_cons_succ]
  refine wpAnyH_done (by kernel_rfl) ?_ _
  intro K hK
  go_simp
  refine hK _ _ (NoPanic.normal ?_)
  clear hK K
  generalize hw5 : World.drew _ = w5
  have hb5 : Buf w5 gb (P.b0 :: tbL T1 (n + 1) P.tl) (Z8 m) := by subst hw5; have h := HNEW.out; rw [Int.natCast_mul] at h; exact h.drew
  have hk5 : Keep w w5 (· = gb) := by subst hw5; exact ((Keep.refl w (· = gb)).setg _ (fun _ => rfl) _).drew
  refine HK.out _ _ ?_
  rw [← hyy]
  exact HQ.out w5 _ _ _ _ _ _ _ _ _ _ _ _ _ _ _ _ _ _ _ hb5 hk5
end Go.Proofs.YtdlnmkpojiofoaaDoor
