/-
  VLA.MarshalTo: the sizes. Conditions: those that stand in each theorem.
-/
import Derived.Test.YtdlnmkpojiofoaaDoorVl12
namespace Go.Proofs.YtdlnmkpojiofoaaDoor
open Go.RowKit
set_option linter.unusedVariables false
set_option linter.unusedSimpArgs false
set_option maxRecDepth 100000

theorem bufPutZ {w : World} {g : Nat} {done : List Int} {m k : Nat} (h : Buf w g done (Z8 m)) (hm : 2 ≤ m) (hk : k = done.length) (v : Int) : Buf (put16 w g k v) g (done ++ [v / 256, v % 256]) (Z8 (m - 2)) := by
  subst hk
  rw [Z8_succ (by omega), Z8_succ (by omega)] at h
  exact h.put16 v

set_option maxHeartbeats 3200000 in
theorem mt_p50 {p : Nat → Prop} {P : Pv} {b o c g2 g6 gb m0 bn : Nat} {T : TypeId} {ds : List Value} {D0 : List Int} {Q : Exit → Act → World → Prop} (w : World) (u0 u3 u4 u5 u7 u9 u10 u11 u12 u13 u14 u15 u16 u17 u18 u19 u20 u21 u22 u23 u24 u25 u26 u27 u28 u29 u30 u31 u32 u33 u34 u35 u36 u37 u38 u39 u40 u41 u42 u43 u44 u45 u46 u47 u48 u49 u50 u51 u52 u53 u54 u55 u56 u57 u58 u59 u60 u61 u62 u63 u64 u65 u66 u67 u68 u69 u70 u71 u72 u73 u74 u75 u76 u77 u78 u79 u80 u81 u82 u83 u84 u85 u86 u87 u88 u89 u90 u91 u92 u93 u94 u95 u96 u97 u98 u99 u100 u101 u102 u103 u104 u105 u106 u107 u108 u109 u110 u111 u112 u113 u114 u115 u116 u117 u118 u119 u120 u121 u122 u123 u124 u125 u126 u127 u128 u129 u130 u131 u132 u133 u134 u135 u136 u137 u138 u139 u140 u141 u142 u143 u144 u145 u146 u147 u148 u149 u150 u151 u152 u153 u154 u155 u156 u157 u158 u159 u160 u161 u162 u163 u164 u165 u166 u167 u168 u169 u170 u171 u172 u173 u174 u175 u176 u177 u178 u179 u180 u181 u182 u183 u184 u185 u186 u187 u188 u189 u190 u191 u192 u193 u194 u195 u196 u197 u198 u199 u200 u201 u202 u203 u204 u205 u206 u207 u208 u209 u210 u211 u212 u213 u214 u215 u216 u217 u218 : Value)
    (M : MS p P b o c ds T g2 g6 gb w) (hsz : P.sized = true) (hb : Buf w gb D0 (Z8 m0)) (hbn : bn = D0.length + m0) (hm : m0 = P.L * 5) (hb4 : bn ≤ 1000) {z8 : Int} (h8 : z8 = (D0.length : Int))
    (hQ : ∀ (w' : World) (u0 u3 u4 u5 u7 u9 u10 u11 u12 u13 u14 u15 u16 u17 u18 u19 u20 u21 u22 u23 u24 u25 u26 u27 u28 u29 u30 u31 u32 u33 u34 u35 u36 u37 u38 u39 u40 u41 u42 u43 u44 u45 u46 u47 u48 u49 u50 u51 u52 u53 u54 u55 u56 u57 u58 u59 u60 u61 u62 u63 u64 u65 u66 u67 u68 u69 u70 u71 u72 u73 u74 u75 u76 u77 u78 u79 u80 u81 u82 u83 u84 u85 u86 u87 u88 u89 u90 u91 u92 u93 u94 u95 u96 u97 u98 u99 u100 u101 u102 u103 u104 u105 u106 u107 u108 u109 u110 u111 u112 u113 u114 u115 u116 u117 u118 u119 u120 u121 u122 u123 u124 u125 u126 u127 u128 u129 u130 u131 u132 u133 u134 u135 u136 u137 u138 u139 u140 u141 u142 u143 u144 u145 u146 u147 u148 u149 u150 u151 u152 u153 u154 u155 u156 u157 u158 u159 u160 u161 u162 u163 u164 u165 u166 u167 u168 u169 u170 u171 u172 u173 u174 u175 u176 u177 u178 u179 u180 u181 u182 u183 u184 u185 u186 u187 u188 u189 u190 u191 u192 u193 u194 u195 u196 u197 u198 u199 u200 u201 u202 u203 u204 u205 u206 u207 u208 u209 u210 u211 u212 u213 u214 u215 u216 u217 u218 : Value), Buf w' gb (D0 ++ P.szs P.L) (Z8 0) → Keep w w' (· = gb) → Q .normal ⟨List.toArray (u0 :: .slice (some ⟨gb, 0, none⟩) bn bn :: .pointer (some ⟨g2, 0, none⟩) :: u3 :: u4 :: u5 :: .pointer (some ⟨g6, 0, none⟩) :: u7 :: .int .i64 ((D0.length + P.L * 5 : Nat) : Int) :: u9 :: u10 :: u11 :: u12 :: u13 :: u14 :: u15 :: u16 :: u17 :: u18 :: u19 :: u20 :: u21 :: u22 :: u23 :: u24 :: u25 :: u26 :: u27 :: u28 :: u29 :: u30 :: u31 :: u32 :: u33 :: u34 :: u35 :: u36 :: u37 :: u38 :: u39 :: u40 :: u41 :: u42 :: u43 :: u44 :: u45 :: u46 :: u47 :: u48 :: u49 :: u50 :: u51 :: u52 :: u53 :: u54 :: u55 :: u56 :: u57 :: u58 :: u59 :: u60 :: u61 :: u62 :: u63 :: u64 :: u65 :: u66 :: u67 :: u68 :: u69 :: u70 :: u71 :: u72 :: u73 :: u74 :: u75 :: u76 :: u77 :: u78 :: u79 :: u80 :: u81 :: u82 :: u83 :: u84 :: u85 :: u86 :: u87 :: u88 :: u89 :: u90 :: u91 :: u92 :: u93 :: u94 :: u95 :: u96 :: u97 :: u98 :: u99 :: u100 :: u101 :: u102 :: u103 :: u104 :: u105 :: u106 :: u107 :: u108 :: u109 :: u110 :: u111 :: u112 :: u113 :: u114 :: u115 :: u116 :: u117 :: u118 :: u119 :: u120 :: u121 :: u122 :: u123 :: u124 :: u125 :: u126 :: u127 :: u128 :: u129 :: u130 :: u131 :: u132 :: u133 :: u134 :: u135 :: u136 :: u137 :: u138 :: u139 :: u140 :: u141 :: u142 :: u143 :: u144 :: u145 :: u146 :: u147 :: u148 :: u149 :: u150 :: u151 :: u152 :: u153 :: u154 :: u155 :: u156 :: u157 :: u158 :: u159 :: u160 :: u161 :: u162 :: u163 :: u164 :: u165 :: u166 :: u167 :: u168 :: u169 :: u170 :: u171 :: u172 :: u173 :: u174 :: u175 :: u176 :: u177 :: u178 :: u179 :: u180 :: u181 :: u182 :: u183 :: u184 :: u185 :: u186 :: u187 :: u188 :: u189 :: u190 :: u191 :: u192 :: u193 :: u194 :: u195 :: u196 :: u197 :: u198 :: u199 :: u200 :: u201 :: u202 :: u203 :: u204 :: u205 :: u206 :: u207 :: u208 :: u209 :: u210 :: u211 :: u212 :: u213 :: u214 :: u215 :: u216 :: u217 :: u218 :: []), []⟩ w') :
    Part Tryd.prog Tryd.f65 50 Q ⟨List.toArray (u0 :: .slice (some ⟨gb, 0, none⟩) bn bn :: .pointer (some ⟨g2, 0, none⟩) :: u3 :: u4 :: u5 :: .pointer (some ⟨g6, 0, none⟩) :: u7 :: .int .i64 z8 :: u9 :: u10 :: u11 :: u12 :: u13 :: u14 :: u15 :: u16 :: u17 :: u18 :: u19 :: u20 :: u21 :: u22 :: u23 :: u24 :: u25 :: u26 :: u27 :: u28 :: u29 :: u30 :: u31 :: u32 :: u33 :: u34 :: u35 :: u36 :: u37 :: u38 :: u39 :: u40 :: u41 :: u42 :: u43 :: u44 :: u45 :: u46 :: u47 :: u48 :: u49 :: u50 :: u51 :: u52 :: u53 :: u54 :: u55 :: u56 :: u57 :: u58 :: u59 :: u60 :: u61 :: u62 :: u63 :: u64 :: u65 :: u66 :: u67 :: u68 :: u69 :: u70 :: u71 :: u72 :: u73 :: u74 :: u75 :: u76 :: u77 :: u78 :: u79 :: u80 :: u81 :: u82 :: u83 :: u84 :: u85 :: u86 :: u87 :: u88 :: u89 :: u90 :: u91 :: u92 :: u93 :: u94 :: u95 :: u96 :: u97 :: u98 :: u99 :: u100 :: u101 :: u102 :: u103 :: u104 :: u105 :: u106 :: u107 :: u108 :: u109 :: u110 :: u111 :: u112 :: u113 :: u114 :: u115 :: u116 :: u117 :: u118 :: u119 :: u120 :: u121 :: u122 :: u123 :: u124 :: u125 :: u126 :: u127 :: u128 :: u129 :: u130 :: u131 :: u132 :: u133 :: u134 :: u135 :: u136 :: u137 :: u138 :: u139 :: u140 :: u141 :: u142 :: u143 :: u144 :: u145 :: u146 :: u147 :: u148 :: u149 :: u150 :: u151 :: u152 :: u153 :: u154 :: u155 :: u156 :: u157 :: u158 :: u159 :: u160 :: u161 :: u162 :: u163 :: u164 :: u165 :: u166 :: u167 :: u168 :: u169 :: u170 :: u171 :: u172 :: u173 :: u174 :: u175 :: u176 :: u177 :: u178 :: u179 :: u180 :: u181 :: u182 :: u183 :: u184 :: u185 :: u186 :: u187 :: u188 :: u189 :: u190 :: u191 :: u192 :: u193 :: u194 :: u195 :: u196 :: u197 :: u198 :: u199 :: u200 :: u201 :: u202 :: u203 :: u204 :: u205 :: u206 :: u207 :: u208 :: u209 :: u210 :: u211 :: u212 :: u213 :: u214 :: u215 :: u216 :: u217 :: u218 :: []), []⟩ w := by
  subst h8
  have HQ := hide hQ
  have MM := hide M
  have HB := hide hb
  have hL16 := M.ok.L16
  have hlc := M.lc
  have HBN := hide hbn
  have HM := hide hm
  obtain ⟨d0, hd0⟩ : ∃ d0, d0 = D0.length := ⟨_, rfl⟩
  rw [← hd0]
  have HD0 := hide hd0
  have hd0b : d0 ≤ bn := by omega
  have x2 := M.k2.cell 2 (v := .slice (some ⟨b, o, none⟩) P.L c) rfl
  have hl2 := M.k2.lt
  have HSZ := hide hsz
  clear hQ M hb hbn hd0 hm hsz
  refine part_open (fun c0 hc K hK => ?_)
  conv at hc => rhs; whnf
  subst hc
  dsimp only [xOf, yOf] at hK ⊢
  go_wp2_with fail
  go_loopw [8, 185] (fun s8 s185 wr => ∃ l x : Nat, l ≤ P.L ∧ s185 = .int .i64 (l : Int) ∧ s8 = .int .i64 (x : Int) ∧ x = d0 + l * 5 ∧ Buf wr gb (D0 ++ P.szs l) (Z8 (m0 - l * 5)) ∧ Keep w wr (· = gb)) (fun _ s185 _ => P.L - (intOf s185).toNat)
  case atStart => exact ⟨0, d0, by omega, rfl, rfl, by omega, by simpa [Pv.szs] using HB.out, Keep.refl _ _⟩
  case round =>
    obtain ⟨l, x, hl, rfl, rfl, hx, hb, hk⟩ := hrel
    have HB1 := hide hb
    have HK1 := hide hk
    have HX := hide hx
    have MM1 := hide (MM.out.keep hk)
    clear hb hk hx x2
    by_cases hlt : l < P.L
    · have kl : (l : Int) < (P.L : Int) := by omega
      have hds : ds[l]? = some (ds[l]'(by rw [MM.out.lr.dl]; exact hlt)) := List.getElem?_eq_getElem _
      have c0 := MM1.out.lr.cell l _ hds 0 _ rfl
      have c1 := MM1.out.lr.cell l _ hds 1 _ rfl
      have c2 := MM1.out.lr.cell l _ hds 2 _ rfl
      have c3 := MM1.out.lr.cell l _ hds 3 _ rfl
      have c4 := MM1.out.lr.cell l _ hds 4 _ rfl
      have c5 := MM1.out.lr.cell l _ hds 5 _ rfl
      obtain ⟨Ad, cd, hd⟩ := (MM1.out.lr.rate l _ hds).shape
      rw [hd] at c2
      rw [Nat.add_zero] at c0
      have hbb := MM1.out.lr.blt
      have hWb : 1 ≤ P.W l ∧ P.W l ≤ 5000 := by
        have h1 := MM.out.ok.z1; have h2 := MM.out.ok.z2; have h3 := mod_lt MM.out.ok l; have h4 := MM.out.ok.k4
        unfold Pv.W; rw [HSZ.out, if_pos rfl]; generalize l % P.K = z at *; omega
      have hHb : 1 ≤ P.H l ∧ P.H l ≤ 5000 := by
        have h1 := MM.out.ok.z1; have h2 := MM.out.ok.z2; have h3 := div_lt MM.out.ok hlt; have h4 := MM.out.ok.s4
        unfold Pv.H; rw [HSZ.out, if_pos rfl]; generalize l / P.K = z at *; omega
      have hFb : P.F ≤ 255 := by unfold Pv.F; rw [HSZ.out, if_pos rfl]; omega
      have h5 : P.sz5 l = [(((P.W l - 1) / 256 : Nat) : Int), (((P.W l - 1) % 256 : Nat) : Int)] ++ [(((P.H l - 1) / 256 : Nat) : Int), (((P.H l - 1) % 256 : Nat) : Int)] ++ [((P.F : Nat) : Int)] := rfl
      have H5 := hide h5
      generalize P.W l = W at *
      generalize P.H l = H at *
      generalize P.F = F at *
      generalize l / P.K = sI at *
      generalize l % P.K = kI at *
      clear hds hd h5
      go_upto_region 53 with fail
      generalize hw2 : World.alloc wr _ = w2
      obtain ⟨g20, hg20⟩ : ∃ g20, g20 = wr.heap.size := ⟨_, rfl⟩
      rw [← hg20]
      have B20 := hide (show Blk w2 g20 72 #[.int .i64 (sI : Int), .int .i64 (kI : Int), .slice Ad P.rs.length cd, .int .i64 (W : Int), .int .i64 (H : Int), .int .i64 (F : Int)] by subst hw2 hg20; exact Blk.new wr _ _)
      have K2 := hide (show Keep wr w2 Nul by subst hw2; exact (Keep.refl wr Nul).alloc _)
      have HB2 := hide (HB1.out.keep K2.out (fun e => e))
      have hgl := HB1.out.lt
      have hng : g20 ≠ gb := by omega
      have f3 := B20.out.cell 3 (v := .int .i64 (W : Int)) rfl
      have f4 := B20.out.cell 4 (v := .int .i64 (H : Int)) rfl
      have hx := HX.out
      have h1 := HM.out
      have h2 := HBN.out
      have h3 := HD0.out
      have hxl : x = (D0 ++ P.szs l).length := by rw [List.length_append, Pv.szs_len]; omega
      have hxb : x + 5 ≤ bn := by omega
      have hm5 : 5 ≤ m0 - l * 5 := by omega
      have hl20 := B20.out.lt
      have hgb2 := HB2.out.lt
      have kx : (x : Int) ≤ (bn : Int) := by omega
      have kx0 : (0 : Int) ≤ (x : Int) := by omega
      have kx1 : ¬ bn = x := by omega
      have kx2 : x ≤ bn := by omega
      have e0 : IntKind.i64.wrap (x : Int) = (x : Int) := by rw [IntKind.wrap_i64]; omega
      have jx : (x : Int) + 2 ≤ (bn : Int) := by omega
      have jx0 : (0 : Int) ≤ (x : Int) + 2 := by omega
      have jx1 : ¬ bn = x + 2 := by omega
      have jx2 : x + 2 ≤ bn := by omega
      have jx3 : ((x : Int) + 2).toNat = x + 2 := by omega
      have jx4 : IntKind.i64.wrap ((x : Int) + 2) = (x : Int) + 2 := by rw [IntKind.wrap_i64]; omega
      have ix : (x : Int) + 4 < (bn : Int) := by omega
      have ix0 : (0 : Int) ≤ (x : Int) + 4 := by omega
      have ix3 : ((x : Int) + 4).toNat = x + 4 := by omega
      have ix4 : IntKind.i64.wrap ((x : Int) + 4) = (x : Int) + 4 := by rw [IntKind.wrap_i64]; omega
      obtain ⟨v, hv⟩ : ∃ v : Nat, v = W - 1 := ⟨_, rfl⟩
      obtain ⟨u, hu⟩ : ∃ u : Nat, u = H - 1 := ⟨_, rfl⟩
      have hvb : v ≤ 5000 := by omega
      have hub : u ≤ 5000 := by omega
      have e1 : IntKind.i64.wrap ((W : Int) - 1) = (v : Int) := by rw [IntKind.wrap_i64]; omega
      have e2 : IntKind.u16.wrap (v : Int) = (v : Int) := by rw [IntKind.wrap_u16]; omega
      have e3 : IntKind.i64.wrap ((H : Int) - 1) = (u : Int) := by rw [IntKind.wrap_i64]; omega
      have e4 : IntKind.u16.wrap (u : Int) = (u : Int) := by rw [IntKind.wrap_u16]; omega
      have e5 : IntKind.u8.wrap (F : Int) = (F : Int) := by rw [IntKind.wrap_u8]; omega
      have hP1 := hide (bePut16 gb x (bn - x) (bn - x) (v : Int) _ _ w2.drew (by omega) (by omega) (HB2.out.drew.zcell (k := x) (by omega) (by omega)) (HB2.out.drew.zcell (k := x + 1) (by omega) (by omega)) (HB2.out.drew.free _) (HB2.out.drew.free _))
      have hb3 := hide (bufPutZ HB2.out.drew (by omega) hxl (v : Int))
      have k3 := hide (keep_put16 w2.drew gb x (v : Int))
      have HV := hide hv
      have HU := hide hu
      have HXL := hide hxl
      clear hw2 hg20 c0 c1 c2 c3 c4 c5 hx h1 h2 h3 hv hu hxl
      refine wp_region_noPanic ?_
      refine region_last2' (S := fun w' => w'.cell? ⟨g20, 3, none⟩ = some (.int .i64 (W : Int))) (by kernel_rfl) (by kernel_rfl) (by simp only [List.dropLast_cons_cons, List.dropLast_singleton]; rfl) (by simp only [List.getLast?_cons_cons, List.getLast?_singleton]; rfl) (f3) (fun hHeld => ?_)
      simp only [List.length_cons, List.length_nil, Nat.reduceAdd, Nat.zero_add]
      refine wpAnyH_take (i := 0) (v := ?_) (by simp only [List.getElem?_toArray, List.getElem?_cons_succ, List.getElem?_cons_zero]; rfl) (by kernel_rfl) (by kernel_rfl) (by kernel_rfl) (fun _ _ _ h => h) (Or.inl ⟨by rfl, ?_⟩) (by assumption) ?_
      rotate_left 1
      · (intro w hSw; (try dsimp only at hSw); go_simp; (try with_reducible rfl))
      try simp only [Act.put, List.setIfInBounds_toArray, List.set_cons_zero, List.set_cons_succ]
      refine wpAnyH_take (i := 1) (v := ?_) (by simp only [List.getElem?_toArray, List.getElem?_cons_succ, List.getElem?_cons_zero]; rfl) (by kernel_rfl) (by kernel_rfl) (by kernel_rfl) (fun _ _ _ h => h) (Or.inl ⟨by rfl, ?_⟩) (by assumption) ?_
      rotate_left 1
      · (intro w hSw; (try dsimp only at hSw); go_simp; (try with_reducible rfl))
      try simp only [Act.put, List.setIfInBounds_toArray, List.set_cons_zero, List.set_cons_succ]
      refine wpAnyH_take (i := 2) (v := ?_) (by simp only [List.getElem?_toArray, List.getElem?_cons_succ, List.getElem?_cons_zero]; rfl) (by kernel_rfl) (by kernel_rfl) (by kernel_rfl) (fun _ _ _ h => h) (Or.inl ⟨by rfl, ?_⟩) (by assumption) ?_
      rotate_left 1
      · (intro w hSw; (try dsimp only at hSw); go_simp; (try with_reducible rfl))
      try simp only [Act.put, List.setIfInBounds_toArray, List.set_cons_zero, List.set_cons_succ]
      refine wpAnyH_take (i := 3) (v := ?_) (by simp only [List.getElem?_toArray, List.getElem?_cons_succ, List.getElem?_cons_zero]; rfl) (by kernel_rfl) (by kernel_rfl) (by kernel_rfl) (fun _ _ _ h => h) (Or.inl ⟨by rfl, ?_⟩) (by assumption) ?_
      rotate_left 1
      · (intro w hSw; (try dsimp only at hSw); go_simp; (try with_reducible rfl))
      try simp only [Act.put, List.setIfInBounds_toArray, List.set_cons_zero, List.set_cons_succ]
      refine wpAnyH_take (i := 4) (v := ?_) (by simp only [List.getElem?_toArray, List.getElem?_cons_succ, List.getElem?_cons_zero]; rfl) (by kernel_rfl) (by kernel_rfl) (by kernel_rfl) (fun _ _ _ h => h) (Or.inl ⟨by rfl, ?_⟩) (by assumption) ?_
      rotate_left 1
      · (intro w hSw; (try dsimp only at hSw); go_simp; (try with_reducible rfl))
      try simp only [Act.put, List.setIfInBounds_toArray, List.set_cons_zero, List.set_cons_succ]
      refine wpAnyH_take (i := 5) (v := ?_) (by simp only [List.getElem?_toArray, List.getElem?_cons_succ, List.getElem?_cons_zero]; rfl) (by kernel_rfl) (by kernel_rfl) (by kernel_rfl) (fun _ _ _ h => h) (Or.inl ⟨by rfl, ?_⟩) (by assumption) ?_
      rotate_left 1
      · (intro w hSw; (try dsimp only at hSw); go_simp; (try with_reducible rfl))
      try simp only [Act.put, List.setIfInBounds_toArray, List.set_cons_zero, List.set_cons_succ]
      refine wpAnyH_take (i := 6) (v := ?_) (by simp only [List.getElem?_toArray, List.getElem?_cons_succ, List.getElem?_cons_zero]; rfl) (by kernel_rfl) (by kernel_rfl) (by kernel_rfl) (fun _ _ _ h => h) (Or.inl ⟨by rfl, ?_⟩) (by assumption) ?_
      rotate_left 1
      · (intro w hSw; (try dsimp only at hSw); go_simp; (try with_reducible rfl))
      try simp only [Act.put, List.setIfInBounds_toArray, List.set_cons_zero, List.set_cons_succ]
      refine wpAnyH_take (i := 7) (v := ?_) (by simp only [List.getElem?_toArray, List.getElem?_cons_succ, List.getElem?_cons_zero]; rfl) (by kernel_rfl) (by kernel_rfl) (by kernel_rfl) (fun _ _ _ h => h) (Or.inl ⟨by rfl, ?_⟩) (by assumption) ?_
      rotate_left 1
      · (intro w hSw; (try dsimp only at hSw); go_simp; (try with_reducible rfl))
      try simp only [Act.put, List.setIfInBounds_toArray, List.set_cons_zero, List.set_cons_succ]
      refine wpAnyH_done (by kernel_rfl) ?_ _
      intro K hK
      go_simp
      go_at_call 57
      refine (hP1.out).mono ?_
      rintro e w3 ⟨rfl, rfl⟩
      simp only []
      refine hK _ _ (NoPanic.normal ?_)
      clear hK K
      generalize hw3 : put16 _ _ _ _ = w3 at hb3 k3 ⊢
      have K3 := hide ((K2.out.nul (· = gb)).trans (((Keep.refl w2 (· = gb)).drew).trans k3.out (fun _ _ e => e)) (fun _ _ e => e))
      have B203 := hide (B20.out.drew.keep k3.out (fun e => hng e))
      have f4 := B203.out.cell 4 (v := .int .i64 (H : Int)) rfl
      have f5 := B203.out.cell 5 (v := .int .i64 (F : Int)) rfl
      have hl203 := B203.out.lt
      have hgb3 := hb3.out.lt
      have hxl2 : x + 2 = (D0 ++ P.szs l ++ [(v : Int) / 256, (v : Int) % 256]).length := by rw [List.length_append, ← HXL.out]; rfl
      have hP2 := hide (bePut16 gb (x + 2) (bn - (x + 2)) (bn - (x + 2)) (u : Int) _ _ w3.drew (by omega) (by omega) (hb3.out.drew.zcell (k := x + 2) (by omega) (by omega)) (hb3.out.drew.zcell (k := x + 2 + 1) (by omega) (by omega)) (hb3.out.drew.free _) (hb3.out.drew.free _))
      have hb4 := hide (bufPutZ hb3.out.drew (by omega) hxl2 (u : Int))
      have k4 := hide (keep_put16 w3.drew gb (x + 2) (u : Int))
      have HXL2 := hide hxl2
      clear hw3 hxl2 f3 hHeld hP1
      refine (show ∀ a w, _ → _ by assumption) _ _ ?_
      go_upto_region 54 with fail
      refine wp_region_noPanic ?_
      refine region_last2' (S := fun w' => w'.cell? ⟨g20, 4, none⟩ = some (.int .i64 (H : Int))) (by kernel_rfl) (by kernel_rfl) (by simp only [List.dropLast_cons_cons, List.dropLast_singleton]; rfl) (by simp only [List.getLast?_cons_cons, List.getLast?_singleton]; rfl) (f4) (fun hHeld => ?_)
      simp only [List.length_cons, List.length_nil, Nat.reduceAdd, Nat.zero_add]
      refine wpAnyH_take (i := 0) (v := ?_) (by simp only [List.getElem?_toArray, List.getElem?_cons_succ, List.getElem?_cons_zero]; rfl) (by kernel_rfl) (by kernel_rfl) (by kernel_rfl) (fun _ _ _ h => h) (Or.inl ⟨by rfl, ?_⟩) (by assumption) ?_
      rotate_left 1
      · (intro w hSw; (try dsimp only at hSw); go_simp; (try with_reducible rfl))
      try simp only [Act.put, List.setIfInBounds_toArray, List.set_cons_zero, List.set_cons_succ]
      refine wpAnyH_take (i := 1) (v := ?_) (by simp only [List.getElem?_toArray, List.getElem?_cons_succ, List.getElem?_cons_zero]; rfl) (by kernel_rfl) (by kernel_rfl) (by kernel_rfl) (fun _ _ _ h => h) (Or.inl ⟨by rfl, ?_⟩) (by assumption) ?_
      rotate_left 1
      · (intro w hSw; (try dsimp only at hSw); go_simp; (try with_reducible rfl))
      try simp only [Act.put, List.setIfInBounds_toArray, List.set_cons_zero, List.set_cons_succ]
      refine wpAnyH_take (i := 2) (v := ?_) (by simp only [List.getElem?_toArray, List.getElem?_cons_succ, List.getElem?_cons_zero]; rfl) (by kernel_rfl) (by kernel_rfl) (by kernel_rfl) (fun _ _ _ h => h) (Or.inl ⟨by rfl, ?_⟩) (by assumption) ?_
      rotate_left 1
      · (intro w hSw; (try dsimp only at hSw); go_simp; (try with_reducible rfl))
      try simp only [Act.put, List.setIfInBounds_toArray, List.set_cons_zero, List.set_cons_succ]
      refine wpAnyH_take (i := 3) (v := ?_) (by simp only [List.getElem?_toArray, List.getElem?_cons_succ, List.getElem?_cons_zero]; rfl) (by kernel_rfl) (by kernel_rfl) (by kernel_rfl) (fun _ _ _ h => h) (Or.inl ⟨by rfl, ?_⟩) (by assumption) ?_
      rotate_left 1
      · (intro w hSw; (try dsimp only at hSw); go_simp; (try with_reducible rfl))
      try simp only [Act.put, List.setIfInBounds_toArray, List.set_cons_zero, List.set_cons_succ]
      refine wpAnyH_take (i := 4) (v := ?_) (by simp only [List.getElem?_toArray, List.getElem?_cons_succ, List.getElem?_cons_zero]; rfl) (by kernel_rfl) (by kernel_rfl) (by kernel_rfl) (fun _ _ _ h => h) (Or.inl ⟨by rfl, ?_⟩) (by assumption) ?_
      rotate_left 1
      · (intro w hSw; (try dsimp only at hSw); go_simp; (try with_reducible rfl))
      try simp only [Act.put, List.setIfInBounds_toArray, List.set_cons_zero, List.set_cons_succ]
      refine wpAnyH_take (i := 5) (v := ?_) (by simp only [List.getElem?_toArray, List.getElem?_cons_succ, List.getElem?_cons_zero]; rfl) (by kernel_rfl) (by kernel_rfl) (by kernel_rfl) (fun _ _ _ h => h) (Or.inl ⟨by rfl, ?_⟩) (by assumption) ?_
      rotate_left 1
      · (intro w hSw; (try dsimp only at hSw); go_simp; (try with_reducible rfl))
      try simp only [Act.put, List.setIfInBounds_toArray, List.set_cons_zero, List.set_cons_succ]
      refine wpAnyH_take (i := 6) (v := ?_) (by simp only [List.getElem?_toArray, List.getElem?_cons_succ, List.getElem?_cons_zero]; rfl) (by kernel_rfl) (by kernel_rfl) (by kernel_rfl) (fun _ _ _ h => h) (Or.inl ⟨by rfl, ?_⟩) (by assumption) ?_
      rotate_left 1
      · (intro w hSw; (try dsimp only at hSw); go_simp; (try with_reducible rfl))
      try simp only [Act.put, List.setIfInBounds_toArray, List.set_cons_zero, List.set_cons_succ]
      refine wpAnyH_take (i := 7) (v := ?_) (by simp only [List.getElem?_toArray, List.getElem?_cons_succ, List.getElem?_cons_zero]; rfl) (by kernel_rfl) (by kernel_rfl) (by kernel_rfl) (fun _ _ _ h => h) (Or.inl ⟨by rfl, ?_⟩) (by assumption) ?_
      rotate_left 1
      · (intro w hSw; (try dsimp only at hSw); go_simp; (try with_reducible rfl))
      try simp only [Act.put, List.setIfInBounds_toArray, List.set_cons_zero, List.set_cons_succ]
      refine wpAnyH_done (by kernel_rfl) ?_ _
      intro K hK
      go_simp
      go_at_call 57
      refine (hP2.out).mono ?_
      rintro e w4 ⟨rfl, rfl⟩
      simp only []
      refine hK _ _ (NoPanic.normal ?_)
      clear hK K
      generalize hw4 : put16 _ _ _ _ = w4 at hb4 k4 ⊢
      have K4 := hide (K3.out.trans (((Keep.refl w3 (· = gb)).drew).trans k4.out (fun _ _ e => e)) (fun _ _ e => e))
      have B204 := hide (B203.out.drew.keep k4.out (fun e => hng e))
      have f5 := B204.out.cell 5 (v := .int .i64 (F : Int)) rfl
      have hl204 := B204.out.lt
      have hgb4 := hb4.out.lt
      have hxl3 : x + 4 = (D0 ++ P.szs l ++ [(v : Int) / 256, (v : Int) % 256] ++ [(u : Int) / 256, (u : Int) % 256]).length := by rw [List.length_append, ← HXL2.out]; rfl
      have hz := hb4.out.zcell (k := x + 4) (by omega) (by omega)
      have hfr := hb4.out.free (x + 4)
      have hb5 := hb4.out.z1 (by omega) hxl3 (F : Int)
      rw [show m0 - l * 5 - 2 - 2 - 1 = m0 - (l + 1) * 5 by omega, List.append_assoc (D0 ++ P.szs l), List.append_assoc (D0 ++ P.szs l)] at hb5
      have hs5 : [(v : Int) / 256, (v : Int) % 256] ++ [(u : Int) / 256, (u : Int) % 256] ++ [(F : Int)] = P.sz5 l := by rw [H5.out, ← HV.out, ← HU.out]; rfl
      rw [hs5, List.append_assoc, ← Pv.szs_succ] at hb5
      have HB5 := hide hb5
      clear hw4 hxl3 f4 hHeld hP2 hb5 hs5
      refine (show ∀ a w, _ → _ by assumption) _ _ ?_
      go_wp2_with fail
      go_roundw
      case rel => exact ⟨l + 1, x + 5, by omega, by go_num, by go_num, by have := HX.out; omega, HB5.out, HK1.out.trans (K4.out.setg _ (fun _ => rfl) _) (fun _ _ e => e)⟩
      case measure => simp [intOf]; omega
    · obtain rfl : l = P.L := by omega
      have hxe := HX.out
      rw [HD0.out] at hxe
      subst hxe
      have h5 : m0 - P.L * 5 = 0 := by have := HM.out; omega
      rw [h5] at HB1
      clear h5
      go_wp2_with fail
      exact HQ.out wr _ _ _ _ _ _ _ _ _ _ _ _ _ _ _ _ _ _ _ _ _ _ _ _ _ _ _ _ _ _ _ _ _ _ _ _ _ _ _ _ _ _ _ _ _ _ _ _ _ _ _ _ _ _ _ _ _ _ _ _ _ _ _ _ _ _ _ _ _ _ _ _ _ _ _ _ _ _ _ _ _ _ _ _ _ _ _ _ _ _ _ _ _ _ _ _ _ _ _ _ _ _ _ _ _ _ _ _ _ _ _ _ _ _ _ _ _ _ _ _ _ _ _ _ _ _ _ _ _ _ _ _ _ _ _ _ _ _ _ _ _ _ _ _ _ _ _ _ _ _ _ _ _ _ _ _ _ _ _ _ _ _ _ _ _ _ _ _ _ _ _ _ _ _ _ _ _ _ _ _ _ _ _ _ _ _ _ _ _ _ _ _ _ _ _ _ _ _ _ _ _ _ _ _ _ _ _ _ _ _ _ _ _ _ _ HB1.out HK1.out
end Go.Proofs.YtdlnmkpojiofoaaDoor
