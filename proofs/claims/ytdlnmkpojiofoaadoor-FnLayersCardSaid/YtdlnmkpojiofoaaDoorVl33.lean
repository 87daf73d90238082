/-
  The law FnLayers: what was read is compared. Conditions: those that stand in each theorem.
-/
import Derived.Test.YtdlnmkpojiofoaaDoorVl32
namespace Go.Proofs.YtdlnmkpojiofoaaDoor
open Go.RowKit
set_option linter.unusedVariables false
set_option linter.unusedSimpArgs false
set_option maxRecDepth 100000

set_option maxHeartbeats 6400000 in
theorem fl_p27 {P : Pv} {gl gy b1 c1 b2 c2 : Nat} {ds1 ds2 : List Value} {sz : Bool} {Q : Exit → Act → World → Prop} (w : World) (u0 u1 u2 u4 u5 u6 u7 u8 u9 u10 u12 u13 u14 u15 u16 u17 u18 u20 u21 u22 u23 u24 u25 u26 u27 u28 u29 u30 u31 u32 u33 u34 u35 u36 u37 u38 u39 u40 u41 u42 u43 u44 u45 u46 u47 u48 u49 u50 u51 u52 u53 u54 u55 u56 u57 u58 u59 u60 u61 u62 u63 u64 u65 u66 u67 u68 u69 u70 u71 u72 u73 u74 u75 u76 u77 u78 u79 u80 u81 u82 u83 u84 u85 u86 u87 u88 u89 u90 u91 u92 u93 u94 u95 u96 u97 u98 u99 u100 u101 u102 u103 u104 u105 u106 u107 u108 u109 u110 u111 u112 u113 u114 u115 u116 u117 u118 u119 u120 u121 u122 u123 u124 u125 u126 u127 u128 u129 u130 u131 u132 u133 u134 u135 u136 u137 u138 u139 u140 u141 u142 u143 u144 u145 u146 u147 u148 u149 u150 u151 u152 u153 u154 u155 u156 u157 u158 u159 u160 u161 u162 u163 u164 u165 u166 u167 u168 u169 u170 u171 u172 u173 u174 u175 u176 u177 u178 u179 u180 u181 u182 u183 u184 u185 u186 u187 u188 u189 u190 u191 u192 u193 u194 u195 u196 u197 u198 u199 u200 u201 u202 u203 u204 u205 u206 u207 u208 u209 u210 u211 u212 u213 u214 u215 u216 u217 u218 u219 u220 u221 u222 u223 u224 u225 u226 u227 u228 u229 u230 u231 u232 u233 u234 u235 u236 u237 u238 u239 u240 u241 u242 : Value)
    (hP : P.Ok) (hb1 : Blk w gl 44 #[.int .i64 (P.st : Nat), .int .i64 (P.S : Nat), .slice (some ⟨b1, 0, none⟩) P.L c1, .bool sz]) (hb2 : Blk w gy 44 #[.int .i64 (P.st : Nat), .int .i64 (P.S : Nat), .slice (some ⟨b2, 0, none⟩) P.L c2, .bool sz]) (hl1 : LR w (fun q => q < w.heap.size) P b1 0 ds1) (hl2 : LR w (fun q => q < w.heap.size) P b2 0 ds2) (hc1 : P.L ≤ c1) (hc2 : P.L ≤ c2)
    (hQ : ∀ (w' : World) (v10 v22 v23 v24 v25 v169 v170 v171 v172 v173 v174 v175 v176 v177 v178 v179 v180 v181 v182 v183 v184 v185 v186 v187 v188 v189 v190 v191 v192 v193 v194 v195 v196 v197 v198 v199 v200 v201 v202 v203 v204 v205 v206 v207 v208 v209 v210 v211 v212 v213 v214 v215 v216 v217 v218 v219 v220 v221 v222 v223 v224 v225 v226 v227 v228 v229 v230 v231 v232 v233 v234 v235 v236 v237 v238 v239 v240 v241 v242 : Value), Keep w w' Nul → Q .normal ⟨List.toArray (u0 :: u1 :: u2 :: .bool sz :: u4 :: u5 :: u6 :: u7 :: u8 :: u9 :: v10 :: .pointer (some ⟨gl, 0, none⟩) :: u12 :: u13 :: u14 :: u15 :: u16 :: u17 :: u18 :: .pointer (some ⟨gy, 0, none⟩) :: u20 :: u21 :: v22 :: v23 :: v24 :: v25 :: u26 :: u27 :: u28 :: u29 :: u30 :: u31 :: u32 :: u33 :: u34 :: u35 :: u36 :: u37 :: u38 :: u39 :: u40 :: u41 :: u42 :: u43 :: u44 :: u45 :: u46 :: u47 :: u48 :: u49 :: u50 :: u51 :: u52 :: u53 :: u54 :: u55 :: u56 :: u57 :: u58 :: u59 :: u60 :: u61 :: u62 :: u63 :: u64 :: u65 :: u66 :: u67 :: u68 :: u69 :: u70 :: u71 :: u72 :: u73 :: u74 :: u75 :: u76 :: u77 :: u78 :: u79 :: u80 :: u81 :: u82 :: u83 :: u84 :: u85 :: u86 :: u87 :: u88 :: u89 :: u90 :: u91 :: u92 :: u93 :: u94 :: u95 :: u96 :: u97 :: u98 :: u99 :: u100 :: u101 :: u102 :: u103 :: u104 :: u105 :: u106 :: u107 :: u108 :: u109 :: u110 :: u111 :: u112 :: u113 :: u114 :: u115 :: u116 :: u117 :: u118 :: u119 :: u120 :: u121 :: u122 :: u123 :: u124 :: u125 :: u126 :: u127 :: u128 :: u129 :: u130 :: u131 :: u132 :: u133 :: u134 :: u135 :: u136 :: u137 :: u138 :: u139 :: u140 :: u141 :: u142 :: u143 :: u144 :: u145 :: u146 :: u147 :: u148 :: u149 :: u150 :: u151 :: u152 :: u153 :: u154 :: u155 :: u156 :: u157 :: u158 :: u159 :: u160 :: u161 :: u162 :: u163 :: u164 :: u165 :: u166 :: u167 :: u168 :: v169 :: v170 :: v171 :: v172 :: v173 :: v174 :: v175 :: v176 :: v177 :: v178 :: v179 :: v180 :: v181 :: v182 :: v183 :: v184 :: v185 :: v186 :: v187 :: v188 :: v189 :: v190 :: v191 :: v192 :: v193 :: v194 :: v195 :: v196 :: v197 :: v198 :: v199 :: v200 :: v201 :: v202 :: v203 :: v204 :: v205 :: v206 :: v207 :: v208 :: v209 :: v210 :: v211 :: v212 :: v213 :: v214 :: v215 :: v216 :: v217 :: v218 :: v219 :: v220 :: v221 :: v222 :: v223 :: v224 :: v225 :: v226 :: v227 :: v228 :: v229 :: v230 :: v231 :: v232 :: v233 :: v234 :: v235 :: v236 :: v237 :: v238 :: v239 :: v240 :: v241 :: v242 :: []), []⟩ w') :
    Part Tryd.prog Tryd.f6 27 Q ⟨List.toArray (u0 :: u1 :: u2 :: .bool sz :: u4 :: u5 :: u6 :: u7 :: u8 :: u9 :: u10 :: .pointer (some ⟨gl, 0, none⟩) :: u12 :: u13 :: u14 :: u15 :: u16 :: u17 :: u18 :: .pointer (some ⟨gy, 0, none⟩) :: u20 :: u21 :: u22 :: u23 :: u24 :: u25 :: u26 :: u27 :: u28 :: u29 :: u30 :: u31 :: u32 :: u33 :: u34 :: u35 :: u36 :: u37 :: u38 :: u39 :: u40 :: u41 :: u42 :: u43 :: u44 :: u45 :: u46 :: u47 :: u48 :: u49 :: u50 :: u51 :: u52 :: u53 :: u54 :: u55 :: u56 :: u57 :: u58 :: u59 :: u60 :: u61 :: u62 :: u63 :: u64 :: u65 :: u66 :: u67 :: u68 :: u69 :: u70 :: u71 :: u72 :: u73 :: u74 :: u75 :: u76 :: u77 :: u78 :: u79 :: u80 :: u81 :: u82 :: u83 :: u84 :: u85 :: u86 :: u87 :: u88 :: u89 :: u90 :: u91 :: u92 :: u93 :: u94 :: u95 :: u96 :: u97 :: u98 :: u99 :: u100 :: u101 :: u102 :: u103 :: u104 :: u105 :: u106 :: u107 :: u108 :: u109 :: u110 :: u111 :: u112 :: u113 :: u114 :: u115 :: u116 :: u117 :: u118 :: u119 :: u120 :: u121 :: u122 :: u123 :: u124 :: u125 :: u126 :: u127 :: u128 :: u129 :: u130 :: u131 :: u132 :: u133 :: u134 :: u135 :: u136 :: u137 :: u138 :: u139 :: u140 :: u141 :: u142 :: u143 :: u144 :: u145 :: u146 :: u147 :: u148 :: u149 :: u150 :: u151 :: u152 :: u153 :: u154 :: u155 :: u156 :: u157 :: u158 :: u159 :: u160 :: u161 :: u162 :: u163 :: u164 :: u165 :: u166 :: u167 :: u168 :: u169 :: u170 :: u171 :: u172 :: u173 :: u174 :: u175 :: u176 :: u177 :: u178 :: u179 :: u180 :: u181 :: u182 :: u183 :: u184 :: u185 :: u186 :: u187 :: u188 :: u189 :: u190 :: u191 :: u192 :: u193 :: u194 :: u195 :: u196 :: u197 :: u198 :: u199 :: u200 :: u201 :: u202 :: u203 :: u204 :: u205 :: u206 :: u207 :: u208 :: u209 :: u210 :: u211 :: u212 :: u213 :: u214 :: u215 :: u216 :: u217 :: u218 :: u219 :: u220 :: u221 :: u222 :: u223 :: u224 :: u225 :: u226 :: u227 :: u228 :: u229 :: u230 :: u231 :: u232 :: u233 :: u234 :: u235 :: u236 :: u237 :: u238 :: u239 :: u240 :: u241 :: u242 :: []), []⟩ w := by
  have HQ := hide hQ
  have ht1 := hP.t1
  have ht4 := hP.t4
  have hL16 := hP.L16
  have HP := hide hP
  have HB1 := hide hb1
  have HB2 := hide hb2
  have HL1 := hide hl1
  have HL2 := hide hl2
  have x2 := hb1.cell 2 (v := .slice (some ⟨b1, 0, none⟩) P.L c1) rfl
  have hgl := hb1.lt
  clear hQ hP hb1 hb2 hl1 hl2
  refine part_open (fun c0 hc K hK => ?_)
  conv at hc => rhs; whnf
  subst hc
  dsimp only [xOf, yOf] at hK ⊢
  go_wp2_with fail
  go_loopw [172] (fun s172 wr => ∃ i : Nat, i ≤ P.L ∧ s172 = .int .i64 (i : Int) ∧ Keep w wr Nul) (fun s172 _ => P.L - (intOf s172).toNat)
  case atStart => exact ⟨0, by omega, rfl, Keep.refl _ _⟩
  case round =>
    obtain ⟨i, hi, rfl, hk⟩ := hrel
    have HK := hide hk
    have y2 := (HB2.out.keep hk (fun e => e)).cell 2 (v := .slice (some ⟨b2, 0, none⟩) P.L c2) rfl
    have hgy := (HB2.out.keep hk (fun e => e)).lt
    have HL1r := hide (HL1.out.keep hk (fun _ _ _ e => e))
    have HL2r := hide (HL2.out.keep hk (fun _ _ _ e => e))
    clear hk x2
    by_cases hlt : i < P.L
    · have kl : (i : Int) < (P.L : Int) := by omega
      have hd1 : ds1[i]? = some (ds1[i]'(by rw [HL1.out.dl]; exact hlt)) := List.getElem?_eq_getElem _
      have hd2 : ds2[i]? = some (ds2[i]'(by rw [HL2.out.dl]; exact hlt)) := List.getElem?_eq_getElem _
      have p0 := HL1r.out.cell i _ hd1 0 _ rfl
      have p1 := HL1r.out.cell i _ hd1 1 _ rfl
      have p2 := HL1r.out.cell i _ hd1 2 _ rfl
      have p3 := HL1r.out.cell i _ hd1 3 _ rfl
      have p4 := HL1r.out.cell i _ hd1 4 _ rfl
      have p5 := HL1r.out.cell i _ hd1 5 _ rfl
      have q0 := HL2r.out.cell i _ hd2 0 _ rfl
      have q1 := HL2r.out.cell i _ hd2 1 _ rfl
      have q2 := HL2r.out.cell i _ hd2 2 _ rfl
      have q3 := HL2r.out.cell i _ hd2 3 _ rfl
      have q4 := HL2r.out.cell i _ hd2 4 _ rfl
      have q5 := HL2r.out.cell i _ hd2 5 _ rfl
      rw [Nat.add_zero] at p0 q0
      rw [Nat.zero_add] at p0 p1 p2 p3 p4 p5 q0 q1 q2 q3 q4 q5
      have hr1 := HL1r.out.rate i _ hd1
      have hr2 := HL2r.out.rate i _ hd2
      obtain ⟨e1, o1, m1, hv1, n1, n1', n1'', n1l, h1⟩ := hr1.lit (by omega)
      obtain ⟨e2, o2, m2, hv2, n2, n2', n2'', n2l, h2⟩ := hr2.lit (by omega)
      rw [hv1] at p2
      rw [hv2] at q2
      have H1 := hide h1
      have H2 := hide h2
      have hbb1 := HL1r.out.blt
      have hbb2 := HL2r.out.blt
      generalize P.W i = W at *
      generalize P.H i = H at *
      generalize P.F = F at *
      generalize i / P.K = sI at *
      generalize i % P.K = kI at *
      clear hd1 hd2 hr1 hr2 hv1 hv2 h1 h2 n1'' n2''
      go_upto_region 31 with fail
      generalize hw2 : World.alloc (World.alloc wr _) _ = w2
      obtain ⟨g1, hg1⟩ : ∃ g1, g1 = wr.heap.size := ⟨_, rfl⟩
      obtain ⟨g2, hg2⟩ : ∃ g2, g2 = wr.heap.size + 1 := ⟨_, rfl⟩
      have hx1 : Blk w2 g1 47 #[.int .i64 (sI : Int), .int .i64 (kI : Int), .slice (some ⟨e1, o1, none⟩) P.rs.length m1, .int .i64 (W : Int), .int .i64 (H : Int), .int .i64 (F : Int)] := by subst hw2 hg1; exact (Blk.new wr _ _).alloc _
      have hx2 : Blk w2 g2 47 #[.int .i64 (sI : Int), .int .i64 (kI : Int), .slice (some ⟨e2, o2, none⟩) P.rs.length m2, .int .i64 (W : Int), .int .i64 (H : Int), .int .i64 (F : Int)] := by subst hw2 hg2; exact Blk.new2 (by simp only [World.size_alloc])
      have k2 : Keep wr w2 Nul := by subst hw2; exact ((Keep.refl wr Nul).alloc _).alloc _
      rw [← hg2, ← hg1]
      have K2 := hide k2
      have HX1 := hide hx1
      have HX2 := hide hx2
      have HKW := hide (HK.out.trans0 k2)
      clear p0 p1 p2 p3 p4 p5 q0 q1 q2 q3 q4 q5 hw2 hg1 hg2
      have p0 := hx1.cell 0 (v := .int .i64 (sI : Int)) rfl
      have p1 := hx1.cell 1 (v := .int .i64 (kI : Int)) rfl
      have p2 := hx1.cell 2 (v := .slice (some ⟨e1, o1, none⟩) P.rs.length m1) rfl
      have p3 := hx1.cell 3 (v := .int .i64 (W : Int)) rfl
      have p4 := hx1.cell 4 (v := .int .i64 (H : Int)) rfl
      have p5 := hx1.cell 5 (v := .int .i64 (F : Int)) rfl
      have q0 := hx2.cell 0 (v := .int .i64 (sI : Int)) rfl
      have q1 := hx2.cell 1 (v := .int .i64 (kI : Int)) rfl
      have q2 := hx2.cell 2 (v := .slice (some ⟨e2, o2, none⟩) P.rs.length m2) rfl
      have q3 := hx2.cell 3 (v := .int .i64 (W : Int)) rfl
      have q4 := hx2.cell 4 (v := .int .i64 (H : Int)) rfl
      have q5 := hx2.cell 5 (v := .int .i64 (F : Int)) rfl
      have lx1 := hx1.lt
      have lx2 := hx2.lt
      clear hx1 hx2 k2
      go_upto_region 33 with fail
      go_wp2_with fail
      go_loopw [227] (fun s227 wi => ∃ j : Nat, j ≤ P.rs.length ∧ s227 = .int .i64 (j : Int) ∧ Keep w2 wi Nul) (fun s227 _ => P.rs.length - (intOf s227).toNat)
      case atStart => exact ⟨0, by omega, rfl, Keep.refl _ _⟩
      case round =>
        obtain ⟨j, hj, rfl, hkj⟩ := hrel
        have HKJ := hide hkj
        clear p0 p1 p3 p4 p5 q0 q1 q2 q3 q4 q5 p2
        have p2 := (HX1.out.keep hkj (fun e => e)).cell 2 (v := .slice (some ⟨e1, o1, none⟩) P.rs.length m1) rfl
        have q2 := (HX2.out.keep hkj (fun e => e)).cell 2 (v := .slice (some ⟨e2, o2, none⟩) P.rs.length m2) rfl
        have lx1 := (HX1.out.keep hkj (fun e => e)).lt
        have lx2 := (HX2.out.keep hkj (fun e => e)).lt
        by_cases hlj : j < P.rs.length
        · have klj : (j : Int) < (P.rs.length : Int) := by omega
          have hrj : (I64 P.rs)[j]? = some (.int .i64 (P.rs[j] : Nat)) := by rw [I64, List.getElem?_map, List.getElem?_eq_getElem hlj]; rfl
          have r1 := (K2.out.trans0 hkj).cell (fun e => e) (H1.out j _ hrj)
          have r2 := (K2.out.trans0 hkj).cell (fun e => e) (H2.out j _ hrj)
          have hze := (K2.out.trans0 hkj).size
          generalize P.rs[j] = rj at *
          have le1 : e1 < wr.heap.size := by omega
          have le2 : e2 < wr.heap.size := by omega
          clear hrj hkj
          go_upto_region 36 with fail
          go_quiet (fail)
          go_wp2_with fail
          go_roundw
          case rel => exact ⟨j + 1, by omega, by go_num, HKJ.out.drewN _⟩
          case measure => simp [intOf]; omega
        · obtain rfl : j = P.rs.length := by omega
          go_wp2_with fail
          go_roundw
          case rel => exact ⟨i + 1, by omega, by go_num, HKW.out.trans0 HKJ.out⟩
          case measure => simp [intOf]; omega
    · obtain rfl : i = P.L := by omega
      go_wp2_with fail
      exact HQ.out _ _ _ _ _ _ _ _ _ _ _ _ _ _ _ _ _ _ _ _ _ _ _ _ _ _ _ _ _ _ _ _ _ _ _ _ _ _ _ _ _ _ _ _ _ _ _ _ _ _ _ _ _ _ _ _ _ _ _ _ _ _ _ _ _ _ _ _ _ _ _ _ _ _ _ _ _ _ _ _ HK.out
end Go.Proofs.YtdlnmkpojiofoaaDoor
