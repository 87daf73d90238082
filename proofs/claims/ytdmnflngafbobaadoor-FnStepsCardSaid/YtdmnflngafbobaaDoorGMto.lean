/-
  (rtp.Header).MarshalTo: its end: the length of the extensions and the noughts behind them. Conditions: those that stand in each theorem.
-/
import Derived.Test.YtdmnflngafbobaaDoorGOut
import Derived.Test.YtdmnflngafbobaaDoorNav
import Derived.Test.YtdmnflngafbobaaDoorTry
namespace Go.Proofs.YtdmnflngafbobaaDoor
open Go.RowKit
set_option linter.unusedVariables false
set_option linter.unusedSimpArgs false
set_option maxRecDepth 100000

set_option maxHeartbeats 1600000 in
theorem mto_tail {g L N M R : Nat} {A P D : List Int} {Q : Exit → Act → World → Prop} (wx : World) (u0 u2 u3 u6 u7 u8 u11 u12 u13 u14 u15 u16 u17 u18 u19 u20 u21 u22 u23 u24 u25 u26 u27 u28 u29 u30 u31 u32 u33 u34 u35 u36 u37 u38 u39 u40 u41 u42 u43 u44 u45 u46 u47 u48 u49 u50 u51 u52 u53 u54 u55 u56 u57 u58 u59 u60 u61 u62 u63 u64 u65 u66 u67 u68 u69 u70 u71 u72 u73 u74 u75 u76 u77 u78 u79 u80 u81 u82 u83 u84 u85 u86 u87 u88 u89 u90 u91 u92 u93 u94 u95 u96 u97 u98 u99 u100 u101 u102 u103 u104 u105 u106 u107 u108 u109 u110 u111 u112 u113 u114 u115 u116 u117 u118 u119 u120 u121 u122 u123 u124 u125 u126 u127 u128 u129 u130 u131 u132 u133 u134 u135 u136 u137 u138 u139 u140 u141 u142 u143 u144 u145 u146 u147 u148 u149 u150 u151 u152 u153 u154 u155 u156 u157 u158 u159 u160 u161 u162 u163 u164 u165 u166 u167 u168 u169 u170 u171 u172 u173 u174 u175 u176 u177 u178 u179 u180 u181 u182 u183 u184 u185 u186 u187 u188 u189 u190 u191 u192 u193 u194 u195 u196 u197 u198 u199 u200 u201 u202 u203 u204 u205 u206 u207 u208 u209 u210 u211 u212 u213 u214 u215 u216 u217 u218 u219 u220 u221 u222 u223 u224 u225 u226 u227 u228 u229 u230 : Value)
    (hend : ∀ (v0 v1 v2 v3 v6 v7 v8 v9 v10 v11 v12 v13 v14 v15 v16 v17 v18 v19 v20 v21 v22 v23 v24 v25 v26 v27 v28 v29 v30 v31 v32 v33 v34 v35 v36 v37 v38 v39 v40 v41 v42 v43 v44 v45 v46 v47 v48 v49 v50 v51 v52 v53 v54 v55 v56 v57 v58 v59 v60 v61 v62 v63 v64 v65 v66 v67 v68 v69 v70 v71 v72 v73 v74 v75 v76 v77 v78 v79 v80 v81 v82 v83 v84 v85 v86 v87 v88 v89 v90 v91 v92 v93 v94 v95 v96 v97 v98 v99 v100 v101 v102 v103 v104 v105 v106 v107 v108 v109 v110 v111 v112 v113 v114 v115 v116 v117 v118 v119 v120 v121 v122 v123 v124 v125 v126 v127 v128 v129 v130 v131 v132 v133 v134 v135 v136 v137 v138 v139 v140 v141 v142 v143 v144 v145 v146 v147 v148 v149 v150 v151 v152 v153 v154 v155 v156 v157 v158 v159 v160 v161 v162 v163 v164 v165 v166 v167 v168 v169 v170 v171 v172 v173 v174 v175 v176 v177 v178 v179 v180 v181 v182 v183 v184 v185 v186 v187 v188 v189 v190 v191 v192 v193 v194 v195 v196 v197 v198 v199 v200 v201 v202 v203 v204 v205 v206 v207 v208 v209 v210 v211 v212 v213 v214 v215 v216 v217 v218 v219 v220 v221 v222 v223 v224 v225 v226 v227 v228 v229 v230 : Value) (w' : World), Buf w' g (A ++ P ++ by16 ((R : Int) / 4) ++ D ++ List.replicate (R - D.length) 0) (Z8 (L - (N + 4 + R))) → Keep wx w' (· = g) → Q .normal ⟨List.toArray (v0 :: v1 :: v2 :: v3 :: .int .i64 ((N + 4 + R : Nat) : Int) :: .nilIface :: v6 :: v7 :: v8 :: v9 :: v10 :: v11 :: v12 :: v13 :: v14 :: v15 :: v16 :: v17 :: v18 :: v19 :: v20 :: v21 :: v22 :: v23 :: v24 :: v25 :: v26 :: v27 :: v28 :: v29 :: v30 :: v31 :: v32 :: v33 :: v34 :: v35 :: v36 :: v37 :: v38 :: v39 :: v40 :: v41 :: v42 :: v43 :: v44 :: v45 :: v46 :: v47 :: v48 :: v49 :: v50 :: v51 :: v52 :: v53 :: v54 :: v55 :: v56 :: v57 :: v58 :: v59 :: v60 :: v61 :: v62 :: v63 :: v64 :: v65 :: v66 :: v67 :: v68 :: v69 :: v70 :: v71 :: v72 :: v73 :: v74 :: v75 :: v76 :: v77 :: v78 :: v79 :: v80 :: v81 :: v82 :: v83 :: v84 :: v85 :: v86 :: v87 :: v88 :: v89 :: v90 :: v91 :: v92 :: v93 :: v94 :: v95 :: v96 :: v97 :: v98 :: v99 :: v100 :: v101 :: v102 :: v103 :: v104 :: v105 :: v106 :: v107 :: v108 :: v109 :: v110 :: v111 :: v112 :: v113 :: v114 :: v115 :: v116 :: v117 :: v118 :: v119 :: v120 :: v121 :: v122 :: v123 :: v124 :: v125 :: v126 :: v127 :: v128 :: v129 :: v130 :: v131 :: v132 :: v133 :: v134 :: v135 :: v136 :: v137 :: v138 :: v139 :: v140 :: v141 :: v142 :: v143 :: v144 :: v145 :: v146 :: v147 :: v148 :: v149 :: v150 :: v151 :: v152 :: v153 :: v154 :: v155 :: v156 :: v157 :: v158 :: v159 :: v160 :: v161 :: v162 :: v163 :: v164 :: v165 :: v166 :: v167 :: v168 :: v169 :: v170 :: v171 :: v172 :: v173 :: v174 :: v175 :: v176 :: v177 :: v178 :: v179 :: v180 :: v181 :: v182 :: v183 :: v184 :: v185 :: v186 :: v187 :: v188 :: v189 :: v190 :: v191 :: v192 :: v193 :: v194 :: v195 :: v196 :: v197 :: v198 :: v199 :: v200 :: v201 :: v202 :: v203 :: v204 :: v205 :: v206 :: v207 :: v208 :: v209 :: v210 :: v211 :: v212 :: v213 :: v214 :: v215 :: v216 :: v217 :: v218 :: v219 :: v220 :: v221 :: v222 :: v223 :: v224 :: v225 :: v226 :: v227 :: v228 :: v229 :: v230 :: []), []⟩ w')
    (hB : Buf wx g (A ++ P ++ [0, 0] ++ D) (Z8 (L - M))) (hA : A.length = N) (hP : P.length = 2) (hM : M = N + 4 + D.length) (hR : R = (D.length + 3) / 4 * 4) (hL : N + 4 + R ≤ L) (hRm : R ≤ 262140) (hLm : L ≤ 1099511627776) :
    Part Tryd.prog Tryd.f73 51 Q ⟨List.toArray (u0 :: .slice (some ⟨g, 0, none⟩) L L :: u2 :: u3 :: .int .i64 (M : Int) :: .nilIface :: u6 :: u7 :: u8 :: .int .i64 (N : Int) :: .int .i64 ((N : Int) + 4) :: u11 :: u12 :: u13 :: u14 :: u15 :: u16 :: u17 :: u18 :: u19 :: u20 :: u21 :: u22 :: u23 :: u24 :: u25 :: u26 :: u27 :: u28 :: u29 :: u30 :: u31 :: u32 :: u33 :: u34 :: u35 :: u36 :: u37 :: u38 :: u39 :: u40 :: u41 :: u42 :: u43 :: u44 :: u45 :: u46 :: u47 :: u48 :: u49 :: u50 :: u51 :: u52 :: u53 :: u54 :: u55 :: u56 :: u57 :: u58 :: u59 :: u60 :: u61 :: u62 :: u63 :: u64 :: u65 :: u66 :: u67 :: u68 :: u69 :: u70 :: u71 :: u72 :: u73 :: u74 :: u75 :: u76 :: u77 :: u78 :: u79 :: u80 :: u81 :: u82 :: u83 :: u84 :: u85 :: u86 :: u87 :: u88 :: u89 :: u90 :: u91 :: u92 :: u93 :: u94 :: u95 :: u96 :: u97 :: u98 :: u99 :: u100 :: u101 :: u102 :: u103 :: u104 :: u105 :: u106 :: u107 :: u108 :: u109 :: u110 :: u111 :: u112 :: u113 :: u114 :: u115 :: u116 :: u117 :: u118 :: u119 :: u120 :: u121 :: u122 :: u123 :: u124 :: u125 :: u126 :: u127 :: u128 :: u129 :: u130 :: u131 :: u132 :: u133 :: u134 :: u135 :: u136 :: u137 :: u138 :: u139 :: u140 :: u141 :: u142 :: u143 :: u144 :: u145 :: u146 :: u147 :: u148 :: u149 :: u150 :: u151 :: u152 :: u153 :: u154 :: u155 :: u156 :: u157 :: u158 :: u159 :: u160 :: u161 :: u162 :: u163 :: u164 :: u165 :: u166 :: u167 :: u168 :: u169 :: u170 :: u171 :: u172 :: u173 :: u174 :: u175 :: u176 :: u177 :: u178 :: u179 :: u180 :: u181 :: u182 :: u183 :: u184 :: u185 :: u186 :: u187 :: u188 :: u189 :: u190 :: u191 :: u192 :: u193 :: u194 :: u195 :: u196 :: u197 :: u198 :: u199 :: u200 :: u201 :: u202 :: u203 :: u204 :: u205 :: u206 :: u207 :: u208 :: u209 :: u210 :: u211 :: u212 :: u213 :: u214 :: u215 :: u216 :: u217 :: u218 :: u219 :: u220 :: u221 :: u222 :: u223 :: u224 :: u225 :: u226 :: u227 :: u228 :: u229 :: u230 :: []), []⟩ wx := by
  have HE := hide hend
  have HB := hide hB
  have HA := hide hA
  have HP := hide hP
  have HM := hide hM
  have HR := hide hR
  have hR4 : R / 4 * 4 = R := by omega
  have HR4 := hide hR4
  have hd : D.length ≤ R := by omega
  have hd' : ((D.length : Int) + 3) / 4 * 4 = (R : Int) := by omega
  have hM1 : (M : Int) - ((N : Int) + 4) = (D.length : Int) := by omega
  have hn1 : (N : Int) + 2 ≤ (N : Int) + 4 := by omega
  have hn2 : (0 : Int) ≤ (N : Int) + 2 := by omega
  have hn3 : (N : Int) + 4 ≤ (L : Int) := by omega
  have hn4 : ((N : Int) + 2).toNat = N + 2 := by omega
  have hMN : N + 4 ≤ M := by omega
  have hML : M ≤ L := by omega
  have hNL : ¬ L = N + 2 := by omega
  have hN0 : (0 : Int) ≤ (N : Int) := by omega
  have hr0 : (0 : Int) ≤ (R : Int) / 4 ∧ (R : Int) / 4 < 65536 := by omega
  have HR0 := hide hr0
  clear hend hB hA hP hM hR hR4 hr0
  refine part_open (fun c hc K hK => ?_)
  conv at hc => rhs; whnf
  subst hc
  dsimp only [xOf, yOf] at hK ⊢
  go_upto_region 53 with fail
  clear hd' hM1
  go_wp2_with fail
  refine (put16_mid (d1 := A ++ P) (d2 := D) (y0 := 0) (y1 := 0) (by have := HB.out; simpa using this) (by decide) (by have := HA.out; have := HP.out; simp; omega) HR0.out).mono ?_
  rintro e w1 ⟨rfl, b1, k1⟩
  have B1 := hide b1
  have K1 := hide k1
  have hg1 := b1.lt
  clear b1 k1
  go_wp2_with fail
  obtain ⟨C, hC⟩ : ∃ C : List Int, C = A ++ P ++ (by16 ((R : Int) / 4) ++ D) := ⟨_, rfl⟩
  have hCl : C.length = M := by rw [hC]; have := HA.out; have := HP.out; have := HM.out; simp [by16]; omega
  have B2 := hide (show Buf w1 g C (Z8 (L - M)) by rw [hC]; exact B1.out)
  have HC := hide hC
  have HCl := hide hCl
  clear hC hCl
  go_loopw [4, 18] (fun s i wr => ∃ k K : Nat, k ≤ R - D.length ∧ K = M + k ∧ i = .int .i64 (k : Int) ∧ s = .int .i64 (K : Int) ∧ Buf wr g (C ++ List.replicate k 0) (Z8 (L - K)) ∧ Keep w1 wr (· = g)) (fun _ i _ => R - D.length - (intOf i).toNat)
  case atStart => exact ⟨0, M, Nat.zero_le _, rfl, rfl, rfl, by simpa using B2.out, Keep.refl _ _⟩
  case round =>
    obtain ⟨k, K, hk, hK, rfl, rfl, b, kk⟩ := hrel
    have hMo := HM.out
    by_cases hlt : k < R - D.length
    · have BK := hide b
      have KK := hide kk
      have z := b.zcell (k := K) (by simp; have := HCl.out; omega) (by simp; have := HCl.out; omega)
      have f := b.free K
      have lg := b.lt
      have hKL : K < L := by omega
      have hHK := hide hK
      have hHM := hide hMo
      clear b kk hK hMo
      go_wp2_with fail
      go_roundw
      case rel =>
        refine ⟨k + 1, K + 1, by omega, by have := hHK.out; omega, by go_num, by go_num, ?_, ?_⟩
        · have := BK.out.z1 (by omega) (k := K) (by simp; have := HCl.out; have := hHK.out; omega) 0
          rw [show L - (K + 1) = L - K - 1 by omega, List.replicate_succ', ← List.append_assoc]
          exact this
        · exact KK.out.setg _ (fun _ => rfl) _
      case measure => simp [intOf]; omega
    · have hk2 : k = R - D.length := by omega
      have hke : (R : Int) - (D.length : Int) ≤ (k : Int) := by omega
      have hRr := HR.out
      have hK2 : K = N + 4 + R := by omega
      have BK := hide b
      have KK := hide (K1.out.trans kk fun _ _ e => e)
      have HK2 := hide hK2
      have Hk2 := hide hk2
      clear b kk hK hMo hk2 hK2 hRr
      go_wp2_with fail
      obtain rfl := HK2.out
      refine HE.out _ _ _ _ _ _ _ _ _ _ _ _ _ _ _ _ _ _ _ _ _ _ _ _ _ _ _ _ _ _ _ _ _ _ _ _ _ _ _ _ _ _ _ _ _ _ _ _ _ _ _ _ _ _ _ _ _ _ _ _ _ _ _ _ _ _ _ _ _ _ _ _ _ _ _ _ _ _ _ _ _ _ _ _ _ _ _ _ _ _ _ _ _ _ _ _ _ _ _ _ _ _ _ _ _ _ _ _ _ _ _ _ _ _ _ _ _ _ _ _ _ _ _ _ _ _ _ _ _ _ _ _ _ _ _ _ _ _ _ _ _ _ _ _ _ _ _ _ _ _ _ _ _ _ _ _ _ _ _ _ _ _ _ _ _ _ _ _ _ _ _ _ _ _ _ _ _ _ _ _ _ _ _ _ _ _ _ _ _ _ _ _ _ _ _ _ _ _ _ _ _ _ _ _ _ _ _ _ _ _ _ _ _ _ _ _ _ _ _ _ _ _ _ _ _ _ _ _ _ _ ?_ KK.out
      have hCo := HC.out
      have := BK.out
      rw [hCo, Hk2.out] at this
      simpa using this
end Go.Proofs.YtdmnflngafbobaaDoor
namespace Go.Proofs.YtdmnflngafbobaaDoor
open Go.RowKit
set_option linter.unusedVariables false
set_option linter.unusedSimpArgs false
set_option maxRecDepth 100000

theorem xsum_one : ∀ xs : List Ex, (xsb 48862 xs).length = xsum 1 xs
  | [] => rfl
  | x :: xs => by
    have := xsum_one xs
    simp only [xsb, xsum, List.flatMap_cons, List.length_append, List.map_cons, List.sum_cons, xb, if_true, List.length_cons] at this ⊢
    omega
theorem xsum_two : ∀ xs : List Ex, (xsb 4096 xs).length = xsum 2 xs
  | [] => rfl
  | x :: xs => by
    have := xsum_two xs
    simp only [xsb, xsum, List.flatMap_cons, List.length_append, List.map_cons, List.sum_cons, xb, show ¬ (4096 : Int) = 48862 by decide, if_false, List.length_cons] at this ⊢
    omega
theorem pad4_eq (n R : Nat) (h : R = (n + 3) / 4 * 4) : pad4 n = List.replicate (R - n) 0 := by
  unfold pad4
  congr 1
  omega
/-- The bytes behind a header's head. -/
theorem out_ext {hd : Hd} {e : List Int} (he : hd.ext = true) (hx : extsB hd.prof hd.exts = some e) : outB hd = headB hd ++ (by16 hd.prof ++ by16 (e.length / 4) ++ e) := by simp [outB, he, hx]
theorem xsb_take_le (prof : Int) (xs : List Ex) (k : Nat) : (xsb prof (xs.take k)).length ≤ (xsb prof xs).length := by
  have : xsb prof xs = xsb prof (xs.take k) ++ xsb prof (xs.drop k) := by
    unfold xsb
    rw [← List.flatMap_append, List.take_append_drop]
  rw [this]
  simp

set_option maxHeartbeats 1600000 in
theorem mto_one {p : Nat → Prop} {hd : Hd} {e : List Int} {A2 : Option Addr} {c2 g L N x : Nat} {sv : Value} {off : Int} {Q : Exit → Act → World → Prop} (wx : World) (u0 u3 u6 u7 u8 u10 u11 u12 u13 u14 u15 u16 u17 u18 u19 u20 u21 u22 u23 u24 u25 u26 u27 u28 u29 u30 u31 u32 u33 u34 u35 u36 u37 u38 u39 u40 u41 u42 u43 u44 u45 u46 u47 u48 u49 u50 u51 u52 u53 u54 u55 u56 u57 u58 u59 u60 u61 u62 u63 u64 u65 u66 u67 u68 u69 u70 u71 u72 u73 u74 u75 u76 u77 u78 u79 u80 u81 u82 u83 u84 u85 u86 u87 u88 u89 u90 u91 u92 u93 u94 u95 u96 u97 u98 u99 u100 u101 u102 u103 u104 u105 u106 u107 u108 u109 u110 u111 u112 u113 u114 u115 u116 u117 u118 u119 u120 u121 u122 u123 u124 u125 u126 u127 u128 u129 u130 u131 u132 u133 u134 u135 u136 u137 u138 u139 u140 u141 u142 u143 u144 u145 u146 u147 u148 u149 u150 u151 u152 u153 u154 u155 u156 u157 u158 u159 u160 u161 u162 u163 u164 u165 u166 u167 u168 u169 u170 u171 u172 u173 u174 u175 u176 u177 u178 u179 u180 u181 u182 u183 u184 u185 u186 u187 u188 u189 u190 u191 u192 u193 u194 u195 u196 u197 u198 u199 u200 u201 u202 u203 u204 u205 u206 u207 u208 u209 u210 u211 u212 u213 u214 u215 u216 u217 u218 u219 u220 u221 u222 u223 u224 u225 u226 u227 u228 u229 u230 : Value)
    (hend : ∀ (v0 v1 v2 v3 v6 v7 v8 v9 v10 v11 v12 v13 v14 v15 v16 v17 v18 v19 v20 v21 v22 v23 v24 v25 v26 v27 v28 v29 v30 v31 v32 v33 v34 v35 v36 v37 v38 v39 v40 v41 v42 v43 v44 v45 v46 v47 v48 v49 v50 v51 v52 v53 v54 v55 v56 v57 v58 v59 v60 v61 v62 v63 v64 v65 v66 v67 v68 v69 v70 v71 v72 v73 v74 v75 v76 v77 v78 v79 v80 v81 v82 v83 v84 v85 v86 v87 v88 v89 v90 v91 v92 v93 v94 v95 v96 v97 v98 v99 v100 v101 v102 v103 v104 v105 v106 v107 v108 v109 v110 v111 v112 v113 v114 v115 v116 v117 v118 v119 v120 v121 v122 v123 v124 v125 v126 v127 v128 v129 v130 v131 v132 v133 v134 v135 v136 v137 v138 v139 v140 v141 v142 v143 v144 v145 v146 v147 v148 v149 v150 v151 v152 v153 v154 v155 v156 v157 v158 v159 v160 v161 v162 v163 v164 v165 v166 v167 v168 v169 v170 v171 v172 v173 v174 v175 v176 v177 v178 v179 v180 v181 v182 v183 v184 v185 v186 v187 v188 v189 v190 v191 v192 v193 v194 v195 v196 v197 v198 v199 v200 v201 v202 v203 v204 v205 v206 v207 v208 v209 v210 v211 v212 v213 v214 v215 v216 v217 v218 v219 v220 v221 v222 v223 v224 v225 v226 v227 v228 v229 v230 : Value) (w' : World), Buf w' g (outB hd) (Z8 (L - hsize hd)) → Keep wx w' (· = g) → Q .normal ⟨List.toArray (v0 :: v1 :: v2 :: v3 :: .int .i64 (hsize hd : Nat) :: .nilIface :: v6 :: v7 :: v8 :: v9 :: v10 :: v11 :: v12 :: v13 :: v14 :: v15 :: v16 :: v17 :: v18 :: v19 :: v20 :: v21 :: v22 :: v23 :: v24 :: v25 :: v26 :: v27 :: v28 :: v29 :: v30 :: v31 :: v32 :: v33 :: v34 :: v35 :: v36 :: v37 :: v38 :: v39 :: v40 :: v41 :: v42 :: v43 :: v44 :: v45 :: v46 :: v47 :: v48 :: v49 :: v50 :: v51 :: v52 :: v53 :: v54 :: v55 :: v56 :: v57 :: v58 :: v59 :: v60 :: v61 :: v62 :: v63 :: v64 :: v65 :: v66 :: v67 :: v68 :: v69 :: v70 :: v71 :: v72 :: v73 :: v74 :: v75 :: v76 :: v77 :: v78 :: v79 :: v80 :: v81 :: v82 :: v83 :: v84 :: v85 :: v86 :: v87 :: v88 :: v89 :: v90 :: v91 :: v92 :: v93 :: v94 :: v95 :: v96 :: v97 :: v98 :: v99 :: v100 :: v101 :: v102 :: v103 :: v104 :: v105 :: v106 :: v107 :: v108 :: v109 :: v110 :: v111 :: v112 :: v113 :: v114 :: v115 :: v116 :: v117 :: v118 :: v119 :: v120 :: v121 :: v122 :: v123 :: v124 :: v125 :: v126 :: v127 :: v128 :: v129 :: v130 :: v131 :: v132 :: v133 :: v134 :: v135 :: v136 :: v137 :: v138 :: v139 :: v140 :: v141 :: v142 :: v143 :: v144 :: v145 :: v146 :: v147 :: v148 :: v149 :: v150 :: v151 :: v152 :: v153 :: v154 :: v155 :: v156 :: v157 :: v158 :: v159 :: v160 :: v161 :: v162 :: v163 :: v164 :: v165 :: v166 :: v167 :: v168 :: v169 :: v170 :: v171 :: v172 :: v173 :: v174 :: v175 :: v176 :: v177 :: v178 :: v179 :: v180 :: v181 :: v182 :: v183 :: v184 :: v185 :: v186 :: v187 :: v188 :: v189 :: v190 :: v191 :: v192 :: v193 :: v194 :: v195 :: v196 :: v197 :: v198 :: v199 :: v200 :: v201 :: v202 :: v203 :: v204 :: v205 :: v206 :: v207 :: v208 :: v209 :: v210 :: v211 :: v212 :: v213 :: v214 :: v215 :: v216 :: v217 :: v218 :: v219 :: v220 :: v221 :: v222 :: v223 :: v224 :: v225 :: v226 :: v227 :: v228 :: v229 :: v230 :: []), []⟩ w')
    (hX : XR wx p (.slice A2 hd.exts.length c2) hd.exts) (hpg : ∀ k, p k → k ≠ g) (hg : Good hd) (he : hd.ext = true) (hp : hd.prof = 48862) (hx : extsB hd.prof hd.exts = some e) (hel : e.length ≤ 262140) (hn : hd.exts.length ≤ 2147483647) (hxg : x ≠ g)
    (hB : Buf wx g (headB hd ++ by16 hd.prof) (Z8 (L - N - 2))) (hBX : Blk wx x 108 (rcells hd sv (.slice A2 hd.exts.length c2) off)) (hN : N = 12 + 4 * hd.srcs.length) (hL : hsize hd ≤ L) (hLm : L ≤ 1099511627776) :
    Part Tryd.prog Tryd.f73 25 Q ⟨List.toArray (u0 :: .slice (some ⟨g, 0, none⟩) L L :: .pointer (some ⟨x, 0, none⟩) :: u3 :: .int .i64 (N : Int) :: .nilIface :: u6 :: u7 :: u8 :: .int .i64 (N : Int) :: u10 :: u11 :: u12 :: u13 :: u14 :: u15 :: u16 :: u17 :: u18 :: u19 :: u20 :: u21 :: u22 :: u23 :: u24 :: u25 :: u26 :: u27 :: u28 :: u29 :: u30 :: u31 :: u32 :: u33 :: u34 :: u35 :: u36 :: u37 :: u38 :: u39 :: u40 :: u41 :: u42 :: u43 :: u44 :: u45 :: u46 :: u47 :: u48 :: u49 :: u50 :: u51 :: u52 :: u53 :: u54 :: u55 :: u56 :: u57 :: u58 :: u59 :: u60 :: u61 :: u62 :: u63 :: u64 :: u65 :: u66 :: u67 :: u68 :: u69 :: u70 :: u71 :: u72 :: u73 :: u74 :: u75 :: u76 :: u77 :: u78 :: u79 :: u80 :: u81 :: u82 :: u83 :: u84 :: u85 :: u86 :: u87 :: u88 :: u89 :: u90 :: u91 :: u92 :: u93 :: u94 :: u95 :: u96 :: u97 :: u98 :: u99 :: u100 :: u101 :: u102 :: u103 :: u104 :: u105 :: u106 :: u107 :: u108 :: u109 :: u110 :: u111 :: u112 :: u113 :: u114 :: u115 :: u116 :: u117 :: u118 :: u119 :: u120 :: u121 :: u122 :: u123 :: u124 :: u125 :: u126 :: u127 :: u128 :: u129 :: u130 :: u131 :: u132 :: u133 :: u134 :: u135 :: u136 :: u137 :: u138 :: u139 :: u140 :: u141 :: u142 :: u143 :: u144 :: u145 :: u146 :: u147 :: u148 :: u149 :: u150 :: u151 :: u152 :: u153 :: u154 :: u155 :: u156 :: u157 :: u158 :: u159 :: u160 :: u161 :: u162 :: u163 :: u164 :: u165 :: u166 :: u167 :: u168 :: u169 :: u170 :: u171 :: u172 :: u173 :: u174 :: u175 :: u176 :: u177 :: u178 :: u179 :: u180 :: u181 :: u182 :: u183 :: u184 :: u185 :: u186 :: u187 :: u188 :: u189 :: u190 :: u191 :: u192 :: u193 :: u194 :: u195 :: u196 :: u197 :: u198 :: u199 :: u200 :: u201 :: u202 :: u203 :: u204 :: u205 :: u206 :: u207 :: u208 :: u209 :: u210 :: u211 :: u212 :: u213 :: u214 :: u215 :: u216 :: u217 :: u218 :: u219 :: u220 :: u221 :: u222 :: u223 :: u224 :: u225 :: u226 :: u227 :: u228 :: u229 :: u230 :: []), []⟩ wx := by
  have hfa : fitsAll 48862 hd.exts = true ∧ e = xsb 48862 hd.exts ++ pad4 (xsb 48862 hd.exts).length := by
    rw [hp] at hx
    unfold extsB at hx
    rw [if_neg (by decide), if_neg (by decide)] at hx
    split at hx
    · rename_i h
      injection hx with hx
      exact ⟨h, hx.symm⟩
    · cases hx
  obtain ⟨hfa, hee⟩ := hfa
  obtain ⟨R, hR⟩ : ∃ R, R = ((xsb 48862 hd.exts).length + 3) / 4 * 4 := ⟨_, rfl⟩
  have hpd := pad4_eq _ _ hR
  have helr : e.length = R := by rw [hee, hpd]; simp; omega
  have hsz : hsize hd = N + 4 + R := by
    have e1 : xsize hd = (xsb 48862 hd.exts).length := by rw [xsum_one]; simp [xsize, hp]
    unfold hsize
    rw [he, e1, hN, hR]
    simp; omega
  have hRL : N + 4 + R ≤ L := by omega
  have hRm : R ≤ 262140 := by omega
  have hXL : (xsb 48862 hd.exts).length ≤ R := by omega
  have hsr := hg.srcs
  have hs15 : N ≤ 72 := by omega
  have HE := hide hend
  have HX := hide hX
  have HP := hide hpg
  have HG := hide hg
  have HFA := hide hfa
  have HEE := hide hee
  have HR := hide hR
  have HPD := hide hpd
  have HELR := hide helr
  have HSZ := hide hsz
  have HPR := hide hp
  have HEX := hide he
  have HEB := hide hx
  have HN := hide hN
  have B0 := hide (show Buf wx g (headB hd ++ by16 hd.prof ++ [0, 0]) (Z8 (L - (N + 4))) by have := hB.zero 2 (by omega); rw [show L - N - 2 - 2 = L - (N + 4) by omega] at this; exact this)
  have x9 := hBX.cell 9 (v := .int .u16 48862) (by rw [← hp]; rfl)
  have x10 := hBX.cell 10 (v := .slice A2 hd.exts.length c2) rfl
  have HBX := hide hBX
  have hL2 := hL
  clear hend hX hpg hg hfa hee hR hpd helr hp he hx hN hB hBX hL hL2
  refine part_open (fun c hc K hK => ?_)
  conv at hc => rhs; whnf
  subst hc
  dsimp only [xOf, yOf] at hK ⊢
  go_wp2_with fail
  go_loopw [4, 140] (fun s i wr => ∃ k M : Nat, k ≤ hd.exts.length ∧ M = N + 4 + (xsb 48862 (hd.exts.take k)).length ∧ i = .int .i64 (k : Int) ∧ s = .int .i64 (M : Int) ∧ Buf wr g (headB hd ++ by16 hd.prof ++ [0, 0] ++ xsb 48862 (hd.exts.take k)) (Z8 (L - M)) ∧ Keep wx wr (· = g)) (fun _ i _ => hd.exts.length - (intOf i).toNat)
  case atStart => exact ⟨0, N + 4, Nat.zero_le _, by simp [xsb], rfl, by go_num, by simpa [xsb] using B0.out, Keep.refl _ _⟩
  case round =>
    obtain ⟨k, M, hk, hM, rfl, rfl, hB, hK⟩ := hrel
    by_cases hlt : k < hd.exts.length
    · have hg' : hd.exts[k]? = some hd.exts[k] := List.getElem?_eq_getElem _
      obtain ⟨b, o, c', d, hv, q1, q2, q3, q4, p5, p6, q7⟩ := (HX.out.keep hK (fun i hi hp => HP.out i hp)).at_ hg'
      injection hv with e1 _ e3
      subst e1 e3
      have hf := List.all_eq_true.1 HFA.out _ (List.mem_of_getElem? hg')
      have hid := HG.out.ok.exts _ (List.mem_of_getElem? hg')
      have hsn := xsb_snoc 48862 hd.exts k _ hg'
      have hle := xsb_take_le 48862 hd.exts (k + 1)
      generalize hd.exts[k] = x' at *
      have hfi : 1 ≤ x'.id ∧ x'.id ≤ 14 ∧ 1 ≤ x'.data.length ∧ x'.data.length ≤ 16 := by simpa [fitsB] using hf
      have hxb : xb 48862 x' = (x'.id * 16 + ((x'.data.length : Int) - 1)) :: x'.data := by simp [xb]
      rw [hsn, List.length_append, hxb, List.length_cons] at hle
      have hML : M + 1 + x'.data.length ≤ L := by omega
      have hpb := HP.out b q3
      obtain ⟨A', c2', rfl⟩ := q7.shape
      have Q7 := hide q7
      have HGG := hide hg'
      have HSN := hide hsn
      have HXB := hide hxb
      have HK := hide hK
      have HB' := hide hB
      have HM := hide hM
      have hgr := hB.lt
      have hMl : M = (headB hd ++ by16 hd.prof ++ [0, 0] ++ xsb 48862 (hd.exts.take k)).length := by
        have := headB_len hd
        have := HN.out
        simp only [List.length_append, this, hM]
        simp [by16]
        omega
      have HML := hide hMl
      have z := hB.zcell (k := M) (by omega) (by omega)
      have fz := hB.free M
      have eo : bits .or .u8 (x'.id * 16) ((x'.data.length : Int) - 1) = x'.id * 16 + ((x'.data.length : Int) - 1) := or8 4 _ _ (by omega) (by omega) (by omega) (by omega) (by decide) (by omega)
      have hL1 : ¬ L = M + 1 := by omega
      have hid' := hid.1
      have HID := hide hid
      clear q7 hg' hsn hxb hK hB hM hMl hf hid
      go_upto_region 39 with fail
      generalize hw2 : World.alloc (World.setCell wr _ _) _ = w2
      have B2 := hide (show Buf w2 g (headB hd ++ by16 hd.prof ++ [0, 0] ++ xsb 48862 (hd.exts.take k) ++ [x'.id * 16 + ((x'.data.length : Int) - 1)]) (Z8 (L - M - 1)) by subst hw2; exact (HB'.out.z1 (by omega) HML.out _).alloc _)
      have K2 := hide (show Keep wr w2 (· = g) by subst hw2; exact (Keep.set1 _ _ _ _).alloc _)
      have X2 := hide (show Blk w2 wr.heap.size 139 #[.int .u8 x'.id, .slice A' x'.data.length c2'] by subst hw2; exact Blk.new' (size_set1 _ _ _).symm)
      have R2 := hide ((Q7.out.keep K2.out (fun i hi hp => HP.out i hp)).drew)
      clear hw2 z fz eo p5 p6 hid'
      have y1 := X2.out.drew.cell 1 (v := .slice A' x'.data.length c2') rfl
      have hM1 : (M : Int) + 1 ≤ (L : Int) := by omega
      have hM0 : (0 : Int) ≤ (M : Int) + 1 := by omega
      have hMn : ((M : Int) + 1).toNat = M + 1 := by omega
      have hml : M + 1 ≤ L := by omega
      have hgx : ¬ wr.heap.size = g := by omega
      have hwr : IntKind.i64.wrap ((M : Int) + 1 + (x'.data.length : Int)) = (M : Int) + 1 + (x'.data.length : Int) := by rw [IntKind.wrap_i64]; omega
      go_region_held3 (fun w' => w'.cell? ⟨wr.heap.size, 1, none⟩ = some (.slice A' x'.data.length c2'))
        (first | exact y1 | exact y2)
        (first
          | (refine step_copyZ (by rfl) _ _ (by rfl) Tryd.underlying29 (by kernel_rfl) B2.out.drew R2.out (by rfl) (by rfl) (fun _ => by simp [HML.out]) (by omega) (by omega) ?_; intro w5 hb5 hk5; have y2 := hk5.cell hgx y1; have B5 := hide hb5; have K5 := hide hk5; clear hb5 hk5))
      have B6 := hide (show Buf w5 g (headB hd ++ by16 hd.prof ++ [0, 0] ++ xsb 48862 (hd.exts.take (k + 1))) (Z8 (L - (M + 1 + x'.data.length))) by
        have := B5.out
        rw [HSN.out, HXB.out, show L - (M + 1 + x'.data.length) = L - M - 1 - x'.data.length by omega]
        simpa using this)
      have K6 := hide (HK.out.trans ((K2.out.drew).trans K5.out fun _ _ e => e) fun _ _ e => e)
      have hM' : M + 1 + x'.data.length = N + 4 + (xsb 48862 (hd.exts.take (k + 1))).length := by
        rw [HSN.out, HXB.out, List.length_append, HM.out, List.length_cons]; omega
      have HM' := hide hM'
      clear y1 y2 hM1 hM0 hMn hwr hM'
      go_wp2_with fail
      go_roundw
      case rel => exact ⟨k + 1, M + 1 + x'.data.length, by omega, HM'.out, by go_num, by go_num, B6.out, K6.out⟩
      case measure => simp [intOf]; omega
    · obtain rfl : k = hd.exts.length := by omega
      rw [List.take_length] at hM hB
      have HB := hide hB
      have HM := hide hM
      have HK := hide hK
      clear hB hM hK
      go_upto_region 51 with fail
      refine part_use (mto_tail (A := headB hd) (P := by16 hd.prof) (D := xsb 48862 hd.exts) (N := N) (M := M) (R := R) (Q := Q) wr _ _ _ _ _ _ _ _ _ _ _ _ _ _ _ _ _ _ _ _ _ _ _ _ _ _ _ _ _ _ _ _ _ _ _ _ _ _ _ _ _ _ _ _ _ _ _ _ _ _ _ _ _ _ _ _ _ _ _ _ _ _ _ _ _ _ _ _ _ _ _ _ _ _ _ _ _ _ _ _ _ _ _ _ _ _ _ _ _ _ _ _ _ _ _ _ _ _ _ _ _ _ _ _ _ _ _ _ _ _ _ _ _ _ _ _ _ _ _ _ _ _ _ _ _ _ _ _ _ _ _ _ _ _ _ _ _ _ _ _ _ _ _ _ _ _ _ _ _ _ _ _ _ _ _ _ _ _ _ _ _ _ _ _ _ _ _ _ _ _ _ _ _ _ _ _ _ _ _ _ _ _ _ _ _ _ _ _ _ _ _ _ _ _ _ _ _ _ _ _ _ _ _ _ _ _ _ _ _ _ _ _ _ _ _ _ _ _ _ _ _ _ _ _ _ _ ?_ HB.out (by rw [headB_len]; exact HN.out.symm) rfl HM.out HR.out (by omega) (by omega) (by omega)) rfl rfl (by assumption)
      intro v0 v1 v2 v3 v6 v7 v8 v9 v10 v11 v12 v13 v14 v15 v16 v17 v18 v19 v20 v21 v22 v23 v24 v25 v26 v27 v28 v29 v30 v31 v32 v33 v34 v35 v36 v37 v38 v39 v40 v41 v42 v43 v44 v45 v46 v47 v48 v49 v50 v51 v52 v53 v54 v55 v56 v57 v58 v59 v60 v61 v62 v63 v64 v65 v66 v67 v68 v69 v70 v71 v72 v73 v74 v75 v76 v77 v78 v79 v80 v81 v82 v83 v84 v85 v86 v87 v88 v89 v90 v91 v92 v93 v94 v95 v96 v97 v98 v99 v100 v101 v102 v103 v104 v105 v106 v107 v108 v109 v110 v111 v112 v113 v114 v115 v116 v117 v118 v119 v120 v121 v122 v123 v124 v125 v126 v127 v128 v129 v130 v131 v132 v133 v134 v135 v136 v137 v138 v139 v140 v141 v142 v143 v144 v145 v146 v147 v148 v149 v150 v151 v152 v153 v154 v155 v156 v157 v158 v159 v160 v161 v162 v163 v164 v165 v166 v167 v168 v169 v170 v171 v172 v173 v174 v175 v176 v177 v178 v179 v180 v181 v182 v183 v184 v185 v186 v187 v188 v189 v190 v191 v192 v193 v194 v195 v196 v197 v198 v199 v200 v201 v202 v203 v204 v205 v206 v207 v208 v209 v210 v211 v212 v213 v214 v215 v216 v217 v218 v219 v220 v221 v222 v223 v224 v225 v226 v227 v228 v229 v230 w' b kk
      have e1 : outB hd = headB hd ++ by16 hd.prof ++ by16 ((R : Int) / 4) ++ xsb 48862 hd.exts ++ List.replicate (R - (xsb 48862 hd.exts).length) 0 := by
        rw [out_ext HEX.out HEB.out, HELR.out, HEE.out, HPD.out]
        simp
      rw [← e1] at b
      rw [← hsz] at b ⊢
      exact HE.out _ _ _ _ _ _ _ _ _ _ _ _ _ _ _ _ _ _ _ _ _ _ _ _ _ _ _ _ _ _ _ _ _ _ _ _ _ _ _ _ _ _ _ _ _ _ _ _ _ _ _ _ _ _ _ _ _ _ _ _ _ _ _ _ _ _ _ _ _ _ _ _ _ _ _ _ _ _ _ _ _ _ _ _ _ _ _ _ _ _ _ _ _ _ _ _ _ _ _ _ _ _ _ _ _ _ _ _ _ _ _ _ _ _ _ _ _ _ _ _ _ _ _ _ _ _ _ _ _ _ _ _ _ _ _ _ _ _ _ _ _ _ _ _ _ _ _ _ _ _ _ _ _ _ _ _ _ _ _ _ _ _ _ _ _ _ _ _ _ _ _ _ _ _ _ _ _ _ _ _ _ _ _ _ _ _ _ _ _ _ _ _ _ _ _ _ _ _ _ _ _ _ _ _ _ _ _ _ _ _ _ _ _ _ _ _ _ _ _ _ _ _ _ _ _ _ _ _ _ _ b (HK.out.trans kk fun _ _ e => e)
set_option maxHeartbeats 1600000 in
theorem mto_two {p : Nat → Prop} {hd : Hd} {e : List Int} {A2 : Option Addr} {c2 g L N x : Nat} {sv : Value} {off : Int} {Q : Exit → Act → World → Prop} (wx : World) (u0 u3 u6 u7 u8 u10 u11 u12 u13 u14 u15 u16 u17 u18 u19 u20 u21 u22 u23 u24 u25 u26 u27 u28 u29 u30 u31 u32 u33 u34 u35 u36 u37 u38 u39 u40 u41 u42 u43 u44 u45 u46 u47 u48 u49 u50 u51 u52 u53 u54 u55 u56 u57 u58 u59 u60 u61 u62 u63 u64 u65 u66 u67 u68 u69 u70 u71 u72 u73 u74 u75 u76 u77 u78 u79 u80 u81 u82 u83 u84 u85 u86 u87 u88 u89 u90 u91 u92 u93 u94 u95 u96 u97 u98 u99 u100 u101 u102 u103 u104 u105 u106 u107 u108 u109 u110 u111 u112 u113 u114 u115 u116 u117 u118 u119 u120 u121 u122 u123 u124 u125 u126 u127 u128 u129 u130 u131 u132 u133 u134 u135 u136 u137 u138 u139 u140 u141 u142 u143 u144 u145 u146 u147 u148 u149 u150 u151 u152 u153 u154 u155 u156 u157 u158 u159 u160 u161 u162 u163 u164 u165 u166 u167 u168 u169 u170 u171 u172 u173 u174 u175 u176 u177 u178 u179 u180 u181 u182 u183 u184 u185 u186 u187 u188 u189 u190 u191 u192 u193 u194 u195 u196 u197 u198 u199 u200 u201 u202 u203 u204 u205 u206 u207 u208 u209 u210 u211 u212 u213 u214 u215 u216 u217 u218 u219 u220 u221 u222 u223 u224 u225 u226 u227 u228 u229 u230 : Value)
    (hend : ∀ (v0 v1 v2 v3 v6 v7 v8 v9 v10 v11 v12 v13 v14 v15 v16 v17 v18 v19 v20 v21 v22 v23 v24 v25 v26 v27 v28 v29 v30 v31 v32 v33 v34 v35 v36 v37 v38 v39 v40 v41 v42 v43 v44 v45 v46 v47 v48 v49 v50 v51 v52 v53 v54 v55 v56 v57 v58 v59 v60 v61 v62 v63 v64 v65 v66 v67 v68 v69 v70 v71 v72 v73 v74 v75 v76 v77 v78 v79 v80 v81 v82 v83 v84 v85 v86 v87 v88 v89 v90 v91 v92 v93 v94 v95 v96 v97 v98 v99 v100 v101 v102 v103 v104 v105 v106 v107 v108 v109 v110 v111 v112 v113 v114 v115 v116 v117 v118 v119 v120 v121 v122 v123 v124 v125 v126 v127 v128 v129 v130 v131 v132 v133 v134 v135 v136 v137 v138 v139 v140 v141 v142 v143 v144 v145 v146 v147 v148 v149 v150 v151 v152 v153 v154 v155 v156 v157 v158 v159 v160 v161 v162 v163 v164 v165 v166 v167 v168 v169 v170 v171 v172 v173 v174 v175 v176 v177 v178 v179 v180 v181 v182 v183 v184 v185 v186 v187 v188 v189 v190 v191 v192 v193 v194 v195 v196 v197 v198 v199 v200 v201 v202 v203 v204 v205 v206 v207 v208 v209 v210 v211 v212 v213 v214 v215 v216 v217 v218 v219 v220 v221 v222 v223 v224 v225 v226 v227 v228 v229 v230 : Value) (w' : World), Buf w' g (outB hd) (Z8 (L - hsize hd)) → Keep wx w' (· = g) → Q .normal ⟨List.toArray (v0 :: v1 :: v2 :: v3 :: .int .i64 (hsize hd : Nat) :: .nilIface :: v6 :: v7 :: v8 :: v9 :: v10 :: v11 :: v12 :: v13 :: v14 :: v15 :: v16 :: v17 :: v18 :: v19 :: v20 :: v21 :: v22 :: v23 :: v24 :: v25 :: v26 :: v27 :: v28 :: v29 :: v30 :: v31 :: v32 :: v33 :: v34 :: v35 :: v36 :: v37 :: v38 :: v39 :: v40 :: v41 :: v42 :: v43 :: v44 :: v45 :: v46 :: v47 :: v48 :: v49 :: v50 :: v51 :: v52 :: v53 :: v54 :: v55 :: v56 :: v57 :: v58 :: v59 :: v60 :: v61 :: v62 :: v63 :: v64 :: v65 :: v66 :: v67 :: v68 :: v69 :: v70 :: v71 :: v72 :: v73 :: v74 :: v75 :: v76 :: v77 :: v78 :: v79 :: v80 :: v81 :: v82 :: v83 :: v84 :: v85 :: v86 :: v87 :: v88 :: v89 :: v90 :: v91 :: v92 :: v93 :: v94 :: v95 :: v96 :: v97 :: v98 :: v99 :: v100 :: v101 :: v102 :: v103 :: v104 :: v105 :: v106 :: v107 :: v108 :: v109 :: v110 :: v111 :: v112 :: v113 :: v114 :: v115 :: v116 :: v117 :: v118 :: v119 :: v120 :: v121 :: v122 :: v123 :: v124 :: v125 :: v126 :: v127 :: v128 :: v129 :: v130 :: v131 :: v132 :: v133 :: v134 :: v135 :: v136 :: v137 :: v138 :: v139 :: v140 :: v141 :: v142 :: v143 :: v144 :: v145 :: v146 :: v147 :: v148 :: v149 :: v150 :: v151 :: v152 :: v153 :: v154 :: v155 :: v156 :: v157 :: v158 :: v159 :: v160 :: v161 :: v162 :: v163 :: v164 :: v165 :: v166 :: v167 :: v168 :: v169 :: v170 :: v171 :: v172 :: v173 :: v174 :: v175 :: v176 :: v177 :: v178 :: v179 :: v180 :: v181 :: v182 :: v183 :: v184 :: v185 :: v186 :: v187 :: v188 :: v189 :: v190 :: v191 :: v192 :: v193 :: v194 :: v195 :: v196 :: v197 :: v198 :: v199 :: v200 :: v201 :: v202 :: v203 :: v204 :: v205 :: v206 :: v207 :: v208 :: v209 :: v210 :: v211 :: v212 :: v213 :: v214 :: v215 :: v216 :: v217 :: v218 :: v219 :: v220 :: v221 :: v222 :: v223 :: v224 :: v225 :: v226 :: v227 :: v228 :: v229 :: v230 :: []), []⟩ w')
    (hX : XR wx p (.slice A2 hd.exts.length c2) hd.exts) (hpg : ∀ k, p k → k ≠ g) (hg : Good hd) (he : hd.ext = true) (hp : hd.prof = 4096) (hx : extsB hd.prof hd.exts = some e) (hel : e.length ≤ 262140) (hn : hd.exts.length ≤ 2147483647) (hxg : x ≠ g)
    (hB : Buf wx g (headB hd ++ by16 hd.prof) (Z8 (L - N - 2))) (hBX : Blk wx x 108 (rcells hd sv (.slice A2 hd.exts.length c2) off)) (hN : N = 12 + 4 * hd.srcs.length) (hL : hsize hd ≤ L) (hLm : L ≤ 1099511627776) :
    Part Tryd.prog Tryd.f73 25 Q ⟨List.toArray (u0 :: .slice (some ⟨g, 0, none⟩) L L :: .pointer (some ⟨x, 0, none⟩) :: u3 :: .int .i64 (N : Int) :: .nilIface :: u6 :: u7 :: u8 :: .int .i64 (N : Int) :: u10 :: u11 :: u12 :: u13 :: u14 :: u15 :: u16 :: u17 :: u18 :: u19 :: u20 :: u21 :: u22 :: u23 :: u24 :: u25 :: u26 :: u27 :: u28 :: u29 :: u30 :: u31 :: u32 :: u33 :: u34 :: u35 :: u36 :: u37 :: u38 :: u39 :: u40 :: u41 :: u42 :: u43 :: u44 :: u45 :: u46 :: u47 :: u48 :: u49 :: u50 :: u51 :: u52 :: u53 :: u54 :: u55 :: u56 :: u57 :: u58 :: u59 :: u60 :: u61 :: u62 :: u63 :: u64 :: u65 :: u66 :: u67 :: u68 :: u69 :: u70 :: u71 :: u72 :: u73 :: u74 :: u75 :: u76 :: u77 :: u78 :: u79 :: u80 :: u81 :: u82 :: u83 :: u84 :: u85 :: u86 :: u87 :: u88 :: u89 :: u90 :: u91 :: u92 :: u93 :: u94 :: u95 :: u96 :: u97 :: u98 :: u99 :: u100 :: u101 :: u102 :: u103 :: u104 :: u105 :: u106 :: u107 :: u108 :: u109 :: u110 :: u111 :: u112 :: u113 :: u114 :: u115 :: u116 :: u117 :: u118 :: u119 :: u120 :: u121 :: u122 :: u123 :: u124 :: u125 :: u126 :: u127 :: u128 :: u129 :: u130 :: u131 :: u132 :: u133 :: u134 :: u135 :: u136 :: u137 :: u138 :: u139 :: u140 :: u141 :: u142 :: u143 :: u144 :: u145 :: u146 :: u147 :: u148 :: u149 :: u150 :: u151 :: u152 :: u153 :: u154 :: u155 :: u156 :: u157 :: u158 :: u159 :: u160 :: u161 :: u162 :: u163 :: u164 :: u165 :: u166 :: u167 :: u168 :: u169 :: u170 :: u171 :: u172 :: u173 :: u174 :: u175 :: u176 :: u177 :: u178 :: u179 :: u180 :: u181 :: u182 :: u183 :: u184 :: u185 :: u186 :: u187 :: u188 :: u189 :: u190 :: u191 :: u192 :: u193 :: u194 :: u195 :: u196 :: u197 :: u198 :: u199 :: u200 :: u201 :: u202 :: u203 :: u204 :: u205 :: u206 :: u207 :: u208 :: u209 :: u210 :: u211 :: u212 :: u213 :: u214 :: u215 :: u216 :: u217 :: u218 :: u219 :: u220 :: u221 :: u222 :: u223 :: u224 :: u225 :: u226 :: u227 :: u228 :: u229 :: u230 :: []), []⟩ wx := by
  have hfa : fitsAll 4096 hd.exts = true ∧ e = xsb 4096 hd.exts ++ pad4 (xsb 4096 hd.exts).length := by
    rw [hp] at hx
    unfold extsB at hx
    rw [if_neg (by decide), if_neg (by decide)] at hx
    split at hx
    · rename_i h
      injection hx with hx
      exact ⟨h, hx.symm⟩
    · cases hx
  obtain ⟨hfa, hee⟩ := hfa
  obtain ⟨R, hR⟩ : ∃ R, R = ((xsb 4096 hd.exts).length + 3) / 4 * 4 := ⟨_, rfl⟩
  have hpd := pad4_eq _ _ hR
  have helr : e.length = R := by rw [hee, hpd]; simp; omega
  have hsz : hsize hd = N + 4 + R := by
    have e1 : xsize hd = (xsb 4096 hd.exts).length := by rw [xsum_two]; simp [xsize, hp]
    unfold hsize
    rw [he, e1, hN, hR]
    simp; omega
  have hRL : N + 4 + R ≤ L := by omega
  have hRm : R ≤ 262140 := by omega
  have hXL : (xsb 4096 hd.exts).length ≤ R := by omega
  have hsr := hg.srcs
  have hs15 : N ≤ 72 := by omega
  have HE := hide hend
  have HX := hide hX
  have HP := hide hpg
  have HG := hide hg
  have HFA := hide hfa
  have HEE := hide hee
  have HR := hide hR
  have HPD := hide hpd
  have HELR := hide helr
  have HSZ := hide hsz
  have HPR := hide hp
  have HEX := hide he
  have HEB := hide hx
  have HN := hide hN
  have B0 := hide (show Buf wx g (headB hd ++ by16 hd.prof ++ [0, 0]) (Z8 (L - (N + 4))) by have := hB.zero 2 (by omega); rw [show L - N - 2 - 2 = L - (N + 4) by omega] at this; exact this)
  have x9 := hBX.cell 9 (v := .int .u16 4096) (by rw [← hp]; rfl)
  have x10 := hBX.cell 10 (v := .slice A2 hd.exts.length c2) rfl
  have HBX := hide hBX
  have hL2 := hL
  clear hend hX hpg hg hfa hee hR hpd helr hp he hx hN hB hBX hL hL2
  refine part_open (fun c hc K hK => ?_)
  conv at hc => rhs; whnf
  subst hc
  dsimp only [xOf, yOf] at hK ⊢
  go_wp2_with fail
  go_loopw [4, 172] (fun s i wr => ∃ k M : Nat, k ≤ hd.exts.length ∧ M = N + 4 + (xsb 4096 (hd.exts.take k)).length ∧ i = .int .i64 (k : Int) ∧ s = .int .i64 (M : Int) ∧ Buf wr g (headB hd ++ by16 hd.prof ++ [0, 0] ++ xsb 4096 (hd.exts.take k)) (Z8 (L - M)) ∧ Keep wx wr (· = g)) (fun _ i _ => hd.exts.length - (intOf i).toNat)
  case atStart => exact ⟨0, N + 4, Nat.zero_le _, by simp [xsb], rfl, by go_num, by simpa [xsb] using B0.out, Keep.refl _ _⟩
  case round =>
    obtain ⟨k, M, hk, hM, rfl, rfl, hB, hK⟩ := hrel
    by_cases hlt : k < hd.exts.length
    · have hg' : hd.exts[k]? = some hd.exts[k] := List.getElem?_eq_getElem _
      obtain ⟨b, o, c', d, hv, q1, q2, q3, q4, p5, p6, q7⟩ := (HX.out.keep hK (fun i hi hp => HP.out i hp)).at_ hg'
      injection hv with e1 _ e3
      subst e1 e3
      have hf := List.all_eq_true.1 HFA.out _ (List.mem_of_getElem? hg')
      have hid := HG.out.ok.exts _ (List.mem_of_getElem? hg')
      have hsn := xsb_snoc 4096 hd.exts k _ hg'
      have hle := xsb_take_le 4096 hd.exts (k + 1)
      generalize hd.exts[k] = x' at *
      have hfi : 1 ≤ x'.id ∧ x'.data.length ≤ 255 := by simpa [fitsB] using hf
      have hxb : xb 4096 x' = x'.id :: (x'.data.length : Int) :: x'.data := by simp [xb]
      rw [hsn, List.length_append, hxb, List.length_cons, List.length_cons] at hle
      have hML : M + 2 + x'.data.length ≤ L := by omega
      have hpb := HP.out b q3
      obtain ⟨A', c2', rfl⟩ := q7.shape
      have Q7 := hide q7
      have HGG := hide hg'
      have HSN := hide hsn
      have HXB := hide hxb
      have HK := hide hK
      have HB' := hide hB
      have HM := hide hM
      have hgr := hB.lt
      have hMl : M = (headB hd ++ by16 hd.prof ++ [0, 0] ++ xsb 4096 (hd.exts.take k)).length := by
        have := headB_len hd
        have := HN.out
        simp only [List.length_append, this, hM]
        simp [by16]
        omega
      have HML := hide hMl
      have z := hB.zcell (k := M) (by omega) (by omega)
      have z' := hB.zcell (k := M + 1) (by omega) (by omega)
      have fz := hB.free M
      have fz' := hB.free (M + 1)
      have hL1 : ¬ L = M + 1 := by omega
      have hid' := hid.1
      have HID := hide hid
      clear q7 hg' hsn hxb hK hB hM hMl hf hid
      go_upto_region 49 with fail
      generalize hw2 : World.alloc (World.setCell (World.setCell wr _ _) _ _) _ = w2
      have B2 := hide (show Buf w2 g (headB hd ++ by16 hd.prof ++ [0, 0] ++ xsb 4096 (hd.exts.take k) ++ [x'.id] ++ [(x'.data.length : Int)]) (Z8 (L - M - 1 - 1)) by subst hw2; exact ((HB'.out.z1 (by omega) HML.out _).z1 (by omega) (k := M + 1) (by simp only [List.length_append, List.length_cons, List.length_nil]; have := HML.out; simp only [List.length_append, List.length_cons, List.length_nil] at this; omega) _).alloc _)
      have K2 := hide (show Keep wr w2 (· = g) by subst hw2; exact (((Keep.refl wr (· = g)).setg _ (fun _ => rfl) _).setg _ (fun _ => rfl) _).alloc _)
      have X2 := hide (show Blk w2 wr.heap.size 139 #[.int .u8 x'.id, .slice A' x'.data.length c2'] by subst hw2; exact Blk.new' (by rw [size_set1, size_set1]))
      have R2 := hide ((Q7.out.keep K2.out (fun i hi hp => HP.out i hp)).drew)
      clear hw2 z fz z' fz' p5 p6 hid'
      have y1 := X2.out.drew.cell 1 (v := .slice A' x'.data.length c2') rfl
      have hM1 : (M : Int) + 1 + 1 ≤ (L : Int) := by omega
      have hM0 : (0 : Int) ≤ (M : Int) + 1 + 1 := by omega
      have hMn : ((M : Int) + 1 + 1).toNat = M + 1 + 1 := by omega
      have hml : M + 1 + 1 ≤ L := by omega
      have hgx : ¬ wr.heap.size = g := by omega
      have hwr : IntKind.i64.wrap ((M : Int) + 1 + 1 + (x'.data.length : Int)) = (M : Int) + 1 + 1 + (x'.data.length : Int) := by rw [IntKind.wrap_i64]; omega
      go_region_held3 (fun w' => w'.cell? ⟨wr.heap.size, 1, none⟩ = some (.slice A' x'.data.length c2'))
        (first | exact y1 | exact y2)
        (first
          | (refine step_copyZ (by rfl) _ _ (by rfl) Tryd.underlying29 (by kernel_rfl) B2.out.drew R2.out (by rfl) (by rfl) (fun h0 => by rw [if_neg (by omega)]; exact congrArg (fun z => some (⟨g, z, none⟩ : Addr)) (by have hh := HML.out; simp only [List.length_append, List.length_cons, List.length_nil] at hh ⊢; omega)) (by omega) (by omega) ?_; intro w5 hb5 hk5; have y2 := hk5.cell hgx y1; have B5 := hide hb5; have K5 := hide hk5; clear hb5 hk5))
      have B6 := hide (show Buf w5 g (headB hd ++ by16 hd.prof ++ [0, 0] ++ xsb 4096 (hd.exts.take (k + 1))) (Z8 (L - (M + 2 + x'.data.length))) by
        have := B5.out
        rw [HSN.out, HXB.out, show L - (M + 2 + x'.data.length) = L - M - 1 - 1 - x'.data.length by omega]
        simpa using this)
      have K6 := hide (HK.out.trans ((K2.out.drew).trans K5.out fun _ _ e => e) fun _ _ e => e)
      have hM' : M + 2 + x'.data.length = N + 4 + (xsb 4096 (hd.exts.take (k + 1))).length := by
        rw [HSN.out, HXB.out, List.length_append, HM.out, List.length_cons, List.length_cons]; omega
      have HM' := hide hM'
      clear y1 y2 hM1 hM0 hMn hwr hM'
      go_wp2_with fail
      go_roundw
      case rel => exact ⟨k + 1, M + 2 + x'.data.length, by omega, HM'.out, by go_num, by go_num, B6.out, K6.out⟩
      case measure => simp [intOf]; omega
    · obtain rfl : k = hd.exts.length := by omega
      rw [List.take_length] at hM hB
      have HB := hide hB
      have HM := hide hM
      have HK := hide hK
      clear hB hM hK
      go_upto_region 51 with fail
      refine part_use (mto_tail (A := headB hd) (P := by16 hd.prof) (D := xsb 4096 hd.exts) (N := N) (M := M) (R := R) (Q := Q) wr _ _ _ _ _ _ _ _ _ _ _ _ _ _ _ _ _ _ _ _ _ _ _ _ _ _ _ _ _ _ _ _ _ _ _ _ _ _ _ _ _ _ _ _ _ _ _ _ _ _ _ _ _ _ _ _ _ _ _ _ _ _ _ _ _ _ _ _ _ _ _ _ _ _ _ _ _ _ _ _ _ _ _ _ _ _ _ _ _ _ _ _ _ _ _ _ _ _ _ _ _ _ _ _ _ _ _ _ _ _ _ _ _ _ _ _ _ _ _ _ _ _ _ _ _ _ _ _ _ _ _ _ _ _ _ _ _ _ _ _ _ _ _ _ _ _ _ _ _ _ _ _ _ _ _ _ _ _ _ _ _ _ _ _ _ _ _ _ _ _ _ _ _ _ _ _ _ _ _ _ _ _ _ _ _ _ _ _ _ _ _ _ _ _ _ _ _ _ _ _ _ _ _ _ _ _ _ _ _ _ _ _ _ _ _ _ _ _ _ _ _ _ _ _ _ _ ?_ HB.out (by rw [headB_len]; exact HN.out.symm) rfl HM.out HR.out (by omega) (by omega) (by omega)) rfl rfl (by assumption)
      intro v0 v1 v2 v3 v6 v7 v8 v9 v10 v11 v12 v13 v14 v15 v16 v17 v18 v19 v20 v21 v22 v23 v24 v25 v26 v27 v28 v29 v30 v31 v32 v33 v34 v35 v36 v37 v38 v39 v40 v41 v42 v43 v44 v45 v46 v47 v48 v49 v50 v51 v52 v53 v54 v55 v56 v57 v58 v59 v60 v61 v62 v63 v64 v65 v66 v67 v68 v69 v70 v71 v72 v73 v74 v75 v76 v77 v78 v79 v80 v81 v82 v83 v84 v85 v86 v87 v88 v89 v90 v91 v92 v93 v94 v95 v96 v97 v98 v99 v100 v101 v102 v103 v104 v105 v106 v107 v108 v109 v110 v111 v112 v113 v114 v115 v116 v117 v118 v119 v120 v121 v122 v123 v124 v125 v126 v127 v128 v129 v130 v131 v132 v133 v134 v135 v136 v137 v138 v139 v140 v141 v142 v143 v144 v145 v146 v147 v148 v149 v150 v151 v152 v153 v154 v155 v156 v157 v158 v159 v160 v161 v162 v163 v164 v165 v166 v167 v168 v169 v170 v171 v172 v173 v174 v175 v176 v177 v178 v179 v180 v181 v182 v183 v184 v185 v186 v187 v188 v189 v190 v191 v192 v193 v194 v195 v196 v197 v198 v199 v200 v201 v202 v203 v204 v205 v206 v207 v208 v209 v210 v211 v212 v213 v214 v215 v216 v217 v218 v219 v220 v221 v222 v223 v224 v225 v226 v227 v228 v229 v230 w' b kk
      have e1 : outB hd = headB hd ++ by16 hd.prof ++ by16 ((R : Int) / 4) ++ xsb 4096 hd.exts ++ List.replicate (R - (xsb 4096 hd.exts).length) 0 := by
        rw [out_ext HEX.out HEB.out, HELR.out, HEE.out, HPD.out]
        simp
      rw [← e1] at b
      rw [← hsz] at b ⊢
      exact HE.out _ _ _ _ _ _ _ _ _ _ _ _ _ _ _ _ _ _ _ _ _ _ _ _ _ _ _ _ _ _ _ _ _ _ _ _ _ _ _ _ _ _ _ _ _ _ _ _ _ _ _ _ _ _ _ _ _ _ _ _ _ _ _ _ _ _ _ _ _ _ _ _ _ _ _ _ _ _ _ _ _ _ _ _ _ _ _ _ _ _ _ _ _ _ _ _ _ _ _ _ _ _ _ _ _ _ _ _ _ _ _ _ _ _ _ _ _ _ _ _ _ _ _ _ _ _ _ _ _ _ _ _ _ _ _ _ _ _ _ _ _ _ _ _ _ _ _ _ _ _ _ _ _ _ _ _ _ _ _ _ _ _ _ _ _ _ _ _ _ _ _ _ _ _ _ _ _ _ _ _ _ _ _ _ _ _ _ _ _ _ _ _ _ _ _ _ _ _ _ _ _ _ _ _ _ _ _ _ _ _ _ _ _ _ _ _ _ _ _ _ _ _ _ _ _ _ _ _ _ _ b (HK.out.trans kk fun _ _ e => e)
set_option maxHeartbeats 1600000 in
theorem mto_own {p : Nat → Prop} {hd : Hd} {e : List Int} {A2 : Option Addr} {c2 g L N x : Nat} {sv : Value} {off : Int} {Q : Exit → Act → World → Prop} (wx : World) (u0 u3 u6 u7 u8 u10 u11 u12 u13 u14 u15 u16 u17 u18 u19 u20 u21 u22 u23 u24 u25 u26 u27 u28 u29 u30 u31 u32 u33 u34 u35 u36 u37 u38 u39 u40 u41 u42 u43 u44 u45 u46 u47 u48 u49 u50 u51 u52 u53 u54 u55 u56 u57 u58 u59 u60 u61 u62 u63 u64 u65 u66 u67 u68 u69 u70 u71 u72 u73 u74 u75 u76 u77 u78 u79 u80 u81 u82 u83 u84 u85 u86 u87 u88 u89 u90 u91 u92 u93 u94 u95 u96 u97 u98 u99 u100 u101 u102 u103 u104 u105 u106 u107 u108 u109 u110 u111 u112 u113 u114 u115 u116 u117 u118 u119 u120 u121 u122 u123 u124 u125 u126 u127 u128 u129 u130 u131 u132 u133 u134 u135 u136 u137 u138 u139 u140 u141 u142 u143 u144 u145 u146 u147 u148 u149 u150 u151 u152 u153 u154 u155 u156 u157 u158 u159 u160 u161 u162 u163 u164 u165 u166 u167 u168 u169 u170 u171 u172 u173 u174 u175 u176 u177 u178 u179 u180 u181 u182 u183 u184 u185 u186 u187 u188 u189 u190 u191 u192 u193 u194 u195 u196 u197 u198 u199 u200 u201 u202 u203 u204 u205 u206 u207 u208 u209 u210 u211 u212 u213 u214 u215 u216 u217 u218 u219 u220 u221 u222 u223 u224 u225 u226 u227 u228 u229 u230 : Value)
    (hend : ∀ (v0 v1 v2 v3 v6 v7 v8 v9 v10 v11 v12 v13 v14 v15 v16 v17 v18 v19 v20 v21 v22 v23 v24 v25 v26 v27 v28 v29 v30 v31 v32 v33 v34 v35 v36 v37 v38 v39 v40 v41 v42 v43 v44 v45 v46 v47 v48 v49 v50 v51 v52 v53 v54 v55 v56 v57 v58 v59 v60 v61 v62 v63 v64 v65 v66 v67 v68 v69 v70 v71 v72 v73 v74 v75 v76 v77 v78 v79 v80 v81 v82 v83 v84 v85 v86 v87 v88 v89 v90 v91 v92 v93 v94 v95 v96 v97 v98 v99 v100 v101 v102 v103 v104 v105 v106 v107 v108 v109 v110 v111 v112 v113 v114 v115 v116 v117 v118 v119 v120 v121 v122 v123 v124 v125 v126 v127 v128 v129 v130 v131 v132 v133 v134 v135 v136 v137 v138 v139 v140 v141 v142 v143 v144 v145 v146 v147 v148 v149 v150 v151 v152 v153 v154 v155 v156 v157 v158 v159 v160 v161 v162 v163 v164 v165 v166 v167 v168 v169 v170 v171 v172 v173 v174 v175 v176 v177 v178 v179 v180 v181 v182 v183 v184 v185 v186 v187 v188 v189 v190 v191 v192 v193 v194 v195 v196 v197 v198 v199 v200 v201 v202 v203 v204 v205 v206 v207 v208 v209 v210 v211 v212 v213 v214 v215 v216 v217 v218 v219 v220 v221 v222 v223 v224 v225 v226 v227 v228 v229 v230 : Value) (w' : World), Buf w' g (outB hd) (Z8 (L - hsize hd)) → Keep wx w' (· = g) → Q .normal ⟨List.toArray (v0 :: v1 :: v2 :: v3 :: .int .i64 (hsize hd : Nat) :: .nilIface :: v6 :: v7 :: v8 :: v9 :: v10 :: v11 :: v12 :: v13 :: v14 :: v15 :: v16 :: v17 :: v18 :: v19 :: v20 :: v21 :: v22 :: v23 :: v24 :: v25 :: v26 :: v27 :: v28 :: v29 :: v30 :: v31 :: v32 :: v33 :: v34 :: v35 :: v36 :: v37 :: v38 :: v39 :: v40 :: v41 :: v42 :: v43 :: v44 :: v45 :: v46 :: v47 :: v48 :: v49 :: v50 :: v51 :: v52 :: v53 :: v54 :: v55 :: v56 :: v57 :: v58 :: v59 :: v60 :: v61 :: v62 :: v63 :: v64 :: v65 :: v66 :: v67 :: v68 :: v69 :: v70 :: v71 :: v72 :: v73 :: v74 :: v75 :: v76 :: v77 :: v78 :: v79 :: v80 :: v81 :: v82 :: v83 :: v84 :: v85 :: v86 :: v87 :: v88 :: v89 :: v90 :: v91 :: v92 :: v93 :: v94 :: v95 :: v96 :: v97 :: v98 :: v99 :: v100 :: v101 :: v102 :: v103 :: v104 :: v105 :: v106 :: v107 :: v108 :: v109 :: v110 :: v111 :: v112 :: v113 :: v114 :: v115 :: v116 :: v117 :: v118 :: v119 :: v120 :: v121 :: v122 :: v123 :: v124 :: v125 :: v126 :: v127 :: v128 :: v129 :: v130 :: v131 :: v132 :: v133 :: v134 :: v135 :: v136 :: v137 :: v138 :: v139 :: v140 :: v141 :: v142 :: v143 :: v144 :: v145 :: v146 :: v147 :: v148 :: v149 :: v150 :: v151 :: v152 :: v153 :: v154 :: v155 :: v156 :: v157 :: v158 :: v159 :: v160 :: v161 :: v162 :: v163 :: v164 :: v165 :: v166 :: v167 :: v168 :: v169 :: v170 :: v171 :: v172 :: v173 :: v174 :: v175 :: v176 :: v177 :: v178 :: v179 :: v180 :: v181 :: v182 :: v183 :: v184 :: v185 :: v186 :: v187 :: v188 :: v189 :: v190 :: v191 :: v192 :: v193 :: v194 :: v195 :: v196 :: v197 :: v198 :: v199 :: v200 :: v201 :: v202 :: v203 :: v204 :: v205 :: v206 :: v207 :: v208 :: v209 :: v210 :: v211 :: v212 :: v213 :: v214 :: v215 :: v216 :: v217 :: v218 :: v219 :: v220 :: v221 :: v222 :: v223 :: v224 :: v225 :: v226 :: v227 :: v228 :: v229 :: v230 :: []), []⟩ w')
    (hX : XR wx p (.slice A2 hd.exts.length c2) hd.exts) (hpg : ∀ k, p k → k ≠ g) (hg : Good hd) (he : hd.ext = true) (h1 : hd.prof ≠ 48862) (h2 : hd.prof ≠ 4096) (hx : extsB hd.prof hd.exts = some e) (hel : e.length ≤ 262140) (hn : hd.exts.length ≤ 2147483647) (hxg : x ≠ g)
    (hB : Buf wx g (headB hd ++ by16 hd.prof) (Z8 (L - N - 2))) (hBX : Blk wx x 108 (rcells hd sv (.slice A2 hd.exts.length c2) off)) (hN : N = 12 + 4 * hd.srcs.length) (hL : hsize hd ≤ L) (hLm : L ≤ 1099511627776) :
    Part Tryd.prog Tryd.f73 25 Q ⟨List.toArray (u0 :: .slice (some ⟨g, 0, none⟩) L L :: .pointer (some ⟨x, 0, none⟩) :: u3 :: .int .i64 (N : Int) :: .nilIface :: u6 :: u7 :: u8 :: .int .i64 (N : Int) :: u10 :: u11 :: u12 :: u13 :: u14 :: u15 :: u16 :: u17 :: u18 :: u19 :: u20 :: u21 :: u22 :: u23 :: u24 :: u25 :: u26 :: u27 :: u28 :: u29 :: u30 :: u31 :: u32 :: u33 :: u34 :: u35 :: u36 :: u37 :: u38 :: u39 :: u40 :: u41 :: u42 :: u43 :: u44 :: u45 :: u46 :: u47 :: u48 :: u49 :: u50 :: u51 :: u52 :: u53 :: u54 :: u55 :: u56 :: u57 :: u58 :: u59 :: u60 :: u61 :: u62 :: u63 :: u64 :: u65 :: u66 :: u67 :: u68 :: u69 :: u70 :: u71 :: u72 :: u73 :: u74 :: u75 :: u76 :: u77 :: u78 :: u79 :: u80 :: u81 :: u82 :: u83 :: u84 :: u85 :: u86 :: u87 :: u88 :: u89 :: u90 :: u91 :: u92 :: u93 :: u94 :: u95 :: u96 :: u97 :: u98 :: u99 :: u100 :: u101 :: u102 :: u103 :: u104 :: u105 :: u106 :: u107 :: u108 :: u109 :: u110 :: u111 :: u112 :: u113 :: u114 :: u115 :: u116 :: u117 :: u118 :: u119 :: u120 :: u121 :: u122 :: u123 :: u124 :: u125 :: u126 :: u127 :: u128 :: u129 :: u130 :: u131 :: u132 :: u133 :: u134 :: u135 :: u136 :: u137 :: u138 :: u139 :: u140 :: u141 :: u142 :: u143 :: u144 :: u145 :: u146 :: u147 :: u148 :: u149 :: u150 :: u151 :: u152 :: u153 :: u154 :: u155 :: u156 :: u157 :: u158 :: u159 :: u160 :: u161 :: u162 :: u163 :: u164 :: u165 :: u166 :: u167 :: u168 :: u169 :: u170 :: u171 :: u172 :: u173 :: u174 :: u175 :: u176 :: u177 :: u178 :: u179 :: u180 :: u181 :: u182 :: u183 :: u184 :: u185 :: u186 :: u187 :: u188 :: u189 :: u190 :: u191 :: u192 :: u193 :: u194 :: u195 :: u196 :: u197 :: u198 :: u199 :: u200 :: u201 :: u202 :: u203 :: u204 :: u205 :: u206 :: u207 :: u208 :: u209 :: u210 :: u211 :: u212 :: u213 :: u214 :: u215 :: u216 :: u217 :: u218 :: u219 :: u220 :: u221 :: u222 :: u223 :: u224 :: u225 :: u226 :: u227 :: u228 :: u229 :: u230 :: []), []⟩ wx := by
  have hfa : ∃ x', hd.exts = [x'] ∧ x'.data.length % 4 = 0 ∧ e = x'.data := by
    unfold extsB at hx
    split at hx
    · cases hx
    · rw [if_pos ⟨h1, h2⟩] at hx
      unfold own1 at hx
      split at hx
      · rename_i x' hxx
        split at hx
        · rename_i h
          injection hx with hx
          exact ⟨x', hxx, h.2, hx.symm⟩
        · cases hx
      · cases hx
  obtain ⟨x', hxx, h4, hee⟩ := hfa
  obtain ⟨R, hR⟩ : ∃ R, R = (e.length + 3) / 4 * 4 := ⟨_, rfl⟩
  have helr : e.length = R := by rw [hee] at hR ⊢; omega
  have hsz : hsize hd = N + 4 + R := by
    have e1 : xsize hd = e.length := by simp [xsize, h1, h2, hxx, hee]
    unfold hsize
    rw [he, e1, hN, hR]
    simp; omega
  have hRL : N + 4 + R ≤ L := by omega
  have hRm : R ≤ 262140 := by omega
  have hsr := hg.srcs
  have hs15 : N ≤ 72 := by omega
  have HE := hide hend
  have HX := hide hX
  have HP := hide hpg
  have HG := hide hg
  have HEE := hide hee
  have HR := hide hR
  have HELR := hide helr
  have HSZ := hide hsz
  have HEX := hide he
  have HEB := hide hx
  have HN := hide hN
  have B0 := hide (show Buf wx g (headB hd ++ by16 hd.prof ++ [0, 0]) (Z8 (L - (N + 4))) by have := hB.zero 2 (by omega); rw [show L - N - 2 - 2 = L - (N + 4) by omega] at this; exact this)
  have x9 := hBX.cell 9 (v := .int .u16 hd.prof) rfl
  have g1 : (hd.prof == 48862) = false := by simpa using h1
  have g2 : (hd.prof == 4096) = false := by simpa using h2
  have x10 := hBX.cell 10 (v := .slice A2 hd.exts.length c2) rfl
  have HBX := hide hBX
  have hg' : hd.exts[0]? = some x' := by rw [hxx]; rfl
  obtain ⟨b, o, c', d, hv, q1, q2, q3, q4, p5, p6, q7⟩ := hX.at_ hg'
  injection hv with e1 _ e3
  subst e1 e3
  have hxl : e.length = x'.data.length := by rw [hee]
  have hxp : 0 < hd.exts.length := by rw [hxx]; simp
  have hxp' : (0 : Int) < (hd.exts.length : Int) := by omega
  simp only [Nat.zero_mul, Nat.add_zero] at p5 p6
  have hbg := hpg b q3
  obtain ⟨A', c2', rfl⟩ := q7.shape
  have h4' : (x'.data.length : Int) % 4 = 0 := by omega
  have H4 := hide h4
  have Q7 := hide q7
  have hML : N + 4 + x'.data.length ≤ L := by omega
  have HXL := hide hxl
  clear hend hX hpg hg hee hR helr he hx hN hB hBX hL hxx hg' q7 h4 hxl
  refine part_open (fun c hc K hK => ?_)
  conv at hc => rhs; whnf
  subst hc
  dsimp only [xOf, yOf] at hK ⊢
  go_upto_region 32 with fail
  have B2 := hide B0.out.drew
  have R2 := hide Q7.out.drew
  have y1 := HBX.out.drew.cell 10 (v := .slice (some ⟨b, o, none⟩) hd.exts.length c2) rfl
  have y2 : wx.drew.cell? ⟨b, o + 1, none⟩ = some (.slice A' x'.data.length c2') := p6
  have hM1 : (N : Int) + 4 ≤ (L : Int) := by omega
  have hM0 : (0 : Int) ≤ (N : Int) + 4 := by omega
  have hMn : ((N : Int) + 4).toNat = N + 4 := by omega
  have hml : N + 4 ≤ L := by omega
  have hbg' : ¬ b = g := hbg
  have hxg' : ¬ x = g := hxg
  have hwr : IntKind.i64.wrap ((N : Int) + 4 + (x'.data.length : Int)) = (N : Int) + 4 + (x'.data.length : Int) := by rw [IntKind.wrap_i64]; omega
  clear h4' x9 x10 p5 p6
  go_region_held3 (fun w' => w'.cell? ⟨x, 10, none⟩ = some (.slice (some ⟨b, o, none⟩) hd.exts.length c2) ∧ w'.cell? ⟨b, o + 1, none⟩ = some (.slice A' x'.data.length c2'))
    (first | exact ⟨y1, y2⟩ | exact ⟨z1, z2⟩)
    (first
      | (refine step_copyZ (by rfl) _ _ (by rfl) Tryd.underlying29 (by kernel_rfl) B2.out R2.out (by rfl) (by rfl) (fun h0 => by rw [if_neg (by omega)]; exact congrArg (fun z => some (⟨g, z, none⟩ : Addr)) (by have hh := HN.out; simp only [List.length_append, List.length_cons, List.length_nil, headB_len, by16]; omega)) (by omega) (by omega) ?_; intro w5 hb5 hk5; have z1 := hk5.cell hxg' y1; have z2 := hk5.cell hbg' y2; have B5 := hide hb5; have K5 := hide hk5; clear hb5 hk5))
  have HM : Hid (N + 4 + x'.data.length = N + 4 + e.length) := hide (by rw [HXL.out])
  clear y1 y2 hM1 hM0 hMn hwr z1 z2
  go_upto_region 51 with fail
  refine part_use (mto_tail (A := headB hd) (P := by16 hd.prof) (D := e) (N := N) (M := N + 4 + x'.data.length) (R := R) (Q := Q) w5 _ _ _ _ _ _ _ _ _ _ _ _ _ _ _ _ _ _ _ _ _ _ _ _ _ _ _ _ _ _ _ _ _ _ _ _ _ _ _ _ _ _ _ _ _ _ _ _ _ _ _ _ _ _ _ _ _ _ _ _ _ _ _ _ _ _ _ _ _ _ _ _ _ _ _ _ _ _ _ _ _ _ _ _ _ _ _ _ _ _ _ _ _ _ _ _ _ _ _ _ _ _ _ _ _ _ _ _ _ _ _ _ _ _ _ _ _ _ _ _ _ _ _ _ _ _ _ _ _ _ _ _ _ _ _ _ _ _ _ _ _ _ _ _ _ _ _ _ _ _ _ _ _ _ _ _ _ _ _ _ _ _ _ _ _ _ _ _ _ _ _ _ _ _ _ _ _ _ _ _ _ _ _ _ _ _ _ _ _ _ _ _ _ _ _ _ _ _ _ _ _ _ _ _ _ _ _ _ _ _ _ _ _ _ _ _ _ _ _ _ _ _ _ _ _ _ ?_ (by have hb := B5.out; rw [show x'.data = e from HEE.out.symm] at hb ⊢; rw [show L - (N + 4 + e.length) = L - (N + 4) - e.length by omega]; exact hb) (by rw [headB_len]; exact HN.out.symm) rfl HM.out HR.out (by omega) (by omega) (by omega)) rfl rfl (by assumption)
  intro v0 v1 v2 v3 v6 v7 v8 v9 v10 v11 v12 v13 v14 v15 v16 v17 v18 v19 v20 v21 v22 v23 v24 v25 v26 v27 v28 v29 v30 v31 v32 v33 v34 v35 v36 v37 v38 v39 v40 v41 v42 v43 v44 v45 v46 v47 v48 v49 v50 v51 v52 v53 v54 v55 v56 v57 v58 v59 v60 v61 v62 v63 v64 v65 v66 v67 v68 v69 v70 v71 v72 v73 v74 v75 v76 v77 v78 v79 v80 v81 v82 v83 v84 v85 v86 v87 v88 v89 v90 v91 v92 v93 v94 v95 v96 v97 v98 v99 v100 v101 v102 v103 v104 v105 v106 v107 v108 v109 v110 v111 v112 v113 v114 v115 v116 v117 v118 v119 v120 v121 v122 v123 v124 v125 v126 v127 v128 v129 v130 v131 v132 v133 v134 v135 v136 v137 v138 v139 v140 v141 v142 v143 v144 v145 v146 v147 v148 v149 v150 v151 v152 v153 v154 v155 v156 v157 v158 v159 v160 v161 v162 v163 v164 v165 v166 v167 v168 v169 v170 v171 v172 v173 v174 v175 v176 v177 v178 v179 v180 v181 v182 v183 v184 v185 v186 v187 v188 v189 v190 v191 v192 v193 v194 v195 v196 v197 v198 v199 v200 v201 v202 v203 v204 v205 v206 v207 v208 v209 v210 v211 v212 v213 v214 v215 v216 v217 v218 v219 v220 v221 v222 v223 v224 v225 v226 v227 v228 v229 v230 w' b kk
  have e1 : outB hd = headB hd ++ by16 hd.prof ++ by16 ((R : Int) / 4) ++ e ++ List.replicate (R - e.length) 0 := by
    rw [out_ext HEX.out HEB.out, HELR.out]
    simp
  rw [← e1] at b
  rw [← hsz] at b ⊢
  exact HE.out _ _ _ _ _ _ _ _ _ _ _ _ _ _ _ _ _ _ _ _ _ _ _ _ _ _ _ _ _ _ _ _ _ _ _ _ _ _ _ _ _ _ _ _ _ _ _ _ _ _ _ _ _ _ _ _ _ _ _ _ _ _ _ _ _ _ _ _ _ _ _ _ _ _ _ _ _ _ _ _ _ _ _ _ _ _ _ _ _ _ _ _ _ _ _ _ _ _ _ _ _ _ _ _ _ _ _ _ _ _ _ _ _ _ _ _ _ _ _ _ _ _ _ _ _ _ _ _ _ _ _ _ _ _ _ _ _ _ _ _ _ _ _ _ _ _ _ _ _ _ _ _ _ _ _ _ _ _ _ _ _ _ _ _ _ _ _ _ _ _ _ _ _ _ _ _ _ _ _ _ _ _ _ _ _ _ _ _ _ _ _ _ _ _ _ _ _ _ _ _ _ _ _ _ _ _ _ _ _ _ _ _ _ _ _ _ _ _ _ _ _ _ _ _ _ _ _ _ _ _ b (((Keep.refl wx _).drew).trans (K5.out.trans kk fun _ _ e => e) fun _ _ e => e)

/-- All profiles. -/
theorem mto_ext {p : Nat → Prop} {hd : Hd} {e : List Int} {A2 : Option Addr} {c2 g L N x : Nat} {sv : Value} {off : Int} {Q : Exit → Act → World → Prop} (wx : World) (u0 u3 u6 u7 u8 u10 u11 u12 u13 u14 u15 u16 u17 u18 u19 u20 u21 u22 u23 u24 u25 u26 u27 u28 u29 u30 u31 u32 u33 u34 u35 u36 u37 u38 u39 u40 u41 u42 u43 u44 u45 u46 u47 u48 u49 u50 u51 u52 u53 u54 u55 u56 u57 u58 u59 u60 u61 u62 u63 u64 u65 u66 u67 u68 u69 u70 u71 u72 u73 u74 u75 u76 u77 u78 u79 u80 u81 u82 u83 u84 u85 u86 u87 u88 u89 u90 u91 u92 u93 u94 u95 u96 u97 u98 u99 u100 u101 u102 u103 u104 u105 u106 u107 u108 u109 u110 u111 u112 u113 u114 u115 u116 u117 u118 u119 u120 u121 u122 u123 u124 u125 u126 u127 u128 u129 u130 u131 u132 u133 u134 u135 u136 u137 u138 u139 u140 u141 u142 u143 u144 u145 u146 u147 u148 u149 u150 u151 u152 u153 u154 u155 u156 u157 u158 u159 u160 u161 u162 u163 u164 u165 u166 u167 u168 u169 u170 u171 u172 u173 u174 u175 u176 u177 u178 u179 u180 u181 u182 u183 u184 u185 u186 u187 u188 u189 u190 u191 u192 u193 u194 u195 u196 u197 u198 u199 u200 u201 u202 u203 u204 u205 u206 u207 u208 u209 u210 u211 u212 u213 u214 u215 u216 u217 u218 u219 u220 u221 u222 u223 u224 u225 u226 u227 u228 u229 u230 : Value)
    (hend : ∀ (v0 v1 v2 v3 v6 v7 v8 v9 v10 v11 v12 v13 v14 v15 v16 v17 v18 v19 v20 v21 v22 v23 v24 v25 v26 v27 v28 v29 v30 v31 v32 v33 v34 v35 v36 v37 v38 v39 v40 v41 v42 v43 v44 v45 v46 v47 v48 v49 v50 v51 v52 v53 v54 v55 v56 v57 v58 v59 v60 v61 v62 v63 v64 v65 v66 v67 v68 v69 v70 v71 v72 v73 v74 v75 v76 v77 v78 v79 v80 v81 v82 v83 v84 v85 v86 v87 v88 v89 v90 v91 v92 v93 v94 v95 v96 v97 v98 v99 v100 v101 v102 v103 v104 v105 v106 v107 v108 v109 v110 v111 v112 v113 v114 v115 v116 v117 v118 v119 v120 v121 v122 v123 v124 v125 v126 v127 v128 v129 v130 v131 v132 v133 v134 v135 v136 v137 v138 v139 v140 v141 v142 v143 v144 v145 v146 v147 v148 v149 v150 v151 v152 v153 v154 v155 v156 v157 v158 v159 v160 v161 v162 v163 v164 v165 v166 v167 v168 v169 v170 v171 v172 v173 v174 v175 v176 v177 v178 v179 v180 v181 v182 v183 v184 v185 v186 v187 v188 v189 v190 v191 v192 v193 v194 v195 v196 v197 v198 v199 v200 v201 v202 v203 v204 v205 v206 v207 v208 v209 v210 v211 v212 v213 v214 v215 v216 v217 v218 v219 v220 v221 v222 v223 v224 v225 v226 v227 v228 v229 v230 : Value) (w' : World), Buf w' g (outB hd) (Z8 (L - hsize hd)) → Keep wx w' (· = g) → Q .normal ⟨List.toArray (v0 :: v1 :: v2 :: v3 :: .int .i64 (hsize hd : Nat) :: .nilIface :: v6 :: v7 :: v8 :: v9 :: v10 :: v11 :: v12 :: v13 :: v14 :: v15 :: v16 :: v17 :: v18 :: v19 :: v20 :: v21 :: v22 :: v23 :: v24 :: v25 :: v26 :: v27 :: v28 :: v29 :: v30 :: v31 :: v32 :: v33 :: v34 :: v35 :: v36 :: v37 :: v38 :: v39 :: v40 :: v41 :: v42 :: v43 :: v44 :: v45 :: v46 :: v47 :: v48 :: v49 :: v50 :: v51 :: v52 :: v53 :: v54 :: v55 :: v56 :: v57 :: v58 :: v59 :: v60 :: v61 :: v62 :: v63 :: v64 :: v65 :: v66 :: v67 :: v68 :: v69 :: v70 :: v71 :: v72 :: v73 :: v74 :: v75 :: v76 :: v77 :: v78 :: v79 :: v80 :: v81 :: v82 :: v83 :: v84 :: v85 :: v86 :: v87 :: v88 :: v89 :: v90 :: v91 :: v92 :: v93 :: v94 :: v95 :: v96 :: v97 :: v98 :: v99 :: v100 :: v101 :: v102 :: v103 :: v104 :: v105 :: v106 :: v107 :: v108 :: v109 :: v110 :: v111 :: v112 :: v113 :: v114 :: v115 :: v116 :: v117 :: v118 :: v119 :: v120 :: v121 :: v122 :: v123 :: v124 :: v125 :: v126 :: v127 :: v128 :: v129 :: v130 :: v131 :: v132 :: v133 :: v134 :: v135 :: v136 :: v137 :: v138 :: v139 :: v140 :: v141 :: v142 :: v143 :: v144 :: v145 :: v146 :: v147 :: v148 :: v149 :: v150 :: v151 :: v152 :: v153 :: v154 :: v155 :: v156 :: v157 :: v158 :: v159 :: v160 :: v161 :: v162 :: v163 :: v164 :: v165 :: v166 :: v167 :: v168 :: v169 :: v170 :: v171 :: v172 :: v173 :: v174 :: v175 :: v176 :: v177 :: v178 :: v179 :: v180 :: v181 :: v182 :: v183 :: v184 :: v185 :: v186 :: v187 :: v188 :: v189 :: v190 :: v191 :: v192 :: v193 :: v194 :: v195 :: v196 :: v197 :: v198 :: v199 :: v200 :: v201 :: v202 :: v203 :: v204 :: v205 :: v206 :: v207 :: v208 :: v209 :: v210 :: v211 :: v212 :: v213 :: v214 :: v215 :: v216 :: v217 :: v218 :: v219 :: v220 :: v221 :: v222 :: v223 :: v224 :: v225 :: v226 :: v227 :: v228 :: v229 :: v230 :: []), []⟩ w')
    (hX : XR wx p (.slice A2 hd.exts.length c2) hd.exts) (hpg : ∀ k, p k → k ≠ g) (hg : Good hd) (he : hd.ext = true) (hx : extsB hd.prof hd.exts = some e) (hel : e.length ≤ 262140) (hn : hd.exts.length ≤ 2147483647) (hxg : x ≠ g)
    (hB : Buf wx g (headB hd ++ by16 hd.prof) (Z8 (L - N - 2))) (hBX : Blk wx x 108 (rcells hd sv (.slice A2 hd.exts.length c2) off)) (hN : N = 12 + 4 * hd.srcs.length) (hL : hsize hd ≤ L) (hLm : L ≤ 1099511627776) :
    Part Tryd.prog Tryd.f73 25 Q ⟨List.toArray (u0 :: .slice (some ⟨g, 0, none⟩) L L :: .pointer (some ⟨x, 0, none⟩) :: u3 :: .int .i64 (N : Int) :: .nilIface :: u6 :: u7 :: u8 :: .int .i64 (N : Int) :: u10 :: u11 :: u12 :: u13 :: u14 :: u15 :: u16 :: u17 :: u18 :: u19 :: u20 :: u21 :: u22 :: u23 :: u24 :: u25 :: u26 :: u27 :: u28 :: u29 :: u30 :: u31 :: u32 :: u33 :: u34 :: u35 :: u36 :: u37 :: u38 :: u39 :: u40 :: u41 :: u42 :: u43 :: u44 :: u45 :: u46 :: u47 :: u48 :: u49 :: u50 :: u51 :: u52 :: u53 :: u54 :: u55 :: u56 :: u57 :: u58 :: u59 :: u60 :: u61 :: u62 :: u63 :: u64 :: u65 :: u66 :: u67 :: u68 :: u69 :: u70 :: u71 :: u72 :: u73 :: u74 :: u75 :: u76 :: u77 :: u78 :: u79 :: u80 :: u81 :: u82 :: u83 :: u84 :: u85 :: u86 :: u87 :: u88 :: u89 :: u90 :: u91 :: u92 :: u93 :: u94 :: u95 :: u96 :: u97 :: u98 :: u99 :: u100 :: u101 :: u102 :: u103 :: u104 :: u105 :: u106 :: u107 :: u108 :: u109 :: u110 :: u111 :: u112 :: u113 :: u114 :: u115 :: u116 :: u117 :: u118 :: u119 :: u120 :: u121 :: u122 :: u123 :: u124 :: u125 :: u126 :: u127 :: u128 :: u129 :: u130 :: u131 :: u132 :: u133 :: u134 :: u135 :: u136 :: u137 :: u138 :: u139 :: u140 :: u141 :: u142 :: u143 :: u144 :: u145 :: u146 :: u147 :: u148 :: u149 :: u150 :: u151 :: u152 :: u153 :: u154 :: u155 :: u156 :: u157 :: u158 :: u159 :: u160 :: u161 :: u162 :: u163 :: u164 :: u165 :: u166 :: u167 :: u168 :: u169 :: u170 :: u171 :: u172 :: u173 :: u174 :: u175 :: u176 :: u177 :: u178 :: u179 :: u180 :: u181 :: u182 :: u183 :: u184 :: u185 :: u186 :: u187 :: u188 :: u189 :: u190 :: u191 :: u192 :: u193 :: u194 :: u195 :: u196 :: u197 :: u198 :: u199 :: u200 :: u201 :: u202 :: u203 :: u204 :: u205 :: u206 :: u207 :: u208 :: u209 :: u210 :: u211 :: u212 :: u213 :: u214 :: u215 :: u216 :: u217 :: u218 :: u219 :: u220 :: u221 :: u222 :: u223 :: u224 :: u225 :: u226 :: u227 :: u228 :: u229 :: u230 :: []), []⟩ wx := by
  by_cases h1 : hd.prof = 48862
  · exact mto_one wx _ _ _ _ _ _ _ _ _ _ _ _ _ _ _ _ _ _ _ _ _ _ _ _ _ _ _ _ _ _ _ _ _ _ _ _ _ _ _ _ _ _ _ _ _ _ _ _ _ _ _ _ _ _ _ _ _ _ _ _ _ _ _ _ _ _ _ _ _ _ _ _ _ _ _ _ _ _ _ _ _ _ _ _ _ _ _ _ _ _ _ _ _ _ _ _ _ _ _ _ _ _ _ _ _ _ _ _ _ _ _ _ _ _ _ _ _ _ _ _ _ _ _ _ _ _ _ _ _ _ _ _ _ _ _ _ _ _ _ _ _ _ _ _ _ _ _ _ _ _ _ _ _ _ _ _ _ _ _ _ _ _ _ _ _ _ _ _ _ _ _ _ _ _ _ _ _ _ _ _ _ _ _ _ _ _ _ _ _ _ _ _ _ _ _ _ _ _ _ _ _ _ _ _ _ _ _ _ _ _ _ _ _ _ _ _ _ _ _ _ _ _ _ _ _ _ hend hX hpg hg he h1 hx hel hn hxg hB hBX hN hL hLm
  · by_cases h2 : hd.prof = 4096
    · exact mto_two wx _ _ _ _ _ _ _ _ _ _ _ _ _ _ _ _ _ _ _ _ _ _ _ _ _ _ _ _ _ _ _ _ _ _ _ _ _ _ _ _ _ _ _ _ _ _ _ _ _ _ _ _ _ _ _ _ _ _ _ _ _ _ _ _ _ _ _ _ _ _ _ _ _ _ _ _ _ _ _ _ _ _ _ _ _ _ _ _ _ _ _ _ _ _ _ _ _ _ _ _ _ _ _ _ _ _ _ _ _ _ _ _ _ _ _ _ _ _ _ _ _ _ _ _ _ _ _ _ _ _ _ _ _ _ _ _ _ _ _ _ _ _ _ _ _ _ _ _ _ _ _ _ _ _ _ _ _ _ _ _ _ _ _ _ _ _ _ _ _ _ _ _ _ _ _ _ _ _ _ _ _ _ _ _ _ _ _ _ _ _ _ _ _ _ _ _ _ _ _ _ _ _ _ _ _ _ _ _ _ _ _ _ _ _ _ _ _ _ _ _ _ _ _ _ _ _ hend hX hpg hg he h2 hx hel hn hxg hB hBX hN hL hLm
    · exact mto_own wx _ _ _ _ _ _ _ _ _ _ _ _ _ _ _ _ _ _ _ _ _ _ _ _ _ _ _ _ _ _ _ _ _ _ _ _ _ _ _ _ _ _ _ _ _ _ _ _ _ _ _ _ _ _ _ _ _ _ _ _ _ _ _ _ _ _ _ _ _ _ _ _ _ _ _ _ _ _ _ _ _ _ _ _ _ _ _ _ _ _ _ _ _ _ _ _ _ _ _ _ _ _ _ _ _ _ _ _ _ _ _ _ _ _ _ _ _ _ _ _ _ _ _ _ _ _ _ _ _ _ _ _ _ _ _ _ _ _ _ _ _ _ _ _ _ _ _ _ _ _ _ _ _ _ _ _ _ _ _ _ _ _ _ _ _ _ _ _ _ _ _ _ _ _ _ _ _ _ _ _ _ _ _ _ _ _ _ _ _ _ _ _ _ _ _ _ _ _ _ _ _ _ _ _ _ _ _ _ _ _ _ _ _ _ _ _ _ _ _ _ _ _ _ _ _ _ hend hX hpg hg he h1 h2 hx hel hn hxg hB hBX hN hL hLm
end Go.Proofs.YtdmnflngafbobaaDoor
namespace Go.Proofs.YtdmnflngafbobaaDoor
open Go.RowKit
set_option linter.unusedVariables false
set_option linter.unusedSimpArgs false
set_option maxRecDepth 100000

set_option maxHeartbeats 1600000 in
theorem mto_walk {p : Nat → Prop} {hd : Hd} {sv xv : Value} {off : Int} {g L : Nat} (w : World) (hS : Rd w p 1 sv hd.srcs.length (U32 hd.srcs)) (hX : XR w p xv hd.exts) (hpg : ∀ k, p k → k ≠ g)
    (hB : Buf w g [] (Z8 L)) (hg : Good hd) (hL : hsize hd ≤ L) (hLm : L ≤ 1099511627776) (hn : hd.exts.length ≤ 2147483647) (hdn : ∀ x ∈ hd.exts, x.data.length ≤ 2147483647) :
    Calls Tryd.prog 73 #[.agg (rcells hd sv xv off), .slice (some ⟨g, 0, none⟩) L L] w fun e w' => e = .returned (.tuple #[.int .i64 (hsize hd), Value.nilIface]) ∧ Buf w' g (outB hd) (Z8 (L - hsize hd)) ∧ Keep w w' (· = g) := by
  replace hS := hS.mono (q := fun k => k < w.heap.size ∧ k ≠ g) (fun k hk hp => ⟨hk, hpg k hp⟩)
  replace hX := hX.mono (q := fun k => k < w.heap.size ∧ k ≠ g) (fun k hk hp => ⟨hk, hpg k hp⟩)
  obtain ⟨A1, c1, rfl⟩ := hS.shape
  obtain ⟨A2, c2, rfl⟩ := hX.shape
  have H1 := hide hS
  have H2 := hide hX
  have HD := hide hdn
  have HG := hide hg
  have hgw := hB.lt
  have HB0 := hide hB
  have hs : hd.srcs.length ≤ 15 := hg.srcs
  have h12 : 12 + hd.srcs.length * 4 ≤ hsize hd := by unfold hsize; omega
  have hLi : ((hsize hd : Nat) : Int) ≤ (L : Int) := by omega
  have hL12 : (12 : Int) ≤ (L : Int) := by omega
  have hL4 : (4 : Int) ≤ (L : Int) := by omega
  have hL8 : (8 : Int) ≤ (L : Int) := by omega
  have hN2 : ¬ L = 2 := by omega
  have hN4 : ¬ L = 4 := by omega
  have hN8 : ¬ L = 8 := by omega
  have hv2 := hg.v
  have hM0 := fun (wa : World) (k : Keep w wa Nul) => msize_walk (off := off) wa (hS.keep0 k) (hX.keep0 k) (by omega) hn hdn
  have HM := hide hM0
  clear hS hX hdn hg hB hpg hM0
  have HRC : (rcells hd (.slice A1 hd.srcs.length c1) (.slice A2 hd.exts.length c2) off) = #[.int .u8 2, .bool hd.pad, .bool hd.ext, .bool hd.mark, .int .u8 hd.ty, .int .u16 hd.seq, .int .u32 hd.time, .int .u32 hd.ssrc, .slice A1 hd.srcs.length c1, .int .u16 hd.prof, .slice A2 hd.exts.length c2, .int .u8 hd.padn, .int .i64 off] := by unfold rcells; rw [hv2]
  rw [HRC]
  go_enter Tryd.func73, Tryd.ntmps73
  go_upto_region 1 with fail
  generalize hwa : World.alloc w _ = wa
  have BX := hide (show Blk wa w.heap.size 108 #[.int .u8 2, .bool hd.pad, .bool hd.ext, .bool hd.mark, .int .u8 hd.ty, .int .u16 hd.seq, .int .u32 hd.time, .int .u32 hd.ssrc, .slice A1 hd.srcs.length c1, .int .u16 hd.prof, .slice A2 hd.exts.length c2, .int .u8 hd.padn, .int .i64 off] by subst hwa; exact Blk.new w _ _)
  have KA := hide (show Keep w wa Nul by subst hwa; exact (Keep.refl w Nul).alloc _)
  have hM := hide (HM.out wa KA.out)
  have HRC := hide HRC
  generalize hv0 : Value.agg _ = v0
  have HV0 := hide hv0
  clear hwa hv0
  have x0 := BX.out.cell 0 (v := .int .u8 2) rfl
  have x1 := BX.out.cell 1 (v := .bool hd.pad) rfl
  have x2 := BX.out.cell 2 (v := .bool hd.ext) rfl
  have x3 := BX.out.cell 3 (v := .bool hd.mark) rfl
  have x4 := BX.out.cell 4 (v := .int .u8 hd.ty) rfl
  have x5 := BX.out.cell 5 (v := .int .u16 hd.seq) rfl
  have x6 := BX.out.cell 6 (v := .int .u32 hd.time) rfl
  have x7 := BX.out.cell 7 (v := .int .u32 hd.ssrc) rfl
  have x8 := BX.out.cell 8 (v := .slice A1 hd.srcs.length c1) rfl
  have x9 := BX.out.cell 9 (v := .int .u16 hd.prof) rfl
  have x10 := BX.out.cell 10 (v := .slice A2 hd.exts.length c2) rfl
  have x11 := BX.out.cell 11 (v := .int .u8 hd.padn) rfl
  have x12 := BX.out.cell 12 (v := .int .i64 off) rfl
  go_wp2_with fail
  refine Calls.mono (show Calls _ _ #[.agg #[.int .u8 2, .bool hd.pad, .bool hd.ext, .bool hd.mark, .int .u8 hd.ty, .int .u16 hd.seq, .int .u32 hd.time, .int .u32 hd.ssrc, .slice A1 hd.srcs.length c1, .int .u16 hd.prof, .slice A2 hd.exts.length c2, .int .u8 hd.padn, .int .i64 off]] _ _ from HRC.out ▸ hM.out) ?_
  rintro e w1 ⟨rfl, k1⟩
  have hzA := KA.out.size
  have lx := BX.out.lt
  have BX1 := hide (BX.out.keep k1 id)
  have K1 := hide (KA.out.trans0 k1)
  have BB1 := hide (HB0.out.keep K1.out id)
  clear k1 hM HM x0 x1 x2 x3 x4 x5 x6 x7 x8 x9 x10 x11 x12
  have z0 := BB1.out.zcell (k := 0) (by simp) (by simp; omega)
  have z1 := BB1.out.zcell (k := 1) (by simp) (by simp; omega)
  have fz := fun i => BB1.out.free i
  have lz := BB1.out.lt
  have lx1 := BX1.out.lt
  have hgx : g ≠ w.heap.size := by omega
  have x0 := BX1.out.cell 0 (v := .int .u8 2) rfl
  have x1 := BX1.out.cell 1 (v := .bool hd.pad) rfl
  have x2 := BX1.out.cell 2 (v := .bool hd.ext) rfl
  have x3 := BX1.out.cell 3 (v := .bool hd.mark) rfl
  have x4 := BX1.out.cell 4 (v := .int .u8 hd.ty) rfl
  have x8 := BX1.out.cell 8 (v := .slice A1 hd.srcs.length c1) rfl
  have eo := or_128 _ (show hd.srcs.length < 16 by omega)
  go_upto_if 37 with fail
  generalize hw2 : World.setCell w1 _ _ = w2
  have B2 := hide (show Buf w2 g [128 + (hd.srcs.length : Int)] (Z8 (L - 1)) by subst hw2; exact BB1.out.z1 (k := 0) (by omega) rfl (128 + (hd.srcs.length : Int)))
  have K2 := hide (show Keep w w2 (· = g) by subst hw2; exact (K1.out.nul (· = g)).setg _ (fun _ => rfl) _)
  have X2 := hide (show Blk w2 w.heap.size 108 #[.int .u8 2, .bool hd.pad, .bool hd.ext, .bool hd.mark, .int .u8 hd.ty, .int .u16 hd.seq, .int .u32 hd.time, .int .u32 hd.ssrc, .slice A1 hd.srcs.length c1, .int .u16 hd.prof, .slice A2 hd.exts.length c2, .int .u8 hd.padn, .int .i64 off] by subst hw2; exact BX1.out.far (p := ⟨g, 0, none⟩) (fun e => hgx e.symm) _)
  have Z2 := hide (show w2.heap.size = w1.heap.size by subst hw2; exact size_set1 _ _ _)
  have lz2 := B2.out.lt
  clear hw2 z0 z1 fz lz lx1 x0 x1 x2 x3 x4 x8 eo
  go_cut [4] (fun s4 wx => s4 = .int .i64 0 ∧ Buf wx g [128 + (hd.srcs.length : Int) + (if hd.pad then 32 else 0)] (Z8 (L - 1)) ∧ Keep w2 wx (· = g))
  case first =>
    have x1 := X2.out.cell 1 (v := .bool hd.pad) rfl
    cases hp : hd.pad
    · rw [hp] at x1
      go_wp2_with fail
      go_meet
      exact ⟨rfl, by simpa [hp] using B2.out, Keep.refl _ _⟩
    · rw [hp] at x1
      have eo := or_pad _ (show hd.srcs.length < 16 by omega)
      have y0 := B2.out.at_ (i := 0) (y := 128 + (hd.srcs.length : Int)) rfl
      have fz := fun i => B2.out.free i
      go_wp2_with fail
      go_meet
      refine ⟨rfl, ?_, Keep.set1 _ _ _ _⟩
      have := Buf.mid (d1 := []) (d2 := []) (k := 0) B2.out rfl (128 + (hd.srcs.length : Int) + 32)
      simpa [hp] using this
  case rest =>
  obtain ⟨w3, hw3⟩ : ∃ w3, w3 = wc := ⟨_, rfl⟩
  subst hw3
  obtain ⟨rfl, b3, k3⟩ := hcut
  have B3 := hide b3
  have K3 := hide (K2.out.trans k3 fun _ _ e => e)
  have X3 := hide (X2.out.keep k3 (fun e => hgx e.symm))
  have lz3 := b3.lt
  clear b3 k3 lz2
  have x2 := X3.out.cell 2 (v := .bool hd.ext) rfl
  go_upto_if 44 with fail
  go_cut [4] (fun s4 wx => s4 = .int .i64 0 ∧ Buf wx g [hb0 hd] (Z8 (L - 1)) ∧ Keep w3 wx (· = g))
  case first =>
    cases hp : hd.ext
    · rw [hp] at x2
      go_wp2_with fail
      go_meet
      refine ⟨rfl, ?_, Keep.refl _ _⟩
      have e : hb0 hd = 128 + (hd.srcs.length : Int) + (if hd.pad then 32 else 0) := by simp [hb0, hp]
      rw [e]; exact B3.out
    · rw [hp] at x2
      have y0 := B3.out.at_ (i := 0) rfl
      have fz := fun i => B3.out.free i
      have B3' := B3.out
      have HB3' := hide B3'
      clear B3'
      cases hq : hd.pad
      · have eo := or_ext0 _ (show hd.srcs.length < 16 by omega)
        rw [hq] at y0
        simp only [Bool.false_eq_true, if_false, Int.add_zero] at y0
        go_wp2_with fail
        go_meet
        refine ⟨rfl, ?_, Keep.set1 _ _ _ _⟩
        have e : hb0 hd = 128 + (hd.srcs.length : Int) + 16 := by simp [hb0, hp, hq]
        rw [e]; exact Buf.mid (d1 := []) (d2 := []) (k := 0) HB3'.out rfl _
      · have eo := or_ext1 _ (show hd.srcs.length < 16 by omega)
        rw [hq] at y0
        simp only [if_true] at y0
        go_wp2_with fail
        go_meet
        refine ⟨rfl, ?_, Keep.set1 _ _ _ _⟩
        have e : hb0 hd = 128 + (hd.srcs.length : Int) + 32 + 16 := by simp [hb0, hp, hq]
        rw [e]; exact Buf.mid (d1 := []) (d2 := []) (k := 0) HB3'.out rfl _
  case rest =>
  obtain ⟨w4, hw4⟩ : ∃ w4, w4 = wc := ⟨_, rfl⟩
  subst hw4
  obtain ⟨rfl, b4, k4⟩ := hcut
  have B4 := hide b4
  have K4 := hide (K3.out.trans k4 fun _ _ e => e)
  have X4 := hide (X3.out.keep k4 (fun e => hgx e.symm))
  have lz4 := b4.lt
  have z1 := b4.zcell (k := 1) (by simp) (by simp; omega)
  have fz := fun i => B4.out.free i
  have x4 := X4.out.cell 4 (v := .int .u8 hd.ty) rfl
  have x3 := X4.out.cell 3 (v := .bool hd.mark) rfl
  clear b4 k4 lz3 x2
  go_upto_if 55 with fail
  generalize hw5 : World.setCell w4 _ _ = w5
  have B5 := hide (show Buf w5 g [hb0 hd, hd.ty] (Z8 (L - 2)) by subst hw5; exact B4.out.z1 (k := 1) (by omega) rfl hd.ty)
  have K5 := hide (show Keep w w5 (· = g) by subst hw5; exact K4.out.setg _ (fun _ => rfl) _)
  have X5 := hide (show Blk w5 w.heap.size 108 #[.int .u8 2, .bool hd.pad, .bool hd.ext, .bool hd.mark, .int .u8 hd.ty, .int .u16 hd.seq, .int .u32 hd.time, .int .u32 hd.ssrc, .slice A1 hd.srcs.length c1, .int .u16 hd.prof, .slice A2 hd.exts.length c2, .int .u8 hd.padn, .int .i64 off] by subst hw5; exact X4.out.far (p := ⟨g, 1, none⟩) (fun e => hgx e.symm) _)
  have lz5 := B5.out.lt
  clear hw5 z1 fz x4 x3 lz4
  go_cut [4] (fun s4 wx => s4 = .int .i64 0 ∧ Buf wx g [hb0 hd, hb1 hd] (Z8 (L - 2)) ∧ Keep w5 wx (· = g))
  case first =>
    have x3 := X5.out.cell 3 (v := .bool hd.mark) rfl
    cases hp : hd.mark
    · rw [hp] at x3
      go_wp2_with fail
      go_meet
      refine ⟨rfl, ?_, Keep.refl _ _⟩
      have e : hb1 hd = hd.ty := by simp [hb1, hp]
      rw [e]; exact B5.out
    · rw [hp] at x3
      have eo : bits .or .u8 hd.ty 128 = hd.ty + 128 := or8' 7 _ _ HG.out.ok.ty.1 (by have := HG.out.ty; omega) (by decide) (by omega) (by have := HG.out.ty; omega) (by decide)
      have y1 := B5.out.at_ (i := 1) (y := hd.ty) rfl
      have fz := fun i => B5.out.free i
      go_wp2_with fail
      go_meet
      refine ⟨rfl, ?_, Keep.set1 _ _ _ _⟩
      have e : hb1 hd = hd.ty + 128 := by simp [hb1, hp]
      rw [e]; exact Buf.mid (d1 := [hb0 hd]) (d2 := []) (k := 1) B5.out rfl _
  case rest =>
  obtain ⟨w6, hw6⟩ : ∃ w6, w6 = wc := ⟨_, rfl⟩
  subst hw6
  obtain ⟨rfl, b6, k6⟩ := hcut
  have B6 := hide b6
  have K6 := hide (K5.out.trans k6 fun _ _ e => e)
  have X6 := hide (X5.out.keep k6 (fun e => hgx e.symm))
  have x5 := X6.out.drew.cell 5 (v := .int .u16 hd.seq) rfl
  clear b6 k6 lz5
  go_upto_region 12 with fail
  go_region_held3 (fun w' => w'.cell? ⟨w.heap.size, 5, none⟩ = some (.int .u16 hd.seq))
    (first | with_reducible exact x5 | with_reducible exact y5)
    (first
      | (go_at_call 104; refine (put16_walk B6.out.drew (by omega) (by decide) rfl HG.out.ok.seq).mono ?_; rintro e w7 ⟨rfl, b7, k7⟩; have B7 := hide b7; have K7 := hide (K6.out.drew.trans k7 fun _ _ e => e); have X7 := hide (X6.out.drew.keep k7 (fun e => hgx e.symm)); have y5 := X7.out.cell 5 (v := .int .u16 hd.seq) rfl; clear b7 k7))
  clear x5 y5
  have x6 := X7.out.drew.cell 6 (v := .int .u32 hd.time) rfl
  go_upto_region 13 with fail
  go_region_held3 (fun w' => w'.cell? ⟨w.heap.size, 6, none⟩ = some (.int .u32 hd.time))
    (first | with_reducible exact x6 | with_reducible exact y6)
    (first
      | (go_at_call 105; refine (put32_walk B7.out.drew (by omega) (by decide) rfl HG.out.ok.time).mono ?_; rintro e w8 ⟨rfl, b8, k8⟩; have B8_ := hide b8; have K8 := hide (K7.out.drew.trans k8 fun _ _ e => e); have X8 := hide (X7.out.drew.keep k8 (fun e => hgx e.symm)); have y6 := X8.out.cell 6 (v := .int .u32 hd.time) rfl; clear b8 k8))
  clear x6 y6
  have x7 := X8.out.drew.cell 7 (v := .int .u32 hd.ssrc) rfl
  go_upto_region 14 with fail
  go_region_held3 (fun w' => w'.cell? ⟨w.heap.size, 7, none⟩ = some (.int .u32 hd.ssrc))
    (first | with_reducible exact x7 | with_reducible exact y7)
    (first
      | (go_at_call 105; refine (put32_walk B8_.out.drew (by omega) (by decide) rfl HG.out.ok.ssrc).mono ?_; rintro e w9 ⟨rfl, b9, k9⟩; have B9 := hide b9; have K9 := hide (K8.out.drew.trans k9 fun _ _ e => e); have X9 := hide (X8.out.drew.keep k9 (fun e => hgx e.symm)); have y7 := X9.out.cell 7 (v := .int .u32 hd.ssrc) rfl; clear b9 k9))
  clear x7 y7
  have x8 := X9.out.cell 8 (v := .slice A1 hd.srcs.length c1) rfl
  go_wp2_with fail
  have lz9 := B9.out.lt
  obtain ⟨H12, hH⟩ : ∃ H12 : List Int, H12 = [hb0 hd, hb1 hd] ++ by16 hd.seq ++ by32 hd.time ++ by32 hd.ssrc := ⟨_, rfl⟩
  have hHl : H12.length = 12 := by rw [hH]; rfl
  have HH := hide hH
  have B9' := hide (show Buf w9 g H12 (Z8 (L - 12)) by rw [hH]; have := B9.out; rw [show L - 2 - 2 - 4 - 4 = L - 12 by omega] at this; exact this)
  clear hH
  have hfl : ∀ k, k ≤ hd.srcs.length → (H12 ++ (hd.srcs.take k).flatMap by32).length = 12 + 4 * k := fun k hk => by rw [List.length_append, hHl, by32s_len, List.length_take]; omega
  have HFL := hide hfl
  have HSO := hide HG.out.ok.srcs
  clear hfl
  go_loopw [4, 79] (fun s i wr => ∃ k N : Nat, k ≤ hd.srcs.length ∧ N = 12 + 4 * k ∧ i = .int .i64 k ∧ s = .int .i64 (N : Int) ∧ Buf wr g (H12 ++ (hd.srcs.take k).flatMap by32) (Z8 (L - N)) ∧ Keep w9 wr (· = g)) (fun _ i _ => hd.srcs.length - (intOf i).toNat)
  case atStart => exact ⟨0, 12, Nat.zero_le _, rfl, rfl, rfl, by simpa using B9'.out, Keep.refl _ _⟩
  case round =>
    obtain ⟨k, N, hk, hN, rfl, rfl, hB, hK⟩ := hrel
    by_cases hlt : k < hd.srcs.length
    · obtain ⟨b, o, c', hv, q1, q2, ⟨q3, q4⟩, q5, hc⟩ := H1.out.lit (by omega)
      injection hv with e1 _ e3
      subst e1 e3
      have hx : hd.srcs[k]? = some hd.srcs[k] := List.getElem?_eq_getElem _
      have hcx := hc k (.int .u32 hd.srcs[k]) (by simp [U32, hx])
      have hkw : Keep w wr (· = g) := K9.out.trans hK fun _ _ e => e
      have hcw := hkw.cell (by exact q4) hcx
      have hxo := HSO.out _ (List.mem_of_getElem? hx)
      have HX := hide hx
      clear hx hcx hc
      generalize hd.srcs[k] = x at *
      have HB := hide hB
      have HKr := hide hK
      have lzr := hB.lt
      have hn1 : ¬ L = N := by omega
      have hn2 : (N : Int) + 4 ≤ (L : Int) := by omega
      have hn3 : (N : Int) ≤ (L : Int) := by omega
      have hn4 : (0 : Int) ≤ (N : Int) := by omega
      have HN := hide hN
      clear hB hK hkw hN
      go_wp2_with fail
      refine (put32_walk HB.out (by omega) (by decide) (by rw [HFL.out k hk]; exact HN.out) hxo).mono ?_
      rintro e wy ⟨rfl, b1, k1⟩
      have HB1 := hide b1
      have HK1 := hide (HKr.out.trans k1 fun _ _ e => e)
      clear b1 k1
      go_wp2_with fail
      go_roundw
      case rel =>
        refine ⟨k + 1, N + 4, by omega, by have := HN.out; omega, by go_num, by go_num, ?_, HK1.out⟩
        obtain ⟨hk', e⟩ := List.getElem?_eq_some_iff.1 HX.out
        rw [List.take_succ_eq_append_getElem hk', e, List.flatMap_append, ← List.append_assoc, ← Nat.sub_sub]
        simpa using HB1.out
      case measure => simp [intOf]; omega
    · obtain rfl : k = hd.srcs.length := by omega
      rw [List.take_length, HH.out] at hB
      have hB' : Buf wr g (headB hd) (Z8 (L - N)) := by simpa [headB] using hB
      have HB := hide hB'
      have HKr := hide (K9.out.trans hK fun _ _ e => e)
      have XR := hide (X9.out.keep hK (fun e => hgx e.symm))
      have x2 := XR.out.cell 2 (v := .bool hd.ext) rfl
      have lzr := hB.lt
      clear hB hB' hK
      cases he : hd.ext
      · rw [he] at x2
        have hh : hsize hd = N := by unfold hsize; rw [he]; simp; omega
        have ho : outB hd = headB hd := by unfold outB; rw [he]; simp
        go_wp2_with fail
        go_ret2
        refine ⟨by rw [hh]; rfl, ?_, HKr.out⟩
        rw [hh, ho]
        exact HB.out
      · rw [he] at x2
        have x9 := XR.out.drew.cell 9 (v := .int .u16 hd.prof) rfl
        have hsz := hsize_ext he
        have hn1 : ¬ L = N := by omega
        have hn2 : (N : Int) + 2 ≤ (L : Int) := by omega
        have hn3 : (N : Int) ≤ (L : Int) := by omega
        have hn4 : (0 : Int) ≤ (N : Int) := by omega
        have hn5 : (N : Int) + 4 ≤ (L : Int) := by omega
        have HN := hide hN
        have HSZ := hide hsz
        clear hN hsz
        have hm2 : N + 2 ≤ L := by omega
        have hm3 : N ≤ L := by omega
        have hm4 : (N : Int) ≤ (N : Int) + 2 := by omega
        have hm5 : (0 : Int) ≤ (N : Int) + 2 := by omega
        have hm6 : ((N : Int) + 2).toNat = N + 2 := by omega
        have hw0 : IntKind.i64.wrap (N : Int) = (N : Int) := by rw [IntKind.wrap_i64]; omega
        have hw2 : IntKind.i64.wrap ((N : Int) + 2) = (N : Int) + 2 := by rw [IntKind.wrap_i64]; omega
        go_upto_region 24 with fail
        go_region_held3 (fun w' => w'.cell? ⟨w.heap.size, 9, none⟩ = some (.int .u16 hd.prof))
          (first | with_reducible exact x9 | with_reducible exact y9)
          (first
            | (go_at_call 104; refine (put16_walk HB.out.drew (by omega) (by decide) (by rw [headB_len]; exact HN.out) HG.out.ok.prof).mono ?_; rintro e wa1 ⟨rfl, b7, k7⟩; have BE1 := hide b7; have KE1 := hide (HKr.out.drew.trans k7 fun _ _ e => e); have XE1 := hide (XR.out.drew.keep k7 (fun e => hgx e.symm)); have y9 := XE1.out.cell 9 (v := .int .u16 hd.prof) rfl; clear b7 k7))
        have hBE1 := BE1.out
        have hKE1 := KE1.out
        have hszx := hsize_ext he
        obtain ⟨e, hx, hel⟩ := HG.out.ext he
        have hXw := H2.out.keep hKE1 (fun i hi hp e => hp.2 e)
        have hBXw : Blk wa1 w.heap.size 108 (rcells hd (.slice A1 hd.srcs.length c1) (.slice A2 hd.exts.length c2) off) := by rw [HRC.out]; rw [he] at XE1 ⊢; exact XE1.out
        have HBE1 := hide (show Buf wa1 g (headB hd ++ by16 hd.prof) (Z8 (L - N - 2)) from hBE1)
        have HKE1 := hide hKE1
        have HSX := hide hszx
        have HXW := hide hXw
        have HBXW := hide hBXw
        have HEX := hide hx
        have hgx' : w.heap.size ≠ g := fun e => hgx e.symm
        clear hBE1 hKE1 hszx hXw hBXw hx BE1 KE1 XE1 y9 x9
        go_upto_region 25 with fail
        refine part_use (mto_ext (N := N) (x := w.heap.size) (sv := .slice A1 hd.srcs.length c1) (off := off) (p := fun k => k < w.heap.size ∧ k ≠ g) wa1 _ _ _ _ _ _ _ _ _ _ _ _ _ _ _ _ _ _ _ _ _ _ _ _ _ _ _ _ _ _ _ _ _ _ _ _ _ _ _ _ _ _ _ _ _ _ _ _ _ _ _ _ _ _ _ _ _ _ _ _ _ _ _ _ _ _ _ _ _ _ _ _ _ _ _ _ _ _ _ _ _ _ _ _ _ _ _ _ _ _ _ _ _ _ _ _ _ _ _ _ _ _ _ _ _ _ _ _ _ _ _ _ _ _ _ _ _ _ _ _ _ _ _ _ _ _ _ _ _ _ _ _ _ _ _ _ _ _ _ _ _ _ _ _ _ _ _ _ _ _ _ _ _ _ _ _ _ _ _ _ _ _ _ _ _ _ _ _ _ _ _ _ _ _ _ _ _ _ _ _ _ _ _ _ _ _ _ _ _ _ _ _ _ _ _ _ _ _ _ _ _ _ _ _ _ _ _ _ _ _ _ _ _ _ _ _ _ _ _ _ _ _ _ _ _ _ ?_ HXW.out (fun k hp => hp.2) HG.out he HEX.out hel hn hgx' HBE1.out HBXW.out HN.out (by omega) hLm) rfl rfl (by assumption)
        intro v0 v1 v2 v3 v6 v7 v8 v9 v10 v11 v12 v13 v14 v15 v16 v17 v18 v19 v20 v21 v22 v23 v24 v25 v26 v27 v28 v29 v30 v31 v32 v33 v34 v35 v36 v37 v38 v39 v40 v41 v42 v43 v44 v45 v46 v47 v48 v49 v50 v51 v52 v53 v54 v55 v56 v57 v58 v59 v60 v61 v62 v63 v64 v65 v66 v67 v68 v69 v70 v71 v72 v73 v74 v75 v76 v77 v78 v79 v80 v81 v82 v83 v84 v85 v86 v87 v88 v89 v90 v91 v92 v93 v94 v95 v96 v97 v98 v99 v100 v101 v102 v103 v104 v105 v106 v107 v108 v109 v110 v111 v112 v113 v114 v115 v116 v117 v118 v119 v120 v121 v122 v123 v124 v125 v126 v127 v128 v129 v130 v131 v132 v133 v134 v135 v136 v137 v138 v139 v140 v141 v142 v143 v144 v145 v146 v147 v148 v149 v150 v151 v152 v153 v154 v155 v156 v157 v158 v159 v160 v161 v162 v163 v164 v165 v166 v167 v168 v169 v170 v171 v172 v173 v174 v175 v176 v177 v178 v179 v180 v181 v182 v183 v184 v185 v186 v187 v188 v189 v190 v191 v192 v193 v194 v195 v196 v197 v198 v199 v200 v201 v202 v203 v204 v205 v206 v207 v208 v209 v210 v211 v212 v213 v214 v215 v216 v217 v218 v219 v220 v221 v222 v223 v224 v225 v226 v227 v228 v229 v230 w' b kk
        have HBF := hide b
        have HKF := hide (HKE1.out.trans kk fun _ _ e => e)
        clear b kk
        go_wp2_with fail
        go_ret2
        exact ⟨rfl, HBF.out, HKF.out⟩
end Go.Proofs.YtdmnflngafbobaaDoor
namespace Go.Proofs.YtdmnflngafbobaaDoor
open Go.RowKit
set_option linter.unusedVariables false
set_option linter.unusedSimpArgs false
set_option maxRecDepth 100000

theorem hsize_out {hd : Hd} (hg : Good hd) : hsize hd = (outB hd).length := by
  have hl := headB_len hd
  cases he : hd.ext
  · simp [hsize, outB, he, hl]; omega
  · obtain ⟨e, hx, hel⟩ := hg.ext he
    have h4 := extsB_len hx
    have hb : ∀ x, (by16 x).length = 2 := fun _ => rfl
    have e1 : (e.length : Nat) = (xsize hd + 3) / 4 * 4 := by
      unfold extsB at hx
      split at hx
      · cases hx
      · split at hx
        · rename_i h1
          unfold own1 at hx
          split at hx
          · rename_i x' hxx
            split at hx
            · rename_i h
              injection hx with hx
              have : xsize hd = x'.data.length := by simp [xsize, h1.1, h1.2, hxx]
              rw [this, ← hx]
              have := h.2
              omega
            · cases hx
          · cases hx
        · rename_i h1
          split at hx
          · injection hx with hx
            have e2 : xsize hd = (xsb hd.prof hd.exts).length := by
              by_cases q : hd.prof = 48862
              · rw [q, xsum_one]; simp [xsize, q]
              · have q2 : hd.prof = 4096 := by
                  by_cases q2 : hd.prof = 4096
                  · exact q2
                  · exact absurd ⟨q, q2⟩ h1
                rw [q2, xsum_two]; simp [xsize, q2]
            rw [e2, ← hx]
            simp [pad4]
            omega
          · cases hx
    rw [out_ext he hx]
    unfold hsize
    simp only [he, if_true, List.length_append, hl, hb, e1]
    omega
theorem hsize_le {hd : Hd} (hg : Good hd) : hsize hd ≤ 262216 := by
  rw [hsize_out hg]
  have hl := headB_len hd
  have hs := hg.srcs
  have hb : ∀ x, (by16 x).length = 2 := fun _ => rfl
  cases he : hd.ext
  · simp [outB, he, hl]; omega
  · obtain ⟨e, hx, hel⟩ := hg.ext he
    rw [out_ext he hx]
    simp only [List.length_append, hl, hb]
    omega

/-- impl.try of a function that writes into one block that was there. -/
theorem try_out {k : FuncId} {cap : Array Value} {b : Bool} {g2 : Nat} {w : World} {R : World → Prop} (hk : ∀ w, (callFunc k cap).run Tryd.prog w = .ok (.enter k cap) w) (hg2 : g2 < w.heap.size)
    (hR : ∀ w1 w2, R w1 → Keep w1 w2 (· = w.heap.size) → R w2)
    (hc : Calls Tryd.prog k cap (w.alloc (.cells #[.bool false] 4)) fun e w' => e = .returned (.bool b) ∧ Keep (w.alloc (.cells #[.bool false] 4)) w' (· = g2) ∧ R w') :
    Calls Tryd.prog 52 #[.func (.func k) #[] cap] w fun e w' => e = .returned (.bool b) ∧ Keep w w' (· = g2) ∧ R w' :=
  try_keep k cap b (fun w' => Keep w w' (· = g2) ∧ R w') w hk (fun w1 w2 ⟨h1, h2⟩ k => ⟨h1.trans k (fun i hi e => by omega), hR w1 w2 h2 k⟩)
    (hc.mono fun e w' ⟨he, h1, h2⟩ => ⟨he, (Blk.new w _ _).keep h1 (by omega), ((Keep.refl w _).alloc _).trans h1 fun _ _ e => e, h2⟩)

set_option maxHeartbeats 1600000 in
theorem marshal_walk {p : Nat → Prop} {hd : Hd} {sv xv : Value} {off : Int} (w : World) (hS : Rd w p 1 sv hd.srcs.length (U32 hd.srcs)) (hX : XR w p xv hd.exts) (hg : Good hd) (hn : hd.exts.length ≤ 2147483647) (hdn : ∀ x ∈ hd.exts, x.data.length ≤ 2147483647) :
    Calls Tryd.prog 55 #[.agg (rcells hd sv xv off)] w fun e w' => ∃ g c, e = .returned (.tuple #[.slice (some ⟨g, 0, none⟩) (outB hd).length c, .nilIface]) ∧
      Own w' w.heap.size 5 1 (.slice (some ⟨g, 0, none⟩) (outB hd).length c) (outB hd).length (B8 (outB hd)) ∧ Keep w w' Nul := by
  replace hS := hS.mono (q := (· < w.heap.size)) (fun k hk _ => hk)
  replace hX := hX.mono (q := (· < w.heap.size)) (fun k hk _ => hk)
  have hs : hd.srcs.length ≤ 2147483647 := by have := hg.srcs; omega
  have hsz := hsize_le hg
  have hso := hsize_out hg
  have hM0 := fun (wa : World) (k : Keep w wa Nul) => msize_walk (off := off) wa (hS.keep0 k) (hX.keep0 k) hs hn hdn
  have hT0 := fun (wa : World) (g : Nat) (k : Keep w wa Nul) (hB : Buf wa g [] (Z8 (hsize hd))) (hgw : w.heap.size ≤ g) => mto_walk (off := off) wa (hS.keep0 k) (hX.keep0 k) (fun k hk => by omega) hB hg (Nat.le_refl _) (by omega) hn hdn
  have HM := hide hM0
  have HT := hide hT0
  have HSO := hide hso
  have HHN := hide hdn
  obtain ⟨A1, c1, rfl⟩ := hS.shape
  obtain ⟨A2, c2, rfl⟩ := hX.shape
  clear hS hX hM0 hT0 hso hdn
  have HRC : (rcells hd (.slice A1 hd.srcs.length c1) (.slice A2 hd.exts.length c2) off) = #[.int .u8 hd.v, .bool hd.pad, .bool hd.ext, .bool hd.mark, .int .u8 hd.ty, .int .u16 hd.seq, .int .u32 hd.time, .int .u32 hd.ssrc, .slice A1 hd.srcs.length c1, .int .u16 hd.prof, .slice A2 hd.exts.length c2, .int .u8 hd.padn, .int .i64 off] := rfl
  have mkB := run_mk etB (hsize hd) (by omega) (by omega)
  have MKB := hide mkB
  clear mkB
  rw [HRC]
  go_enter Tryd.func55, Tryd.ntmps55
  go_upto_region 1 with fail
  generalize hwa : World.alloc w _ = wa
  have BX := hide (show Blk wa w.heap.size 108 (rcells hd (.slice A1 hd.srcs.length c1) (.slice A2 hd.exts.length c2) off) by subst hwa; exact Blk.new w _ _)
  have KA := hide (show Keep w wa Nul by subst hwa; exact (Keep.refl w Nul).alloc _)
  generalize hv0 : Value.agg _ = v0
  clear hwa hv0
  have XOf : ∀ w', Blk w' w.heap.size 108 (rcells hd (.slice A1 hd.srcs.length c1) (.slice A2 hd.exts.length c2) off) → (w'.cell? ⟨w.heap.size, 0, none⟩ = some (.int .u8 hd.v) ∧ w'.cell? ⟨w.heap.size, 1, none⟩ = some (.bool hd.pad) ∧ w'.cell? ⟨w.heap.size, 2, none⟩ = some (.bool hd.ext) ∧ w'.cell? ⟨w.heap.size, 3, none⟩ = some (.bool hd.mark) ∧ w'.cell? ⟨w.heap.size, 4, none⟩ = some (.int .u8 hd.ty) ∧ w'.cell? ⟨w.heap.size, 5, none⟩ = some (.int .u16 hd.seq) ∧ w'.cell? ⟨w.heap.size, 6, none⟩ = some (.int .u32 hd.time) ∧ w'.cell? ⟨w.heap.size, 7, none⟩ = some (.int .u32 hd.ssrc) ∧ w'.cell? ⟨w.heap.size, 8, none⟩ = some (.slice A1 hd.srcs.length c1) ∧ w'.cell? ⟨w.heap.size, 9, none⟩ = some (.int .u16 hd.prof) ∧ w'.cell? ⟨w.heap.size, 10, none⟩ = some (.slice A2 hd.exts.length c2) ∧ w'.cell? ⟨w.heap.size, 11, none⟩ = some (.int .u8 hd.padn) ∧ w'.cell? ⟨w.heap.size, 12, none⟩ = some (.int .i64 off)) := fun w' h => ⟨h.cell 0 rfl, h.cell 1 rfl, h.cell 2 rfl, h.cell 3 rfl, h.cell 4 rfl, h.cell 5 rfl, h.cell 6 rfl, h.cell 7 rfl, h.cell 8 rfl, h.cell 9 rfl, h.cell 10 rfl, h.cell 11 rfl, h.cell 12 rfl⟩
  have XO := hide XOf
  clear XOf
  have HM1 := hide (HM.out wa KA.out)
  obtain ⟨x0, x1, x2, x3, x4, x5, x6, x7, x8, x9, x10, x11, x12⟩ := XO.out _ BX.out
  go_wp2_with fail
  refine Calls.mono (show Calls _ _ #[.agg (rcells hd (.slice A1 hd.srcs.length c1) (.slice A2 hd.exts.length c2) off)] _ _ from HM1.out) ?_
  rintro e w1 ⟨rfl, k1⟩
  have BX1 := hide (BX.out.keep k1 id)
  have K1 := hide (KA.out.trans0 k1)
  clear x0 x1 x2 x3 x4 x5 x6 x7 x8 x9 x10 x11 x12 k1
  have mkB := MKB.out
  simp only [Nat.mul_one] at mkB
  go_upto_region 2 with fail
  generalize hw2 : World.alloc w1 _ = w2
  have KZ := K1.out.size
  have BB := hide (show Buf w2 w1.heap.size [] (Z8 (hsize hd)) by subst hw2; exact Buf.mk' (Blk.new w1 _ _))
  have K2 := hide (show Keep w w2 Nul by subst hw2; exact K1.out.alloc _)
  have BX2 := hide (show Blk w2 w.heap.size 108 (rcells hd (.slice A1 hd.srcs.length c1) (.slice A2 hd.exts.length c2) off) by subst hw2; exact BX1.out.alloc _)
  clear hw2 mkB
  obtain ⟨x0, x1, x2, x3, x4, x5, x6, x7, x8, x9, x10, x11, x12⟩ := XO.out _ BX2.out
  have HT1 := hide (HT.out w2 w1.heap.size K2.out BB.out KZ)
  go_wp2_with fail
  refine Calls.mono (show Calls _ _ #[.agg (rcells hd (.slice A1 hd.srcs.length c1) (.slice A2 hd.exts.length c2) off), _] _ _ from HT1.out) ?_
  rintro e w3 ⟨rfl, b3, k3⟩
  have B3 := hide b3
  have K3 := hide (K2.out.trans k3 fun i hi e => by omega)
  clear x0 x1 x2 x3 x4 x5 x6 x7 x8 x9 x10 x11 x12 b3 k3
  go_wp2_with fail
  go_ret2
  have b3 := B3.out
  rw [Nat.sub_self] at b3
  have ho := b3.own (B := w.heap.size) (n := hsize hd) (cap := hsize hd) KZ HSO.out (by rw [HSO.out]; simp [Z8_len]) (by simp only [maxLen]; omega)
  rw [← HSO.out]
  exact ⟨_, _, rfl, ho, K3.out⟩
end Go.Proofs.YtdmnflngafbobaaDoor
